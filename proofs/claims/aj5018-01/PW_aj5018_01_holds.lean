import PyProof.Rows.All
import Wide.All
import OpenK.AllK
import Wide.FinOn
import PySem.Challenge.RW_aj5018_01
open PySem PySem.W PySem.Calls PyProof.Rows
set_option Elab.async false
set_option rowWalk.seconds 0
set_option maxRecDepth 100000
set_option maxHeartbeats 8000000
namespace Mine
open_top hd for PySem.Challenge.rw_aj5018_01
end Mine
namespace Mine
abbrev Led := List (Addr × Obj)
/-- the object stands at D: written at the top, or on the ledger -/
def Has (w : World) (led : Led) (D : Addr) (o : Obj) : Prop := (Mine.hd.heap_39 w.params).lookup D = some o ∨ (D, o) ∈ led
abbrev tupO (vs : List Value) : Obj := { cls := .type "tuple", data := .seq vs.toArray }
section
variable {w : World} {g h : Heap} {led new : Led} {D L : Addr} {o : Obj} {m : Str → Option Value} {q : Addr × Obj}
theorem Has.get (x : Has w led D o) (F : Fr g L h m) (X : (Mine.hd.heap_39 w.params).In g) (N : News g L h led) : h.get? D = some o :=
  x.elim (fun e => F.keep _ _ (X _ _ e)) fun y => (N _ y).1
theorem Has.here : Has w ((D, o) :: led) D o := .inr (List.mem_cons_self ..)
theorem Has.cons (x : Has w led D o) : Has w (q :: led) D o := x.imp id (List.mem_cons_of_mem _)
theorem Has.sub (s : ∀ p ∈ led, p ∈ new) (x : Has w led D o) : Has w new D o := x.imp id (s _)
theorem Has.tup {vs : List Value} (F : Fr g L h m) (X : (Mine.hd.heap_39 w.params).In g) (N : News g L h led) (x : Has w led D (tupO vs)) : IsTup h D vs.toArray :=
  ⟨_, x.get F X N, rfl, _, rfl⟩
theorem sub_refl : ∀ p ∈ led, p ∈ led := fun _ h => h
theorem sub_cons {led' : Led} (s : ∀ p ∈ led, p ∈ led') : ∀ p ∈ led, p ∈ q :: led' := fun _ h => List.mem_cons_of_mem _ (s _ h)
theorem sub_trans {led' led'' : Led} (s' : ∀ p ∈ led', p ∈ led'') (s : ∀ p ∈ led, p ∈ led') : ∀ p ∈ led, p ∈ led'' := fun _ h => s' _ (s _ h)
end
structure Mpf where
  s : Int
  m : Int
  e : Int
  b : Int
deriving DecidableEq
abbrev mpfO (x : Mpf) (t1 t2 t3 t4 : Tok) : Obj := tupO [.int x.s t1, .int x.m t2, .int x.e t3, .int x.b t4]
def IsMpf (w : World) (led : Led) (v : Value) (x : Mpf) : Prop := ∃ D t1 t2 t3 t4, v = .ref D ∧ Has w led D (tupO [.int x.s t1, .int x.m t2, .int x.e t3, .int x.b t4])
abbrev prg : Program := PySem.Challenge.rw_aj5018_01.row.prog
def Ctr (w : World) (f : Addr) (r : Nat) (vs : List Value) (Pre : Heap → Led → Prop) (Post : Led → Value → Prop) : Prop :=
  ∀ (dp un : Nat) (gd : Option (List Code)) (cn : Str) (cs : Scope) (a : Addr) (ccd : Value) (cl : List (Str × Addr)) (outer : List Env) (A₀ : Around) (base h₀ : Heap) (L : Addr) (m : Str → Option Value) (led : Led) (s : Shared)
    (p : Program) (loose : List Str) (mean : ExcName → Option Value) (mg mb : Str → Option Value) (Q E : Value → Shared → Prop),
    Below A₀ base outer h₀ → Fr h₀ L s.heap m → (Mine.hd.heap_39 w.params).In h₀ → News h₀ L s.heap led → Top p loose mean mg mb h₀ → cs.kind = .function → dp + r < recursionLimit → un + 8 * r < cLine → Pre base led →
    (∀ v h' tk' led', Fr h₀ L h' m → News h₀ L h' led' → (∀ p ∈ led, p ∈ led') → Post led' v → Q v { s with heap := h', toks := tk' }) →
    wpAny (model PySem.Challenge.rw_aj5018_01.row.prog w) (ktrTop dp un gd cn cs L a ccd cl outer) (call (.ref f) vs) Q E s
/-- what stands at the body's end -/
def Fin (g : Heap) (L : Addr) (s : Shared) (led : Led) (Post : Led → Value → Prop) (v : Value) (s' : Shared) : Prop :=
  ∃ m' led', Fr g L s'.heap m' ∧ News g L s'.heap led' ∧ (∀ p ∈ led, p ∈ led') ∧ Post led' v ∧ s' = { s with heap := s'.heap, toks := s'.toks }
def mapOf (binds : List (Str × Value)) : Str → Option Value := fun y => binds.reverse.lookup y

theorem enter {w : World} {f : Addr} {r : Nat} {vs : List Value} {Pre : Heap → Led → Prop} {Post : Led → Value → Prop} {name qual : Str} {params : Arguments} {body : List Stmt} {scope : Scope}
    {dV kV doc pm cdv ct oc : Value} {an od : Option Addr} {osl : Array (Option Value)} {binds : List (Str × Value)}
    (ho : (Mine.hd.heap_39 w.params).lookup f = some ⟨oc, od, .func (fnOf name qual params body scope dV kV doc pm an cdv ct), osl⟩) (hcd : codeIn (Mine.hd.heap_39 w.params) cdv qual = true)
    (hbind : ∀ S, peek (Mine.hd.heap_39 w.params) S (bindArgs (fnOf name qual params body scope dV kV doc pm an cdv ct) ⟨vs, []⟩) = some binds)
    (hloc : ∀ y ∈ binds, scope.names.lookup y.1 = some .local) (hcell : ∀ x ∈ scope.names, x.2 ≠ .cell)
    (hco : scope.isCoroutine = false) (hgen : scope.isGenerator = false) (hk : scope.kind = .function)
    (h : ∀ (dp un : Nat) (gd : Option (List Code)) (outer : List Env) (A₀ : Around) (base g : Heap) (L : Addr) (led : Led) (s : Shared) (p : Program) (loose : List Str) (mean : ExcName → Option Value) (mg mb : Str → Option Value),
      Below A₀ base outer g → Fr g L s.heap (mapOf binds) → (Mine.hd.heap_39 w.params).In g → News g L s.heap led → Top p loose mean mg mb g → dp + r < recursionLimit → un + 8 * r < cLine → Pre base led →
      wpAny (model PySem.Challenge.rw_aj5018_01.row.prog w) (ktrTop dp un gd qual scope L f cdv [] outer) (execs body (envOf qual scope L f cdv))
        (fun fl s' => Fin g L s led Post (match fl with | .ret v => v | _ => .none) s') (fun _ _ => False) s) :
    Ctr w f (r + 1) vs Pre Post := by
  intro dp un gd cn cs a ccd cl outer A₀ base h₀ L m led s p loose mean mg mb Q E B F X N T hk' hd hu hpre hret
  refine wpAny_call (code_def (env := envX cn cs L a ccd cl) (outer := outer) (binds := binds) B F X N T rfl rfl hk' ho hcd ?_ (kp_binds (X.keeps F.keep) hbind) hloc (fun g L' h₁ FG F' N' B' X' T' => ?_) hco hgen hk hcell)
  · show dp < recursionLimit
    omega
  · have hwalk := h (dp + 1) (un + 3) gd (envX cn cs L a ccd cl :: outer) _ base g L' led { s with heap := h₁, toks := s.toks + binds.length } p loose mean mg mb B' F' X' N' T' (by omega) (by omega) hpre
    refine wpAny_mono hwalk (fun fl s' hf => ?_) fun _ _ x => x.elim
    obtain ⟨m', led', F2, N2, hs, hp, e⟩ := hf
    refine leaveK_ F2 N2 fun F3 N3 => ?_
    rw [e]
    rw [e] at F3 N3
    exact hret _ _ _ _ F3 N3 hs hp
end Mine
/-! part Plain -/
namespace Mine
/-! plain numbers: no program in sight -/
def blen (n : Nat) : Nat := if n = 0 then 0 else n.log2 + 1
theorem blen_zero : blen 0 = 0 := rfl
theorem blen_pos {n : Nat} (h : n ≠ 0) : blen n = n.log2 + 1 := if_neg h
theorem blen_le_iff {n k : Nat} : blen n ≤ k ↔ n < 2 ^ k := by
  by_cases h : n = 0
  · subst h; exact ⟨fun _ => Nat.two_pow_pos k, fun _ => Nat.zero_le _⟩
  · rw [blen_pos h, Nat.succ_le_iff, Nat.log2_lt h]
theorem lt_two_blen (n : Nat) : n < 2 ^ blen n := blen_le_iff.mp (Nat.le_refl _)
theorem two_blen_le {n : Nat} (h : n ≠ 0) : 2 ^ (blen n - 1) ≤ n := by
  rw [blen_pos h]; exact Nat.log2_self_le h
theorem blen_ge_iff {n k : Nat} : k < blen n ↔ 2 ^ k ≤ n := by
  have := @blen_le_iff n k
  omega
theorem blen_eq {n k : Nat} (h1 : 2 ^ k ≤ n) (h2 : n < 2 ^ (k + 1)) : blen n = k + 1 := by
  have a := blen_ge_iff.mpr h1
  have b := blen_le_iff.mpr h2
  omega
theorem blen_mul_two_pow {n : Nat} (h : n ≠ 0) (k : Nat) : blen (n * 2 ^ k) = blen n + k := by
  have h1 := two_blen_le h
  have h2 := lt_two_blen n
  have hb : 1 ≤ blen n := by rw [blen_pos h]; omega
  have := blen_eq (n := n * 2 ^ k) (k := blen n - 1 + k) (by rw [Nat.pow_add]; exact Nat.mul_le_mul_right _ h1)
    (by rw [show blen n - 1 + k + 1 = blen n + k by omega, Nat.pow_add]; exact Nat.mul_lt_mul_of_pos_right h2 (Nat.two_pow_pos k))
  omega
theorem blen_mono {a b : Nat} (h : a ≤ b) : blen a ≤ blen b := blen_le_iff.mpr (Nat.lt_of_le_of_lt h (lt_two_blen b))
theorem blen_mul_le (a b : Nat) : blen (a * b) ≤ blen a + blen b := by
  refine blen_le_iff.mpr ?_
  rw [Nat.pow_add]
  exact Nat.mul_lt_mul'' (lt_two_blen a) (lt_two_blen b)
theorem blen_pow_le (a : Nat) : ∀ k, blen (a ^ k) ≤ blen a * k + 1
  | 0 => by rw [Nat.pow_zero, Nat.mul_zero]; decide
  | k + 1 => by
    rw [Nat.pow_succ]
    have := blen_mul_le (a ^ k) a
    have := blen_pow_le a k
    rw [Nat.mul_succ]
    omega

/-- trailing noughts -/
def tzF : Nat → Nat → Nat
  | 0, _ => 0
  | f + 1, n => if n % 2 = 1 then 0 else tzF f (n / 2) + 1
def tz (n : Nat) : Nat := if n = 0 then 0 else tzF n n
def od (n : Nat) : Nat := n / 2 ^ tz n
theorem tzF_spec : ∀ f n, n ≠ 0 → n ≤ f → ∃ o, o % 2 = 1 ∧ n = o * 2 ^ tzF f n
  | 0, n, h, hf => absurd (Nat.le_zero.mp hf) h
  | f + 1, n, h, hf => by
    unfold tzF
    by_cases h1 : n % 2 = 1
    · rw [if_pos h1]; exact ⟨n, h1, by simp⟩
    · rw [if_neg h1]
      obtain ⟨o, ho, e⟩ := tzF_spec f (n / 2) (by omega) (by omega)
      refine ⟨o, ho, ?_⟩
      rw [Nat.pow_succ, ← Nat.mul_assoc, ← e]
      omega
theorem od_spec {n : Nat} (h : n ≠ 0) : od n % 2 = 1 ∧ n = od n * 2 ^ tz n := by
  unfold od tz
  rw [if_neg h]
  obtain ⟨o, ho, e⟩ := tzF_spec n n h (Nat.le_refl _)
  have : n / 2 ^ tzF n n = o := by
    conv => lhs; arg 1; rw [e]
    exact Nat.mul_div_cancel _ (Nat.two_pow_pos _)
  rw [this]
  exact ⟨ho, e⟩
theorem odd_uniq : ∀ (i j a b : Nat), a % 2 = 1 → b % 2 = 1 → a * 2 ^ i = b * 2 ^ j → a = b ∧ i = j
  | 0, 0, a, b, _, _, h => ⟨by simpa using h, rfl⟩
  | 0, j + 1, a, b, ha, _, h => by
    exfalso
    rw [Nat.pow_zero, Nat.mul_one, Nat.pow_succ, ← Nat.mul_assoc] at h
    omega
  | i + 1, 0, a, b, _, hb, h => by
    exfalso
    rw [Nat.pow_zero, Nat.mul_one, Nat.pow_succ, ← Nat.mul_assoc] at h
    omega
  | i + 1, j + 1, a, b, ha, hb, h => by
    rw [Nat.pow_succ, Nat.pow_succ, ← Nat.mul_assoc, ← Nat.mul_assoc] at h
    obtain ⟨e1, e2⟩ := odd_uniq i j a b ha hb (Nat.eq_of_mul_eq_mul_right (by decide) h)
    exact ⟨e1, by rw [e2]⟩
theorem od_tz_of {n a k : Nat} (ha : a % 2 = 1) (h : n = a * 2 ^ k) : od n = a ∧ tz n = k := by
  have hn : n ≠ 0 := by
    intro h0
    have : a * 2 ^ k ≠ 0 := Nat.mul_ne_zero (by omega) (Nat.ne_of_gt (Nat.two_pow_pos k))
    omega
  obtain ⟨h1, h2⟩ := od_spec hn
  exact odd_uniq _ _ _ _ h1 ha (h2.symm.trans h)
theorem od_of_odd {n : Nat} (h : n % 2 = 1) : od n = n ∧ tz n = 0 := od_tz_of h (by simp)
theorem od_scale {n : Nat} (h : n ≠ 0) (k : Nat) : od (n * 2 ^ k) = od n ∧ tz (n * 2 ^ k) = tz n + k := by
  obtain ⟨h1, h2⟩ := od_spec h
  refine od_tz_of h1 ?_
  rw [Nat.pow_add, ← Nat.mul_assoc, ← h2]
theorem od_pos {n : Nat} (h : n ≠ 0) : od n ≠ 0 := by have := (od_spec h).1; omega
theorem blen_od {n : Nat} (h : n ≠ 0) : blen n = blen (od n) + tz n := by
  obtain ⟨h1, h2⟩ := od_spec h
  conv => lhs; rw [h2]
  exact blen_mul_two_pow (od_pos h) _

/-- a sign, a mantissa, an exponent: the one tuple -/
def mkM (s : Int) (m : Nat) (e : Int) : Mpf := if m = 0 then ⟨0, 0, 0, 0⟩ else ⟨s, od m, e + tz m, blen (od m)⟩
theorem mkM_zero (s e : Int) : mkM s 0 e = ⟨0, 0, 0, 0⟩ := rfl
theorem mkM_ne {s e : Int} {m : Nat} (h : m ≠ 0) : mkM s m e = ⟨s, od m, e + tz m, blen (od m)⟩ := if_neg h
theorem mkM_scale (s e : Int) (m k : Nat) : mkM s (m * 2 ^ k) e = mkM s m (e + k) := by
  by_cases h : m = 0
  · subst h; rw [Nat.zero_mul]; rfl
  · have h' : m * 2 ^ k ≠ 0 := Nat.mul_ne_zero h (Nat.ne_of_gt (Nat.two_pow_pos k))
    obtain ⟨e1, e2⟩ := od_scale h k
    rw [mkM_ne h, mkM_ne h', e1, e2]
    congr 1
    omega

inductive Rnd where
  | n | f | c | d | u
deriving DecidableEq
inductive Md where
  | dn | up | nr
deriving DecidableEq
def Rnd.str : Rnd → Str
  | .n => Str.ofString "n"
  | .f => Str.ofString "f"
  | .c => Str.ofString "c"
  | .d => Str.ofString "d"
  | .u => Str.ofString "u"
def md (s : Int) : Rnd → Md
  | .n => .nr
  | .f => if s = 0 then .dn else .up
  | .c => if s = 0 then .up else .dn
  | .d => .dn
  | .u => .up
/-- A / B, rounded to a whole number -/
def rm (A B : Nat) : Md → Nat
  | .dn => A / B
  | .up => if A % B = 0 then A / B else A / B + 1
  | .nr => if 2 * (A % B) < B then A / B else if B < 2 * (A % B) then A / B + 1 else if A / B % 2 = 0 then A / B else A / B + 1
theorem rm_scale {c : Nat} (hc : 0 < c) (A B : Nat) (m : Md) : rm (A * c) (B * c) m = rm A B m := by
  have e1 : A * c / (B * c) = A / B := Nat.mul_div_mul_right _ _ hc
  have e2 : A * c % (B * c) = A % B * c := Nat.mul_mod_mul_right _ _ _
  have e3 : (A % B * c = 0) = (A % B = 0) := by simp [Nat.mul_eq_zero, Nat.ne_of_gt hc]
  have e4 : (2 * (A % B * c) < B * c) = (2 * (A % B) < B) := by rw [← Nat.mul_assoc]; exact propext (Nat.mul_lt_mul_right hc)
  have e5 : (B * c < 2 * (A % B * c)) = (B < 2 * (A % B)) := by rw [← Nat.mul_assoc]; exact propext (Nat.mul_lt_mul_right hc)
  cases m <;> simp only [rm, e1, e2, e3, e4, e5]
theorem rm_one (A : Nat) (m : Md) : rm A 1 m = A := by cases m <;> simp [rm, Nat.mod_one]
theorem rm_exact {B : Nat} (hB : 0 < B) (A : Nat) (m : Md) : rm (A * B) B m = A := by
  have := rm_scale hB A 1 m
  rw [Nat.one_mul, rm_one] at this
  exact this
/-- what normalize hands back -/
def nrm (s : Int) (m : Nat) (e : Int) (prec : Nat) (r : Rnd) : Mpf := mkM s (rm m (2 ^ (blen m - prec)) (md s r)) (e + ((blen m - prec : Nat) : Int))
end Mine
/-! part Bits -/
namespace Mine
/-! the model's bit words on plain numbers -/
theorem intBits_blen (x : Int) : Builtin.Int.intBits x = blen x.natAbs := by
  unfold Builtin.Int.intBits blen
  by_cases h : x = 0
  · subst h; rfl
  · have : (x == 0) = false := by simpa using h
    rw [this, if_neg (by simp), if_neg (by omega)]
theorem intBits_nat (n : Nat) : Builtin.Int.intBits (n : Int) = blen n := by rw [intBits_blen, Int.natAbs_natCast]
theorem and_pred_odd {o : Nat} (h : o % 2 = 1) : o &&& (o - 1) = o - 1 := by
  have e2 : (o - 1) / 2 = o / 2 := by omega
  have hd : (o &&& (o - 1)) / 2 = o / 2 := by rw [Nat.and_div_two, e2, Nat.and_self]
  have hm : ¬ (o &&& (o - 1)) % 2 = 1 := by
    rw [Nat.and_mod_two_eq_one]
    omega
  omega
theorem and_pred : ∀ (k o : Nat), o % 2 = 1 → (o * 2 ^ k) &&& (o * 2 ^ k - 1) = (o - 1) * 2 ^ k
  | 0, o, h => by simpa using and_pred_odd h
  | k + 1, o, h => by
    have ih := and_pred k o h
    have hp : 0 < o * 2 ^ k := Nat.mul_pos (by omega) (Nat.two_pow_pos k)
    rw [Nat.pow_succ, ← Nat.mul_assoc, ← Nat.mul_assoc]
    generalize o * 2 ^ k = m at ih hp
    have hd : (m * 2 &&& (m * 2 - 1)) / 2 = (o - 1) * 2 ^ k := by
      rw [Nat.and_div_two, show m * 2 / 2 = m by omega, show (m * 2 - 1) / 2 = m - 1 by omega, ih]
    have hm : ¬ (m * 2 &&& (m * 2 - 1)) % 2 = 1 := by
      rw [Nat.and_mod_two_eq_one]
      omega
    omega
theorem trailing_bits {n : Int} (h : 0 < n) : (Builtin.Int.intBits (Builtin.bitAnd n (-n)) : Int) - 1 = tz n.toNat := by
  obtain ⟨m, rfl⟩ : ∃ m : Nat, n = m := ⟨n.toNat, by omega⟩
  have hm : m ≠ 0 := by omega
  obtain ⟨h1, h2⟩ := od_spec hm
  have hand := and_pred (tz m) (od m) h1
  rw [← h2] at hand
  have e : Builtin.bitAnd (m : Int) (-(m : Int)) = ((2 ^ tz m : Nat) : Int) := by
    rw [PyProof.Rows.bitAnd_pn (by omega) (by omega)]
    have e1 : ((m : Int).toNat) = m := by omega
    have e2 : (Builtin.bitNot (-(m : Int))).toNat = m - 1 := by unfold Builtin.bitNot; omega
    rw [e1, e2, hand]
    have : m = (od m - 1) * 2 ^ tz m + 2 ^ tz m := by
      conv => lhs; rw [h2]
      rw [Nat.sub_mul, Nat.one_mul]
      have : 2 ^ tz m ≤ od m * 2 ^ tz m := Nat.le_mul_of_pos_left _ (by omega)
      omega
    omega
  rw [e, intBits_nat, show 2 ^ tz m = 1 * 2 ^ tz m by simp, blen_mul_two_pow (by decide)]
  have : blen 1 = 1 := rfl
  rw [Int.toNat_natCast]
  omega
end Mine
/-! part Use -/
namespace Mine
theorem use {w : World} {f : Addr} {r : Nat} {vs : List Value} {Pre : Heap → Led → Prop} {Post : Led → Value → Prop} {dp un : Nat} {gd : Option (List Code)} {cn : Str} {cs : Scope} {a : Addr} {ccd : Value} {cl : List (Str × Addr)} {outer : List Env} {A₀ : Around} {base h₀ : Heap} {L : Addr} {m : Str → Option Value} {led : Led} {s : Shared}
    {p : Program} {loose : List Str} {mean : ExcName → Option Value} {mg mb : Str → Option Value} {Q E : Value → Shared → Prop} (C : Ctr w f r vs Pre Post)
    (B : Below A₀ base outer h₀) (F : Fr h₀ L s.heap m) (X : (Mine.hd.heap_39 w.params).In h₀) (N : News h₀ L s.heap led) (T : Top p loose mean mg mb h₀) (hk : cs.kind = .function) (hd : dp + r < recursionLimit) (hu : un + 8 * r < cLine) (hp : Pre base led)
    (hret : ∀ v h' tk' led', Fr h₀ L h' m → News h₀ L h' led' → (∀ p ∈ led, p ∈ led') → Post led' v → Q v { s with heap := h', toks := tk' }) :
    wpAny (model PySem.Challenge.rw_aj5018_01.row.prog w) (ktrTop dp un gd cn cs L a ccd cl outer) (call (.ref f) vs) Q E s :=
  C _ _ _ _ _ _ _ _ _ _ _ _ _ _ _ _ _ _ _ _ _ _ _ B F X N T hk hd hu hp hret
theorem Rnd.str_inj {a b : Rnd} (h : a.str = b.str) : a = b := by
  have : ∀ a b : Rnd, a.str = b.str → a = b := by
    intro a b
    cases a <;> cases b <;> first | (intro _; rfl) | (intro h; exact absurd h (by decide))
  exact this a b h
theorem isR_n : Str.ofString "n" = Rnd.str .n := rfl
theorem isR_f : Str.ofString "f" = Rnd.str .f := rfl
theorem isR_c : Str.ofString "c" = Rnd.str .c := rfl
theorem isR_d : Str.ofString "d" = Rnd.str .d := rfl
theorem isR_u : Str.ofString "u" = Rnd.str .u := rfl
theorem isR (r : Rnd) : r.str = r.str := rfl
def sdA : Rnd → Addr
  | .n => 0
  | .f => 59
  | .c => 60
  | .d => 61
  | .u => 62
def sdV (sg : Int) : Rnd → Int
  | .n => 0
  | .f => if sg = 0 then 1 else 0
  | .c => if sg = 0 then 0 else 1
  | .d => 1
  | .u => 0
end Mine
/-! part Loc -/
namespace Mine
/-! a frame's locals by their places -/
def tm (ns : List Str) (vs : List (Option Value)) : Str → Option Value := fun y => ((ns.zip vs).lookup y).join
theorem tm_cons_ne {n x : Str} {ns : List Str} {v : Option Value} {vs : List (Option Value)} (h : x ≠ n) : tm (n :: ns) (v :: vs) x = tm ns vs x := by
  unfold tm
  rw [List.zip_cons_cons, List.lookup_cons]
  have : (x == n) = false := by simpa using h
  rw [this]
theorem tm_cons_eq {x : Str} {ns : List Str} {v : Option Value} {vs : List (Option Value)} : tm (x :: ns) (v :: vs) x = v := by
  unfold tm
  rw [List.zip_cons_cons, List.lookup_cons, beq_self_eq_true]; rfl
theorem tm_at : ∀ {ns : List Str} {vs : List (Option Value)} {i : Nat} {x : Str} {v : Option Value}, ns.Nodup → ns[i]? = some x → vs[i]? = some v → tm ns vs x = v
  | [], _, _, _, _, _, h, _ => by simp at h
  | _ :: _, [], _, _, _, _, _, h => by simp at h
  | n :: ns, v :: vs, 0, x, w, _, h1, h2 => by
    simp at h1 h2
    subst h1; subst h2
    exact tm_cons_eq
  | n :: ns, v :: vs, i + 1, x, w, hn, h1, h2 => by
    simp at h1 h2
    have hx : x ∈ ns := List.mem_of_getElem? h1
    rw [tm_cons_ne (by rintro rfl; exact (List.nodup_cons.mp hn).1 hx)]
    exact tm_at (List.nodup_cons.mp hn).2 h1 h2
theorem tm_set : ∀ {ns : List Str} {vs : List (Option Value)} {i : Nat} {x : Str} {v : Value}, ns.Nodup → ns[i]? = some x → i < vs.length → (fun y => if y = x then some v else tm ns vs y) = tm ns (vs.set i (some v))
  | [], _, _, _, _, _, h, _ => by simp at h
  | _ :: _, [], _, _, _, _, _, h => by simp at h
  | n :: ns, w :: vs, 0, x, v, _, h1, _ => by
    simp at h1
    subst h1
    funext y
    by_cases hy : y = n
    · subst hy; rw [if_pos rfl, List.set_cons_zero, tm_cons_eq]
    · rw [if_neg hy, List.set_cons_zero, tm_cons_ne hy, tm_cons_ne hy]
  | n :: ns, w :: vs, i + 1, x, v, hn, h1, h2 => by
    simp at h1 h2
    have hx : x ∈ ns := List.mem_of_getElem? h1
    have ih := tm_set (v := v) (List.nodup_cons.mp hn).2 h1 h2
    funext y
    have ihy := congrFun ih y
    rw [List.set_cons_succ]
    by_cases hy : y = n
    · subst hy
      rw [if_neg (by rintro rfl; exact (List.nodup_cons.mp hn).1 hx), tm_cons_eq, tm_cons_eq]
    · rw [tm_cons_ne hy, tm_cons_ne hy]; exact ihy
theorem tm_init : ∀ {binds : List (Str × Value)} {rest : List Str}, (binds.map (·.1) ++ rest).Nodup → mapOf binds = tm (binds.map (·.1) ++ rest) (binds.map (fun b => some b.2) ++ rest.map fun _ => none)
  | [], rest, _ => by
    funext y
    show none = _
    induction rest with
    | nil => rfl
    | cons n r ih =>
      simp only [List.map_nil, List.nil_append, List.map_cons] at ih ⊢
      by_cases hy : y = n
      · subst hy; rw [tm_cons_eq]
      · rw [tm_cons_ne hy]; exact ih (by simp_all)
  | (n, v) :: b, rest, hn => by
    have hn' := List.nodup_cons.mp hn
    have ih := tm_init (binds := b) (rest := rest) hn'.2
    funext y
    have ihy := congrFun ih y
    simp only [List.map_cons, List.cons_append]
    have hm : mapOf ((n, v) :: b) y = ((b.reverse.lookup y).or (if y = n then some v else none)) := by
      show (((n, v) :: b).reverse).lookup y = _
      rw [List.reverse_cons, List.lookup_append]
      congr 1
      rw [List.lookup_cons]
      by_cases hy : y = n
      · subst hy; rw [if_pos rfl, beq_self_eq_true]
      · have : (y == n) = false := by simpa using hy
        rw [if_neg hy, this]; rfl
    rw [hm]
    by_cases hy : y = n
    · subst hy
      rw [tm_cons_eq, if_pos rfl]
      have : b.reverse.lookup y = none := by
        rw [List.lookup_eq_none_iff]
        intro p hp
        have : y ∉ b.map (·.1) := fun h => hn'.1 (List.mem_append.mpr (.inl h))
        have hne : y ≠ p.1 := by
          rintro rfl
          exact this (List.mem_map.mpr ⟨p, List.mem_reverse.mp hp, rfl⟩)
        simpa using hne
      rw [this]; rfl
    · rw [tm_cons_ne hy, if_neg hy, Option.or_none]; exact ihy
structure LocOk (scope : Scope) (ns : List Str) : Prop where
  nodup : ns.Nodup
  kind : scope.kind = .function
  loc : (ns.all fun x => scope.names.lookup x == some .local && !(x == ("__debug__" : Str))) = true
section
variable {M : Model} {A : Around} {E : Value → Shared → Prop} {h : Heap} {G : Array GenState} {D : Drawn} {tk : Nat} {O : OsState} {g : Heap} {L : Addr} {led : Led} {name : Str} {scope : Scope} {f : Addr} {cd v : Value} {x : Str} {pos : Pos}
theorem LocOk.mem {scope : Scope} {ns : List Str} {x : Str} (K : LocOk scope ns) (hx : x ∈ ns) : scope.names.lookup x = some .local := by
  have := List.all_eq_true.mp K.loc x hx
  simp only [Bool.and_eq_true, Bool.not_eq_true'] at this
  simpa using this.1
theorem LocOk.at {ns : List Str} {i : Nat} (K : LocOk scope ns) (hi : ns[i]? = some x) : (envOf name scope L f cd).kindOf x = some .local ∧ (x == ("__debug__" : Str)) = false := by
  have := List.all_eq_true.mp K.loc x (List.mem_of_getElem? hi)
  simp only [Bool.and_eq_true, Bool.not_eq_true'] at this
  have e : scope.names.lookup x = some .local := by simpa using this.1
  exact ⟨e, this.2⟩
theorem z_ld {ns : List Str} {vs : List (Option Value)} {Q : Value → Shared → Prop} (i : Nat) (K : LocOk scope ns) (F : Fr g L h (tm ns vs)) (hi : ns[i]? = some x) (hv : vs[i]? = some (some v)) (q : Q v ⟨h, G, D, tk, O⟩) :
    wpAny M A (eval (.Name x pos) (envOf name scope L f cd)) Q E ⟨h, G, D, tk, O⟩ := ld F (tm_at K.nodup hi hv) q K.kind (K.at (cd := cd) (f := f) (name := name) (L := L) hi).1 (K.at (cd := cd) (f := f) (name := name) (L := L) hi).2
theorem z_ldn {ns : List Str} {vs : List (Option Value)} {Q : Value → Shared → Prop} (i : Nat) (K : LocOk scope ns) (F : Fr g L h (tm ns vs)) (hi : ns[i]? = some x) (hv : vs[i]? = some (some v)) (q : Q v ⟨h, G, D, tk, O⟩) :
    wpAny M A (loadName (envOf name scope L f cd) x) Q E ⟨h, G, D, tk, O⟩ := ldn F (tm_at K.nodup hi hv) q K.kind (K.at hi).1
theorem z_st {ns : List Str} {vs : List (Option Value)} {Q : Unit → Shared → Prop} (i : Nat) (K : LocOk scope ns) (F : Fr g L h (tm ns vs)) (N : News g L h led) (hi : ns[i]? = some x) (hl : i < vs.length)
    (q : ∀ h' tk', Fr g L h' (tm ns (vs.set i (some v))) → News g L h' led → Q () ⟨h', G, D, tk', O⟩) :
    wpAny M A (storeName (envOf name scope L f cd) x v) Q E ⟨h, G, D, tk, O⟩ :=
  stN F N (fun h' F' N' => q h' _ (by rw [← tm_set K.nodup hi hl]; exact F') N') K.kind (K.at hi).1
theorem ld0 {ns : List Str} {vs : List (Option Value)} {Q : Value → Shared → Prop} (K : LocOk scope (x :: ns)) (F : Fr g L h (tm (x :: ns) (some v :: vs))) (q : Q v ⟨h, G, D, tk, O⟩) : wpAny M A (eval (.Name x pos) (envOf name scope L f cd)) Q E ⟨h, G, D, tk, O⟩ := z_ld 0 K F rfl rfl q
theorem ln0 {ns : List Str} {vs : List (Option Value)} {Q : Value → Shared → Prop} (K : LocOk scope (x :: ns)) (F : Fr g L h (tm (x :: ns) (some v :: vs))) (q : Q v ⟨h, G, D, tk, O⟩) : wpAny M A (loadName (envOf name scope L f cd) x) Q E ⟨h, G, D, tk, O⟩ := z_ldn 0 K F rfl rfl q
theorem st0 {ov : Option Value} {ns : List Str} {vs : List (Option Value)} {Q : Unit → Shared → Prop} (K : LocOk scope (x :: ns)) (F : Fr g L h (tm (x :: ns) (ov :: vs))) (N : News g L h led) (q : ∀ h' tk', Fr g L h' (tm (x :: ns) (some v :: vs)) → News g L h' led → Q () ⟨h', G, D, tk', O⟩) : wpAny M A (storeName (envOf name scope L f cd) x v) Q E ⟨h, G, D, tk, O⟩ := z_st 0 K F N rfl (by simp) q
theorem ld1 {n0 : Str} {a0 : Option Value} {ns : List Str} {vs : List (Option Value)} {Q : Value → Shared → Prop} (K : LocOk scope (n0 :: x :: ns)) (F : Fr g L h (tm (n0 :: x :: ns) (a0 :: some v :: vs))) (q : Q v ⟨h, G, D, tk, O⟩) : wpAny M A (eval (.Name x pos) (envOf name scope L f cd)) Q E ⟨h, G, D, tk, O⟩ := z_ld 1 K F rfl rfl q
theorem ln1 {n0 : Str} {a0 : Option Value} {ns : List Str} {vs : List (Option Value)} {Q : Value → Shared → Prop} (K : LocOk scope (n0 :: x :: ns)) (F : Fr g L h (tm (n0 :: x :: ns) (a0 :: some v :: vs))) (q : Q v ⟨h, G, D, tk, O⟩) : wpAny M A (loadName (envOf name scope L f cd) x) Q E ⟨h, G, D, tk, O⟩ := z_ldn 1 K F rfl rfl q
theorem st1 {n0 : Str} {a0 : Option Value} {ov : Option Value} {ns : List Str} {vs : List (Option Value)} {Q : Unit → Shared → Prop} (K : LocOk scope (n0 :: x :: ns)) (F : Fr g L h (tm (n0 :: x :: ns) (a0 :: ov :: vs))) (N : News g L h led) (q : ∀ h' tk', Fr g L h' (tm (n0 :: x :: ns) (a0 :: some v :: vs)) → News g L h' led → Q () ⟨h', G, D, tk', O⟩) : wpAny M A (storeName (envOf name scope L f cd) x v) Q E ⟨h, G, D, tk, O⟩ := z_st 1 K F N rfl (by simp) q
theorem ld2 {n0 n1 : Str} {a0 a1 : Option Value} {ns : List Str} {vs : List (Option Value)} {Q : Value → Shared → Prop} (K : LocOk scope (n0 :: n1 :: x :: ns)) (F : Fr g L h (tm (n0 :: n1 :: x :: ns) (a0 :: a1 :: some v :: vs))) (q : Q v ⟨h, G, D, tk, O⟩) : wpAny M A (eval (.Name x pos) (envOf name scope L f cd)) Q E ⟨h, G, D, tk, O⟩ := z_ld 2 K F rfl rfl q
theorem ln2 {n0 n1 : Str} {a0 a1 : Option Value} {ns : List Str} {vs : List (Option Value)} {Q : Value → Shared → Prop} (K : LocOk scope (n0 :: n1 :: x :: ns)) (F : Fr g L h (tm (n0 :: n1 :: x :: ns) (a0 :: a1 :: some v :: vs))) (q : Q v ⟨h, G, D, tk, O⟩) : wpAny M A (loadName (envOf name scope L f cd) x) Q E ⟨h, G, D, tk, O⟩ := z_ldn 2 K F rfl rfl q
theorem st2 {n0 n1 : Str} {a0 a1 : Option Value} {ov : Option Value} {ns : List Str} {vs : List (Option Value)} {Q : Unit → Shared → Prop} (K : LocOk scope (n0 :: n1 :: x :: ns)) (F : Fr g L h (tm (n0 :: n1 :: x :: ns) (a0 :: a1 :: ov :: vs))) (N : News g L h led) (q : ∀ h' tk', Fr g L h' (tm (n0 :: n1 :: x :: ns) (a0 :: a1 :: some v :: vs)) → News g L h' led → Q () ⟨h', G, D, tk', O⟩) : wpAny M A (storeName (envOf name scope L f cd) x v) Q E ⟨h, G, D, tk, O⟩ := z_st 2 K F N rfl (by simp) q
theorem ld3 {n0 n1 n2 : Str} {a0 a1 a2 : Option Value} {ns : List Str} {vs : List (Option Value)} {Q : Value → Shared → Prop} (K : LocOk scope (n0 :: n1 :: n2 :: x :: ns)) (F : Fr g L h (tm (n0 :: n1 :: n2 :: x :: ns) (a0 :: a1 :: a2 :: some v :: vs))) (q : Q v ⟨h, G, D, tk, O⟩) : wpAny M A (eval (.Name x pos) (envOf name scope L f cd)) Q E ⟨h, G, D, tk, O⟩ := z_ld 3 K F rfl rfl q
theorem ln3 {n0 n1 n2 : Str} {a0 a1 a2 : Option Value} {ns : List Str} {vs : List (Option Value)} {Q : Value → Shared → Prop} (K : LocOk scope (n0 :: n1 :: n2 :: x :: ns)) (F : Fr g L h (tm (n0 :: n1 :: n2 :: x :: ns) (a0 :: a1 :: a2 :: some v :: vs))) (q : Q v ⟨h, G, D, tk, O⟩) : wpAny M A (loadName (envOf name scope L f cd) x) Q E ⟨h, G, D, tk, O⟩ := z_ldn 3 K F rfl rfl q
theorem st3 {n0 n1 n2 : Str} {a0 a1 a2 : Option Value} {ov : Option Value} {ns : List Str} {vs : List (Option Value)} {Q : Unit → Shared → Prop} (K : LocOk scope (n0 :: n1 :: n2 :: x :: ns)) (F : Fr g L h (tm (n0 :: n1 :: n2 :: x :: ns) (a0 :: a1 :: a2 :: ov :: vs))) (N : News g L h led) (q : ∀ h' tk', Fr g L h' (tm (n0 :: n1 :: n2 :: x :: ns) (a0 :: a1 :: a2 :: some v :: vs)) → News g L h' led → Q () ⟨h', G, D, tk', O⟩) : wpAny M A (storeName (envOf name scope L f cd) x v) Q E ⟨h, G, D, tk, O⟩ := z_st 3 K F N rfl (by simp) q
theorem ld4 {n0 n1 n2 n3 : Str} {a0 a1 a2 a3 : Option Value} {ns : List Str} {vs : List (Option Value)} {Q : Value → Shared → Prop} (K : LocOk scope (n0 :: n1 :: n2 :: n3 :: x :: ns)) (F : Fr g L h (tm (n0 :: n1 :: n2 :: n3 :: x :: ns) (a0 :: a1 :: a2 :: a3 :: some v :: vs))) (q : Q v ⟨h, G, D, tk, O⟩) : wpAny M A (eval (.Name x pos) (envOf name scope L f cd)) Q E ⟨h, G, D, tk, O⟩ := z_ld 4 K F rfl rfl q
theorem ln4 {n0 n1 n2 n3 : Str} {a0 a1 a2 a3 : Option Value} {ns : List Str} {vs : List (Option Value)} {Q : Value → Shared → Prop} (K : LocOk scope (n0 :: n1 :: n2 :: n3 :: x :: ns)) (F : Fr g L h (tm (n0 :: n1 :: n2 :: n3 :: x :: ns) (a0 :: a1 :: a2 :: a3 :: some v :: vs))) (q : Q v ⟨h, G, D, tk, O⟩) : wpAny M A (loadName (envOf name scope L f cd) x) Q E ⟨h, G, D, tk, O⟩ := z_ldn 4 K F rfl rfl q
theorem st4 {n0 n1 n2 n3 : Str} {a0 a1 a2 a3 : Option Value} {ov : Option Value} {ns : List Str} {vs : List (Option Value)} {Q : Unit → Shared → Prop} (K : LocOk scope (n0 :: n1 :: n2 :: n3 :: x :: ns)) (F : Fr g L h (tm (n0 :: n1 :: n2 :: n3 :: x :: ns) (a0 :: a1 :: a2 :: a3 :: ov :: vs))) (N : News g L h led) (q : ∀ h' tk', Fr g L h' (tm (n0 :: n1 :: n2 :: n3 :: x :: ns) (a0 :: a1 :: a2 :: a3 :: some v :: vs)) → News g L h' led → Q () ⟨h', G, D, tk', O⟩) : wpAny M A (storeName (envOf name scope L f cd) x v) Q E ⟨h, G, D, tk, O⟩ := z_st 4 K F N rfl (by simp) q
theorem ld5 {n0 n1 n2 n3 n4 : Str} {a0 a1 a2 a3 a4 : Option Value} {ns : List Str} {vs : List (Option Value)} {Q : Value → Shared → Prop} (K : LocOk scope (n0 :: n1 :: n2 :: n3 :: n4 :: x :: ns)) (F : Fr g L h (tm (n0 :: n1 :: n2 :: n3 :: n4 :: x :: ns) (a0 :: a1 :: a2 :: a3 :: a4 :: some v :: vs))) (q : Q v ⟨h, G, D, tk, O⟩) : wpAny M A (eval (.Name x pos) (envOf name scope L f cd)) Q E ⟨h, G, D, tk, O⟩ := z_ld 5 K F rfl rfl q
theorem ln5 {n0 n1 n2 n3 n4 : Str} {a0 a1 a2 a3 a4 : Option Value} {ns : List Str} {vs : List (Option Value)} {Q : Value → Shared → Prop} (K : LocOk scope (n0 :: n1 :: n2 :: n3 :: n4 :: x :: ns)) (F : Fr g L h (tm (n0 :: n1 :: n2 :: n3 :: n4 :: x :: ns) (a0 :: a1 :: a2 :: a3 :: a4 :: some v :: vs))) (q : Q v ⟨h, G, D, tk, O⟩) : wpAny M A (loadName (envOf name scope L f cd) x) Q E ⟨h, G, D, tk, O⟩ := z_ldn 5 K F rfl rfl q
theorem st5 {n0 n1 n2 n3 n4 : Str} {a0 a1 a2 a3 a4 : Option Value} {ov : Option Value} {ns : List Str} {vs : List (Option Value)} {Q : Unit → Shared → Prop} (K : LocOk scope (n0 :: n1 :: n2 :: n3 :: n4 :: x :: ns)) (F : Fr g L h (tm (n0 :: n1 :: n2 :: n3 :: n4 :: x :: ns) (a0 :: a1 :: a2 :: a3 :: a4 :: ov :: vs))) (N : News g L h led) (q : ∀ h' tk', Fr g L h' (tm (n0 :: n1 :: n2 :: n3 :: n4 :: x :: ns) (a0 :: a1 :: a2 :: a3 :: a4 :: some v :: vs)) → News g L h' led → Q () ⟨h', G, D, tk', O⟩) : wpAny M A (storeName (envOf name scope L f cd) x v) Q E ⟨h, G, D, tk, O⟩ := z_st 5 K F N rfl (by simp) q
theorem ld6 {n0 n1 n2 n3 n4 n5 : Str} {a0 a1 a2 a3 a4 a5 : Option Value} {ns : List Str} {vs : List (Option Value)} {Q : Value → Shared → Prop} (K : LocOk scope (n0 :: n1 :: n2 :: n3 :: n4 :: n5 :: x :: ns)) (F : Fr g L h (tm (n0 :: n1 :: n2 :: n3 :: n4 :: n5 :: x :: ns) (a0 :: a1 :: a2 :: a3 :: a4 :: a5 :: some v :: vs))) (q : Q v ⟨h, G, D, tk, O⟩) : wpAny M A (eval (.Name x pos) (envOf name scope L f cd)) Q E ⟨h, G, D, tk, O⟩ := z_ld 6 K F rfl rfl q
theorem ln6 {n0 n1 n2 n3 n4 n5 : Str} {a0 a1 a2 a3 a4 a5 : Option Value} {ns : List Str} {vs : List (Option Value)} {Q : Value → Shared → Prop} (K : LocOk scope (n0 :: n1 :: n2 :: n3 :: n4 :: n5 :: x :: ns)) (F : Fr g L h (tm (n0 :: n1 :: n2 :: n3 :: n4 :: n5 :: x :: ns) (a0 :: a1 :: a2 :: a3 :: a4 :: a5 :: some v :: vs))) (q : Q v ⟨h, G, D, tk, O⟩) : wpAny M A (loadName (envOf name scope L f cd) x) Q E ⟨h, G, D, tk, O⟩ := z_ldn 6 K F rfl rfl q
theorem st6 {n0 n1 n2 n3 n4 n5 : Str} {a0 a1 a2 a3 a4 a5 : Option Value} {ov : Option Value} {ns : List Str} {vs : List (Option Value)} {Q : Unit → Shared → Prop} (K : LocOk scope (n0 :: n1 :: n2 :: n3 :: n4 :: n5 :: x :: ns)) (F : Fr g L h (tm (n0 :: n1 :: n2 :: n3 :: n4 :: n5 :: x :: ns) (a0 :: a1 :: a2 :: a3 :: a4 :: a5 :: ov :: vs))) (N : News g L h led) (q : ∀ h' tk', Fr g L h' (tm (n0 :: n1 :: n2 :: n3 :: n4 :: n5 :: x :: ns) (a0 :: a1 :: a2 :: a3 :: a4 :: a5 :: some v :: vs)) → News g L h' led → Q () ⟨h', G, D, tk', O⟩) : wpAny M A (storeName (envOf name scope L f cd) x v) Q E ⟨h, G, D, tk, O⟩ := z_st 6 K F N rfl (by simp) q
theorem ld7 {n0 n1 n2 n3 n4 n5 n6 : Str} {a0 a1 a2 a3 a4 a5 a6 : Option Value} {ns : List Str} {vs : List (Option Value)} {Q : Value → Shared → Prop} (K : LocOk scope (n0 :: n1 :: n2 :: n3 :: n4 :: n5 :: n6 :: x :: ns)) (F : Fr g L h (tm (n0 :: n1 :: n2 :: n3 :: n4 :: n5 :: n6 :: x :: ns) (a0 :: a1 :: a2 :: a3 :: a4 :: a5 :: a6 :: some v :: vs))) (q : Q v ⟨h, G, D, tk, O⟩) : wpAny M A (eval (.Name x pos) (envOf name scope L f cd)) Q E ⟨h, G, D, tk, O⟩ := z_ld 7 K F rfl rfl q
theorem ln7 {n0 n1 n2 n3 n4 n5 n6 : Str} {a0 a1 a2 a3 a4 a5 a6 : Option Value} {ns : List Str} {vs : List (Option Value)} {Q : Value → Shared → Prop} (K : LocOk scope (n0 :: n1 :: n2 :: n3 :: n4 :: n5 :: n6 :: x :: ns)) (F : Fr g L h (tm (n0 :: n1 :: n2 :: n3 :: n4 :: n5 :: n6 :: x :: ns) (a0 :: a1 :: a2 :: a3 :: a4 :: a5 :: a6 :: some v :: vs))) (q : Q v ⟨h, G, D, tk, O⟩) : wpAny M A (loadName (envOf name scope L f cd) x) Q E ⟨h, G, D, tk, O⟩ := z_ldn 7 K F rfl rfl q
theorem st7 {n0 n1 n2 n3 n4 n5 n6 : Str} {a0 a1 a2 a3 a4 a5 a6 : Option Value} {ov : Option Value} {ns : List Str} {vs : List (Option Value)} {Q : Unit → Shared → Prop} (K : LocOk scope (n0 :: n1 :: n2 :: n3 :: n4 :: n5 :: n6 :: x :: ns)) (F : Fr g L h (tm (n0 :: n1 :: n2 :: n3 :: n4 :: n5 :: n6 :: x :: ns) (a0 :: a1 :: a2 :: a3 :: a4 :: a5 :: a6 :: ov :: vs))) (N : News g L h led) (q : ∀ h' tk', Fr g L h' (tm (n0 :: n1 :: n2 :: n3 :: n4 :: n5 :: n6 :: x :: ns) (a0 :: a1 :: a2 :: a3 :: a4 :: a5 :: a6 :: some v :: vs)) → News g L h' led → Q () ⟨h', G, D, tk', O⟩) : wpAny M A (storeName (envOf name scope L f cd) x v) Q E ⟨h, G, D, tk, O⟩ := z_st 7 K F N rfl (by simp) q
theorem ld8 {n0 n1 n2 n3 n4 n5 n6 n7 : Str} {a0 a1 a2 a3 a4 a5 a6 a7 : Option Value} {ns : List Str} {vs : List (Option Value)} {Q : Value → Shared → Prop} (K : LocOk scope (n0 :: n1 :: n2 :: n3 :: n4 :: n5 :: n6 :: n7 :: x :: ns)) (F : Fr g L h (tm (n0 :: n1 :: n2 :: n3 :: n4 :: n5 :: n6 :: n7 :: x :: ns) (a0 :: a1 :: a2 :: a3 :: a4 :: a5 :: a6 :: a7 :: some v :: vs))) (q : Q v ⟨h, G, D, tk, O⟩) : wpAny M A (eval (.Name x pos) (envOf name scope L f cd)) Q E ⟨h, G, D, tk, O⟩ := z_ld 8 K F rfl rfl q
theorem ln8 {n0 n1 n2 n3 n4 n5 n6 n7 : Str} {a0 a1 a2 a3 a4 a5 a6 a7 : Option Value} {ns : List Str} {vs : List (Option Value)} {Q : Value → Shared → Prop} (K : LocOk scope (n0 :: n1 :: n2 :: n3 :: n4 :: n5 :: n6 :: n7 :: x :: ns)) (F : Fr g L h (tm (n0 :: n1 :: n2 :: n3 :: n4 :: n5 :: n6 :: n7 :: x :: ns) (a0 :: a1 :: a2 :: a3 :: a4 :: a5 :: a6 :: a7 :: some v :: vs))) (q : Q v ⟨h, G, D, tk, O⟩) : wpAny M A (loadName (envOf name scope L f cd) x) Q E ⟨h, G, D, tk, O⟩ := z_ldn 8 K F rfl rfl q
theorem st8 {n0 n1 n2 n3 n4 n5 n6 n7 : Str} {a0 a1 a2 a3 a4 a5 a6 a7 : Option Value} {ov : Option Value} {ns : List Str} {vs : List (Option Value)} {Q : Unit → Shared → Prop} (K : LocOk scope (n0 :: n1 :: n2 :: n3 :: n4 :: n5 :: n6 :: n7 :: x :: ns)) (F : Fr g L h (tm (n0 :: n1 :: n2 :: n3 :: n4 :: n5 :: n6 :: n7 :: x :: ns) (a0 :: a1 :: a2 :: a3 :: a4 :: a5 :: a6 :: a7 :: ov :: vs))) (N : News g L h led) (q : ∀ h' tk', Fr g L h' (tm (n0 :: n1 :: n2 :: n3 :: n4 :: n5 :: n6 :: n7 :: x :: ns) (a0 :: a1 :: a2 :: a3 :: a4 :: a5 :: a6 :: a7 :: some v :: vs)) → News g L h' led → Q () ⟨h', G, D, tk', O⟩) : wpAny M A (storeName (envOf name scope L f cd) x v) Q E ⟨h, G, D, tk, O⟩ := z_st 8 K F N rfl (by simp) q
theorem ld9 {n0 n1 n2 n3 n4 n5 n6 n7 n8 : Str} {a0 a1 a2 a3 a4 a5 a6 a7 a8 : Option Value} {ns : List Str} {vs : List (Option Value)} {Q : Value → Shared → Prop} (K : LocOk scope (n0 :: n1 :: n2 :: n3 :: n4 :: n5 :: n6 :: n7 :: n8 :: x :: ns)) (F : Fr g L h (tm (n0 :: n1 :: n2 :: n3 :: n4 :: n5 :: n6 :: n7 :: n8 :: x :: ns) (a0 :: a1 :: a2 :: a3 :: a4 :: a5 :: a6 :: a7 :: a8 :: some v :: vs))) (q : Q v ⟨h, G, D, tk, O⟩) : wpAny M A (eval (.Name x pos) (envOf name scope L f cd)) Q E ⟨h, G, D, tk, O⟩ := z_ld 9 K F rfl rfl q
theorem ln9 {n0 n1 n2 n3 n4 n5 n6 n7 n8 : Str} {a0 a1 a2 a3 a4 a5 a6 a7 a8 : Option Value} {ns : List Str} {vs : List (Option Value)} {Q : Value → Shared → Prop} (K : LocOk scope (n0 :: n1 :: n2 :: n3 :: n4 :: n5 :: n6 :: n7 :: n8 :: x :: ns)) (F : Fr g L h (tm (n0 :: n1 :: n2 :: n3 :: n4 :: n5 :: n6 :: n7 :: n8 :: x :: ns) (a0 :: a1 :: a2 :: a3 :: a4 :: a5 :: a6 :: a7 :: a8 :: some v :: vs))) (q : Q v ⟨h, G, D, tk, O⟩) : wpAny M A (loadName (envOf name scope L f cd) x) Q E ⟨h, G, D, tk, O⟩ := z_ldn 9 K F rfl rfl q
theorem st9 {n0 n1 n2 n3 n4 n5 n6 n7 n8 : Str} {a0 a1 a2 a3 a4 a5 a6 a7 a8 : Option Value} {ov : Option Value} {ns : List Str} {vs : List (Option Value)} {Q : Unit → Shared → Prop} (K : LocOk scope (n0 :: n1 :: n2 :: n3 :: n4 :: n5 :: n6 :: n7 :: n8 :: x :: ns)) (F : Fr g L h (tm (n0 :: n1 :: n2 :: n3 :: n4 :: n5 :: n6 :: n7 :: n8 :: x :: ns) (a0 :: a1 :: a2 :: a3 :: a4 :: a5 :: a6 :: a7 :: a8 :: ov :: vs))) (N : News g L h led) (q : ∀ h' tk', Fr g L h' (tm (n0 :: n1 :: n2 :: n3 :: n4 :: n5 :: n6 :: n7 :: n8 :: x :: ns) (a0 :: a1 :: a2 :: a3 :: a4 :: a5 :: a6 :: a7 :: a8 :: some v :: vs)) → News g L h' led → Q () ⟨h', G, D, tk', O⟩) : wpAny M A (storeName (envOf name scope L f cd) x v) Q E ⟨h, G, D, tk, O⟩ := z_st 9 K F N rfl (by simp) q
theorem ld10 {n0 n1 n2 n3 n4 n5 n6 n7 n8 n9 : Str} {a0 a1 a2 a3 a4 a5 a6 a7 a8 a9 : Option Value} {ns : List Str} {vs : List (Option Value)} {Q : Value → Shared → Prop} (K : LocOk scope (n0 :: n1 :: n2 :: n3 :: n4 :: n5 :: n6 :: n7 :: n8 :: n9 :: x :: ns)) (F : Fr g L h (tm (n0 :: n1 :: n2 :: n3 :: n4 :: n5 :: n6 :: n7 :: n8 :: n9 :: x :: ns) (a0 :: a1 :: a2 :: a3 :: a4 :: a5 :: a6 :: a7 :: a8 :: a9 :: some v :: vs))) (q : Q v ⟨h, G, D, tk, O⟩) : wpAny M A (eval (.Name x pos) (envOf name scope L f cd)) Q E ⟨h, G, D, tk, O⟩ := z_ld 10 K F rfl rfl q
theorem ln10 {n0 n1 n2 n3 n4 n5 n6 n7 n8 n9 : Str} {a0 a1 a2 a3 a4 a5 a6 a7 a8 a9 : Option Value} {ns : List Str} {vs : List (Option Value)} {Q : Value → Shared → Prop} (K : LocOk scope (n0 :: n1 :: n2 :: n3 :: n4 :: n5 :: n6 :: n7 :: n8 :: n9 :: x :: ns)) (F : Fr g L h (tm (n0 :: n1 :: n2 :: n3 :: n4 :: n5 :: n6 :: n7 :: n8 :: n9 :: x :: ns) (a0 :: a1 :: a2 :: a3 :: a4 :: a5 :: a6 :: a7 :: a8 :: a9 :: some v :: vs))) (q : Q v ⟨h, G, D, tk, O⟩) : wpAny M A (loadName (envOf name scope L f cd) x) Q E ⟨h, G, D, tk, O⟩ := z_ldn 10 K F rfl rfl q
theorem st10 {n0 n1 n2 n3 n4 n5 n6 n7 n8 n9 : Str} {a0 a1 a2 a3 a4 a5 a6 a7 a8 a9 : Option Value} {ov : Option Value} {ns : List Str} {vs : List (Option Value)} {Q : Unit → Shared → Prop} (K : LocOk scope (n0 :: n1 :: n2 :: n3 :: n4 :: n5 :: n6 :: n7 :: n8 :: n9 :: x :: ns)) (F : Fr g L h (tm (n0 :: n1 :: n2 :: n3 :: n4 :: n5 :: n6 :: n7 :: n8 :: n9 :: x :: ns) (a0 :: a1 :: a2 :: a3 :: a4 :: a5 :: a6 :: a7 :: a8 :: a9 :: ov :: vs))) (N : News g L h led) (q : ∀ h' tk', Fr g L h' (tm (n0 :: n1 :: n2 :: n3 :: n4 :: n5 :: n6 :: n7 :: n8 :: n9 :: x :: ns) (a0 :: a1 :: a2 :: a3 :: a4 :: a5 :: a6 :: a7 :: a8 :: a9 :: some v :: vs)) → News g L h' led → Q () ⟨h', G, D, tk', O⟩) : wpAny M A (storeName (envOf name scope L f cd) x v) Q E ⟨h, G, D, tk, O⟩ := z_st 10 K F N rfl (by simp) q
theorem ld11 {n0 n1 n2 n3 n4 n5 n6 n7 n8 n9 n10 : Str} {a0 a1 a2 a3 a4 a5 a6 a7 a8 a9 a10 : Option Value} {ns : List Str} {vs : List (Option Value)} {Q : Value → Shared → Prop} (K : LocOk scope (n0 :: n1 :: n2 :: n3 :: n4 :: n5 :: n6 :: n7 :: n8 :: n9 :: n10 :: x :: ns)) (F : Fr g L h (tm (n0 :: n1 :: n2 :: n3 :: n4 :: n5 :: n6 :: n7 :: n8 :: n9 :: n10 :: x :: ns) (a0 :: a1 :: a2 :: a3 :: a4 :: a5 :: a6 :: a7 :: a8 :: a9 :: a10 :: some v :: vs))) (q : Q v ⟨h, G, D, tk, O⟩) : wpAny M A (eval (.Name x pos) (envOf name scope L f cd)) Q E ⟨h, G, D, tk, O⟩ := z_ld 11 K F rfl rfl q
theorem ln11 {n0 n1 n2 n3 n4 n5 n6 n7 n8 n9 n10 : Str} {a0 a1 a2 a3 a4 a5 a6 a7 a8 a9 a10 : Option Value} {ns : List Str} {vs : List (Option Value)} {Q : Value → Shared → Prop} (K : LocOk scope (n0 :: n1 :: n2 :: n3 :: n4 :: n5 :: n6 :: n7 :: n8 :: n9 :: n10 :: x :: ns)) (F : Fr g L h (tm (n0 :: n1 :: n2 :: n3 :: n4 :: n5 :: n6 :: n7 :: n8 :: n9 :: n10 :: x :: ns) (a0 :: a1 :: a2 :: a3 :: a4 :: a5 :: a6 :: a7 :: a8 :: a9 :: a10 :: some v :: vs))) (q : Q v ⟨h, G, D, tk, O⟩) : wpAny M A (loadName (envOf name scope L f cd) x) Q E ⟨h, G, D, tk, O⟩ := z_ldn 11 K F rfl rfl q
theorem st11 {n0 n1 n2 n3 n4 n5 n6 n7 n8 n9 n10 : Str} {a0 a1 a2 a3 a4 a5 a6 a7 a8 a9 a10 : Option Value} {ov : Option Value} {ns : List Str} {vs : List (Option Value)} {Q : Unit → Shared → Prop} (K : LocOk scope (n0 :: n1 :: n2 :: n3 :: n4 :: n5 :: n6 :: n7 :: n8 :: n9 :: n10 :: x :: ns)) (F : Fr g L h (tm (n0 :: n1 :: n2 :: n3 :: n4 :: n5 :: n6 :: n7 :: n8 :: n9 :: n10 :: x :: ns) (a0 :: a1 :: a2 :: a3 :: a4 :: a5 :: a6 :: a7 :: a8 :: a9 :: a10 :: ov :: vs))) (N : News g L h led) (q : ∀ h' tk', Fr g L h' (tm (n0 :: n1 :: n2 :: n3 :: n4 :: n5 :: n6 :: n7 :: n8 :: n9 :: n10 :: x :: ns) (a0 :: a1 :: a2 :: a3 :: a4 :: a5 :: a6 :: a7 :: a8 :: a9 :: a10 :: some v :: vs)) → News g L h' led → Q () ⟨h', G, D, tk', O⟩) : wpAny M A (storeName (envOf name scope L f cd) x v) Q E ⟨h, G, D, tk, O⟩ := z_st 11 K F N rfl (by simp) q
theorem ld12 {n0 n1 n2 n3 n4 n5 n6 n7 n8 n9 n10 n11 : Str} {a0 a1 a2 a3 a4 a5 a6 a7 a8 a9 a10 a11 : Option Value} {ns : List Str} {vs : List (Option Value)} {Q : Value → Shared → Prop} (K : LocOk scope (n0 :: n1 :: n2 :: n3 :: n4 :: n5 :: n6 :: n7 :: n8 :: n9 :: n10 :: n11 :: x :: ns)) (F : Fr g L h (tm (n0 :: n1 :: n2 :: n3 :: n4 :: n5 :: n6 :: n7 :: n8 :: n9 :: n10 :: n11 :: x :: ns) (a0 :: a1 :: a2 :: a3 :: a4 :: a5 :: a6 :: a7 :: a8 :: a9 :: a10 :: a11 :: some v :: vs))) (q : Q v ⟨h, G, D, tk, O⟩) : wpAny M A (eval (.Name x pos) (envOf name scope L f cd)) Q E ⟨h, G, D, tk, O⟩ := z_ld 12 K F rfl rfl q
theorem ln12 {n0 n1 n2 n3 n4 n5 n6 n7 n8 n9 n10 n11 : Str} {a0 a1 a2 a3 a4 a5 a6 a7 a8 a9 a10 a11 : Option Value} {ns : List Str} {vs : List (Option Value)} {Q : Value → Shared → Prop} (K : LocOk scope (n0 :: n1 :: n2 :: n3 :: n4 :: n5 :: n6 :: n7 :: n8 :: n9 :: n10 :: n11 :: x :: ns)) (F : Fr g L h (tm (n0 :: n1 :: n2 :: n3 :: n4 :: n5 :: n6 :: n7 :: n8 :: n9 :: n10 :: n11 :: x :: ns) (a0 :: a1 :: a2 :: a3 :: a4 :: a5 :: a6 :: a7 :: a8 :: a9 :: a10 :: a11 :: some v :: vs))) (q : Q v ⟨h, G, D, tk, O⟩) : wpAny M A (loadName (envOf name scope L f cd) x) Q E ⟨h, G, D, tk, O⟩ := z_ldn 12 K F rfl rfl q
theorem st12 {n0 n1 n2 n3 n4 n5 n6 n7 n8 n9 n10 n11 : Str} {a0 a1 a2 a3 a4 a5 a6 a7 a8 a9 a10 a11 : Option Value} {ov : Option Value} {ns : List Str} {vs : List (Option Value)} {Q : Unit → Shared → Prop} (K : LocOk scope (n0 :: n1 :: n2 :: n3 :: n4 :: n5 :: n6 :: n7 :: n8 :: n9 :: n10 :: n11 :: x :: ns)) (F : Fr g L h (tm (n0 :: n1 :: n2 :: n3 :: n4 :: n5 :: n6 :: n7 :: n8 :: n9 :: n10 :: n11 :: x :: ns) (a0 :: a1 :: a2 :: a3 :: a4 :: a5 :: a6 :: a7 :: a8 :: a9 :: a10 :: a11 :: ov :: vs))) (N : News g L h led) (q : ∀ h' tk', Fr g L h' (tm (n0 :: n1 :: n2 :: n3 :: n4 :: n5 :: n6 :: n7 :: n8 :: n9 :: n10 :: n11 :: x :: ns) (a0 :: a1 :: a2 :: a3 :: a4 :: a5 :: a6 :: a7 :: a8 :: a9 :: a10 :: a11 :: some v :: vs)) → News g L h' led → Q () ⟨h', G, D, tk', O⟩) : wpAny M A (storeName (envOf name scope L f cd) x v) Q E ⟨h, G, D, tk, O⟩ := z_st 12 K F N rfl (by simp) q
theorem ld13 {n0 n1 n2 n3 n4 n5 n6 n7 n8 n9 n10 n11 n12 : Str} {a0 a1 a2 a3 a4 a5 a6 a7 a8 a9 a10 a11 a12 : Option Value} {ns : List Str} {vs : List (Option Value)} {Q : Value → Shared → Prop} (K : LocOk scope (n0 :: n1 :: n2 :: n3 :: n4 :: n5 :: n6 :: n7 :: n8 :: n9 :: n10 :: n11 :: n12 :: x :: ns)) (F : Fr g L h (tm (n0 :: n1 :: n2 :: n3 :: n4 :: n5 :: n6 :: n7 :: n8 :: n9 :: n10 :: n11 :: n12 :: x :: ns) (a0 :: a1 :: a2 :: a3 :: a4 :: a5 :: a6 :: a7 :: a8 :: a9 :: a10 :: a11 :: a12 :: some v :: vs))) (q : Q v ⟨h, G, D, tk, O⟩) : wpAny M A (eval (.Name x pos) (envOf name scope L f cd)) Q E ⟨h, G, D, tk, O⟩ := z_ld 13 K F rfl rfl q
theorem ln13 {n0 n1 n2 n3 n4 n5 n6 n7 n8 n9 n10 n11 n12 : Str} {a0 a1 a2 a3 a4 a5 a6 a7 a8 a9 a10 a11 a12 : Option Value} {ns : List Str} {vs : List (Option Value)} {Q : Value → Shared → Prop} (K : LocOk scope (n0 :: n1 :: n2 :: n3 :: n4 :: n5 :: n6 :: n7 :: n8 :: n9 :: n10 :: n11 :: n12 :: x :: ns)) (F : Fr g L h (tm (n0 :: n1 :: n2 :: n3 :: n4 :: n5 :: n6 :: n7 :: n8 :: n9 :: n10 :: n11 :: n12 :: x :: ns) (a0 :: a1 :: a2 :: a3 :: a4 :: a5 :: a6 :: a7 :: a8 :: a9 :: a10 :: a11 :: a12 :: some v :: vs))) (q : Q v ⟨h, G, D, tk, O⟩) : wpAny M A (loadName (envOf name scope L f cd) x) Q E ⟨h, G, D, tk, O⟩ := z_ldn 13 K F rfl rfl q
theorem st13 {n0 n1 n2 n3 n4 n5 n6 n7 n8 n9 n10 n11 n12 : Str} {a0 a1 a2 a3 a4 a5 a6 a7 a8 a9 a10 a11 a12 : Option Value} {ov : Option Value} {ns : List Str} {vs : List (Option Value)} {Q : Unit → Shared → Prop} (K : LocOk scope (n0 :: n1 :: n2 :: n3 :: n4 :: n5 :: n6 :: n7 :: n8 :: n9 :: n10 :: n11 :: n12 :: x :: ns)) (F : Fr g L h (tm (n0 :: n1 :: n2 :: n3 :: n4 :: n5 :: n6 :: n7 :: n8 :: n9 :: n10 :: n11 :: n12 :: x :: ns) (a0 :: a1 :: a2 :: a3 :: a4 :: a5 :: a6 :: a7 :: a8 :: a9 :: a10 :: a11 :: a12 :: ov :: vs))) (N : News g L h led) (q : ∀ h' tk', Fr g L h' (tm (n0 :: n1 :: n2 :: n3 :: n4 :: n5 :: n6 :: n7 :: n8 :: n9 :: n10 :: n11 :: n12 :: x :: ns) (a0 :: a1 :: a2 :: a3 :: a4 :: a5 :: a6 :: a7 :: a8 :: a9 :: a10 :: a11 :: a12 :: some v :: vs)) → News g L h' led → Q () ⟨h', G, D, tk', O⟩) : wpAny M A (storeName (envOf name scope L f cd) x v) Q E ⟨h, G, D, tk, O⟩ := z_st 13 K F N rfl (by simp) q
theorem ld14 {n0 n1 n2 n3 n4 n5 n6 n7 n8 n9 n10 n11 n12 n13 : Str} {a0 a1 a2 a3 a4 a5 a6 a7 a8 a9 a10 a11 a12 a13 : Option Value} {ns : List Str} {vs : List (Option Value)} {Q : Value → Shared → Prop} (K : LocOk scope (n0 :: n1 :: n2 :: n3 :: n4 :: n5 :: n6 :: n7 :: n8 :: n9 :: n10 :: n11 :: n12 :: n13 :: x :: ns)) (F : Fr g L h (tm (n0 :: n1 :: n2 :: n3 :: n4 :: n5 :: n6 :: n7 :: n8 :: n9 :: n10 :: n11 :: n12 :: n13 :: x :: ns) (a0 :: a1 :: a2 :: a3 :: a4 :: a5 :: a6 :: a7 :: a8 :: a9 :: a10 :: a11 :: a12 :: a13 :: some v :: vs))) (q : Q v ⟨h, G, D, tk, O⟩) : wpAny M A (eval (.Name x pos) (envOf name scope L f cd)) Q E ⟨h, G, D, tk, O⟩ := z_ld 14 K F rfl rfl q
theorem ln14 {n0 n1 n2 n3 n4 n5 n6 n7 n8 n9 n10 n11 n12 n13 : Str} {a0 a1 a2 a3 a4 a5 a6 a7 a8 a9 a10 a11 a12 a13 : Option Value} {ns : List Str} {vs : List (Option Value)} {Q : Value → Shared → Prop} (K : LocOk scope (n0 :: n1 :: n2 :: n3 :: n4 :: n5 :: n6 :: n7 :: n8 :: n9 :: n10 :: n11 :: n12 :: n13 :: x :: ns)) (F : Fr g L h (tm (n0 :: n1 :: n2 :: n3 :: n4 :: n5 :: n6 :: n7 :: n8 :: n9 :: n10 :: n11 :: n12 :: n13 :: x :: ns) (a0 :: a1 :: a2 :: a3 :: a4 :: a5 :: a6 :: a7 :: a8 :: a9 :: a10 :: a11 :: a12 :: a13 :: some v :: vs))) (q : Q v ⟨h, G, D, tk, O⟩) : wpAny M A (loadName (envOf name scope L f cd) x) Q E ⟨h, G, D, tk, O⟩ := z_ldn 14 K F rfl rfl q
theorem st14 {n0 n1 n2 n3 n4 n5 n6 n7 n8 n9 n10 n11 n12 n13 : Str} {a0 a1 a2 a3 a4 a5 a6 a7 a8 a9 a10 a11 a12 a13 : Option Value} {ov : Option Value} {ns : List Str} {vs : List (Option Value)} {Q : Unit → Shared → Prop} (K : LocOk scope (n0 :: n1 :: n2 :: n3 :: n4 :: n5 :: n6 :: n7 :: n8 :: n9 :: n10 :: n11 :: n12 :: n13 :: x :: ns)) (F : Fr g L h (tm (n0 :: n1 :: n2 :: n3 :: n4 :: n5 :: n6 :: n7 :: n8 :: n9 :: n10 :: n11 :: n12 :: n13 :: x :: ns) (a0 :: a1 :: a2 :: a3 :: a4 :: a5 :: a6 :: a7 :: a8 :: a9 :: a10 :: a11 :: a12 :: a13 :: ov :: vs))) (N : News g L h led) (q : ∀ h' tk', Fr g L h' (tm (n0 :: n1 :: n2 :: n3 :: n4 :: n5 :: n6 :: n7 :: n8 :: n9 :: n10 :: n11 :: n12 :: n13 :: x :: ns) (a0 :: a1 :: a2 :: a3 :: a4 :: a5 :: a6 :: a7 :: a8 :: a9 :: a10 :: a11 :: a12 :: a13 :: some v :: vs)) → News g L h' led → Q () ⟨h', G, D, tk', O⟩) : wpAny M A (storeName (envOf name scope L f cd) x v) Q E ⟨h, G, D, tk, O⟩ := z_st 14 K F N rfl (by simp) q
theorem ld15 {n0 n1 n2 n3 n4 n5 n6 n7 n8 n9 n10 n11 n12 n13 n14 : Str} {a0 a1 a2 a3 a4 a5 a6 a7 a8 a9 a10 a11 a12 a13 a14 : Option Value} {ns : List Str} {vs : List (Option Value)} {Q : Value → Shared → Prop} (K : LocOk scope (n0 :: n1 :: n2 :: n3 :: n4 :: n5 :: n6 :: n7 :: n8 :: n9 :: n10 :: n11 :: n12 :: n13 :: n14 :: x :: ns)) (F : Fr g L h (tm (n0 :: n1 :: n2 :: n3 :: n4 :: n5 :: n6 :: n7 :: n8 :: n9 :: n10 :: n11 :: n12 :: n13 :: n14 :: x :: ns) (a0 :: a1 :: a2 :: a3 :: a4 :: a5 :: a6 :: a7 :: a8 :: a9 :: a10 :: a11 :: a12 :: a13 :: a14 :: some v :: vs))) (q : Q v ⟨h, G, D, tk, O⟩) : wpAny M A (eval (.Name x pos) (envOf name scope L f cd)) Q E ⟨h, G, D, tk, O⟩ := z_ld 15 K F rfl rfl q
theorem ln15 {n0 n1 n2 n3 n4 n5 n6 n7 n8 n9 n10 n11 n12 n13 n14 : Str} {a0 a1 a2 a3 a4 a5 a6 a7 a8 a9 a10 a11 a12 a13 a14 : Option Value} {ns : List Str} {vs : List (Option Value)} {Q : Value → Shared → Prop} (K : LocOk scope (n0 :: n1 :: n2 :: n3 :: n4 :: n5 :: n6 :: n7 :: n8 :: n9 :: n10 :: n11 :: n12 :: n13 :: n14 :: x :: ns)) (F : Fr g L h (tm (n0 :: n1 :: n2 :: n3 :: n4 :: n5 :: n6 :: n7 :: n8 :: n9 :: n10 :: n11 :: n12 :: n13 :: n14 :: x :: ns) (a0 :: a1 :: a2 :: a3 :: a4 :: a5 :: a6 :: a7 :: a8 :: a9 :: a10 :: a11 :: a12 :: a13 :: a14 :: some v :: vs))) (q : Q v ⟨h, G, D, tk, O⟩) : wpAny M A (loadName (envOf name scope L f cd) x) Q E ⟨h, G, D, tk, O⟩ := z_ldn 15 K F rfl rfl q
theorem st15 {n0 n1 n2 n3 n4 n5 n6 n7 n8 n9 n10 n11 n12 n13 n14 : Str} {a0 a1 a2 a3 a4 a5 a6 a7 a8 a9 a10 a11 a12 a13 a14 : Option Value} {ov : Option Value} {ns : List Str} {vs : List (Option Value)} {Q : Unit → Shared → Prop} (K : LocOk scope (n0 :: n1 :: n2 :: n3 :: n4 :: n5 :: n6 :: n7 :: n8 :: n9 :: n10 :: n11 :: n12 :: n13 :: n14 :: x :: ns)) (F : Fr g L h (tm (n0 :: n1 :: n2 :: n3 :: n4 :: n5 :: n6 :: n7 :: n8 :: n9 :: n10 :: n11 :: n12 :: n13 :: n14 :: x :: ns) (a0 :: a1 :: a2 :: a3 :: a4 :: a5 :: a6 :: a7 :: a8 :: a9 :: a10 :: a11 :: a12 :: a13 :: a14 :: ov :: vs))) (N : News g L h led) (q : ∀ h' tk', Fr g L h' (tm (n0 :: n1 :: n2 :: n3 :: n4 :: n5 :: n6 :: n7 :: n8 :: n9 :: n10 :: n11 :: n12 :: n13 :: n14 :: x :: ns) (a0 :: a1 :: a2 :: a3 :: a4 :: a5 :: a6 :: a7 :: a8 :: a9 :: a10 :: a11 :: a12 :: a13 :: a14 :: some v :: vs)) → News g L h' led → Q () ⟨h', G, D, tk', O⟩) : wpAny M A (storeName (envOf name scope L f cd) x v) Q E ⟨h, G, D, tk, O⟩ := z_st 15 K F N rfl (by simp) q
theorem ld16 {n0 n1 n2 n3 n4 n5 n6 n7 n8 n9 n10 n11 n12 n13 n14 n15 : Str} {a0 a1 a2 a3 a4 a5 a6 a7 a8 a9 a10 a11 a12 a13 a14 a15 : Option Value} {ns : List Str} {vs : List (Option Value)} {Q : Value → Shared → Prop} (K : LocOk scope (n0 :: n1 :: n2 :: n3 :: n4 :: n5 :: n6 :: n7 :: n8 :: n9 :: n10 :: n11 :: n12 :: n13 :: n14 :: n15 :: x :: ns)) (F : Fr g L h (tm (n0 :: n1 :: n2 :: n3 :: n4 :: n5 :: n6 :: n7 :: n8 :: n9 :: n10 :: n11 :: n12 :: n13 :: n14 :: n15 :: x :: ns) (a0 :: a1 :: a2 :: a3 :: a4 :: a5 :: a6 :: a7 :: a8 :: a9 :: a10 :: a11 :: a12 :: a13 :: a14 :: a15 :: some v :: vs))) (q : Q v ⟨h, G, D, tk, O⟩) : wpAny M A (eval (.Name x pos) (envOf name scope L f cd)) Q E ⟨h, G, D, tk, O⟩ := z_ld 16 K F rfl rfl q
theorem ln16 {n0 n1 n2 n3 n4 n5 n6 n7 n8 n9 n10 n11 n12 n13 n14 n15 : Str} {a0 a1 a2 a3 a4 a5 a6 a7 a8 a9 a10 a11 a12 a13 a14 a15 : Option Value} {ns : List Str} {vs : List (Option Value)} {Q : Value → Shared → Prop} (K : LocOk scope (n0 :: n1 :: n2 :: n3 :: n4 :: n5 :: n6 :: n7 :: n8 :: n9 :: n10 :: n11 :: n12 :: n13 :: n14 :: n15 :: x :: ns)) (F : Fr g L h (tm (n0 :: n1 :: n2 :: n3 :: n4 :: n5 :: n6 :: n7 :: n8 :: n9 :: n10 :: n11 :: n12 :: n13 :: n14 :: n15 :: x :: ns) (a0 :: a1 :: a2 :: a3 :: a4 :: a5 :: a6 :: a7 :: a8 :: a9 :: a10 :: a11 :: a12 :: a13 :: a14 :: a15 :: some v :: vs))) (q : Q v ⟨h, G, D, tk, O⟩) : wpAny M A (loadName (envOf name scope L f cd) x) Q E ⟨h, G, D, tk, O⟩ := z_ldn 16 K F rfl rfl q
theorem st16 {n0 n1 n2 n3 n4 n5 n6 n7 n8 n9 n10 n11 n12 n13 n14 n15 : Str} {a0 a1 a2 a3 a4 a5 a6 a7 a8 a9 a10 a11 a12 a13 a14 a15 : Option Value} {ov : Option Value} {ns : List Str} {vs : List (Option Value)} {Q : Unit → Shared → Prop} (K : LocOk scope (n0 :: n1 :: n2 :: n3 :: n4 :: n5 :: n6 :: n7 :: n8 :: n9 :: n10 :: n11 :: n12 :: n13 :: n14 :: n15 :: x :: ns)) (F : Fr g L h (tm (n0 :: n1 :: n2 :: n3 :: n4 :: n5 :: n6 :: n7 :: n8 :: n9 :: n10 :: n11 :: n12 :: n13 :: n14 :: n15 :: x :: ns) (a0 :: a1 :: a2 :: a3 :: a4 :: a5 :: a6 :: a7 :: a8 :: a9 :: a10 :: a11 :: a12 :: a13 :: a14 :: a15 :: ov :: vs))) (N : News g L h led) (q : ∀ h' tk', Fr g L h' (tm (n0 :: n1 :: n2 :: n3 :: n4 :: n5 :: n6 :: n7 :: n8 :: n9 :: n10 :: n11 :: n12 :: n13 :: n14 :: n15 :: x :: ns) (a0 :: a1 :: a2 :: a3 :: a4 :: a5 :: a6 :: a7 :: a8 :: a9 :: a10 :: a11 :: a12 :: a13 :: a14 :: a15 :: some v :: vs)) → News g L h' led → Q () ⟨h', G, D, tk', O⟩) : wpAny M A (storeName (envOf name scope L f cd) x v) Q E ⟨h, G, D, tk, O⟩ := z_st 16 K F N rfl (by simp) q
theorem ld17 {n0 n1 n2 n3 n4 n5 n6 n7 n8 n9 n10 n11 n12 n13 n14 n15 n16 : Str} {a0 a1 a2 a3 a4 a5 a6 a7 a8 a9 a10 a11 a12 a13 a14 a15 a16 : Option Value} {ns : List Str} {vs : List (Option Value)} {Q : Value → Shared → Prop} (K : LocOk scope (n0 :: n1 :: n2 :: n3 :: n4 :: n5 :: n6 :: n7 :: n8 :: n9 :: n10 :: n11 :: n12 :: n13 :: n14 :: n15 :: n16 :: x :: ns)) (F : Fr g L h (tm (n0 :: n1 :: n2 :: n3 :: n4 :: n5 :: n6 :: n7 :: n8 :: n9 :: n10 :: n11 :: n12 :: n13 :: n14 :: n15 :: n16 :: x :: ns) (a0 :: a1 :: a2 :: a3 :: a4 :: a5 :: a6 :: a7 :: a8 :: a9 :: a10 :: a11 :: a12 :: a13 :: a14 :: a15 :: a16 :: some v :: vs))) (q : Q v ⟨h, G, D, tk, O⟩) : wpAny M A (eval (.Name x pos) (envOf name scope L f cd)) Q E ⟨h, G, D, tk, O⟩ := z_ld 17 K F rfl rfl q
theorem ln17 {n0 n1 n2 n3 n4 n5 n6 n7 n8 n9 n10 n11 n12 n13 n14 n15 n16 : Str} {a0 a1 a2 a3 a4 a5 a6 a7 a8 a9 a10 a11 a12 a13 a14 a15 a16 : Option Value} {ns : List Str} {vs : List (Option Value)} {Q : Value → Shared → Prop} (K : LocOk scope (n0 :: n1 :: n2 :: n3 :: n4 :: n5 :: n6 :: n7 :: n8 :: n9 :: n10 :: n11 :: n12 :: n13 :: n14 :: n15 :: n16 :: x :: ns)) (F : Fr g L h (tm (n0 :: n1 :: n2 :: n3 :: n4 :: n5 :: n6 :: n7 :: n8 :: n9 :: n10 :: n11 :: n12 :: n13 :: n14 :: n15 :: n16 :: x :: ns) (a0 :: a1 :: a2 :: a3 :: a4 :: a5 :: a6 :: a7 :: a8 :: a9 :: a10 :: a11 :: a12 :: a13 :: a14 :: a15 :: a16 :: some v :: vs))) (q : Q v ⟨h, G, D, tk, O⟩) : wpAny M A (loadName (envOf name scope L f cd) x) Q E ⟨h, G, D, tk, O⟩ := z_ldn 17 K F rfl rfl q
theorem st17 {n0 n1 n2 n3 n4 n5 n6 n7 n8 n9 n10 n11 n12 n13 n14 n15 n16 : Str} {a0 a1 a2 a3 a4 a5 a6 a7 a8 a9 a10 a11 a12 a13 a14 a15 a16 : Option Value} {ov : Option Value} {ns : List Str} {vs : List (Option Value)} {Q : Unit → Shared → Prop} (K : LocOk scope (n0 :: n1 :: n2 :: n3 :: n4 :: n5 :: n6 :: n7 :: n8 :: n9 :: n10 :: n11 :: n12 :: n13 :: n14 :: n15 :: n16 :: x :: ns)) (F : Fr g L h (tm (n0 :: n1 :: n2 :: n3 :: n4 :: n5 :: n6 :: n7 :: n8 :: n9 :: n10 :: n11 :: n12 :: n13 :: n14 :: n15 :: n16 :: x :: ns) (a0 :: a1 :: a2 :: a3 :: a4 :: a5 :: a6 :: a7 :: a8 :: a9 :: a10 :: a11 :: a12 :: a13 :: a14 :: a15 :: a16 :: ov :: vs))) (N : News g L h led) (q : ∀ h' tk', Fr g L h' (tm (n0 :: n1 :: n2 :: n3 :: n4 :: n5 :: n6 :: n7 :: n8 :: n9 :: n10 :: n11 :: n12 :: n13 :: n14 :: n15 :: n16 :: x :: ns) (a0 :: a1 :: a2 :: a3 :: a4 :: a5 :: a6 :: a7 :: a8 :: a9 :: a10 :: a11 :: a12 :: a13 :: a14 :: a15 :: a16 :: some v :: vs)) → News g L h' led → Q () ⟨h', G, D, tk', O⟩) : wpAny M A (storeName (envOf name scope L f cd) x v) Q E ⟨h, G, D, tk, O⟩ := z_st 17 K F N rfl (by simp) q
end
end Mine
/-! part Flat -/
namespace Mine
section
variable {prog : Program} {w : World} {M : Model} {A : Around} {E : Value → Shared → Prop} {h : Heap} {G : Array GenState} {D : Drawn} {tk : Nat} {O : OsState} {a b n : Int} {t u : Tok} {Q : Value → Shared → Prop}
abbrev S5 (h : Heap) (G : Array GenState) (D : Drawn) (tk : Nat) (O : OsState) : Shared := Shared.mk h G D tk O
theorem z_add (q : Q (.int (a + b) tk) ⟨h, G, D, tk + 1, O⟩) : wpAny (model prog w) A (binaryOp .Add (.int a t) (.int b u)) Q E ⟨h, G, D, tk, O⟩ := add_int q
theorem z_sub (q : Q (.int (a - b) tk) ⟨h, G, D, tk + 1, O⟩) : wpAny (model prog w) A (binaryOp .Sub (.int a t) (.int b u)) Q E ⟨h, G, D, tk, O⟩ := sub_int q
theorem z_mul (ok : IntMulOk a b) (q : Q (.int (a * b) tk) ⟨h, G, D, tk + 1, O⟩) : wpAny (model prog w) A (binaryOp .Mult (.int a t) (.int b u)) Q E ⟨h, G, D, tk, O⟩ := mul_int q ok
theorem z_mod (hb : b ≠ 0) (q : Q (.int (a.fmod b) tk) ⟨h, G, D, tk + 1, O⟩) : wpAny (model prog w) A (binaryOp .Mod (.int a t) (.int b u)) Q E ⟨h, G, D, tk, O⟩ := mod_int hb q
theorem z_pow (hn : 0 ≤ n) (hs : (Builtin.Int.intBits a : Int) * n ≤ 2 ^ 27) (q : Q (.int (a ^ n.toNat) tk) ⟨h, G, D, tk + 1, O⟩) : wpAny (model prog w) A (binaryOp .Pow (.int a t) (.int n u)) Q E ⟨h, G, D, tk, O⟩ := pow_int hn hs q
theorem z_shl (hn : 0 ≤ n) (hs : (Builtin.Int.intBits a : Int) + n ≤ 2 ^ 27) (q : Q (.int (a * 2 ^ n.toNat) tk) ⟨h, G, D, tk + 1, O⟩) : wpAny (model prog w) A (binaryOp .LShift (.int a t) (.int n u)) Q E ⟨h, G, D, tk, O⟩ := lshift_int hn hs q
theorem z_shr (hn : 0 ≤ n) (q : Q (.int (a.fdiv (2 ^ n.toNat)) tk) ⟨h, G, D, tk + 1, O⟩) : wpAny (model prog w) A (binaryOp .RShift (.int a t) (.int n u)) Q E ⟨h, G, D, tk, O⟩ := rshift_int hn q
theorem z_and (q : Q (.int (Builtin.bitAnd a b) tk) ⟨h, G, D, tk + 1, O⟩) : wpAny (model prog w) A (binaryOp .BitAnd (.int a t) (.int b u)) Q E ⟨h, G, D, tk, O⟩ := and_int q
theorem z_xor (q : Q (.int (Builtin.bitXor a b) tk) ⟨h, G, D, tk + 1, O⟩) : wpAny (model prog w) A (binaryOp .BitXor (.int a t) (.int b u)) Q E ⟨h, G, D, tk, O⟩ := xor_int q
theorem z_neg (q : Q (.int (-a) tk) ⟨h, G, D, tk + 1, O⟩) : wpAny (model prog w) A (unaryOp .USub (.int a t)) Q E ⟨h, G, D, tk, O⟩ := neg_int q
theorem z_iadd (q : Q (.int (a + b) tk) ⟨h, G, D, tk + 1, O⟩) : wpAny (model prog w) A (inplaceOp .Add (.int a t) (.int b u)) Q E ⟨h, G, D, tk, O⟩ := iadd_int q
theorem z_isub (q : Q (.int (a - b) tk) ⟨h, G, D, tk + 1, O⟩) : wpAny (model prog w) A (inplaceOp .Sub (.int a t) (.int b u)) Q E ⟨h, G, D, tk, O⟩ := isub_int q
theorem z_imul (ok : IntMulOk a b) (q : Q (.int (a * b) tk) ⟨h, G, D, tk + 1, O⟩) : wpAny (model prog w) A (inplaceOp .Mult (.int a t) (.int b u)) Q E ⟨h, G, D, tk, O⟩ := imul_int q ok
theorem z_ishr (hn : 0 ≤ n) (q : Q (.int (a.fdiv (2 ^ n.toNat)) tk) ⟨h, G, D, tk + 1, O⟩) : wpAny (model prog w) A (inplaceOp .RShift (.int a t) (.int n u)) Q E ⟨h, G, D, tk, O⟩ := irshift_int hn q
theorem z_ishl (hn : 0 ≤ n) (hs : (Builtin.Int.intBits a : Int) + n ≤ 2 ^ 27) (q : Q (.int (a * 2 ^ n.toNat) tk) ⟨h, G, D, tk + 1, O⟩) : wpAny (model prog w) A (inplaceOp .LShift (.int a t) (.int n u)) Q E ⟨h, G, D, tk, O⟩ := ilshift_int hn hs q
theorem z_ixor (q : Q (.int (Builtin.bitXor a b) tk) ⟨h, G, D, tk + 1, O⟩) : wpAny (model prog w) A (inplaceOp .BitXor (.int a t) (.int b u)) Q E ⟨h, G, D, tk, O⟩ := ixor_int q
theorem z_const {env : Env} {k : Nat} {pos : Pos} (q : Q (.int n tk) ⟨h, G, D, tk + 1, O⟩) : wpAny M A (eval (.Constant (.int n) k pos) env) Q E ⟨h, G, D, tk, O⟩ := wpAny_Constant_int q
theorem z_text {env : Env} {x : Str} {k : Nat} {pos : Pos} (q : Q (.str x tk) ⟨h, G, D, tk + 1, O⟩) : wpAny M A (eval (.Constant (.str x) k pos) env) Q E ⟨h, G, D, tk, O⟩ := Calls.Constant_str q
variable {g : Heap} {L : Addr} {m : Str → Option Value} {led : Led}
theorem z_tuple {vs : List Value} (F : Fr g L h m) (N : News g L h led) (hz : vs.length ≤ sizeLine)
    (q : ∀ T h', Fr g L h' m → News g L h' ((T, tupO vs) :: led) → Q (.ref T) ⟨h', G, D, tk, O⟩) : wpAny M A (newTuple vs) Q E ⟨h, G, D, tk, O⟩ :=
  kup_newTuple F N (fun T h' F' N' _ => q T h' F' N') hz
theorem z_unpack {env : Env} {elts : List PySem.Expr} {k : Nat} {pos : Pos} {T : Addr} {items : List Value} {Q : Unit → Shared → Prop} (F : Fr g L h m) (X : (Mine.hd.heap_39 w.params).In g) (N : News g L h led) (x : Has w led T (tupO items)) (hh : A.handled = none)
    (hn : (assignEach elts env).length = items.length) (hst : (assignEach elts env).findIdx? (·.1) = none)
    (q : ∀ h', Fr g L h' m → News g L h' led → wpAny (model prog w) A (assignInOrder ((assignEach elts env).map (·.2)) items) Q E ⟨h', G, D, tk, O⟩) :
    wpAny (model prog w) A (assign (.Tuple elts k pos) env (.ref T)) Q E ⟨h, G, D, tk, O⟩ :=
  unpackN_ F N (x.tup F X N) hh (by rw [hn]; simp) hst fun h' F' N' => q h' F' N'
theorem z_use {f : Addr} {r : Nat} {vs : List Value} {Pre : Heap → Led → Prop} {Post : Led → Value → Prop} {dp un : Nat} {gd : Option (List Code)} {cn : Str} {cs : Scope} {fa : Addr} {ccd : Value} {cl : List (Str × Addr)} {outer : List Env} {A₀ : Around} {base : Heap}
    {p : Program} {loose : List Str} {mean : ExcName → Option Value} {mg mb : Str → Option Value} (C : Ctr w f r vs Pre Post)
    (B : Below A₀ base outer g) (F : Fr g L h m) (X : (Mine.hd.heap_39 w.params).In g) (N : News g L h led) (T : Top p loose mean mg mb g) (hk : cs.kind = .function) (hd : dp + r < recursionLimit) (hu : un + 8 * r < cLine) (hp : Pre base led)
    (hret : ∀ v h' tk' led', Fr g L h' m → News g L h' led' → (∀ p ∈ led, p ∈ led') → Post led' v → Q v ⟨h', G, D, tk', O⟩) :
    wpAny (model PySem.Challenge.rw_aj5018_01.row.prog w) (ktrTop dp un gd cn cs L fa ccd cl outer) (call (.ref f) vs) Q E ⟨h, G, D, tk, O⟩ :=
  C _ _ _ _ _ _ _ _ _ _ _ _ _ _ _ _ _ _ _ _ _ _ _ B F X N T hk hd hu hp hret
end
theorem z_enter {w : World} {f : Addr} {r : Nat} {vs : List Value} {Pre : Heap → Led → Prop} {Post : Led → Value → Prop} {name qual : Str} {params : Arguments} {body : List Stmt} {scope : Scope}
    {dV kV doc pm cdv ct oc : Value} {an od : Option Addr} {osl : Array (Option Value)} (binds : List (Str × Value)) (rest ns : List Str) (ms : List (Option Value))
    (ho : (Mine.hd.heap_39 w.params).lookup f = some ⟨oc, od, .func (fnOf name qual params body scope dV kV doc pm an cdv ct), osl⟩) (hcd : codeIn (Mine.hd.heap_39 w.params) cdv qual = true)
    (hbind : ∀ S, peek (Mine.hd.heap_39 w.params) S (bindArgs (fnOf name qual params body scope dV kV doc pm an cdv ct) ⟨vs, []⟩) = some binds)
    (hns : binds.map (·.1) ++ rest = ns) (hms : binds.map (fun b => some b.2) ++ rest.map (fun _ => none) = ms) (K : LocOk scope ns) (hcell : (scope.names.all fun x => x.2 != .cell) = true)
    (hco : scope.isCoroutine = false) (hgen : scope.isGenerator = false)
    (h : ∀ (dp un : Nat) (gd : Option (List Code)) (outer : List Env) (A₀ : Around) (base g : Heap) (L : Addr) (led : Led) (h : Heap) (G : Array GenState) (D : Drawn) (tk : Nat) (O : OsState) (p : Program) (loose : List Str) (mean : ExcName → Option Value) (mg mb : Str → Option Value),
      Below A₀ base outer g → (Mine.hd.heap_39 w.params).In g → Top p loose mean mg mb g → dp + r < recursionLimit → un + 8 * r < cLine → Pre base led → LocOk scope ns → Fr g L h (tm ns ms) → News g L h led →
      wpAny (model PySem.Challenge.rw_aj5018_01.row.prog w) (ktrTop dp un gd qual scope L f cdv [] outer) (execs body (envOf qual scope L f cdv))
        (fun fl s' => Fin g L ⟨h, G, D, tk, O⟩ led Post (match fl with | .ret v => v | _ => .none) s') (fun _ _ => False) ⟨h, G, D, tk, O⟩) :
    Ctr w f (r + 1) vs Pre Post :=
  enter ho hcd hbind (fun y hy => (K.mem (by rw [← hns]; exact List.mem_append.mpr (.inl (List.mem_map.mpr ⟨y, hy, rfl⟩))))) (fun x hx => by have := List.all_eq_true.mp hcell x hx; simpa using this) hco hgen K.kind fun dp un gd outer A₀ base g L led s p loose mean mg mb B F X N T hd hu hp => by
    obtain ⟨h1, G1, D1, tk1, O1⟩ := s
    have hn := K.nodup
    subst hns
    subst hms
    rw [tm_init hn] at F
    exact h dp un gd outer A₀ base g L led h1 G1 D1 tk1 O1 p loose mean mg mb B X T hd hu hp K F N
end Mine
/-! part Norm -/
namespace Mine
/-! normalize's arithmetic -/
theorem fdiv_nat (m k : Nat) : (m : Int).fdiv (2 ^ k) = ((m / 2 ^ k : Nat) : Int) := by
  rw [Int.fdiv_eq_ediv_of_nonneg _ (by exact Int.le_of_lt (Int.pow_pos (by decide)))]
  rw [Int.natCast_ediv, Int.natCast_pow]; rfl
theorem fdiv_up (m k : Nat) : -((-(m : Int)).fdiv (2 ^ k)) = ((rm m (2 ^ k) .up : Nat) : Int) := by
  have hB : (0 : Int) < ((2 ^ k : Nat) : Int) := by have := Nat.two_pow_pos k; omega
  have e0 : ((2 : Int) ^ k) = ((2 ^ k : Nat) : Int) := by rw [Int.natCast_pow]; rfl
  rw [e0, Int.fdiv_eq_ediv_of_nonneg _ (Int.le_of_lt hB)]
  generalize hBn : 2 ^ k = B at *
  have hq := Nat.div_add_mod m B
  have hr := Nat.mod_lt m (y := B) (by omega)
  show _ = ((if m % B = 0 then m / B else m / B + 1 : Nat) : Int)
  have hq' : ((B : Int)) * ((m / B : Nat) : Int) + ((m % B : Nat) : Int) = m := by
    rw [← Int.natCast_mul, ← Int.natCast_add, hq]
  generalize m / B = q at *
  generalize m % B = r at *
  by_cases h : r = 0
  · rw [if_pos h]
    subst h
    have := (Int.ediv_emod_unique (a := -(m : Int)) (b := (B : Int)) (r := 0) (q := -(q : Int)) hB).mpr ⟨by rw [Int.mul_neg]; omega, by omega, by omega⟩
    rw [this.1]; omega
  · rw [if_neg h]
    have := (Int.ediv_emod_unique (a := -(m : Int)) (b := (B : Int)) (r := (B : Int) - r) (q := -(q : Int) - 1) hB).mpr ⟨by rw [Int.mul_sub, Int.mul_neg]; omega, by omega, by omega⟩
    rw [this.1]; omega
theorem bitAnd_two (t : Nat) : Builtin.bitAnd (t : Int) 2 = ((2 * (t / 2 % 2) : Nat) : Int) := by
  rw [PyProof.Rows.bitAnd_pp (by omega) (by decide)]
  have h1 : ((t : Int).toNat &&& Int.toNat 2) / 2 = t / 2 % 2 := by
    rw [Nat.and_div_two]
    show t / 2 &&& 1 = _
    exact Nat.and_one_is_mod _
  have h2 : ¬ ((t : Int).toNat &&& Int.toNat 2) % 2 = 1 := by
    rw [Nat.and_mod_two_eq_one]
    intro h
    exact absurd h.2 (by decide)
  omega
theorem bitAnd_one (t : Nat) : Builtin.bitAnd (t : Int) 1 = ((t % 2 : Nat) : Int) := by
  rw [PyProof.Rows.bitAnd_pp (by omega) (by decide)]
  show (((t : Int).toNat &&& 1 : Nat) : Int) = _
  rw [Nat.and_one_is_mod]; rfl
theorem bitAnd_mask (m k : Nat) : Builtin.bitAnd (m : Int) (1 * 2 ^ k - 1) = ((m % 2 ^ k : Nat) : Int) := by
  have e0 : ((1 : Int) * 2 ^ k - 1) = ((2 ^ k - 1 : Nat) : Int) := by
    have := Nat.two_pow_pos k
    have e : ((2 : Int) ^ k) = ((2 ^ k : Nat) : Int) := by rw [Int.natCast_pow]; rfl
    rw [Int.one_mul, e]; omega
  rw [e0, PyProof.Rows.bitAnd_pp (by omega) (by omega)]
  show ((m &&& (2 ^ k - 1) : Nat) : Int) = _
  rw [Nat.and_two_pow_sub_one_eq_mod]
theorem rm_nr_bits (m k : Nat) : rm m (2 ^ (k + 1)) .nr = if m / 2 ^ k % 2 = 1 ∧ (m / 2 ^ k / 2 % 2 = 1 ∨ m % 2 ^ k ≠ 0) then m / 2 ^ k / 2 + 1 else m / 2 ^ k / 2 := by
  have hB := Nat.two_pow_pos k
  have e1 : m / 2 ^ (k + 1) = m / 2 ^ k / 2 := by rw [Nat.pow_succ, Nat.div_div_eq_div_mul]
  have e2 : m % 2 ^ (k + 1) = m % 2 ^ k + 2 ^ k * (m / 2 ^ k % 2) := by rw [Nat.pow_succ, Nat.mod_mul]
  have e3 : 2 ^ (k + 1) = 2 * 2 ^ k := by rw [Nat.pow_succ, Nat.mul_comm]
  have hr := Nat.mod_lt m hB
  simp only [rm, e1, e2]
  rw [e3]
  generalize m / 2 ^ k = t at *
  generalize m % 2 ^ k = r at *
  generalize 2 ^ k = B at *
  rcases Nat.mod_two_eq_zero_or_one t with h | h
  · rw [h, if_pos (by omega), if_neg (by omega)]
  · rw [h, if_neg (by omega)]
    by_cases hz : r = 0
    · subst hz
      rw [if_neg (by omega)]
      by_cases hq : t / 2 % 2 = 0
      · rw [if_pos hq, if_neg (by omega)]
      · rw [if_neg hq, if_pos ⟨rfl, .inl (by omega)⟩]
    · rw [if_pos (by omega), if_pos ⟨rfl, .inr hz⟩]
/-- M is man rounded to prec figures -/
structure IsM (sg man bc prec : Int) (r : Rnd) (M e e1 bc1 : Int) : Prop where
  pos : 0 < M
  eqM : M = ((rm man.toNat (2 ^ (blen man.toNat - prec.toNat)) (md sg r) : Nat) : Int)
  eqE : e1 = e + ((blen man.toNat - prec.toNat : Nat) : Int)
  len : (blen M.toNat : Int) = bc1 ∨ (M.toNat = 2 ^ bc1.toNat ∧ 0 < bc1)
theorem isM_none {sg man bc prec e : Int} {r : Rnd} (h0 : 0 ≤ man) (hb : bc = blen man.toNat) (hz : ¬ man = 0) (hn : bc - prec ≤ 0) : IsM sg man bc prec r man e e bc := by
  have hk : blen man.toNat - prec.toNat = 0 := by omega
  refine ⟨by omega, ?_, by rw [hk]; omega, .inl hb.symm⟩
  rw [hk, Nat.pow_zero, rm_one]; omega
theorem rm_le (A B : Nat) (m : Md) : A / B ≤ rm A B m ∧ rm A B m ≤ A / B + 1 := by
  cases m <;> simp only [rm] <;> (repeat' split) <;> omega
theorem isM_of {sg man bc prec e : Int} {r : Rnd} {M : Int} (h0 : 0 ≤ man) (hb : bc = blen man.toNat) (hp : 0 < prec) (hn : 0 < bc - prec)
    (hM : M = ((rm man.toNat (2 ^ (bc - prec).toNat) (md sg r) : Nat) : Int)) : IsM sg man bc prec r M e (e + (bc - prec)) prec := by
  have hk : (bc - prec).toNat = blen man.toNat - prec.toNat := by omega
  rw [hk] at hM
  have hne : man.toNat ≠ 0 := by
    intro h
    rw [h, blen_zero] at hb
    omega
  have h1 := two_blen_le hne
  have h2 := lt_two_blen man.toNat
  have hr := rm_le man.toNat (2 ^ (blen man.toNat - prec.toNat)) (md sg r)
  have hlo : 2 ^ (prec.toNat - 1) ≤ man.toNat / 2 ^ (blen man.toNat - prec.toNat) := by
    rw [Nat.le_div_iff_mul_le (Nat.two_pow_pos _), ← Nat.pow_add]
    rw [show prec.toNat - 1 + (blen man.toNat - prec.toNat) = blen man.toNat - 1 by omega]
    exact h1
  have hhi : man.toNat / 2 ^ (blen man.toNat - prec.toNat) < 2 ^ prec.toNat := by
    rw [Nat.div_lt_iff_lt_mul (Nat.two_pow_pos _), ← Nat.pow_add]
    rw [show prec.toNat + (blen man.toNat - prec.toNat) = blen man.toNat by omega]
    exact h2
  have hpp := Nat.two_pow_pos (prec.toNat - 1)
  have hMn : M.toNat = rm man.toNat (2 ^ (blen man.toNat - prec.toNat)) (md sg r) := by omega
  refine ⟨by omega, hM, by omega, ?_⟩
  by_cases he : M.toNat = 2 ^ prec.toNat
  · exact .inr ⟨he, hp⟩
  · refine .inl ?_
    have := blen_eq (n := M.toNat) (k := prec.toNat - 1) (by omega) (by rw [show prec.toNat - 1 + 1 = prec.toNat by omega]; omega)
    omega
section
variable {sg man bc prec e : Int} {r : Rnd}
theorem isM_dn (h0 : 0 ≤ man) (hb : bc = blen man.toNat) (hp : 0 < prec) (hn : 0 < bc - prec) (hs : sg = 0 ∨ sg = 1) (hr : ¬ r.str = Str.ofString "n") (hv : ¬ sdV sg r = 0) :
    IsM sg man bc prec r (man.fdiv (2 ^ (bc - prec).toNat)) e (e + (bc - prec)) prec := by
  have hmd : md sg r = .dn := by
    cases r <;> simp only [sdV, md] at hv ⊢ <;> first | exact absurd rfl hr | (split at hv <;> simp_all) | simp_all
  refine isM_of h0 hb hp hn ?_
  obtain ⟨m, rfl⟩ : ∃ m : Nat, man = m := ⟨man.toNat, by omega⟩
  rw [fdiv_nat, hmd]; rfl
theorem isM_up (h0 : 0 ≤ man) (hb : bc = blen man.toNat) (hp : 0 < prec) (hn : 0 < bc - prec) (hs : sg = 0 ∨ sg = 1) (hr : ¬ r.str = Str.ofString "n") (hv : sdV sg r = 0) :
    IsM sg man bc prec r (-((-man).fdiv (2 ^ (bc - prec).toNat))) e (e + (bc - prec)) prec := by
  have hmd : md sg r = .up := by
    cases r <;> simp only [sdV, md] at hv ⊢ <;> first | exact absurd rfl hr | (split at hv <;> simp_all) | simp_all
  refine isM_of h0 hb hp hn ?_
  obtain ⟨m, rfl⟩ : ∃ m : Nat, man = m := ⟨man.toNat, by omega⟩
  rw [fdiv_up, hmd]; rfl
theorem nr_split (h0 : 0 ≤ man) (hn : 0 < bc - prec) :
    ((rm man.toNat (2 ^ (bc - prec).toNat) .nr : Nat) : Int) = if ¬ Builtin.bitAnd (man.fdiv (2 ^ (bc - prec - 1).toNat)) 1 = 0 ∧ (¬ Builtin.bitAnd (man.fdiv (2 ^ (bc - prec - 1).toNat)) 2 = 0 ∨ ¬ Builtin.bitAnd man (1 * 2 ^ (bc - prec - 1).toNat - 1) = 0)
      then (man.fdiv (2 ^ (bc - prec - 1).toNat)).fdiv (2 ^ Int.toNat 1) + 1 else (man.fdiv (2 ^ (bc - prec - 1).toNat)).fdiv (2 ^ Int.toNat 1) := by
  obtain ⟨m, rfl⟩ : ∃ m : Nat, man = m := ⟨man.toNat, by omega⟩
  obtain ⟨k, hk⟩ : ∃ k : Nat, bc - prec = k + 1 := ⟨(bc - prec - 1).toNat, by omega⟩
  rw [hk, show ((k : Int) + 1).toNat = k + 1 by omega, show ((k : Int) + 1 - 1).toNat = k by omega, fdiv_nat, fdiv_nat, bitAnd_one, bitAnd_two, bitAnd_mask, Int.toNat_natCast, rm_nr_bits]
  have e2 : (2 ^ Int.toNat 1 : Nat) = 2 := rfl
  rw [e2]
  generalize m / 2 ^ k = t
  generalize m % 2 ^ k = r
  by_cases hc : t % 2 = 1 ∧ (t / 2 % 2 = 1 ∨ r ≠ 0)
  · rw [if_pos hc, if_pos (by omega)]; omega
  · rw [if_neg hc, if_neg (by omega)]
theorem isM_nr_up (h0 : 0 ≤ man) (hb : bc = blen man.toNat) (hp : 0 < prec) (hn : 0 < bc - prec) (hr : r.str = Str.ofString "n")
    (c1 : ¬ Builtin.bitAnd (man.fdiv (2 ^ (bc - prec - 1).toNat)) 1 = 0) (c2 : ¬ Builtin.bitAnd (man.fdiv (2 ^ (bc - prec - 1).toNat)) 2 = 0 ∨ ¬ Builtin.bitAnd man (1 * 2 ^ (bc - prec - 1).toNat - 1) = 0) :
    IsM sg man bc prec r ((man.fdiv (2 ^ (bc - prec - 1).toNat)).fdiv (2 ^ Int.toNat 1) + 1) e (e + (bc - prec)) prec := by
  have hr' : r = .n := Rnd.str_inj (b := .n) hr
  subst hr'
  refine isM_of h0 hb hp hn ?_
  show _ = ((rm man.toNat (2 ^ (bc - prec).toNat) .nr : Nat) : Int)
  rw [nr_split h0 hn, if_pos ⟨c1, c2⟩]
theorem isM_nr_dn (h0 : 0 ≤ man) (hb : bc = blen man.toNat) (hp : 0 < prec) (hn : 0 < bc - prec) (hr : r.str = Str.ofString "n")
    (c : Builtin.bitAnd (man.fdiv (2 ^ (bc - prec - 1).toNat)) 1 = 0 ∨ (Builtin.bitAnd (man.fdiv (2 ^ (bc - prec - 1).toNat)) 2 = 0 ∧ Builtin.bitAnd man (1 * 2 ^ (bc - prec - 1).toNat - 1) = 0)) :
    IsM sg man bc prec r ((man.fdiv (2 ^ (bc - prec - 1).toNat)).fdiv (2 ^ Int.toNat 1)) e (e + (bc - prec)) prec := by
  have hr' : r = .n := Rnd.str_inj (b := .n) hr
  subst hr'
  refine isM_of h0 hb hp hn ?_
  show _ = ((rm man.toNat (2 ^ (bc - prec).toNat) .nr : Nat) : Int)
  rw [nr_split h0 hn, if_neg ?_]
  rintro ⟨c1, c2⟩
  rcases c with c | ⟨c, c'⟩
  · exact c1 c
  · rcases c2 with c2 | c2
    · exact c2 c
    · exact c2 c'
variable {M e1 bc1 : Int}
theorem nrm_eq (H : IsM sg man bc prec r M e e1 bc1) : nrm sg man.toNat e prec.toNat r = mkM sg M.toNat e1 := by
  unfold nrm
  rw [H.eqE, show M.toNat = rm man.toNat (2 ^ (blen man.toNat - prec.toNat)) (md sg r) by have := H.eqM; omega]
theorem bit0 (h : 0 < M) : Builtin.bitAnd M 1 = ((M.toNat % 2 : Nat) : Int) := by
  obtain ⟨m, rfl⟩ : ∃ m : Nat, M = m := ⟨M.toNat, by omega⟩
  exact bitAnd_one m
theorem end_odd1 (H : IsM sg man bc prec r M e e1 bc1) (ho : ¬ Builtin.bitAnd M 1 = 0) (h1 : M = 1) : nrm sg man.toNat e prec.toNat r = ⟨sg, M, e1, 1⟩ := by
  rw [nrm_eq H, h1]
  rw [mkM_ne (by decide)]
  have := od_of_odd (n := Int.toNat 1) (by decide)
  rw [this.1, this.2]
  simp
  rfl
theorem end_odd (H : IsM sg man bc prec r M e e1 bc1) (ho : ¬ Builtin.bitAnd M 1 = 0) (h1 : ¬ M = 1) : nrm sg man.toNat e prec.toNat r = ⟨sg, M, e1, bc1⟩ := by
  have hp := H.pos
  rw [nrm_eq H, mkM_ne (by omega)]
  rw [bit0 hp] at ho
  have := od_of_odd (n := M.toNat) (by omega)
  rw [this.1, this.2]
  have hl : (blen M.toNat : Int) = bc1 := by
    rcases H.len with h | ⟨h, hb⟩
    · exact h
    · exfalso
      obtain ⟨k, hk⟩ : ∃ k, bc1.toNat = k + 1 := ⟨bc1.toNat - 1, by omega⟩
      rw [hk, Nat.pow_succ] at h
      omega
  congr 1 <;> omega
theorem shr_tz (h : 0 < M) : M.fdiv (2 ^ ((tz M.toNat : Nat) : Int).toNat) = ((od M.toNat : Nat) : Int) := by
  obtain ⟨m, rfl⟩ : ∃ m : Nat, M = m := ⟨M.toNat, by omega⟩
  rw [Int.toNat_natCast, Int.toNat_natCast, fdiv_nat]; rfl
theorem end_ev1 (H : IsM sg man bc prec r M e e1 bc1) (h1 : M.fdiv (2 ^ ((tz M.toNat : Nat) : Int).toNat) = 1) :
    nrm sg man.toNat e prec.toNat r = ⟨sg, M.fdiv (2 ^ ((tz M.toNat : Nat) : Int).toNat), e1 + (tz M.toNat : Nat), 1⟩ := by
  have hp := H.pos
  rw [nrm_eq H, mkM_ne (by omega), shr_tz hp]
  rw [shr_tz hp] at h1
  have : od M.toNat = 1 := by omega
  rw [this]; rfl
theorem end_ev (H : IsM sg man bc prec r M e e1 bc1) (h1 : ¬ M.fdiv (2 ^ ((tz M.toNat : Nat) : Int).toNat) = 1) :
    nrm sg man.toNat e prec.toNat r = ⟨sg, M.fdiv (2 ^ ((tz M.toNat : Nat) : Int).toNat), e1 + (tz M.toNat : Nat), bc1 - (tz M.toNat : Nat)⟩ := by
  have hp := H.pos
  have hM : M.toNat ≠ 0 := by omega
  rw [nrm_eq H, mkM_ne hM, shr_tz hp]
  rw [shr_tz hp] at h1
  have hl := blen_od hM
  have hl2 : (blen M.toNat : Int) = bc1 := by
    rcases H.len with h | ⟨h, hb⟩
    · exact h
    · exfalso
      have := od_tz_of (n := M.toNat) (a := 1) (k := bc1.toNat) (by decide) (by rw [h, Nat.one_mul])
      rw [this.1] at h1
      exact h1 rfl
  congr 1; omega
end
theorem mpf_here {w : World} {led : Led} {T : Addr} {t1 t2 t3 t4 : Tok} {x : Mpf} {s m e b : Int} (hx : x = ⟨s, m, e, b⟩) : IsMpf w ((T, tupO [.int s t1, .int m t2, .int e t3, .int b t4]) :: led) (.ref T) x := by
  subst hx
  exact ⟨T, t1, t2, t3, t4, rfl, Has.here⟩
theorem mpf_zero {w : World} {led : Led} {x : Mpf} (hx : x = ⟨0, 0, 0, 0⟩) : IsMpf w led (.ref 45) x := by
  subst hx
  exact ⟨45, _, _, _, _, rfl, .inl rfl⟩
theorem nrm_zero {sg e : Int} {p : Nat} {r : Rnd} : nrm sg 0 e p r = ⟨0, 0, 0, 0⟩ := by
  unfold nrm
  rw [blen_zero, Nat.zero_sub, Nat.pow_zero, rm_one]; rfl
theorem nrm_zero' {sg man e : Int} {p : Nat} {r : Rnd} (h : man = 0) : nrm sg man.toNat e p r = ⟨0, 0, 0, 0⟩ := by
  subst h; exact nrm_zero
theorem bits_of {man : Int} (h0 : 0 ≤ man) : ((Builtin.Int.intBits man : Nat) : Int) = blen man.toNat := by
  rw [intBits_blen]
  congr 2; omega
end Mine
/-! part Fme -/
namespace Mine
/-! from_man_exp -/
def sgn (man : Int) : Int := if man < 0 then 1 else 0
def fme (man e prec : Int) (r : Rnd) : Mpf := if prec = 0 then mkM (sgn man) man.natAbs e else nrm (sgn man) man.natAbs e prec.toNat r
section
variable {man e prec M sg : Int} {r : Rnd}
theorem fme_pos0 (h : 0 ≤ man) (hp : prec = 0) : fme man e prec r = mkM 0 man.toNat e := by
  unfold fme sgn; rw [if_pos hp, if_neg (by omega)]; congr 1; omega
theorem fme_neg0 (h : man < 0) (hp : prec = 0) : fme man e prec r = mkM 1 (-man).toNat e := by
  unfold fme sgn; rw [if_pos hp, if_pos h]; congr 1; omega
theorem fme_posP (h : 0 ≤ man) (hp : ¬ prec = 0) : fme man e prec r = nrm 0 man.toNat e prec.toNat r := by
  unfold fme sgn; rw [if_neg hp, if_neg (by omega)]; congr 1; omega
theorem fme_negP (h : man < 0) (hp : ¬ prec = 0) : fme man e prec r = nrm 1 (-man).toNat e prec.toNat r := by
  unfold fme sgn; rw [if_neg hp, if_pos h]; congr 1; omega
theorem fme_zero (h : man = 0) (hp : prec = 0) : fme man e prec r = ⟨0, 0, 0, 0⟩ := by
  subst h; rw [fme_pos0 (by omega) hp]; rfl
theorem f_odd (h0 : 0 ≤ M) (hz : ¬ M = 0) (ho : ¬ Builtin.bitAnd M 1 = 0) : mkM sg M.toNat e = ⟨sg, M, e, (Builtin.Int.intBits M : Int)⟩ := by
  rw [bit0 (by omega)] at ho
  have := od_of_odd (n := M.toNat) (by omega)
  rw [mkM_ne (by omega), this.1, this.2, bits_of h0]
  congr 1 <;> omega
theorem f_ev (h0 : 0 ≤ M) (hz : ¬ M = 0) : mkM sg M.toNat e = ⟨sg, M.fdiv (2 ^ ((tz M.toNat : Nat) : Int).toNat), e + (tz M.toNat : Nat), (Builtin.Int.intBits M : Int) - (tz M.toNat : Nat)⟩ := by
  have hM : M.toNat ≠ 0 := by omega
  rw [mkM_ne hM, shr_tz (by omega), bits_of h0]
  have := blen_od hM
  congr 1; omega
theorem f_two (h0 : 0 ≤ M) (hz : ¬ M = 0) (ho : Builtin.bitAnd M 1 = 0) (h2 : ¬ Builtin.bitAnd M 2 = 0) : mkM sg M.toNat e = ⟨sg, M.fdiv (2 ^ Int.toNat 1), e + 1, (Builtin.Int.intBits M : Int) - 1⟩ := by
  obtain ⟨m, rfl⟩ : ∃ m : Nat, M = m := ⟨M.toNat, by omega⟩
  rw [bitAnd_one] at ho
  rw [bitAnd_two] at h2
  have ht : tz m = 1 := (od_tz_of (n := m) (a := m / 2) (k := 1) (by omega) (by omega)).2
  have := f_ev (sg := sg) (e := e) h0 hz
  rw [Int.toNat_natCast, ht] at this
  exact this
end
theorem mpf_of {w : World} {led : Led} {v : Value} {x y : Mpf} (h : x = y) (k : IsMpf w led v y) : IsMpf w led v x := h ▸ k
theorem neg_nonneg' {man : Int} (h : man < 0) : 0 ≤ -man := by omega
theorem neg_ne' {man : Int} (h : ¬ -man = 0) : ¬ -man = 0 := h
end Mine
/-! part Tup -/
namespace Mine
/-! two tuples compared -/
section
variable {w : World} {A : Around} {E : Value → Shared → Prop} {h : Heap} {G : Array GenState} {D : Drawn} {tk : Nat} {O : OsState} {g : Heap} {L : Addr} {m : Str → Option Value} {led : Led} {Q : Value → Shared → Prop} {T U : Addr} {t1 t2 t3 t4 u1 u2 u3 u4 : Tok} {a1 a2 a3 a4 b1 b2 b3 b4 : Int}
theorem reads4 (F : Fr g L h m) (X : (Mine.hd.heap_39 w.params).In g) (N : News g L h led) (x : Has w led T (tupO [.int a1 t1, .int a2 t2, .int a3 t3, .int a4 t4])) :
    Reads h (.ref T) (.tuple ([a1, a2, a3, a4].map PyData.int)) [] :=
  reads_newDataT (x.tup F X N) (.cons (.int _ _) (.cons (.int _ _) (.cons (.int _ _) (.cons (.int _ _) .nil))))
theorem same4 : PySem.Spec.same (.tuple ([a1, a2, a3, a4].map PyData.int)) (.tuple ([b1, b2, b3, b4].map PyData.int)) = decide ((⟨a1, a2, a3, a4⟩ : Mpf) = ⟨b1, b2, b3, b4⟩) := by
  simp only [PySem.Spec.same]
  rw [ke_sameAll]
  simp
theorem shaped4 : SeqAt.shaped (.tuple ([a1, a2, a3, a4].map PyData.int)) = true := by
  simp [SeqAt.shaped, PyData.canLay0, PyData.depth, PyData.canLayAll0, PyData.depthAll]
theorem mix4 : SeqAt.noMix (.tuple ([a1, a2, a3, a4].map PyData.int)) (.tuple ([b1, b2, b3, b4].map PyData.int)) = true := by
  refine SeqAt.noMix_of_shape (.tuple [.int, .int, .int, .int]) rfl _ _ ?_ ?_ <;> rfl
theorem z_eqM (F : Fr g L h m) (X : (Mine.hd.heap_39 w.params).In g) (N : News g L h led) (x : Has w led T (tupO [.int a1 t1, .int a2 t2, .int a3 t3, .int a4 t4])) (y : Has w led U (tupO [.int b1 u1, .int b2 u2, .int b3 u3, .int b4 u4]))
    (hu : A.units + 64 < cLine) (q : Q (.bool (decide ((⟨a1, a2, a3, a4⟩ : Mpf) = ⟨b1, b2, b3, b4⟩))) ⟨h, G, D, tk, O⟩) :
    wpAny (model PySem.Challenge.rw_aj5018_01.row.prog w) A (compareOp .Eq (.ref T) (.ref U)) Q E ⟨h, G, D, tk, O⟩ :=
  eq_dataH_same (reads4 F X N x) (reads4 F X N y) shaped4 shaped4 hu mix4 (by rw [same4]; exact q)
theorem z_neM (F : Fr g L h m) (X : (Mine.hd.heap_39 w.params).In g) (N : News g L h led) (x : Has w led T (tupO [.int a1 t1, .int a2 t2, .int a3 t3, .int a4 t4])) (y : Has w led U (tupO [.int b1 u1, .int b2 u2, .int b3 u3, .int b4 u4]))
    (hu : A.units + 64 < cLine) (q : Q (.bool (!decide ((⟨a1, a2, a3, a4⟩ : Mpf) = ⟨b1, b2, b3, b4⟩))) ⟨h, G, D, tk, O⟩) :
    wpAny (model PySem.Challenge.rw_aj5018_01.row.prog w) A (compareOp .NotEq (.ref T) (.ref U)) Q E ⟨h, G, D, tk, O⟩ :=
  ne_dataH_same (reads4 F X N x) (reads4 F X N y) shaped4 shaped4 hu mix4 (by rw [same4]; exact q)
end
/-- the written tuples -/
theorem has_zero {w : World} {led : Led} : Has w led 45 (tupO [.int 0 256, .int 0 237, .int 0 257, .int 0 258]) := .inl rfl
theorem has_nan {w : World} {led : Led} : Has w led 48 (tupO [.int 0 268, .int 0 237, .int (-123) 270, .int (-1) 272]) := .inl rfl
theorem has_inf {w : World} {led : Led} : Has w led 49 (tupO [.int 0 274, .int 0 237, .int (-456) 276, .int (-2) 278]) := .inl rfl
theorem has_ninf {w : World} {led : Led} : Has w led 50 (tupO [.int 1 280, .int 0 237, .int (-789) 282, .int (-3) 284]) := .inl rfl
theorem mpf_eq_iff {a1 a2 a3 a4 b1 b2 b3 b4 : Int} : ((⟨a1, a2, a3, a4⟩ : Mpf) = ⟨b1, b2, b3, b4⟩) ↔ a1 = b1 ∧ a2 = b2 ∧ a3 = b3 ∧ a4 = b4 := by
  simp
end Mine
/-! part Mul -/
namespace Mine
/-! sizes of products; mpf_mul_int's length -/
theorem intBits_le_iff' {x : Int} {k : Nat} : Builtin.Int.intBits x ≤ k ↔ x.natAbs < 2 ^ k := by rw [intBits_blen]; exact blen_le_iff
theorem intBits_mul (x y : Int) : Builtin.Int.intBits (x * y) ≤ Builtin.Int.intBits x + Builtin.Int.intBits y := by
  rw [intBits_blen, intBits_blen, intBits_blen, Int.natAbs_mul]; exact blen_mul_le _ _
theorem intBits_pow (x : Int) (k : Nat) : Builtin.Int.intBits (x ^ k) ≤ Builtin.Int.intBits x * k + 1 := by
  rw [intBits_blen, intBits_blen, Int.natAbs_pow]; exact blen_pow_le _ _
theorem mulOk {x y : Int} {a b : Nat} (h1 : Builtin.Int.intBits x ≤ a) (h2 : Builtin.Int.intBits y ≤ b) (h : a + b ≤ 2000000 := by omega) : IntMulOk x y :=
  IntMulOk.of_le h1 h2 (by omega)
theorem intBits_small {x : Int} {k : Nat} (h0 : 0 ≤ x) (h : x < 2 ^ k) : Builtin.Int.intBits x ≤ k := by
  rw [intBits_le_iff']
  have e : ((2 : Int) ^ k) = ((2 ^ k : Nat) : Int) := by rw [Int.natCast_pow]; rfl
  rw [e] at h
  omega
theorem mul_len {m n : Nat} (hm : m ≠ 0) (hn : n ≠ 0) : blen m + (blen n - 1) + m * n / 2 ^ (blen m + (blen n - 1)) = blen (m * n) := by
  have a1 := two_blen_le hm
  have a2 := lt_two_blen m
  have b1 := two_blen_le hn
  have b2 := lt_two_blen n
  have c1 : 1 ≤ blen m := by rw [blen_pos hm]; omega
  have c2 : 1 ≤ blen n := by rw [blen_pos hn]; omega
  have lo : 2 ^ (blen m - 1 + (blen n - 1)) ≤ m * n := by rw [Nat.pow_add]; exact Nat.mul_le_mul a1 b1
  have hi : m * n < 2 ^ (blen m + blen n) := by rw [Nat.pow_add]; exact Nat.mul_lt_mul'' a2 b2
  have hb := Nat.two_pow_pos (blen m + (blen n - 1))
  by_cases h : m * n < 2 ^ (blen m + (blen n - 1))
  · rw [Nat.div_eq_of_lt h]
    have := blen_eq lo (by rw [show blen m - 1 + (blen n - 1) + 1 = blen m + (blen n - 1) by omega]; exact h)
    omega
  · have e1 : m * n / 2 ^ (blen m + (blen n - 1)) = 1 := by
      refine Nat.div_eq_of_lt_le (by omega) ?_
      have : 2 ^ (blen m + blen n) = 2 * 2 ^ (blen m + (blen n - 1)) := by
        rw [show blen m + blen n = blen m + (blen n - 1) + 1 by omega, Nat.pow_succ, Nat.mul_comm]
      omega
    rw [e1]
    have := blen_eq (n := m * n) (k := blen m + (blen n - 1)) (by omega) (by rw [show blen m + (blen n - 1) + 1 = blen m + blen n by omega]; exact hi)
    omega
theorem mul_len_int {m n b : Int} (hm : 0 < m) (hn : 0 < n) (hb : b = blen m.toNat) :
    b + ((Builtin.Int.intBits n : Int) - 1) + (m * n).fdiv (2 ^ (b + ((Builtin.Int.intBits n : Int) - 1)).toNat) = blen (m * n).toNat := by
  obtain ⟨a, rfl⟩ : ∃ a : Nat, m = a := ⟨m.toNat, by omega⟩
  obtain ⟨c, rfl⟩ : ∃ c : Nat, n = c := ⟨n.toNat, by omega⟩
  have h := mul_len (m := a) (n := c) (by omega) (by omega)
  rw [intBits_nat, ← Int.natCast_mul, Int.toNat_natCast]
  rw [Int.toNat_natCast] at hb
  subst hb
  have c2 : 1 ≤ blen c := by rw [blen_pos (by omega)]; omega
  rw [show ((blen a : Int) + ((blen c : Int) - 1)).toNat = blen a + (blen c - 1) by omega, fdiv_nat]
  omega
theorem bitXor_zero {x y : Int} (hx : x = 0 ∨ x = 1) (hy : y = 0) : Builtin.bitXor x y = x := by
  subst hy
  rcases hx with rfl | rfl <;> decide
theorem size_add {x k : Int} {n : Nat} (h : Builtin.Int.intBits x ≤ n) (h2 : (n : Int) + k ≤ 134217728) : (Builtin.Int.intBits x : Int) + k ≤ 2 ^ 27 := by omega
theorem size_mul {x k : Int} {n j : Nat} (h : Builtin.Int.intBits x ≤ n) (h0 : 0 ≤ k) (h1 : k ≤ j) (h2 : n * j ≤ 134217728) : (Builtin.Int.intBits x : Int) * k ≤ 2 ^ 27 := by
  have : (Builtin.Int.intBits x : Int) * k ≤ (n : Int) * j := Int.mul_le_mul (by omega) h1 h0 (by omega)
  have e : ((n : Int) * j) = ((n * j : Nat) : Int) := by rw [Int.natCast_mul]
  omega
end Mine
/-! part Flat2 -/
namespace Mine
section
variable {prog : Program} {w : World} {M : Model} {A : Around} {E : Value → Shared → Prop} {h : Heap} {G : Array GenState} {D : Drawn} {tk : Nat} {O : OsState} {a b n : Int} {t u : Tok} {Q : Value → Shared → Prop} {g : Heap} {L : Addr} {m : Str → Option Value} {led : Led}
theorem noPyl (hp : Builtin.Int.intBits b ≤ 8000) : Builtin.divisionGoesByPylong a b = false := by
  refine PyProof.noPylong_of_log2 ?_
  rw [intBits_blen] at hp
  by_cases h : b.natAbs = 0
  · rw [h]; decide +kernel
  · rw [blen_pos h] at hp; omega
theorem z_divmod (F : Fr g L h m) (N : News g L h led) (hb : b ≠ 0) (hp : Builtin.Int.intBits b ≤ 8000)
    (q : ∀ T h', Fr g L h' m → News g L h' ((T, tupO [.int (a.fdiv b) tk, .int (a.fmod b) (tk + 1)]) :: led) → Q (.ref T) ⟨h', G, D, tk + 1 + 1, O⟩) :
    wpAny (model prog w) A (call (.builtin "divmod") [.int a t, .int b u]) Q E ⟨h, G, D, tk, O⟩ :=
  divmod_N F N hb (fun h' F' N' => q _ h' F' N') (Or.inl (noPyl hp))
theorem z_fdiv (hb : b ≠ 0) (hp : Builtin.Int.intBits b ≤ 8000) (q : Q (.int (a.fdiv b) tk) ⟨h, G, D, tk + 1, O⟩) : wpAny (model prog w) A (binaryOp .FloorDiv (.int a t) (.int b u)) Q E ⟨h, G, D, tk, O⟩ :=
  floordiv_int hb q (Or.inl (noPyl hp))
end
end Mine
/-! part Div -/
namespace Mine
/-! mpf_div -/
section
variable {a b : Int} {k : Int}
theorem div_nn (ha : 0 ≤ a) (hb : 0 < b) : 0 ≤ (a * 2 ^ k.toNat).fdiv b :=
  Int.fdiv_nonneg (Int.mul_nonneg ha (Int.le_of_lt (Int.pow_pos (by decide)))) (Int.le_of_lt hb)
theorem div_nn2 (ha : 0 ≤ a) (hb : 0 < b) : 0 ≤ (a * 2 ^ k.toNat).fdiv b * 2 ^ Int.toNat 1 + 1 := by
  have := div_nn (k := k) ha hb
  rw [show (2 : Int) ^ Int.toNat 1 = 2 from rfl]; omega
theorem div_bits {n : Nat} (h : Builtin.Int.intBits a ≤ n) (hk : k ≤ 100000) : Builtin.Int.intBits ((a * 2 ^ k.toNat).fdiv b) ≤ n + 100001 := by
  have h1 := intBits_mul a (2 ^ k.toNat)
  have h2 : Builtin.Int.intBits ((2 : Int) ^ k.toNat) ≤ 100001 := by
    have := intBits_pow 2 k.toNat
    rw [intBits_blen, Int.natAbs_pow, show Int.natAbs 2 = 2 from rfl, show 2 ^ k.toNat = 1 * 2 ^ k.toNat by simp, blen_mul_two_pow (by decide)]
    have : blen 1 = 1 := rfl
    omega
  exact intBits_fdiv_le (by omega)
theorem div_bits2 {n : Nat} (h : Builtin.Int.intBits a ≤ n) (hk : k ≤ 100000) : Builtin.Int.intBits ((a * 2 ^ k.toNat).fdiv b * 2 ^ Int.toNat 1 + 1) ≤ n + 100003 := by
  have h1 := div_bits (b := b) h hk
  rw [intBits_le_iff'] at h1 ⊢
  generalize (a * 2 ^ k.toNat).fdiv b = q at *
  have e : 2 ^ (n + 100003) = 4 * 2 ^ (n + 100001) := by rw [show n + 100003 = n + 100001 + 2 by omega, Nat.pow_add]; omega
  rw [show (2 : Int) ^ Int.toNat 1 = 2 from rfl, e]
  generalize 2 ^ (n + 100001) = B at *
  omega
end
def divP (xs xm xe xb ym ye yb prec : Int) (r : Rnd) : Mpf :=
  if ym = 1 then nrm xs xm.toNat (xe - ye) prec.toNat r else
  let ex := if prec - xb + yb + 5 < 5 then 5 else prec - xb + yb + 5
  if (xm * 2 ^ ex.toNat).fmod ym = 0 then nrm xs ((xm * 2 ^ ex.toNat).fdiv ym).toNat (xe - ye - ex) prec.toNat r
  else nrm xs ((xm * 2 ^ ex.toNat).fdiv ym * 2 ^ Int.toNat 1 + 1).toNat (xe - ye - (ex + 1)) prec.toNat r
section
variable {xs xm xe xb ym ye yb prec : Int} {r : Rnd}
theorem divP_one {X : Int} (hX : X = xs) (h : ym = 1) : divP xs xm xe xb ym ye yb prec r = nrm X xm.toNat (xe - ye) prec.toNat r := by subst hX; unfold divP; rw [if_pos h]
theorem divP_lt0 {X : Int} (hX : X = xs) (h : ¬ ym = 1) (h1 : prec - xb + yb + 5 < 5) (h2 : (xm * 2 ^ Int.toNat 5).fmod ym = 0) : divP xs xm xe xb ym ye yb prec r = nrm X ((xm * 2 ^ Int.toNat 5).fdiv ym).toNat (xe - ye - 5) prec.toNat r := by
  subst hX; unfold divP; rw [if_neg h]; simp only [if_pos h1, if_pos h2]
theorem divP_lt1 {X : Int} (hX : X = xs) (h : ¬ ym = 1) (h1 : prec - xb + yb + 5 < 5) (h2 : ¬ (xm * 2 ^ Int.toNat 5).fmod ym = 0) : divP xs xm xe xb ym ye yb prec r = nrm X ((xm * 2 ^ Int.toNat 5).fdiv ym * 2 ^ Int.toNat 1 + 1).toNat (xe - ye - (5 + 1)) prec.toNat r := by
  subst hX; unfold divP; rw [if_neg h]; simp only [if_pos h1, if_neg h2]
theorem divP_ge0 {X : Int} (hX : X = xs) (h : ¬ ym = 1) (h1 : 5 ≤ prec - xb + yb + 5) (h2 : (xm * 2 ^ (prec - xb + yb + 5).toNat).fmod ym = 0) : divP xs xm xe xb ym ye yb prec r = nrm X ((xm * 2 ^ (prec - xb + yb + 5).toNat).fdiv ym).toNat (xe - ye - (prec - xb + yb + 5)) prec.toNat r := by
  subst hX; unfold divP; rw [if_neg h]; simp only [if_neg (Int.not_lt.mpr h1), if_pos h2]
theorem divP_ge1 {X : Int} (hX : X = xs) (h : ¬ ym = 1) (h1 : 5 ≤ prec - xb + yb + 5) (h2 : ¬ (xm * 2 ^ (prec - xb + yb + 5).toNat).fmod ym = 0) : divP xs xm xe xb ym ye yb prec r = nrm X ((xm * 2 ^ (prec - xb + yb + 5).toNat).fdiv ym * 2 ^ Int.toNat 1 + 1).toNat (xe - ye - (prec - xb + yb + 5 + 1)) prec.toNat r := by
  subst hX; unfold divP; rw [if_neg h]; simp only [if_neg (Int.not_lt.mpr h1), if_neg h2]
theorem divP_zero (h : xm = 0) : divP xs xm xe xb ym ye yb prec r = ⟨0, 0, 0, 0⟩ := by
  subst h
  unfold divP
  have : ∀ k, ((0 : Int) * 2 ^ k).fdiv ym = 0 := fun k => by rw [Int.zero_mul, Int.zero_fdiv]
  have h2 : ∀ k, ((0 : Int) * 2 ^ k).fmod ym = 0 := fun k => by rw [Int.zero_mul, Int.zero_fmod]
  split
  · exact nrm_zero
  · simp only [this, h2, if_true]; exact nrm_zero
end
theorem fdiv_bits_ok {q : Int} {n : Nat} (h : Builtin.Int.intBits q ≤ n) (hn : (n : Int) ≤ 1000000) : ((Builtin.Int.intBits q : Nat) : Int) ≤ 1000000 := by omega
end Mine
/-! part Rat -/
namespace Mine
/-! a whole number's tuple, as mpf_div asks it -/
theorem mkM_fields {s e : Int} {m : Nat} (hs : s = 0 ∨ s = 1) :
    ((mkM s m e).s = 0 ∨ (mkM s m e).s = 1) ∧ 0 ≤ (mkM s m e).m ∧ ((mkM s m e).m = 0 → (mkM s m e).s = 0 ∧ (mkM s m e).e = 0 ∧ (mkM s m e).b = 0) ∧ (mkM s m e).b = blen (mkM s m e).m.toNat ∧ Builtin.Int.intBits (mkM s m e).m ≤ blen m := by
  by_cases h : m = 0
  · subst h
    rw [mkM_zero]
    exact ⟨.inl rfl, by decide, fun _ => ⟨rfl, rfl, rfl⟩, rfl, Nat.zero_le _⟩
  · rw [mkM_ne h]
    have ho := od_pos h
    refine ⟨hs, by show (0 : Int) ≤ (od m : Nat); omega, fun h0 => ?_, ?_, ?_⟩
    · have : ((od m : Nat) : Int) = 0 := h0
      omega
    · show ((blen (od m) : Nat) : Int) = _
      rw [Int.toNat_natCast]
    · show Builtin.Int.intBits ((od m : Nat) : Int) ≤ _
      rw [intBits_nat]
      have := blen_od h
      omega
theorem sgn_01 (n : Int) : sgn n = 0 ∨ sgn n = 1 := by unfold sgn; split <;> simp
theorem fme0 (n e : Int) (r : Rnd) : fme n e 0 r = mkM (sgn n) n.natAbs e := if_pos rfl
/-- what from_rational hands back -/
def ratP (p q prec : Int) (r : Rnd) : Mpf := divP (fme p 0 0 .d).s (fme p 0 0 .d).m (fme p 0 0 .d).e (fme p 0 0 .d).b (fme q 0 0 .d).m (fme q 0 0 .d).e (fme q 0 0 .d).b prec r
theorem fme_f1 (n : Int) : (fme n 0 0 .d).s = 0 ∨ (fme n 0 0 .d).s = 1 := by rw [fme0]; exact (mkM_fields (sgn_01 n)).1
theorem fme_f2 (n : Int) : 0 ≤ (fme n 0 0 .d).m := by rw [fme0]; exact (mkM_fields (sgn_01 n)).2.1
theorem fme_f3 (n : Int) : (fme n 0 0 .d).m = 0 → (fme n 0 0 .d).s = 0 ∧ (fme n 0 0 .d).e = 0 ∧ (fme n 0 0 .d).b = 0 := by rw [fme0]; exact (mkM_fields (sgn_01 n)).2.2.1
theorem fme_f4 (n : Int) : (fme n 0 0 .d).b = blen (fme n 0 0 .d).m.toNat := by rw [fme0]; exact (mkM_fields (sgn_01 n)).2.2.2.1
theorem fme_f5 {n : Int} {k : Nat} (h : Builtin.Int.intBits n ≤ k) : Builtin.Int.intBits (fme n 0 0 .d).m ≤ k := by
  rw [fme0]
  have := (mkM_fields (e := 0) (m := n.natAbs) (sgn_01 n)).2.2.2.2
  rw [intBits_blen] at h
  omega
theorem fme_g1 {n : Int} (h : 0 < n) : (fme n 0 0 .d).s = 0 := by
  rw [fme0, mkM_ne (by omega)]
  show sgn n = 0
  unfold sgn; rw [if_neg (by omega)]
theorem fme_g2 {n : Int} (h : 0 < n) : 0 < (fme n 0 0 .d).m := by
  rw [fme0, mkM_ne (by omega)]
  have := od_pos (n := n.natAbs) (by omega)
  show (0 : Int) < (od n.natAbs : Nat)
  omega
theorem fme_g3 (n : Int) : 0 ≤ (fme n 0 0 .d).b := by rw [fme_f4]; omega
theorem fme_g4 {n : Int} {k : Nat} (h : Builtin.Int.intBits n ≤ k) (hk : k ≤ 30000) : (fme n 0 0 .d).b ≤ 30000 := by
  rw [fme_f4]
  have := fme_f5 h
  have e := bits_of (fme_f2 n)
  omega
end Mine
/-! part Cmp -/
namespace Mine
/-! two numbers from 0 on compared -/
def vlt (m1 e1 m2 e2 : Int) : Prop := m1 * 2 ^ (e1 - e2).toNat < m2 * 2 ^ (e2 - e1).toNat
def vle (m1 e1 m2 e2 : Int) : Prop := m1 * 2 ^ (e1 - e2).toNat ≤ m2 * 2 ^ (e2 - e1).toNat
theorem two_pow_pos' (k : Nat) : (0 : Int) < 2 ^ k := Int.pow_pos (by decide)
/-- what mpf_cmp's number says -/
structure Cm (c m1 e1 m2 e2 : Int) : Prop where
  lt : c < 0 ↔ vlt m1 e1 m2 e2
  le : c ≤ 0 ↔ vle m1 e1 m2 e2
theorem Cm.of {c m1 e1 m2 e2 : Int} (h : (c < 0 ∧ vlt m1 e1 m2 e2) ∨ (c = 0 ∧ m1 * 2 ^ (e1 - e2).toNat = m2 * 2 ^ (e2 - e1).toNat) ∨ (0 < c ∧ vlt m2 e2 m1 e1)) : Cm c m1 e1 m2 e2 := by
  unfold vlt at h
  constructor
  · unfold vlt; omega
  · unfold vle; omega
theorem nrm_s {sg e : Int} {m p : Nat} {r : Rnd} (hm : m ≠ 0) (hp : 0 < p) : (nrm sg m e p r).s = sg := by
  unfold nrm
  have h1 := two_blen_le hm
  have hr := rm_le m (2 ^ (blen m - p)) (md sg r)
  have hq : 1 ≤ m / 2 ^ (blen m - p) := by
    rw [Nat.le_div_iff_mul_le (Nat.two_pow_pos _), Nat.one_mul]
    refine Nat.le_trans (Nat.pow_le_pow_right (by decide) ?_) h1
    omega
  rw [mkM_ne (by omega)]
theorem cm_zz {m1 e1 m2 e2 : Int} (h1 : m1 = 0) (h2 : m2 = 0) : Cm (-0) m1 e1 m2 e2 := by
  subst h1; subst h2
  exact .of (.inr (.inl ⟨rfl, by rw [Int.zero_mul, Int.zero_mul]⟩))
theorem cm_zp {m1 e1 m2 e2 : Int} (h1 : m1 = 0) (h2 : 0 < m2) : Cm (-1) m1 e1 m2 e2 := by
  subst h1
  refine .of (.inl ⟨by decide, ?_⟩)
  unfold vlt
  rw [Int.zero_mul]
  exact Int.mul_pos h2 (two_pow_pos' _)
theorem cm_pz {m1 e1 m2 e2 : Int} (h1 : 0 < m1) (h2 : m2 = 0) : Cm 1 m1 e1 m2 e2 := by
  subst h2
  refine .of (.inr (.inr ⟨by decide, ?_⟩))
  unfold vlt
  rw [Int.zero_mul]
  exact Int.mul_pos h1 (two_pow_pos' _)
theorem cm_eq {m1 e1 m2 e2 : Int} (he : e1 = e2) (h : m1 = m2) : Cm 0 m1 e1 m2 e2 := by
  subst he; subst h
  exact .of (.inr (.inl ⟨rfl, rfl⟩))
theorem cm_elt {m1 e1 m2 e2 : Int} (he : e1 = e2) (h : m1 < m2) : Cm (-1) m1 e1 m2 e2 := by
  subst he
  refine .of (.inl ⟨by decide, ?_⟩)
  unfold vlt
  exact Int.mul_lt_mul_of_pos_right h (two_pow_pos' _)
theorem cm_egt {m1 e1 m2 e2 : Int} (he : e1 = e2) (h : m2 < m1) : Cm 1 m1 e1 m2 e2 := by
  subst he
  refine .of (.inr (.inr ⟨by decide, ?_⟩))
  unfold vlt
  exact Int.mul_lt_mul_of_pos_right h (two_pow_pos' _)
theorem vlt_len {m1 e1 b1 m2 e2 b2 : Int} (p1 : 0 < m1) (p2 : 0 < m2) (h1 : b1 = blen m1.toNat) (h2 : b2 = blen m2.toNat) (h : b1 + e1 < b2 + e2) : vlt m1 e1 m2 e2 := by
  obtain ⟨a, rfl⟩ : ∃ a : Nat, m1 = a := ⟨m1.toNat, by omega⟩
  obtain ⟨c, rfl⟩ : ∃ c : Nat, m2 = c := ⟨m2.toNat, by omega⟩
  rw [Int.toNat_natCast] at h1 h2
  unfold vlt
  have k1 := lt_two_blen a
  have k2 := two_blen_le (n := c) (by omega)
  have c2 : 1 ≤ blen c := by rw [blen_pos (by omega)]; omega
  have e : ∀ k : Nat, ((2 : Int) ^ k) = ((2 ^ k : Nat) : Int) := fun k => by rw [Int.natCast_pow]; rfl
  rw [e, e, ← Int.natCast_mul, ← Int.natCast_mul]
  have s1 : a * 2 ^ (e1 - e2).toNat < 2 ^ (blen a + (e1 - e2).toNat) := by
    rw [Nat.pow_add]; exact Nat.mul_lt_mul_of_pos_right k1 (Nat.two_pow_pos _)
  have s2 : 2 ^ (blen c - 1 + (e2 - e1).toNat) ≤ c * 2 ^ (e2 - e1).toNat := by
    rw [Nat.pow_add]; exact Nat.mul_le_mul_right _ k2
  have s3 : 2 ^ (blen a + (e1 - e2).toNat) ≤ 2 ^ (blen c - 1 + (e2 - e1).toNat) := Nat.pow_le_pow_right (by decide) (by omega)
  omega
theorem cm_lt {m1 e1 b1 m2 e2 b2 : Int} (p1 : 0 < m1) (p2 : 0 < m2) (h1 : b1 = blen m1.toNat) (h2 : b2 = blen m2.toNat) (h : b1 + e1 < b2 + e2) : Cm (-1) m1 e1 m2 e2 :=
  .of (.inl ⟨by decide, vlt_len p1 p2 h1 h2 h⟩)
theorem cm_gt {m1 e1 b1 m2 e2 b2 : Int} (p1 : 0 < m1) (p2 : 0 < m2) (h1 : b1 = blen m1.toNat) (h2 : b2 = blen m2.toNat) (h : b2 + e2 < b1 + e1) : Cm 1 m1 e1 m2 e2 :=
  .of (.inr (.inr ⟨by decide, vlt_len p2 p1 h2 h1 h⟩))
/-- the difference, brought to the lower exponent -/
def dif (m1 e1 m2 e2 : Int) : Int := m1 * 2 ^ (e1 - e2).toNat - m2 * 2 ^ (e2 - e1).toNat
theorem odd_shift {a : Int} {k : Nat} (hk : 0 < k) : (a * 2 ^ k) % 2 = 0 := by
  obtain ⟨j, rfl⟩ : ∃ j, k = j + 1 := ⟨k - 1, by omega⟩
  rw [Int.pow_succ, ← Int.mul_assoc]
  exact Int.mul_emod_left _ _
theorem dif_ne {m1 e1 m2 e2 : Int} (o1 : m1 % 2 = 1) (o2 : m2 % 2 = 1) (he : ¬ e1 = e2) : dif m1 e1 m2 e2 ≠ 0 := by
  unfold dif
  by_cases h : e2 < e1
  · have := odd_shift (a := m1) (k := (e1 - e2).toNat) (by omega)
    rw [show (e2 - e1).toNat = 0 by omega, Int.pow_zero, Int.mul_one]
    omega
  · have := odd_shift (a := m2) (k := (e2 - e1).toNat) (by omega)
    rw [show (e1 - e2).toNat = 0 by omega, Int.pow_zero, Int.mul_one]
    omega
theorem cm_neg {m1 e1 m2 e2 : Int} (h : dif m1 e1 m2 e2 < 0) : Cm (-1) m1 e1 m2 e2 := by
  refine .of (.inl ⟨by decide, ?_⟩)
  unfold vlt; unfold dif at h; omega
theorem cm_pos {m1 e1 m2 e2 : Int} (h : ¬ dif m1 e1 m2 e2 < 0) (hn : dif m1 e1 m2 e2 ≠ 0) : Cm 1 m1 e1 m2 e2 := by
  refine .of (.inr (.inr ⟨by decide, ?_⟩))
  unfold vlt; unfold dif at h hn; omega
theorem dif_gt {m1 e1 m2 e2 : Int} (h : 0 < e1 - e2) : m1 * 2 ^ (e1 - e2).toNat - m2 = dif m1 e1 m2 e2 := by
  unfold dif
  rw [show (e2 - e1).toNat = 0 by omega, Int.pow_zero, Int.mul_one]
theorem dif_lt {m1 e1 m2 e2 : Int} (h : e1 - e2 < 0) : m1 - m2 * 2 ^ (-(e1 - e2)).toNat = dif m1 e1 m2 e2 := by
  unfold dif
  rw [show (e1 - e2).toNat = 0 by omega, Int.pow_zero, Int.mul_one, show (-(e1 - e2)).toNat = (e2 - e1).toNat by omega]
/-- what mpf_sub hands back, as far as it is asked -/
def IsDif (w : World) (led : Led) (v : Value) (d : Int) : Prop := ∃ y, IsMpf w led v y ∧ ((y.s = 0 ∧ 0 ≤ d) ∨ (y.s = 1 ∧ d < 0))
theorem isDif_pos {w : World} {led : Led} {D : Addr} {t1 t2 t3 t4 : Tok} {d x e p : Int} {r : Rnd} (hx : x = d) (h : 0 ≤ x) (hp : 0 < p)
    (k : Has w led D (tupO [.int (nrm 0 x.toNat e p.toNat r).s t1, .int (nrm 0 x.toNat e p.toNat r).m t2, .int (nrm 0 x.toNat e p.toNat r).e t3, .int (nrm 0 x.toNat e p.toNat r).b t4])) : IsDif w led (.ref D) d := by
  refine ⟨_, ⟨D, t1, t2, t3, t4, rfl, k⟩, .inl ⟨?_, by omega⟩⟩
  by_cases h0 : x.toNat = 0
  · rw [h0, nrm_zero]
  · exact nrm_s h0 (by omega)
theorem isDif_neg {w : World} {led : Led} {D : Addr} {t1 t2 t3 t4 : Tok} {d x e p : Int} {r : Rnd} (hx : x = d) (h : x < 0) (hp : 0 < p)
    (k : Has w led D (tupO [.int (nrm 1 (-x).toNat e p.toNat r).s t1, .int (nrm 1 (-x).toNat e p.toNat r).m t2, .int (nrm 1 (-x).toNat e p.toNat r).e t3, .int (nrm 1 (-x).toNat e p.toNat r).b t4])) : IsDif w led (.ref D) d :=
  ⟨_, ⟨D, t1, t2, t3, t4, rfl, k⟩, .inr ⟨nrm_s (by omega) (by omega), by omega⟩⟩
theorem bits_sub {a b : Int} {n : Nat} (h1 : Builtin.Int.intBits a ≤ n) (h2 : Builtin.Int.intBits b ≤ n) : Builtin.Int.intBits (a - b) ≤ n + 1 := by
  rw [intBits_le_iff'] at *
  have : 2 ^ (n + 1) = 2 * 2 ^ n := by rw [Nat.pow_succ, Nat.mul_comm]
  omega
theorem bits_neg {a : Int} : Builtin.Int.intBits (-a) = Builtin.Int.intBits a := by rw [intBits_blen, intBits_blen, Int.natAbs_neg]
theorem bits_shl {a k : Int} {n : Nat} (h : Builtin.Int.intBits a ≤ n) (hk : k ≤ 10000) : Builtin.Int.intBits (a * 2 ^ k.toNat) ≤ n + 10001 := by
  have h1 := intBits_mul a (2 ^ k.toNat)
  have h2 : Builtin.Int.intBits ((2 : Int) ^ k.toNat) ≤ 10001 := by
    rw [intBits_blen, Int.natAbs_pow, show Int.natAbs 2 = 2 from rfl, show 2 ^ k.toNat = 1 * 2 ^ k.toNat by simp, blen_mul_two_pow (by decide)]
    have : blen 1 = 1 := rfl
    omega
  omega
section
variable {w : World} {A : Around} {E : Value → Shared → Prop} {h : Heap} {G : Array GenState} {D : Drawn} {tk : Nat} {O : OsState} {g : Heap} {L : Addr} {m : Str → Option Value} {led : Led} {Q : Value → Shared → Prop} {T : Addr} {value slice : PySem.Expr} {k : Int} {u : Tok} {items : List Value}
theorem z_item {v : Value} (F : Fr g L h m) (X : (Mine.hd.heap_39 w.params).In g) (N : News g L h led) (x : Has w led T (tupO items)) (j : Nat) (hlo : -(2 ^ 63) ≤ k) (hhi : k < 2 ^ 63) (hj : seqIndex? k items.length = some j) (hx : items[j]? = some v)
    (q : Q v ⟨h, G, D, tk, O⟩) (hs : subscripted slice false (.ref T) (.int k u) = operate [.ref T, .int k u] (getItem (.ref T) (.int k u))) :
    wpAny (model PySem.Challenge.rw_aj5018_01.row.prog w) A (subscriptTail value slice (.ref T) (.int k u)) Q E ⟨h, G, D, tk, O⟩ :=
  item_tupleT (x.tup F X N) hlo hhi hj hx q hs
end
end Mine
/-! part Text -/
namespace Mine
/-! texts by their codes -/
def S (l : List Nat) : Str := ⟨l.toArray⟩
theorem S_len (l : List Nat) : (S l).length = l.length := by
  show l.toArray.size = _
  simp
theorem S_append (a b : List Nat) : S a ++ S b = S (a ++ b) := by
  apply Str.ext'
  rw [Str.cps_append]
  simp [S]
theorem S_list (l : List Nat) : (S l).cps.toList = l := by simp [S]
theorem S_of (x : Str) : x = S x.cps.toList := by
  apply Str.ext'
  simp [S]
theorem S_inj {a b : List Nat} : S a = S b ↔ a = b := by
  constructor
  · intro h; rw [← S_list a, ← S_list b, h]
  · intro h; rw [h]
/-- a figure's sign -/
def dg (d : Nat) : Nat := if d < 10 then 48 + d else 87 + d
/-- the figures of n in the base b, the lowest first -/
def numF (b : Nat) : Nat → Nat → List Nat
  | 0, _ => []
  | f + 1, n => if n = 0 then [] else (n % b) :: numF b f (n / b)
def figs (b n : Nat) : List Nat := numF b n n
theorem numF_fuel {b : Nat} (hb : 2 ≤ b) : ∀ (f g n : Nat), n ≤ f → n ≤ g → numF b f n = numF b g n
  | 0, g, n, h, _ => by
    have : n = 0 := by omega
    subst this
    cases g <;> simp [numF]
  | f + 1, 0, n, _, h => by
    have : n = 0 := by omega
    subst this
    simp [numF]
  | f + 1, g + 1, n, h1, h2 => by
    simp only [numF]
    by_cases hn : n = 0
    · rw [if_pos hn, if_pos hn]
    · rw [if_neg hn, if_neg hn]
      have : n / b < n := Nat.div_lt_self (by omega) hb
      rw [numF_fuel hb f g (n / b) (by omega) (by omega)]
theorem figs_zero (b : Nat) : figs b 0 = [] := rfl
theorem figs_pos {b n : Nat} (hb : 2 ≤ b) (hn : n ≠ 0) : figs b n = (n % b) :: figs b (n / b) := by
  unfold figs
  obtain ⟨m, rfl⟩ : ∃ m, n = m + 1 := ⟨n - 1, by omega⟩
  rw [numF, if_neg hn]
  have : (m + 1) / b < m + 1 := Nat.div_lt_self (by omega) hb
  rw [numF_fuel hb m ((m + 1) / b) _ (by omega) (Nat.le_refl _)]
theorem figs_lt {b : Nat} (hb : 2 ≤ b) : ∀ n, ∀ d ∈ figs b n, d < b := by
  intro n
  induction n using Nat.strongRecOn with
  | ind n ih =>
    by_cases hn : n = 0
    · subst hn; simp [figs_zero]
    · rw [figs_pos hb hn]
      intro d hd
      rcases List.mem_cons.mp hd with rfl | hd
      · exact Nat.mod_lt _ (by omega)
      · exact ih _ (Nat.div_lt_self (by omega) hb) d hd
theorem figs_len {b : Nat} (hb : 2 ≤ b) : ∀ k n, n < b ^ k → (figs b n).length ≤ k
  | 0, n, h => by
    have : n = 0 := by simpa using h
    subst this; simp [figs_zero]
  | k + 1, n, h => by
    by_cases hn : n = 0
    · subst hn; simp [figs_zero]
    · rw [figs_pos hb hn, List.length_cons]
      have := figs_len hb k (n / b) (by rw [Nat.div_lt_iff_lt_mul (by omega), ← Nat.pow_succ]; exact h)
      omega
theorem figs_len_blen {b : Nat} (hb : 2 ≤ b) (n : Nat) : (figs b n).length ≤ blen n :=
  figs_len hb _ _ (Nat.lt_of_lt_of_le (lt_two_blen n) (Nat.pow_le_pow_left hb _))
/-- the numeral's signs, the highest figure first -/
def numS (b n : Nat) : List Nat := if n = 0 then [48] else (figs b n).reverse.map dg
theorem numS_len {b : Nat} (hb : 2 ≤ b) (n : Nat) : (numS b n).length ≤ blen n + 1 := by
  unfold numS
  split
  · simp
  · have := figs_len_blen hb n
    simp
    omega
def stdD : Str := Str.ofString "0123456789abcdefghijklmnopqrstuvwxyz"
theorem std_item : ∀ d : _root_.Fin 36, Txt.item stdD (d.val : Int) = S [dg d.val] := by decide +kernel
theorem std_len : stdD.length = 36 := by decide +kernel
theorem join_ones (l : List Nat) : Txt.join (Str.ofString "") (l.map fun d => S [d]) = S l := by
  show Builtin.Str.glued _ _ = _
  cases l with
  | nil => rfl
  | cons a r =>
    unfold Builtin.Str.glued
    simp only [List.map_cons, List.drop_one, List.tail_cons, List.headD_cons]
    have h : ∀ (r : List Nat) (acc : Array Nat), (r.map fun d => S [d]).foldl (fun acc p => acc ++ (Str.ofString "").cps ++ p.cps) acc = acc ++ r.toArray := by
      intro r
      induction r with
      | nil => intro acc; simp
      | cons b r ih =>
        intro acc
        rw [List.map_cons, List.foldl_cons, ih]
        have e : (Str.ofString "").cps = #[] := rfl
        rw [e]
        apply Array.toList_inj.mp
        simp [S]
    rw [h]
    apply Str.ext'
    simp [S]
theorem joinOk_ones (l : List Nat) (h : l.length ≤ 10000) : JoinOk (Str.ofString "") (l.map fun d => S [d]) = true := by
  unfold JoinOk
  have e : ∀ (r : List Nat) (acc : Nat), (r.map fun d => S [d]).foldl (fun x1 x2 => x1 + x2.length + (Str.ofString "").length) acc = acc + r.length := by
    intro r
    induction r with
    | nil => intro acc; simp
    | cons b r ih =>
      intro acc
      rw [List.map_cons, List.foldl_cons, ih]
      have e : (Str.ofString "").length = 0 := rfl
      rw [e, S_len]
      simp
      omega
  rw [List.foldl_toArray, e]
  unfold Builtin.Str.tooLong
  rw [sizeLine_eq]
  simp
  omega
theorem dg10 : ∀ d : Nat, d < 10 → (Nat.digitChar d).toNat = dg d := by decide
theorem toDigits10 (n : Nat) : (Nat.toDigits 10 n).map Char.toNat = numS 10 n := by
  induction n using Nat.strongRecOn with
  | ind n ih =>
    by_cases h : n < 10
    · rw [Nat.toDigits_of_lt_base h]
      unfold numS
      by_cases h0 : n = 0
      · subst h0; rfl
      · rw [if_neg h0, figs_pos (by decide) h0, show n / 10 = 0 by omega, show n % 10 = n by omega, figs_zero]
        show [(Nat.digitChar n).toNat] = [dg n]
        rw [dg10 n h]
    · have hm : n % 10 < 10 := Nat.mod_lt n (by decide)
      have t : Nat.toDigits 10 (n / 10) ++ Nat.toDigits 10 (n % 10) = Nat.toDigits 10 (10 * (n / 10) + n % 10) := Nat.toDigits_append_toDigits (by decide) (by omega) hm
      rw [Nat.div_add_mod] at t
      rw [← t, List.map_append, Nat.toDigits_of_lt_base hm, ih (n / 10) (by omega)]
      unfold numS
      rw [if_neg (by omega), if_neg (by omega), figs_pos (n := n) (by decide) (by omega), List.reverse_cons, List.map_append]
      show _ ++ [(Nat.digitChar (n % 10)).toNat] = _ ++ [dg (n % 10)]
      rw [dg10 _ hm]
theorem str10 (n : Nat) : Str.ofString (toString (n : Int)) = S (numS 10 n) := by
  rw [S_of (Str.ofString _), S_inj, KIN.signs_num, toDigits10]
theorem str10' {n : Int} (h : 0 ≤ n) : Str.ofString (toString n) = S (numS 10 n.toNat) := by
  obtain ⟨m, rfl⟩ : ∃ m : Nat, n = m := ⟨n.toNat, by omega⟩
  exact str10 m
end Mine
/-! part While -/
namespace Mine
section
variable {w : World} {A : Around} {h : Heap} {G : Array GenState} {D : Drawn} {tk : Nat} {O : OsState} {g : Heap} {L : Addr} {m : Str → Option Value} {led led0 : Led} {E : Value → Shared → Prop} {Q : Value → Shared → Prop} {T : Addr}
theorem z_append {xs : List Value} {c : Nat} {v : Value} (F : Fr g L h m) (N : News g L h led) (hm : (T, W.listOf xs.toArray c) ∈ led) (hs : ∀ p ∈ led0, p ∈ led) (hne : ∀ p ∈ led0, p.1 ≠ T) (hz : xs.length ≤ 1000000)
    (q : ∀ h', Fr g L h' m → News g L h' ((T, W.listOf (xs ++ [v]).toArray (c + 1)) :: led0) → Q .none ⟨h', G, D, tk, O⟩) :
    wpAny (model PySem.Challenge.rw_aj5018_01.row.prog w) A (call (.builtin "list.append") [.ref T, v]) Q E ⟨h, G, D, tk, O⟩ := by
  have N0 : News g L h ((T, W.listOf xs.toArray c) :: led0) := by
    intro p hp
    rcases List.mem_cons.mp hp with rfl | hp
    · exact N _ hm
    · exact N _ (hs _ hp)
  refine append_K (its := xs.toArray) (n := c) (news' := (T, W.listOf (xs ++ [v]).toArray (c + 1)) :: led0) F N0 ?_ (fun h' F' N' => q h' F' N') (by rw [sizeLine_eq, List.size_toArray]; omega)
  have : xs.toArray.push v = (xs ++ [v]).toArray := by simp
  rw [this]
  exact .head hne
theorem z_list {vs : List Value} (F : Fr g L h m) (N : News g L h led) (hz : vs.length ≤ sizeLine)
    (q : ∀ T h', Fr g L h' m → News g L h' ((T, W.listOf vs.toArray 0) :: led) → (∀ p ∈ led, p.1 ≠ T) → Q (.ref T) ⟨h', G, D, tk, O⟩) : wpAny (model PySem.Challenge.rw_aj5018_01.row.prog w) A (newList vs) Q E ⟨h, G, D, tk, O⟩ :=
  newList_K F N (fun T h' F' N' hl => q T h' F' N' fun p hp => Nat.ne_of_lt (hl p hp)) hz
theorem z_join {x : Str} {t : Tok} {l : List (Str × Tok)} {fs : List Nat} {c : Nat} (N : News g L h led) (hm : (T, W.listOf (strValues l).toArray c) ∈ led) (hx : x = Str.ofString "") (hl : l.map (·.1) = fs.map fun d => S [d]) (hz : fs.length ≤ 10000)
    (q : ∀ t' tk', Q (.str (S fs) t') ⟨h, G, D, tk', O⟩) : wpAny (model PySem.Challenge.rw_aj5018_01.row.prog w) A (call (.builtin "str.join") [.str x t, .ref T]) Q E ⟨h, G, D, tk, O⟩ := by
  subst hx
  refine SC.join (N.isList hm) hl (joinOk_ones fs hz) fun t' k => ?_
  rw [join_ones]
  exact q t' k
theorem z_figure {value slice : PySem.Expr} {d : Int} {t u : Tok} (h0 : 0 ≤ d) (h1 : d < 36) (q : Q (.str (S [dg d.toNat]) tk) ⟨h, G, D, tk + 1, O⟩)
    (hs : subscripted slice false (.str stdD t) (.int d u) = operate [.str stdD t, .int d u] (getItem (.str stdD t) (.int d u))) (hl : ∀ r, letTemporaryGo value (.str stdD t) r = pure ()) :
    wpAny (model PySem.Challenge.rw_aj5018_01.row.prog w) A (subscriptTail value slice (.str stdD t) (.int d u)) Q E ⟨h, G, D, tk, O⟩ := by
  refine KXi.item (n := 36) std_len (by omega) (by omega) (by decide) (fun _ => ?_) hs hl
  obtain ⟨k, rfl⟩ : ∃ k : Nat, d = k := ⟨d.toNat, by omega⟩
  have := std_item ⟨k, by omega⟩
  rw [this]
  exact q
end
def Hold (P : Prop) : Prop := P
theorem Hold.out {P : Prop} (h : Hold P) : P := h
theorem z_str {w : World} {A : Around} {h : Heap} {G : Array GenState} {D : Drawn} {tk : Nat} {O : OsState} {E Q : Value → Shared → Prop} {n : Int} {t : Tok} (h0 : 0 ≤ n) (hb : Builtin.Int.intBits n ≤ 1900) (q : Q (.str (S (numS 10 n.toNat)) tk) ⟨h, G, D, tk + 1, O⟩) :
    wpAny (model PySem.Challenge.rw_aj5018_01.row.prog w) A (call (.type "str") [.int n t]) Q E ⟨h, G, D, tk, O⟩ := by
  refine P.str_of_int ?_ ?_
  · rw [intBits_blen] at hb
    by_cases h : n.natAbs = 0
    · rw [h]; decide
    · rw [blen_pos h] at hb; omega
  · have := str10' h0
    show Q (.str (Str.ofString (toString n)) tk) _
    rw [this]
    exact q
/-- the numeral's loop -/
def SnJ (ns : List Str) (b : Int) (tb td : Tok) (T : Addr) (led : Led) (n0 : Nat) (k : Nat) (m : Str → Option Value) (led1 : Led) : Prop :=
  ∃ t l c ov fs, m = tm ns [some (.int k t), some (.int b tb), some (.str stdD td), some (.ref T), ov] ∧ led1 = (T, W.listOf (strValues l).toArray c) :: led ∧ l.map (·.1) = (fs.map dg).map (fun d => S [d]) ∧ fs ++ figs b.toNat k = figs b.toNat n0 ∧ k ≤ n0
theorem snJ_start {ns : List Str} {b : Int} {tb td t : Tok} {T : Addr} {led : Led} {n : Int} {ov : Option Value} (h : 0 ≤ n) :
    SnJ ns b tb td T led n.toNat n.toNat (tm ns [some (.int n t), some (.int b tb), some (.str stdD td), some (.ref T), ov]) ((T, W.listOf [].toArray 0) :: led) :=
  ⟨t, [], 0, ov, [], by rw [Int.toNat_of_nonneg h], rfl, rfl, rfl, Nat.le_refl _⟩
theorem snJ_len {b : Int} {n0 k : Nat} {fs : List Nat} (hb : 2 ≤ b) (h : fs ++ figs b.toNat k = figs b.toNat n0) (hn : blen n0 ≤ 400) : fs.length ≤ 400 := by
  have h1 := figs_len_blen (b := b.toNat) (by omega) n0
  have h2 := congrArg List.length h
  rw [List.length_append] at h2
  omega
theorem snJ_step {ns : List Str} {b : Int} {tb td t u : Tok} {T : Addr} {led : Led} {n0 k : Nat} {ov : Option Value} {l : List (Str × Tok)} {c : Nat} {fs : List Nat} (hb : 2 ≤ b) (hk : ¬ (k : Int) = 0) (hkn : k ≤ n0) (hl : l.map (·.1) = (fs.map dg).map (fun d => S [d])) (hf : fs ++ figs b.toNat k = figs b.toNat n0) :
    SnJ ns b tb td T led n0 ((k : Int).fdiv b).toNat (tm ns [some (.int ((k : Int).fdiv b) t), some (.int b tb), some (.str stdD td), some (.ref T), ov]) ((T, W.listOf (strValues l ++ [Value.str (S [dg ((k : Int).fmod b).toNat]) u]).toArray (c + 1)) :: led) := by
  obtain ⟨d, rfl⟩ : ∃ d : Nat, b = d := ⟨b.toNat, by omega⟩
  have e1 : (k : Int).fdiv (d : Int) = ((k / d : Nat) : Int) := by rw [Int.fdiv_eq_ediv_of_nonneg _ (by omega), Int.natCast_ediv]
  have e2 : (k : Int).fmod (d : Int) = ((k % d : Nat) : Int) := by rw [Int.fmod_eq_emod_of_nonneg _ (by omega), Int.natCast_emod]
  rw [e1, e2, Int.toNat_natCast, Int.toNat_natCast]
  rw [Int.toNat_natCast] at hf
  refine ⟨t, l ++ [(S [dg (k % d)], u)], c + 1, ov, fs ++ [k % d], rfl, ?_, ?_, ?_, ?_⟩
  · simp [strValues]
  · simp [hl]
  · rw [Int.toNat_natCast, List.append_assoc, List.singleton_append, ← figs_pos (by omega) (by omega)]; exact hf
  · exact Nat.le_trans (Nat.div_le_self _ _) hkn
theorem sn_lt {b : Int} {k : Nat} (hb : 2 ≤ b) (hk : ¬ (k : Int) = 0) : ((k : Int).fdiv b).toNat < k := by
  obtain ⟨d, rfl⟩ : ∃ d : Nat, b = d := ⟨b.toNat, by omega⟩
  rw [Int.fdiv_eq_ediv_of_nonneg _ (by omega), ← Int.natCast_ediv, Int.toNat_natCast]
  exact Nat.div_lt_self (by omega) (by omega)
theorem sn_dig {b : Int} {k : Nat} (hb : 2 ≤ b) (hb2 : b ≤ 36) : 0 ≤ (k : Int).fmod b ∧ (k : Int).fmod b < 36 := by
  have h1 := Int.fmod_nonneg_of_pos (k : Int) (show 0 < b by omega)
  have h2 := Int.fmod_lt_of_pos (k : Int) (show 0 < b by omega)
  omega
theorem sn_end {b : Int} {n0 : Nat} {fs : List Nat} (hn : n0 ≠ 0) (hf : fs ++ figs b.toNat 0 = figs b.toNat n0) : (fs.map dg).reverse = numS b.toNat n0 := by
  rw [figs_zero, List.append_nil] at hf
  unfold numS
  rw [if_neg hn, hf, List.map_reverse]
theorem rev_map {l : List (Str × Tok)} {fs : List Nat} (h : l.map (·.1) = fs.map (fun d => S [d])) : l.reverse.map (·.1) = fs.reverse.map (fun d => S [d]) := by
  rw [List.map_reverse, h, List.map_reverse]
theorem rev_values {l : List (Str × Tok)} : (strValues l).reverse = strValues l.reverse := by simp [strValues]
theorem z_rev {w : World} {A : Around} {E : Value → Shared → Prop} {h g : Heap} {G : Array GenState} {D : Drawn} {tk : Nat} {O : OsState} {L T : Addr} {m : Str → Option Value} {led : Led} {value slice : PySem.Expr} {l : List (Str × Tok)} {c : Nat} {vk : Value} {ops : List Value} {Q : Value → Shared → Prop}
    (F : Fr g L h m) (N : News g L h led) (hm : (T, W.listOf (strValues l).toArray c) ∈ led) (pk : IsPart vk (some (-1)))
    (q : ∀ U h', Fr g L h' m → News g L h' ((U, W.listOf (strValues l.reverse).toArray 0) :: led) → Q (.ref U) ⟨h', G, D, tk, O⟩)
    (hs : subscripted slice false (.ref T) (.ref h.objs.size) = operate ops (getItem (.ref T) (.ref h.objs.size))) (ht : ∀ r, letTemporaryGo value (.ref T) r = pure ()) (hz : l.length ≤ 1000000) :
    wpAny (model PySem.Challenge.rw_aj5018_01.row.prog w) A (subscriptTail value slice (.ref T) (.ref h.objs.size)) Q E ⟨h.push { cls := .type "slice", data := .fields #[.none, .none, vk] }, G, D, tk, O⟩ :=
  krv_lit (s := ⟨h, G, D, tk, O⟩) (its := (strValues l).toArray) (zs := strValues l.reverse) F N (N.isList hm) pk rev_values (fun U h' F' N' _ => q U h' F' N') hs ht (by rw [sizeLine_eq]; simp [strValues]; omega)
theorem sn_end' {b : Int} {k : Nat} {n : Int} {fs : List Nat} (hn : 0 < n) (hk : (k : Int) = 0) (hf : fs ++ figs b.toNat k = figs b.toNat n.toNat) : (fs.map dg).reverse = numS b.toNat n.toNat := by
  have : k = 0 := by omega
  subst this
  exact sn_end (by omega) hf
theorem vals_len {l : List (Str × Tok)} {n : Nat} (h : l.length ≤ n) : (strValues l).length ≤ n := by simpa [strValues] using h
theorem rev_len {fs : List Nat} {n : Nat} (h : fs.length ≤ n) : (fs.map dg).reverse.length ≤ n := by simpa using h
theorem len_of_map {l : List (Str × Tok)} {fs : List Nat} {n : Nat} (h : l.map (·.1) = (fs.map dg).map (fun d => S [d])) (hf : fs.length ≤ n) : l.length ≤ n := by
  have := congrArg List.length h
  simp at this
  omega
end Mine
/-! part Text2 -/
namespace Mine
def ahead (b : Int) : List Nat := if b = 2 then [48, 98] else if b = 8 then [48, 111] else if b = 16 then [48, 120] else []
theorem lit_0p : Str.ofString "0." = S [48, 46] := by decide
theorem lit_p : Str.ofString "." = S [46] := by decide
theorem lit_at : Str.ofString "@" = S [64] := by decide
theorem lit_e : Str.ofString "e" = S [101] := by decide
theorem lit_m : Str.ofString "-" = S [45] := by decide
theorem lit_n : Str.ofString "" = S [] := by decide
theorem lit_0 : Str.ofString "0" = S [48] := by decide
theorem lit_0b : Str.ofString "0b" = S [48, 98] := by decide
theorem lit_0o : Str.ofString "0o" = S [48, 111] := by decide
theorem lit_0x : Str.ofString "0x" = S [48, 120] := by decide
theorem S_rfl {a : List Nat} : S a = S a := rfl
theorem padOk {i : Int} (h0 : 0 ≤ i) (hi : i ≤ 100000) : PadOk i = true := by
  unfold PadOk fitsSsize Builtin.Str.tooLong
  rw [sizeLine_eq]
  simp
  omega
section
variable {w : World} {A : Around} {E : Value → Shared → Prop} {h : Heap} {G : Array GenState} {D : Drawn} {tk : Nat} {O : OsState} {Q : Value → Shared → Prop} {x y : Str} {a b : List Nat} {t u v : Tok}
theorem z_cat (hx : x = S a) (hy : y = S b) (hz : a.length + b.length ≤ 16777216) (q : ∀ t' tk', Q (.str (S (a ++ b)) t') ⟨h, G, D, tk', O⟩) :
    wpAny (model PySem.Challenge.rw_aj5018_01.row.prog w) A (binaryOp .Add (.str x t) (.str y u)) Q E ⟨h, G, D, tk, O⟩ := by
  subst hx; subst hy
  refine add_str (fun t' tk' => ?_) (by rw [S_len, S_len, sizeLine_eq]; exact hz)
  rw [S_append]
  exact q t' tk'
theorem z_rjust {i : Int} (hx : x = S a) (h0 : 0 ≤ i) (hi : i ≤ 100000) (q : ∀ t' tk', Q (.str (S (List.replicate (i.toNat - a.length) 48 ++ a)) t') ⟨h, G, D, tk', O⟩) :
    wpAny (model PySem.Challenge.rw_aj5018_01.row.prog w) A (call (.builtin "str.rjust") [.str x t, .int i u, .str (Str.ofString "0") v]) Q E ⟨h, G, D, tk, O⟩ := by
  subst hx
  refine rjust_fill (padOk h0 hi) (by decide) fun t' k => ?_
  have e : Txt.rjustF (S a) i ((Str.ofString "0").cps.getD 0 0) = S (List.replicate (i.toNat - a.length) 48 ++ a) := by
    rw [S_of (Txt.rjustF _ _ _), S_inj, rjustF_list, S_len, S_list]
    rfl
  rw [e]
  exact q t' k
end
end Mine
/-! part IntB -/
namespace Mine
/-! int of a text in a base -/
open PySem.NumText in
theorem ib_text {M : Model} {A : Around} {E : Value → Shared → Prop} {s : Shared} {Q : Value → Shared → Prop} {v : Value} {text : List Nat} {n : Int} {b : Nat}
    (hs : (text.takeWhile (· != 0)).length ≤ 640) (hr : (int_private% "readNumeral") 0 b (text.takeWhile (· != 0)) = (int_private% "Numeral.value") n)
    (ha : ((text.takeWhile (· != 0)).length == text.length) = true) (h : Q (.int n s.toks) { s with toks := s.toks + 1 }) :
    wpAny M A ((int_private% "intFromText") v text b) Q E s := by
  obtain ⟨hp, g, d, tk, os⟩ := s
  repeat (any_goals (first
    | assumption
    | (with_reducible refine wpAny_ite_true (decide_eq_true hs) ?_)
    | (with_reducible refine wpAny_ite_true (decide_eq_true ha) ?_)
    | wp_step))
  all_goals (try rw [hr])
  all_goals (try dsimp only)
  repeat (any_goals (first
    | assumption
    | (with_reducible refine wpAny_ite_true (decide_eq_true hs) ?_)
    | (with_reducible refine wpAny_ite_true (decide_eq_true ha) ?_)
    | wp_step))
structure Ib (p : Prop) : Prop where
  out : p
theorem takeWhile_all' {p : Nat → Bool} {l : List Nat} (h : ∀ c ∈ l, p c = true) : l.takeWhile p = l := by
  induction l with
  | nil => rfl
  | cons a r ih => rw [List.takeWhile_cons, if_pos (h a (List.mem_cons_self ..)), ih fun c hc => h c (List.mem_cons_of_mem _ hc)]
theorem ib_gives {l : List Nat} {u v : Tok} {b n : Int} (h2 : 2 ≤ b) (h36 : b ≤ 36) (hl : l.length ≤ 640) (ha : ∀ c ∈ l, c ≠ 0 ∧ c < 128) (hn : (int_private% "readNumeral") 0 b.toNat l = (int_private% "Numeral.value") n) :
    Gives (Builtin.«int.__new__» ⟨[.type "int", .str (S l) u, .int b v], []⟩) (.int n) :=
  .of_wp fun M A E s Q h => by
    obtain ⟨hp, g, d, tk, os⟩ := s
    have f1 := F.conv_sub_int
    have f2 := F.madeHere_int
    have e1 : (((b != 0 && decide (b < 2)) || decide (b > 36)) = true) = False := by
      simp; omega
    have et : l.takeWhile (· != 0) = l := takeWhile_all' fun c hc => by simpa using (ha c hc).1
    have hk := Ib.mk (And.intro (show (l.takeWhile (· != 0)).length ≤ 640 by rw [et]; exact hl) (And.intro (show (int_private% "readNumeral") 0 b.toNat (l.takeWhile (· != 0)) = (int_private% "Numeral.value") n by rw [et]; exact hn) (show ((l.takeWhile (· != 0)).length == l.length) = true by rw [et]; simp)))
    have e2 : (S l).cps.all (· < 128) = true := by
      rw [← Array.all_toList, S_list]
      exact List.all_eq_true.mpr fun c hc => by simpa using (ha c hc).2
    have e3 := S_list l
    clear hn hl ha et
    repeat (any_goals (first
      | assumption
      | ((with_reducible show wpAny _ _ ((int_private% "intFromText") _ _ _) _ _ _); rw [if_pos e2, e3]; refine ib_text hk.out.1 hk.out.2.1 hk.out.2.2 ?_)
      | wp_step))
    all_goals first | exact ⟨_, rfl, h⟩ | skip
theorem ib_type (a b : Value) : checkTypeCall "int" ⟨[a, b], []⟩ = pure () := by kernel_rfl
theorem ib_new (a b : Value) : checkBuiltinCall "int.__new__" ⟨[.type "int", a, b], []⟩ = pure () := by kernel_rfl
section
open PySem.NumText
/-- a figure's worth -/
def worth (b : Nat) (l : List Nat) : Nat := l.foldl (fun acc d => acc * b + d) 0
theorem dg_digit : ∀ d : _root_.Fin 36, NumText.digit? (dg d.val) = some d.val := by decide +kernel
theorem step_dg {b d : Nat} (h : d < b) (hb : b ≤ 36) (acc : Array Nat) (ok : Bool) : NumText.step b (acc, ok) (dg d) = some (acc.push d, true) := by
  have h1 := dg_digit ⟨d, by omega⟩
  have h2 : (dg d == 95) = false := by
    unfold dg
    split
    · exact beq_eq_false_iff_ne.mpr (by omega)
    · exact beq_eq_false_iff_ne.mpr (by omega)
  unfold NumText.step
  rw [h2, h1]
  simp [h]
theorem fold_dg {b : Nat} (hb : b ≤ 36) : ∀ (ds : List Nat) (acc : Array Nat) (ok : Bool), (∀ d ∈ ds, d < b) → ds ≠ [] → (ds.map dg).foldlM (NumText.step b) (acc, ok) = some ((acc ++ ds.toArray), true)
  | [], _, _, _, h => absurd rfl h
  | [d], acc, ok, h, _ => by
    rw [List.map_cons, List.foldlM_cons, step_dg (h d (List.mem_cons_self ..)) hb]
    show some _ = _
    simp
  | d :: e :: r, acc, ok, h, _ => by
    rw [List.map_cons, List.foldlM_cons, step_dg (h d (List.mem_cons_self ..)) hb]
    have ih := fold_dg hb (e :: r) (acc.push d) true (fun x hx => h x (List.mem_cons_of_mem _ hx)) (by simp)
    show (List.map dg (e :: r)).foldlM (NumText.step b) (acc.push d, true) = _
    rw [ih]
    simp
theorem digits_dg {b : Nat} (hb : b ≤ 36) {ds : List Nat} (h : ∀ d ∈ ds, d < b) (hne : ds ≠ []) : NumText.digits? b (ds.map dg) = some ds.toArray := by
  unfold NumText.digits?
  rw [fold_dg hb ds #[] false h hne]
  simp
end
section
open PySem.NumText
theorem dg_ge (d : Nat) : 48 ≤ dg d := by unfold dg; split <;> omega
theorem dg_blank (d : Nat) : NumText.blank (dg d) = false := by
  have := dg_ge d
  unfold NumText.blank
  simp
  omega
theorem drop_none {l : List Nat} (h : ∀ c r, l = c :: r → NumText.blank c = false) : l.dropWhile NumText.blank = l := by
  cases l with
  | nil => rfl
  | cons c r => rw [List.dropWhile_cons, if_neg (by rw [h c r rfl]; decide)]
theorem map_dg_rev {ds : List Nat} : ((ds.map dg).reverse.dropWhile NumText.blank).reverse = ds.map dg := by
  rw [drop_none, List.reverse_reverse]
  intro c r e
  have : c ∈ (ds.map dg).reverse := by rw [e]; exact List.mem_cons_self ..
  rw [List.mem_reverse, List.mem_map] at this
  obtain ⟨d, _, rfl⟩ := this
  exact dg_blank d
/-- what the sign says -/
def sgI (neg : Bool) (n : Nat) : Int := if neg then -(n : Int) else n
def sgT (neg : Bool) : List Nat := if neg then [45] else []
theorem read_body {b : Nat} (hb : b ≤ 36) (neg : Bool) {body ds : List Nat} (hd : ∀ d ∈ ds, d < b) (hne : ds ≠ []) (hl : ds.length ≤ 6000) (hbody : ∃ c r, body = c :: r ∧ 48 ≤ c)
    (hbase : NumText.based b body = (b, false, ds.map dg)) : (int_private% "readNumeral") 0 b (sgT neg ++ body) = (int_private% "Numeral.value") (sgI neg (worth b ds)) := by
  obtain ⟨c, r, rfl, hc⟩ := hbody
  have h1 : (sgT neg ++ c :: r).dropWhile NumText.blank = sgT neg ++ c :: r := by
    apply drop_none
    intro x y e
    have hx : x = 45 ∨ x = c := by
      cases neg
      · simp [sgT] at e; exact .inr e.1.symm
      · simp [sgT] at e; exact .inl e.1.symm
    unfold NumText.blank
    simp
    omega
  have h2 : NumText.sign (sgT neg ++ c :: r) = (neg, c :: r) := by
    cases neg
    · show NumText.sign (c :: r) = _
      unfold NumText.sign
      split
      · rename_i e; simp at e; omega
      · rename_i e; simp at e; omega
      · rfl
    · rfl
  refine (NumText.readNumeral_eq 0 b _).trans ?_
  rw [h1, h2, hbase]
  simp only
  rw [map_dg_rev, digits_dg hb hd hne]
  unfold NumText.judge
  simp only
  have e1 : (![2, 4, 8, 16, 32].contains b && (0 : Nat) != 0 && decide (ds.toArray.size > 0)) = false := by simp
  rw [e1]
  have e2 : (b == 10 && decide (ds.toArray.size > 6000)) = false := by
    rw [List.size_toArray, decide_eq_false (by omega), Bool.and_false]
  simp only [e2, Bool.false_eq_true, if_false, Bool.false_and, List.foldl_toArray]
  rfl
theorem based_plain {b : Nat} {body : List Nat} (hb : b ≠ 0) (h : NumText.prefix? body = none) : NumText.based b body = (b, false, body) := by
  unfold NumText.based
  rw [h]
  simp only
  rw [if_neg (by simpa using hb)]
theorem prefix_head {c : Nat} {r : List Nat} (h : c ≠ 48) : NumText.prefix? (c :: r) = none := by
  unfold NumText.prefix?
  split
  · rename_i e; simp at e; exact absurd e.1 h
  · rfl
theorem prefix_dec {ds : List Nat} (h : ∀ d ∈ ds, d < 10) : NumText.prefix? (ds.map dg) = none := by
  unfold NumText.prefix?
  split
  · rename_i c r e
    cases ds with
    | nil => simp at e
    | cons d ds =>
      cases ds with
      | nil => simp at e
      | cons d2 ds =>
        simp at e
        have := h d2 (by simp)
        have hc : c ≤ 57 := by rw [← e.2.1]; unfold dg; rw [if_pos this]; omega
        have n1 : (c == 120) = false := beq_eq_false_iff_ne.mpr (by omega)
        have n2 : (c == 88) = false := beq_eq_false_iff_ne.mpr (by omega)
        have n3 : (c == 111) = false := beq_eq_false_iff_ne.mpr (by omega)
        have n4 : (c == 79) = false := beq_eq_false_iff_ne.mpr (by omega)
        have n5 : (c == 98) = false := beq_eq_false_iff_ne.mpr (by omega)
        have n6 : (c == 66) = false := beq_eq_false_iff_ne.mpr (by omega)
        rw [n1, n2, n3, n4, n5, n6]
        rfl
  · rfl
theorem based_ahead {b : Nat} {ds : List Nat} (hb : b = 2 ∨ b = 8 ∨ b = 16) : NumText.based b (ahead b ++ ds.map dg) = (b, false, ds.map dg) := by
  have hz : ∀ p : List Nat, (match p ++ ds.map dg with | 95 :: r => r | r => r) = (match p ++ ds.map dg with | 95 :: r => r | r => r) := fun _ => rfl
  have h95 : (match ds.map dg with | 95 :: r => r | r => r) = ds.map dg := by
    cases ds with
    | nil => rfl
    | cons d r =>
      have h : dg d ≠ 95 := by unfold dg; split <;> omega
      rw [List.map_cons]
      split
      · rename_i e; simp at e; exact absurd e.1 h
      · rfl
  rcases hb with rfl | rfl | rfl
  · show NumText.based 2 (48 :: 98 :: ds.map dg) = _
    unfold NumText.based
    show (2, false, (match ds.map dg with | 95 :: r => r | r => r)) = _
    rw [h95]
  · show NumText.based 8 (48 :: 111 :: ds.map dg) = _
    unfold NumText.based
    show (8, false, (match ds.map dg with | 95 :: r => r | r => r)) = _
    rw [h95]
  · show NumText.based 16 (48 :: 120 :: ds.map dg) = _
    unfold NumText.based
    show (16, false, (match ds.map dg with | 95 :: r => r | r => r)) = _
    rw [h95]
/-- the four bases with what stands ahead -/
theorem based_four {b : Nat} {ds : List Nat} (hb : b = 2 ∨ b = 8 ∨ b = 10 ∨ b = 16) (hd : ∀ d ∈ ds, d < b) : NumText.based b (ahead b ++ ds.map dg) = (b, false, ds.map dg) := by
  rcases hb with h | h | h | h
  · exact based_ahead (.inl h)
  · exact based_ahead (.inr (.inl h))
  · subst h
    show NumText.based 10 (ds.map dg) = _
    exact based_plain (by decide) (prefix_dec hd)
  · exact based_ahead (.inr (.inr h))
theorem worth_snoc (b : Nat) (l : List Nat) (d : Nat) : worth b (l ++ [d]) = worth b l * b + d := by
  unfold worth; rw [List.foldl_append]; rfl
theorem worth_figs {b : Nat} (hb : 2 ≤ b) : ∀ n, worth b (figs b n).reverse = n := by
  intro n
  induction n using Nat.strongRecOn with
  | ind n ih =>
    by_cases hn : n = 0
    · subst hn; rfl
    · rw [figs_pos hb hn, List.reverse_cons, worth_snoc, ih _ (Nat.div_lt_self (by omega) hb)]
      have := Nat.div_add_mod n b
      rw [Nat.mul_comm] at this
      exact this
/-- the numeral's figures, the highest first -/
def numD (b n : Nat) : List Nat := if n = 0 then [0] else (figs b n).reverse
theorem numS_eq (b n : Nat) : numS b n = (numD b n).map dg := by
  unfold numS numD
  split
  · rfl
  · rfl
theorem numD_lt {b : Nat} (hb : 2 ≤ b) (n : Nat) : ∀ d ∈ numD b n, d < b := by
  unfold numD
  split
  · intro d hd; simp at hd; omega
  · intro d hd; exact figs_lt hb n d (List.mem_reverse.mp hd)
theorem numD_ne {b n : Nat} (hb : 2 ≤ b) : numD b n ≠ [] := by
  unfold numD
  split
  · simp
  · rename_i h
    rw [figs_pos hb h]; simp
theorem numD_worth {b : Nat} (hb : 2 ≤ b) (n : Nat) : worth b (numD b n) = n := by
  unfold numD
  split
  · rename_i h; rw [h]; simp [worth]
  · exact worth_figs hb n
theorem numD_head {b n d : Nat} {r : List Nat} (hb : 2 ≤ b) (h : numD b n = d :: r) : d ≠ 0 ∨ r = [] := by
  revert d r
  unfold numD
  split
  · intro d r h; simp at h; exact .inr h.2
  · rename_i hn
    have key : ∀ n, n ≠ 0 → ∃ d r, (figs b n).reverse = d :: r ∧ d ≠ 0 := by
      intro n
      induction n using Nat.strongRecOn with
      | ind n ih =>
        intro hn
        rw [figs_pos hb hn, List.reverse_cons]
        by_cases h0 : n / b = 0
        · rw [h0, figs_zero]
          refine ⟨n % b, [], rfl, ?_⟩
          have := Nat.div_add_mod n b
          rw [h0] at this
          omega
        · obtain ⟨d, r, e, hd⟩ := ih _ (Nat.div_lt_self (by omega) hb) h0
          exact ⟨d, r ++ [n % b], by rw [e]; rfl, hd⟩
    intro d r h
    obtain ⟨d', r', e, hd⟩ := key n hn
    rw [e] at h
    injection h with h1 h2
    exact .inl (h1 ▸ hd)
theorem based_num {b : Nat} (hb : 2 ≤ b) (n : Nat) : NumText.based b (numS b n) = (b, false, (numD b n).map dg) := by
  rw [numS_eq]
  refine based_plain (by omega) ?_
  cases h : numD b n with
  | nil => exact absurd h (numD_ne hb)
  | cons d r =>
    rcases numD_head hb h with h1 | h1
    · refine prefix_head ?_
      unfold dg; split <;> omega
    · subst h1
      unfold NumText.prefix?
      split
      · rename_i e; simp at e
      · rfl
end
end Mine
/-! part TxtB -/
namespace Mine
/-! the texts' methods -/
def Ok (l : List Nat) : Prop := ∀ c ∈ l, 33 ≤ c ∧ c < 127 ∧ (c < 65 ∨ 90 < c)
theorem Ok.still {l : List Nat} (h : Ok l) : KXs.Still (S l) := by
  intro c hc
  rw [S_list] at hc
  exact h c hc
theorem Ok.app {a b : List Nat} (ha : Ok a) (hb : Ok b) : Ok (a ++ b) := fun c hc => (List.mem_append.mp hc).elim (ha c) (hb c)
theorem Ok.left {a b : List Nat} (h : Ok (a ++ b)) : Ok a := fun c hc => h c (List.mem_append.mpr (.inl hc))
/-- the signs c at the right end taken off -/
def strR (c : Nat) (l : List Nat) : List Nat := (l.reverse.dropWhile (· == c)).reverse
theorem rstrip_S (l : List Nat) (c : Nat) : Txt.rstripChars (S l) (S [c]) = S (strR c l) := by
  unfold Txt.rstripChars
  rw [PyProof.Rows.stripBy_eq]
  rw [S_of (Builtin.Str.strSub _ _ _), S_inj, StrLaws.strSub_toList]
  have hg : (S [c]).cps.contains = (fun x : Nat => x == c) := by
    funext x
    show (#[c] : Array Nat).contains x = _
    by_cases hx : x = c
    · subst hx; simp
    · simp [hx]
  rw [hg]
  simp only [stripLo, stripHi, Bool.false_eq_true, if_false, if_true, S_list, List.drop_zero, Nat.sub_zero, S_len]
  unfold strR
  have e : l.reverse.dropWhile (fun x => x == c) = l.reverse.drop (l.reverse.takeWhile (fun x => x == c)).length := by
    conv => rhs; rw [← List.takeWhile_append_dropWhile (p := fun x => x == c) (l := l.reverse)]
    rw [List.drop_append_of_le_length (by simp)]
    simp
  rw [e, List.reverse_drop, List.reverse_reverse, List.length_reverse]
theorem strR_free {c : Nat} {l : List Nat} (h : c ∉ l) : strR c l = l := by
  unfold strR
  cases hr : l.reverse with
  | nil => simpa using hr
  | cons a r =>
    have : a ∈ l := List.mem_reverse.mp (by rw [hr]; exact List.mem_cons_self ..)
    rw [List.dropWhile_cons, if_neg (by simp; rintro rfl; exact h this), ← hr, List.reverse_reverse]
theorem free_cut {c : Nat} : ∀ {p a q b : List Nat}, c ∉ p → c ∉ a → p ++ c :: q = a ++ c :: b → p = a ∧ q = b
  | [], [], q, b, _, _, h => by simpa using h
  | [], x :: a, q, b, _, ha, h => by
    simp at h
    exact absurd (h.1 ▸ List.mem_cons_self ..) ha
  | x :: p, [], q, b, hp, _, h => by
    simp at h
    exact absurd (h.1 ▸ List.mem_cons_self ..) hp
  | x :: p, y :: a, q, b, hp, ha, h => by
    simp at h
    obtain ⟨h1, h2⟩ := free_cut (fun e => hp (List.mem_cons_of_mem _ e)) (fun e => ha (List.mem_cons_of_mem _ e)) h.2
    exact ⟨by rw [h.1, h1], h2⟩
theorem join_two (c : Nat) (p q : Str) (r : List Str) : (Str.join (S [c]) (p :: q :: r)).cps.toList = p.cps.toList ++ c :: (Str.join (S [c]) (q :: r)).cps.toList := by
  show (p ++ S [c] ++ Str.join (S [c]) (q :: r)).cps.toList = _
  rw [Str.cps_append, Str.cps_append, Array.toList_append, Array.toList_append, S_list]
  simp
theorem parts_one {c : Nat} {l : List Nat} {P : List Str} (hP : P ≠ []) (hj : (Str.join (S [c]) P).cps.toList = l) (hc : c ∉ l) : P = [S l] := by
  match P, hP with
  | [p], _ =>
    have : p.cps.toList = l := hj
    rw [← this, ← S_of]
  | p :: q :: r, _ =>
    rw [join_two] at hj
    exact absurd (hj ▸ List.mem_append.mpr (.inr (List.mem_cons_self ..))) hc
theorem split_one {c : Nat} {l : List Nat} (hl : l ≠ []) (hc : c ∉ l) : Txt.split (S l) (S [c]) = [S l] := by
  have hj := StrLaws.join_split (S l) (S [c])
  refine parts_one ?_ (by rw [hj, S_list]) hc
  intro h
  rw [h] at hj
  have : (S l).cps.toList = [] := by rw [← hj]; rfl
  rw [S_list] at this
  exact hl this
theorem split_two {c : Nat} {a b : List Nat} (ha : c ∉ a) (hb : c ∉ b) : Txt.split (S (a ++ c :: b)) (S [c]) = [S a, S b] := by
  have hj := StrLaws.join_split (S (a ++ c :: b)) (S [c])
  have hf : ∀ p ∈ Txt.split (S (a ++ c :: b)) (S [c]), c ∉ p.cps.toList := StrLaws.split_free (S (a ++ c :: b)) c
  generalize Txt.split (S (a ++ c :: b)) (S [c]) = P at hj hf
  have hj' := congrArg (fun x : Str => x.cps.toList) hj
  simp only [S_list] at hj'
  match P with
  | [] => simp [Str.join, Str.empty] at hj'
  | [p] =>
    have h1 : p.cps.toList = a ++ c :: b := hj'
    have := hf p (List.mem_cons_self ..)
    rw [h1] at this
    simp at this
  | p :: q :: r =>
    rw [join_two] at hj'
    obtain ⟨h1, h2⟩ := free_cut (hf p (List.mem_cons_self ..)) ha hj'
    have h3 := parts_one (P := q :: r) (by simp) h2 hb
    rw [h3, ← h1, ← S_of]
theorem occ_nil {c : Nat} {l : List Nat} (h : c ∉ l) {k : Nat} (hk : 1 ≤ k) : Builtin.Str.occurrences (S l) (S [c]) 0 (S l).length k = [] := by
  rcases StrLaws.occ_head (S l) (S [c]) k hk with ⟨h1, _⟩ | ⟨i, r, _, h2, _⟩
  · exact h1
  · exfalso
    have := (StrLaws.subAt_one (S l) c i).mp h2
    rw [S_list] at this
    exact h (List.mem_of_getElem? this)
theorem find_none {c : Nat} {l : List Nat} (h : c ∉ l) : Txt.find (S l) (S [c]) = -1 := by
  have h1 := StrLaws.found_one (S l) c
  rw [S_list, decide_eq_false h] at h1
  have h2 : (Builtin.Str.occurrences (S l) ⟨#[c]⟩ 0 (S l).length 1).isEmpty = true := by simpa using h1
  unfold Txt.find
  show (match Builtin.Str.occurrences (S l) ⟨#[c]⟩ 0 (S l).length 1 with | i :: _ => (i : Int) | [] => -1) = -1
  rw [List.isEmpty_iff.mp h2]
theorem lit_l : Str.ofString "l" = S [108] := by decide
theorem lit_us : Str.ofString "_" = S [95] := by decide
theorem lit_pp : Str.ofString "p" = S [112] := by decide
theorem lit_sl : Str.ofString "/" = S [47] := by decide
section
variable {w : World} {A : Around} {E : Value → Shared → Prop} {h g : Heap} {G : Array GenState} {D : Drawn} {tk : Nat} {O : OsState} {L : Addr} {m : Str → Option Value} {led : Led} {Q : Value → Shared → Prop} {l a b : List Nat} {t u v : Tok} {c : Nat} {y z : Str}
theorem z_lower (hl : Ok l) (hz : l.length ≤ 100000) (q : ∀ t' tk', Q (.str (S l) t') ⟨h, G, D, tk', O⟩) : wpAny (model PySem.Challenge.rw_aj5018_01.row.prog w) A (call (.builtin "str.lower") [.str (S l) t]) Q E ⟨h, G, D, tk, O⟩ :=
  KXs.lower_K hl.still (by rw [S_len]; omega) q
theorem z_strip (hl : Ok l) (hz : l.length ≤ 100000) (q : ∀ t' tk', Q (.str (S l) t') ⟨h, G, D, tk', O⟩) : wpAny (model PySem.Challenge.rw_aj5018_01.row.prog w) A (call (.builtin "str.strip") [.str (S l) t]) Q E ⟨h, G, D, tk, O⟩ :=
  KXs.strip_K hl.still (by rw [S_len]; omega) q
theorem z_rstrip (hy : y = S [c]) (hz : l.length ≤ 100000) (q : ∀ t' tk', Q (.str (S (strR c l)) t') ⟨h, G, D, tk', O⟩) : wpAny (model PySem.Challenge.rw_aj5018_01.row.prog w) A (call (.builtin "str.rstrip") [.str (S l) t, .str y u]) Q E ⟨h, G, D, tk, O⟩ := by
  subst hy
  refine SC.rstripChars (fun t' k => ?_) (by rw [S_len, sizeLine_eq]; omega)
  rw [rstrip_S]
  exact q t' k
theorem z_rstrip0 (hy : y = S [c]) (hc : c ∉ l) (hz : l.length ≤ 100000) (q : ∀ t' tk', Q (.str (S l) t') ⟨h, G, D, tk', O⟩) : wpAny (model PySem.Challenge.rw_aj5018_01.row.prog w) A (call (.builtin "str.rstrip") [.str (S l) t, .str y u]) Q E ⟨h, G, D, tk, O⟩ :=
  z_rstrip hy hz fun t' tk' => by rw [strR_free hc]; exact q t' tk'
theorem z_replace (hy : y = S [c]) (hc : c ∉ l) (q : Q (.str (S l) t) ⟨h, G, D, tk, O⟩) : wpAny (model PySem.Challenge.rw_aj5018_01.row.prog w) A (call (.builtin "str.replace") [.str (S l) t, .str y u, .str z v]) Q E ⟨h, G, D, tk, O⟩ := by
  subst hy
  have hoc : (Builtin.Str.occurrences (S l) (S [c]) 0 (S l).length ((S l).length + 1)).isEmpty = true := by
    rw [occ_nil hc (by omega)]; rfl
  have hcond : ((Builtin.Str.occurrences (S l) (S [c]) 0 (S l).length ((S l).length + 1)).isEmpty || ((S [c]).length == 0 && z.length == 0)) = true := by rw [hoc]; rfl
  refine call_gives F.slot_str_replace (typeIs_str _ _ _) F.entry_str_replace (F.args_str_replace_3 _ _ _) (gives_str_replace (S l) (S [c]) z t u v fun hf => absurd hf (by rw [hcond]; decide)) ?_
  rw [if_pos hcond]
  exact q
theorem z_find (hy : y = S [c]) (hc : c ∉ l) (q : Q (.int (-1) tk) ⟨h, G, D, tk + 1, O⟩) : wpAny (model PySem.Challenge.rw_aj5018_01.row.prog w) A (call (.builtin "str.find") [.str (S l) t, .str y u]) Q E ⟨h, G, D, tk, O⟩ := by
  subst hy
  refine SC.find ?_
  rw [find_none hc]
  exact q
theorem z_slen (hz : l.length ≤ 100000) (q : Q (.int l.length (tk + 1)) ⟨h, G, D, tk + 1 + 1, O⟩) : wpAny (model PySem.Challenge.rw_aj5018_01.row.prog w) A (call (.builtin "len") [.str (S l) t]) Q E ⟨h, G, D, tk, O⟩ := by
  refine PyProof.Rows.len_str (by rw [S_len]; omega) ?_
  rw [S_len]
  exact q
theorem z_split1 (F : Fr g L h m) (N : News g L h led) (hy : y = S [c]) (hl : l ≠ []) (hc : c ∉ l) (hz : l.length ≤ 100000)
    (q : ∀ T h' tk' t1, Fr g L h' m → News g L h' ((T, W.listOf [Value.str (S l) t1].toArray 0) :: led) → Q (.ref T) ⟨h', G, D, tk', O⟩) :
    wpAny (model PySem.Challenge.rw_aj5018_01.row.prog w) A (call (.builtin "str.split") [.str (S l) t, .str y u]) Q E ⟨h, G, D, tk, O⟩ := by
  subst hy
  refine splitN1A F N (by rw [S_len]; rfl) (fun r h' k e _ _ _ F' N' => ?_) (by rw [S_len, sizeLine_eq]; omega)
  rw [split_one hl hc] at e
  match r, e with
  | [(x, t1)], e =>
    simp at e
    subst e
    exact q _ h' k t1 F' N'
theorem z_split2 (F : Fr g L h m) (N : News g L h led) (hy : y = S [c]) (hx : l = a ++ c :: b) (ha : c ∉ a) (hb : c ∉ b) (hz : l.length ≤ 100000)
    (q : ∀ T h' tk' t1 t2, Fr g L h' m → News g L h' ((T, W.listOf [Value.str (S a) t1, Value.str (S b) t2].toArray 0) :: led) → Q (.ref T) ⟨h', G, D, tk', O⟩) :
    wpAny (model PySem.Challenge.rw_aj5018_01.row.prog w) A (call (.builtin "str.split") [.str (S l) t, .str y u]) Q E ⟨h, G, D, tk, O⟩ := by
  subst hy
  refine splitN1A F N (by rw [S_len]; rfl) (fun r h' k e _ _ _ F' N' => ?_) (by rw [S_len, sizeLine_eq]; omega)
  rw [hx, split_two ha hb] at e
  match r, e with
  | [(x, t1), (x2, t2)], e =>
    simp at e
    obtain ⟨e1, e2⟩ := e
    subst e1; subst e2
    exact q _ h' k t1 t2 F' N'
theorem z_int2 {base n : Int} (h2 : 2 ≤ base) (h36 : base ≤ 36) (hl : l.length ≤ 640) (ha : ∀ c ∈ l, c ≠ 0 ∧ c < 128) (hn : (int_private% "readNumeral") 0 base.toNat l = (int_private% "Numeral.value") n) (q : Q (.int n tk) ⟨h, G, D, tk + 1, O⟩) :
    wpAny (model PySem.Challenge.rw_aj5018_01.row.prog w) A (call (.type "int") [.str (S l) t, .int base u]) Q E ⟨h, G, D, tk, O⟩ :=
  callType_new F.called_int F.newNe_int (ib_type _ _) (ib_new _ _) (fun obj => F.args_object_init_3 obj _ _) F.entry_int_new (ib_gives h2 h36 hl ha hn).meets (show (Made.int n).post _ _ from ⟨rfl, q⟩)
theorem z_int1 {k : Int} (h0 : 0 ≤ k) (h1 : k ≤ 100000) (q : Q (.int k tk) ⟨h, G, D, tk + 1, O⟩) :
    wpAny (model PySem.Challenge.rw_aj5018_01.row.prog w) A (call (.type "int") [.str (S (numS 10 k.toNat)) t]) Q E ⟨h, G, D, tk, O⟩ := by
  have e := str10' h0
  rw [← e]
  refine KIN.call_num h0 (by omega) q
end
end Mine
/-! part Starts -/
namespace Mine
/-! startswith of several -/
theorem tup_sub : isSubtype (.type "tuple") (.type "tuple") = pure true := by rw [isSubtype_type]; kernel_rfl
section
variable {w : World} {A : Around} {E : Value → Shared → Prop} {h g : Heap} {G : Array GenState} {D : Drawn} {tk : Nat} {O : OsState} {L : Addr} {m : Str → Option Value} {led : Led} {Q : Value → Shared → Prop} {l : List Nat} {t : Tok}
theorem st_loop {M : Model} {A : Around} {E : Value → Shared → Prop} {s : Shared} {f : Str → Bool} {K : Option PySem.Fin × Unit → Shared → Prop} (body : Value → Option PySem.Fin × Unit → Sem (ForInStep (Option PySem.Fin × Unit)))
    (hb : ∀ (x : Str) (t : Tok) (Q' : ForInStep (Option PySem.Fin × Unit) → Shared → Prop), Q' (if f x = true then .done (some (.done (.ret (.bool true))), ()) else .yield (none, ())) s → wpAny M A (body (.str x t) (none, ())) Q' E s) :
    ∀ vs : List (Str × Tok), K (if (vs.any fun p => f p.1) = true then (some (.done (.ret (.bool true))), ()) else (none, ())) s → wpAny M A (forIn (strValues vs) (none, ()) body) K E s
  | [], h => by
    show wpAny M A (pure (none, ())) K E s
    exact wpAny_pure h
  | (x, t) :: r, h => by
    show wpAny M A (forIn (Value.str x t :: strValues r) (none, ()) body) K E s
    rw [List.forIn_cons]
    refine wpAny_bind (hb x t _ ?_)
    rw [List.any_cons] at h
    by_cases hx : f x = true
    · rw [if_pos hx]
      simp only [hx, Bool.true_or, if_true] at h
      exact wpAny_pure h
    · rw [if_neg hx]
      have hx' : f x = false := by simpa using hx
      simp only [hx', Bool.false_or] at h
      exact st_loop body hb r h
theorem st_meets {T : Addr} {vs : List (Str × Tok)} (t : Tok) : Meets (Builtin.«str.startswith» ⟨[.str (S l) t, .ref T], []⟩) (fun _ R s => IsTup s.heap T (strValues vs).toArray ∧ R (.ok (.ret (.bool (vs.any fun p => Txt.startswith (S l) p.1)))) s) :=
  Meets.of_wp fun prog w A R s hs => by
    obtain ⟨hp, g, d, tk, os⟩ := s
    obtain ⟨ht, hr⟩ := hs
    unfold Builtin.«str.startswith» Builtin.Str.affixEntry
    repeat (any_goals (first
      | assumption
      | wp_step))
    have ht' := ht
    obtain ⟨o, ho, hc, n, hd⟩ := ht'
    refine wpAny_load ho ?_
    rw [hd]
    refine wpAny_pure ?_
    refine wpAny_bind (wpAny_isInstance (T := "tuple") ⟨o, ho, hc⟩ tup_sub ?_)
    rw [if_pos rfl]
    refine wpAny_bind (wpAny_rule ?_)
    refine wpAny_bind (wpAny_seqItems ho hd ?_)
    dsimp only
    rw [← Array.forIn_toList]
    have hst : ∀ x : Str, (decide (Int.toNat 0 + x.length ≤ min ((S l).length : Int).toNat (S l).length) && Builtin.Str.subAt (S l) x (Int.toNat 0)) = Txt.startswith (S l) x := by
      intro x
      rw [Int.toNat_natCast, Nat.min_self]
      rfl
    refine wpAny_bind (st_loop (f := fun p => Txt.startswith (S l) p) _ (fun x t Q' hq => ?_) vs ?_)
    · refine wpAny_bind (wpAny_pure ?_)
      dsimp only
      by_cases hx : Txt.startswith (S l) x = true
      · rw [if_pos hx] at hq
        rw [if_pos ((hst x).trans hx)]
        exact wpAny_pure hq
      · rw [if_neg hx] at hq
        rw [if_neg (by rw [hst x]; exact hx)]
        exact wpAny_pure hq
    · by_cases hv : (vs.any fun p => Txt.startswith (S l) p.1) = true
      · rw [if_pos hv]
        exact wpAny_pure ⟨_, rfl, by rw [hv] at hr; exact hr⟩
      · rw [if_neg hv]
        have hv' : (vs.any fun p => Txt.startswith (S l) p.1) = false := by simpa using hv
        exact wpAny_pure ⟨_, rfl, by rw [hv'] at hr; exact hr⟩
theorem z_starts {T : Addr} {vs : List (Str × Tok)} {b : Bool} (FF : Fr g L h m) (X : (Mine.hd.heap_39 w.params).In g) (N : News g L h led) (x : Has w led T (tupO (strValues vs))) (hb : (vs.any fun p => Txt.startswith (S l) p.1) = b) (q : Q (.bool b) ⟨h, G, D, tk, O⟩) :
    wpAny (model PySem.Challenge.rw_aj5018_01.row.prog w) A (call (.builtin "str.startswith") [.str (S l) t, .ref T]) Q E ⟨h, G, D, tk, O⟩ :=
  call_meets F.slot_str_startswith (typeIs_str _ _ _) F.entry_str_startswith (F.args_str_startswith_2 _ _) (st_meets t) ⟨x.tup FF X N, by rw [hb]; exact q⟩
theorem starts_S (l p : List Nat) : Txt.startswith (S l) (S p) = (l.take p.length == p) := by
  unfold Txt.startswith
  rw [StrLaws.subAt_eq, S_list, S_list, S_len, S_len, List.drop_zero]
  by_cases hp : p.length ≤ l.length
  · rw [decide_eq_true (by omega), Bool.true_and]
  · rw [decide_eq_false (by omega), Bool.false_and]
    symm
    rw [beq_eq_false_iff_ne]
    intro e
    have := congrArg List.length e
    rw [List.length_take] at this
    omega
end
end Mine
/-! part PowF -/
namespace Mine
/-! pow(2, e), n.bit_length() of a written n -/
theorem kind_pow : builtinKind "pow" = none := by decide +kernel
theorem plain_pow : plainId "pow" = true := by decide +kernel
theorem entry_pow : entryFor table "pow" = some Builtin.«pow» := entryFor_of_tree (by kernel_rfl)
theorem args_pow (a b : Value) : argsOk "pow" ⟨[a, b], []⟩ := by kernel_rfl
section
variable {w : World} {A : Around} {E : Value → Shared → Prop} {h : Heap} {G : Array GenState} {D : Drawn} {tk : Nat} {O : OsState} {Q : Value → Shared → Prop} {a n r : Int} {t u : Tok}
theorem z_powF (r : Int) (hr : a ^ n.toNat = r) (hn : 0 ≤ n) (hs : (Builtin.Int.intBits a : Int) * n ≤ 2 ^ 27) (q : Q (.int r tk) ⟨h, G, D, tk + 1, O⟩) :
    wpAny (model PySem.Challenge.rw_aj5018_01.row.prog w) A (call (.builtin "pow") [.int a t, .int n u]) Q E ⟨h, G, D, tk, O⟩ := by
  subst hr
  refine Calls.call_function_entry kind_pow plain_pow entry_pow (args_pow _ _) ?_
  unfold Builtin.«pow»
  refine wpAny_bind (wpAny_of_eq (a := [some (.int a t), some (.int n u), none]) (by with_unfolding_all rfl) ?_)
  dsimp only
  refine wpAny_bind (z_pow hn hs ?_)
  exact wpAny_pure ⟨_, rfl, q⟩
theorem z_bl (k : Int) (hk : (Builtin.Int.intBits n : Int) = k) (q : Q (.int k tk) ⟨h, G, D, tk + 1, O⟩) :
    wpAny (model PySem.Challenge.rw_aj5018_01.row.prog w) A (call (.builtin "int.bit_length") [.int n t]) Q E ⟨h, G, D, tk, O⟩ := by
  subst hk
  exact call_int_bit_length q
end
theorem bl2 : (Builtin.Int.intBits 2 : Int) = 2 := by decide +kernel
theorem bl8 : (Builtin.Int.intBits 8 : Int) = 4 := by decide +kernel
theorem bl10 : (Builtin.Int.intBits 10 : Int) = 4 := by decide +kernel
theorem bl16 : (Builtin.Int.intBits 16 : Int) = 5 := by decide +kernel
theorem pw1 : (2 : Int) ^ (2 - 1 : Int).toNat = 2 := by decide
theorem pw3 : (2 : Int) ^ (4 - 1 : Int).toNat = 8 := by decide
theorem pw4 : (2 : Int) ^ (5 - 1 : Int).toNat = 16 := by decide
end Mine
/-! part W1 -/
namespace Mine
theorem flushW1 : (0 : Nat) = 0 := by
  w_top off
  first | walk1 | rfl
local macro_rules | `(tactic| walk_at "has") => `(tactic| first | (with_reducible assumption) | exact Has.here | (refine Has.cons ?_; walk_at "has") | (refine Has.sub (by with_reducible assumption) ?_; walk_at "has") | exact has_zero | exact has_nan | exact has_inf | exact has_ninf)
local macro_rules | `(tactic| walk_at "subs") => `(tactic| first | (with_reducible assumption) | exact sub_refl | (refine sub_cons ?_; walk_at "subs") | (refine sub_trans (by with_reducible assumption) ?_; walk_at "subs"))
local macro_rules | `(tactic| kun_tup) => `(tactic| exact Has.tup (by k_asm) (by k_asm) (by k_asm) (by walk_at "has"))
local macro_rules | `(tactic| walk_at "Fin") => `(tactic| ((refine ⟨_, _, by with_reducible assumption, by with_reducible assumption, by walk_at "subs", ?_, rfl⟩); walk_at "post"))
local macro_rules | `(tactic| walk_at "steps") => `(tactic| repeat' (first | (k_unfold) | walk1 | fail "no step"))
local macro_rules | `(tactic| walk_at "isR") => `(tactic| with_reducible first | assumption | exact isR _ | exact isR_n | exact isR_f | exact isR_c | exact isR_d | exact isR_u)
local macro_rules | `(tactic| walk_at "use") => `(tactic| ((case B => k_asm); (case F => k_asm); (case X => k_asm); (case N => k_asm); (case T => k_asm); (case kK => first | exact rfl | assumption); (case kd => first | omega | ktr_room); (case ku => first | omega | ktr_units)))
local macro_rules | `(tactic| walk_at "back") => `(tactic| (intro v9 h9 tk9 led9 F9 N9 s9 p9; k_dflt (first | (obtain ⟨D9, ta9, tb9, tc9, td9, e9, hM9⟩ := p9; subst e9) | (obtain ⟨y9, ⟨D9, ta9, tb9, tc9, td9, e9, hM9⟩, hy9⟩ := p9; subst e9) | (obtain ⟨c9, t9, e9, hc9⟩ := p9; subst e9) | (obtain ⟨t9, e9⟩ := p9; subst e9) | skip); (try k_sweep); (try k_fold)))
local macro_rules | `(tactic| walk_at "enter") => `(tactic| ((case eo => k_is); (case ec => k_is); (case eb => exact fun _ => by rfl); (case en => exact rfl); (case em => exact rfl); (case eK => exact ⟨by decide +kernel, rfl, by decide +kernel⟩); (case ecl => decide +kernel); (case e1 => exact rfl); (case e2 => exact rfl)))
local macro_rules | `(tactic| walk_at "side") => `(tactic| first | omega | decide | assumption)
local macro_rules | `(tactic| walk_at "binaryOp Add int int") => `(tactic| refine z_add ?_)
local macro_rules | `(tactic| walk_at "binaryOp Sub int int") => `(tactic| refine z_sub ?_)
local macro_rules | `(tactic| walk_at "binaryOp Mult int int") => `(tactic| refine z_mul (by walk_at "mulok") ?_)
local macro_rules | `(tactic| walk_at "binaryOp Mod int int") => `(tactic| refine z_mod (by walk_at "side") ?_)
local macro_rules | `(tactic| walk_at "binaryOp Pow int int") => `(tactic| refine z_pow (by walk_at "side") (by walk_at "size") ?_)
local macro_rules | `(tactic| walk_at "binaryOp LShift int int") => `(tactic| refine z_shl (by walk_at "side") (by walk_at "size") ?_)
local macro_rules | `(tactic| walk_at "binaryOp RShift int int") => `(tactic| refine z_shr (by walk_at "side") ?_)
local macro_rules | `(tactic| walk_at "binaryOp BitAnd int int") => `(tactic| refine z_and ?_)
local macro_rules | `(tactic| walk_at "binaryOp BitXor int int") => `(tactic| refine z_xor ?_)
local macro_rules | `(tactic| walk_at "unaryOp USub int") => `(tactic| refine z_neg ?_)
local macro_rules | `(tactic| walk_at "inplaceOp Add int int") => `(tactic| refine z_iadd ?_)
local macro_rules | `(tactic| walk_at "inplaceOp Sub int int") => `(tactic| refine z_isub ?_)
local macro_rules | `(tactic| walk_at "inplaceOp Mult int int") => `(tactic| refine z_imul (by walk_at "mulok") ?_)
local macro_rules | `(tactic| walk_at "inplaceOp RShift int int") => `(tactic| refine z_ishr (by walk_at "side") ?_)
local macro_rules | `(tactic| walk_at "inplaceOp LShift int int") => `(tactic| refine z_ishl (by walk_at "side") (by walk_at "size") ?_)
local macro_rules | `(tactic| walk_at "inplaceOp BitXor int int") => `(tactic| refine z_ixor ?_)
local macro_rules | `(tactic| walk_at "eval Constant int") => `(tactic| refine z_const ?_)
local macro_rules | `(tactic| walk_at "eval Constant str") => `(tactic| refine z_text ?_)
local macro_rules | `(tactic| walk_at "storeName") => `(tactic| (with_reducible (first | refine st0 (by assumption) (by assumption) (by assumption) ?_ | refine st1 (by assumption) (by assumption) (by assumption) ?_ | refine st2 (by assumption) (by assumption) (by assumption) ?_ | refine st3 (by assumption) (by assumption) (by assumption) ?_ | refine st4 (by assumption) (by assumption) (by assumption) ?_ | refine st5 (by assumption) (by assumption) (by assumption) ?_ | refine st6 (by assumption) (by assumption) (by assumption) ?_ | refine st7 (by assumption) (by assumption) (by assumption) ?_ | refine st8 (by assumption) (by assumption) (by assumption) ?_ | refine st9 (by assumption) (by assumption) (by assumption) ?_ | refine st10 (by assumption) (by assumption) (by assumption) ?_ | refine st11 (by assumption) (by assumption) (by assumption) ?_ | refine st12 (by assumption) (by assumption) (by assumption) ?_ | refine st13 (by assumption) (by assumption) (by assumption) ?_ | refine st14 (by assumption) (by assumption) (by assumption) ?_ | refine st15 (by assumption) (by assumption) (by assumption) ?_ | refine st16 (by assumption) (by assumption) (by assumption) ?_ | refine st17 (by assumption) (by assumption) (by assumption) ?_); intro h' tk' F' N'; (try k_sweep)))
local macro_rules | `(tactic| walk_at "eval Name") => `(tactic| with_reducible (first | refine ld0 (by assumption) (by assumption) ?_ | refine ld1 (by assumption) (by assumption) ?_ | refine ld2 (by assumption) (by assumption) ?_ | refine ld3 (by assumption) (by assumption) ?_ | refine ld4 (by assumption) (by assumption) ?_ | refine ld5 (by assumption) (by assumption) ?_ | refine ld6 (by assumption) (by assumption) ?_ | refine ld7 (by assumption) (by assumption) ?_ | refine ld8 (by assumption) (by assumption) ?_ | refine ld9 (by assumption) (by assumption) ?_ | refine ld10 (by assumption) (by assumption) ?_ | refine ld11 (by assumption) (by assumption) ?_ | refine ld12 (by assumption) (by assumption) ?_ | refine ld13 (by assumption) (by assumption) ?_ | refine ld14 (by assumption) (by assumption) ?_ | refine ld15 (by assumption) (by assumption) ?_ | refine ld16 (by assumption) (by assumption) ?_ | refine ld17 (by assumption) (by assumption) ?_))
local macro_rules | `(tactic| walk_at "loadName") => `(tactic| with_reducible (first | refine ln0 (by assumption) (by assumption) ?_ | refine ln1 (by assumption) (by assumption) ?_ | refine ln2 (by assumption) (by assumption) ?_ | refine ln3 (by assumption) (by assumption) ?_ | refine ln4 (by assumption) (by assumption) ?_ | refine ln5 (by assumption) (by assumption) ?_ | refine ln6 (by assumption) (by assumption) ?_ | refine ln7 (by assumption) (by assumption) ?_ | refine ln8 (by assumption) (by assumption) ?_ | refine ln9 (by assumption) (by assumption) ?_ | refine ln10 (by assumption) (by assumption) ?_ | refine ln11 (by assumption) (by assumption) ?_ | refine ln12 (by assumption) (by assumption) ?_ | refine ln13 (by assumption) (by assumption) ?_ | refine ln14 (by assumption) (by assumption) ?_ | refine ln15 (by assumption) (by assumption) ?_ | refine ln16 (by assumption) (by assumption) ?_ | refine ln17 (by assumption) (by assumption) ?_))
local macro_rules | `(tactic| walk_at "execs cons") => `(tactic| with_reducible refine wpAny_execs_cons ?_)
local macro_rules | `(tactic| walk_at "newTuple") => `(tactic| (k_dflt (refine' z_tuple ?F ?N ?z ?_; (case F => k_asm); (case N => k_asm); (case z => kmk_size)); intro T' h' F' N'; (try k_sweep)))
local macro_rules | `(tactic| walk_at "assign Tuple") => `(tactic| ((with_reducible show wpAny _ _ (assign (Expr.Tuple _ _ _) _ (Value.ref _)) _ _ _); k_dflt (refine' z_unpack ?F ?X ?N ?H ?h ?n ?st ?_; (case F => k_asm); (case X => k_asm); (case N => k_asm); (case H => walk_at "has"); (case h => exact rfl); (case n => exact rfl); (case st => exact rfl)); intro h' F' N'; (try k_sweep)))
local macro_rules | `(tactic| walk_at "dead") => `(tactic| first | omega | contradiction)
local macro_rules | `(tactic| walk_at "cond") => `(tactic| (intro hb; (try simp only [bne_iff_ne, beq_iff_eq, Bool.not_eq_true', Bool.not_eq_false', bne_eq_false_iff_eq, beq_eq_false_iff_ne, Bool.not_eq_true, Bool.not_eq_false, decide_eq_true_eq, decide_eq_false_iff_not, ne_eq, mpf_eq_iff, true_and, and_true, false_and, and_false, not_false_eq_true, not_true_eq_false, Decidable.not_not, Bool.not_not, Int.not_le, Int.not_lt] at hb); (try (exfalso; walk_at "dead"))))
local macro_rules | `(tactic| walk_at "ite") => `(tactic| first | with_reducible rw [if_pos True.intro] | with_reducible rw [if_neg not_false] | with_reducible rw [if_pos rfl] | (with_reducible (refine split_dec ?_ ?_ <;> walk_at "cond")) | (with_reducible (refine split_bool ?_ ?_ <;> walk_at "cond")))

local macro_rules | `(tactic| walk_at "compareOp Eq ref ref") => `(tactic| (k_dflt (refine' z_eqM ?F ?X ?N ?x ?y ?u ?_; (case F => k_asm); (case X => k_asm); (case N => k_asm); (case x => walk_at "has"); (case y => walk_at "has"); (case u => first | omega | ktr_units))))
local macro_rules | `(tactic| walk_at "compareOp NotEq ref ref") => `(tactic| (k_dflt (refine' z_neM ?F ?X ?N ?x ?y ?u ?_; (case F => k_asm); (case X => k_asm); (case N => k_asm); (case x => walk_at "has"); (case y => walk_at "has"); (case u => first | omega | ktr_units))))

local macro_rules | `(tactic| walk_at "pyl") => `(tactic| first | assumption | decide +kernel)
local macro_rules | `(tactic| walk_at "call builtin:divmod") => `(tactic| (k_dflt (refine' z_divmod ?F ?N ?b ?p ?_; (case F => k_asm); (case N => k_asm); (case b => walk_at "side"); (case p => walk_at "pyl")); intro T' h' F' N'; (try k_sweep)))
local macro_rules | `(tactic| walk_at "binaryOp FloorDiv int int") => `(tactic| refine z_fdiv (by walk_at "side") (by walk_at "pyl") ?_)

local macro_rules | `(tactic| walk_at "subscriptTail Name Constant ref int") => `(tactic| (k_dflt (refine' z_item ?F ?X ?N ?x _ ?lo ?hi ?j ?v ?_ ?s; (case F => k_asm); (case X => k_asm); (case N => k_asm); (case x => walk_at "has"); (case lo => decide); (case hi => decide); (case j => exact rfl); (case v => exact rfl); (case s => with_unfolding_all rfl))))
local macro_rules | `(tactic| walk_at "post") => `(tactic| first | exact ⟨_, by rw [trailing_bits (by assumption)]⟩ | (exfalso; omega))
theorem c_trailing (w : World) (n : Int) (t : Tok) (hn : 0 < n) : Ctr w 21 1 [.int n t] (fun _ _ => True) (fun _ v => ∃ t', v = .int (tz n.toNat) t') := by
  unfold Ctr
  k_fill
  refine' z_enter [("n", .int n t)] [] ["n"] [some (.int n t)] ?eo ?ec ?eb ?en ?em ?eK ?ecl ?e1 ?e2 ?_
  walk_at "enter"
  intro dp un gd outer A₀ base g L led h G D tk O p loose mean mg mb B X HT hd hu hpre LK F N
  k_fold
  walk_at "steps"
end Mine
/-! part W2 -/
namespace Mine
theorem flushW2 : (0 : Nat) = 0 := by
  w_top off
  first | walk1 | rfl
local macro_rules | `(tactic| walk_at "has") => `(tactic| first | (with_reducible assumption) | exact Has.here | (refine Has.cons ?_; walk_at "has") | (refine Has.sub (by with_reducible assumption) ?_; walk_at "has") | exact has_zero | exact has_nan | exact has_inf | exact has_ninf)
local macro_rules | `(tactic| walk_at "subs") => `(tactic| first | (with_reducible assumption) | exact sub_refl | (refine sub_cons ?_; walk_at "subs") | (refine sub_trans (by with_reducible assumption) ?_; walk_at "subs"))
local macro_rules | `(tactic| kun_tup) => `(tactic| exact Has.tup (by k_asm) (by k_asm) (by k_asm) (by walk_at "has"))
local macro_rules | `(tactic| walk_at "Fin") => `(tactic| ((refine ⟨_, _, by with_reducible assumption, by with_reducible assumption, by walk_at "subs", ?_, rfl⟩); walk_at "post"))
local macro_rules | `(tactic| walk_at "steps") => `(tactic| repeat' (first | (k_unfold) | walk1 | fail "no step"))
local macro_rules | `(tactic| walk_at "isR") => `(tactic| with_reducible first | assumption | exact isR _ | exact isR_n | exact isR_f | exact isR_c | exact isR_d | exact isR_u)
local macro_rules | `(tactic| walk_at "use") => `(tactic| ((case B => k_asm); (case F => k_asm); (case X => k_asm); (case N => k_asm); (case T => k_asm); (case kK => first | exact rfl | assumption); (case kd => first | omega | ktr_room); (case ku => first | omega | ktr_units)))
local macro_rules | `(tactic| walk_at "back") => `(tactic| (intro v9 h9 tk9 led9 F9 N9 s9 p9; k_dflt (first | (obtain ⟨D9, ta9, tb9, tc9, td9, e9, hM9⟩ := p9; subst e9) | (obtain ⟨y9, ⟨D9, ta9, tb9, tc9, td9, e9, hM9⟩, hy9⟩ := p9; subst e9) | (obtain ⟨c9, t9, e9, hc9⟩ := p9; subst e9) | (obtain ⟨t9, e9⟩ := p9; subst e9) | skip); (try k_sweep); (try k_fold)))
local macro_rules | `(tactic| walk_at "enter") => `(tactic| ((case eo => k_is); (case ec => k_is); (case eb => exact fun _ => by rfl); (case en => exact rfl); (case em => exact rfl); (case eK => exact ⟨by decide +kernel, rfl, by decide +kernel⟩); (case ecl => decide +kernel); (case e1 => exact rfl); (case e2 => exact rfl)))
local macro_rules | `(tactic| walk_at "side") => `(tactic| first | omega | decide | assumption)
local macro_rules | `(tactic| walk_at "binaryOp Add int int") => `(tactic| refine z_add ?_)
local macro_rules | `(tactic| walk_at "binaryOp Sub int int") => `(tactic| refine z_sub ?_)
local macro_rules | `(tactic| walk_at "binaryOp Mult int int") => `(tactic| refine z_mul (by walk_at "mulok") ?_)
local macro_rules | `(tactic| walk_at "binaryOp Mod int int") => `(tactic| refine z_mod (by walk_at "side") ?_)
local macro_rules | `(tactic| walk_at "binaryOp Pow int int") => `(tactic| refine z_pow (by walk_at "side") (by walk_at "size") ?_)
local macro_rules | `(tactic| walk_at "binaryOp LShift int int") => `(tactic| refine z_shl (by walk_at "side") (by walk_at "size") ?_)
local macro_rules | `(tactic| walk_at "binaryOp RShift int int") => `(tactic| refine z_shr (by walk_at "side") ?_)
local macro_rules | `(tactic| walk_at "binaryOp BitAnd int int") => `(tactic| refine z_and ?_)
local macro_rules | `(tactic| walk_at "binaryOp BitXor int int") => `(tactic| refine z_xor ?_)
local macro_rules | `(tactic| walk_at "unaryOp USub int") => `(tactic| refine z_neg ?_)
local macro_rules | `(tactic| walk_at "inplaceOp Add int int") => `(tactic| refine z_iadd ?_)
local macro_rules | `(tactic| walk_at "inplaceOp Sub int int") => `(tactic| refine z_isub ?_)
local macro_rules | `(tactic| walk_at "inplaceOp Mult int int") => `(tactic| refine z_imul (by walk_at "mulok") ?_)
local macro_rules | `(tactic| walk_at "inplaceOp RShift int int") => `(tactic| refine z_ishr (by walk_at "side") ?_)
local macro_rules | `(tactic| walk_at "inplaceOp LShift int int") => `(tactic| refine z_ishl (by walk_at "side") (by walk_at "size") ?_)
local macro_rules | `(tactic| walk_at "inplaceOp BitXor int int") => `(tactic| refine z_ixor ?_)
local macro_rules | `(tactic| walk_at "eval Constant int") => `(tactic| refine z_const ?_)
local macro_rules | `(tactic| walk_at "eval Constant str") => `(tactic| refine z_text ?_)
local macro_rules | `(tactic| walk_at "storeName") => `(tactic| (with_reducible (first | refine st0 (by assumption) (by assumption) (by assumption) ?_ | refine st1 (by assumption) (by assumption) (by assumption) ?_ | refine st2 (by assumption) (by assumption) (by assumption) ?_ | refine st3 (by assumption) (by assumption) (by assumption) ?_ | refine st4 (by assumption) (by assumption) (by assumption) ?_ | refine st5 (by assumption) (by assumption) (by assumption) ?_ | refine st6 (by assumption) (by assumption) (by assumption) ?_ | refine st7 (by assumption) (by assumption) (by assumption) ?_ | refine st8 (by assumption) (by assumption) (by assumption) ?_ | refine st9 (by assumption) (by assumption) (by assumption) ?_ | refine st10 (by assumption) (by assumption) (by assumption) ?_ | refine st11 (by assumption) (by assumption) (by assumption) ?_ | refine st12 (by assumption) (by assumption) (by assumption) ?_ | refine st13 (by assumption) (by assumption) (by assumption) ?_ | refine st14 (by assumption) (by assumption) (by assumption) ?_ | refine st15 (by assumption) (by assumption) (by assumption) ?_ | refine st16 (by assumption) (by assumption) (by assumption) ?_ | refine st17 (by assumption) (by assumption) (by assumption) ?_); intro h' tk' F' N'; (try k_sweep)))
local macro_rules | `(tactic| walk_at "eval Name") => `(tactic| with_reducible (first | refine ld0 (by assumption) (by assumption) ?_ | refine ld1 (by assumption) (by assumption) ?_ | refine ld2 (by assumption) (by assumption) ?_ | refine ld3 (by assumption) (by assumption) ?_ | refine ld4 (by assumption) (by assumption) ?_ | refine ld5 (by assumption) (by assumption) ?_ | refine ld6 (by assumption) (by assumption) ?_ | refine ld7 (by assumption) (by assumption) ?_ | refine ld8 (by assumption) (by assumption) ?_ | refine ld9 (by assumption) (by assumption) ?_ | refine ld10 (by assumption) (by assumption) ?_ | refine ld11 (by assumption) (by assumption) ?_ | refine ld12 (by assumption) (by assumption) ?_ | refine ld13 (by assumption) (by assumption) ?_ | refine ld14 (by assumption) (by assumption) ?_ | refine ld15 (by assumption) (by assumption) ?_ | refine ld16 (by assumption) (by assumption) ?_ | refine ld17 (by assumption) (by assumption) ?_))
local macro_rules | `(tactic| walk_at "loadName") => `(tactic| with_reducible (first | refine ln0 (by assumption) (by assumption) ?_ | refine ln1 (by assumption) (by assumption) ?_ | refine ln2 (by assumption) (by assumption) ?_ | refine ln3 (by assumption) (by assumption) ?_ | refine ln4 (by assumption) (by assumption) ?_ | refine ln5 (by assumption) (by assumption) ?_ | refine ln6 (by assumption) (by assumption) ?_ | refine ln7 (by assumption) (by assumption) ?_ | refine ln8 (by assumption) (by assumption) ?_ | refine ln9 (by assumption) (by assumption) ?_ | refine ln10 (by assumption) (by assumption) ?_ | refine ln11 (by assumption) (by assumption) ?_ | refine ln12 (by assumption) (by assumption) ?_ | refine ln13 (by assumption) (by assumption) ?_ | refine ln14 (by assumption) (by assumption) ?_ | refine ln15 (by assumption) (by assumption) ?_ | refine ln16 (by assumption) (by assumption) ?_ | refine ln17 (by assumption) (by assumption) ?_))
local macro_rules | `(tactic| walk_at "execs cons") => `(tactic| with_reducible refine wpAny_execs_cons ?_)
local macro_rules | `(tactic| walk_at "newTuple") => `(tactic| (k_dflt (refine' z_tuple ?F ?N ?z ?_; (case F => k_asm); (case N => k_asm); (case z => kmk_size)); intro T' h' F' N'; (try k_sweep)))
local macro_rules | `(tactic| walk_at "assign Tuple") => `(tactic| ((with_reducible show wpAny _ _ (assign (Expr.Tuple _ _ _) _ (Value.ref _)) _ _ _); k_dflt (refine' z_unpack ?F ?X ?N ?H ?h ?n ?st ?_; (case F => k_asm); (case X => k_asm); (case N => k_asm); (case H => walk_at "has"); (case h => exact rfl); (case n => exact rfl); (case st => exact rfl)); intro h' F' N'; (try k_sweep)))
local macro_rules | `(tactic| walk_at "dead") => `(tactic| first | omega | contradiction)
local macro_rules | `(tactic| walk_at "cond") => `(tactic| (intro hb; (try simp only [bne_iff_ne, beq_iff_eq, Bool.not_eq_true', Bool.not_eq_false', bne_eq_false_iff_eq, beq_eq_false_iff_ne, Bool.not_eq_true, Bool.not_eq_false, decide_eq_true_eq, decide_eq_false_iff_not, ne_eq, mpf_eq_iff, true_and, and_true, false_and, and_false, not_false_eq_true, not_true_eq_false, Decidable.not_not, Bool.not_not, Int.not_le, Int.not_lt] at hb); (try (exfalso; walk_at "dead"))))
local macro_rules | `(tactic| walk_at "ite") => `(tactic| first | with_reducible rw [if_pos True.intro] | with_reducible rw [if_neg not_false] | with_reducible rw [if_pos rfl] | (with_reducible (refine split_dec ?_ ?_ <;> walk_at "cond")) | (with_reducible (refine split_bool ?_ ?_ <;> walk_at "cond")))

local macro_rules | `(tactic| walk_at "compareOp Eq ref ref") => `(tactic| (k_dflt (refine' z_eqM ?F ?X ?N ?x ?y ?u ?_; (case F => k_asm); (case X => k_asm); (case N => k_asm); (case x => walk_at "has"); (case y => walk_at "has"); (case u => first | omega | ktr_units))))
local macro_rules | `(tactic| walk_at "compareOp NotEq ref ref") => `(tactic| (k_dflt (refine' z_neM ?F ?X ?N ?x ?y ?u ?_; (case F => k_asm); (case X => k_asm); (case N => k_asm); (case x => walk_at "has"); (case y => walk_at "has"); (case u => first | omega | ktr_units))))

local macro_rules | `(tactic| walk_at "pyl") => `(tactic| first | assumption | decide +kernel)
local macro_rules | `(tactic| walk_at "call builtin:divmod") => `(tactic| (k_dflt (refine' z_divmod ?F ?N ?b ?p ?_; (case F => k_asm); (case N => k_asm); (case b => walk_at "side"); (case p => walk_at "pyl")); intro T' h' F' N'; (try k_sweep)))
local macro_rules | `(tactic| walk_at "binaryOp FloorDiv int int") => `(tactic| refine z_fdiv (by walk_at "side") (by walk_at "pyl") ?_)

local macro_rules | `(tactic| walk_at "subscriptTail Name Constant ref int") => `(tactic| (k_dflt (refine' z_item ?F ?X ?N ?x _ ?lo ?hi ?j ?v ?_ ?s; (case F => k_asm); (case X => k_asm); (case N => k_asm); (case x => walk_at "has"); (case lo => decide); (case hi => decide); (case j => exact rfl); (case v => exact rfl); (case s => with_unfolding_all rfl))))
local macro_rules | `(tactic| walk_at "call ref") => `(tactic| ((with_reducible show wpAny _ _ (call (Value.ref 21) _) _ _ _); k_dflt (refine' z_use (c_trailing _ _ _ ?hn) ?B ?F ?X ?N ?T ?kK ?kd ?ku ?kp ?_); walk_at "use"; (case kp => trivial); (case hn => walk_at "side"); walk_at "back"))
section
variable {w : World} {A : Around} {E : Value → Shared → Prop} {H g : Heap} {G : Array GenState} {D : Drawn} {tk : Nat} {O : OsState} {L : Addr} {m : Str → Option Value} {led : Led} {value slice : PySem.Expr} {t : Tok} {r : Rnd} {sg : Int}
theorem sd_get {Q : Value → Shared → Prop} (F : Fr g L H m) (X : (Mine.hd.heap_39 w.params).In g) (hr : r ≠ .n) (h : Q (.ref (sdA r)) ⟨H, G, D, tk + 1, O⟩)
    (hs : ∀ x, subscripted slice false (.ref 58) (.str x t) = operate [.ref 58, .str x t] (getItem (.ref 58) (.str x t))) :
    wpAny (model PySem.Challenge.rw_aj5018_01.row.prog w) A (subscriptTail value slice (.ref 58) (.str r.str t)) Q E ⟨H, G, D, tk, O⟩ := by
  cases r with
  | n => exact absurd rfl hr
  | f => exact topItem_K (x := Str.ofString "f") F X (by rfl) (by k_keys) (by rfl) h (hs _)
  | c => exact topItem_K (x := Str.ofString "c") F X (by rfl) (by k_keys) (by rfl) h (hs _)
  | d => exact topItem_K (x := Str.ofString "d") F X (by rfl) (by k_keys) (by rfl) h (hs _)
  | u => exact topItem_K (x := Str.ofString "u") F X (by rfl) (by k_keys) (by rfl) h (hs _)
theorem sd_sub {Q : Value → Shared → Prop} (F : Fr g L H m) (X : (Mine.hd.heap_39 w.params).In g) (hr : r ≠ .n) (hsg : sg = 0 ∨ sg = 1) (h : ∀ t', Q (.int (sdV sg r) t') ⟨H, G, D, tk, O⟩)
    (hs : ∀ Ad, subscripted slice false (.ref Ad) (.int sg t) = operate [.ref Ad, .int sg t] (getItem (.ref Ad) (.int sg t))) :
    wpAny (model PySem.Challenge.rw_aj5018_01.row.prog w) A (subscriptTail value slice (.ref (sdA r)) (.int sg t)) Q E ⟨H, G, D, tk, O⟩ := by
  have hh : ∀ (Ad : Addr) (a b : Int) (ta tb : Tok), (Mine.hd.heap_39 w.params).lookup Ad = some (tupO [.int a ta, .int b tb]) → (sg = 0 → sdV sg r = a) → (sg = 1 → sdV sg r = b) →
      wpAny (model PySem.Challenge.rw_aj5018_01.row.prog w) A (subscriptTail value slice (.ref Ad) (.int sg t)) Q E ⟨H, G, D, tk, O⟩ := by
    intro Ad a b ta tb hD h0 h1
    rcases hsg with rfl | rfl
    · exact item_tupleT (l := [.int a ta, .int b tb]) (tupK (X.keeps F.keep) hD) (by decide) (by decide) (j := 0) rfl rfl (by rw [← h0 rfl]; exact h _) (hs _)
    · exact item_tupleT (l := [.int a ta, .int b tb]) (tupK (X.keeps F.keep) hD) (by decide) (by decide) (j := 1) rfl rfl (by rw [← h1 rfl]; exact h _) (hs _)
  cases r with
  | n => exact absurd rfl hr
  | f => exact hh 59 1 0 _ _ rfl (by intro e; subst e; rfl) (by intro e; subst e; rfl)
  | c => exact hh 60 0 1 _ _ rfl (by intro e; subst e; rfl) (by intro e; subst e; rfl)
  | d => exact hh 61 1 1 _ _ rfl (by intro e; subst e; rfl) (by intro e; subst e; rfl)
  | u => exact hh 62 0 0 _ _ rfl (by intro e; subst e; rfl) (by intro e; subst e; rfl)
end
local macro_rules | `(tactic| walk_at "subscriptTail") => `(tactic| ((with_reducible show wpAny _ _ (subscriptTail _ _ (Value.ref 58) (Value.str (Rnd.str _) _)) _ _ _); (refine sd_get (by k_asm) (by k_asm) (by walk_at "rne") ?_ (fun _ => by with_unfolding_all rfl))))
local macro_rules | `(tactic| walk_at "subscriptTail") => `(tactic| ((with_reducible show wpAny _ _ (subscriptTail _ _ (Value.ref (sdA _)) (Value.int _ _)) _ _ _); (refine sd_sub (by k_asm) (by k_asm) (by walk_at "rne") (by assumption) ?_ (fun _ => by with_unfolding_all rfl)); intro _))
local macro_rules | `(tactic| walk_at "rne") => `(tactic| (intro hrne; subst hrne; contradiction))
theorem size_one {k : Int} (h : k ≤ 1000000) : (Builtin.Int.intBits 1 : Int) + k ≤ 2 ^ 27 := by
  have : Builtin.Int.intBits 1 = 1 := rfl
  rw [this]; omega
local macro_rules | `(tactic| walk_at "size") => `(tactic| first | exact size_one (by omega) | omega)
local macro_rules | `(tactic| walk_at "isM") => `(tactic| first
  | with_reducible exact isM_none (by assumption) (by assumption) (by assumption) (by omega)
  | with_reducible exact isM_dn (by assumption) (by assumption) (by assumption) (by assumption) (by assumption) (by assumption) (by assumption)
  | with_reducible exact isM_up (by assumption) (by assumption) (by assumption) (by assumption) (by assumption) (by assumption) (by assumption)
  | with_reducible exact isM_nr_up (by assumption) (by assumption) (by assumption) (by assumption) (by assumption) (by assumption) (by first | exact Or.inl (by assumption) | exact Or.inr (by assumption))
  | with_reducible exact isM_nr_dn (by assumption) (by assumption) (by assumption) (by assumption) (by assumption) (by first | exact Or.inl (by assumption) | exact Or.inr ⟨by assumption, by assumption⟩))
local macro_rules | `(tactic| walk_at "side") => `(tactic| first | omega | decide | assumption | exact (isM_dn (e := 0) (by assumption) (by assumption) (by assumption) (by assumption) (by assumption) (by assumption) (by assumption)).pos | exact (isM_up (e := 0) (by assumption) (by assumption) (by assumption) (by assumption) (by assumption) (by assumption) (by assumption)).pos | exact (isM_nr_up (sg := 0) (e := 0) (by assumption) (by assumption) (by assumption) (by assumption) (by assumption) (by assumption) (by first | exact Or.inl (by assumption) | exact Or.inr (by assumption))).pos | exact (isM_nr_dn (sg := 0) (e := 0) (by assumption) (by assumption) (by assumption) (by assumption) (by assumption) (by first | exact Or.inl (by assumption) | exact Or.inr ⟨by assumption, by assumption⟩)).pos)
local macro_rules | `(tactic| walk_at "post") => `(tactic| first
  | with_reducible exact mpf_zero (nrm_zero' (by assumption))
  | (with_reducible refine mpf_here ?_; first
    | with_reducible exact end_odd1 (by walk_at "isM") (by assumption) (by assumption)
    | with_reducible exact end_odd (by walk_at "isM") (by assumption) (by assumption)
    | with_reducible exact end_ev1 (by walk_at "isM") (by assumption)
    | with_reducible exact end_ev (by walk_at "isM") (by assumption)))
theorem c__normalize (w : World) (sg man e bc prec : Int) (r : Rnd) (t1 t2 t3 t4 t5 t6 : Tok) (hs : sg = 0 ∨ sg = 1) (h0 : 0 ≤ man) (hb : bc = blen man.toNat) (hp : 0 < prec) (hbs : bc ≤ 1000000) :
    Ctr w 69 3 [.int sg t1, .int man t2, .int e t3, .int bc t4, .int prec t5, .str r.str t6] (fun _ _ => True) (fun led v => IsMpf w led v (nrm sg man.toNat e prec.toNat r)) := by
  unfold Ctr
  k_fill
  refine' z_enter (r := 2) [("sign", .int sg t1), ("man", .int man t2), ("exp", .int e t3), ("bc", .int bc t4), ("prec", .int prec t5), ("rnd", .str r.str t6)] ["n", "t"] ["sign", "man", "exp", "bc", "prec", "rnd", "n", "t"] [some (.int sg t1), some (.int man t2), some (.int e t3), some (.int bc t4), some (.int prec t5), some (.str r.str t6), none, none] ?eo ?ec ?eb ?en ?em ?eK ?ecl ?e1 ?e2 ?_
  walk_at "enter"
  intro dp un gd outer A₀ base g L led h G D tk O p loose mean mg mb B X HT hd hu hpre LK F N
  k_fold
  walk_at "steps"
end Mine
/-! part W3 -/
namespace Mine
theorem flushW3 : (0 : Nat) = 0 := by
  w_top off
  first | walk1 | rfl
local macro_rules | `(tactic| walk_at "has") => `(tactic| first | (with_reducible assumption) | exact Has.here | (refine Has.cons ?_; walk_at "has") | (refine Has.sub (by with_reducible assumption) ?_; walk_at "has") | exact has_zero | exact has_nan | exact has_inf | exact has_ninf)
local macro_rules | `(tactic| walk_at "subs") => `(tactic| first | (with_reducible assumption) | exact sub_refl | (refine sub_cons ?_; walk_at "subs") | (refine sub_trans (by with_reducible assumption) ?_; walk_at "subs"))
local macro_rules | `(tactic| kun_tup) => `(tactic| exact Has.tup (by k_asm) (by k_asm) (by k_asm) (by walk_at "has"))
local macro_rules | `(tactic| walk_at "Fin") => `(tactic| ((refine ⟨_, _, by with_reducible assumption, by with_reducible assumption, by walk_at "subs", ?_, rfl⟩); walk_at "post"))
local macro_rules | `(tactic| walk_at "steps") => `(tactic| repeat' (first | (k_unfold) | walk1 | fail "no step"))
local macro_rules | `(tactic| walk_at "isR") => `(tactic| with_reducible first | assumption | exact isR _ | exact isR_n | exact isR_f | exact isR_c | exact isR_d | exact isR_u)
local macro_rules | `(tactic| walk_at "use") => `(tactic| ((case B => k_asm); (case F => k_asm); (case X => k_asm); (case N => k_asm); (case T => k_asm); (case kK => first | exact rfl | assumption); (case kd => first | omega | ktr_room); (case ku => first | omega | ktr_units)))
local macro_rules | `(tactic| walk_at "back") => `(tactic| (intro v9 h9 tk9 led9 F9 N9 s9 p9; k_dflt (first | (obtain ⟨D9, ta9, tb9, tc9, td9, e9, hM9⟩ := p9; subst e9) | (obtain ⟨y9, ⟨D9, ta9, tb9, tc9, td9, e9, hM9⟩, hy9⟩ := p9; subst e9) | (obtain ⟨c9, t9, e9, hc9⟩ := p9; subst e9) | (obtain ⟨t9, e9⟩ := p9; subst e9) | skip); (try k_sweep); (try k_fold)))
local macro_rules | `(tactic| walk_at "enter") => `(tactic| ((case eo => k_is); (case ec => k_is); (case eb => exact fun _ => by rfl); (case en => exact rfl); (case em => exact rfl); (case eK => exact ⟨by decide +kernel, rfl, by decide +kernel⟩); (case ecl => decide +kernel); (case e1 => exact rfl); (case e2 => exact rfl)))
local macro_rules | `(tactic| walk_at "side") => `(tactic| first | omega | decide | assumption)
local macro_rules | `(tactic| walk_at "binaryOp Add int int") => `(tactic| refine z_add ?_)
local macro_rules | `(tactic| walk_at "binaryOp Sub int int") => `(tactic| refine z_sub ?_)
local macro_rules | `(tactic| walk_at "binaryOp Mult int int") => `(tactic| refine z_mul (by walk_at "mulok") ?_)
local macro_rules | `(tactic| walk_at "binaryOp Mod int int") => `(tactic| refine z_mod (by walk_at "side") ?_)
local macro_rules | `(tactic| walk_at "binaryOp Pow int int") => `(tactic| refine z_pow (by walk_at "side") (by walk_at "size") ?_)
local macro_rules | `(tactic| walk_at "binaryOp LShift int int") => `(tactic| refine z_shl (by walk_at "side") (by walk_at "size") ?_)
local macro_rules | `(tactic| walk_at "binaryOp RShift int int") => `(tactic| refine z_shr (by walk_at "side") ?_)
local macro_rules | `(tactic| walk_at "binaryOp BitAnd int int") => `(tactic| refine z_and ?_)
local macro_rules | `(tactic| walk_at "binaryOp BitXor int int") => `(tactic| refine z_xor ?_)
local macro_rules | `(tactic| walk_at "unaryOp USub int") => `(tactic| refine z_neg ?_)
local macro_rules | `(tactic| walk_at "inplaceOp Add int int") => `(tactic| refine z_iadd ?_)
local macro_rules | `(tactic| walk_at "inplaceOp Sub int int") => `(tactic| refine z_isub ?_)
local macro_rules | `(tactic| walk_at "inplaceOp Mult int int") => `(tactic| refine z_imul (by walk_at "mulok") ?_)
local macro_rules | `(tactic| walk_at "inplaceOp RShift int int") => `(tactic| refine z_ishr (by walk_at "side") ?_)
local macro_rules | `(tactic| walk_at "inplaceOp LShift int int") => `(tactic| refine z_ishl (by walk_at "side") (by walk_at "size") ?_)
local macro_rules | `(tactic| walk_at "inplaceOp BitXor int int") => `(tactic| refine z_ixor ?_)
local macro_rules | `(tactic| walk_at "eval Constant int") => `(tactic| refine z_const ?_)
local macro_rules | `(tactic| walk_at "eval Constant str") => `(tactic| refine z_text ?_)
local macro_rules | `(tactic| walk_at "storeName") => `(tactic| (with_reducible (first | refine st0 (by assumption) (by assumption) (by assumption) ?_ | refine st1 (by assumption) (by assumption) (by assumption) ?_ | refine st2 (by assumption) (by assumption) (by assumption) ?_ | refine st3 (by assumption) (by assumption) (by assumption) ?_ | refine st4 (by assumption) (by assumption) (by assumption) ?_ | refine st5 (by assumption) (by assumption) (by assumption) ?_ | refine st6 (by assumption) (by assumption) (by assumption) ?_ | refine st7 (by assumption) (by assumption) (by assumption) ?_ | refine st8 (by assumption) (by assumption) (by assumption) ?_ | refine st9 (by assumption) (by assumption) (by assumption) ?_ | refine st10 (by assumption) (by assumption) (by assumption) ?_ | refine st11 (by assumption) (by assumption) (by assumption) ?_ | refine st12 (by assumption) (by assumption) (by assumption) ?_ | refine st13 (by assumption) (by assumption) (by assumption) ?_ | refine st14 (by assumption) (by assumption) (by assumption) ?_ | refine st15 (by assumption) (by assumption) (by assumption) ?_ | refine st16 (by assumption) (by assumption) (by assumption) ?_ | refine st17 (by assumption) (by assumption) (by assumption) ?_); intro h' tk' F' N'; (try k_sweep)))
local macro_rules | `(tactic| walk_at "eval Name") => `(tactic| with_reducible (first | refine ld0 (by assumption) (by assumption) ?_ | refine ld1 (by assumption) (by assumption) ?_ | refine ld2 (by assumption) (by assumption) ?_ | refine ld3 (by assumption) (by assumption) ?_ | refine ld4 (by assumption) (by assumption) ?_ | refine ld5 (by assumption) (by assumption) ?_ | refine ld6 (by assumption) (by assumption) ?_ | refine ld7 (by assumption) (by assumption) ?_ | refine ld8 (by assumption) (by assumption) ?_ | refine ld9 (by assumption) (by assumption) ?_ | refine ld10 (by assumption) (by assumption) ?_ | refine ld11 (by assumption) (by assumption) ?_ | refine ld12 (by assumption) (by assumption) ?_ | refine ld13 (by assumption) (by assumption) ?_ | refine ld14 (by assumption) (by assumption) ?_ | refine ld15 (by assumption) (by assumption) ?_ | refine ld16 (by assumption) (by assumption) ?_ | refine ld17 (by assumption) (by assumption) ?_))
local macro_rules | `(tactic| walk_at "loadName") => `(tactic| with_reducible (first | refine ln0 (by assumption) (by assumption) ?_ | refine ln1 (by assumption) (by assumption) ?_ | refine ln2 (by assumption) (by assumption) ?_ | refine ln3 (by assumption) (by assumption) ?_ | refine ln4 (by assumption) (by assumption) ?_ | refine ln5 (by assumption) (by assumption) ?_ | refine ln6 (by assumption) (by assumption) ?_ | refine ln7 (by assumption) (by assumption) ?_ | refine ln8 (by assumption) (by assumption) ?_ | refine ln9 (by assumption) (by assumption) ?_ | refine ln10 (by assumption) (by assumption) ?_ | refine ln11 (by assumption) (by assumption) ?_ | refine ln12 (by assumption) (by assumption) ?_ | refine ln13 (by assumption) (by assumption) ?_ | refine ln14 (by assumption) (by assumption) ?_ | refine ln15 (by assumption) (by assumption) ?_ | refine ln16 (by assumption) (by assumption) ?_ | refine ln17 (by assumption) (by assumption) ?_))
local macro_rules | `(tactic| walk_at "execs cons") => `(tactic| with_reducible refine wpAny_execs_cons ?_)
local macro_rules | `(tactic| walk_at "newTuple") => `(tactic| (k_dflt (refine' z_tuple ?F ?N ?z ?_; (case F => k_asm); (case N => k_asm); (case z => kmk_size)); intro T' h' F' N'; (try k_sweep)))
local macro_rules | `(tactic| walk_at "assign Tuple") => `(tactic| ((with_reducible show wpAny _ _ (assign (Expr.Tuple _ _ _) _ (Value.ref _)) _ _ _); k_dflt (refine' z_unpack ?F ?X ?N ?H ?h ?n ?st ?_; (case F => k_asm); (case X => k_asm); (case N => k_asm); (case H => walk_at "has"); (case h => exact rfl); (case n => exact rfl); (case st => exact rfl)); intro h' F' N'; (try k_sweep)))
local macro_rules | `(tactic| walk_at "dead") => `(tactic| first | omega | contradiction)
local macro_rules | `(tactic| walk_at "cond") => `(tactic| (intro hb; (try simp only [bne_iff_ne, beq_iff_eq, Bool.not_eq_true', Bool.not_eq_false', bne_eq_false_iff_eq, beq_eq_false_iff_ne, Bool.not_eq_true, Bool.not_eq_false, decide_eq_true_eq, decide_eq_false_iff_not, ne_eq, mpf_eq_iff, true_and, and_true, false_and, and_false, not_false_eq_true, not_true_eq_false, Decidable.not_not, Bool.not_not, Int.not_le, Int.not_lt] at hb); (try (exfalso; walk_at "dead"))))
local macro_rules | `(tactic| walk_at "ite") => `(tactic| first | with_reducible rw [if_pos True.intro] | with_reducible rw [if_neg not_false] | with_reducible rw [if_pos rfl] | (with_reducible (refine split_dec ?_ ?_ <;> walk_at "cond")) | (with_reducible (refine split_bool ?_ ?_ <;> walk_at "cond")))

local macro_rules | `(tactic| walk_at "compareOp Eq ref ref") => `(tactic| (k_dflt (refine' z_eqM ?F ?X ?N ?x ?y ?u ?_; (case F => k_asm); (case X => k_asm); (case N => k_asm); (case x => walk_at "has"); (case y => walk_at "has"); (case u => first | omega | ktr_units))))
local macro_rules | `(tactic| walk_at "compareOp NotEq ref ref") => `(tactic| (k_dflt (refine' z_neM ?F ?X ?N ?x ?y ?u ?_; (case F => k_asm); (case X => k_asm); (case N => k_asm); (case x => walk_at "has"); (case y => walk_at "has"); (case u => first | omega | ktr_units))))

local macro_rules | `(tactic| walk_at "pyl") => `(tactic| first | assumption | decide +kernel)
local macro_rules | `(tactic| walk_at "call builtin:divmod") => `(tactic| (k_dflt (refine' z_divmod ?F ?N ?b ?p ?_; (case F => k_asm); (case N => k_asm); (case b => walk_at "side"); (case p => walk_at "pyl")); intro T' h' F' N'; (try k_sweep)))
local macro_rules | `(tactic| walk_at "binaryOp FloorDiv int int") => `(tactic| refine z_fdiv (by walk_at "side") (by walk_at "pyl") ?_)

local macro_rules | `(tactic| walk_at "subscriptTail Name Constant ref int") => `(tactic| (k_dflt (refine' z_item ?F ?X ?N ?x _ ?lo ?hi ?j ?v ?_ ?s; (case F => k_asm); (case X => k_asm); (case N => k_asm); (case x => walk_at "has"); (case lo => decide); (case hi => decide); (case j => exact rfl); (case v => exact rfl); (case s => with_unfolding_all rfl))))
local macro_rules | `(tactic| walk_at "call ref") => `(tactic| ((with_reducible show wpAny _ _ (call (Value.ref 21) _) _ _ _); k_dflt (refine' z_use (c_trailing _ _ _ ?hn) ?B ?F ?X ?N ?T ?kK ?kd ?ku ?kp ?_); walk_at "use"; (case kp => trivial); (case hn => walk_at "side"); walk_at "back"))
local macro_rules | `(tactic| walk_at "call ref") => `(tactic| ((with_reducible show wpAny _ _ (call (Value.ref 69) _) _ _ _); k_dflt (refine' z_use (c__normalize _ _ _ _ _ _ _ _ _ _ _ _ _ ?hs ?h0 ?hb ?hp ?hbs) ?B ?F ?X ?N ?T ?kK ?kd ?ku ?kp ?_); walk_at "use"; (case kp => trivial); (case hs => walk_at "side"); (case h0 => walk_at "side"); (case hb => walk_at "side"); (case hp => walk_at "side"); (case hbs => walk_at "side"); walk_at "back"))
local macro_rules | `(tactic| walk_at "post") => `(tactic| exact ⟨_, _, _, _, _, rfl, by walk_at "has"⟩)
theorem c_normalize (w : World) (sg man e bc prec : Int) (r : Rnd) (t1 t2 t3 t4 t5 t6 : Tok) (hs : sg = 0 ∨ sg = 1) (h0 : 0 ≤ man) (hb : bc = blen man.toNat) (hp : 0 < prec) (hbs : bc ≤ 1000000) : Ctr w 76 4 [.int sg t1, .int man t2, .int e t3, .int bc t4, .int prec t5, .str r.str t6] (fun _ _ => True) (fun led v => IsMpf w led v (nrm sg man.toNat e prec.toNat r)) := by
  have hbm := bits_of h0
  unfold Ctr
  k_fill
  refine' z_enter (r := 3) [("sign", .int sg t1), ("man", .int man t2), ("exp", .int e t3), ("bc", .int bc t4), ("prec", .int prec t5), ("rnd", .str r.str t6)] [] ["sign", "man", "exp", "bc", "prec", "rnd"] [some (.int sg t1), some (.int man t2), some (.int e t3), some (.int bc t4), some (.int prec t5), some (.str r.str t6)] ?eo ?ec ?eb ?en ?em ?eK ?ecl ?e1 ?e2 ?_
  walk_at "enter"
  intro dp un gd outer A₀ base g L led h G D tk O p loose mean mg mb B X HT hd hu hpre LK F N
  k_fold
  walk_at "steps"
end Mine
/-! part W4 -/
namespace Mine
theorem flushW4 : (0 : Nat) = 0 := by
  w_top off
  first | walk1 | rfl
local macro_rules | `(tactic| walk_at "has") => `(tactic| first | (with_reducible assumption) | exact Has.here | (refine Has.cons ?_; walk_at "has") | (refine Has.sub (by with_reducible assumption) ?_; walk_at "has") | exact has_zero | exact has_nan | exact has_inf | exact has_ninf)
local macro_rules | `(tactic| walk_at "subs") => `(tactic| first | (with_reducible assumption) | exact sub_refl | (refine sub_cons ?_; walk_at "subs") | (refine sub_trans (by with_reducible assumption) ?_; walk_at "subs"))
local macro_rules | `(tactic| kun_tup) => `(tactic| exact Has.tup (by k_asm) (by k_asm) (by k_asm) (by walk_at "has"))
local macro_rules | `(tactic| walk_at "Fin") => `(tactic| ((refine ⟨_, _, by with_reducible assumption, by with_reducible assumption, by walk_at "subs", ?_, rfl⟩); walk_at "post"))
local macro_rules | `(tactic| walk_at "steps") => `(tactic| repeat' (first | (k_unfold) | walk1 | fail "no step"))
local macro_rules | `(tactic| walk_at "isR") => `(tactic| with_reducible first | assumption | exact isR _ | exact isR_n | exact isR_f | exact isR_c | exact isR_d | exact isR_u)
local macro_rules | `(tactic| walk_at "use") => `(tactic| ((case B => k_asm); (case F => k_asm); (case X => k_asm); (case N => k_asm); (case T => k_asm); (case kK => first | exact rfl | assumption); (case kd => first | omega | ktr_room); (case ku => first | omega | ktr_units)))
local macro_rules | `(tactic| walk_at "back") => `(tactic| (intro v9 h9 tk9 led9 F9 N9 s9 p9; k_dflt (first | (obtain ⟨D9, ta9, tb9, tc9, td9, e9, hM9⟩ := p9; subst e9) | (obtain ⟨y9, ⟨D9, ta9, tb9, tc9, td9, e9, hM9⟩, hy9⟩ := p9; subst e9) | (obtain ⟨c9, t9, e9, hc9⟩ := p9; subst e9) | (obtain ⟨t9, e9⟩ := p9; subst e9) | skip); (try k_sweep); (try k_fold)))
local macro_rules | `(tactic| walk_at "enter") => `(tactic| ((case eo => k_is); (case ec => k_is); (case eb => exact fun _ => by rfl); (case en => exact rfl); (case em => exact rfl); (case eK => exact ⟨by decide +kernel, rfl, by decide +kernel⟩); (case ecl => decide +kernel); (case e1 => exact rfl); (case e2 => exact rfl)))
local macro_rules | `(tactic| walk_at "side") => `(tactic| first | omega | decide | assumption)
local macro_rules | `(tactic| walk_at "binaryOp Add int int") => `(tactic| refine z_add ?_)
local macro_rules | `(tactic| walk_at "binaryOp Sub int int") => `(tactic| refine z_sub ?_)
local macro_rules | `(tactic| walk_at "binaryOp Mult int int") => `(tactic| refine z_mul (by walk_at "mulok") ?_)
local macro_rules | `(tactic| walk_at "binaryOp Mod int int") => `(tactic| refine z_mod (by walk_at "side") ?_)
local macro_rules | `(tactic| walk_at "binaryOp Pow int int") => `(tactic| refine z_pow (by walk_at "side") (by walk_at "size") ?_)
local macro_rules | `(tactic| walk_at "binaryOp LShift int int") => `(tactic| refine z_shl (by walk_at "side") (by walk_at "size") ?_)
local macro_rules | `(tactic| walk_at "binaryOp RShift int int") => `(tactic| refine z_shr (by walk_at "side") ?_)
local macro_rules | `(tactic| walk_at "binaryOp BitAnd int int") => `(tactic| refine z_and ?_)
local macro_rules | `(tactic| walk_at "binaryOp BitXor int int") => `(tactic| refine z_xor ?_)
local macro_rules | `(tactic| walk_at "unaryOp USub int") => `(tactic| refine z_neg ?_)
local macro_rules | `(tactic| walk_at "inplaceOp Add int int") => `(tactic| refine z_iadd ?_)
local macro_rules | `(tactic| walk_at "inplaceOp Sub int int") => `(tactic| refine z_isub ?_)
local macro_rules | `(tactic| walk_at "inplaceOp Mult int int") => `(tactic| refine z_imul (by walk_at "mulok") ?_)
local macro_rules | `(tactic| walk_at "inplaceOp RShift int int") => `(tactic| refine z_ishr (by walk_at "side") ?_)
local macro_rules | `(tactic| walk_at "inplaceOp LShift int int") => `(tactic| refine z_ishl (by walk_at "side") (by walk_at "size") ?_)
local macro_rules | `(tactic| walk_at "inplaceOp BitXor int int") => `(tactic| refine z_ixor ?_)
local macro_rules | `(tactic| walk_at "eval Constant int") => `(tactic| refine z_const ?_)
local macro_rules | `(tactic| walk_at "eval Constant str") => `(tactic| refine z_text ?_)
local macro_rules | `(tactic| walk_at "storeName") => `(tactic| (with_reducible (first | refine st0 (by assumption) (by assumption) (by assumption) ?_ | refine st1 (by assumption) (by assumption) (by assumption) ?_ | refine st2 (by assumption) (by assumption) (by assumption) ?_ | refine st3 (by assumption) (by assumption) (by assumption) ?_ | refine st4 (by assumption) (by assumption) (by assumption) ?_ | refine st5 (by assumption) (by assumption) (by assumption) ?_ | refine st6 (by assumption) (by assumption) (by assumption) ?_ | refine st7 (by assumption) (by assumption) (by assumption) ?_ | refine st8 (by assumption) (by assumption) (by assumption) ?_ | refine st9 (by assumption) (by assumption) (by assumption) ?_ | refine st10 (by assumption) (by assumption) (by assumption) ?_ | refine st11 (by assumption) (by assumption) (by assumption) ?_ | refine st12 (by assumption) (by assumption) (by assumption) ?_ | refine st13 (by assumption) (by assumption) (by assumption) ?_ | refine st14 (by assumption) (by assumption) (by assumption) ?_ | refine st15 (by assumption) (by assumption) (by assumption) ?_ | refine st16 (by assumption) (by assumption) (by assumption) ?_ | refine st17 (by assumption) (by assumption) (by assumption) ?_); intro h' tk' F' N'; (try k_sweep)))
local macro_rules | `(tactic| walk_at "eval Name") => `(tactic| with_reducible (first | refine ld0 (by assumption) (by assumption) ?_ | refine ld1 (by assumption) (by assumption) ?_ | refine ld2 (by assumption) (by assumption) ?_ | refine ld3 (by assumption) (by assumption) ?_ | refine ld4 (by assumption) (by assumption) ?_ | refine ld5 (by assumption) (by assumption) ?_ | refine ld6 (by assumption) (by assumption) ?_ | refine ld7 (by assumption) (by assumption) ?_ | refine ld8 (by assumption) (by assumption) ?_ | refine ld9 (by assumption) (by assumption) ?_ | refine ld10 (by assumption) (by assumption) ?_ | refine ld11 (by assumption) (by assumption) ?_ | refine ld12 (by assumption) (by assumption) ?_ | refine ld13 (by assumption) (by assumption) ?_ | refine ld14 (by assumption) (by assumption) ?_ | refine ld15 (by assumption) (by assumption) ?_ | refine ld16 (by assumption) (by assumption) ?_ | refine ld17 (by assumption) (by assumption) ?_))
local macro_rules | `(tactic| walk_at "loadName") => `(tactic| with_reducible (first | refine ln0 (by assumption) (by assumption) ?_ | refine ln1 (by assumption) (by assumption) ?_ | refine ln2 (by assumption) (by assumption) ?_ | refine ln3 (by assumption) (by assumption) ?_ | refine ln4 (by assumption) (by assumption) ?_ | refine ln5 (by assumption) (by assumption) ?_ | refine ln6 (by assumption) (by assumption) ?_ | refine ln7 (by assumption) (by assumption) ?_ | refine ln8 (by assumption) (by assumption) ?_ | refine ln9 (by assumption) (by assumption) ?_ | refine ln10 (by assumption) (by assumption) ?_ | refine ln11 (by assumption) (by assumption) ?_ | refine ln12 (by assumption) (by assumption) ?_ | refine ln13 (by assumption) (by assumption) ?_ | refine ln14 (by assumption) (by assumption) ?_ | refine ln15 (by assumption) (by assumption) ?_ | refine ln16 (by assumption) (by assumption) ?_ | refine ln17 (by assumption) (by assumption) ?_))
local macro_rules | `(tactic| walk_at "execs cons") => `(tactic| with_reducible refine wpAny_execs_cons ?_)
local macro_rules | `(tactic| walk_at "newTuple") => `(tactic| (k_dflt (refine' z_tuple ?F ?N ?z ?_; (case F => k_asm); (case N => k_asm); (case z => kmk_size)); intro T' h' F' N'; (try k_sweep)))
local macro_rules | `(tactic| walk_at "assign Tuple") => `(tactic| ((with_reducible show wpAny _ _ (assign (Expr.Tuple _ _ _) _ (Value.ref _)) _ _ _); k_dflt (refine' z_unpack ?F ?X ?N ?H ?h ?n ?st ?_; (case F => k_asm); (case X => k_asm); (case N => k_asm); (case H => walk_at "has"); (case h => exact rfl); (case n => exact rfl); (case st => exact rfl)); intro h' F' N'; (try k_sweep)))
local macro_rules | `(tactic| walk_at "dead") => `(tactic| first | omega | contradiction)
local macro_rules | `(tactic| walk_at "cond") => `(tactic| (intro hb; (try simp only [bne_iff_ne, beq_iff_eq, Bool.not_eq_true', Bool.not_eq_false', bne_eq_false_iff_eq, beq_eq_false_iff_ne, Bool.not_eq_true, Bool.not_eq_false, decide_eq_true_eq, decide_eq_false_iff_not, ne_eq, mpf_eq_iff, true_and, and_true, false_and, and_false, not_false_eq_true, not_true_eq_false, Decidable.not_not, Bool.not_not, Int.not_le, Int.not_lt] at hb); (try (exfalso; walk_at "dead"))))
local macro_rules | `(tactic| walk_at "ite") => `(tactic| first | with_reducible rw [if_pos True.intro] | with_reducible rw [if_neg not_false] | with_reducible rw [if_pos rfl] | (with_reducible (refine split_dec ?_ ?_ <;> walk_at "cond")) | (with_reducible (refine split_bool ?_ ?_ <;> walk_at "cond")))

local macro_rules | `(tactic| walk_at "compareOp Eq ref ref") => `(tactic| (k_dflt (refine' z_eqM ?F ?X ?N ?x ?y ?u ?_; (case F => k_asm); (case X => k_asm); (case N => k_asm); (case x => walk_at "has"); (case y => walk_at "has"); (case u => first | omega | ktr_units))))
local macro_rules | `(tactic| walk_at "compareOp NotEq ref ref") => `(tactic| (k_dflt (refine' z_neM ?F ?X ?N ?x ?y ?u ?_; (case F => k_asm); (case X => k_asm); (case N => k_asm); (case x => walk_at "has"); (case y => walk_at "has"); (case u => first | omega | ktr_units))))

local macro_rules | `(tactic| walk_at "pyl") => `(tactic| first | assumption | decide +kernel)
local macro_rules | `(tactic| walk_at "call builtin:divmod") => `(tactic| (k_dflt (refine' z_divmod ?F ?N ?b ?p ?_; (case F => k_asm); (case N => k_asm); (case b => walk_at "side"); (case p => walk_at "pyl")); intro T' h' F' N'; (try k_sweep)))
local macro_rules | `(tactic| walk_at "binaryOp FloorDiv int int") => `(tactic| refine z_fdiv (by walk_at "side") (by walk_at "pyl") ?_)

local macro_rules | `(tactic| walk_at "subscriptTail Name Constant ref int") => `(tactic| (k_dflt (refine' z_item ?F ?X ?N ?x _ ?lo ?hi ?j ?v ?_ ?s; (case F => k_asm); (case X => k_asm); (case N => k_asm); (case x => walk_at "has"); (case lo => decide); (case hi => decide); (case j => exact rfl); (case v => exact rfl); (case s => with_unfolding_all rfl))))
local macro_rules | `(tactic| walk_at "call ref") => `(tactic| ((with_reducible show wpAny _ _ (call (Value.ref 21) _) _ _ _); k_dflt (refine' z_use (c_trailing _ _ _ ?hn) ?B ?F ?X ?N ?T ?kK ?kd ?ku ?kp ?_); walk_at "use"; (case kp => trivial); (case hn => walk_at "side"); walk_at "back"))
local macro_rules | `(tactic| walk_at "call ref") => `(tactic| ((with_reducible show wpAny _ _ (call (Value.ref 76) _) _ _ _); k_dflt (refine' z_use (c_normalize _ _ _ _ _ _ _ _ _ _ _ _ _ ?hs ?h0 ?hb ?hp ?hbs) ?B ?F ?X ?N ?T ?kK ?kd ?ku ?kp ?_); walk_at "use"; (case kp => trivial); (case hs => walk_at "side"); (case h0 => walk_at "side"); (case hb => walk_at "side"); (case hp => walk_at "side"); (case hbs => walk_at "side"); walk_at "back"))
local macro_rules | `(tactic| walk_at "side") => `(tactic| first | omega | decide | assumption | exact bits_of (by omega))
local macro_rules | `(tactic| walk_at "post") => `(tactic| first | with_reducible exact mpf_zero (fme_zero (by assumption) (by assumption)) | (exfalso; omega) | (with_reducible refine mpf_here ?_; (first | (with_reducible refine (fme_pos0 (by assumption) (by assumption)).trans ?_) | (with_reducible refine (fme_neg0 (by assumption) (by assumption)).trans ?_)); first | with_reducible exact f_odd (by first | assumption | omega) (by assumption) (by assumption) | with_reducible exact f_two (by first | assumption | omega) (by assumption) (by assumption) (by assumption) | with_reducible exact f_ev (by first | assumption | omega) (by assumption)) | exact mpf_of (fme_posP (by assumption) (by assumption)) ⟨_, _, _, _, _, rfl, by walk_at "has"⟩ | exact mpf_of (fme_negP (by assumption) (by assumption)) ⟨_, _, _, _, _, rfl, by walk_at "has"⟩)
theorem c_from_man_exp (w : World) (man e prec : Int) (r : Rnd) (t1 t2 t5 t6 : Tok) (hp : 0 ≤ prec) (hbs : Builtin.Int.intBits man ≤ 1000000) : Ctr w 84 5 [.int man t1, .int e t2, .int prec t5, .str r.str t6] (fun _ _ => True) (fun led v => IsMpf w led v (fme man e prec r)) := by
  have hneg : Builtin.Int.intBits (-man) = Builtin.Int.intBits man := by rw [intBits_blen, intBits_blen, Int.natAbs_neg]
  unfold Ctr
  k_fill
  refine' z_enter (r := 4) [("man", .int man t1), ("exp", .int e t2), ("prec", .int prec t5), ("rnd", .str r.str t6)] ["sign", "bc", "t"] ["man", "exp", "prec", "rnd", "sign", "bc", "t"] [some (.int man t1), some (.int e t2), some (.int prec t5), some (.str r.str t6), none, none, none] ?eo ?ec ?eb ?en ?em ?eK ?ecl ?e1 ?e2 ?_
  walk_at "enter"
  intro dp un gd outer A₀ base g L led h G D tk O p loose mean mg mb B X HT hd hu hpre LK F N
  k_fold
  walk_at "steps"
end Mine
/-! part W5 -/
namespace Mine
theorem flushW5 : (0 : Nat) = 0 := by
  w_top off
  first | walk1 | rfl
local macro_rules | `(tactic| walk_at "has") => `(tactic| first | (with_reducible assumption) | exact Has.here | (refine Has.cons ?_; walk_at "has") | (refine Has.sub (by with_reducible assumption) ?_; walk_at "has") | exact has_zero | exact has_nan | exact has_inf | exact has_ninf)
local macro_rules | `(tactic| walk_at "subs") => `(tactic| first | (with_reducible assumption) | exact sub_refl | (refine sub_cons ?_; walk_at "subs") | (refine sub_trans (by with_reducible assumption) ?_; walk_at "subs"))
local macro_rules | `(tactic| kun_tup) => `(tactic| exact Has.tup (by k_asm) (by k_asm) (by k_asm) (by walk_at "has"))
local macro_rules | `(tactic| walk_at "Fin") => `(tactic| ((refine ⟨_, _, by with_reducible assumption, by with_reducible assumption, by walk_at "subs", ?_, rfl⟩); walk_at "post"))
local macro_rules | `(tactic| walk_at "steps") => `(tactic| repeat' (first | (k_unfold) | walk1 | fail "no step"))
local macro_rules | `(tactic| walk_at "isR") => `(tactic| with_reducible first | assumption | exact isR _ | exact isR_n | exact isR_f | exact isR_c | exact isR_d | exact isR_u)
local macro_rules | `(tactic| walk_at "use") => `(tactic| ((case B => k_asm); (case F => k_asm); (case X => k_asm); (case N => k_asm); (case T => k_asm); (case kK => first | exact rfl | assumption); (case kd => first | omega | ktr_room); (case ku => first | omega | ktr_units)))
local macro_rules | `(tactic| walk_at "back") => `(tactic| (intro v9 h9 tk9 led9 F9 N9 s9 p9; k_dflt (first | (obtain ⟨D9, ta9, tb9, tc9, td9, e9, hM9⟩ := p9; subst e9) | (obtain ⟨y9, ⟨D9, ta9, tb9, tc9, td9, e9, hM9⟩, hy9⟩ := p9; subst e9) | (obtain ⟨c9, t9, e9, hc9⟩ := p9; subst e9) | (obtain ⟨t9, e9⟩ := p9; subst e9) | skip); (try k_sweep); (try k_fold)))
local macro_rules | `(tactic| walk_at "enter") => `(tactic| ((case eo => k_is); (case ec => k_is); (case eb => exact fun _ => by rfl); (case en => exact rfl); (case em => exact rfl); (case eK => exact ⟨by decide +kernel, rfl, by decide +kernel⟩); (case ecl => decide +kernel); (case e1 => exact rfl); (case e2 => exact rfl)))
local macro_rules | `(tactic| walk_at "side") => `(tactic| first | omega | decide | assumption)
local macro_rules | `(tactic| walk_at "binaryOp Add int int") => `(tactic| refine z_add ?_)
local macro_rules | `(tactic| walk_at "binaryOp Sub int int") => `(tactic| refine z_sub ?_)
local macro_rules | `(tactic| walk_at "binaryOp Mult int int") => `(tactic| refine z_mul (by walk_at "mulok") ?_)
local macro_rules | `(tactic| walk_at "binaryOp Mod int int") => `(tactic| refine z_mod (by walk_at "side") ?_)
local macro_rules | `(tactic| walk_at "binaryOp Pow int int") => `(tactic| refine z_pow (by walk_at "side") (by walk_at "size") ?_)
local macro_rules | `(tactic| walk_at "binaryOp LShift int int") => `(tactic| refine z_shl (by walk_at "side") (by walk_at "size") ?_)
local macro_rules | `(tactic| walk_at "binaryOp RShift int int") => `(tactic| refine z_shr (by walk_at "side") ?_)
local macro_rules | `(tactic| walk_at "binaryOp BitAnd int int") => `(tactic| refine z_and ?_)
local macro_rules | `(tactic| walk_at "binaryOp BitXor int int") => `(tactic| refine z_xor ?_)
local macro_rules | `(tactic| walk_at "unaryOp USub int") => `(tactic| refine z_neg ?_)
local macro_rules | `(tactic| walk_at "inplaceOp Add int int") => `(tactic| refine z_iadd ?_)
local macro_rules | `(tactic| walk_at "inplaceOp Sub int int") => `(tactic| refine z_isub ?_)
local macro_rules | `(tactic| walk_at "inplaceOp Mult int int") => `(tactic| refine z_imul (by walk_at "mulok") ?_)
local macro_rules | `(tactic| walk_at "inplaceOp RShift int int") => `(tactic| refine z_ishr (by walk_at "side") ?_)
local macro_rules | `(tactic| walk_at "inplaceOp LShift int int") => `(tactic| refine z_ishl (by walk_at "side") (by walk_at "size") ?_)
local macro_rules | `(tactic| walk_at "inplaceOp BitXor int int") => `(tactic| refine z_ixor ?_)
local macro_rules | `(tactic| walk_at "eval Constant int") => `(tactic| refine z_const ?_)
local macro_rules | `(tactic| walk_at "eval Constant str") => `(tactic| refine z_text ?_)
local macro_rules | `(tactic| walk_at "storeName") => `(tactic| (with_reducible (first | refine st0 (by assumption) (by assumption) (by assumption) ?_ | refine st1 (by assumption) (by assumption) (by assumption) ?_ | refine st2 (by assumption) (by assumption) (by assumption) ?_ | refine st3 (by assumption) (by assumption) (by assumption) ?_ | refine st4 (by assumption) (by assumption) (by assumption) ?_ | refine st5 (by assumption) (by assumption) (by assumption) ?_ | refine st6 (by assumption) (by assumption) (by assumption) ?_ | refine st7 (by assumption) (by assumption) (by assumption) ?_ | refine st8 (by assumption) (by assumption) (by assumption) ?_ | refine st9 (by assumption) (by assumption) (by assumption) ?_ | refine st10 (by assumption) (by assumption) (by assumption) ?_ | refine st11 (by assumption) (by assumption) (by assumption) ?_ | refine st12 (by assumption) (by assumption) (by assumption) ?_ | refine st13 (by assumption) (by assumption) (by assumption) ?_ | refine st14 (by assumption) (by assumption) (by assumption) ?_ | refine st15 (by assumption) (by assumption) (by assumption) ?_ | refine st16 (by assumption) (by assumption) (by assumption) ?_ | refine st17 (by assumption) (by assumption) (by assumption) ?_); intro h' tk' F' N'; (try k_sweep)))
local macro_rules | `(tactic| walk_at "eval Name") => `(tactic| with_reducible (first | refine ld0 (by assumption) (by assumption) ?_ | refine ld1 (by assumption) (by assumption) ?_ | refine ld2 (by assumption) (by assumption) ?_ | refine ld3 (by assumption) (by assumption) ?_ | refine ld4 (by assumption) (by assumption) ?_ | refine ld5 (by assumption) (by assumption) ?_ | refine ld6 (by assumption) (by assumption) ?_ | refine ld7 (by assumption) (by assumption) ?_ | refine ld8 (by assumption) (by assumption) ?_ | refine ld9 (by assumption) (by assumption) ?_ | refine ld10 (by assumption) (by assumption) ?_ | refine ld11 (by assumption) (by assumption) ?_ | refine ld12 (by assumption) (by assumption) ?_ | refine ld13 (by assumption) (by assumption) ?_ | refine ld14 (by assumption) (by assumption) ?_ | refine ld15 (by assumption) (by assumption) ?_ | refine ld16 (by assumption) (by assumption) ?_ | refine ld17 (by assumption) (by assumption) ?_))
local macro_rules | `(tactic| walk_at "loadName") => `(tactic| with_reducible (first | refine ln0 (by assumption) (by assumption) ?_ | refine ln1 (by assumption) (by assumption) ?_ | refine ln2 (by assumption) (by assumption) ?_ | refine ln3 (by assumption) (by assumption) ?_ | refine ln4 (by assumption) (by assumption) ?_ | refine ln5 (by assumption) (by assumption) ?_ | refine ln6 (by assumption) (by assumption) ?_ | refine ln7 (by assumption) (by assumption) ?_ | refine ln8 (by assumption) (by assumption) ?_ | refine ln9 (by assumption) (by assumption) ?_ | refine ln10 (by assumption) (by assumption) ?_ | refine ln11 (by assumption) (by assumption) ?_ | refine ln12 (by assumption) (by assumption) ?_ | refine ln13 (by assumption) (by assumption) ?_ | refine ln14 (by assumption) (by assumption) ?_ | refine ln15 (by assumption) (by assumption) ?_ | refine ln16 (by assumption) (by assumption) ?_ | refine ln17 (by assumption) (by assumption) ?_))
local macro_rules | `(tactic| walk_at "execs cons") => `(tactic| with_reducible refine wpAny_execs_cons ?_)
local macro_rules | `(tactic| walk_at "newTuple") => `(tactic| (k_dflt (refine' z_tuple ?F ?N ?z ?_; (case F => k_asm); (case N => k_asm); (case z => kmk_size)); intro T' h' F' N'; (try k_sweep)))
local macro_rules | `(tactic| walk_at "assign Tuple") => `(tactic| ((with_reducible show wpAny _ _ (assign (Expr.Tuple _ _ _) _ (Value.ref _)) _ _ _); k_dflt (refine' z_unpack ?F ?X ?N ?H ?h ?n ?st ?_; (case F => k_asm); (case X => k_asm); (case N => k_asm); (case H => walk_at "has"); (case h => exact rfl); (case n => exact rfl); (case st => exact rfl)); intro h' F' N'; (try k_sweep)))
local macro_rules | `(tactic| walk_at "dead") => `(tactic| first | omega | contradiction)
local macro_rules | `(tactic| walk_at "cond") => `(tactic| (intro hb; (try simp only [bne_iff_ne, beq_iff_eq, Bool.not_eq_true', Bool.not_eq_false', bne_eq_false_iff_eq, beq_eq_false_iff_ne, Bool.not_eq_true, Bool.not_eq_false, decide_eq_true_eq, decide_eq_false_iff_not, ne_eq, mpf_eq_iff, true_and, and_true, false_and, and_false, not_false_eq_true, not_true_eq_false, Decidable.not_not, Bool.not_not, Int.not_le, Int.not_lt] at hb); (try (exfalso; walk_at "dead"))))
local macro_rules | `(tactic| walk_at "ite") => `(tactic| first | with_reducible rw [if_pos True.intro] | with_reducible rw [if_neg not_false] | with_reducible rw [if_pos rfl] | (with_reducible (refine split_dec ?_ ?_ <;> walk_at "cond")) | (with_reducible (refine split_bool ?_ ?_ <;> walk_at "cond")))

local macro_rules | `(tactic| walk_at "compareOp Eq ref ref") => `(tactic| (k_dflt (refine' z_eqM ?F ?X ?N ?x ?y ?u ?_; (case F => k_asm); (case X => k_asm); (case N => k_asm); (case x => walk_at "has"); (case y => walk_at "has"); (case u => first | omega | ktr_units))))
local macro_rules | `(tactic| walk_at "compareOp NotEq ref ref") => `(tactic| (k_dflt (refine' z_neM ?F ?X ?N ?x ?y ?u ?_; (case F => k_asm); (case X => k_asm); (case N => k_asm); (case x => walk_at "has"); (case y => walk_at "has"); (case u => first | omega | ktr_units))))

local macro_rules | `(tactic| walk_at "pyl") => `(tactic| first | assumption | decide +kernel)
local macro_rules | `(tactic| walk_at "call builtin:divmod") => `(tactic| (k_dflt (refine' z_divmod ?F ?N ?b ?p ?_; (case F => k_asm); (case N => k_asm); (case b => walk_at "side"); (case p => walk_at "pyl")); intro T' h' F' N'; (try k_sweep)))
local macro_rules | `(tactic| walk_at "binaryOp FloorDiv int int") => `(tactic| refine z_fdiv (by walk_at "side") (by walk_at "pyl") ?_)

local macro_rules | `(tactic| walk_at "subscriptTail Name Constant ref int") => `(tactic| (k_dflt (refine' z_item ?F ?X ?N ?x _ ?lo ?hi ?j ?v ?_ ?s; (case F => k_asm); (case X => k_asm); (case N => k_asm); (case x => walk_at "has"); (case lo => decide); (case hi => decide); (case j => exact rfl); (case v => exact rfl); (case s => with_unfolding_all rfl))))
local macro_rules | `(tactic| walk_at "call ref") => `(tactic| ((with_reducible show wpAny _ _ (call (Value.ref 76) _) _ _ _); k_dflt (refine' z_use (c_normalize _ _ _ _ _ _ _ _ _ _ _ _ _ ?hs ?h0 ?hb ?hp ?hbs) ?B ?F ?X ?N ?T ?kK ?kd ?ku ?kp ?_); walk_at "use"; (case kp => trivial); (case hs => walk_at "side"); (case h0 => walk_at "side"); (case hb => walk_at "side"); (case hp => walk_at "side"); (case hbs => walk_at "side"); walk_at "back"))
local macro_rules | `(tactic| walk_at "call ref") => `(tactic| ((with_reducible show wpAny _ _ (call (Value.ref 84) _) _ _ _); k_dflt (refine' z_use (c_from_man_exp _ _ _ _ _ _ _ _ _ ?hp ?hbs) ?B ?F ?X ?N ?T ?kK ?kd ?ku ?kp ?_); walk_at "use"; (case kp => trivial); (case hp => walk_at "side"); (case hbs => walk_at "side"); walk_at "back"))
local macro_rules | `(tactic| walk_at "side") => `(tactic| first | omega | decide | assumption)
local macro_rules | `(tactic| walk_at "size") => `(tactic| first | assumption | exact size_add (by assumption) (by omega) | omega)
local macro_rules | `(tactic| walk_at "mulok") => `(tactic| first | assumption)
local macro_rules | `(tactic| walk_at "post") => `(tactic| exact ⟨_, _, _, _, _, rfl, by walk_at "has"⟩)
theorem c_from_int3 (w : World) (n prec : Int) (r : Rnd) (t1 t5 t6 : Tok) (hp : 0 ≤ prec) (hbs : Builtin.Int.intBits n ≤ 1000000) : Ctr w 92 6 [.int n t1, .int prec t5, .str r.str t6] (fun _ _ => True) (fun led v => IsMpf w led v (fme n 0 prec r)) := by
  unfold Ctr
  k_fill
  refine' z_enter (r := 5) [("n", .int n t1), ("prec", .int prec t5), ("rnd", .str r.str t6)] [] ["n", "prec", "rnd"] [some (.int n t1), some (.int prec t5), some (.str r.str t6)] ?eo ?ec ?eb ?en ?em ?eK ?ecl ?e1 ?e2 ?_
  walk_at "enter"
  intro dp un gd outer A₀ base g L led h G D tk O p loose mean mg mb B X HT hd hu hpre LK F N
  k_fold
  walk_at "steps"
theorem c_from_int1 (w : World) (n : Int) (t1 : Tok) (hbs : Builtin.Int.intBits n ≤ 1000000) : Ctr w 92 6 [.int n t1] (fun _ _ => True) (fun led v => IsMpf w led v (fme n 0 0 .d)) := by
  unfold Ctr
  k_fill
  refine' z_enter (r := 5) [("n", .int n t1), ("prec", .int 0 349), ("rnd", .str (Rnd.str .d) 253)] [] ["n", "prec", "rnd"] [some (.int n t1), some (.int 0 349), some (.str (Rnd.str .d) 253)] ?eo ?ec ?eb ?en ?em ?eK ?ecl ?e1 ?e2 ?_
  walk_at "enter"
  intro dp un gd outer A₀ base g L led h G D tk O p loose mean mg mb B X HT hd hu hpre LK F N
  k_fold
  walk_at "steps"
local macro_rules | `(tactic| walk_at "post") => `(tactic| exact ⟨_, rfl⟩)
theorem c_to_fixed (w : World) (T : Addr) (xm xe xb pr : Int) (a1 a2 a3 a4 t5 : Tok) (h0 : 0 ≤ xe + pr) (h1 : xe + pr ≤ 100000) (hbs : Builtin.Int.intBits xm ≤ 100000) : Ctr w 115 1 [.ref T, .int pr t5] (fun _ led => Has w led T (tupO [.int 0 a1, .int xm a2, .int xe a3, .int xb a4])) (fun _ v => ∃ t, v = .int (xm * 2 ^ (xe + pr).toNat) t) := by
  unfold Ctr
  k_fill
  refine' z_enter (r := 0) [("s", .ref T), ("prec", .int pr t5)] ["sign", "man", "exp", "bc", "offset"] ["s", "prec", "sign", "man", "exp", "bc", "offset"] [some (.ref T), some (.int pr t5), none, none, none, none, none] ?eo ?ec ?eb ?en ?em ?eK ?ecl ?e1 ?e2 ?_
  walk_at "enter"
  intro dp un gd outer A₀ base g L led h G D tk O p loose mean mg mb B X HT hd hu hpre LK F N
  k_fold
  walk_at "steps"
theorem c_bin_to_radix (w : World) (x xb b bd : Int) (t1 t2 t3 t4 : Tok) (h0 : 0 ≤ xb) (h1 : 0 ≤ bd) (hs : (Builtin.Int.intBits b : Int) * bd ≤ 2 ^ 27) (hm : IntMulOk x (b ^ bd.toNat)) : Ctr w 28 1 [.int x t1, .int xb t2, .int b t3, .int bd t4] (fun _ _ => True) (fun _ v => ∃ t, v = .int ((x * b ^ bd.toNat).fdiv (2 ^ xb.toNat)) t) := by
  unfold Ctr
  k_fill
  refine' z_enter (r := 0) [("x", .int x t1), ("xbits", .int xb t2), ("base", .int b t3), ("bdigits", .int bd t4)] [] ["x", "xbits", "base", "bdigits"] [some (.int x t1), some (.int xb t2), some (.int b t3), some (.int bd t4)] ?eo ?ec ?eb ?en ?em ?eK ?ecl ?e1 ?e2 ?_
  walk_at "enter"
  intro dp un gd outer A₀ base g L led h G D tk O p loose mean mg mb B X HT hd hu hpre LK F N
  k_fold
  walk_at "steps"
theorem c_round_int (w : World) (x n : Int) (t1 t2 t3 : Tok) (h0 : 0 ≤ n) : Ctr w 57 1 [.int x t1, .int n t2, .str (Str.ofString "f") t3] (fun _ _ => True) (fun _ v => ∃ t, v = .int (x.fdiv (2 ^ n.toNat)) t) := by
  unfold Ctr
  k_fill
  refine' z_enter (r := 0) [("x", .int x t1), ("n", .int n t2), ("rnd", .str (Str.ofString "f") t3)] ["t"] ["x", "n", "rnd", "t"] [some (.int x t1), some (.int n t2), some (.str (Str.ofString "f") t3), none] ?eo ?ec ?eb ?en ?em ?eK ?ecl ?e1 ?e2 ?_
  walk_at "enter"
  intro dp un gd outer A₀ base g L led h G D tk O p loose mean mg mb B X HT hd hu hpre LK F N
  k_fold
  walk_at "steps"
end Mine
/-! part W6 -/
namespace Mine
theorem flushW6 : (0 : Nat) = 0 := by
  w_top off
  first | walk1 | rfl
local macro_rules | `(tactic| walk_at "has") => `(tactic| first | (with_reducible assumption) | exact Has.here | (refine Has.cons ?_; walk_at "has") | (refine Has.sub (by with_reducible assumption) ?_; walk_at "has") | exact has_zero | exact has_nan | exact has_inf | exact has_ninf)
local macro_rules | `(tactic| walk_at "subs") => `(tactic| first | (with_reducible assumption) | exact sub_refl | (refine sub_cons ?_; walk_at "subs") | (refine sub_trans (by with_reducible assumption) ?_; walk_at "subs"))
local macro_rules | `(tactic| kun_tup) => `(tactic| exact Has.tup (by k_asm) (by k_asm) (by k_asm) (by walk_at "has"))
local macro_rules | `(tactic| walk_at "Fin") => `(tactic| ((refine ⟨_, _, by with_reducible assumption, by with_reducible assumption, by walk_at "subs", ?_, rfl⟩); walk_at "post"))
local macro_rules | `(tactic| walk_at "steps") => `(tactic| repeat' (first | (k_unfold) | walk1 | fail "no step"))
local macro_rules | `(tactic| walk_at "isR") => `(tactic| with_reducible first | assumption | exact isR _ | exact isR_n | exact isR_f | exact isR_c | exact isR_d | exact isR_u)
local macro_rules | `(tactic| walk_at "use") => `(tactic| ((case B => k_asm); (case F => k_asm); (case X => k_asm); (case N => k_asm); (case T => k_asm); (case kK => first | exact rfl | assumption); (case kd => first | omega | ktr_room); (case ku => first | omega | ktr_units)))
local macro_rules | `(tactic| walk_at "back") => `(tactic| (intro v9 h9 tk9 led9 F9 N9 s9 p9; k_dflt (first | (obtain ⟨D9, ta9, tb9, tc9, td9, e9, hM9⟩ := p9; subst e9) | (obtain ⟨y9, ⟨D9, ta9, tb9, tc9, td9, e9, hM9⟩, hy9⟩ := p9; subst e9) | (obtain ⟨c9, t9, e9, hc9⟩ := p9; subst e9) | (obtain ⟨t9, e9⟩ := p9; subst e9) | skip); (try k_sweep); (try k_fold)))
local macro_rules | `(tactic| walk_at "enter") => `(tactic| ((case eo => k_is); (case ec => k_is); (case eb => exact fun _ => by rfl); (case en => exact rfl); (case em => exact rfl); (case eK => exact ⟨by decide +kernel, rfl, by decide +kernel⟩); (case ecl => decide +kernel); (case e1 => exact rfl); (case e2 => exact rfl)))
local macro_rules | `(tactic| walk_at "side") => `(tactic| first | omega | decide | assumption)
local macro_rules | `(tactic| walk_at "binaryOp Add int int") => `(tactic| refine z_add ?_)
local macro_rules | `(tactic| walk_at "binaryOp Sub int int") => `(tactic| refine z_sub ?_)
local macro_rules | `(tactic| walk_at "binaryOp Mult int int") => `(tactic| refine z_mul (by walk_at "mulok") ?_)
local macro_rules | `(tactic| walk_at "binaryOp Mod int int") => `(tactic| refine z_mod (by walk_at "side") ?_)
local macro_rules | `(tactic| walk_at "binaryOp Pow int int") => `(tactic| refine z_pow (by walk_at "side") (by walk_at "size") ?_)
local macro_rules | `(tactic| walk_at "binaryOp LShift int int") => `(tactic| refine z_shl (by walk_at "side") (by walk_at "size") ?_)
local macro_rules | `(tactic| walk_at "binaryOp RShift int int") => `(tactic| refine z_shr (by walk_at "side") ?_)
local macro_rules | `(tactic| walk_at "binaryOp BitAnd int int") => `(tactic| refine z_and ?_)
local macro_rules | `(tactic| walk_at "binaryOp BitXor int int") => `(tactic| refine z_xor ?_)
local macro_rules | `(tactic| walk_at "unaryOp USub int") => `(tactic| refine z_neg ?_)
local macro_rules | `(tactic| walk_at "inplaceOp Add int int") => `(tactic| refine z_iadd ?_)
local macro_rules | `(tactic| walk_at "inplaceOp Sub int int") => `(tactic| refine z_isub ?_)
local macro_rules | `(tactic| walk_at "inplaceOp Mult int int") => `(tactic| refine z_imul (by walk_at "mulok") ?_)
local macro_rules | `(tactic| walk_at "inplaceOp RShift int int") => `(tactic| refine z_ishr (by walk_at "side") ?_)
local macro_rules | `(tactic| walk_at "inplaceOp LShift int int") => `(tactic| refine z_ishl (by walk_at "side") (by walk_at "size") ?_)
local macro_rules | `(tactic| walk_at "inplaceOp BitXor int int") => `(tactic| refine z_ixor ?_)
local macro_rules | `(tactic| walk_at "eval Constant int") => `(tactic| refine z_const ?_)
local macro_rules | `(tactic| walk_at "eval Constant str") => `(tactic| refine z_text ?_)
local macro_rules | `(tactic| walk_at "storeName") => `(tactic| (with_reducible (first | refine st0 (by assumption) (by assumption) (by assumption) ?_ | refine st1 (by assumption) (by assumption) (by assumption) ?_ | refine st2 (by assumption) (by assumption) (by assumption) ?_ | refine st3 (by assumption) (by assumption) (by assumption) ?_ | refine st4 (by assumption) (by assumption) (by assumption) ?_ | refine st5 (by assumption) (by assumption) (by assumption) ?_ | refine st6 (by assumption) (by assumption) (by assumption) ?_ | refine st7 (by assumption) (by assumption) (by assumption) ?_ | refine st8 (by assumption) (by assumption) (by assumption) ?_ | refine st9 (by assumption) (by assumption) (by assumption) ?_ | refine st10 (by assumption) (by assumption) (by assumption) ?_ | refine st11 (by assumption) (by assumption) (by assumption) ?_ | refine st12 (by assumption) (by assumption) (by assumption) ?_ | refine st13 (by assumption) (by assumption) (by assumption) ?_ | refine st14 (by assumption) (by assumption) (by assumption) ?_ | refine st15 (by assumption) (by assumption) (by assumption) ?_ | refine st16 (by assumption) (by assumption) (by assumption) ?_ | refine st17 (by assumption) (by assumption) (by assumption) ?_); intro h' tk' F' N'; (try k_sweep)))
local macro_rules | `(tactic| walk_at "eval Name") => `(tactic| with_reducible (first | refine ld0 (by assumption) (by assumption) ?_ | refine ld1 (by assumption) (by assumption) ?_ | refine ld2 (by assumption) (by assumption) ?_ | refine ld3 (by assumption) (by assumption) ?_ | refine ld4 (by assumption) (by assumption) ?_ | refine ld5 (by assumption) (by assumption) ?_ | refine ld6 (by assumption) (by assumption) ?_ | refine ld7 (by assumption) (by assumption) ?_ | refine ld8 (by assumption) (by assumption) ?_ | refine ld9 (by assumption) (by assumption) ?_ | refine ld10 (by assumption) (by assumption) ?_ | refine ld11 (by assumption) (by assumption) ?_ | refine ld12 (by assumption) (by assumption) ?_ | refine ld13 (by assumption) (by assumption) ?_ | refine ld14 (by assumption) (by assumption) ?_ | refine ld15 (by assumption) (by assumption) ?_ | refine ld16 (by assumption) (by assumption) ?_ | refine ld17 (by assumption) (by assumption) ?_))
local macro_rules | `(tactic| walk_at "loadName") => `(tactic| with_reducible (first | refine ln0 (by assumption) (by assumption) ?_ | refine ln1 (by assumption) (by assumption) ?_ | refine ln2 (by assumption) (by assumption) ?_ | refine ln3 (by assumption) (by assumption) ?_ | refine ln4 (by assumption) (by assumption) ?_ | refine ln5 (by assumption) (by assumption) ?_ | refine ln6 (by assumption) (by assumption) ?_ | refine ln7 (by assumption) (by assumption) ?_ | refine ln8 (by assumption) (by assumption) ?_ | refine ln9 (by assumption) (by assumption) ?_ | refine ln10 (by assumption) (by assumption) ?_ | refine ln11 (by assumption) (by assumption) ?_ | refine ln12 (by assumption) (by assumption) ?_ | refine ln13 (by assumption) (by assumption) ?_ | refine ln14 (by assumption) (by assumption) ?_ | refine ln15 (by assumption) (by assumption) ?_ | refine ln16 (by assumption) (by assumption) ?_ | refine ln17 (by assumption) (by assumption) ?_))
local macro_rules | `(tactic| walk_at "execs cons") => `(tactic| with_reducible refine wpAny_execs_cons ?_)
local macro_rules | `(tactic| walk_at "newTuple") => `(tactic| (k_dflt (refine' z_tuple ?F ?N ?z ?_; (case F => k_asm); (case N => k_asm); (case z => kmk_size)); intro T' h' F' N'; (try k_sweep)))
local macro_rules | `(tactic| walk_at "assign Tuple") => `(tactic| ((with_reducible show wpAny _ _ (assign (Expr.Tuple _ _ _) _ (Value.ref _)) _ _ _); k_dflt (refine' z_unpack ?F ?X ?N ?H ?h ?n ?st ?_; (case F => k_asm); (case X => k_asm); (case N => k_asm); (case H => walk_at "has"); (case h => exact rfl); (case n => exact rfl); (case st => exact rfl)); intro h' F' N'; (try k_sweep)))
local macro_rules | `(tactic| walk_at "dead") => `(tactic| first | omega | contradiction)
local macro_rules | `(tactic| walk_at "cond") => `(tactic| (intro hb; (try simp only [bne_iff_ne, beq_iff_eq, Bool.not_eq_true', Bool.not_eq_false', bne_eq_false_iff_eq, beq_eq_false_iff_ne, Bool.not_eq_true, Bool.not_eq_false, decide_eq_true_eq, decide_eq_false_iff_not, ne_eq, mpf_eq_iff, true_and, and_true, false_and, and_false, not_false_eq_true, not_true_eq_false, Decidable.not_not, Bool.not_not, Int.not_le, Int.not_lt] at hb); (try (exfalso; walk_at "dead"))))
local macro_rules | `(tactic| walk_at "ite") => `(tactic| first | with_reducible rw [if_pos True.intro] | with_reducible rw [if_neg not_false] | with_reducible rw [if_pos rfl] | (with_reducible (refine split_dec ?_ ?_ <;> walk_at "cond")) | (with_reducible (refine split_bool ?_ ?_ <;> walk_at "cond")))

local macro_rules | `(tactic| walk_at "compareOp Eq ref ref") => `(tactic| (k_dflt (refine' z_eqM ?F ?X ?N ?x ?y ?u ?_; (case F => k_asm); (case X => k_asm); (case N => k_asm); (case x => walk_at "has"); (case y => walk_at "has"); (case u => first | omega | ktr_units))))
local macro_rules | `(tactic| walk_at "compareOp NotEq ref ref") => `(tactic| (k_dflt (refine' z_neM ?F ?X ?N ?x ?y ?u ?_; (case F => k_asm); (case X => k_asm); (case N => k_asm); (case x => walk_at "has"); (case y => walk_at "has"); (case u => first | omega | ktr_units))))

local macro_rules | `(tactic| walk_at "pyl") => `(tactic| first | assumption | decide +kernel)
local macro_rules | `(tactic| walk_at "call builtin:divmod") => `(tactic| (k_dflt (refine' z_divmod ?F ?N ?b ?p ?_; (case F => k_asm); (case N => k_asm); (case b => walk_at "side"); (case p => walk_at "pyl")); intro T' h' F' N'; (try k_sweep)))
local macro_rules | `(tactic| walk_at "binaryOp FloorDiv int int") => `(tactic| refine z_fdiv (by walk_at "side") (by walk_at "pyl") ?_)

local macro_rules | `(tactic| walk_at "subscriptTail Name Constant ref int") => `(tactic| (k_dflt (refine' z_item ?F ?X ?N ?x _ ?lo ?hi ?j ?v ?_ ?s; (case F => k_asm); (case X => k_asm); (case N => k_asm); (case x => walk_at "has"); (case lo => decide); (case hi => decide); (case j => exact rfl); (case v => exact rfl); (case s => with_unfolding_all rfl))))
local macro_rules | `(tactic| walk_at "call ref") => `(tactic| ((with_reducible show wpAny _ _ (call (Value.ref 76) _) _ _ _); k_dflt (refine' z_use (c_normalize _ _ _ _ _ _ _ _ _ _ _ _ _ ?hs ?h0 ?hb ?hp ?hbs) ?B ?F ?X ?N ?T ?kK ?kd ?ku ?kp ?_); walk_at "use"; (case kp => trivial); (case hs => walk_at "side"); (case h0 => walk_at "side"); (case hb => walk_at "side"); (case hp => walk_at "side"); (case hbs => walk_at "side"); walk_at "back"))
local macro_rules | `(tactic| walk_at "side") => `(tactic| first | omega | decide | assumption | exact div_nn (by assumption) (by assumption) | exact div_nn2 (by assumption) (by assumption) | exact bits_of (div_nn (by assumption) (by assumption)) | exact bits_of (div_nn2 (by assumption) (by assumption)) | exact fdiv_bits_ok (div_bits (by assumption) (by omega)) (by omega) | exact fdiv_bits_ok (div_bits2 (by assumption) (by omega)) (by omega))
local macro_rules | `(tactic| walk_at "size") => `(tactic| first | assumption | exact size_add (by assumption) (by omega) | exact size_add (div_bits (by assumption) (by omega)) (by omega))
local macro_rules | `(tactic| walk_at "mulok") => `(tactic| first | assumption)
local macro_rules | `(tactic| walk_at "post") => `(tactic| first | exact mpf_zero (divP_zero (by first | assumption | omega)) | (refine mpf_of ?_ ⟨_, _, _, _, _, rfl, by walk_at "has"⟩; first | exact divP_one (by assumption) (by assumption) | exact divP_lt0 (by assumption) (by assumption) (by assumption) (by assumption) | exact divP_lt1 (by assumption) (by assumption) (by assumption) (by assumption) | exact divP_ge0 (by assumption) (by assumption) (by assumption) (by assumption) | exact divP_ge1 (by assumption) (by assumption) (by assumption) (by assumption)))
theorem c_mpf_div (w : World) (T U : Addr) (xs xm xe xb ys ym ye yb prec : Int) (r : Rnd) (a1 a2 a3 a4 b1 b2 b3 b4 t5 t6 : Tok) (hxs : xs = 0 ∨ xs = 1) (hx0 : 0 ≤ xm) (hxz : xm = 0 → xs = 0 ∧ xe = 0 ∧ xb = 0) (hxb : xb = blen xm.toNat) (hys : ys = 0) (hy0 : 0 < ym) (hyb0 : 0 ≤ yb) (hyb : yb ≤ 30000) (hy8 : Builtin.Int.intBits ym ≤ 8000) (hp : 0 < prec) (hpb : prec ≤ 30000) (hbs : Builtin.Int.intBits xm ≤ 30000) : Ctr w 199 12 [.ref T, .ref U, .int prec t5, .str r.str t6] (fun _ led => Has w led T (tupO [.int xs a1, .int xm a2, .int xe a3, .int xb a4]) ∧ Has w led U (tupO [.int ys b1, .int ym b2, .int ye b3, .int yb b4])) (fun led v => IsMpf w led v (divP xs xm xe xb ym ye yb prec r)) := by
  have hxor : Builtin.bitXor xs ys = xs := bitXor_zero hxs hys
  have hxb0 : 0 ≤ xb := by omega
  have hxbb : xb ≤ 30000 := by rw [hxb, ← bits_of hx0]; omega
  unfold Ctr
  k_fill
  refine' z_enter (r := 11) [("s", .ref T), ("t", .ref U), ("prec", .int prec t5), ("rnd", .str r.str t6)] ["ssign", "sman", "sexp", "sbc", "tsign", "tman", "texp", "tbc", "s_special", "t_special", "sign", "extra", "quot", "rem", "bc"] ["s", "t", "prec", "rnd", "ssign", "sman", "sexp", "sbc", "tsign", "tman", "texp", "tbc", "s_special", "t_special", "sign", "extra", "quot", "rem", "bc"] [some (.ref T), some (.ref U), some (.int prec t5), some (.str r.str t6), none, none, none, none, none, none, none, none, none, none, none, none, none, none, none] ?eo ?ec ?eb ?en ?em ?eK ?ecl ?e1 ?e2 ?_
  walk_at "enter"
  intro dp un gd outer A₀ base g L led h G D tk O p loose mean mg mb B X HT hd hu hpre LK F N
  obtain ⟨hT, hU⟩ := hpre
  k_fold
  walk_at "steps"
end Mine
/-! part W7 -/
namespace Mine
theorem flushW7 : (0 : Nat) = 0 := by
  w_top off
  first | walk1 | rfl
local macro_rules | `(tactic| walk_at "has") => `(tactic| first | (with_reducible assumption) | exact Has.here | (refine Has.cons ?_; walk_at "has") | (refine Has.sub (by with_reducible assumption) ?_; walk_at "has") | exact has_zero | exact has_nan | exact has_inf | exact has_ninf)
local macro_rules | `(tactic| walk_at "subs") => `(tactic| first | (with_reducible assumption) | exact sub_refl | (refine sub_cons ?_; walk_at "subs") | (refine sub_trans (by with_reducible assumption) ?_; walk_at "subs"))
local macro_rules | `(tactic| kun_tup) => `(tactic| exact Has.tup (by k_asm) (by k_asm) (by k_asm) (by walk_at "has"))
local macro_rules | `(tactic| walk_at "Fin") => `(tactic| ((refine ⟨_, _, by with_reducible assumption, by with_reducible assumption, by walk_at "subs", ?_, rfl⟩); walk_at "post"))
local macro_rules | `(tactic| walk_at "steps") => `(tactic| repeat' (first | (k_unfold) | walk1 | fail "no step"))
local macro_rules | `(tactic| walk_at "isR") => `(tactic| with_reducible first | assumption | exact isR _ | exact isR_n | exact isR_f | exact isR_c | exact isR_d | exact isR_u)
local macro_rules | `(tactic| walk_at "use") => `(tactic| ((case B => k_asm); (case F => k_asm); (case X => k_asm); (case N => k_asm); (case T => k_asm); (case kK => first | exact rfl | assumption); (case kd => first | omega | ktr_room); (case ku => first | omega | ktr_units)))
local macro_rules | `(tactic| walk_at "back") => `(tactic| (intro v9 h9 tk9 led9 F9 N9 s9 p9; k_dflt (first | (obtain ⟨D9, ta9, tb9, tc9, td9, e9, hM9⟩ := p9; subst e9) | (obtain ⟨y9, ⟨D9, ta9, tb9, tc9, td9, e9, hM9⟩, hy9⟩ := p9; subst e9) | (obtain ⟨c9, t9, e9, hc9⟩ := p9; subst e9) | (obtain ⟨t9, e9⟩ := p9; subst e9) | skip); (try k_sweep); (try k_fold)))
local macro_rules | `(tactic| walk_at "enter") => `(tactic| ((case eo => k_is); (case ec => k_is); (case eb => exact fun _ => by rfl); (case en => exact rfl); (case em => exact rfl); (case eK => exact ⟨by decide +kernel, rfl, by decide +kernel⟩); (case ecl => decide +kernel); (case e1 => exact rfl); (case e2 => exact rfl)))
local macro_rules | `(tactic| walk_at "side") => `(tactic| first | omega | decide | assumption)
local macro_rules | `(tactic| walk_at "binaryOp Add int int") => `(tactic| refine z_add ?_)
local macro_rules | `(tactic| walk_at "binaryOp Sub int int") => `(tactic| refine z_sub ?_)
local macro_rules | `(tactic| walk_at "binaryOp Mult int int") => `(tactic| refine z_mul (by walk_at "mulok") ?_)
local macro_rules | `(tactic| walk_at "binaryOp Mod int int") => `(tactic| refine z_mod (by walk_at "side") ?_)
local macro_rules | `(tactic| walk_at "binaryOp Pow int int") => `(tactic| refine z_pow (by walk_at "side") (by walk_at "size") ?_)
local macro_rules | `(tactic| walk_at "binaryOp LShift int int") => `(tactic| refine z_shl (by walk_at "side") (by walk_at "size") ?_)
local macro_rules | `(tactic| walk_at "binaryOp RShift int int") => `(tactic| refine z_shr (by walk_at "side") ?_)
local macro_rules | `(tactic| walk_at "binaryOp BitAnd int int") => `(tactic| refine z_and ?_)
local macro_rules | `(tactic| walk_at "binaryOp BitXor int int") => `(tactic| refine z_xor ?_)
local macro_rules | `(tactic| walk_at "unaryOp USub int") => `(tactic| refine z_neg ?_)
local macro_rules | `(tactic| walk_at "inplaceOp Add int int") => `(tactic| refine z_iadd ?_)
local macro_rules | `(tactic| walk_at "inplaceOp Sub int int") => `(tactic| refine z_isub ?_)
local macro_rules | `(tactic| walk_at "inplaceOp Mult int int") => `(tactic| refine z_imul (by walk_at "mulok") ?_)
local macro_rules | `(tactic| walk_at "inplaceOp RShift int int") => `(tactic| refine z_ishr (by walk_at "side") ?_)
local macro_rules | `(tactic| walk_at "inplaceOp LShift int int") => `(tactic| refine z_ishl (by walk_at "side") (by walk_at "size") ?_)
local macro_rules | `(tactic| walk_at "inplaceOp BitXor int int") => `(tactic| refine z_ixor ?_)
local macro_rules | `(tactic| walk_at "eval Constant int") => `(tactic| refine z_const ?_)
local macro_rules | `(tactic| walk_at "eval Constant str") => `(tactic| refine z_text ?_)
local macro_rules | `(tactic| walk_at "storeName") => `(tactic| (with_reducible (first | refine st0 (by assumption) (by assumption) (by assumption) ?_ | refine st1 (by assumption) (by assumption) (by assumption) ?_ | refine st2 (by assumption) (by assumption) (by assumption) ?_ | refine st3 (by assumption) (by assumption) (by assumption) ?_ | refine st4 (by assumption) (by assumption) (by assumption) ?_ | refine st5 (by assumption) (by assumption) (by assumption) ?_ | refine st6 (by assumption) (by assumption) (by assumption) ?_ | refine st7 (by assumption) (by assumption) (by assumption) ?_ | refine st8 (by assumption) (by assumption) (by assumption) ?_ | refine st9 (by assumption) (by assumption) (by assumption) ?_ | refine st10 (by assumption) (by assumption) (by assumption) ?_ | refine st11 (by assumption) (by assumption) (by assumption) ?_ | refine st12 (by assumption) (by assumption) (by assumption) ?_ | refine st13 (by assumption) (by assumption) (by assumption) ?_ | refine st14 (by assumption) (by assumption) (by assumption) ?_ | refine st15 (by assumption) (by assumption) (by assumption) ?_ | refine st16 (by assumption) (by assumption) (by assumption) ?_ | refine st17 (by assumption) (by assumption) (by assumption) ?_); intro h' tk' F' N'; (try k_sweep)))
local macro_rules | `(tactic| walk_at "eval Name") => `(tactic| with_reducible (first | refine ld0 (by assumption) (by assumption) ?_ | refine ld1 (by assumption) (by assumption) ?_ | refine ld2 (by assumption) (by assumption) ?_ | refine ld3 (by assumption) (by assumption) ?_ | refine ld4 (by assumption) (by assumption) ?_ | refine ld5 (by assumption) (by assumption) ?_ | refine ld6 (by assumption) (by assumption) ?_ | refine ld7 (by assumption) (by assumption) ?_ | refine ld8 (by assumption) (by assumption) ?_ | refine ld9 (by assumption) (by assumption) ?_ | refine ld10 (by assumption) (by assumption) ?_ | refine ld11 (by assumption) (by assumption) ?_ | refine ld12 (by assumption) (by assumption) ?_ | refine ld13 (by assumption) (by assumption) ?_ | refine ld14 (by assumption) (by assumption) ?_ | refine ld15 (by assumption) (by assumption) ?_ | refine ld16 (by assumption) (by assumption) ?_ | refine ld17 (by assumption) (by assumption) ?_))
local macro_rules | `(tactic| walk_at "loadName") => `(tactic| with_reducible (first | refine ln0 (by assumption) (by assumption) ?_ | refine ln1 (by assumption) (by assumption) ?_ | refine ln2 (by assumption) (by assumption) ?_ | refine ln3 (by assumption) (by assumption) ?_ | refine ln4 (by assumption) (by assumption) ?_ | refine ln5 (by assumption) (by assumption) ?_ | refine ln6 (by assumption) (by assumption) ?_ | refine ln7 (by assumption) (by assumption) ?_ | refine ln8 (by assumption) (by assumption) ?_ | refine ln9 (by assumption) (by assumption) ?_ | refine ln10 (by assumption) (by assumption) ?_ | refine ln11 (by assumption) (by assumption) ?_ | refine ln12 (by assumption) (by assumption) ?_ | refine ln13 (by assumption) (by assumption) ?_ | refine ln14 (by assumption) (by assumption) ?_ | refine ln15 (by assumption) (by assumption) ?_ | refine ln16 (by assumption) (by assumption) ?_ | refine ln17 (by assumption) (by assumption) ?_))
local macro_rules | `(tactic| walk_at "execs cons") => `(tactic| with_reducible refine wpAny_execs_cons ?_)
local macro_rules | `(tactic| walk_at "newTuple") => `(tactic| (k_dflt (refine' z_tuple ?F ?N ?z ?_; (case F => k_asm); (case N => k_asm); (case z => kmk_size)); intro T' h' F' N'; (try k_sweep)))
local macro_rules | `(tactic| walk_at "assign Tuple") => `(tactic| ((with_reducible show wpAny _ _ (assign (Expr.Tuple _ _ _) _ (Value.ref _)) _ _ _); k_dflt (refine' z_unpack ?F ?X ?N ?H ?h ?n ?st ?_; (case F => k_asm); (case X => k_asm); (case N => k_asm); (case H => walk_at "has"); (case h => exact rfl); (case n => exact rfl); (case st => exact rfl)); intro h' F' N'; (try k_sweep)))
local macro_rules | `(tactic| walk_at "dead") => `(tactic| first | omega | contradiction)
local macro_rules | `(tactic| walk_at "cond") => `(tactic| (intro hb; (try simp only [bne_iff_ne, beq_iff_eq, Bool.not_eq_true', Bool.not_eq_false', bne_eq_false_iff_eq, beq_eq_false_iff_ne, Bool.not_eq_true, Bool.not_eq_false, decide_eq_true_eq, decide_eq_false_iff_not, ne_eq, mpf_eq_iff, true_and, and_true, false_and, and_false, not_false_eq_true, not_true_eq_false, Decidable.not_not, Bool.not_not, Int.not_le, Int.not_lt] at hb); (try (exfalso; walk_at "dead"))))
local macro_rules | `(tactic| walk_at "ite") => `(tactic| first | with_reducible rw [if_pos True.intro] | with_reducible rw [if_neg not_false] | with_reducible rw [if_pos rfl] | (with_reducible (refine split_dec ?_ ?_ <;> walk_at "cond")) | (with_reducible (refine split_bool ?_ ?_ <;> walk_at "cond")))

local macro_rules | `(tactic| walk_at "compareOp Eq ref ref") => `(tactic| (k_dflt (refine' z_eqM ?F ?X ?N ?x ?y ?u ?_; (case F => k_asm); (case X => k_asm); (case N => k_asm); (case x => walk_at "has"); (case y => walk_at "has"); (case u => first | omega | ktr_units))))
local macro_rules | `(tactic| walk_at "compareOp NotEq ref ref") => `(tactic| (k_dflt (refine' z_neM ?F ?X ?N ?x ?y ?u ?_; (case F => k_asm); (case X => k_asm); (case N => k_asm); (case x => walk_at "has"); (case y => walk_at "has"); (case u => first | omega | ktr_units))))

local macro_rules | `(tactic| walk_at "pyl") => `(tactic| first | assumption | decide +kernel)
local macro_rules | `(tactic| walk_at "call builtin:divmod") => `(tactic| (k_dflt (refine' z_divmod ?F ?N ?b ?p ?_; (case F => k_asm); (case N => k_asm); (case b => walk_at "side"); (case p => walk_at "pyl")); intro T' h' F' N'; (try k_sweep)))
local macro_rules | `(tactic| walk_at "binaryOp FloorDiv int int") => `(tactic| refine z_fdiv (by walk_at "side") (by walk_at "pyl") ?_)

local macro_rules | `(tactic| walk_at "subscriptTail Name Constant ref int") => `(tactic| (k_dflt (refine' z_item ?F ?X ?N ?x _ ?lo ?hi ?j ?v ?_ ?s; (case F => k_asm); (case X => k_asm); (case N => k_asm); (case x => walk_at "has"); (case lo => decide); (case hi => decide); (case j => exact rfl); (case v => exact rfl); (case s => with_unfolding_all rfl))))
local macro_rules | `(tactic| walk_at "call ref") => `(tactic| ((with_reducible show wpAny _ _ (call (Value.ref 92) [_]) _ _ _); k_dflt (refine' z_use (c_from_int1 _ _ _ ?hbs) ?B ?F ?X ?N ?T ?kK ?kd ?ku ?kp ?_); walk_at "use"; (case kp => trivial); (case hbs => walk_at "side"); walk_at "back"))
local macro_rules | `(tactic| walk_at "call ref") => `(tactic| ((with_reducible show wpAny _ _ (call (Value.ref 92) [_, _, _]) _ _ _); k_dflt (refine' z_use (c_from_int3 _ _ _ _ _ _ _ ?hp ?hbs) ?B ?F ?X ?N ?T ?kK ?kd ?ku ?kp ?_); walk_at "use"; (case kp => trivial); (case hp => walk_at "side"); (case hbs => walk_at "side"); walk_at "back"))
local macro_rules | `(tactic| walk_at "call ref") => `(tactic| ((with_reducible show wpAny _ _ (call (Value.ref 199) _) _ _ _); k_dflt (refine' z_use (c_mpf_div _ _ _ _ _ _ _ _ _ _ _ _ _ _ _ _ _ _ _ _ _ _ _ ?hxs ?hx0 ?hxz ?hxb ?hys ?hy0 ?hyb0 ?hyb ?hy8 ?hp ?hpb ?hbs) ?B ?F ?X ?N ?T ?kK ?kd ?ku ?kp ?_); walk_at "use"; (case kp => exact ⟨by walk_at "has", by walk_at "has"⟩); (case hxs => walk_at "side"); (case hx0 => walk_at "side"); (case hxz => walk_at "side"); (case hxb => walk_at "side"); (case hys => walk_at "side"); (case hy0 => walk_at "side"); (case hyb0 => walk_at "side"); (case hyb => walk_at "side"); (case hy8 => walk_at "side"); (case hp => walk_at "side"); (case hpb => walk_at "side"); (case hbs => walk_at "side"); walk_at "back"))
local macro_rules | `(tactic| walk_at "side") => `(tactic| first | omega | assumption | exact fme_f1 _ | exact fme_f2 _ | exact fme_f3 _ | exact fme_f4 _ | exact fme_g1 (by assumption) | exact fme_g2 (by assumption) | exact fme_g3 _ | exact fme_g4 (by assumption) (by omega) | exact Nat.le_trans (fme_f5 (by assumption)) (by omega) | exact bits_le_of (by assumption) (by decide))
local macro_rules | `(tactic| walk_at "post") => `(tactic| exact mpf_of (y := divP _ _ _ _ _ _ _ _ _) rfl ⟨_, _, _, _, _, rfl, by walk_at "has"⟩)
theorem bits_le_of {x : Int} {a b : Nat} (h : Builtin.Int.intBits x ≤ a) (k : a ≤ b) : Builtin.Int.intBits x ≤ b := Nat.le_trans h k
theorem c_from_rational (w : World) (p q prec : Int) (r : Rnd) (t1 t2 t5 t6 : Tok) (hq0 : 0 < q) (hpp : 0 < prec) (hpb : prec ≤ 30000) (hbp : Builtin.Int.intBits p ≤ 8000) (hbq : Builtin.Int.intBits q ≤ 8000) : Ctr w 108 13 [.int p t1, .int q t2, .int prec t5, .str r.str t6] (fun _ _ => True) (fun led v => IsMpf w led v (ratP p q prec r)) := by
  unfold Ctr
  k_fill
  refine' z_enter (r := 12) [("p", .int p t1), ("q", .int q t2), ("prec", .int prec t5), ("rnd", .str r.str t6)] [] ["p", "q", "prec", "rnd"] [some (.int p t1), some (.int q t2), some (.int prec t5), some (.str r.str t6)] ?eo ?ec ?eb ?en ?em ?eK ?ecl ?e1 ?e2 ?_
  walk_at "enter"
  intro dp un gd outer A₀ base g L led h G D tk O p loose mean mg mb B X HT hd hu hpre LK F N
  k_fold
  walk_at "steps"
end Mine
/-! part W8 -/
namespace Mine
theorem flushW8 : (0 : Nat) = 0 := by
  w_top off
  first | walk1 | rfl
local macro_rules | `(tactic| walk_at "has") => `(tactic| first | (with_reducible assumption) | exact Has.here | (refine Has.cons ?_; walk_at "has") | (refine Has.sub (by with_reducible assumption) ?_; walk_at "has") | exact has_zero | exact has_nan | exact has_inf | exact has_ninf)
local macro_rules | `(tactic| walk_at "subs") => `(tactic| first | (with_reducible assumption) | exact sub_refl | (refine sub_cons ?_; walk_at "subs") | (refine sub_trans (by with_reducible assumption) ?_; walk_at "subs"))
local macro_rules | `(tactic| kun_tup) => `(tactic| exact Has.tup (by k_asm) (by k_asm) (by k_asm) (by walk_at "has"))
local macro_rules | `(tactic| walk_at "Fin") => `(tactic| ((refine ⟨_, _, by with_reducible assumption, by with_reducible assumption, by walk_at "subs", ?_, rfl⟩); walk_at "post"))
local macro_rules | `(tactic| walk_at "steps") => `(tactic| repeat' (first | (k_unfold) | walk1 | fail "no step"))
local macro_rules | `(tactic| walk_at "isR") => `(tactic| with_reducible first | assumption | exact isR _ | exact isR_n | exact isR_f | exact isR_c | exact isR_d | exact isR_u)
local macro_rules | `(tactic| walk_at "use") => `(tactic| ((case B => k_asm); (case F => k_asm); (case X => k_asm); (case N => k_asm); (case T => k_asm); (case kK => first | exact rfl | assumption); (case kd => first | omega | ktr_room); (case ku => first | omega | ktr_units)))
local macro_rules | `(tactic| walk_at "back") => `(tactic| (intro v9 h9 tk9 led9 F9 N9 s9 p9; k_dflt (first | (obtain ⟨D9, ta9, tb9, tc9, td9, e9, hM9⟩ := p9; subst e9) | (obtain ⟨y9, ⟨D9, ta9, tb9, tc9, td9, e9, hM9⟩, hy9⟩ := p9; subst e9) | (obtain ⟨c9, t9, e9, hc9⟩ := p9; subst e9) | (obtain ⟨t9, e9⟩ := p9; subst e9) | skip); (try k_sweep); (try k_fold)))
local macro_rules | `(tactic| walk_at "enter") => `(tactic| ((case eo => k_is); (case ec => k_is); (case eb => exact fun _ => by rfl); (case en => exact rfl); (case em => exact rfl); (case eK => exact ⟨by decide +kernel, rfl, by decide +kernel⟩); (case ecl => decide +kernel); (case e1 => exact rfl); (case e2 => exact rfl)))
local macro_rules | `(tactic| walk_at "side") => `(tactic| first | omega | decide | assumption)
local macro_rules | `(tactic| walk_at "binaryOp Add int int") => `(tactic| refine z_add ?_)
local macro_rules | `(tactic| walk_at "binaryOp Sub int int") => `(tactic| refine z_sub ?_)
local macro_rules | `(tactic| walk_at "binaryOp Mult int int") => `(tactic| refine z_mul (by walk_at "mulok") ?_)
local macro_rules | `(tactic| walk_at "binaryOp Mod int int") => `(tactic| refine z_mod (by walk_at "side") ?_)
local macro_rules | `(tactic| walk_at "binaryOp Pow int int") => `(tactic| refine z_pow (by walk_at "side") (by walk_at "size") ?_)
local macro_rules | `(tactic| walk_at "binaryOp LShift int int") => `(tactic| refine z_shl (by walk_at "side") (by walk_at "size") ?_)
local macro_rules | `(tactic| walk_at "binaryOp RShift int int") => `(tactic| refine z_shr (by walk_at "side") ?_)
local macro_rules | `(tactic| walk_at "binaryOp BitAnd int int") => `(tactic| refine z_and ?_)
local macro_rules | `(tactic| walk_at "binaryOp BitXor int int") => `(tactic| refine z_xor ?_)
local macro_rules | `(tactic| walk_at "unaryOp USub int") => `(tactic| refine z_neg ?_)
local macro_rules | `(tactic| walk_at "inplaceOp Add int int") => `(tactic| refine z_iadd ?_)
local macro_rules | `(tactic| walk_at "inplaceOp Sub int int") => `(tactic| refine z_isub ?_)
local macro_rules | `(tactic| walk_at "inplaceOp Mult int int") => `(tactic| refine z_imul (by walk_at "mulok") ?_)
local macro_rules | `(tactic| walk_at "inplaceOp RShift int int") => `(tactic| refine z_ishr (by walk_at "side") ?_)
local macro_rules | `(tactic| walk_at "inplaceOp LShift int int") => `(tactic| refine z_ishl (by walk_at "side") (by walk_at "size") ?_)
local macro_rules | `(tactic| walk_at "inplaceOp BitXor int int") => `(tactic| refine z_ixor ?_)
local macro_rules | `(tactic| walk_at "eval Constant int") => `(tactic| refine z_const ?_)
local macro_rules | `(tactic| walk_at "eval Constant str") => `(tactic| refine z_text ?_)
local macro_rules | `(tactic| walk_at "storeName") => `(tactic| (with_reducible (first | refine st0 (by assumption) (by assumption) (by assumption) ?_ | refine st1 (by assumption) (by assumption) (by assumption) ?_ | refine st2 (by assumption) (by assumption) (by assumption) ?_ | refine st3 (by assumption) (by assumption) (by assumption) ?_ | refine st4 (by assumption) (by assumption) (by assumption) ?_ | refine st5 (by assumption) (by assumption) (by assumption) ?_ | refine st6 (by assumption) (by assumption) (by assumption) ?_ | refine st7 (by assumption) (by assumption) (by assumption) ?_ | refine st8 (by assumption) (by assumption) (by assumption) ?_ | refine st9 (by assumption) (by assumption) (by assumption) ?_ | refine st10 (by assumption) (by assumption) (by assumption) ?_ | refine st11 (by assumption) (by assumption) (by assumption) ?_ | refine st12 (by assumption) (by assumption) (by assumption) ?_ | refine st13 (by assumption) (by assumption) (by assumption) ?_ | refine st14 (by assumption) (by assumption) (by assumption) ?_ | refine st15 (by assumption) (by assumption) (by assumption) ?_ | refine st16 (by assumption) (by assumption) (by assumption) ?_ | refine st17 (by assumption) (by assumption) (by assumption) ?_); intro h' tk' F' N'; (try k_sweep)))
local macro_rules | `(tactic| walk_at "eval Name") => `(tactic| with_reducible (first | refine ld0 (by assumption) (by assumption) ?_ | refine ld1 (by assumption) (by assumption) ?_ | refine ld2 (by assumption) (by assumption) ?_ | refine ld3 (by assumption) (by assumption) ?_ | refine ld4 (by assumption) (by assumption) ?_ | refine ld5 (by assumption) (by assumption) ?_ | refine ld6 (by assumption) (by assumption) ?_ | refine ld7 (by assumption) (by assumption) ?_ | refine ld8 (by assumption) (by assumption) ?_ | refine ld9 (by assumption) (by assumption) ?_ | refine ld10 (by assumption) (by assumption) ?_ | refine ld11 (by assumption) (by assumption) ?_ | refine ld12 (by assumption) (by assumption) ?_ | refine ld13 (by assumption) (by assumption) ?_ | refine ld14 (by assumption) (by assumption) ?_ | refine ld15 (by assumption) (by assumption) ?_ | refine ld16 (by assumption) (by assumption) ?_ | refine ld17 (by assumption) (by assumption) ?_))
local macro_rules | `(tactic| walk_at "loadName") => `(tactic| with_reducible (first | refine ln0 (by assumption) (by assumption) ?_ | refine ln1 (by assumption) (by assumption) ?_ | refine ln2 (by assumption) (by assumption) ?_ | refine ln3 (by assumption) (by assumption) ?_ | refine ln4 (by assumption) (by assumption) ?_ | refine ln5 (by assumption) (by assumption) ?_ | refine ln6 (by assumption) (by assumption) ?_ | refine ln7 (by assumption) (by assumption) ?_ | refine ln8 (by assumption) (by assumption) ?_ | refine ln9 (by assumption) (by assumption) ?_ | refine ln10 (by assumption) (by assumption) ?_ | refine ln11 (by assumption) (by assumption) ?_ | refine ln12 (by assumption) (by assumption) ?_ | refine ln13 (by assumption) (by assumption) ?_ | refine ln14 (by assumption) (by assumption) ?_ | refine ln15 (by assumption) (by assumption) ?_ | refine ln16 (by assumption) (by assumption) ?_ | refine ln17 (by assumption) (by assumption) ?_))
local macro_rules | `(tactic| walk_at "execs cons") => `(tactic| with_reducible refine wpAny_execs_cons ?_)
local macro_rules | `(tactic| walk_at "newTuple") => `(tactic| (k_dflt (refine' z_tuple ?F ?N ?z ?_; (case F => k_asm); (case N => k_asm); (case z => kmk_size)); intro T' h' F' N'; (try k_sweep)))
local macro_rules | `(tactic| walk_at "assign Tuple") => `(tactic| ((with_reducible show wpAny _ _ (assign (Expr.Tuple _ _ _) _ (Value.ref _)) _ _ _); k_dflt (refine' z_unpack ?F ?X ?N ?H ?h ?n ?st ?_; (case F => k_asm); (case X => k_asm); (case N => k_asm); (case H => walk_at "has"); (case h => exact rfl); (case n => exact rfl); (case st => exact rfl)); intro h' F' N'; (try k_sweep)))
local macro_rules | `(tactic| walk_at "dead") => `(tactic| first | omega | contradiction)
local macro_rules | `(tactic| walk_at "cond") => `(tactic| (intro hb; (try simp only [bne_iff_ne, beq_iff_eq, Bool.not_eq_true', Bool.not_eq_false', bne_eq_false_iff_eq, beq_eq_false_iff_ne, Bool.not_eq_true, Bool.not_eq_false, decide_eq_true_eq, decide_eq_false_iff_not, ne_eq, mpf_eq_iff, true_and, and_true, false_and, and_false, not_false_eq_true, not_true_eq_false, Decidable.not_not, Bool.not_not, Int.not_le, Int.not_lt] at hb); (try (exfalso; walk_at "dead"))))
local macro_rules | `(tactic| walk_at "ite") => `(tactic| first | with_reducible rw [if_pos True.intro] | with_reducible rw [if_neg not_false] | with_reducible rw [if_pos rfl] | (with_reducible (refine split_dec ?_ ?_ <;> walk_at "cond")) | (with_reducible (refine split_bool ?_ ?_ <;> walk_at "cond")))

local macro_rules | `(tactic| walk_at "compareOp Eq ref ref") => `(tactic| (k_dflt (refine' z_eqM ?F ?X ?N ?x ?y ?u ?_; (case F => k_asm); (case X => k_asm); (case N => k_asm); (case x => walk_at "has"); (case y => walk_at "has"); (case u => first | omega | ktr_units))))
local macro_rules | `(tactic| walk_at "compareOp NotEq ref ref") => `(tactic| (k_dflt (refine' z_neM ?F ?X ?N ?x ?y ?u ?_; (case F => k_asm); (case X => k_asm); (case N => k_asm); (case x => walk_at "has"); (case y => walk_at "has"); (case u => first | omega | ktr_units))))

local macro_rules | `(tactic| walk_at "pyl") => `(tactic| first | assumption | decide +kernel)
local macro_rules | `(tactic| walk_at "call builtin:divmod") => `(tactic| (k_dflt (refine' z_divmod ?F ?N ?b ?p ?_; (case F => k_asm); (case N => k_asm); (case b => walk_at "side"); (case p => walk_at "pyl")); intro T' h' F' N'; (try k_sweep)))
local macro_rules | `(tactic| walk_at "binaryOp FloorDiv int int") => `(tactic| refine z_fdiv (by walk_at "side") (by walk_at "pyl") ?_)

local macro_rules | `(tactic| walk_at "subscriptTail Name Constant ref int") => `(tactic| (k_dflt (refine' z_item ?F ?X ?N ?x _ ?lo ?hi ?j ?v ?_ ?s; (case F => k_asm); (case X => k_asm); (case N => k_asm); (case x => walk_at "has"); (case lo => decide); (case hi => decide); (case j => exact rfl); (case v => exact rfl); (case s => with_unfolding_all rfl))))
local macro_rules | `(tactic| walk_at "call ref") => `(tactic| ((with_reducible show wpAny _ _ (call (Value.ref 57) _) _ _ _); k_dflt (refine' z_use (c_round_int _ _ _ _ _ _ ?h0) ?B ?F ?X ?N ?T ?kK ?kd ?ku ?kp ?_); walk_at "use"; (case kp => trivial); (case h0 => walk_at "side"); walk_at "back"))
local macro_rules | `(tactic| walk_at "call ref") => `(tactic| ((with_reducible show wpAny _ _ (call (Value.ref 92) [_]) _ _ _); k_dflt (refine' z_use (c_from_int1 _ _ _ ?hbs) ?B ?F ?X ?N ?T ?kK ?kd ?ku ?kp ?_); walk_at "use"; (case kp => trivial); (case hbs => walk_at "side"); walk_at "back"))
local macro_rules | `(tactic| walk_at "call ref") => `(tactic| ((with_reducible show wpAny _ _ (call (Value.ref 76) _) _ _ _); k_dflt (refine' z_use (c_normalize _ _ _ _ _ _ _ _ _ _ _ _ _ ?hs ?h0 ?hb ?hp ?hbs) ?B ?F ?X ?N ?T ?kK ?kd ?ku ?kp ?_); walk_at "use"; (case kp => trivial); (case hs => walk_at "side"); (case h0 => walk_at "side"); (case hb => walk_at "side"); (case hp => walk_at "side"); (case hbs => walk_at "side"); walk_at "back"))
local macro_rules | `(tactic| walk_at "side") => `(tactic| first | omega | assumption | decide | exact mul_len_int (by assumption) (by assumption) (by assumption))
local macro_rules | `(tactic| walk_at "size") => `(tactic| first | assumption | exact size_add (by assumption) (by omega) | omega)
def toIntF (m e : Int) : Int := if 0 ≤ e then m * 2 ^ e.toNat else m.fdiv (2 ^ (-e).toNat)
theorem toIntF_ge {m e : Int} (h : 0 ≤ e) : m * 2 ^ e.toNat = toIntF m e := by unfold toIntF; rw [if_pos h]
theorem toIntF_lt {m e : Int} (h : e < 0) : m.fdiv (2 ^ (-e).toNat) = toIntF m e := by unfold toIntF; rw [if_neg (by omega)]
local macro_rules | `(tactic| walk_at "post") => `(tactic| first | exact ⟨_, by rw [toIntF_ge (by assumption)]⟩ | exact ⟨_, by rw [toIntF_lt (by assumption)]⟩)
theorem c_to_int (w : World) (T : Addr) (xm xe xb : Int) (a1 a2 a3 a4 t5 : Tok) (hz : xm = 0 → xe = 0) (h1 : xe ≤ 100000) (hbs : Builtin.Int.intBits xm ≤ 100000) : Ctr w 100 12 [.ref T, .str (Str.ofString "f") t5] (fun _ led => Has w led T (tupO [.int 0 a1, .int xm a2, .int xe a3, .int xb a4])) (fun _ v => ∃ t, v = .int (toIntF xm xe) t) := by
  unfold Ctr
  k_fill
  refine' z_enter (r := 11) [("s", .ref T), ("rnd", .str (Str.ofString "f") t5)] ["sign", "man", "exp", "bc"] ["s", "rnd", "sign", "man", "exp", "bc"] [some (.ref T), some (.str (Str.ofString "f") t5), none, none, none, none] ?eo ?ec ?eb ?en ?em ?eK ?ecl ?e1 ?e2 ?_
  walk_at "enter"
  intro dp un gd outer A₀ base g L led h G D tk O p loose mean mg mb B X HT hd hu hpre LK F N
  k_fold
  walk_at "steps"
local macro_rules | `(tactic| walk_at "post") => `(tactic| exact mpf_zero rfl)
theorem c_mpf_mul0 (w : World) (T U : Addr) (xs xm xe xb ys ym ye yb prec : Int) (a1 a2 a3 a4 b1 b2 b3 b4 t5 t6 : Tok) (hx1 : xm = 0) (hx2 : xe = 0) (hy : ym = 0 → ye = 0) (hyb : Builtin.Int.intBits ym ≤ 100000) : Ctr w 183 8 [.ref T, .ref U, .int prec t5, .str (Str.ofString "d") t6] (fun _ led => Has w led T (tupO [.int xs a1, .int xm a2, .int xe a3, .int xb a4]) ∧ Has w led U (tupO [.int ys b1, .int ym b2, .int ye b3, .int yb b4])) (fun led v => IsMpf w led v ⟨0, 0, 0, 0⟩) := by
  have hmm : xm * ym = 0 := by rw [hx1, Int.zero_mul]
  have hmk : IntMulOk xm ym := mulOk (a := 0) (by rw [hx1]; decide) hyb
  unfold Ctr
  k_fill
  refine' z_enter (r := 7) [("s", .ref T), ("t", .ref U), ("prec", .int prec t5), ("rnd", .str (Str.ofString "d") t6)] ["ssign", "sman", "sexp", "sbc", "tsign", "tman", "texp", "tbc", "sign", "man", "bc", "s_special", "t_special"] ["s", "t", "prec", "rnd", "ssign", "sman", "sexp", "sbc", "tsign", "tman", "texp", "tbc", "sign", "man", "bc", "s_special", "t_special"] [some (.ref T), some (.ref U), some (.int prec t5), some (.str (Str.ofString "d") t6), none, none, none, none, none, none, none, none, none, none, none, none, none] ?eo ?ec ?eb ?en ?em ?eK ?ecl ?e1 ?e2 ?_
  walk_at "enter"
  intro dp un gd outer A₀ base g L led h G D tk O p loose mean mg mb B X HT hd hu hpre LK F N
  obtain ⟨hT, hU⟩ := hpre
  k_fold
  walk_at "steps"
end Mine
/-! part W9 -/
namespace Mine
theorem flushW9 : (0 : Nat) = 0 := by
  w_top off
  first | walk1 | rfl
local macro_rules | `(tactic| walk_at "has") => `(tactic| first | (with_reducible assumption) | exact Has.here | (refine Has.cons ?_; walk_at "has") | (refine Has.sub (by with_reducible assumption) ?_; walk_at "has") | exact has_zero | exact has_nan | exact has_inf | exact has_ninf)
local macro_rules | `(tactic| walk_at "subs") => `(tactic| first | (with_reducible assumption) | exact sub_refl | (refine sub_cons ?_; walk_at "subs") | (refine sub_trans (by with_reducible assumption) ?_; walk_at "subs"))
local macro_rules | `(tactic| kun_tup) => `(tactic| exact Has.tup (by k_asm) (by k_asm) (by k_asm) (by walk_at "has"))
local macro_rules | `(tactic| walk_at "Fin") => `(tactic| ((refine ⟨_, _, by with_reducible assumption, by with_reducible assumption, by walk_at "subs", ?_, rfl⟩); walk_at "post"))
local macro_rules | `(tactic| walk_at "steps") => `(tactic| repeat' (first | (k_unfold) | walk1 | fail "no step"))
local macro_rules | `(tactic| walk_at "isR") => `(tactic| with_reducible first | assumption | exact isR _ | exact isR_n | exact isR_f | exact isR_c | exact isR_d | exact isR_u)
local macro_rules | `(tactic| walk_at "use") => `(tactic| ((case B => k_asm); (case F => k_asm); (case X => k_asm); (case N => k_asm); (case T => k_asm); (case kK => first | exact rfl | assumption); (case kd => first | omega | ktr_room); (case ku => first | omega | ktr_units)))
local macro_rules | `(tactic| walk_at "back") => `(tactic| (intro v9 h9 tk9 led9 F9 N9 s9 p9; k_dflt (first | (obtain ⟨D9, ta9, tb9, tc9, td9, e9, hM9⟩ := p9; subst e9) | (obtain ⟨y9, ⟨D9, ta9, tb9, tc9, td9, e9, hM9⟩, hy9⟩ := p9; subst e9) | (obtain ⟨c9, t9, e9, hc9⟩ := p9; subst e9) | (obtain ⟨t9, e9⟩ := p9; subst e9) | skip); (try k_sweep); (try k_fold)))
local macro_rules | `(tactic| walk_at "enter") => `(tactic| ((case eo => k_is); (case ec => k_is); (case eb => exact fun _ => by rfl); (case en => exact rfl); (case em => exact rfl); (case eK => exact ⟨by decide +kernel, rfl, by decide +kernel⟩); (case ecl => decide +kernel); (case e1 => exact rfl); (case e2 => exact rfl)))
local macro_rules | `(tactic| walk_at "side") => `(tactic| first | omega | decide | assumption)
local macro_rules | `(tactic| walk_at "binaryOp Add int int") => `(tactic| refine z_add ?_)
local macro_rules | `(tactic| walk_at "binaryOp Sub int int") => `(tactic| refine z_sub ?_)
local macro_rules | `(tactic| walk_at "binaryOp Mult int int") => `(tactic| refine z_mul (by walk_at "mulok") ?_)
local macro_rules | `(tactic| walk_at "binaryOp Mod int int") => `(tactic| refine z_mod (by walk_at "side") ?_)
local macro_rules | `(tactic| walk_at "binaryOp Pow int int") => `(tactic| refine z_pow (by walk_at "side") (by walk_at "size") ?_)
local macro_rules | `(tactic| walk_at "binaryOp LShift int int") => `(tactic| refine z_shl (by walk_at "side") (by walk_at "size") ?_)
local macro_rules | `(tactic| walk_at "binaryOp RShift int int") => `(tactic| refine z_shr (by walk_at "side") ?_)
local macro_rules | `(tactic| walk_at "binaryOp BitAnd int int") => `(tactic| refine z_and ?_)
local macro_rules | `(tactic| walk_at "binaryOp BitXor int int") => `(tactic| refine z_xor ?_)
local macro_rules | `(tactic| walk_at "unaryOp USub int") => `(tactic| refine z_neg ?_)
local macro_rules | `(tactic| walk_at "inplaceOp Add int int") => `(tactic| refine z_iadd ?_)
local macro_rules | `(tactic| walk_at "inplaceOp Sub int int") => `(tactic| refine z_isub ?_)
local macro_rules | `(tactic| walk_at "inplaceOp Mult int int") => `(tactic| refine z_imul (by walk_at "mulok") ?_)
local macro_rules | `(tactic| walk_at "inplaceOp RShift int int") => `(tactic| refine z_ishr (by walk_at "side") ?_)
local macro_rules | `(tactic| walk_at "inplaceOp LShift int int") => `(tactic| refine z_ishl (by walk_at "side") (by walk_at "size") ?_)
local macro_rules | `(tactic| walk_at "inplaceOp BitXor int int") => `(tactic| refine z_ixor ?_)
local macro_rules | `(tactic| walk_at "eval Constant int") => `(tactic| refine z_const ?_)
local macro_rules | `(tactic| walk_at "eval Constant str") => `(tactic| refine z_text ?_)
local macro_rules | `(tactic| walk_at "storeName") => `(tactic| (with_reducible (first | refine st0 (by assumption) (by assumption) (by assumption) ?_ | refine st1 (by assumption) (by assumption) (by assumption) ?_ | refine st2 (by assumption) (by assumption) (by assumption) ?_ | refine st3 (by assumption) (by assumption) (by assumption) ?_ | refine st4 (by assumption) (by assumption) (by assumption) ?_ | refine st5 (by assumption) (by assumption) (by assumption) ?_ | refine st6 (by assumption) (by assumption) (by assumption) ?_ | refine st7 (by assumption) (by assumption) (by assumption) ?_ | refine st8 (by assumption) (by assumption) (by assumption) ?_ | refine st9 (by assumption) (by assumption) (by assumption) ?_ | refine st10 (by assumption) (by assumption) (by assumption) ?_ | refine st11 (by assumption) (by assumption) (by assumption) ?_ | refine st12 (by assumption) (by assumption) (by assumption) ?_ | refine st13 (by assumption) (by assumption) (by assumption) ?_ | refine st14 (by assumption) (by assumption) (by assumption) ?_ | refine st15 (by assumption) (by assumption) (by assumption) ?_ | refine st16 (by assumption) (by assumption) (by assumption) ?_ | refine st17 (by assumption) (by assumption) (by assumption) ?_); intro h' tk' F' N'; (try k_sweep)))
local macro_rules | `(tactic| walk_at "eval Name") => `(tactic| with_reducible (first | refine ld0 (by assumption) (by assumption) ?_ | refine ld1 (by assumption) (by assumption) ?_ | refine ld2 (by assumption) (by assumption) ?_ | refine ld3 (by assumption) (by assumption) ?_ | refine ld4 (by assumption) (by assumption) ?_ | refine ld5 (by assumption) (by assumption) ?_ | refine ld6 (by assumption) (by assumption) ?_ | refine ld7 (by assumption) (by assumption) ?_ | refine ld8 (by assumption) (by assumption) ?_ | refine ld9 (by assumption) (by assumption) ?_ | refine ld10 (by assumption) (by assumption) ?_ | refine ld11 (by assumption) (by assumption) ?_ | refine ld12 (by assumption) (by assumption) ?_ | refine ld13 (by assumption) (by assumption) ?_ | refine ld14 (by assumption) (by assumption) ?_ | refine ld15 (by assumption) (by assumption) ?_ | refine ld16 (by assumption) (by assumption) ?_ | refine ld17 (by assumption) (by assumption) ?_))
local macro_rules | `(tactic| walk_at "loadName") => `(tactic| with_reducible (first | refine ln0 (by assumption) (by assumption) ?_ | refine ln1 (by assumption) (by assumption) ?_ | refine ln2 (by assumption) (by assumption) ?_ | refine ln3 (by assumption) (by assumption) ?_ | refine ln4 (by assumption) (by assumption) ?_ | refine ln5 (by assumption) (by assumption) ?_ | refine ln6 (by assumption) (by assumption) ?_ | refine ln7 (by assumption) (by assumption) ?_ | refine ln8 (by assumption) (by assumption) ?_ | refine ln9 (by assumption) (by assumption) ?_ | refine ln10 (by assumption) (by assumption) ?_ | refine ln11 (by assumption) (by assumption) ?_ | refine ln12 (by assumption) (by assumption) ?_ | refine ln13 (by assumption) (by assumption) ?_ | refine ln14 (by assumption) (by assumption) ?_ | refine ln15 (by assumption) (by assumption) ?_ | refine ln16 (by assumption) (by assumption) ?_ | refine ln17 (by assumption) (by assumption) ?_))
local macro_rules | `(tactic| walk_at "execs cons") => `(tactic| with_reducible refine wpAny_execs_cons ?_)
local macro_rules | `(tactic| walk_at "newTuple") => `(tactic| (k_dflt (refine' z_tuple ?F ?N ?z ?_; (case F => k_asm); (case N => k_asm); (case z => kmk_size)); intro T' h' F' N'; (try k_sweep)))
local macro_rules | `(tactic| walk_at "assign Tuple") => `(tactic| ((with_reducible show wpAny _ _ (assign (Expr.Tuple _ _ _) _ (Value.ref _)) _ _ _); k_dflt (refine' z_unpack ?F ?X ?N ?H ?h ?n ?st ?_; (case F => k_asm); (case X => k_asm); (case N => k_asm); (case H => walk_at "has"); (case h => exact rfl); (case n => exact rfl); (case st => exact rfl)); intro h' F' N'; (try k_sweep)))
local macro_rules | `(tactic| walk_at "dead") => `(tactic| first | omega | contradiction)
local macro_rules | `(tactic| walk_at "cond") => `(tactic| (intro hb; (try simp only [bne_iff_ne, beq_iff_eq, Bool.not_eq_true', Bool.not_eq_false', bne_eq_false_iff_eq, beq_eq_false_iff_ne, Bool.not_eq_true, Bool.not_eq_false, decide_eq_true_eq, decide_eq_false_iff_not, ne_eq, mpf_eq_iff, true_and, and_true, false_and, and_false, not_false_eq_true, not_true_eq_false, Decidable.not_not, Bool.not_not, Int.not_le, Int.not_lt] at hb); (try (exfalso; walk_at "dead"))))
local macro_rules | `(tactic| walk_at "ite") => `(tactic| first | with_reducible rw [if_pos True.intro] | with_reducible rw [if_neg not_false] | with_reducible rw [if_pos rfl] | (with_reducible (refine split_dec ?_ ?_ <;> walk_at "cond")) | (with_reducible (refine split_bool ?_ ?_ <;> walk_at "cond")))

local macro_rules | `(tactic| walk_at "compareOp Eq ref ref") => `(tactic| (k_dflt (refine' z_eqM ?F ?X ?N ?x ?y ?u ?_; (case F => k_asm); (case X => k_asm); (case N => k_asm); (case x => walk_at "has"); (case y => walk_at "has"); (case u => first | omega | ktr_units))))
local macro_rules | `(tactic| walk_at "compareOp NotEq ref ref") => `(tactic| (k_dflt (refine' z_neM ?F ?X ?N ?x ?y ?u ?_; (case F => k_asm); (case X => k_asm); (case N => k_asm); (case x => walk_at "has"); (case y => walk_at "has"); (case u => first | omega | ktr_units))))

local macro_rules | `(tactic| walk_at "pyl") => `(tactic| first | assumption | decide +kernel)
local macro_rules | `(tactic| walk_at "call builtin:divmod") => `(tactic| (k_dflt (refine' z_divmod ?F ?N ?b ?p ?_; (case F => k_asm); (case N => k_asm); (case b => walk_at "side"); (case p => walk_at "pyl")); intro T' h' F' N'; (try k_sweep)))
local macro_rules | `(tactic| walk_at "binaryOp FloorDiv int int") => `(tactic| refine z_fdiv (by walk_at "side") (by walk_at "pyl") ?_)

local macro_rules | `(tactic| walk_at "subscriptTail Name Constant ref int") => `(tactic| (k_dflt (refine' z_item ?F ?X ?N ?x _ ?lo ?hi ?j ?v ?_ ?s; (case F => k_asm); (case X => k_asm); (case N => k_asm); (case x => walk_at "has"); (case lo => decide); (case hi => decide); (case j => exact rfl); (case v => exact rfl); (case s => with_unfolding_all rfl))))
local macro_rules | `(tactic| walk_at "call ref") => `(tactic| ((with_reducible show wpAny _ _ (call (Value.ref 92) [_]) _ _ _); k_dflt (refine' z_use (c_from_int1 _ _ _ ?hbs) ?B ?F ?X ?N ?T ?kK ?kd ?ku ?kp ?_); walk_at "use"; (case kp => trivial); (case hbs => walk_at "side"); walk_at "back"))
local macro_rules | `(tactic| walk_at "call ref") => `(tactic| ((with_reducible show wpAny _ _ (call (Value.ref 76) _) _ _ _); k_dflt (refine' z_use (c_normalize _ _ _ _ _ _ _ _ _ _ _ _ _ ?hs ?h0 ?hb ?hp ?hbs) ?B ?F ?X ?N ?T ?kK ?kd ?ku ?kp ?_); walk_at "use"; (case kp => trivial); (case hs => walk_at "side"); (case h0 => walk_at "side"); (case hb => walk_at "side"); (case hp => walk_at "side"); (case hbs => walk_at "side"); walk_at "back"))
local macro_rules | `(tactic| walk_at "call ref") => `(tactic| ((with_reducible show wpAny _ _ (call (Value.ref 183) _) _ _ _); k_dflt (refine' z_use (c_mpf_mul0 _ _ _ _ _ _ _ _ _ _ _ _ _ _ _ _ _ _ _ _ _ _ ?hx1 ?hx2 ?hy ?hyb) ?B ?F ?X ?N ?T ?kK ?kd ?ku ?kp ?_); walk_at "use"; (case kp => exact ⟨by walk_at "has", by walk_at "has"⟩); (case hx1 => walk_at "side"); (case hx2 => walk_at "side"); (case hy => walk_at "side"); (case hyb => walk_at "side"); walk_at "back"))
theorem h_hyb {n : Int} (h : Builtin.Int.intBits n ≤ 1000) : Builtin.Int.intBits (fme n 0 0 .d).m ≤ 100000 := Nat.le_trans (fme_f5 h) (by omega)
theorem fme_f6 (n : Int) : (fme n 0 0 .d).m = 0 → (fme n 0 0 .d).e = 0 := fun h => (fme_f3 n h).2.1
theorem nrm_mul0 {m n e : Int} {p : Nat} {r : Rnd} (h : m = 0) : nrm 0 (m * n).toNat e p r = ⟨0, 0, 0, 0⟩ := by
  subst h; rw [Int.zero_mul]; exact nrm_zero
local macro_rules | `(tactic| walk_at "side") => `(tactic| first | omega | assumption | decide | exact mul_len_int (by assumption) (by assumption) (by assumption) | exact fme_f6 _ | exact h_hyb (by assumption) | exact Nat.le_trans (fme_f5 (by assumption)) (by omega) | (simp only [*]; omega))
local macro_rules | `(tactic| walk_at "mulok") => `(tactic| first | assumption)
local macro_rules | `(tactic| walk_at "post") => `(tactic| first | exact mpf_of (nrm_mul0 (by assumption)) ⟨_, _, _, _, _, rfl, by walk_at "has"⟩ | exact ⟨_, _, _, _, _, rfl, by walk_at "has"⟩)
theorem c_mpf_mul_int (w : World) (T : Addr) (xs xm xe xb n : Int) (a1 a2 a3 a4 t2 t3 : Tok) (hxs : xs = 0) (hx0 : 0 ≤ xm) (hxe : xm = 0 → xe = 0) (hxb : xb = blen xm.toNat) (hn : 0 < n) (hbx : Builtin.Int.intBits xm ≤ 500) (hbn : Builtin.Int.intBits n ≤ 1000) : Ctr w 191 9 [.ref T, .int n t2, .int 1000 t3] (fun _ led => Has w led T (tupO [.int xs a1, .int xm a2, .int xe a3, .int xb a4])) (fun led v => IsMpf w led v (nrm 0 (xm * n).toNat xe (Int.toNat 1000) .d)) := by
  have hmk : IntMulOk xm n := mulOk hbx hbn
  have hnn : 0 ≤ xm * n := Int.mul_nonneg hx0 (Int.le_of_lt hn)
  have hnb : 1 ≤ (Builtin.Int.intBits n : Int) := by
    rw [bits_of (Int.le_of_lt hn), blen_pos (by omega)]; omega
  have hxl : 0 ≤ xb := by omega
  have hlen := intBits_mul xm n
  have hlen2 := bits_of hnn
  have hml : 0 < xm → xb + ((Builtin.Int.intBits n : Int) - 1) + (xm * n).fdiv (2 ^ (xb + ((Builtin.Int.intBits n : Int) - 1)).toNat) = blen (xm * n).toNat := fun h => mul_len_int h hn hxb
  subst hxs
  unfold Ctr
  k_fill
  refine' z_enter (r := 8) [("s", .ref T), ("n", .int n t2), ("prec", .int 1000 t3), ("rnd", .str (Rnd.str .d) 253)] ["sign", "man", "exp", "bc"] ["s", "n", "prec", "rnd", "sign", "man", "exp", "bc"] [some (.ref T), some (.int n t2), some (.int 1000 t3), some (.str (Rnd.str .d) 253), none, none, none, none] ?eo ?ec ?eb ?en ?em ?eK ?ecl ?e1 ?e2 ?_
  walk_at "enter"
  intro dp un gd outer A₀ base g L led h G D tk O p loose mean mg mb B X HT hd hu hpre LK F N
  k_fold
  walk_at "steps"
end Mine
/-! part W10 -/
namespace Mine
theorem flushW10 : (0 : Nat) = 0 := by
  w_top off
  first | walk1 | rfl
local macro_rules | `(tactic| walk_at "has") => `(tactic| first | (with_reducible assumption) | exact Has.here | (refine Has.cons ?_; walk_at "has") | (refine Has.sub (by with_reducible assumption) ?_; walk_at "has") | exact has_zero | exact has_nan | exact has_inf | exact has_ninf)
local macro_rules | `(tactic| walk_at "subs") => `(tactic| first | (with_reducible assumption) | exact sub_refl | (refine sub_cons ?_; walk_at "subs") | (refine sub_trans (by with_reducible assumption) ?_; walk_at "subs"))
local macro_rules | `(tactic| kun_tup) => `(tactic| exact Has.tup (by k_asm) (by k_asm) (by k_asm) (by walk_at "has"))
local macro_rules | `(tactic| walk_at "Fin") => `(tactic| ((refine ⟨_, _, by with_reducible assumption, by with_reducible assumption, by walk_at "subs", ?_, rfl⟩); walk_at "post"))
local macro_rules | `(tactic| walk_at "steps") => `(tactic| repeat' (first | (k_unfold) | walk1 | fail "no step"))
local macro_rules | `(tactic| walk_at "isR") => `(tactic| with_reducible first | assumption | exact isR _ | exact isR_n | exact isR_f | exact isR_c | exact isR_d | exact isR_u)
local macro_rules | `(tactic| walk_at "use") => `(tactic| ((case B => k_asm); (case F => k_asm); (case X => k_asm); (case N => k_asm); (case T => k_asm); (case kK => first | exact rfl | assumption); (case kd => first | omega | ktr_room); (case ku => first | omega | ktr_units)))
local macro_rules | `(tactic| walk_at "back") => `(tactic| (intro v9 h9 tk9 led9 F9 N9 s9 p9; k_dflt (first | (obtain ⟨D9, ta9, tb9, tc9, td9, e9, hM9⟩ := p9; subst e9) | (obtain ⟨y9, ⟨D9, ta9, tb9, tc9, td9, e9, hM9⟩, hy9⟩ := p9; subst e9) | (obtain ⟨c9, t9, e9, hc9⟩ := p9; subst e9) | (obtain ⟨t9, e9⟩ := p9; subst e9) | skip); (try k_sweep); (try k_fold)))
local macro_rules | `(tactic| walk_at "enter") => `(tactic| ((case eo => k_is); (case ec => k_is); (case eb => exact fun _ => by rfl); (case en => exact rfl); (case em => exact rfl); (case eK => exact ⟨by decide +kernel, rfl, by decide +kernel⟩); (case ecl => decide +kernel); (case e1 => exact rfl); (case e2 => exact rfl)))
local macro_rules | `(tactic| walk_at "side") => `(tactic| first | omega | decide | assumption)
local macro_rules | `(tactic| walk_at "binaryOp Add int int") => `(tactic| refine z_add ?_)
local macro_rules | `(tactic| walk_at "binaryOp Sub int int") => `(tactic| refine z_sub ?_)
local macro_rules | `(tactic| walk_at "binaryOp Mult int int") => `(tactic| refine z_mul (by walk_at "mulok") ?_)
local macro_rules | `(tactic| walk_at "binaryOp Mod int int") => `(tactic| refine z_mod (by walk_at "side") ?_)
local macro_rules | `(tactic| walk_at "binaryOp Pow int int") => `(tactic| refine z_pow (by walk_at "side") (by walk_at "size") ?_)
local macro_rules | `(tactic| walk_at "binaryOp LShift int int") => `(tactic| refine z_shl (by walk_at "side") (by walk_at "size") ?_)
local macro_rules | `(tactic| walk_at "binaryOp RShift int int") => `(tactic| refine z_shr (by walk_at "side") ?_)
local macro_rules | `(tactic| walk_at "binaryOp BitAnd int int") => `(tactic| refine z_and ?_)
local macro_rules | `(tactic| walk_at "binaryOp BitXor int int") => `(tactic| refine z_xor ?_)
local macro_rules | `(tactic| walk_at "unaryOp USub int") => `(tactic| refine z_neg ?_)
local macro_rules | `(tactic| walk_at "inplaceOp Add int int") => `(tactic| refine z_iadd ?_)
local macro_rules | `(tactic| walk_at "inplaceOp Sub int int") => `(tactic| refine z_isub ?_)
local macro_rules | `(tactic| walk_at "inplaceOp Mult int int") => `(tactic| refine z_imul (by walk_at "mulok") ?_)
local macro_rules | `(tactic| walk_at "inplaceOp RShift int int") => `(tactic| refine z_ishr (by walk_at "side") ?_)
local macro_rules | `(tactic| walk_at "inplaceOp LShift int int") => `(tactic| refine z_ishl (by walk_at "side") (by walk_at "size") ?_)
local macro_rules | `(tactic| walk_at "inplaceOp BitXor int int") => `(tactic| refine z_ixor ?_)
local macro_rules | `(tactic| walk_at "eval Constant int") => `(tactic| refine z_const ?_)
local macro_rules | `(tactic| walk_at "eval Constant str") => `(tactic| refine z_text ?_)
local macro_rules | `(tactic| walk_at "storeName") => `(tactic| (with_reducible (first | refine st0 (by assumption) (by assumption) (by assumption) ?_ | refine st1 (by assumption) (by assumption) (by assumption) ?_ | refine st2 (by assumption) (by assumption) (by assumption) ?_ | refine st3 (by assumption) (by assumption) (by assumption) ?_ | refine st4 (by assumption) (by assumption) (by assumption) ?_ | refine st5 (by assumption) (by assumption) (by assumption) ?_ | refine st6 (by assumption) (by assumption) (by assumption) ?_ | refine st7 (by assumption) (by assumption) (by assumption) ?_ | refine st8 (by assumption) (by assumption) (by assumption) ?_ | refine st9 (by assumption) (by assumption) (by assumption) ?_ | refine st10 (by assumption) (by assumption) (by assumption) ?_ | refine st11 (by assumption) (by assumption) (by assumption) ?_ | refine st12 (by assumption) (by assumption) (by assumption) ?_ | refine st13 (by assumption) (by assumption) (by assumption) ?_ | refine st14 (by assumption) (by assumption) (by assumption) ?_ | refine st15 (by assumption) (by assumption) (by assumption) ?_ | refine st16 (by assumption) (by assumption) (by assumption) ?_ | refine st17 (by assumption) (by assumption) (by assumption) ?_); intro h' tk' F' N'; (try k_sweep)))
local macro_rules | `(tactic| walk_at "eval Name") => `(tactic| with_reducible (first | refine ld0 (by assumption) (by assumption) ?_ | refine ld1 (by assumption) (by assumption) ?_ | refine ld2 (by assumption) (by assumption) ?_ | refine ld3 (by assumption) (by assumption) ?_ | refine ld4 (by assumption) (by assumption) ?_ | refine ld5 (by assumption) (by assumption) ?_ | refine ld6 (by assumption) (by assumption) ?_ | refine ld7 (by assumption) (by assumption) ?_ | refine ld8 (by assumption) (by assumption) ?_ | refine ld9 (by assumption) (by assumption) ?_ | refine ld10 (by assumption) (by assumption) ?_ | refine ld11 (by assumption) (by assumption) ?_ | refine ld12 (by assumption) (by assumption) ?_ | refine ld13 (by assumption) (by assumption) ?_ | refine ld14 (by assumption) (by assumption) ?_ | refine ld15 (by assumption) (by assumption) ?_ | refine ld16 (by assumption) (by assumption) ?_ | refine ld17 (by assumption) (by assumption) ?_))
local macro_rules | `(tactic| walk_at "loadName") => `(tactic| with_reducible (first | refine ln0 (by assumption) (by assumption) ?_ | refine ln1 (by assumption) (by assumption) ?_ | refine ln2 (by assumption) (by assumption) ?_ | refine ln3 (by assumption) (by assumption) ?_ | refine ln4 (by assumption) (by assumption) ?_ | refine ln5 (by assumption) (by assumption) ?_ | refine ln6 (by assumption) (by assumption) ?_ | refine ln7 (by assumption) (by assumption) ?_ | refine ln8 (by assumption) (by assumption) ?_ | refine ln9 (by assumption) (by assumption) ?_ | refine ln10 (by assumption) (by assumption) ?_ | refine ln11 (by assumption) (by assumption) ?_ | refine ln12 (by assumption) (by assumption) ?_ | refine ln13 (by assumption) (by assumption) ?_ | refine ln14 (by assumption) (by assumption) ?_ | refine ln15 (by assumption) (by assumption) ?_ | refine ln16 (by assumption) (by assumption) ?_ | refine ln17 (by assumption) (by assumption) ?_))
local macro_rules | `(tactic| walk_at "execs cons") => `(tactic| with_reducible refine wpAny_execs_cons ?_)
local macro_rules | `(tactic| walk_at "newTuple") => `(tactic| (k_dflt (refine' z_tuple ?F ?N ?z ?_; (case F => k_asm); (case N => k_asm); (case z => kmk_size)); intro T' h' F' N'; (try k_sweep)))
local macro_rules | `(tactic| walk_at "assign Tuple") => `(tactic| ((with_reducible show wpAny _ _ (assign (Expr.Tuple _ _ _) _ (Value.ref _)) _ _ _); k_dflt (refine' z_unpack ?F ?X ?N ?H ?h ?n ?st ?_; (case F => k_asm); (case X => k_asm); (case N => k_asm); (case H => walk_at "has"); (case h => exact rfl); (case n => exact rfl); (case st => exact rfl)); intro h' F' N'; (try k_sweep)))
local macro_rules | `(tactic| walk_at "dead") => `(tactic| first | omega | contradiction)
local macro_rules | `(tactic| walk_at "cond") => `(tactic| (intro hb; (try simp only [bne_iff_ne, beq_iff_eq, Bool.not_eq_true', Bool.not_eq_false', bne_eq_false_iff_eq, beq_eq_false_iff_ne, Bool.not_eq_true, Bool.not_eq_false, decide_eq_true_eq, decide_eq_false_iff_not, ne_eq, mpf_eq_iff, true_and, and_true, false_and, and_false, not_false_eq_true, not_true_eq_false, Decidable.not_not, Bool.not_not, Int.not_le, Int.not_lt] at hb); (try (exfalso; walk_at "dead"))))
local macro_rules | `(tactic| walk_at "ite") => `(tactic| first | with_reducible rw [if_pos True.intro] | with_reducible rw [if_neg not_false] | with_reducible rw [if_pos rfl] | (with_reducible (refine split_dec ?_ ?_ <;> walk_at "cond")) | (with_reducible (refine split_bool ?_ ?_ <;> walk_at "cond")))

local macro_rules | `(tactic| walk_at "compareOp Eq ref ref") => `(tactic| (k_dflt (refine' z_eqM ?F ?X ?N ?x ?y ?u ?_; (case F => k_asm); (case X => k_asm); (case N => k_asm); (case x => walk_at "has"); (case y => walk_at "has"); (case u => first | omega | ktr_units))))
local macro_rules | `(tactic| walk_at "compareOp NotEq ref ref") => `(tactic| (k_dflt (refine' z_neM ?F ?X ?N ?x ?y ?u ?_; (case F => k_asm); (case X => k_asm); (case N => k_asm); (case x => walk_at "has"); (case y => walk_at "has"); (case u => first | omega | ktr_units))))

local macro_rules | `(tactic| walk_at "pyl") => `(tactic| first | assumption | decide +kernel)
local macro_rules | `(tactic| walk_at "call builtin:divmod") => `(tactic| (k_dflt (refine' z_divmod ?F ?N ?b ?p ?_; (case F => k_asm); (case N => k_asm); (case b => walk_at "side"); (case p => walk_at "pyl")); intro T' h' F' N'; (try k_sweep)))
local macro_rules | `(tactic| walk_at "binaryOp FloorDiv int int") => `(tactic| refine z_fdiv (by walk_at "side") (by walk_at "pyl") ?_)

local macro_rules | `(tactic| walk_at "subscriptTail Name Constant ref int") => `(tactic| (k_dflt (refine' z_item ?F ?X ?N ?x _ ?lo ?hi ?j ?v ?_ ?s; (case F => k_asm); (case X => k_asm); (case N => k_asm); (case x => walk_at "has"); (case lo => decide); (case hi => decide); (case j => exact rfl); (case v => exact rfl); (case s => with_unfolding_all rfl))))
theorem bits_cast {x : Int} {n : Nat} (h : Builtin.Int.intBits x ≤ n) (hn : n ≤ 1000000) : ((Builtin.Int.intBits x : Nat) : Int) ≤ 1000000 := by omega
local macro_rules | `(tactic| walk_at "size") => `(tactic| first | assumption | exact size_add (by assumption) (by omega) | omega | decide)
local macro_rules | `(tactic| walk_at "side") => `(tactic| first | omega | assumption | decide | exact bits_of (by omega))
local macro_rules | `(tactic| walk_at "post") => `(tactic| first | exact ⟨_, by rw [if_pos (by assumption)]⟩ | exact ⟨_, by rw [if_neg (by assumption)]; rfl⟩)
theorem c_mpf_sign (w : World) (T : Addr) (xm xe xb : Int) (a1 a2 a3 a4 : Tok) (hz : xm = 0 → xe = 0) : Ctr w 159 11 [.ref T] (fun _ led => Has w led T (tupO [.int 0 a1, .int xm a2, .int xe a3, .int xb a4])) (fun _ v => ∃ t, v = .int (if xm = 0 then 0 else 1) t) := by
  unfold Ctr
  k_fill
  refine' z_enter (r := 10) [("s", .ref T)] ["sign", "man", "exp", "bc"] ["s", "sign", "man", "exp", "bc"] [some (.ref T), none, none, none, none] ?eo ?ec ?eb ?en ?em ?eK ?ecl ?e1 ?e2 ?_
  walk_at "enter"
  intro dp un gd outer A₀ base g L led h G D tk O p loose mean mg mb B X HT hd hu hpre LK F N
  k_fold
  walk_at "steps"
local macro_rules | `(tactic| walk_at "call ref") => `(tactic| ((with_reducible show wpAny _ _ (call (Value.ref 76) _) _ _ _); k_dflt (refine' z_use (c_normalize _ _ _ _ _ _ _ _ _ _ _ _ _ ?hs ?h0 ?hb ?hp ?hbs) ?B ?F ?X ?N ?T ?kK ?kd ?ku ?kp ?_); walk_at "use"; (case kp => trivial); (case hs => walk_at "side"); (case h0 => walk_at "side"); (case hb => walk_at "side"); (case hp => walk_at "side"); (case hbs => walk_at "side"); walk_at "back"))
local macro_rules | `(tactic| walk_at "side") => `(tactic| first | omega | assumption | decide | exact bits_of (by omega) | exact bits_cast (bits_sub (bits_shl (by assumption) (by omega)) (bits_le_of (by assumption) (by omega))) (by omega) | exact bits_cast (bits_sub (bits_le_of (by assumption) (by omega)) (bits_shl (by assumption) (by omega))) (by omega) | (rw [bits_neg]; exact bits_cast (bits_sub (bits_shl (by assumption) (by omega)) (bits_le_of (by assumption) (by omega))) (by omega)) | (rw [bits_neg]; exact bits_cast (bits_sub (bits_le_of (by assumption) (by omega)) (bits_shl (by assumption) (by omega))) (by omega)))
local macro_rules | `(tactic| walk_at "post") => `(tactic| first | exact isDif_pos (p := 5) (r := .f) (dif_gt (by assumption)) (by assumption) (by decide) (by walk_at "has") | exact isDif_neg (p := 5) (r := .f) (dif_gt (by assumption)) (by assumption) (by decide) (by walk_at "has") | exact isDif_pos (p := 5) (r := .f) (dif_lt (by assumption)) (by assumption) (by decide) (by walk_at "has") | exact isDif_neg (p := 5) (r := .f) (dif_lt (by assumption)) (by assumption) (by decide) (by walk_at "has"))
theorem c_mpf_add (w : World) (T U : Addr) (xm xe xb ym ye yb : Int) (a1 a2 a3 a4 b1 b2 b3 b4 t3 t4 t5 : Tok) (h1 : 0 < xm) (h2 : 0 < ym) (hne : ¬ xe = ye) (hab : xb + xe = yb + ye) (hd1 : xe - ye ≤ 5000) (hd2 : ye - xe ≤ 5000) (hb1 : Builtin.Int.intBits xm ≤ 1000) (hb2 : Builtin.Int.intBits ym ≤ 1000) : Ctr w 167 6 [.ref T, .ref U, .int 5 t3, .str (Rnd.str .f) t4, .int 1 t5] (fun _ led => Has w led T (tupO [.int 0 a1, .int xm a2, .int xe a3, .int xb a4]) ∧ Has w led U (tupO [.int 0 b1, .int ym b2, .int ye b3, .int yb b4])) (fun led v => IsDif w led v (dif xm xe ym ye)) := by
  have hx1 : Builtin.bitXor 0 1 = 1 := by decide
  unfold Ctr
  k_fill
  refine' z_enter (r := 5) [("s", .ref T), ("t", .ref U), ("prec", .int 5 t3), ("rnd", .str (Rnd.str .f) t4), ("_sub", .int 1 t5)] ["ssign", "sman", "sexp", "sbc", "tsign", "tman", "texp", "tbc", "offset", "delta", "man", "bc"] ["s", "t", "prec", "rnd", "_sub", "ssign", "sman", "sexp", "sbc", "tsign", "tman", "texp", "tbc", "offset", "delta", "man", "bc"] [some (.ref T), some (.ref U), some (.int 5 t3), some (.str (Rnd.str .f) t4), some (.int 1 t5), none, none, none, none, none, none, none, none, none, none, none, none] ?eo ?ec ?eb ?en ?em ?eK ?ecl ?e1 ?e2 ?_
  walk_at "enter"
  intro dp un gd outer A₀ base g L led h G D tk O p loose mean mg mb B X HT hd hu hpre LK F N
  obtain ⟨hT, hU⟩ := hpre
  k_fold
  walk_at "steps"
local macro_rules | `(tactic| walk_at "call ref") => `(tactic| ((with_reducible show wpAny _ _ (call (Value.ref 167) _) _ _ _); k_dflt (refine' z_use (c_mpf_add _ _ _ _ _ _ _ _ _ _ _ _ _ _ _ _ _ _ _ _ ?h1 ?h2 ?hne ?hab ?hd1 ?hd2 ?hb1 ?hb2) ?B ?F ?X ?N ?T ?kK ?kd ?ku ?kp ?_); walk_at "use"; (case kp => exact ⟨by walk_at "has", by walk_at "has"⟩); (case h1 => walk_at "side"); (case h2 => walk_at "side"); (case hne => walk_at "side"); (case hab => walk_at "side"); (case hd1 => walk_at "side"); (case hd2 => walk_at "side"); (case hb1 => walk_at "side"); (case hb2 => walk_at "side"); walk_at "back"))
local macro_rules | `(tactic| walk_at "post") => `(tactic| exact ⟨_, ⟨_, _, _, _, _, rfl, by walk_at "has"⟩, by assumption⟩)
theorem c_mpf_sub (w : World) (T U : Addr) (xm xe xb ym ye yb : Int) (a1 a2 a3 a4 b1 b2 b3 b4 t3 t4 : Tok) (h1 : 0 < xm) (h2 : 0 < ym) (hne : ¬ xe = ye) (hab : xb + xe = yb + ye) (hd1 : xe - ye ≤ 5000) (hd2 : ye - xe ≤ 5000) (hb1 : Builtin.Int.intBits xm ≤ 1000) (hb2 : Builtin.Int.intBits ym ≤ 1000) : Ctr w 175 7 [.ref T, .ref U, .int 5 t3, .str (Rnd.str .f) t4] (fun _ led => Has w led T (tupO [.int 0 a1, .int xm a2, .int xe a3, .int xb a4]) ∧ Has w led U (tupO [.int 0 b1, .int ym b2, .int ye b3, .int yb b4])) (fun led v => IsDif w led v (dif xm xe ym ye)) := by
  unfold Ctr
  k_fill
  refine' z_enter (r := 6) [("s", .ref T), ("t", .ref U), ("prec", .int 5 t3), ("rnd", .str (Rnd.str .f) t4)] [] ["s", "t", "prec", "rnd"] [some (.ref T), some (.ref U), some (.int 5 t3), some (.str (Rnd.str .f) t4)] ?eo ?ec ?eb ?en ?em ?eK ?ecl ?e1 ?e2 ?_
  walk_at "enter"
  intro dp un gd outer A₀ base g L led h G D tk O p loose mean mg mb B X HT hd hu hpre LK F N
  obtain ⟨hT, hU⟩ := hpre
  k_fold
  walk_at "steps"
end Mine
/-! part W11 -/
namespace Mine
theorem flushW11 : (0 : Nat) = 0 := by
  w_top off
  first | walk1 | rfl
local macro_rules | `(tactic| walk_at "has") => `(tactic| first | (with_reducible assumption) | exact Has.here | (refine Has.cons ?_; walk_at "has") | (refine Has.sub (by with_reducible assumption) ?_; walk_at "has") | exact has_zero | exact has_nan | exact has_inf | exact has_ninf)
local macro_rules | `(tactic| walk_at "subs") => `(tactic| first | (with_reducible assumption) | exact sub_refl | (refine sub_cons ?_; walk_at "subs") | (refine sub_trans (by with_reducible assumption) ?_; walk_at "subs"))
local macro_rules | `(tactic| kun_tup) => `(tactic| exact Has.tup (by k_asm) (by k_asm) (by k_asm) (by walk_at "has"))
local macro_rules | `(tactic| walk_at "Fin") => `(tactic| ((refine ⟨_, _, by with_reducible assumption, by with_reducible assumption, by walk_at "subs", ?_, rfl⟩); walk_at "post"))
local macro_rules | `(tactic| walk_at "steps") => `(tactic| repeat' (first | (k_unfold) | walk1 | fail "no step"))
local macro_rules | `(tactic| walk_at "isR") => `(tactic| with_reducible first | assumption | exact isR _ | exact isR_n | exact isR_f | exact isR_c | exact isR_d | exact isR_u)
local macro_rules | `(tactic| walk_at "use") => `(tactic| ((case B => k_asm); (case F => k_asm); (case X => k_asm); (case N => k_asm); (case T => k_asm); (case kK => first | exact rfl | assumption); (case kd => first | omega | ktr_room); (case ku => first | omega | ktr_units)))
local macro_rules | `(tactic| walk_at "back") => `(tactic| (intro v9 h9 tk9 led9 F9 N9 s9 p9; k_dflt (first | (obtain ⟨D9, ta9, tb9, tc9, td9, e9, hM9⟩ := p9; subst e9) | (obtain ⟨y9, ⟨D9, ta9, tb9, tc9, td9, e9, hM9⟩, hy9⟩ := p9; subst e9) | (obtain ⟨c9, t9, e9, hc9⟩ := p9; subst e9) | (obtain ⟨t9, e9⟩ := p9; subst e9) | skip); (try k_sweep); (try k_fold)))
local macro_rules | `(tactic| walk_at "enter") => `(tactic| ((case eo => k_is); (case ec => k_is); (case eb => exact fun _ => by rfl); (case en => exact rfl); (case em => exact rfl); (case eK => exact ⟨by decide +kernel, rfl, by decide +kernel⟩); (case ecl => decide +kernel); (case e1 => exact rfl); (case e2 => exact rfl)))
local macro_rules | `(tactic| walk_at "side") => `(tactic| first | omega | decide | assumption)
local macro_rules | `(tactic| walk_at "binaryOp Add int int") => `(tactic| refine z_add ?_)
local macro_rules | `(tactic| walk_at "binaryOp Sub int int") => `(tactic| refine z_sub ?_)
local macro_rules | `(tactic| walk_at "binaryOp Mult int int") => `(tactic| refine z_mul (by walk_at "mulok") ?_)
local macro_rules | `(tactic| walk_at "binaryOp Mod int int") => `(tactic| refine z_mod (by walk_at "side") ?_)
local macro_rules | `(tactic| walk_at "binaryOp Pow int int") => `(tactic| refine z_pow (by walk_at "side") (by walk_at "size") ?_)
local macro_rules | `(tactic| walk_at "binaryOp LShift int int") => `(tactic| refine z_shl (by walk_at "side") (by walk_at "size") ?_)
local macro_rules | `(tactic| walk_at "binaryOp RShift int int") => `(tactic| refine z_shr (by walk_at "side") ?_)
local macro_rules | `(tactic| walk_at "binaryOp BitAnd int int") => `(tactic| refine z_and ?_)
local macro_rules | `(tactic| walk_at "binaryOp BitXor int int") => `(tactic| refine z_xor ?_)
local macro_rules | `(tactic| walk_at "unaryOp USub int") => `(tactic| refine z_neg ?_)
local macro_rules | `(tactic| walk_at "inplaceOp Add int int") => `(tactic| refine z_iadd ?_)
local macro_rules | `(tactic| walk_at "inplaceOp Sub int int") => `(tactic| refine z_isub ?_)
local macro_rules | `(tactic| walk_at "inplaceOp Mult int int") => `(tactic| refine z_imul (by walk_at "mulok") ?_)
local macro_rules | `(tactic| walk_at "inplaceOp RShift int int") => `(tactic| refine z_ishr (by walk_at "side") ?_)
local macro_rules | `(tactic| walk_at "inplaceOp LShift int int") => `(tactic| refine z_ishl (by walk_at "side") (by walk_at "size") ?_)
local macro_rules | `(tactic| walk_at "inplaceOp BitXor int int") => `(tactic| refine z_ixor ?_)
local macro_rules | `(tactic| walk_at "eval Constant int") => `(tactic| refine z_const ?_)
local macro_rules | `(tactic| walk_at "eval Constant str") => `(tactic| refine z_text ?_)
local macro_rules | `(tactic| walk_at "storeName") => `(tactic| (with_reducible (first | refine st0 (by assumption) (by assumption) (by assumption) ?_ | refine st1 (by assumption) (by assumption) (by assumption) ?_ | refine st2 (by assumption) (by assumption) (by assumption) ?_ | refine st3 (by assumption) (by assumption) (by assumption) ?_ | refine st4 (by assumption) (by assumption) (by assumption) ?_ | refine st5 (by assumption) (by assumption) (by assumption) ?_ | refine st6 (by assumption) (by assumption) (by assumption) ?_ | refine st7 (by assumption) (by assumption) (by assumption) ?_ | refine st8 (by assumption) (by assumption) (by assumption) ?_ | refine st9 (by assumption) (by assumption) (by assumption) ?_ | refine st10 (by assumption) (by assumption) (by assumption) ?_ | refine st11 (by assumption) (by assumption) (by assumption) ?_ | refine st12 (by assumption) (by assumption) (by assumption) ?_ | refine st13 (by assumption) (by assumption) (by assumption) ?_ | refine st14 (by assumption) (by assumption) (by assumption) ?_ | refine st15 (by assumption) (by assumption) (by assumption) ?_ | refine st16 (by assumption) (by assumption) (by assumption) ?_ | refine st17 (by assumption) (by assumption) (by assumption) ?_); intro h' tk' F' N'; (try k_sweep)))
local macro_rules | `(tactic| walk_at "eval Name") => `(tactic| with_reducible (first | refine ld0 (by assumption) (by assumption) ?_ | refine ld1 (by assumption) (by assumption) ?_ | refine ld2 (by assumption) (by assumption) ?_ | refine ld3 (by assumption) (by assumption) ?_ | refine ld4 (by assumption) (by assumption) ?_ | refine ld5 (by assumption) (by assumption) ?_ | refine ld6 (by assumption) (by assumption) ?_ | refine ld7 (by assumption) (by assumption) ?_ | refine ld8 (by assumption) (by assumption) ?_ | refine ld9 (by assumption) (by assumption) ?_ | refine ld10 (by assumption) (by assumption) ?_ | refine ld11 (by assumption) (by assumption) ?_ | refine ld12 (by assumption) (by assumption) ?_ | refine ld13 (by assumption) (by assumption) ?_ | refine ld14 (by assumption) (by assumption) ?_ | refine ld15 (by assumption) (by assumption) ?_ | refine ld16 (by assumption) (by assumption) ?_ | refine ld17 (by assumption) (by assumption) ?_))
local macro_rules | `(tactic| walk_at "loadName") => `(tactic| with_reducible (first | refine ln0 (by assumption) (by assumption) ?_ | refine ln1 (by assumption) (by assumption) ?_ | refine ln2 (by assumption) (by assumption) ?_ | refine ln3 (by assumption) (by assumption) ?_ | refine ln4 (by assumption) (by assumption) ?_ | refine ln5 (by assumption) (by assumption) ?_ | refine ln6 (by assumption) (by assumption) ?_ | refine ln7 (by assumption) (by assumption) ?_ | refine ln8 (by assumption) (by assumption) ?_ | refine ln9 (by assumption) (by assumption) ?_ | refine ln10 (by assumption) (by assumption) ?_ | refine ln11 (by assumption) (by assumption) ?_ | refine ln12 (by assumption) (by assumption) ?_ | refine ln13 (by assumption) (by assumption) ?_ | refine ln14 (by assumption) (by assumption) ?_ | refine ln15 (by assumption) (by assumption) ?_ | refine ln16 (by assumption) (by assumption) ?_ | refine ln17 (by assumption) (by assumption) ?_))
local macro_rules | `(tactic| walk_at "execs cons") => `(tactic| with_reducible refine wpAny_execs_cons ?_)
local macro_rules | `(tactic| walk_at "newTuple") => `(tactic| (k_dflt (refine' z_tuple ?F ?N ?z ?_; (case F => k_asm); (case N => k_asm); (case z => kmk_size)); intro T' h' F' N'; (try k_sweep)))
local macro_rules | `(tactic| walk_at "assign Tuple") => `(tactic| ((with_reducible show wpAny _ _ (assign (Expr.Tuple _ _ _) _ (Value.ref _)) _ _ _); k_dflt (refine' z_unpack ?F ?X ?N ?H ?h ?n ?st ?_; (case F => k_asm); (case X => k_asm); (case N => k_asm); (case H => walk_at "has"); (case h => exact rfl); (case n => exact rfl); (case st => exact rfl)); intro h' F' N'; (try k_sweep)))
local macro_rules | `(tactic| walk_at "dead") => `(tactic| first | omega | contradiction)
local macro_rules | `(tactic| walk_at "cond") => `(tactic| (intro hb; (try simp only [bne_iff_ne, beq_iff_eq, Bool.not_eq_true', Bool.not_eq_false', bne_eq_false_iff_eq, beq_eq_false_iff_ne, Bool.not_eq_true, Bool.not_eq_false, decide_eq_true_eq, decide_eq_false_iff_not, ne_eq, mpf_eq_iff, true_and, and_true, false_and, and_false, not_false_eq_true, not_true_eq_false, Decidable.not_not, Bool.not_not, Int.not_le, Int.not_lt] at hb); (try (exfalso; walk_at "dead"))))
local macro_rules | `(tactic| walk_at "ite") => `(tactic| first | with_reducible rw [if_pos True.intro] | with_reducible rw [if_neg not_false] | with_reducible rw [if_pos rfl] | (with_reducible (refine split_dec ?_ ?_ <;> walk_at "cond")) | (with_reducible (refine split_bool ?_ ?_ <;> walk_at "cond")))

local macro_rules | `(tactic| walk_at "compareOp Eq ref ref") => `(tactic| (k_dflt (refine' z_eqM ?F ?X ?N ?x ?y ?u ?_; (case F => k_asm); (case X => k_asm); (case N => k_asm); (case x => walk_at "has"); (case y => walk_at "has"); (case u => first | omega | ktr_units))))
local macro_rules | `(tactic| walk_at "compareOp NotEq ref ref") => `(tactic| (k_dflt (refine' z_neM ?F ?X ?N ?x ?y ?u ?_; (case F => k_asm); (case X => k_asm); (case N => k_asm); (case x => walk_at "has"); (case y => walk_at "has"); (case u => first | omega | ktr_units))))

local macro_rules | `(tactic| walk_at "pyl") => `(tactic| first | assumption | decide +kernel)
local macro_rules | `(tactic| walk_at "call builtin:divmod") => `(tactic| (k_dflt (refine' z_divmod ?F ?N ?b ?p ?_; (case F => k_asm); (case N => k_asm); (case b => walk_at "side"); (case p => walk_at "pyl")); intro T' h' F' N'; (try k_sweep)))
local macro_rules | `(tactic| walk_at "binaryOp FloorDiv int int") => `(tactic| refine z_fdiv (by walk_at "side") (by walk_at "pyl") ?_)

local macro_rules | `(tactic| walk_at "subscriptTail Name Constant ref int") => `(tactic| (k_dflt (refine' z_item ?F ?X ?N ?x _ ?lo ?hi ?j ?v ?_ ?s; (case F => k_asm); (case X => k_asm); (case N => k_asm); (case x => walk_at "has"); (case lo => decide); (case hi => decide); (case j => exact rfl); (case v => exact rfl); (case s => with_unfolding_all rfl))))
theorem dif_ne' {m1 e1 m2 e2 : Int} (o1 : m1 % 2 = 1 ∨ m1 = 0) (o2 : m2 % 2 = 1 ∨ m2 = 0) (p1 : ¬ m1 = 0) (p2 : ¬ m2 = 0) (he : ¬ e1 = e2) : dif m1 e1 m2 e2 ≠ 0 := dif_ne (by omega) (by omega) he
theorem sgn_z {x : Int} (h : x = 0) : (if x = 0 then (0 : Int) else 1) = 0 := if_pos h
theorem sgn_p {x : Int} (h : ¬ x = 0) : (if x = 0 then (0 : Int) else 1) = 1 := if_neg h
theorem cm_z1 {m1 e1 m2 e2 : Int} (h1 : m1 = 0) (h2 : 0 ≤ m2) : Cm (-(if m2 = 0 then (0 : Int) else 1)) m1 e1 m2 e2 := by
  by_cases h : m2 = 0
  · rw [if_pos h]; exact cm_zz h1 h
  · rw [if_neg h]; exact cm_zp h1 (by omega)
theorem cm_z2 {m1 e1 m2 e2 : Int} (h1 : m2 = 0) (h2 : 0 ≤ m1) : Cm (if m1 = 0 then (0 : Int) else 1) m1 e1 m2 e2 := by
  by_cases h : m1 = 0
  · rw [if_pos h]; exact cm_zz h h1
  · rw [if_neg h]; exact cm_pz (by omega) h1
theorem pos_of {x : Int} (h : 0 ≤ x) (k : ¬ x = 0) : 0 < x := by omega
theorem s_neg {s d : Int} (h : (s = 0 ∧ 0 ≤ d) ∨ (s = 1 ∧ d < 0)) (k : ¬ s = 0) : d < 0 := by omega
theorem s_pos {s d : Int} (h : (s = 0 ∧ 0 ≤ d) ∨ (s = 1 ∧ d < 0)) (k : s = 0) : ¬ d < 0 := by omega
local macro_rules | `(tactic| walk_at "call ref") => `(tactic| ((with_reducible show wpAny _ _ (call (Value.ref 159) _) _ _ _); k_dflt (refine' z_use (c_mpf_sign _ _ _ _ _ _ _ _ _ ?hz) ?B ?F ?X ?N ?T ?kK ?kd ?ku ?kp ?_); walk_at "use"; (case kp => walk_at "has"); (case hz => walk_at "side"); walk_at "back"))
local macro_rules | `(tactic| walk_at "call ref") => `(tactic| ((with_reducible show wpAny _ _ (call (Value.ref 175) _) _ _ _); k_dflt (refine' z_use (c_mpf_sub _ _ _ _ _ _ _ _ _ _ _ _ _ _ _ _ _ _ _ ?h1 ?h2 ?hne ?hab ?hd1 ?hd2 ?hb1 ?hb2) ?B ?F ?X ?N ?T ?kK ?kd ?ku ?kp ?_); walk_at "use"; (case kp => exact ⟨by walk_at "has", by walk_at "has"⟩); (case h1 => walk_at "side"); (case h2 => walk_at "side"); (case hne => walk_at "side"); (case hab => walk_at "side"); (case hd1 => walk_at "side"); (case hd2 => walk_at "side"); (case hb1 => walk_at "side"); (case hb2 => walk_at "side"); walk_at "back"))
local macro_rules | `(tactic| walk_at "side") => `(tactic| first | omega | assumption)
local macro_rules | `(tactic| walk_at "post") => `(tactic| (refine ⟨_, _, rfl, ?_⟩; first | exact cm_z1 (by omega) (by omega) | exact cm_z2 (by omega) (by omega) | exact cm_eq (by omega) (by omega) | exact cm_elt (by omega) (by omega) | exact cm_egt (by omega) (by omega) | exact cm_lt (by omega) (by omega) (by assumption) (by assumption) (by omega) | exact cm_gt (by omega) (by omega) (by assumption) (by assumption) (by omega) | exact cm_neg (s_neg (by assumption) (by assumption)) | exact cm_pos (s_pos (by assumption) (by assumption)) (dif_ne' (by assumption) (by assumption) (by omega) (by omega) (by omega))))
theorem c_mpf_cmp (w : World) (T U : Addr) (xm xe xb ym ye yb : Int) (a1 a2 a3 a4 b1 b2 b3 b4 : Tok) (hx0 : 0 ≤ xm) (hxo : xm % 2 = 1 ∨ xm = 0) (hxz : xm = 0 → xe = 0 ∧ xb = 0) (hxb : xb = blen xm.toNat) (hy0 : 0 ≤ ym) (hyo : ym % 2 = 1 ∨ ym = 0) (hyz : ym = 0 → ye = 0 ∧ yb = 0) (hyb : yb = blen ym.toNat) (hd1 : xe - ye ≤ 5000) (hd2 : ye - xe ≤ 5000) (hb1 : Builtin.Int.intBits xm ≤ 1000) (hb2 : Builtin.Int.intBits ym ≤ 1000) : Ctr w 122 12 [.ref T, .ref U] (fun _ led => Has w led T (tupO [.int 0 a1, .int xm a2, .int xe a3, .int xb a4]) ∧ Has w led U (tupO [.int 0 b1, .int ym b2, .int ye b3, .int yb b4])) (fun _ v => ∃ c t, v = .int c t ∧ Cm c xm xe ym ye) := by
  unfold Ctr
  k_fill
  refine' z_enter (r := 11) [("s", .ref T), ("t", .ref U)] ["ssign", "sman", "sexp", "sbc", "tsign", "tman", "texp", "tbc", "a", "b", "delta"] ["s", "t", "ssign", "sman", "sexp", "sbc", "tsign", "tman", "texp", "tbc", "a", "b", "delta"] [some (.ref T), some (.ref U), none, none, none, none, none, none, none, none, none, none, none] ?eo ?ec ?eb ?en ?em ?eK ?ecl ?e1 ?e2 ?_
  walk_at "enter"
  intro dp un gd outer A₀ base g L led h G D tk O p loose mean mg mb B X HT hd hu hpre LK F N
  obtain ⟨hT, hU⟩ := hpre
  k_fold
  walk_at "steps"
local macro_rules | `(tactic| walk_at "call ref") => `(tactic| ((with_reducible show wpAny _ _ (call (Value.ref 122) _) _ _ _); k_dflt (refine' z_use (c_mpf_cmp _ _ _ _ _ _ _ _ _ _ _ _ _ _ _ _ _ ?hx0 ?hxo ?hxz ?hxb ?hy0 ?hyo ?hyz ?hyb ?hd1 ?hd2 ?hb1 ?hb2) ?B ?F ?X ?N ?T ?kK ?kd ?ku ?kp ?_); walk_at "use"; (case kp => exact ⟨by walk_at "has", by walk_at "has"⟩); (case hx0 => walk_at "side"); (case hxo => walk_at "side"); (case hxz => walk_at "side"); (case hxb => walk_at "side"); (case hy0 => walk_at "side"); (case hyo => walk_at "side"); (case hyz => walk_at "side"); (case hyb => walk_at "side"); (case hd1 => walk_at "side"); (case hd2 => walk_at "side"); (case hb1 => walk_at "side"); (case hb2 => walk_at "side"); walk_at "back"))
local macro_rules | `(tactic| walk_at "side") => `(tactic| first | assumption | omega)
local macro_rules | `(tactic| walk_at "post") => `(tactic| exact ⟨_, rfl, by simpa using Cm.lt (by assumption)⟩)
theorem c_mpf_lt (w : World) (T U : Addr) (xm xe xb ym ye yb : Int) (a1 a2 a3 a4 b1 b2 b3 b4 : Tok) (hx0 : 0 ≤ xm) (hxo : xm % 2 = 1 ∨ xm = 0) (hxz : xm = 0 → xe = 0 ∧ xb = 0) (hxb : xb = blen xm.toNat) (hy0 : 0 ≤ ym) (hyo : ym % 2 = 1 ∨ ym = 0) (hyz : ym = 0 → ye = 0 ∧ yb = 0) (hyb : yb = blen ym.toNat) (hd1 : xe - ye ≤ 5000) (hd2 : ye - xe ≤ 5000) (hb1 : Builtin.Int.intBits xm ≤ 1000) (hb2 : Builtin.Int.intBits ym ≤ 1000) : Ctr w 129 13 [.ref T, .ref U] (fun _ led => Has w led T (tupO [.int 0 a1, .int xm a2, .int xe a3, .int xb a4]) ∧ Has w led U (tupO [.int 0 b1, .int ym b2, .int ye b3, .int yb b4])) (fun _ v => ∃ b : Bool, v = .bool b ∧ (b = true ↔ vlt xm xe ym ye)) := by
  unfold Ctr
  k_fill
  refine' z_enter (r := 12) [("s", .ref T), ("t", .ref U)] [] ["s", "t"] [some (.ref T), some (.ref U)] ?eo ?ec ?eb ?en ?em ?eK ?ecl ?e1 ?e2 ?_
  walk_at "enter"
  intro dp un gd outer A₀ base g L led h G D tk O p loose mean mg mb B X HT hd hu hpre LK F N
  obtain ⟨hT, hU⟩ := hpre
  k_fold
  walk_at "steps"
local macro_rules | `(tactic| walk_at "post") => `(tactic| exact ⟨_, rfl, by simpa using Cm.le (by assumption)⟩)
theorem c_mpf_le (w : World) (T U : Addr) (xm xe xb ym ye yb : Int) (a1 a2 a3 a4 b1 b2 b3 b4 : Tok) (hx0 : 0 ≤ xm) (hxo : xm % 2 = 1 ∨ xm = 0) (hxz : xm = 0 → xe = 0 ∧ xb = 0) (hxb : xb = blen xm.toNat) (hy0 : 0 ≤ ym) (hyo : ym % 2 = 1 ∨ ym = 0) (hyz : ym = 0 → ye = 0 ∧ yb = 0) (hyb : yb = blen ym.toNat) (hd1 : xe - ye ≤ 5000) (hd2 : ye - xe ≤ 5000) (hb1 : Builtin.Int.intBits xm ≤ 1000) (hb2 : Builtin.Int.intBits ym ≤ 1000) : Ctr w 136 13 [.ref T, .ref U] (fun _ led => Has w led T (tupO [.int 0 a1, .int xm a2, .int xe a3, .int xb a4]) ∧ Has w led U (tupO [.int 0 b1, .int ym b2, .int ye b3, .int yb b4])) (fun _ v => ∃ b : Bool, v = .bool b ∧ (b = true ↔ vle xm xe ym ye)) := by
  unfold Ctr
  k_fill
  refine' z_enter (r := 12) [("s", .ref T), ("t", .ref U)] [] ["s", "t"] [some (.ref T), some (.ref U)] ?eo ?ec ?eb ?en ?em ?eK ?ecl ?e1 ?e2 ?_
  walk_at "enter"
  intro dp un gd outer A₀ base g L led h G D tk O p loose mean mg mb B X HT hd hu hpre LK F N
  obtain ⟨hT, hU⟩ := hpre
  k_fold
  walk_at "steps"
end Mine
/-! part W12 -/
namespace Mine
theorem flushW12 : (0 : Nat) = 0 := by
  w_top off
  first | walk1 | rfl
local macro_rules | `(tactic| walk_at "has") => `(tactic| first | (with_reducible assumption) | exact Has.here | (refine Has.cons ?_; walk_at "has") | (refine Has.sub (by with_reducible assumption) ?_; walk_at "has") | exact has_zero | exact has_nan | exact has_inf | exact has_ninf)
local macro_rules | `(tactic| walk_at "subs") => `(tactic| first | (with_reducible assumption) | exact sub_refl | (refine sub_cons ?_; walk_at "subs") | (refine sub_trans (by with_reducible assumption) ?_; walk_at "subs"))
local macro_rules | `(tactic| kun_tup) => `(tactic| exact Has.tup (by k_asm) (by k_asm) (by k_asm) (by walk_at "has"))
local macro_rules | `(tactic| walk_at "Fin") => `(tactic| ((refine ⟨_, _, by with_reducible assumption, by with_reducible assumption, by walk_at "subs", ?_, rfl⟩); walk_at "post"))
local macro_rules | `(tactic| walk_at "steps") => `(tactic| repeat' (first | (k_unfold) | walk1 | fail "no step"))
local macro_rules | `(tactic| walk_at "isR") => `(tactic| with_reducible first | assumption | exact isR _ | exact isR_n | exact isR_f | exact isR_c | exact isR_d | exact isR_u)
local macro_rules | `(tactic| walk_at "use") => `(tactic| ((case B => k_asm); (case F => k_asm); (case X => k_asm); (case N => k_asm); (case T => k_asm); (case kK => first | exact rfl | assumption); (case kd => first | omega | ktr_room); (case ku => first | omega | ktr_units)))
local macro_rules | `(tactic| walk_at "back") => `(tactic| (intro v9 h9 tk9 led9 F9 N9 s9 p9; k_dflt (first | (obtain ⟨D9, ta9, tb9, tc9, td9, e9, hM9⟩ := p9; subst e9) | (obtain ⟨y9, ⟨D9, ta9, tb9, tc9, td9, e9, hM9⟩, hy9⟩ := p9; subst e9) | (obtain ⟨c9, t9, e9, hc9⟩ := p9; subst e9) | (obtain ⟨t9, e9⟩ := p9; subst e9) | skip); (try k_sweep); (try k_fold)))
local macro_rules | `(tactic| walk_at "enter") => `(tactic| ((case eo => k_is); (case ec => k_is); (case eb => exact fun _ => by rfl); (case en => exact rfl); (case em => exact rfl); (case eK => exact ⟨by decide +kernel, rfl, by decide +kernel⟩); (case ecl => decide +kernel); (case e1 => exact rfl); (case e2 => exact rfl)))
local macro_rules | `(tactic| walk_at "side") => `(tactic| first | omega | decide | assumption)
local macro_rules | `(tactic| walk_at "binaryOp Add int int") => `(tactic| refine z_add ?_)
local macro_rules | `(tactic| walk_at "binaryOp Sub int int") => `(tactic| refine z_sub ?_)
local macro_rules | `(tactic| walk_at "binaryOp Mult int int") => `(tactic| refine z_mul (by walk_at "mulok") ?_)
local macro_rules | `(tactic| walk_at "binaryOp Mod int int") => `(tactic| refine z_mod (by walk_at "side") ?_)
local macro_rules | `(tactic| walk_at "binaryOp Pow int int") => `(tactic| refine z_pow (by walk_at "side") (by walk_at "size") ?_)
local macro_rules | `(tactic| walk_at "binaryOp LShift int int") => `(tactic| refine z_shl (by walk_at "side") (by walk_at "size") ?_)
local macro_rules | `(tactic| walk_at "binaryOp RShift int int") => `(tactic| refine z_shr (by walk_at "side") ?_)
local macro_rules | `(tactic| walk_at "binaryOp BitAnd int int") => `(tactic| refine z_and ?_)
local macro_rules | `(tactic| walk_at "binaryOp BitXor int int") => `(tactic| refine z_xor ?_)
local macro_rules | `(tactic| walk_at "unaryOp USub int") => `(tactic| refine z_neg ?_)
local macro_rules | `(tactic| walk_at "inplaceOp Add int int") => `(tactic| refine z_iadd ?_)
local macro_rules | `(tactic| walk_at "inplaceOp Sub int int") => `(tactic| refine z_isub ?_)
local macro_rules | `(tactic| walk_at "inplaceOp Mult int int") => `(tactic| refine z_imul (by walk_at "mulok") ?_)
local macro_rules | `(tactic| walk_at "inplaceOp RShift int int") => `(tactic| refine z_ishr (by walk_at "side") ?_)
local macro_rules | `(tactic| walk_at "inplaceOp LShift int int") => `(tactic| refine z_ishl (by walk_at "side") (by walk_at "size") ?_)
local macro_rules | `(tactic| walk_at "inplaceOp BitXor int int") => `(tactic| refine z_ixor ?_)
local macro_rules | `(tactic| walk_at "eval Constant int") => `(tactic| refine z_const ?_)
local macro_rules | `(tactic| walk_at "eval Constant str") => `(tactic| refine z_text ?_)
local macro_rules | `(tactic| walk_at "storeName") => `(tactic| (with_reducible (first | refine st0 (by assumption) (by assumption) (by assumption) ?_ | refine st1 (by assumption) (by assumption) (by assumption) ?_ | refine st2 (by assumption) (by assumption) (by assumption) ?_ | refine st3 (by assumption) (by assumption) (by assumption) ?_ | refine st4 (by assumption) (by assumption) (by assumption) ?_ | refine st5 (by assumption) (by assumption) (by assumption) ?_ | refine st6 (by assumption) (by assumption) (by assumption) ?_ | refine st7 (by assumption) (by assumption) (by assumption) ?_ | refine st8 (by assumption) (by assumption) (by assumption) ?_ | refine st9 (by assumption) (by assumption) (by assumption) ?_ | refine st10 (by assumption) (by assumption) (by assumption) ?_ | refine st11 (by assumption) (by assumption) (by assumption) ?_ | refine st12 (by assumption) (by assumption) (by assumption) ?_ | refine st13 (by assumption) (by assumption) (by assumption) ?_ | refine st14 (by assumption) (by assumption) (by assumption) ?_ | refine st15 (by assumption) (by assumption) (by assumption) ?_ | refine st16 (by assumption) (by assumption) (by assumption) ?_ | refine st17 (by assumption) (by assumption) (by assumption) ?_); intro h' tk' F' N'; (try k_sweep)))
local macro_rules | `(tactic| walk_at "eval Name") => `(tactic| with_reducible (first | refine ld0 (by assumption) (by assumption) ?_ | refine ld1 (by assumption) (by assumption) ?_ | refine ld2 (by assumption) (by assumption) ?_ | refine ld3 (by assumption) (by assumption) ?_ | refine ld4 (by assumption) (by assumption) ?_ | refine ld5 (by assumption) (by assumption) ?_ | refine ld6 (by assumption) (by assumption) ?_ | refine ld7 (by assumption) (by assumption) ?_ | refine ld8 (by assumption) (by assumption) ?_ | refine ld9 (by assumption) (by assumption) ?_ | refine ld10 (by assumption) (by assumption) ?_ | refine ld11 (by assumption) (by assumption) ?_ | refine ld12 (by assumption) (by assumption) ?_ | refine ld13 (by assumption) (by assumption) ?_ | refine ld14 (by assumption) (by assumption) ?_ | refine ld15 (by assumption) (by assumption) ?_ | refine ld16 (by assumption) (by assumption) ?_ | refine ld17 (by assumption) (by assumption) ?_))
local macro_rules | `(tactic| walk_at "loadName") => `(tactic| with_reducible (first | refine ln0 (by assumption) (by assumption) ?_ | refine ln1 (by assumption) (by assumption) ?_ | refine ln2 (by assumption) (by assumption) ?_ | refine ln3 (by assumption) (by assumption) ?_ | refine ln4 (by assumption) (by assumption) ?_ | refine ln5 (by assumption) (by assumption) ?_ | refine ln6 (by assumption) (by assumption) ?_ | refine ln7 (by assumption) (by assumption) ?_ | refine ln8 (by assumption) (by assumption) ?_ | refine ln9 (by assumption) (by assumption) ?_ | refine ln10 (by assumption) (by assumption) ?_ | refine ln11 (by assumption) (by assumption) ?_ | refine ln12 (by assumption) (by assumption) ?_ | refine ln13 (by assumption) (by assumption) ?_ | refine ln14 (by assumption) (by assumption) ?_ | refine ln15 (by assumption) (by assumption) ?_ | refine ln16 (by assumption) (by assumption) ?_ | refine ln17 (by assumption) (by assumption) ?_))
local macro_rules | `(tactic| walk_at "execs cons") => `(tactic| with_reducible refine wpAny_execs_cons ?_)
local macro_rules | `(tactic| walk_at "newTuple") => `(tactic| (k_dflt (refine' z_tuple ?F ?N ?z ?_; (case F => k_asm); (case N => k_asm); (case z => kmk_size)); intro T' h' F' N'; (try k_sweep)))
local macro_rules | `(tactic| walk_at "assign Tuple") => `(tactic| ((with_reducible show wpAny _ _ (assign (Expr.Tuple _ _ _) _ (Value.ref _)) _ _ _); k_dflt (refine' z_unpack ?F ?X ?N ?H ?h ?n ?st ?_; (case F => k_asm); (case X => k_asm); (case N => k_asm); (case H => walk_at "has"); (case h => exact rfl); (case n => exact rfl); (case st => exact rfl)); intro h' F' N'; (try k_sweep)))
local macro_rules | `(tactic| walk_at "dead") => `(tactic| first | omega | contradiction)
local macro_rules | `(tactic| walk_at "cond") => `(tactic| (intro hb; (try simp only [bne_iff_ne, beq_iff_eq, Bool.not_eq_true', Bool.not_eq_false', bne_eq_false_iff_eq, beq_eq_false_iff_ne, Bool.not_eq_true, Bool.not_eq_false, decide_eq_true_eq, decide_eq_false_iff_not, ne_eq, mpf_eq_iff, true_and, and_true, false_and, and_false, not_false_eq_true, not_true_eq_false, Decidable.not_not, Bool.not_not, Int.not_le, Int.not_lt] at hb); (try (exfalso; walk_at "dead"))))
local macro_rules | `(tactic| walk_at "ite") => `(tactic| first | with_reducible rw [if_pos True.intro] | with_reducible rw [if_neg not_false] | with_reducible rw [if_pos rfl] | (with_reducible (refine split_dec ?_ ?_ <;> walk_at "cond")) | (with_reducible (refine split_bool ?_ ?_ <;> walk_at "cond")))

local macro_rules | `(tactic| walk_at "compareOp Eq ref ref") => `(tactic| (k_dflt (refine' z_eqM ?F ?X ?N ?x ?y ?u ?_; (case F => k_asm); (case X => k_asm); (case N => k_asm); (case x => walk_at "has"); (case y => walk_at "has"); (case u => first | omega | ktr_units))))
local macro_rules | `(tactic| walk_at "compareOp NotEq ref ref") => `(tactic| (k_dflt (refine' z_neM ?F ?X ?N ?x ?y ?u ?_; (case F => k_asm); (case X => k_asm); (case N => k_asm); (case x => walk_at "has"); (case y => walk_at "has"); (case u => first | omega | ktr_units))))

local macro_rules | `(tactic| walk_at "pyl") => `(tactic| first | assumption | decide +kernel)
local macro_rules | `(tactic| walk_at "call builtin:divmod") => `(tactic| (k_dflt (refine' z_divmod ?F ?N ?b ?p ?_; (case F => k_asm); (case N => k_asm); (case b => walk_at "side"); (case p => walk_at "pyl")); intro T' h' F' N'; (try k_sweep)))
local macro_rules | `(tactic| walk_at "binaryOp FloorDiv int int") => `(tactic| refine z_fdiv (by walk_at "side") (by walk_at "pyl") ?_)

local macro_rules | `(tactic| walk_at "subscriptTail Name Constant ref int") => `(tactic| (k_dflt (refine' z_item ?F ?X ?N ?x _ ?lo ?hi ?j ?v ?_ ?s; (case F => k_asm); (case X => k_asm); (case N => k_asm); (case x => walk_at "has"); (case lo => decide); (case hi => decide); (case j => exact rfl); (case v => exact rfl); (case s => with_unfolding_all rfl))))
local macro_rules | `(tactic| walk_at "exec While Name") => `(tactic| refine Hold.out ?_)
local macro_rules | `(tactic| walk_at "newList") => `(tactic| (k_dflt (refine' z_list ?F ?N ?z ?_; (case F => k_asm); (case N => k_asm); (case z => kmk_size)); intro T' h' F' N' n1; (try k_sweep)))
local macro_rules | `(tactic| walk_at "call type:str") => `(tactic| (with_reducible refine z_str (by walk_at "side") (by walk_at "side") ?_))
local macro_rules | `(tactic| walk_at "side") => `(tactic| first | omega | assumption | exact (sn_dig (by assumption) (by assumption)).1 | exact (sn_dig (by assumption) (by assumption)).2)
local macro_rules | `(tactic| walk_at "pyl") => `(tactic| exact Nat.le_trans (intBits_small (k := 6) (by omega) (by omega)) (by decide))
local macro_rules | `(tactic| walk_at "mem") => `(tactic| first | exact List.mem_cons_self .. | (refine List.mem_cons_of_mem _ ?_; walk_at "mem"))
local macro_rules | `(tactic| walk_at "call builtin:list.append") => `(tactic| (k_dflt (refine' z_append ?F ?N ?m ?s ?e ?z ?_; (case F => k_asm); (case N => k_asm); (case m => walk_at "mem"); (case s => exact fun p hp => List.mem_cons_of_mem _ (List.mem_cons_of_mem _ hp)); (case e => assumption); (case z => walk_at "lsz")); intro h' F' N'; (try k_sweep)))
local macro_rules | `(tactic| walk_at "call builtin:str.join") => `(tactic| (k_dflt (refine' z_join ?N ?m ?x ?l ?z ?_; (case N => k_asm); (case m => walk_at "mem"); (case x => exact rfl); (case l => walk_at "jl"); (case z => walk_at "lsz")); intro t' tk'))
local macro_rules | `(tactic| walk_at "subscriptTail Name Name str int") => `(tactic| (k_dflt (refine' z_figure ?a ?b ?_ ?s ?l; (case a => walk_at "side"); (case b => walk_at "side"); (case s => with_unfolding_all rfl); (case l => exact fun _ => rfl))))
local macro_rules | `(tactic| walk_at "subscriptTail Name Slice ref ref") => `(tactic| (k_dflt (refine' z_rev ?F ?N ?m ?k ?_ ?s ?t ?z; (case F => k_asm); (case N => k_asm); (case m => walk_at "mem"); (case k => exact IsPart.int _ _); (case s => with_unfolding_all rfl); (case t => kmk_pure); (case z => walk_at "lsz")); intro U' h' F' N'; (try k_sweep)))
local macro_rules | `(tactic| walk_at "lsz") => `(tactic| first | exact Nat.le_trans (vals_len (by assumption)) (by decide) | exact Nat.le_trans (rev_len (by assumption)) (by decide) | exact Nat.le_trans (by assumption) (by decide))
local macro_rules | `(tactic| walk_at "jl") => `(tactic| exact rev_map (by assumption))
local macro_rules | `(tactic| walk_at "WhileStep") => `(tactic| exact WhileStep.intro (by assumption) (by assumption) (sn_lt (by assumption) (by assumption)) (snJ_step (by assumption) (by assumption) (by assumption) (by assumption) (by assumption)))
local macro_rules | `(tactic| walk_at "post") => `(tactic| first | exact ⟨_, by rw [sn_end' (by assumption) (by assumption) (by assumption)]⟩  | exact ⟨_, rfl⟩ | (subst_vars; exact ⟨_, rfl⟩))
theorem c_small_numeral (w : World) (n b : Int) (t1 t2 t3 : Tok) (hn : 0 < n) (hb : 2 ≤ b) (hb2 : b ≤ 36) (hbs : Builtin.Int.intBits n ≤ 400) : Ctr w 36 2 [.int n t1, .int b t2, .str stdD t3] (fun _ _ => True) (fun _ v => ∃ t, v = .str (S (numS b.toNat n.toNat)) t) := by
  unfold Ctr
  k_fill
  refine' z_enter (r := 1) [("n", .int n t1), ("base", .int b t2), ("digits", .str stdD t3)] ["digs", "digit"] ["n", "base", "digits", "digs", "digit"] [some (.int n t1), some (.int b t2), some (.str stdD t3), none, none] ?eo ?ec ?eb ?en ?em ?eK ?ecl ?e1 ?e2 ?_
  walk_at "enter"
  intro dp un gd outer A₀ base g L led h G D tk O p loose mean mg mb B X HT hd hu hpre LK F N
  k_fold
  walk_at "steps"
  · unfold Hold
    refine While_inv (SnJ _ b t2 t3 _ led n.toNat) (by assumption) (by assumption) (snJ_start (n := n) (by omega)) ?_ PassesOwn.never
    intro k m1 led1 h1 tk1 F1 N1 HJ
    obtain ⟨t, l, c, ov, fs, rfl, rfl, hl, hf, hk⟩ := HJ
    have hbl : blen n.toNat ≤ 400 := by have := bits_of (man := n) (by omega); omega
    have hfl := snJ_len hb hf hbl
    have hll := len_of_map hl hfl

    walk_at "steps"
    all_goals trace_state
    all_goals w_report
end Mine
/-! part W13 -/
namespace Mine
theorem flushW13 : (0 : Nat) = 0 := by
  w_top off
  first | walk1 | rfl
local macro_rules | `(tactic| walk_at "has") => `(tactic| first | (with_reducible assumption) | exact Has.here | (refine Has.cons ?_; walk_at "has") | (refine Has.sub (by with_reducible assumption) ?_; walk_at "has") | exact has_zero | exact has_nan | exact has_inf | exact has_ninf)
local macro_rules | `(tactic| walk_at "subs") => `(tactic| first | (with_reducible assumption) | exact sub_refl | (refine sub_cons ?_; walk_at "subs") | (refine sub_trans (by with_reducible assumption) ?_; walk_at "subs"))
local macro_rules | `(tactic| kun_tup) => `(tactic| exact Has.tup (by k_asm) (by k_asm) (by k_asm) (by walk_at "has"))
local macro_rules | `(tactic| walk_at "Fin") => `(tactic| ((refine ⟨_, _, by with_reducible assumption, by with_reducible assumption, by walk_at "subs", ?_, rfl⟩); walk_at "post"))
local macro_rules | `(tactic| walk_at "steps") => `(tactic| repeat' (first | (k_unfold) | walk1 | fail "no step"))
local macro_rules | `(tactic| walk_at "isR") => `(tactic| with_reducible first | assumption | exact isR _ | exact isR_n | exact isR_f | exact isR_c | exact isR_d | exact isR_u)
local macro_rules | `(tactic| walk_at "use") => `(tactic| ((case B => k_asm); (case F => k_asm); (case X => k_asm); (case N => k_asm); (case T => k_asm); (case kK => first | exact rfl | assumption); (case kd => first | omega | ktr_room); (case ku => first | omega | ktr_units)))
local macro_rules | `(tactic| walk_at "back") => `(tactic| (intro v9 h9 tk9 led9 F9 N9 s9 p9; k_dflt (first | (obtain ⟨D9, ta9, tb9, tc9, td9, e9, hM9⟩ := p9; subst e9) | (obtain ⟨y9, ⟨D9, ta9, tb9, tc9, td9, e9, hM9⟩, hy9⟩ := p9; subst e9) | (obtain ⟨c9, t9, e9, hc9⟩ := p9; subst e9) | (obtain ⟨t9, e9⟩ := p9; subst e9) | skip); (try k_sweep); (try k_fold)))
local macro_rules | `(tactic| walk_at "enter") => `(tactic| ((case eo => k_is); (case ec => k_is); (case eb => exact fun _ => by rfl); (case en => exact rfl); (case em => exact rfl); (case eK => exact ⟨by decide +kernel, rfl, by decide +kernel⟩); (case ecl => decide +kernel); (case e1 => exact rfl); (case e2 => exact rfl)))
local macro_rules | `(tactic| walk_at "side") => `(tactic| first | omega | decide | assumption)
local macro_rules | `(tactic| walk_at "binaryOp Add int int") => `(tactic| refine z_add ?_)
local macro_rules | `(tactic| walk_at "binaryOp Sub int int") => `(tactic| refine z_sub ?_)
local macro_rules | `(tactic| walk_at "binaryOp Mult int int") => `(tactic| refine z_mul (by walk_at "mulok") ?_)
local macro_rules | `(tactic| walk_at "binaryOp Mod int int") => `(tactic| refine z_mod (by walk_at "side") ?_)
local macro_rules | `(tactic| walk_at "binaryOp Pow int int") => `(tactic| refine z_pow (by walk_at "side") (by walk_at "size") ?_)
local macro_rules | `(tactic| walk_at "binaryOp LShift int int") => `(tactic| refine z_shl (by walk_at "side") (by walk_at "size") ?_)
local macro_rules | `(tactic| walk_at "binaryOp RShift int int") => `(tactic| refine z_shr (by walk_at "side") ?_)
local macro_rules | `(tactic| walk_at "binaryOp BitAnd int int") => `(tactic| refine z_and ?_)
local macro_rules | `(tactic| walk_at "binaryOp BitXor int int") => `(tactic| refine z_xor ?_)
local macro_rules | `(tactic| walk_at "unaryOp USub int") => `(tactic| refine z_neg ?_)
local macro_rules | `(tactic| walk_at "inplaceOp Add int int") => `(tactic| refine z_iadd ?_)
local macro_rules | `(tactic| walk_at "inplaceOp Sub int int") => `(tactic| refine z_isub ?_)
local macro_rules | `(tactic| walk_at "inplaceOp Mult int int") => `(tactic| refine z_imul (by walk_at "mulok") ?_)
local macro_rules | `(tactic| walk_at "inplaceOp RShift int int") => `(tactic| refine z_ishr (by walk_at "side") ?_)
local macro_rules | `(tactic| walk_at "inplaceOp LShift int int") => `(tactic| refine z_ishl (by walk_at "side") (by walk_at "size") ?_)
local macro_rules | `(tactic| walk_at "inplaceOp BitXor int int") => `(tactic| refine z_ixor ?_)
local macro_rules | `(tactic| walk_at "eval Constant int") => `(tactic| refine z_const ?_)
local macro_rules | `(tactic| walk_at "eval Constant str") => `(tactic| refine z_text ?_)
local macro_rules | `(tactic| walk_at "storeName") => `(tactic| (with_reducible (first | refine st0 (by assumption) (by assumption) (by assumption) ?_ | refine st1 (by assumption) (by assumption) (by assumption) ?_ | refine st2 (by assumption) (by assumption) (by assumption) ?_ | refine st3 (by assumption) (by assumption) (by assumption) ?_ | refine st4 (by assumption) (by assumption) (by assumption) ?_ | refine st5 (by assumption) (by assumption) (by assumption) ?_ | refine st6 (by assumption) (by assumption) (by assumption) ?_ | refine st7 (by assumption) (by assumption) (by assumption) ?_ | refine st8 (by assumption) (by assumption) (by assumption) ?_ | refine st9 (by assumption) (by assumption) (by assumption) ?_ | refine st10 (by assumption) (by assumption) (by assumption) ?_ | refine st11 (by assumption) (by assumption) (by assumption) ?_ | refine st12 (by assumption) (by assumption) (by assumption) ?_ | refine st13 (by assumption) (by assumption) (by assumption) ?_ | refine st14 (by assumption) (by assumption) (by assumption) ?_ | refine st15 (by assumption) (by assumption) (by assumption) ?_ | refine st16 (by assumption) (by assumption) (by assumption) ?_ | refine st17 (by assumption) (by assumption) (by assumption) ?_); intro h' tk' F' N'; (try k_sweep)))
local macro_rules | `(tactic| walk_at "eval Name") => `(tactic| with_reducible (first | refine ld0 (by assumption) (by assumption) ?_ | refine ld1 (by assumption) (by assumption) ?_ | refine ld2 (by assumption) (by assumption) ?_ | refine ld3 (by assumption) (by assumption) ?_ | refine ld4 (by assumption) (by assumption) ?_ | refine ld5 (by assumption) (by assumption) ?_ | refine ld6 (by assumption) (by assumption) ?_ | refine ld7 (by assumption) (by assumption) ?_ | refine ld8 (by assumption) (by assumption) ?_ | refine ld9 (by assumption) (by assumption) ?_ | refine ld10 (by assumption) (by assumption) ?_ | refine ld11 (by assumption) (by assumption) ?_ | refine ld12 (by assumption) (by assumption) ?_ | refine ld13 (by assumption) (by assumption) ?_ | refine ld14 (by assumption) (by assumption) ?_ | refine ld15 (by assumption) (by assumption) ?_ | refine ld16 (by assumption) (by assumption) ?_ | refine ld17 (by assumption) (by assumption) ?_))
local macro_rules | `(tactic| walk_at "loadName") => `(tactic| with_reducible (first | refine ln0 (by assumption) (by assumption) ?_ | refine ln1 (by assumption) (by assumption) ?_ | refine ln2 (by assumption) (by assumption) ?_ | refine ln3 (by assumption) (by assumption) ?_ | refine ln4 (by assumption) (by assumption) ?_ | refine ln5 (by assumption) (by assumption) ?_ | refine ln6 (by assumption) (by assumption) ?_ | refine ln7 (by assumption) (by assumption) ?_ | refine ln8 (by assumption) (by assumption) ?_ | refine ln9 (by assumption) (by assumption) ?_ | refine ln10 (by assumption) (by assumption) ?_ | refine ln11 (by assumption) (by assumption) ?_ | refine ln12 (by assumption) (by assumption) ?_ | refine ln13 (by assumption) (by assumption) ?_ | refine ln14 (by assumption) (by assumption) ?_ | refine ln15 (by assumption) (by assumption) ?_ | refine ln16 (by assumption) (by assumption) ?_ | refine ln17 (by assumption) (by assumption) ?_))
local macro_rules | `(tactic| walk_at "execs cons") => `(tactic| with_reducible refine wpAny_execs_cons ?_)
local macro_rules | `(tactic| walk_at "newTuple") => `(tactic| (k_dflt (refine' z_tuple ?F ?N ?z ?_; (case F => k_asm); (case N => k_asm); (case z => kmk_size)); intro T' h' F' N'; (try k_sweep)))
local macro_rules | `(tactic| walk_at "assign Tuple") => `(tactic| ((with_reducible show wpAny _ _ (assign (Expr.Tuple _ _ _) _ (Value.ref _)) _ _ _); k_dflt (refine' z_unpack ?F ?X ?N ?H ?h ?n ?st ?_; (case F => k_asm); (case X => k_asm); (case N => k_asm); (case H => walk_at "has"); (case h => exact rfl); (case n => exact rfl); (case st => exact rfl)); intro h' F' N'; (try k_sweep)))
local macro_rules | `(tactic| walk_at "dead") => `(tactic| first | omega | contradiction)
local macro_rules | `(tactic| walk_at "cond") => `(tactic| (intro hb; (try simp only [bne_iff_ne, beq_iff_eq, Bool.not_eq_true', Bool.not_eq_false', bne_eq_false_iff_eq, beq_eq_false_iff_ne, Bool.not_eq_true, Bool.not_eq_false, decide_eq_true_eq, decide_eq_false_iff_not, ne_eq, mpf_eq_iff, true_and, and_true, false_and, and_false, not_false_eq_true, not_true_eq_false, Decidable.not_not, Bool.not_not, Int.not_le, Int.not_lt] at hb); (try (exfalso; walk_at "dead"))))
local macro_rules | `(tactic| walk_at "ite") => `(tactic| first | with_reducible rw [if_pos True.intro] | with_reducible rw [if_neg not_false] | with_reducible rw [if_pos rfl] | (with_reducible (refine split_dec ?_ ?_ <;> walk_at "cond")) | (with_reducible (refine split_bool ?_ ?_ <;> walk_at "cond")))

local macro_rules | `(tactic| walk_at "compareOp Eq ref ref") => `(tactic| (k_dflt (refine' z_eqM ?F ?X ?N ?x ?y ?u ?_; (case F => k_asm); (case X => k_asm); (case N => k_asm); (case x => walk_at "has"); (case y => walk_at "has"); (case u => first | omega | ktr_units))))
local macro_rules | `(tactic| walk_at "compareOp NotEq ref ref") => `(tactic| (k_dflt (refine' z_neM ?F ?X ?N ?x ?y ?u ?_; (case F => k_asm); (case X => k_asm); (case N => k_asm); (case x => walk_at "has"); (case y => walk_at "has"); (case u => first | omega | ktr_units))))

local macro_rules | `(tactic| walk_at "pyl") => `(tactic| first | assumption | decide +kernel)
local macro_rules | `(tactic| walk_at "call builtin:divmod") => `(tactic| (k_dflt (refine' z_divmod ?F ?N ?b ?p ?_; (case F => k_asm); (case N => k_asm); (case b => walk_at "side"); (case p => walk_at "pyl")); intro T' h' F' N'; (try k_sweep)))
local macro_rules | `(tactic| walk_at "binaryOp FloorDiv int int") => `(tactic| refine z_fdiv (by walk_at "side") (by walk_at "pyl") ?_)

local macro_rules | `(tactic| walk_at "subscriptTail Name Constant ref int") => `(tactic| (k_dflt (refine' z_item ?F ?X ?N ?x _ ?lo ?hi ?j ?v ?_ ?s; (case F => k_asm); (case X => k_asm); (case N => k_asm); (case x => walk_at "has"); (case lo => decide); (case hi => decide); (case j => exact rfl); (case v => exact rfl); (case s => with_unfolding_all rfl))))
local macro_rules | `(tactic| walk_at "call ref") => `(tactic| ((with_reducible show wpAny _ _ (call (Value.ref 36) _) _ _ _); k_dflt (refine' z_use (c_small_numeral _ _ _ _ _ _ ?hn ?hb ?hb2 ?hbs) ?B ?F ?X ?N ?T ?kK ?kd ?ku ?kp ?_); walk_at "use"; (case kp => trivial); (case hn => walk_at "side"); (case hb => walk_at "side"); (case hb2 => walk_at "side"); (case hbs => walk_at "side"); walk_at "back"))
local macro_rules | `(tactic| walk_at "side") => `(tactic| first | omega | assumption)
theorem numS_zero {b : Nat} {n : Int} (h : n = 0) : S (numS b n.toNat) = Str.ofString "0" := by
  subst h; rw [lit_0]; rfl
local macro_rules | `(tactic| walk_at "post") => `(tactic| first | exact ⟨_, rfl⟩ | exact ⟨_, by rw [numS_zero (by first | assumption | omega)]⟩)
theorem c_numeral (w : World) (n b : Int) (t1 t2 : Tok) (hn : 0 ≤ n) (hb : 2 ≤ b) (hb2 : b ≤ 36) (hbs : Builtin.Int.intBits n ≤ 400) : Ctr w 44 4 [.int n t1, .int b t2] (fun _ _ => True) (fun _ v => ∃ t, v = .str (S (numS b.toNat n.toNat)) t) := by
  unfold Ctr
  k_fill
  refine' z_enter (r := 3) [("n", .int n t1), ("base", .int b t2), ("size", .int 0 221), ("digits", .str stdD 206)] ["half", "A", "B", "ad", "bd"] ["n", "base", "size", "digits", "half", "A", "B", "ad", "bd"] [some (.int n t1), some (.int b t2), some (.int 0 221), some (.str stdD 206), none, none, none, none, none] ?eo ?ec ?eb ?en ?em ?eK ?ecl ?e1 ?e2 ?_
  walk_at "enter"
  intro dp un gd outer A₀ base g L led h G D tk O p loose mean mg mb B X HT hd hu hpre LK F N
  k_fold
  walk_at "steps"
local macro_rules | `(tactic| walk_at "post") => `(tactic| first | exact ⟨_, by rw [lit_0b]; rfl⟩ | exact ⟨_, by rw [lit_0o]; rfl⟩ | exact ⟨_, by rw [lit_n]; rfl⟩ | exact ⟨_, by rw [lit_0x]; rfl⟩)
theorem c_ahead2 (w : World) (t : Tok) : Ctr w 246 2 [.int 2 t] (fun _ _ => True) (fun _ v => ∃ t, v = .str (S (ahead 2)) t) := by
  unfold Ctr
  k_fill
  refine' z_enter (r := 1) [("base", .int 2 t)] [] ["base"] [some (.int 2 t)] ?eo ?ec ?eb ?en ?em ?eK ?ecl ?e1 ?e2 ?_
  walk_at "enter"
  intro dp un gd outer A₀ base g L led h G D tk O p loose mean mg mb B X HT hd hu hpre LK F N
  k_fold
  walk_at "steps"
theorem c_ahead8 (w : World) (t : Tok) : Ctr w 246 2 [.int 8 t] (fun _ _ => True) (fun _ v => ∃ t, v = .str (S (ahead 8)) t) := by
  unfold Ctr
  k_fill
  refine' z_enter (r := 1) [("base", .int 8 t)] [] ["base"] [some (.int 8 t)] ?eo ?ec ?eb ?en ?em ?eK ?ecl ?e1 ?e2 ?_
  walk_at "enter"
  intro dp un gd outer A₀ base g L led h G D tk O p loose mean mg mb B X HT hd hu hpre LK F N
  k_fold
  walk_at "steps"
theorem c_ahead10 (w : World) (t : Tok) : Ctr w 246 2 [.int 10 t] (fun _ _ => True) (fun _ v => ∃ t, v = .str (S (ahead 10)) t) := by
  unfold Ctr
  k_fill
  refine' z_enter (r := 1) [("base", .int 10 t)] [] ["base"] [some (.int 10 t)] ?eo ?ec ?eb ?en ?em ?eK ?ecl ?e1 ?e2 ?_
  walk_at "enter"
  intro dp un gd outer A₀ base g L led h G D tk O p loose mean mg mb B X HT hd hu hpre LK F N
  k_fold
  walk_at "steps"
theorem c_ahead16 (w : World) (t : Tok) : Ctr w 246 2 [.int 16 t] (fun _ _ => True) (fun _ v => ∃ t, v = .str (S (ahead 16)) t) := by
  unfold Ctr
  k_fill
  refine' z_enter (r := 1) [("base", .int 16 t)] [] ["base"] [some (.int 16 t)] ?eo ?ec ?eb ?en ?em ?eK ?ecl ?e1 ?e2 ?_
  walk_at "enter"
  intro dp un gd outer A₀ base g L led h G D tk O p loose mean mg mb B X HT hd hu hpre LK F N
  k_fold
  walk_at "steps"
end Mine
/-! part W14 -/
namespace Mine
theorem flushW14 : (0 : Nat) = 0 := by
  w_top off
  first | walk1 | rfl
local macro_rules | `(tactic| walk_at "has") => `(tactic| first | (with_reducible assumption) | exact Has.here | (refine Has.cons ?_; walk_at "has") | (refine Has.sub (by with_reducible assumption) ?_; walk_at "has") | exact has_zero | exact has_nan | exact has_inf | exact has_ninf)
local macro_rules | `(tactic| walk_at "subs") => `(tactic| first | (with_reducible assumption) | exact sub_refl | (refine sub_cons ?_; walk_at "subs") | (refine sub_trans (by with_reducible assumption) ?_; walk_at "subs"))
local macro_rules | `(tactic| kun_tup) => `(tactic| exact Has.tup (by k_asm) (by k_asm) (by k_asm) (by walk_at "has"))
local macro_rules | `(tactic| walk_at "Fin") => `(tactic| ((refine ⟨_, _, by with_reducible assumption, by with_reducible assumption, by walk_at "subs", ?_, rfl⟩); walk_at "post"))
local macro_rules | `(tactic| walk_at "steps") => `(tactic| repeat' (first | (k_unfold) | walk1 | fail "no step"))
local macro_rules | `(tactic| walk_at "isR") => `(tactic| with_reducible first | assumption | exact isR _ | exact isR_n | exact isR_f | exact isR_c | exact isR_d | exact isR_u)
local macro_rules | `(tactic| walk_at "use") => `(tactic| ((case B => k_asm); (case F => k_asm); (case X => k_asm); (case N => k_asm); (case T => k_asm); (case kK => first | exact rfl | assumption); (case kd => first | omega | ktr_room); (case ku => first | omega | ktr_units)))
local macro_rules | `(tactic| walk_at "back") => `(tactic| (intro v9 h9 tk9 led9 F9 N9 s9 p9; k_dflt (first | (obtain ⟨D9, ta9, tb9, tc9, td9, e9, hM9⟩ := p9; subst e9) | (obtain ⟨y9, ⟨D9, ta9, tb9, tc9, td9, e9, hM9⟩, hy9⟩ := p9; subst e9) | (obtain ⟨c9, t9, e9, hc9⟩ := p9; subst e9) | (obtain ⟨t9, e9⟩ := p9; subst e9) | skip); (try k_sweep); (try k_fold)))
local macro_rules | `(tactic| walk_at "enter") => `(tactic| ((case eo => k_is); (case ec => k_is); (case eb => exact fun _ => by rfl); (case en => exact rfl); (case em => exact rfl); (case eK => exact ⟨by decide +kernel, rfl, by decide +kernel⟩); (case ecl => decide +kernel); (case e1 => exact rfl); (case e2 => exact rfl)))
local macro_rules | `(tactic| walk_at "side") => `(tactic| first | omega | decide | assumption)
local macro_rules | `(tactic| walk_at "binaryOp Add int int") => `(tactic| refine z_add ?_)
local macro_rules | `(tactic| walk_at "binaryOp Sub int int") => `(tactic| refine z_sub ?_)
local macro_rules | `(tactic| walk_at "binaryOp Mult int int") => `(tactic| refine z_mul (by walk_at "mulok") ?_)
local macro_rules | `(tactic| walk_at "binaryOp Mod int int") => `(tactic| refine z_mod (by walk_at "side") ?_)
local macro_rules | `(tactic| walk_at "binaryOp Pow int int") => `(tactic| refine z_pow (by walk_at "side") (by walk_at "size") ?_)
local macro_rules | `(tactic| walk_at "binaryOp LShift int int") => `(tactic| refine z_shl (by walk_at "side") (by walk_at "size") ?_)
local macro_rules | `(tactic| walk_at "binaryOp RShift int int") => `(tactic| refine z_shr (by walk_at "side") ?_)
local macro_rules | `(tactic| walk_at "binaryOp BitAnd int int") => `(tactic| refine z_and ?_)
local macro_rules | `(tactic| walk_at "binaryOp BitXor int int") => `(tactic| refine z_xor ?_)
local macro_rules | `(tactic| walk_at "unaryOp USub int") => `(tactic| refine z_neg ?_)
local macro_rules | `(tactic| walk_at "inplaceOp Add int int") => `(tactic| refine z_iadd ?_)
local macro_rules | `(tactic| walk_at "inplaceOp Sub int int") => `(tactic| refine z_isub ?_)
local macro_rules | `(tactic| walk_at "inplaceOp Mult int int") => `(tactic| refine z_imul (by walk_at "mulok") ?_)
local macro_rules | `(tactic| walk_at "inplaceOp RShift int int") => `(tactic| refine z_ishr (by walk_at "side") ?_)
local macro_rules | `(tactic| walk_at "inplaceOp LShift int int") => `(tactic| refine z_ishl (by walk_at "side") (by walk_at "size") ?_)
local macro_rules | `(tactic| walk_at "inplaceOp BitXor int int") => `(tactic| refine z_ixor ?_)
local macro_rules | `(tactic| walk_at "eval Constant int") => `(tactic| refine z_const ?_)
local macro_rules | `(tactic| walk_at "eval Constant str") => `(tactic| refine z_text ?_)
local macro_rules | `(tactic| walk_at "storeName") => `(tactic| (with_reducible (first | refine st0 (by assumption) (by assumption) (by assumption) ?_ | refine st1 (by assumption) (by assumption) (by assumption) ?_ | refine st2 (by assumption) (by assumption) (by assumption) ?_ | refine st3 (by assumption) (by assumption) (by assumption) ?_ | refine st4 (by assumption) (by assumption) (by assumption) ?_ | refine st5 (by assumption) (by assumption) (by assumption) ?_ | refine st6 (by assumption) (by assumption) (by assumption) ?_ | refine st7 (by assumption) (by assumption) (by assumption) ?_ | refine st8 (by assumption) (by assumption) (by assumption) ?_ | refine st9 (by assumption) (by assumption) (by assumption) ?_ | refine st10 (by assumption) (by assumption) (by assumption) ?_ | refine st11 (by assumption) (by assumption) (by assumption) ?_ | refine st12 (by assumption) (by assumption) (by assumption) ?_ | refine st13 (by assumption) (by assumption) (by assumption) ?_ | refine st14 (by assumption) (by assumption) (by assumption) ?_ | refine st15 (by assumption) (by assumption) (by assumption) ?_ | refine st16 (by assumption) (by assumption) (by assumption) ?_ | refine st17 (by assumption) (by assumption) (by assumption) ?_); intro h' tk' F' N'; (try k_sweep)))
local macro_rules | `(tactic| walk_at "eval Name") => `(tactic| with_reducible (first | refine ld0 (by assumption) (by assumption) ?_ | refine ld1 (by assumption) (by assumption) ?_ | refine ld2 (by assumption) (by assumption) ?_ | refine ld3 (by assumption) (by assumption) ?_ | refine ld4 (by assumption) (by assumption) ?_ | refine ld5 (by assumption) (by assumption) ?_ | refine ld6 (by assumption) (by assumption) ?_ | refine ld7 (by assumption) (by assumption) ?_ | refine ld8 (by assumption) (by assumption) ?_ | refine ld9 (by assumption) (by assumption) ?_ | refine ld10 (by assumption) (by assumption) ?_ | refine ld11 (by assumption) (by assumption) ?_ | refine ld12 (by assumption) (by assumption) ?_ | refine ld13 (by assumption) (by assumption) ?_ | refine ld14 (by assumption) (by assumption) ?_ | refine ld15 (by assumption) (by assumption) ?_ | refine ld16 (by assumption) (by assumption) ?_ | refine ld17 (by assumption) (by assumption) ?_))
local macro_rules | `(tactic| walk_at "loadName") => `(tactic| with_reducible (first | refine ln0 (by assumption) (by assumption) ?_ | refine ln1 (by assumption) (by assumption) ?_ | refine ln2 (by assumption) (by assumption) ?_ | refine ln3 (by assumption) (by assumption) ?_ | refine ln4 (by assumption) (by assumption) ?_ | refine ln5 (by assumption) (by assumption) ?_ | refine ln6 (by assumption) (by assumption) ?_ | refine ln7 (by assumption) (by assumption) ?_ | refine ln8 (by assumption) (by assumption) ?_ | refine ln9 (by assumption) (by assumption) ?_ | refine ln10 (by assumption) (by assumption) ?_ | refine ln11 (by assumption) (by assumption) ?_ | refine ln12 (by assumption) (by assumption) ?_ | refine ln13 (by assumption) (by assumption) ?_ | refine ln14 (by assumption) (by assumption) ?_ | refine ln15 (by assumption) (by assumption) ?_ | refine ln16 (by assumption) (by assumption) ?_ | refine ln17 (by assumption) (by assumption) ?_))
local macro_rules | `(tactic| walk_at "execs cons") => `(tactic| with_reducible refine wpAny_execs_cons ?_)
local macro_rules | `(tactic| walk_at "newTuple") => `(tactic| (k_dflt (refine' z_tuple ?F ?N ?z ?_; (case F => k_asm); (case N => k_asm); (case z => kmk_size)); intro T' h' F' N'; (try k_sweep)))
local macro_rules | `(tactic| walk_at "assign Tuple") => `(tactic| ((with_reducible show wpAny _ _ (assign (Expr.Tuple _ _ _) _ (Value.ref _)) _ _ _); k_dflt (refine' z_unpack ?F ?X ?N ?H ?h ?n ?st ?_; (case F => k_asm); (case X => k_asm); (case N => k_asm); (case H => walk_at "has"); (case h => exact rfl); (case n => exact rfl); (case st => exact rfl)); intro h' F' N'; (try k_sweep)))
local macro_rules | `(tactic| walk_at "dead") => `(tactic| first | omega | contradiction)
local macro_rules | `(tactic| walk_at "cond") => `(tactic| (intro hb; (try simp only [bne_iff_ne, beq_iff_eq, Bool.not_eq_true', Bool.not_eq_false', bne_eq_false_iff_eq, beq_eq_false_iff_ne, Bool.not_eq_true, Bool.not_eq_false, decide_eq_true_eq, decide_eq_false_iff_not, ne_eq, mpf_eq_iff, true_and, and_true, false_and, and_false, not_false_eq_true, not_true_eq_false, Decidable.not_not, Bool.not_not, Int.not_le, Int.not_lt] at hb); (try (exfalso; walk_at "dead"))))
local macro_rules | `(tactic| walk_at "ite") => `(tactic| first | with_reducible rw [if_pos True.intro] | with_reducible rw [if_neg not_false] | with_reducible rw [if_pos rfl] | (with_reducible (refine split_dec ?_ ?_ <;> walk_at "cond")) | (with_reducible (refine split_bool ?_ ?_ <;> walk_at "cond")))

local macro_rules | `(tactic| walk_at "compareOp Eq ref ref") => `(tactic| (k_dflt (refine' z_eqM ?F ?X ?N ?x ?y ?u ?_; (case F => k_asm); (case X => k_asm); (case N => k_asm); (case x => walk_at "has"); (case y => walk_at "has"); (case u => first | omega | ktr_units))))
local macro_rules | `(tactic| walk_at "compareOp NotEq ref ref") => `(tactic| (k_dflt (refine' z_neM ?F ?X ?N ?x ?y ?u ?_; (case F => k_asm); (case X => k_asm); (case N => k_asm); (case x => walk_at "has"); (case y => walk_at "has"); (case u => first | omega | ktr_units))))

local macro_rules | `(tactic| walk_at "pyl") => `(tactic| first | assumption | decide +kernel)
local macro_rules | `(tactic| walk_at "call builtin:divmod") => `(tactic| (k_dflt (refine' z_divmod ?F ?N ?b ?p ?_; (case F => k_asm); (case N => k_asm); (case b => walk_at "side"); (case p => walk_at "pyl")); intro T' h' F' N'; (try k_sweep)))
local macro_rules | `(tactic| walk_at "binaryOp FloorDiv int int") => `(tactic| refine z_fdiv (by walk_at "side") (by walk_at "pyl") ?_)

local macro_rules | `(tactic| walk_at "subscriptTail Name Constant ref int") => `(tactic| (k_dflt (refine' z_item ?F ?X ?N ?x _ ?lo ?hi ?j ?v ?_ ?s; (case F => k_asm); (case X => k_asm); (case N => k_asm); (case x => walk_at "has"); (case lo => decide); (case hi => decide); (case j => exact rfl); (case v => exact rfl); (case s => with_unfolding_all rfl))))
theorem strR_le {c : Nat} {l : List Nat} : (strR c l).length ≤ l.length := by
  unfold strR
  rw [List.length_reverse]
  exact Nat.le_trans (List.Sublist.length_le (List.dropWhile_sublist _)) (by simp)
theorem nin_of {c : Nat} {l m : List Nat} (h : l = m) (k : c ∉ m) : c ∉ l := h ▸ k
theorem z_itemL {w : World} {A : Around} {E : Value → Shared → Prop} {h : Heap} {G : Array GenState} {D : Drawn} {tk : Nat} {O : OsState} {Q : Value → Shared → Prop} {a : Addr} {u : Tok} {g : Heap} {L : Addr} {led : Led} {k : Int} {n : Nat} {items : List Value} {v : Value} {value slice : Expr} (N : News g L h led) (hm : (a, W.listOf items.toArray n) ∈ led)
    (h0 : 0 ≤ k) (h1 : k < 2 ^ 63) (hj : items[k.toNat]? = some v) (q : Q v ⟨h, G, D, tk, O⟩) (hs : subscripted slice false (.ref a) (.int k u) = operate [.ref a, .int k u] (getItem (.ref a) (.int k u))) :
    wpAny (model PySem.Challenge.rw_aj5018_01.row.prog w) A (subscriptTail value slice (.ref a) (.int k u)) Q E ⟨h, G, D, tk, O⟩ := by
  have hl : h.IsList a items.toArray := ⟨_, (N _ hm).1, rfl, _, rfl⟩
  exact tail_any hl.typeIs slot_list_getitem.lookup (wpAny_getItem_list hl h0 h1 (by rw [List.getElem?_toArray]; exact hj) q) hs
theorem lit_ne1 : ¬ Str.ofString "e" = Str.ofString "p" := by decide
theorem lit_ne2 : ¬ Str.ofString "@" = Str.ofString "p" := by decide
theorem S_ne_nil {l : List Nat} (h : S l = Str.ofString "") (k : l ≠ []) : False := by
  rw [lit_n, S_inj] at h; exact k h
local macro_rules | `(tactic| walk_at "isS") => `(tactic| first | with_reducible exact S_rfl | exact lit_0p | exact lit_p | exact lit_at | exact lit_e | exact lit_m | exact lit_n | exact lit_0 | exact lit_0b | exact lit_0o | exact lit_0x)
local macro_rules | `(tactic| walk_at "lz") => `(tactic| first | assumption | omega | ((try simp only [List.length_append, List.length_cons, List.length_nil, List.length_replicate]); omega))
local macro_rules | `(tactic| walk_at "binaryOp Add str str") => `(tactic| (refine z_cat (by walk_at "isS") (by walk_at "isS") (by walk_at "lz") ?_; intro t' tk'))
local macro_rules | `(tactic| walk_at "isC") => `(tactic| first | with_reducible exact S_rfl | exact lit_l | exact lit_us | exact lit_pp | exact lit_sl | exact lit_e | exact lit_at | exact lit_p | exact lit_0)
local macro_rules | `(tactic| walk_at "nin") => `(tactic| first | assumption | exact nin_of (by assumption) (by assumption))
local macro_rules | `(tactic| walk_at "tsz") => `(tactic| first | assumption | omega | (simp only [List.length_append, List.length_cons, List.length_reverse]; omega))
local macro_rules | `(tactic| walk_at "call builtin:str.lower") => `(tactic| (with_reducible refine z_lower (by assumption) (by walk_at "tsz") ?_; intro t' tk'))
local macro_rules | `(tactic| walk_at "call builtin:str.strip") => `(tactic| (with_reducible refine z_strip (by assumption) (by walk_at "tsz") ?_; intro t' tk'))
local macro_rules | `(tactic| walk_at "call builtin:str.rstrip") => `(tactic| (refine z_rstrip (by walk_at "isC") (by walk_at "tsz") ?_; intro t' tk'))
local macro_rules | `(tactic| walk_at "call builtin:str.rstrip") => `(tactic| (refine z_rstrip0 (by walk_at "isC") (by walk_at "nin") (by walk_at "tsz") ?_; intro t' tk'))
local macro_rules | `(tactic| walk_at "call builtin:str.replace") => `(tactic| (refine z_replace (by walk_at "isC") (by walk_at "nin") ?_))
local macro_rules | `(tactic| walk_at "call builtin:str.find") => `(tactic| (refine z_find (by walk_at "isC") (by walk_at "nin") ?_))
local macro_rules | `(tactic| walk_at "call builtin:len cons nil str") => `(tactic| (refine z_slen (by walk_at "tsz") ?_))
local macro_rules | `(tactic| walk_at "call builtin:len") => `(tactic| ((with_reducible show wpAny _ _ (call (Value.builtin "len") [Value.str (S _) _]) _ _ _); refine z_slen (by walk_at "tsz") ?_))
local macro_rules | `(tactic| walk_at "call builtin:str.split") => `(tactic| (k_dflt (first | (refine' z_split1 ?F ?N ?y ?l ?c ?z ?_; (case F => k_asm); (case N => k_asm); (case y => walk_at "isC"); (case l => assumption); (case c => walk_at "nin"); (case z => walk_at "tsz"); intro T' h' tk' t1 F' N') | (refine' z_split2 ?F ?N ?y ?l ?a ?b ?z ?_; (case F => k_asm); (case N => k_asm); (case y => walk_at "isC"); (case l => assumption); (case a => walk_at "nin"); (case b => walk_at "nin"); (case z => walk_at "tsz"); intro T' h' tk' t1 t2 F' N')); (try k_sweep)))
local macro_rules | `(tactic| walk_at "call type:int") => `(tactic| (with_reducible refine z_int1 (by walk_at "side") (by walk_at "side") ?_))
local macro_rules | `(tactic| walk_at "call type:int") => `(tactic| (with_reducible refine z_int2 (by walk_at "side") (by walk_at "side") (by walk_at "tsz") (by assumption) (by assumption) ?_))
local macro_rules | `(tactic| walk_at "call builtin:int.bit_length") => `(tactic| with_reducible first | refine z_bl 2 bl2 ?_ | refine z_bl 4 bl8 ?_ | refine z_bl 4 bl10 ?_ | refine z_bl 5 bl16 ?_)
local macro_rules | `(tactic| walk_at "call builtin:pow") => `(tactic| first | refine z_powF 2 pw1 (by decide) (by decide +kernel) ?_ | refine z_powF 8 pw3 (by decide) (by decide +kernel) ?_ | refine z_powF 16 pw4 (by decide) (by decide +kernel) ?_)
local macro_rules | `(tactic| walk_at "memL") => `(tactic| first | exact List.mem_cons_self | (refine List.mem_cons_of_mem _ ?_; walk_at "memL"))
local macro_rules | `(tactic| walk_at "subscriptTail Name Constant ref int") => `(tactic| (k_dflt (refine' z_itemL ?N ?m ?h0 ?h1 ?j ?_ ?s; (case N => k_asm); (case m => walk_at "memL"); (case h0 => decide); (case h1 => decide); (case j => exact rfl); (case s => with_unfolding_all rfl))))
local macro_rules | `(tactic| walk_at "dead") => `(tactic| first | omega | contradiction | exact absurd (by assumption) lit_ne1 | exact absurd (by assumption) lit_ne2 | exact S_ne_nil (by assumption) (by assumption))
local macro_rules | `(tactic| walk_at "side") => `(tactic| first | omega | assumption | decide)
local macro_rules | `(tactic| walk_at "post") => `(tactic| exact ⟨_, _, _, rfl, by walk_at "has"⟩)
theorem c_sme1_2 (w : World) (l : List Nat) (n : Int) (t1 t2 : Tok) (hok : Ok l) (h108 : 108 ∉ l) (h95 : 95 ∉ l) (h112 : 112 ∉ l) (hne : l ≠ []) (hz : l.length ≤ 300) (hsep : 101 ∉ l) (hpt : 46 ∉ l) (ha : ∀ c ∈ l, c ≠ 0 ∧ c < 128) (hn : (int_private% "readNumeral") 0 (Int.toNat 2) l = (int_private% "Numeral.value") n) : Ctr w 216 2 [.str (S l) t1, .int 2 t2] (fun _ _ => True) (fun led v => ∃ D u1 u2, v = .ref D ∧ Has w led D (tupO [.int (n) u1, .int (0) u2])) := by
  unfold Ctr
  k_fill
  refine' z_enter (r := 1) [("x", .str (S l) t1), ("base", .int 2 t2)] ["sep", "e2", "parts", "exp", "a", "b"] ["x", "base", "sep", "e2", "parts", "exp", "a", "b"] [some (.str (S l) t1), some (.int 2 t2), none, none, none, none, none, none] ?eo ?ec ?eb ?en ?em ?eK ?ecl ?e1 ?e2 ?_
  walk_at "enter"
  intro dp un gd outer A₀ base g L led h G D tk O p loose mean mg mb B X HT hd hu hpre LK F N
  k_fold
  walk_at "steps"
theorem c_sme2_2 (w : World) (l a f : List Nat) (n : Int) (t1 t2 : Tok) (hok : Ok l) (h108 : 108 ∉ l) (h95 : 95 ∉ l) (h112 : 112 ∉ l) (hne : l ≠ []) (hz : l.length ≤ 300) (hl : l = a ++ 46 :: f) (hsep : 101 ∉ l) (ha1 : a ≠ []) (hpa : 46 ∉ a) (hpf : 46 ∉ f) (ha : ∀ c ∈ a ++ strR 48 f, c ≠ 0 ∧ c < 128) (hn : (int_private% "readNumeral") 0 (Int.toNat 2) (a ++ strR 48 f) = (int_private% "Numeral.value") n) : Ctr w 216 2 [.str (S l) t1, .int 2 t2] (fun _ _ => True) (fun led v => ∃ D u1 u2, v = .ref D ∧ Has w led D (tupO [.int (n) u1, .int (0 - (strR 48 f).length) u2])) := by
  have hzf : (strR 48 f).length ≤ f.length := strR_le
  have hzl := congrArg List.length hl
  simp only [List.length_append, List.length_cons] at hzl
  unfold Ctr
  k_fill
  refine' z_enter (r := 1) [("x", .str (S l) t1), ("base", .int 2 t2)] ["sep", "e2", "parts", "exp", "a", "b"] ["x", "base", "sep", "e2", "parts", "exp", "a", "b"] [some (.str (S l) t1), some (.int 2 t2), none, none, none, none, none, none] ?eo ?ec ?eb ?en ?em ?eK ?ecl ?e1 ?e2 ?_
  walk_at "enter"
  intro dp un gd outer A₀ base g L led h G D tk O p loose mean mg mb B X HT hd hu hpre LK F N
  k_fold
  walk_at "steps"
theorem c_sme3_2 (w : World) (l l2 a f : List Nat) (n k : Int) (t1 t2 : Tok) (hok : Ok l) (h108 : 108 ∉ l) (h95 : 95 ∉ l) (h112 : 112 ∉ l) (hne : l ≠ []) (hz : l.length ≤ 300) (hl2 : l = l2 ++ 101 :: numS 10 k.toNat) (hl : l2 = a ++ 46 :: f) (hsep : 101 ∉ l2) (hsep2 : 101 ∉ numS 10 k.toNat) (hk0 : 0 ≤ k) (hk1 : k ≤ 100000) (ha1 : a ≠ []) (hpa : 46 ∉ a) (hpf : 46 ∉ f) (ha : ∀ c ∈ a ++ strR 48 f, c ≠ 0 ∧ c < 128) (hn : (int_private% "readNumeral") 0 (Int.toNat 2) (a ++ strR 48 f) = (int_private% "Numeral.value") n) : Ctr w 216 2 [.str (S l) t1, .int 2 t2] (fun _ _ => True) (fun led v => ∃ D u1 u2, v = .ref D ∧ Has w led D (tupO [.int (n) u1, .int (k - (strR 48 f).length) u2])) := by
  have hzf : (strR 48 f).length ≤ f.length := strR_le
  have hzl := congrArg List.length hl
  simp only [List.length_append, List.length_cons] at hzl
  have hzl2 := congrArg List.length hl2
  simp only [List.length_append, List.length_cons] at hzl2
  have hzz : l2.length ≤ 300 := by omega
  unfold Ctr
  k_fill
  refine' z_enter (r := 1) [("x", .str (S l) t1), ("base", .int 2 t2)] ["sep", "e2", "parts", "exp", "a", "b"] ["x", "base", "sep", "e2", "parts", "exp", "a", "b"] [some (.str (S l) t1), some (.int 2 t2), none, none, none, none, none, none] ?eo ?ec ?eb ?en ?em ?eK ?ecl ?e1 ?e2 ?_
  walk_at "enter"
  intro dp un gd outer A₀ base g L led h G D tk O p loose mean mg mb B X HT hd hu hpre LK F N
  k_fold
  walk_at "steps"
theorem c_sme1_8 (w : World) (l : List Nat) (n : Int) (t1 t2 : Tok) (hok : Ok l) (h108 : 108 ∉ l) (h95 : 95 ∉ l) (h112 : 112 ∉ l) (hne : l ≠ []) (hz : l.length ≤ 300) (hsep : 101 ∉ l) (hpt : 46 ∉ l) (ha : ∀ c ∈ l, c ≠ 0 ∧ c < 128) (hn : (int_private% "readNumeral") 0 (Int.toNat 8) l = (int_private% "Numeral.value") n) : Ctr w 216 2 [.str (S l) t1, .int 8 t2] (fun _ _ => True) (fun led v => ∃ D u1 u2, v = .ref D ∧ Has w led D (tupO [.int (n) u1, .int (0) u2])) := by
  unfold Ctr
  k_fill
  refine' z_enter (r := 1) [("x", .str (S l) t1), ("base", .int 8 t2)] ["sep", "e2", "parts", "exp", "a", "b"] ["x", "base", "sep", "e2", "parts", "exp", "a", "b"] [some (.str (S l) t1), some (.int 8 t2), none, none, none, none, none, none] ?eo ?ec ?eb ?en ?em ?eK ?ecl ?e1 ?e2 ?_
  walk_at "enter"
  intro dp un gd outer A₀ base g L led h G D tk O p loose mean mg mb B X HT hd hu hpre LK F N
  k_fold
  walk_at "steps"
theorem c_sme2_8 (w : World) (l a f : List Nat) (n : Int) (t1 t2 : Tok) (hok : Ok l) (h108 : 108 ∉ l) (h95 : 95 ∉ l) (h112 : 112 ∉ l) (hne : l ≠ []) (hz : l.length ≤ 300) (hl : l = a ++ 46 :: f) (hsep : 101 ∉ l) (ha1 : a ≠ []) (hpa : 46 ∉ a) (hpf : 46 ∉ f) (ha : ∀ c ∈ a ++ strR 48 f, c ≠ 0 ∧ c < 128) (hn : (int_private% "readNumeral") 0 (Int.toNat 8) (a ++ strR 48 f) = (int_private% "Numeral.value") n) : Ctr w 216 2 [.str (S l) t1, .int 8 t2] (fun _ _ => True) (fun led v => ∃ D u1 u2, v = .ref D ∧ Has w led D (tupO [.int (n) u1, .int (0 - (strR 48 f).length) u2])) := by
  have hzf : (strR 48 f).length ≤ f.length := strR_le
  have hzl := congrArg List.length hl
  simp only [List.length_append, List.length_cons] at hzl
  unfold Ctr
  k_fill
  refine' z_enter (r := 1) [("x", .str (S l) t1), ("base", .int 8 t2)] ["sep", "e2", "parts", "exp", "a", "b"] ["x", "base", "sep", "e2", "parts", "exp", "a", "b"] [some (.str (S l) t1), some (.int 8 t2), none, none, none, none, none, none] ?eo ?ec ?eb ?en ?em ?eK ?ecl ?e1 ?e2 ?_
  walk_at "enter"
  intro dp un gd outer A₀ base g L led h G D tk O p loose mean mg mb B X HT hd hu hpre LK F N
  k_fold
  walk_at "steps"
theorem c_sme3_8 (w : World) (l l2 a f : List Nat) (n k : Int) (t1 t2 : Tok) (hok : Ok l) (h108 : 108 ∉ l) (h95 : 95 ∉ l) (h112 : 112 ∉ l) (hne : l ≠ []) (hz : l.length ≤ 300) (hl2 : l = l2 ++ 101 :: numS 10 k.toNat) (hl : l2 = a ++ 46 :: f) (hsep : 101 ∉ l2) (hsep2 : 101 ∉ numS 10 k.toNat) (hk0 : 0 ≤ k) (hk1 : k ≤ 100000) (ha1 : a ≠ []) (hpa : 46 ∉ a) (hpf : 46 ∉ f) (ha : ∀ c ∈ a ++ strR 48 f, c ≠ 0 ∧ c < 128) (hn : (int_private% "readNumeral") 0 (Int.toNat 8) (a ++ strR 48 f) = (int_private% "Numeral.value") n) : Ctr w 216 2 [.str (S l) t1, .int 8 t2] (fun _ _ => True) (fun led v => ∃ D u1 u2, v = .ref D ∧ Has w led D (tupO [.int (n) u1, .int (k - (strR 48 f).length) u2])) := by
  have hzf : (strR 48 f).length ≤ f.length := strR_le
  have hzl := congrArg List.length hl
  simp only [List.length_append, List.length_cons] at hzl
  have hzl2 := congrArg List.length hl2
  simp only [List.length_append, List.length_cons] at hzl2
  have hzz : l2.length ≤ 300 := by omega
  unfold Ctr
  k_fill
  refine' z_enter (r := 1) [("x", .str (S l) t1), ("base", .int 8 t2)] ["sep", "e2", "parts", "exp", "a", "b"] ["x", "base", "sep", "e2", "parts", "exp", "a", "b"] [some (.str (S l) t1), some (.int 8 t2), none, none, none, none, none, none] ?eo ?ec ?eb ?en ?em ?eK ?ecl ?e1 ?e2 ?_
  walk_at "enter"
  intro dp un gd outer A₀ base g L led h G D tk O p loose mean mg mb B X HT hd hu hpre LK F N
  k_fold
  walk_at "steps"
theorem c_sme1_10 (w : World) (l : List Nat) (n : Int) (t1 t2 : Tok) (hok : Ok l) (h108 : 108 ∉ l) (h95 : 95 ∉ l) (h112 : 112 ∉ l) (hne : l ≠ []) (hz : l.length ≤ 300) (hsep : 101 ∉ l) (hpt : 46 ∉ l) (ha : ∀ c ∈ l, c ≠ 0 ∧ c < 128) (hn : (int_private% "readNumeral") 0 (Int.toNat 10) l = (int_private% "Numeral.value") n) : Ctr w 216 2 [.str (S l) t1, .int 10 t2] (fun _ _ => True) (fun led v => ∃ D u1 u2, v = .ref D ∧ Has w led D (tupO [.int (n) u1, .int (0) u2])) := by
  unfold Ctr
  k_fill
  refine' z_enter (r := 1) [("x", .str (S l) t1), ("base", .int 10 t2)] ["sep", "e2", "parts", "exp", "a", "b"] ["x", "base", "sep", "e2", "parts", "exp", "a", "b"] [some (.str (S l) t1), some (.int 10 t2), none, none, none, none, none, none] ?eo ?ec ?eb ?en ?em ?eK ?ecl ?e1 ?e2 ?_
  walk_at "enter"
  intro dp un gd outer A₀ base g L led h G D tk O p loose mean mg mb B X HT hd hu hpre LK F N
  k_fold
  walk_at "steps"
theorem c_sme2_10 (w : World) (l a f : List Nat) (n : Int) (t1 t2 : Tok) (hok : Ok l) (h108 : 108 ∉ l) (h95 : 95 ∉ l) (h112 : 112 ∉ l) (hne : l ≠ []) (hz : l.length ≤ 300) (hl : l = a ++ 46 :: f) (hsep : 101 ∉ l) (ha1 : a ≠ []) (hpa : 46 ∉ a) (hpf : 46 ∉ f) (ha : ∀ c ∈ a ++ strR 48 f, c ≠ 0 ∧ c < 128) (hn : (int_private% "readNumeral") 0 (Int.toNat 10) (a ++ strR 48 f) = (int_private% "Numeral.value") n) : Ctr w 216 2 [.str (S l) t1, .int 10 t2] (fun _ _ => True) (fun led v => ∃ D u1 u2, v = .ref D ∧ Has w led D (tupO [.int (n) u1, .int (0 - (strR 48 f).length) u2])) := by
  have hzf : (strR 48 f).length ≤ f.length := strR_le
  have hzl := congrArg List.length hl
  simp only [List.length_append, List.length_cons] at hzl
  unfold Ctr
  k_fill
  refine' z_enter (r := 1) [("x", .str (S l) t1), ("base", .int 10 t2)] ["sep", "e2", "parts", "exp", "a", "b"] ["x", "base", "sep", "e2", "parts", "exp", "a", "b"] [some (.str (S l) t1), some (.int 10 t2), none, none, none, none, none, none] ?eo ?ec ?eb ?en ?em ?eK ?ecl ?e1 ?e2 ?_
  walk_at "enter"
  intro dp un gd outer A₀ base g L led h G D tk O p loose mean mg mb B X HT hd hu hpre LK F N
  k_fold
  walk_at "steps"
theorem c_sme3_10 (w : World) (l l2 a f : List Nat) (n k : Int) (t1 t2 : Tok) (hok : Ok l) (h108 : 108 ∉ l) (h95 : 95 ∉ l) (h112 : 112 ∉ l) (hne : l ≠ []) (hz : l.length ≤ 300) (hl2 : l = l2 ++ 101 :: numS 10 k.toNat) (hl : l2 = a ++ 46 :: f) (hsep : 101 ∉ l2) (hsep2 : 101 ∉ numS 10 k.toNat) (hk0 : 0 ≤ k) (hk1 : k ≤ 100000) (ha1 : a ≠ []) (hpa : 46 ∉ a) (hpf : 46 ∉ f) (ha : ∀ c ∈ a ++ strR 48 f, c ≠ 0 ∧ c < 128) (hn : (int_private% "readNumeral") 0 (Int.toNat 10) (a ++ strR 48 f) = (int_private% "Numeral.value") n) : Ctr w 216 2 [.str (S l) t1, .int 10 t2] (fun _ _ => True) (fun led v => ∃ D u1 u2, v = .ref D ∧ Has w led D (tupO [.int (n) u1, .int (k - (strR 48 f).length) u2])) := by
  have hzf : (strR 48 f).length ≤ f.length := strR_le
  have hzl := congrArg List.length hl
  simp only [List.length_append, List.length_cons] at hzl
  have hzl2 := congrArg List.length hl2
  simp only [List.length_append, List.length_cons] at hzl2
  have hzz : l2.length ≤ 300 := by omega
  unfold Ctr
  k_fill
  refine' z_enter (r := 1) [("x", .str (S l) t1), ("base", .int 10 t2)] ["sep", "e2", "parts", "exp", "a", "b"] ["x", "base", "sep", "e2", "parts", "exp", "a", "b"] [some (.str (S l) t1), some (.int 10 t2), none, none, none, none, none, none] ?eo ?ec ?eb ?en ?em ?eK ?ecl ?e1 ?e2 ?_
  walk_at "enter"
  intro dp un gd outer A₀ base g L led h G D tk O p loose mean mg mb B X HT hd hu hpre LK F N
  k_fold
  walk_at "steps"
theorem c_sme1_16 (w : World) (l : List Nat) (n : Int) (t1 t2 : Tok) (hok : Ok l) (h108 : 108 ∉ l) (h95 : 95 ∉ l) (h112 : 112 ∉ l) (hne : l ≠ []) (hz : l.length ≤ 300) (hsep : 64 ∉ l) (hpt : 46 ∉ l) (ha : ∀ c ∈ l, c ≠ 0 ∧ c < 128) (hn : (int_private% "readNumeral") 0 (Int.toNat 16) l = (int_private% "Numeral.value") n) : Ctr w 216 2 [.str (S l) t1, .int 16 t2] (fun _ _ => True) (fun led v => ∃ D u1 u2, v = .ref D ∧ Has w led D (tupO [.int (n) u1, .int (0) u2])) := by
  unfold Ctr
  k_fill
  refine' z_enter (r := 1) [("x", .str (S l) t1), ("base", .int 16 t2)] ["sep", "e2", "parts", "exp", "a", "b"] ["x", "base", "sep", "e2", "parts", "exp", "a", "b"] [some (.str (S l) t1), some (.int 16 t2), none, none, none, none, none, none] ?eo ?ec ?eb ?en ?em ?eK ?ecl ?e1 ?e2 ?_
  walk_at "enter"
  intro dp un gd outer A₀ base g L led h G D tk O p loose mean mg mb B X HT hd hu hpre LK F N
  k_fold
  walk_at "steps"
theorem c_sme2_16 (w : World) (l a f : List Nat) (n : Int) (t1 t2 : Tok) (hok : Ok l) (h108 : 108 ∉ l) (h95 : 95 ∉ l) (h112 : 112 ∉ l) (hne : l ≠ []) (hz : l.length ≤ 300) (hl : l = a ++ 46 :: f) (hsep : 64 ∉ l) (ha1 : a ≠ []) (hpa : 46 ∉ a) (hpf : 46 ∉ f) (ha : ∀ c ∈ a ++ strR 48 f, c ≠ 0 ∧ c < 128) (hn : (int_private% "readNumeral") 0 (Int.toNat 16) (a ++ strR 48 f) = (int_private% "Numeral.value") n) : Ctr w 216 2 [.str (S l) t1, .int 16 t2] (fun _ _ => True) (fun led v => ∃ D u1 u2, v = .ref D ∧ Has w led D (tupO [.int (n) u1, .int (0 - (strR 48 f).length) u2])) := by
  have hzf : (strR 48 f).length ≤ f.length := strR_le
  have hzl := congrArg List.length hl
  simp only [List.length_append, List.length_cons] at hzl
  unfold Ctr
  k_fill
  refine' z_enter (r := 1) [("x", .str (S l) t1), ("base", .int 16 t2)] ["sep", "e2", "parts", "exp", "a", "b"] ["x", "base", "sep", "e2", "parts", "exp", "a", "b"] [some (.str (S l) t1), some (.int 16 t2), none, none, none, none, none, none] ?eo ?ec ?eb ?en ?em ?eK ?ecl ?e1 ?e2 ?_
  walk_at "enter"
  intro dp un gd outer A₀ base g L led h G D tk O p loose mean mg mb B X HT hd hu hpre LK F N
  k_fold
  walk_at "steps"
theorem c_sme3_16 (w : World) (l l2 a f : List Nat) (n k : Int) (t1 t2 : Tok) (hok : Ok l) (h108 : 108 ∉ l) (h95 : 95 ∉ l) (h112 : 112 ∉ l) (hne : l ≠ []) (hz : l.length ≤ 300) (hl2 : l = l2 ++ 64 :: numS 10 k.toNat) (hl : l2 = a ++ 46 :: f) (hsep : 64 ∉ l2) (hsep2 : 64 ∉ numS 10 k.toNat) (hk0 : 0 ≤ k) (hk1 : k ≤ 100000) (ha1 : a ≠ []) (hpa : 46 ∉ a) (hpf : 46 ∉ f) (ha : ∀ c ∈ a ++ strR 48 f, c ≠ 0 ∧ c < 128) (hn : (int_private% "readNumeral") 0 (Int.toNat 16) (a ++ strR 48 f) = (int_private% "Numeral.value") n) : Ctr w 216 2 [.str (S l) t1, .int 16 t2] (fun _ _ => True) (fun led v => ∃ D u1 u2, v = .ref D ∧ Has w led D (tupO [.int (n) u1, .int (k - (strR 48 f).length) u2])) := by
  have hzf : (strR 48 f).length ≤ f.length := strR_le
  have hzl := congrArg List.length hl
  simp only [List.length_append, List.length_cons] at hzl
  have hzl2 := congrArg List.length hl2
  simp only [List.length_append, List.length_cons] at hzl2
  have hzz : l2.length ≤ 300 := by omega
  unfold Ctr
  k_fill
  refine' z_enter (r := 1) [("x", .str (S l) t1), ("base", .int 16 t2)] ["sep", "e2", "parts", "exp", "a", "b"] ["x", "base", "sep", "e2", "parts", "exp", "a", "b"] [some (.str (S l) t1), some (.int 16 t2), none, none, none, none, none, none] ?eo ?ec ?eb ?en ?em ?eK ?ecl ?e1 ?e2 ?_
  walk_at "enter"
  intro dp un gd outer A₀ base g L led h G D tk O p loose mean mg mb B X HT hd hu hpre LK F N
  k_fold
  walk_at "steps"
end Mine
/-! part FromS -/
namespace Mine
/-! what from_str needs -/
def Lead (l : List Nat) : Prop := ∃ c r, l = c :: r ∧ 48 ≤ c ∧ c ≤ 57
def Sgd (l : List Nat) : Prop := Lead l ∨ ∃ r, l = 45 :: r ∧ Lead r
def KeysNot (x : Str) : List DictEntry → Prop
  | [] => True
  | e :: r => (∃ y t, e.key = .str (S y) t ∧ S y ≠ x) ∧ KeysNot x r
theorem KeysNot.none {x : Str} : ∀ {l : List DictEntry}, KeysNot x l → l.find? (·.key.isStr x) = none ∧ l.any (·.refKey) = false
  | [], _ => ⟨rfl, rfl⟩
  | e :: r, h => by
    obtain ⟨⟨y, t, hk, hn⟩, hr⟩ := h
    have ⟨h1, h2⟩ := hr.none
    refine ⟨?_, ?_⟩
    · rw [List.find?_cons, isStr_of, hk]
      have : (Value.isStrOf x (.str (S y) t)) = false := by
        unfold Value.isStrOf
        exact beq_false_of_ne hn
      rw [this]
      exact h1
    · rw [List.any_cons, h2, DictEntry.refKey, hk]; rfl
theorem ns_none {K : Frag} {a : Addr} {x : Str} {es : Array DictEntry} {n : Nat} (hl : K.lookup a = some ⟨.type "dict", none, .dict es n, #[]⟩) (hk : KeysNot x es.toList) : nsIn K a x = some none := by
  unfold nsIn
  rw [hl]
  dsimp only
  rw [hk.none.1, hk.none.2]
  rfl
theorem sgd_ne {l y : List Nat} (h : Sgd l) (k : ¬ ∃ c r, y = c :: r ∧ ((48 ≤ c ∧ c ≤ 57) ∨ (c = 45 ∧ ∃ d r', r = d :: r' ∧ 48 ≤ d ∧ d ≤ 57))) : S y ≠ S l := by
  intro e
  have e := S_inj.mp e
  subst e
  rcases h with ⟨c, r, rfl, h⟩ | ⟨r, rfl, c, r', rfl, h⟩
  · exact k ⟨c, r, rfl, .inl h⟩
  · exact k ⟨45, _, rfl, .inr ⟨rfl, c, r', rfl, h⟩⟩
theorem not_special {w : World} {l : List Nat} (h : Sgd l) : nsIn (Mine.hd.heap_39 w.params) 217 (S l) = some none := by
  refine ns_none (hl := rfl) ?_
  refine ⟨⟨[105, 110, 102], _, rfl, ?_⟩, ⟨[43, 105, 110, 102], _, rfl, ?_⟩, ⟨[45, 105, 110, 102], _, rfl, ?_⟩, ⟨[110, 97, 110], _, rfl, ?_⟩, ⟨[111, 111], _, rfl, ?_⟩, ⟨[43, 111, 111], _, rfl, ?_⟩, ⟨[45, 111, 111], _, rfl, ?_⟩, True.intro⟩ <;>
    (refine sgd_ne h ?_; rintro ⟨c, r, e, k⟩; injection e with e1 e2; subst e1; subst e2; simp at k)
theorem lit_n0b : Str.ofString "-0b" = S [45, 48, 98] := by decide
theorem lit_0B : Str.ofString "0B" = S [48, 66] := by decide
theorem lit_n0B : Str.ofString "-0B" = S [45, 48, 66] := by decide
theorem lit_n0x : Str.ofString "-0x" = S [45, 48, 120] := by decide
theorem lit_0X : Str.ofString "0X" = S [48, 88] := by decide
theorem lit_n0X : Str.ofString "-0X" = S [45, 48, 88] := by decide
theorem lit_n0o : Str.ofString "-0o" = S [45, 48, 111] := by decide
def bgn (a b : List Nat) (l : List Nat) : Bool := l.take 2 == a ++ b || l.take 3 == 45 :: (a ++ b)
theorem st_b {l : List Nat} {t1 t2 t3 t4 : Tok} {b : Bool} (h : (bgn [48] [98] l || bgn [48] [66] l) = b) : ([(Str.ofString "0b", t1), (Str.ofString "-0b", t2), (Str.ofString "0B", t3), (Str.ofString "-0B", t4)].any fun p => Txt.startswith (S l) p.1) = b := by
  rw [← h]
  simp only [List.any_cons, List.any_nil, lit_0b, lit_n0b, lit_0B, lit_n0B, starts_S, bgn, Bool.or_false, Bool.or_assoc]
  rfl
theorem st_x {l : List Nat} {t1 t2 t3 t4 : Tok} {b : Bool} (h : (bgn [48] [120] l || bgn [48] [88] l) = b) : ([(Str.ofString "0x", t1), (Str.ofString "-0x", t2), (Str.ofString "0X", t3), (Str.ofString "-0X", t4)].any fun p => Txt.startswith (S l) p.1) = b := by
  rw [← h]
  simp only [List.any_cons, List.any_nil, lit_0x, lit_n0x, lit_0X, lit_n0X, starts_S, bgn, Bool.or_false, Bool.or_assoc]
  rfl
theorem st_o {l : List Nat} {t1 t2 : Tok} {b : Bool} (h : bgn [48] [111] l = b) : ([(Str.ofString "0o", t1), (Str.ofString "-0o", t2)].any fun p => Txt.startswith (S l) p.1) = b := by
  rw [← h]
  simp only [List.any_cons, List.any_nil, lit_0o, lit_n0o, starts_S, bgn, Bool.or_false]
  rfl
/-- the leading of a text in a base -/
def Lit (b : Nat) (l : List Nat) : Prop := (bgn [48] [98] l || bgn [48] [66] l) = (b == 2) ∧ (bgn [48] [120] l || bgn [48] [88] l) = (b == 16) ∧ bgn [48] [111] l = (b == 8)
section
variable {w : World} {A : Around} {E : Value → Shared → Prop} {h : Heap} {G : Array GenState} {D : Drawn} {tk : Nat} {O : OsState} {Q : Value → Shared → Prop} {a n r : Int} {t u : Tok} {g : Heap} {L : Addr} {m : Str → Option Value} {led : Led} {l : List Nat} {y : Str} {c : Nat}
theorem z_abs (q : ∀ u tk', Q (.int (if a < 0 then -a else a) u) ⟨h, G, D, tk', O⟩) :
    wpAny (model PySem.Challenge.rw_aj5018_01.row.prog w) A (call (.builtin "abs") [.int a t]) Q E ⟨h, G, D, tk, O⟩ := call_abs_int q
theorem z_inS (hy : y = S [c]) (hc : c ∉ l) (q : Q (.bool false) ⟨h, G, D, tk, O⟩) :
    wpAny (model PySem.Challenge.rw_aj5018_01.row.prog w) A (compareOp .In (.str y u) (.str (S l) t)) Q E ⟨h, G, D, tk, O⟩ := by
  subst hy
  refine in_gives (typeIs_str _ _ _) F.slot_str_contains F.entry_str_contains (F.args_str_contains_2 _ _) (gives_str_contains _ _ _ _) ?_
  rw [occ_nil hc (by omega)]
  exact q
theorem z_inK (F : Fr g L h m) (X : (Mine.hd.heap_39 w.params).In g) (hs : Sgd l) (q : Q (.bool false) ⟨h, G, D, tk + 1, O⟩) :
    wpAny (model PySem.Challenge.rw_aj5018_01.row.prog w) A (compareOp .In (.str (S l) t) (.ref 217)) Q E ⟨h, G, D, tk, O⟩ :=
  topIn_K F X rfl (by k_keys) (not_special hs) (by decide) q
end
def fsv (b man exp prec : Int) (r : Rnd) : Mpf :=
  if b = 10 then (if 0 ≤ exp then fme (man * 10 ^ exp.toNat) 0 prec r else ratP man (10 ^ (-exp).toNat) prec r)
  else fme man (exp * ((Builtin.Int.intBits b : Int) - 1)) prec r
theorem fsv_a {man exp prec : Int} {r : Rnd} (h : 0 ≤ exp) : fsv 10 man exp prec r = fme (man * 10 ^ exp.toNat) 0 prec r := by
  unfold fsv; rw [if_pos rfl, if_pos h]
theorem fsv_b {man exp prec : Int} {r : Rnd} (h : exp < 0) : fsv 10 man exp prec r = ratP man (10 ^ (-exp).toNat) prec r := by
  unfold fsv; rw [if_pos rfl, if_neg (by omega)]
theorem fsv_2 {man exp prec : Int} {r : Rnd} : fsv 2 man exp prec r = fme man (exp * (2 - 1)) prec r := by
  unfold fsv; rw [if_neg (by decide), bl2]
theorem fsv_8 {man exp prec : Int} {r : Rnd} : fsv 8 man exp prec r = fme man (exp * (4 - 1)) prec r := by
  unfold fsv; rw [if_neg (by decide), bl8]
theorem fsv_16 {man exp prec : Int} {r : Rnd} : fsv 16 man exp prec r = fme man (exp * (5 - 1)) prec r := by
  unfold fsv; rw [if_neg (by decide), bl16]
theorem abs_le {a k : Int} (h1 : -k ≤ a) (h2 : a ≤ k) (h : k < (if a < 0 then -a else a)) : False := by
  split at h <;> omega
theorem size10 {n : Int} (h : n ≤ 400) : (Builtin.Int.intBits 10 : Int) * n ≤ 2 ^ 27 := by rw [bl10]; omega
theorem bits10 {n : Int} (h : n ≤ 400) : Builtin.Int.intBits ((10 : Int) ^ n.toNat) ≤ 1601 := by
  have := intBits_pow 10 n.toNat
  have e : Builtin.Int.intBits 10 = 4 := by decide +kernel
  rw [e] at this
  omega
theorem mul10 {man n : Int} (hm : Builtin.Int.intBits man ≤ 2000) (h : n ≤ 400) : IntMulOk man (10 ^ n.toNat) := mulOk hm (bits10 h)
theorem mulS {e k : Int} (h1 : -400 ≤ e) (h2 : e ≤ 400) (hk : Builtin.Int.intBits k ≤ 10) : IntMulOk e k := by
  refine mulOk (a := 10) (b := 10) ?_ hk
  rw [intBits_le_iff']
  omega
theorem bits_m10 {man n : Int} (hm : Builtin.Int.intBits man ≤ 2000) (h : n ≤ 400) : Builtin.Int.intBits (man * 10 ^ n.toNat) ≤ 1000000 := by
  have := intBits_mul man (10 ^ n.toNat)
  have := bits10 h
  omega
theorem pos10 {n : Int} : (0 : Int) < 10 ^ n.toNat := Int.pow_pos (by decide)
end Mine
/-! part W15 -/
namespace Mine
theorem flushW15 : (0 : Nat) = 0 := by
  w_top off
  first | walk1 | rfl
local macro_rules | `(tactic| walk_at "has") => `(tactic| first | (with_reducible assumption) | exact Has.here | (refine Has.cons ?_; walk_at "has") | (refine Has.sub (by with_reducible assumption) ?_; walk_at "has") | exact has_zero | exact has_nan | exact has_inf | exact has_ninf)
local macro_rules | `(tactic| walk_at "subs") => `(tactic| first | (with_reducible assumption) | exact sub_refl | (refine sub_cons ?_; walk_at "subs") | (refine sub_trans (by with_reducible assumption) ?_; walk_at "subs"))
local macro_rules | `(tactic| kun_tup) => `(tactic| exact Has.tup (by k_asm) (by k_asm) (by k_asm) (by walk_at "has"))
local macro_rules | `(tactic| walk_at "Fin") => `(tactic| ((refine ⟨_, _, by with_reducible assumption, by with_reducible assumption, by walk_at "subs", ?_, rfl⟩); walk_at "post"))
local macro_rules | `(tactic| walk_at "steps") => `(tactic| repeat' (first | (k_unfold) | walk1 | fail "no step"))
local macro_rules | `(tactic| walk_at "isR") => `(tactic| with_reducible first | assumption | exact isR _ | exact isR_n | exact isR_f | exact isR_c | exact isR_d | exact isR_u)
local macro_rules | `(tactic| walk_at "use") => `(tactic| ((case B => k_asm); (case F => k_asm); (case X => k_asm); (case N => k_asm); (case T => k_asm); (case kK => first | exact rfl | assumption); (case kd => first | omega | ktr_room); (case ku => first | omega | ktr_units)))
local macro_rules | `(tactic| walk_at "back") => `(tactic| (intro v9 h9 tk9 led9 F9 N9 s9 p9; k_dflt (first | (obtain ⟨D9, ta9, tb9, tc9, td9, e9, hM9⟩ := p9; subst e9) | (obtain ⟨y9, ⟨D9, ta9, tb9, tc9, td9, e9, hM9⟩, hy9⟩ := p9; subst e9) | (obtain ⟨c9, t9, e9, hc9⟩ := p9; subst e9) | (obtain ⟨t9, e9⟩ := p9; subst e9) | skip); (try k_sweep); (try k_fold)))
local macro_rules | `(tactic| walk_at "enter") => `(tactic| ((case eo => k_is); (case ec => k_is); (case eb => exact fun _ => by rfl); (case en => exact rfl); (case em => exact rfl); (case eK => exact ⟨by decide +kernel, rfl, by decide +kernel⟩); (case ecl => decide +kernel); (case e1 => exact rfl); (case e2 => exact rfl)))
local macro_rules | `(tactic| walk_at "side") => `(tactic| first | omega | decide | assumption)
local macro_rules | `(tactic| walk_at "binaryOp Add int int") => `(tactic| refine z_add ?_)
local macro_rules | `(tactic| walk_at "binaryOp Sub int int") => `(tactic| refine z_sub ?_)
local macro_rules | `(tactic| walk_at "binaryOp Mult int int") => `(tactic| refine z_mul (by walk_at "mulok") ?_)
local macro_rules | `(tactic| walk_at "binaryOp Mod int int") => `(tactic| refine z_mod (by walk_at "side") ?_)
local macro_rules | `(tactic| walk_at "binaryOp Pow int int") => `(tactic| refine z_pow (by walk_at "side") (by walk_at "size") ?_)
local macro_rules | `(tactic| walk_at "binaryOp LShift int int") => `(tactic| refine z_shl (by walk_at "side") (by walk_at "size") ?_)
local macro_rules | `(tactic| walk_at "binaryOp RShift int int") => `(tactic| refine z_shr (by walk_at "side") ?_)
local macro_rules | `(tactic| walk_at "binaryOp BitAnd int int") => `(tactic| refine z_and ?_)
local macro_rules | `(tactic| walk_at "binaryOp BitXor int int") => `(tactic| refine z_xor ?_)
local macro_rules | `(tactic| walk_at "unaryOp USub int") => `(tactic| refine z_neg ?_)
local macro_rules | `(tactic| walk_at "inplaceOp Add int int") => `(tactic| refine z_iadd ?_)
local macro_rules | `(tactic| walk_at "inplaceOp Sub int int") => `(tactic| refine z_isub ?_)
local macro_rules | `(tactic| walk_at "inplaceOp Mult int int") => `(tactic| refine z_imul (by walk_at "mulok") ?_)
local macro_rules | `(tactic| walk_at "inplaceOp RShift int int") => `(tactic| refine z_ishr (by walk_at "side") ?_)
local macro_rules | `(tactic| walk_at "inplaceOp LShift int int") => `(tactic| refine z_ishl (by walk_at "side") (by walk_at "size") ?_)
local macro_rules | `(tactic| walk_at "inplaceOp BitXor int int") => `(tactic| refine z_ixor ?_)
local macro_rules | `(tactic| walk_at "eval Constant int") => `(tactic| refine z_const ?_)
local macro_rules | `(tactic| walk_at "eval Constant str") => `(tactic| refine z_text ?_)
local macro_rules | `(tactic| walk_at "storeName") => `(tactic| (with_reducible (first | refine st0 (by assumption) (by assumption) (by assumption) ?_ | refine st1 (by assumption) (by assumption) (by assumption) ?_ | refine st2 (by assumption) (by assumption) (by assumption) ?_ | refine st3 (by assumption) (by assumption) (by assumption) ?_ | refine st4 (by assumption) (by assumption) (by assumption) ?_ | refine st5 (by assumption) (by assumption) (by assumption) ?_ | refine st6 (by assumption) (by assumption) (by assumption) ?_ | refine st7 (by assumption) (by assumption) (by assumption) ?_ | refine st8 (by assumption) (by assumption) (by assumption) ?_ | refine st9 (by assumption) (by assumption) (by assumption) ?_ | refine st10 (by assumption) (by assumption) (by assumption) ?_ | refine st11 (by assumption) (by assumption) (by assumption) ?_ | refine st12 (by assumption) (by assumption) (by assumption) ?_ | refine st13 (by assumption) (by assumption) (by assumption) ?_ | refine st14 (by assumption) (by assumption) (by assumption) ?_ | refine st15 (by assumption) (by assumption) (by assumption) ?_ | refine st16 (by assumption) (by assumption) (by assumption) ?_ | refine st17 (by assumption) (by assumption) (by assumption) ?_); intro h' tk' F' N'; (try k_sweep)))
local macro_rules | `(tactic| walk_at "eval Name") => `(tactic| with_reducible (first | refine ld0 (by assumption) (by assumption) ?_ | refine ld1 (by assumption) (by assumption) ?_ | refine ld2 (by assumption) (by assumption) ?_ | refine ld3 (by assumption) (by assumption) ?_ | refine ld4 (by assumption) (by assumption) ?_ | refine ld5 (by assumption) (by assumption) ?_ | refine ld6 (by assumption) (by assumption) ?_ | refine ld7 (by assumption) (by assumption) ?_ | refine ld8 (by assumption) (by assumption) ?_ | refine ld9 (by assumption) (by assumption) ?_ | refine ld10 (by assumption) (by assumption) ?_ | refine ld11 (by assumption) (by assumption) ?_ | refine ld12 (by assumption) (by assumption) ?_ | refine ld13 (by assumption) (by assumption) ?_ | refine ld14 (by assumption) (by assumption) ?_ | refine ld15 (by assumption) (by assumption) ?_ | refine ld16 (by assumption) (by assumption) ?_ | refine ld17 (by assumption) (by assumption) ?_))
local macro_rules | `(tactic| walk_at "loadName") => `(tactic| with_reducible (first | refine ln0 (by assumption) (by assumption) ?_ | refine ln1 (by assumption) (by assumption) ?_ | refine ln2 (by assumption) (by assumption) ?_ | refine ln3 (by assumption) (by assumption) ?_ | refine ln4 (by assumption) (by assumption) ?_ | refine ln5 (by assumption) (by assumption) ?_ | refine ln6 (by assumption) (by assumption) ?_ | refine ln7 (by assumption) (by assumption) ?_ | refine ln8 (by assumption) (by assumption) ?_ | refine ln9 (by assumption) (by assumption) ?_ | refine ln10 (by assumption) (by assumption) ?_ | refine ln11 (by assumption) (by assumption) ?_ | refine ln12 (by assumption) (by assumption) ?_ | refine ln13 (by assumption) (by assumption) ?_ | refine ln14 (by assumption) (by assumption) ?_ | refine ln15 (by assumption) (by assumption) ?_ | refine ln16 (by assumption) (by assumption) ?_ | refine ln17 (by assumption) (by assumption) ?_))
local macro_rules | `(tactic| walk_at "execs cons") => `(tactic| with_reducible refine wpAny_execs_cons ?_)
local macro_rules | `(tactic| walk_at "newTuple") => `(tactic| (k_dflt (refine' z_tuple ?F ?N ?z ?_; (case F => k_asm); (case N => k_asm); (case z => kmk_size)); intro T' h' F' N'; (try k_sweep)))
local macro_rules | `(tactic| walk_at "assign Tuple") => `(tactic| ((with_reducible show wpAny _ _ (assign (Expr.Tuple _ _ _) _ (Value.ref _)) _ _ _); k_dflt (refine' z_unpack ?F ?X ?N ?H ?h ?n ?st ?_; (case F => k_asm); (case X => k_asm); (case N => k_asm); (case H => walk_at "has"); (case h => exact rfl); (case n => exact rfl); (case st => exact rfl)); intro h' F' N'; (try k_sweep)))
local macro_rules | `(tactic| walk_at "dead") => `(tactic| first | omega | contradiction)
local macro_rules | `(tactic| walk_at "cond") => `(tactic| (intro hb; (try simp only [bne_iff_ne, beq_iff_eq, Bool.not_eq_true', Bool.not_eq_false', bne_eq_false_iff_eq, beq_eq_false_iff_ne, Bool.not_eq_true, Bool.not_eq_false, decide_eq_true_eq, decide_eq_false_iff_not, ne_eq, mpf_eq_iff, true_and, and_true, false_and, and_false, not_false_eq_true, not_true_eq_false, Decidable.not_not, Bool.not_not, Int.not_le, Int.not_lt] at hb); (try (exfalso; walk_at "dead"))))
local macro_rules | `(tactic| walk_at "ite") => `(tactic| first | with_reducible rw [if_pos True.intro] | with_reducible rw [if_neg not_false] | with_reducible rw [if_pos rfl] | (with_reducible (refine split_dec ?_ ?_ <;> walk_at "cond")) | (with_reducible (refine split_bool ?_ ?_ <;> walk_at "cond")))

local macro_rules | `(tactic| walk_at "compareOp Eq ref ref") => `(tactic| (k_dflt (refine' z_eqM ?F ?X ?N ?x ?y ?u ?_; (case F => k_asm); (case X => k_asm); (case N => k_asm); (case x => walk_at "has"); (case y => walk_at "has"); (case u => first | omega | ktr_units))))
local macro_rules | `(tactic| walk_at "compareOp NotEq ref ref") => `(tactic| (k_dflt (refine' z_neM ?F ?X ?N ?x ?y ?u ?_; (case F => k_asm); (case X => k_asm); (case N => k_asm); (case x => walk_at "has"); (case y => walk_at "has"); (case u => first | omega | ktr_units))))

local macro_rules | `(tactic| walk_at "pyl") => `(tactic| first | assumption | decide +kernel)
local macro_rules | `(tactic| walk_at "call builtin:divmod") => `(tactic| (k_dflt (refine' z_divmod ?F ?N ?b ?p ?_; (case F => k_asm); (case N => k_asm); (case b => walk_at "side"); (case p => walk_at "pyl")); intro T' h' F' N'; (try k_sweep)))
local macro_rules | `(tactic| walk_at "binaryOp FloorDiv int int") => `(tactic| refine z_fdiv (by walk_at "side") (by walk_at "pyl") ?_)

local macro_rules | `(tactic| walk_at "subscriptTail Name Constant ref int") => `(tactic| (k_dflt (refine' z_item ?F ?X ?N ?x _ ?lo ?hi ?j ?v ?_ ?s; (case F => k_asm); (case X => k_asm); (case N => k_asm); (case x => walk_at "has"); (case lo => decide); (case hi => decide); (case j => exact rfl); (case v => exact rfl); (case s => with_unfolding_all rfl))))
def IsC (w : World) (l : List Nat) (b man exp : Int) : Prop := ∀ t1 t2 : Tok, Ctr w 216 2 [.str (S l) t1, .int b t2] (fun _ _ => True) (fun led v => ∃ D u1 u2, v = .ref D ∧ Has w led D (tupO [.int man u1, .int exp u2]))
section
variable {w : World} {A : Around} {E : Value → Shared → Prop} {h : Heap} {G : Array GenState} {D : Drawn} {tk : Nat} {O : OsState} {Q : Value → Shared → Prop} {g : Heap} {L : Addr} {m : Str → Option Value} {led : Led} {l : List Nat} {T : Addr} {t t1 t2 t3 t4 : Tok} {b : Bool}
theorem z_startsB (FF : Fr g L h m) (X : (Mine.hd.heap_39 w.params).In g) (N : News g L h ((T, tupO [.str (Str.ofString "0b") t1, .str (Str.ofString "-0b") t2, .str (Str.ofString "0B") t3, .str (Str.ofString "-0B") t4]) :: led)) (hb : (bgn [48] [98] l || bgn [48] [66] l) = b) (q : Q (.bool b) ⟨h, G, D, tk, O⟩) :
    wpAny (model PySem.Challenge.rw_aj5018_01.row.prog w) A (call (.builtin "str.startswith") [.str (S l) t, .ref T]) Q E ⟨h, G, D, tk, O⟩ :=
  z_starts (vs := [(Str.ofString "0b", t1), (Str.ofString "-0b", t2), (Str.ofString "0B", t3), (Str.ofString "-0B", t4)]) FF X N Has.here (st_b hb) q
theorem z_startsX (FF : Fr g L h m) (X : (Mine.hd.heap_39 w.params).In g) (N : News g L h ((T, tupO [.str (Str.ofString "0x") t1, .str (Str.ofString "-0x") t2, .str (Str.ofString "0X") t3, .str (Str.ofString "-0X") t4]) :: led)) (hb : (bgn [48] [120] l || bgn [48] [88] l) = b) (q : Q (.bool b) ⟨h, G, D, tk, O⟩) :
    wpAny (model PySem.Challenge.rw_aj5018_01.row.prog w) A (call (.builtin "str.startswith") [.str (S l) t, .ref T]) Q E ⟨h, G, D, tk, O⟩ :=
  z_starts (vs := [(Str.ofString "0x", t1), (Str.ofString "-0x", t2), (Str.ofString "0X", t3), (Str.ofString "-0X", t4)]) FF X N Has.here (st_x hb) q
theorem z_startsO (FF : Fr g L h m) (X : (Mine.hd.heap_39 w.params).In g) (N : News g L h ((T, tupO [.str (Str.ofString "0o") t1, .str (Str.ofString "-0o") t2]) :: led)) (hb : bgn [48] [111] l = b) (q : Q (.bool b) ⟨h, G, D, tk, O⟩) :
    wpAny (model PySem.Challenge.rw_aj5018_01.row.prog w) A (call (.builtin "str.startswith") [.str (S l) t, .ref T]) Q E ⟨h, G, D, tk, O⟩ :=
  z_starts (vs := [(Str.ofString "0o", t1), (Str.ofString "-0o", t2)]) FF X N Has.here (st_o hb) q
end
theorem IsC.at {w : World} {l : List Nat} {b man exp : Int} (h : IsC w l b man exp) (t1 t2 : Tok) : Ctr w 216 2 [.str (S l) t1, .int b t2] (fun _ _ => True) (fun led v => ∃ D u1 u2, v = .ref D ∧ Has w led D (tupO [.int man u1, .int exp u2])) := h t1 t2
local macro_rules | `(tactic| walk_at "isS") => `(tactic| first | with_reducible exact S_rfl | exact lit_0p | exact lit_p | exact lit_at | exact lit_e | exact lit_m | exact lit_n | exact lit_0 | exact lit_0b | exact lit_0o | exact lit_0x)
local macro_rules | `(tactic| walk_at "lz") => `(tactic| first | assumption | omega | ((try simp only [List.length_append, List.length_cons, List.length_nil, List.length_replicate]); omega))
local macro_rules | `(tactic| walk_at "binaryOp Add str str") => `(tactic| (refine z_cat (by walk_at "isS") (by walk_at "isS") (by walk_at "lz") ?_; intro t' tk'))
local macro_rules | `(tactic| walk_at "isC") => `(tactic| first | with_reducible exact S_rfl | exact lit_l | exact lit_us | exact lit_pp | exact lit_sl | exact lit_e | exact lit_at | exact lit_p | exact lit_0)
local macro_rules | `(tactic| walk_at "nin") => `(tactic| first | assumption | exact nin_of (by assumption) (by assumption))
local macro_rules | `(tactic| walk_at "tsz") => `(tactic| first | assumption | omega | (simp only [List.length_append, List.length_cons, List.length_reverse]; omega))
local macro_rules | `(tactic| walk_at "call builtin:str.lower") => `(tactic| (with_reducible refine z_lower (by assumption) (by walk_at "tsz") ?_; intro t' tk'))
local macro_rules | `(tactic| walk_at "call builtin:str.strip") => `(tactic| (with_reducible refine z_strip (by assumption) (by walk_at "tsz") ?_; intro t' tk'))
local macro_rules | `(tactic| walk_at "call builtin:str.rstrip") => `(tactic| (refine z_rstrip (by walk_at "isC") (by walk_at "tsz") ?_; intro t' tk'))
local macro_rules | `(tactic| walk_at "call builtin:str.rstrip") => `(tactic| (refine z_rstrip0 (by walk_at "isC") (by walk_at "nin") (by walk_at "tsz") ?_; intro t' tk'))
local macro_rules | `(tactic| walk_at "call builtin:str.replace") => `(tactic| (refine z_replace (by walk_at "isC") (by walk_at "nin") ?_))
local macro_rules | `(tactic| walk_at "call builtin:str.find") => `(tactic| (refine z_find (by walk_at "isC") (by walk_at "nin") ?_))
local macro_rules | `(tactic| walk_at "call builtin:len cons nil str") => `(tactic| (refine z_slen (by walk_at "tsz") ?_))
local macro_rules | `(tactic| walk_at "call builtin:len") => `(tactic| ((with_reducible show wpAny _ _ (call (Value.builtin "len") [Value.str (S _) _]) _ _ _); refine z_slen (by walk_at "tsz") ?_))
local macro_rules | `(tactic| walk_at "call builtin:str.split") => `(tactic| (k_dflt (first | (refine' z_split1 ?F ?N ?y ?l ?c ?z ?_; (case F => k_asm); (case N => k_asm); (case y => walk_at "isC"); (case l => assumption); (case c => walk_at "nin"); (case z => walk_at "tsz"); intro T' h' tk' t1 F' N') | (refine' z_split2 ?F ?N ?y ?l ?a ?b ?z ?_; (case F => k_asm); (case N => k_asm); (case y => walk_at "isC"); (case l => assumption); (case a => walk_at "nin"); (case b => walk_at "nin"); (case z => walk_at "tsz"); intro T' h' tk' t1 t2 F' N')); (try k_sweep)))
local macro_rules | `(tactic| walk_at "call type:int") => `(tactic| (with_reducible refine z_int1 (by walk_at "side") (by walk_at "side") ?_))
local macro_rules | `(tactic| walk_at "call type:int") => `(tactic| (with_reducible refine z_int2 (by walk_at "side") (by walk_at "side") (by walk_at "tsz") (by assumption) (by assumption) ?_))
local macro_rules | `(tactic| walk_at "call builtin:int.bit_length") => `(tactic| with_reducible first | refine z_bl 2 bl2 ?_ | refine z_bl 4 bl8 ?_ | refine z_bl 4 bl10 ?_ | refine z_bl 5 bl16 ?_)
local macro_rules | `(tactic| walk_at "call builtin:pow") => `(tactic| first | refine z_powF 2 pw1 (by decide) (by decide +kernel) ?_ | refine z_powF 8 pw3 (by decide) (by decide +kernel) ?_ | refine z_powF 16 pw4 (by decide) (by decide +kernel) ?_)
local macro_rules | `(tactic| walk_at "memL") => `(tactic| first | exact List.mem_cons_self | (refine List.mem_cons_of_mem _ ?_; walk_at "memL"))
local macro_rules | `(tactic| walk_at "subscriptTail Name Constant ref int") => `(tactic| (k_dflt (refine' z_itemL ?N ?m ?h0 ?h1 ?j ?_ ?s; (case N => k_asm); (case m => walk_at "memL"); (case h0 => decide); (case h1 => decide); (case j => exact rfl); (case s => with_unfolding_all rfl))))
local macro_rules | `(tactic| walk_at "dead") => `(tactic| first | omega | contradiction | exact absurd (by assumption) lit_ne1 | exact absurd (by assumption) lit_ne2 | exact S_ne_nil (by assumption) (by assumption))
local macro_rules | `(tactic| walk_at "call ref") => `(tactic| ((with_reducible show wpAny _ _ (call (Value.ref 92) [_, _, _]) _ _ _); k_dflt (refine' z_use (c_from_int3 _ _ _ _ _ _ _ ?hp ?hbs) ?B ?F ?X ?N ?T ?kK ?kd ?ku ?kp ?_); walk_at "use"; (case kp => trivial); (case hp => walk_at "side"); (case hbs => walk_at "side"); walk_at "back"))
local macro_rules | `(tactic| walk_at "call ref") => `(tactic| ((with_reducible show wpAny _ _ (call (Value.ref 84) [_, _, _, _]) _ _ _); k_dflt (refine' z_use (c_from_man_exp _ _ _ _ _ _ _ _ _ ?hp ?hbs) ?B ?F ?X ?N ?T ?kK ?kd ?ku ?kp ?_); walk_at "use"; (case kp => trivial); (case hp => walk_at "side"); (case hbs => walk_at "side"); walk_at "back"))
local macro_rules | `(tactic| walk_at "call ref") => `(tactic| ((with_reducible show wpAny _ _ (call (Value.ref 108) [_, _, _, _]) _ _ _); k_dflt (refine' z_use (c_from_rational _ _ _ _ _ _ _ _ _ ?hq0 ?hpp ?hpb ?hbp ?hbq) ?B ?F ?X ?N ?T ?kK ?kd ?ku ?kp ?_); walk_at "use"; (case kp => trivial); (case hq0 => walk_at "side"); (case hpp => walk_at "side"); (case hpb => walk_at "side"); (case hbp => walk_at "side"); (case hbq => walk_at "side"); walk_at "back"))
local macro_rules | `(tactic| walk_at "call ref") => `(tactic| ((with_reducible show wpAny _ _ (call (Value.ref 216) _) _ _ _); k_dflt (refine' z_use (IsC.at ?hC _ _) ?B ?F ?X ?N ?T ?kK ?kd ?ku ?kp ?_); (case hC => assumption); walk_at "use"; (case kp => trivial); (intro v9 h9 tk9 led9 F9 N9 s9 p9; k_dflt (obtain ⟨D9, ta9, tb9, e9, hM9⟩ := p9; subst e9); (try k_sweep); (try k_fold))))
local macro_rules | `(tactic| walk_at "side") => `(tactic| first | omega | assumption | decide | exact bits_m10 (by assumption) (by omega) | exact pos10 | exact Nat.le_trans (bits10 (by omega)) (by decide) | exact Nat.le_trans (by assumption) (by decide))
local macro_rules | `(tactic| walk_at "size") => `(tactic| exact size10 (by omega))
local macro_rules | `(tactic| walk_at "mulok") => `(tactic| first | exact mul10 (by assumption) (by omega) | exact mulS (by assumption) (by assumption) (by decide +kernel))
local macro_rules | `(tactic| walk_at "hb") => `(tactic| first | ((with_reducible show (List.any [(Str.ofString "0b", _), _, _, _] _) = _); exact st_b (by assumption)) | ((with_reducible show (List.any [(Str.ofString "0x", _), _, _, _] _) = _); exact st_x (by assumption)) | ((with_reducible show (List.any [(Str.ofString "0o", _), _] _) = _); exact st_o (by assumption)) | exact st_b (by assumption) | exact st_x (by assumption) | exact st_o (by assumption))
local macro_rules | `(tactic| walk_at "call builtin:str.startswith") => `(tactic| (k_dflt (first | (refine' z_startsB ?FF ?X ?N ?hb ?_; (case N => with_reducible assumption); (case FF => k_asm); (case X => k_asm); (case hb => assumption)) | (refine' z_startsX ?FF ?X ?N ?hb ?_; (case N => with_reducible assumption); (case FF => k_asm); (case X => k_asm); (case hb => assumption)) | (refine' z_startsO ?FF ?X ?N ?hb ?_; (case N => with_reducible assumption); (case FF => k_asm); (case X => k_asm); (case hb => assumption)))))
local macro_rules | `(tactic| walk_at "compareOp In str ref") => `(tactic| (k_dflt (refine' z_inK ?F ?X ?hs ?_; (case F => k_asm); (case X => k_asm); (case hs => assumption))))
local macro_rules | `(tactic| walk_at "compareOp In str str") => `(tactic| (refine z_inS (by walk_at "isC") (by walk_at "nin") ?_))
local macro_rules | `(tactic| walk_at "call builtin:abs") => `(tactic| (refine z_abs ?_; intro u' tk'))
local macro_rules | `(tactic| walk_at "dead") => `(tactic| first | omega | contradiction | exact abs_le (by assumption) (by assumption) (by assumption))
local macro_rules | `(tactic| walk_at "post") => `(tactic| first | exact mpf_of fsv_2 (by assumption) | exact mpf_of fsv_8 (by assumption) | exact mpf_of fsv_16 (by assumption) | exact mpf_of (fsv_a (by assumption)) (by assumption) | exact mpf_of (fsv_b (by assumption)) (by assumption) | (refine mpf_of fsv_2 ⟨_, _, _, _, _, rfl, by walk_at "has"⟩) | (refine mpf_of fsv_8 ⟨_, _, _, _, _, rfl, by walk_at "has"⟩) | (refine mpf_of fsv_16 ⟨_, _, _, _, _, rfl, by walk_at "has"⟩) | (refine mpf_of (fsv_a (by assumption)) ⟨_, _, _, _, _, rfl, by walk_at "has"⟩) | (refine mpf_of (fsv_b (by assumption)) ⟨_, _, _, _, _, rfl, by walk_at "has"⟩))
theorem c_fs3_2 (w : World) (l : List Nat) (man exp prec : Int) (r : Rnd) (t1 t2 t3 : Tok) (hok : Ok l) (h47 : 47 ∉ l) (h112 : 112 ∉ l) (hsg : Sgd l) (hli : Lit 2 l) (hz : l.length ≤ 300) (hp : 0 < prec) (hpb : prec ≤ 30000) (hm : Builtin.Int.intBits man ≤ 2000) (he1 : -400 ≤ exp) (he2 : exp ≤ 400) (hC : IsC w l 2 man exp) : Ctr w 225 14 [.str (S l) t1, .int prec t2, .str r.str t3] (fun _ _ => True) (fun led v => IsMpf w led v (fsv 2 man exp prec r)) := by
  obtain ⟨hl1, hl2, hl3⟩ := hli
  have hl1 : (bgn [48] [98] l || bgn [48] [66] l) = true := hl1
  have hl2 : (bgn [48] [120] l || bgn [48] [88] l) = false := hl2
  have hl3 : bgn [48] [111] l = false := hl3
  unfold Ctr
  k_fill
  refine' z_enter (r := 13) [("x", .str (S l) t1), ("prec", .int prec t2), ("rnd", .str r.str t3), ("base", .int 0 626)] ["p", "q", "man", "exp", "s", "e2"] ["x", "prec", "rnd", "base", "p", "q", "man", "exp", "s", "e2"] [some (.str (S l) t1), some (.int prec t2), some (.str r.str t3), some (.int 0 626), none, none, none, none, none, none] ?eo ?ec ?eb ?en ?em ?eK ?ecl ?e1 ?e2 ?_
  walk_at "enter"
  intro dp un gd outer A₀ base g L led h G D tk O p loose mean mg mb B X HT hd hu hpre LK F N
  k_fold
  walk_at "steps"
theorem c_fs1_2 (w : World) (l : List Nat) (man exp : Int) (t1 : Tok) (hok : Ok l) (h47 : 47 ∉ l) (h112 : 112 ∉ l) (hsg : Sgd l) (hli : Lit 2 l) (hz : l.length ≤ 300) (hm : Builtin.Int.intBits man ≤ 2000) (he1 : 0 ≤ exp) (he2 : exp ≤ 400) (hC : IsC w l 2 man exp) : Ctr w 225 14 [.str (S l) t1] (fun _ _ => True) (fun led v => IsMpf w led v (fsv 2 man exp 0 .d)) := by
  obtain ⟨hl1, hl2, hl3⟩ := hli
  have hl1 : (bgn [48] [98] l || bgn [48] [66] l) = true := hl1
  have hl2 : (bgn [48] [120] l || bgn [48] [88] l) = false := hl2
  have hl3 : bgn [48] [111] l = false := hl3
  have he3 : -400 ≤ exp := by omega
  unfold Ctr
  k_fill
  refine' z_enter (r := 13) [("x", .str (S l) t1), ("prec", .int 0 625), ("rnd", .str (Rnd.str .d) 253), ("base", .int 0 626)] ["p", "q", "man", "exp", "s", "e2"] ["x", "prec", "rnd", "base", "p", "q", "man", "exp", "s", "e2"] [some (.str (S l) t1), some (.int 0 625), some (.str (Rnd.str .d) 253), some (.int 0 626), none, none, none, none, none, none] ?eo ?ec ?eb ?en ?em ?eK ?ecl ?e1 ?e2 ?_
  walk_at "enter"
  intro dp un gd outer A₀ base g L led h G D tk O p loose mean mg mb B X HT hd hu hpre LK F N
  k_fold
  walk_at "steps"
theorem c_fs3_8 (w : World) (l : List Nat) (man exp prec : Int) (r : Rnd) (t1 t2 t3 : Tok) (hok : Ok l) (h47 : 47 ∉ l) (h112 : 112 ∉ l) (hsg : Sgd l) (hli : Lit 8 l) (hz : l.length ≤ 300) (hp : 0 < prec) (hpb : prec ≤ 30000) (hm : Builtin.Int.intBits man ≤ 2000) (he1 : -400 ≤ exp) (he2 : exp ≤ 400) (hC : IsC w l 8 man exp) : Ctr w 225 14 [.str (S l) t1, .int prec t2, .str r.str t3] (fun _ _ => True) (fun led v => IsMpf w led v (fsv 8 man exp prec r)) := by
  obtain ⟨hl1, hl2, hl3⟩ := hli
  have hl1 : (bgn [48] [98] l || bgn [48] [66] l) = false := hl1
  have hl2 : (bgn [48] [120] l || bgn [48] [88] l) = false := hl2
  have hl3 : bgn [48] [111] l = true := hl3
  unfold Ctr
  k_fill
  refine' z_enter (r := 13) [("x", .str (S l) t1), ("prec", .int prec t2), ("rnd", .str r.str t3), ("base", .int 0 626)] ["p", "q", "man", "exp", "s", "e2"] ["x", "prec", "rnd", "base", "p", "q", "man", "exp", "s", "e2"] [some (.str (S l) t1), some (.int prec t2), some (.str r.str t3), some (.int 0 626), none, none, none, none, none, none] ?eo ?ec ?eb ?en ?em ?eK ?ecl ?e1 ?e2 ?_
  walk_at "enter"
  intro dp un gd outer A₀ base g L led h G D tk O p loose mean mg mb B X HT hd hu hpre LK F N
  k_fold
  walk_at "steps"
theorem c_fs1_8 (w : World) (l : List Nat) (man exp : Int) (t1 : Tok) (hok : Ok l) (h47 : 47 ∉ l) (h112 : 112 ∉ l) (hsg : Sgd l) (hli : Lit 8 l) (hz : l.length ≤ 300) (hm : Builtin.Int.intBits man ≤ 2000) (he1 : 0 ≤ exp) (he2 : exp ≤ 400) (hC : IsC w l 8 man exp) : Ctr w 225 14 [.str (S l) t1] (fun _ _ => True) (fun led v => IsMpf w led v (fsv 8 man exp 0 .d)) := by
  obtain ⟨hl1, hl2, hl3⟩ := hli
  have hl1 : (bgn [48] [98] l || bgn [48] [66] l) = false := hl1
  have hl2 : (bgn [48] [120] l || bgn [48] [88] l) = false := hl2
  have hl3 : bgn [48] [111] l = true := hl3
  have he3 : -400 ≤ exp := by omega
  unfold Ctr
  k_fill
  refine' z_enter (r := 13) [("x", .str (S l) t1), ("prec", .int 0 625), ("rnd", .str (Rnd.str .d) 253), ("base", .int 0 626)] ["p", "q", "man", "exp", "s", "e2"] ["x", "prec", "rnd", "base", "p", "q", "man", "exp", "s", "e2"] [some (.str (S l) t1), some (.int 0 625), some (.str (Rnd.str .d) 253), some (.int 0 626), none, none, none, none, none, none] ?eo ?ec ?eb ?en ?em ?eK ?ecl ?e1 ?e2 ?_
  walk_at "enter"
  intro dp un gd outer A₀ base g L led h G D tk O p loose mean mg mb B X HT hd hu hpre LK F N
  k_fold
  walk_at "steps"
theorem c_fs3_10 (w : World) (l : List Nat) (man exp prec : Int) (r : Rnd) (t1 t2 t3 : Tok) (hok : Ok l) (h47 : 47 ∉ l) (h112 : 112 ∉ l) (hsg : Sgd l) (hli : Lit 10 l) (hz : l.length ≤ 300) (hp : 0 < prec) (hpb : prec ≤ 30000) (hm : Builtin.Int.intBits man ≤ 2000) (he1 : -400 ≤ exp) (he2 : exp ≤ 400) (hC : IsC w l 10 man exp) : Ctr w 225 14 [.str (S l) t1, .int prec t2, .str r.str t3] (fun _ _ => True) (fun led v => IsMpf w led v (fsv 10 man exp prec r)) := by
  obtain ⟨hl1, hl2, hl3⟩ := hli
  have hl1 : (bgn [48] [98] l || bgn [48] [66] l) = false := hl1
  have hl2 : (bgn [48] [120] l || bgn [48] [88] l) = false := hl2
  have hl3 : bgn [48] [111] l = false := hl3
  unfold Ctr
  k_fill
  refine' z_enter (r := 13) [("x", .str (S l) t1), ("prec", .int prec t2), ("rnd", .str r.str t3), ("base", .int 0 626)] ["p", "q", "man", "exp", "s", "e2"] ["x", "prec", "rnd", "base", "p", "q", "man", "exp", "s", "e2"] [some (.str (S l) t1), some (.int prec t2), some (.str r.str t3), some (.int 0 626), none, none, none, none, none, none] ?eo ?ec ?eb ?en ?em ?eK ?ecl ?e1 ?e2 ?_
  walk_at "enter"
  intro dp un gd outer A₀ base g L led h G D tk O p loose mean mg mb B X HT hd hu hpre LK F N
  k_fold
  walk_at "steps"
theorem c_fs1_10 (w : World) (l : List Nat) (man exp : Int) (t1 : Tok) (hok : Ok l) (h47 : 47 ∉ l) (h112 : 112 ∉ l) (hsg : Sgd l) (hli : Lit 10 l) (hz : l.length ≤ 300) (hm : Builtin.Int.intBits man ≤ 2000) (he1 : 0 ≤ exp) (he2 : exp ≤ 400) (hC : IsC w l 10 man exp) : Ctr w 225 14 [.str (S l) t1] (fun _ _ => True) (fun led v => IsMpf w led v (fsv 10 man exp 0 .d)) := by
  obtain ⟨hl1, hl2, hl3⟩ := hli
  have hl1 : (bgn [48] [98] l || bgn [48] [66] l) = false := hl1
  have hl2 : (bgn [48] [120] l || bgn [48] [88] l) = false := hl2
  have hl3 : bgn [48] [111] l = false := hl3
  have he3 : -400 ≤ exp := by omega
  unfold Ctr
  k_fill
  refine' z_enter (r := 13) [("x", .str (S l) t1), ("prec", .int 0 625), ("rnd", .str (Rnd.str .d) 253), ("base", .int 0 626)] ["p", "q", "man", "exp", "s", "e2"] ["x", "prec", "rnd", "base", "p", "q", "man", "exp", "s", "e2"] [some (.str (S l) t1), some (.int 0 625), some (.str (Rnd.str .d) 253), some (.int 0 626), none, none, none, none, none, none] ?eo ?ec ?eb ?en ?em ?eK ?ecl ?e1 ?e2 ?_
  walk_at "enter"
  intro dp un gd outer A₀ base g L led h G D tk O p loose mean mg mb B X HT hd hu hpre LK F N
  k_fold
  walk_at "steps"
theorem c_fs3_16 (w : World) (l : List Nat) (man exp prec : Int) (r : Rnd) (t1 t2 t3 : Tok) (hok : Ok l) (h47 : 47 ∉ l) (h112 : 112 ∉ l) (hsg : Sgd l) (hli : Lit 16 l) (hz : l.length ≤ 300) (hp : 0 < prec) (hpb : prec ≤ 30000) (hm : Builtin.Int.intBits man ≤ 2000) (he1 : -400 ≤ exp) (he2 : exp ≤ 400) (hC : IsC w l 16 man exp) : Ctr w 225 14 [.str (S l) t1, .int prec t2, .str r.str t3] (fun _ _ => True) (fun led v => IsMpf w led v (fsv 16 man exp prec r)) := by
  obtain ⟨hl1, hl2, hl3⟩ := hli
  have hl1 : (bgn [48] [98] l || bgn [48] [66] l) = false := hl1
  have hl2 : (bgn [48] [120] l || bgn [48] [88] l) = true := hl2
  have hl3 : bgn [48] [111] l = false := hl3
  unfold Ctr
  k_fill
  refine' z_enter (r := 13) [("x", .str (S l) t1), ("prec", .int prec t2), ("rnd", .str r.str t3), ("base", .int 0 626)] ["p", "q", "man", "exp", "s", "e2"] ["x", "prec", "rnd", "base", "p", "q", "man", "exp", "s", "e2"] [some (.str (S l) t1), some (.int prec t2), some (.str r.str t3), some (.int 0 626), none, none, none, none, none, none] ?eo ?ec ?eb ?en ?em ?eK ?ecl ?e1 ?e2 ?_
  walk_at "enter"
  intro dp un gd outer A₀ base g L led h G D tk O p loose mean mg mb B X HT hd hu hpre LK F N
  k_fold
  walk_at "steps"
theorem c_fs1_16 (w : World) (l : List Nat) (man exp : Int) (t1 : Tok) (hok : Ok l) (h47 : 47 ∉ l) (h112 : 112 ∉ l) (hsg : Sgd l) (hli : Lit 16 l) (hz : l.length ≤ 300) (hm : Builtin.Int.intBits man ≤ 2000) (he1 : 0 ≤ exp) (he2 : exp ≤ 400) (hC : IsC w l 16 man exp) : Ctr w 225 14 [.str (S l) t1] (fun _ _ => True) (fun led v => IsMpf w led v (fsv 16 man exp 0 .d)) := by
  obtain ⟨hl1, hl2, hl3⟩ := hli
  have hl1 : (bgn [48] [98] l || bgn [48] [66] l) = false := hl1
  have hl2 : (bgn [48] [120] l || bgn [48] [88] l) = true := hl2
  have hl3 : bgn [48] [111] l = false := hl3
  have he3 : -400 ≤ exp := by omega
  unfold Ctr
  k_fill
  refine' z_enter (r := 13) [("x", .str (S l) t1), ("prec", .int 0 625), ("rnd", .str (Rnd.str .d) 253), ("base", .int 0 626)] ["p", "q", "man", "exp", "s", "e2"] ["x", "prec", "rnd", "base", "p", "q", "man", "exp", "s", "e2"] [some (.str (S l) t1), some (.int 0 625), some (.str (Rnd.str .d) 253), some (.int 0 626), none, none, none, none, none, none] ?eo ?ec ?eb ?en ?em ?eK ?ecl ?e1 ?e2 ?_
  walk_at "enter"
  intro dp un gd outer A₀ base g L led h G D tk O p loose mean mg mb B X HT hd hu hpre LK F N
  k_fold
  walk_at "steps"
end Mine
/-! part LawB -/
namespace Mine
/-! the law's own helpers: the script's items -/
theorem isList_up {A₀ : Around} {base g h : Heap} {outer : List Env} {L a : Addr} {m : Str → Option Value} {items : Array Value} (B : Below A₀ base outer g) (F : Fr g L h m) (hl : base.IsList a items) : h.IsList a items := by
  obtain ⟨o, ho, r⟩ := hl
  exact ⟨o, F.keep _ _ (B.stays _ _ ho), r⟩
section
variable {w : World} {A : Around} {E : Value → Shared → Prop} {h : Heap} {G : Array GenState} {D : Drawn} {tk : Nat} {O : OsState} {Q : Value → Shared → Prop} {a : Addr} {t u : Tok} {g base : Heap} {L : Addr} {m : Str → Option Value} {A₀ : Around} {outer : List Env} {vs : List Value} {ns : List Int} {k : Int}
theorem z_lenB (B : Below A₀ base outer g) (F : Fr g L h m) (hl : base.IsList a vs.toArray) (hi : IntsAre vs ns) (hz : ns.length ≤ 63) (q : Q (.int ns.length (tk + 1)) ⟨h, G, D, tk + 1 + 1, O⟩) :
    wpAny (model PySem.Challenge.rw_aj5018_01.row.prog w) A (call (.builtin "len") [.ref a]) Q E ⟨h, G, D, tk, O⟩ := by
  have e : ((vs.toArray.size : Nat) : Int) = ((ns.length : Nat) : Int) := hi.sizeZ
  refine call_len_list (isList_up B F hl) (by rw [e]; omega) ?_
  rw [e]
  exact q
theorem z_itemB {value slice : Expr} (B : Below A₀ base outer g) (F : Fr g L h m) (hl : base.IsList a vs.toArray) (hi : IntsAre vs ns) (hz : ns.length ≤ 63) (h0 : 0 ≤ k) (h1 : k < (ns.length : Int)) (q : ∀ t' n, n ∈ ns → Q (.int n t') ⟨h, G, D, tk, O⟩)
    (hs : subscripted slice false (.ref a) (.int k u) = operate [.ref a, .int k u] (getItem (.ref a) (.int k u))) :
    wpAny (model PySem.Challenge.rw_aj5018_01.row.prog w) A (subscriptTail value slice (.ref a) (.int k u)) Q E ⟨h, G, D, tk, O⟩ := by
  have hlt : k.toNat < ns.length := by omega
  obtain ⟨t', e⟩ := hi.get k.toNat ns[k.toNat] (List.getElem?_eq_getElem hlt)
  exact tail_any (isList_up B F hl).typeIs slot_list_getitem.lookup (wpAny_getItem_list (isList_up B F hl) h0 (by omega) (by simpa using e) (q t' _ (List.getElem_mem hlt))) hs
end
theorem ge_nn {x : Int} {k : Nat} (h : (2 : Int) ^ k ≤ x) : 0 ≤ x := Int.le_trans (Int.le_of_lt (two_pow_pos' k)) h
theorem fmod_nn {x : Int} {k : Nat} : 0 ≤ x.fmod (2 ^ k) := Int.fmod_nonneg_of_pos _ (two_pow_pos' k)
theorem fmod_lt' {x : Int} {k : Nat} : x.fmod (2 ^ k) < 2 ^ k := Int.fmod_lt_of_pos _ (two_pow_pos' k)
theorem fmod_bits {x : Int} {k : Nat} : Builtin.Int.intBits (x.fmod (2 ^ k)) ≤ k := intBits_small fmod_nn fmod_lt'
def Mixed (x : Int) : Prop := 0 ≤ x ∧ Builtin.Int.intBits x ≤ 1100000
theorem mixed_a {x : Int} {k : Nat} {ns : List Int} (hb : ∀ n ∈ ns, Builtin.Int.intBits n ≤ 2 ^ 20) (hx : x ∈ ns) (h : (2 : Int) ^ k ≤ x) : Mixed x := ⟨ge_nn h, Nat.le_trans (hb _ hx) (by decide)⟩
theorem mixed_b {x : Int} : Mixed (x.fmod (2 ^ Int.toNat 190)) := ⟨fmod_nn, Nat.le_trans fmod_bits (by decide)⟩
theorem mixed_mul {x y : Int} {ns : List Int} (hb : ∀ n ∈ ns, Builtin.Int.intBits n ≤ 2 ^ 20) (hx : x ∈ ns) (hy : Builtin.Int.intBits y ≤ 100) : IntMulOk x y := mulOk (hb _ hx) hy (by decide)
theorem mixed_mul2 {x y : Int} (h0 : 0 ≤ x) (h1 : x < 64) (hy : Builtin.Int.intBits y ≤ 100) : IntMulOk x y := mulOk (intBits_small (k := 6) h0 (by omega)) hy (by decide)
/-- what `_law_raw` gives back -/
def RawOk (s m e b : Int) : Prop := (m = 0 ∧ s = 0 ∧ e = 0 ∧ b = 0) ∨ (0 < m ∧ m % 2 = 1 ∧ b = (Builtin.Int.intBits m : Int) ∧ b ≤ 60)
end Mine
/-! part W16 -/
namespace Mine
theorem flushW16 : (0 : Nat) = 0 := by
  w_top off
  first | walk1 | rfl
local macro_rules | `(tactic| walk_at "has") => `(tactic| first | (with_reducible assumption) | exact Has.here | (refine Has.cons ?_; walk_at "has") | (refine Has.sub (by with_reducible assumption) ?_; walk_at "has") | exact has_zero | exact has_nan | exact has_inf | exact has_ninf)
local macro_rules | `(tactic| walk_at "subs") => `(tactic| first | (with_reducible assumption) | exact sub_refl | (refine sub_cons ?_; walk_at "subs") | (refine sub_trans (by with_reducible assumption) ?_; walk_at "subs"))
local macro_rules | `(tactic| kun_tup) => `(tactic| exact Has.tup (by k_asm) (by k_asm) (by k_asm) (by walk_at "has"))
local macro_rules | `(tactic| walk_at "Fin") => `(tactic| ((refine ⟨_, _, by with_reducible assumption, by with_reducible assumption, by walk_at "subs", ?_, rfl⟩); walk_at "post"))
local macro_rules | `(tactic| walk_at "steps") => `(tactic| repeat' (first | (k_unfold) | walk1 | fail "no step"))
local macro_rules | `(tactic| walk_at "isR") => `(tactic| with_reducible first | assumption | exact isR _ | exact isR_n | exact isR_f | exact isR_c | exact isR_d | exact isR_u)
local macro_rules | `(tactic| walk_at "use") => `(tactic| ((case B => k_asm); (case F => k_asm); (case X => k_asm); (case N => k_asm); (case T => k_asm); (case kK => first | exact rfl | assumption); (case kd => first | omega | ktr_room); (case ku => first | omega | ktr_units)))
local macro_rules | `(tactic| walk_at "back") => `(tactic| (intro v9 h9 tk9 led9 F9 N9 s9 p9; k_dflt (first | (obtain ⟨D9, ta9, tb9, tc9, td9, e9, hM9⟩ := p9; subst e9) | (obtain ⟨y9, ⟨D9, ta9, tb9, tc9, td9, e9, hM9⟩, hy9⟩ := p9; subst e9) | (obtain ⟨c9, t9, e9, hc9⟩ := p9; subst e9) | (obtain ⟨t9, e9⟩ := p9; subst e9) | skip); (try k_sweep); (try k_fold)))
local macro_rules | `(tactic| walk_at "enter") => `(tactic| ((case eo => k_is); (case ec => k_is); (case eb => exact fun _ => by rfl); (case en => exact rfl); (case em => exact rfl); (case eK => exact ⟨by decide +kernel, rfl, by decide +kernel⟩); (case ecl => decide +kernel); (case e1 => exact rfl); (case e2 => exact rfl)))
local macro_rules | `(tactic| walk_at "side") => `(tactic| first | omega | decide | assumption)
local macro_rules | `(tactic| walk_at "binaryOp Add int int") => `(tactic| refine z_add ?_)
local macro_rules | `(tactic| walk_at "binaryOp Sub int int") => `(tactic| refine z_sub ?_)
local macro_rules | `(tactic| walk_at "binaryOp Mult int int") => `(tactic| refine z_mul (by walk_at "mulok") ?_)
local macro_rules | `(tactic| walk_at "binaryOp Mod int int") => `(tactic| refine z_mod (by walk_at "side") ?_)
local macro_rules | `(tactic| walk_at "binaryOp Pow int int") => `(tactic| refine z_pow (by walk_at "side") (by walk_at "size") ?_)
local macro_rules | `(tactic| walk_at "binaryOp LShift int int") => `(tactic| refine z_shl (by walk_at "side") (by walk_at "size") ?_)
local macro_rules | `(tactic| walk_at "binaryOp RShift int int") => `(tactic| refine z_shr (by walk_at "side") ?_)
local macro_rules | `(tactic| walk_at "binaryOp BitAnd int int") => `(tactic| refine z_and ?_)
local macro_rules | `(tactic| walk_at "binaryOp BitXor int int") => `(tactic| refine z_xor ?_)
local macro_rules | `(tactic| walk_at "unaryOp USub int") => `(tactic| refine z_neg ?_)
local macro_rules | `(tactic| walk_at "inplaceOp Add int int") => `(tactic| refine z_iadd ?_)
local macro_rules | `(tactic| walk_at "inplaceOp Sub int int") => `(tactic| refine z_isub ?_)
local macro_rules | `(tactic| walk_at "inplaceOp Mult int int") => `(tactic| refine z_imul (by walk_at "mulok") ?_)
local macro_rules | `(tactic| walk_at "inplaceOp RShift int int") => `(tactic| refine z_ishr (by walk_at "side") ?_)
local macro_rules | `(tactic| walk_at "inplaceOp LShift int int") => `(tactic| refine z_ishl (by walk_at "side") (by walk_at "size") ?_)
local macro_rules | `(tactic| walk_at "inplaceOp BitXor int int") => `(tactic| refine z_ixor ?_)
local macro_rules | `(tactic| walk_at "eval Constant int") => `(tactic| refine z_const ?_)
local macro_rules | `(tactic| walk_at "eval Constant str") => `(tactic| refine z_text ?_)
local macro_rules | `(tactic| walk_at "storeName") => `(tactic| (with_reducible (first | refine st0 (by assumption) (by assumption) (by assumption) ?_ | refine st1 (by assumption) (by assumption) (by assumption) ?_ | refine st2 (by assumption) (by assumption) (by assumption) ?_ | refine st3 (by assumption) (by assumption) (by assumption) ?_ | refine st4 (by assumption) (by assumption) (by assumption) ?_ | refine st5 (by assumption) (by assumption) (by assumption) ?_ | refine st6 (by assumption) (by assumption) (by assumption) ?_ | refine st7 (by assumption) (by assumption) (by assumption) ?_ | refine st8 (by assumption) (by assumption) (by assumption) ?_ | refine st9 (by assumption) (by assumption) (by assumption) ?_ | refine st10 (by assumption) (by assumption) (by assumption) ?_ | refine st11 (by assumption) (by assumption) (by assumption) ?_ | refine st12 (by assumption) (by assumption) (by assumption) ?_ | refine st13 (by assumption) (by assumption) (by assumption) ?_ | refine st14 (by assumption) (by assumption) (by assumption) ?_ | refine st15 (by assumption) (by assumption) (by assumption) ?_ | refine st16 (by assumption) (by assumption) (by assumption) ?_ | refine st17 (by assumption) (by assumption) (by assumption) ?_); intro h' tk' F' N'; (try k_sweep)))
local macro_rules | `(tactic| walk_at "eval Name") => `(tactic| with_reducible (first | refine ld0 (by assumption) (by assumption) ?_ | refine ld1 (by assumption) (by assumption) ?_ | refine ld2 (by assumption) (by assumption) ?_ | refine ld3 (by assumption) (by assumption) ?_ | refine ld4 (by assumption) (by assumption) ?_ | refine ld5 (by assumption) (by assumption) ?_ | refine ld6 (by assumption) (by assumption) ?_ | refine ld7 (by assumption) (by assumption) ?_ | refine ld8 (by assumption) (by assumption) ?_ | refine ld9 (by assumption) (by assumption) ?_ | refine ld10 (by assumption) (by assumption) ?_ | refine ld11 (by assumption) (by assumption) ?_ | refine ld12 (by assumption) (by assumption) ?_ | refine ld13 (by assumption) (by assumption) ?_ | refine ld14 (by assumption) (by assumption) ?_ | refine ld15 (by assumption) (by assumption) ?_ | refine ld16 (by assumption) (by assumption) ?_ | refine ld17 (by assumption) (by assumption) ?_))
local macro_rules | `(tactic| walk_at "loadName") => `(tactic| with_reducible (first | refine ln0 (by assumption) (by assumption) ?_ | refine ln1 (by assumption) (by assumption) ?_ | refine ln2 (by assumption) (by assumption) ?_ | refine ln3 (by assumption) (by assumption) ?_ | refine ln4 (by assumption) (by assumption) ?_ | refine ln5 (by assumption) (by assumption) ?_ | refine ln6 (by assumption) (by assumption) ?_ | refine ln7 (by assumption) (by assumption) ?_ | refine ln8 (by assumption) (by assumption) ?_ | refine ln9 (by assumption) (by assumption) ?_ | refine ln10 (by assumption) (by assumption) ?_ | refine ln11 (by assumption) (by assumption) ?_ | refine ln12 (by assumption) (by assumption) ?_ | refine ln13 (by assumption) (by assumption) ?_ | refine ln14 (by assumption) (by assumption) ?_ | refine ln15 (by assumption) (by assumption) ?_ | refine ln16 (by assumption) (by assumption) ?_ | refine ln17 (by assumption) (by assumption) ?_))
local macro_rules | `(tactic| walk_at "execs cons") => `(tactic| with_reducible refine wpAny_execs_cons ?_)
local macro_rules | `(tactic| walk_at "newTuple") => `(tactic| (k_dflt (refine' z_tuple ?F ?N ?z ?_; (case F => k_asm); (case N => k_asm); (case z => kmk_size)); intro T' h' F' N'; (try k_sweep)))
local macro_rules | `(tactic| walk_at "assign Tuple") => `(tactic| ((with_reducible show wpAny _ _ (assign (Expr.Tuple _ _ _) _ (Value.ref _)) _ _ _); k_dflt (refine' z_unpack ?F ?X ?N ?H ?h ?n ?st ?_; (case F => k_asm); (case X => k_asm); (case N => k_asm); (case H => walk_at "has"); (case h => exact rfl); (case n => exact rfl); (case st => exact rfl)); intro h' F' N'; (try k_sweep)))
local macro_rules | `(tactic| walk_at "dead") => `(tactic| first | omega | contradiction)
local macro_rules | `(tactic| walk_at "cond") => `(tactic| (intro hb; (try simp only [bne_iff_ne, beq_iff_eq, Bool.not_eq_true', Bool.not_eq_false', bne_eq_false_iff_eq, beq_eq_false_iff_ne, Bool.not_eq_true, Bool.not_eq_false, decide_eq_true_eq, decide_eq_false_iff_not, ne_eq, mpf_eq_iff, true_and, and_true, false_and, and_false, not_false_eq_true, not_true_eq_false, Decidable.not_not, Bool.not_not, Int.not_le, Int.not_lt] at hb); (try (exfalso; walk_at "dead"))))
local macro_rules | `(tactic| walk_at "ite") => `(tactic| first | with_reducible rw [if_pos True.intro] | with_reducible rw [if_neg not_false] | with_reducible rw [if_pos rfl] | (with_reducible (refine split_dec ?_ ?_ <;> walk_at "cond")) | (with_reducible (refine split_bool ?_ ?_ <;> walk_at "cond")))

local macro_rules | `(tactic| walk_at "compareOp Eq ref ref") => `(tactic| (k_dflt (refine' z_eqM ?F ?X ?N ?x ?y ?u ?_; (case F => k_asm); (case X => k_asm); (case N => k_asm); (case x => walk_at "has"); (case y => walk_at "has"); (case u => first | omega | ktr_units))))
local macro_rules | `(tactic| walk_at "compareOp NotEq ref ref") => `(tactic| (k_dflt (refine' z_neM ?F ?X ?N ?x ?y ?u ?_; (case F => k_asm); (case X => k_asm); (case N => k_asm); (case x => walk_at "has"); (case y => walk_at "has"); (case u => first | omega | ktr_units))))

local macro_rules | `(tactic| walk_at "pyl") => `(tactic| first | assumption | decide +kernel)
local macro_rules | `(tactic| walk_at "call builtin:divmod") => `(tactic| (k_dflt (refine' z_divmod ?F ?N ?b ?p ?_; (case F => k_asm); (case N => k_asm); (case b => walk_at "side"); (case p => walk_at "pyl")); intro T' h' F' N'; (try k_sweep)))
local macro_rules | `(tactic| walk_at "binaryOp FloorDiv int int") => `(tactic| refine z_fdiv (by walk_at "side") (by walk_at "pyl") ?_)

local macro_rules | `(tactic| walk_at "subscriptTail Name Constant ref int") => `(tactic| (k_dflt (refine' z_item ?F ?X ?N ?x _ ?lo ?hi ?j ?v ?_ ?s; (case F => k_asm); (case X => k_asm); (case N => k_asm); (case x => walk_at "has"); (case lo => decide); (case hi => decide); (case j => exact rfl); (case v => exact rfl); (case s => with_unfolding_all rfl))))
theorem c_aheadB (w : World) (b : Int) (t : Tok) (hb : b = 2 ∨ b = 8 ∨ b = 10 ∨ b = 16) : Ctr w 246 2 [.int b t] (fun _ _ => True) (fun _ v => ∃ t, v = .str (S (ahead b.toNat)) t) := by
  rcases hb with rfl | rfl | rfl | rfl
  · exact c_ahead2 w t
  · exact c_ahead8 w t
  · exact c_ahead10 w t
  · exact c_ahead16 w t
def ptx (b n p : Int) : List Nat := (ahead b.toNat ++ [48, 46]) ++ (List.replicate (p.toNat - (numS b.toNat n.toNat).length) 48 ++ numS b.toNat n.toNat)
local macro_rules | `(tactic| walk_at "isS") => `(tactic| first | with_reducible exact S_rfl | exact lit_0p | exact lit_p | exact lit_at | exact lit_e | exact lit_m | exact lit_n | exact lit_0 | exact lit_0b | exact lit_0o | exact lit_0x)
local macro_rules | `(tactic| walk_at "lz") => `(tactic| first | assumption | omega | ((try simp only [List.length_append, List.length_cons, List.length_nil, List.length_replicate]); omega))
local macro_rules | `(tactic| walk_at "binaryOp Add str str") => `(tactic| (refine z_cat (by walk_at "isS") (by walk_at "isS") (by walk_at "lz") ?_; intro t' tk'))
local macro_rules | `(tactic| walk_at "call ref") => `(tactic| ((with_reducible show wpAny _ _ (call (Value.ref 246) _) _ _ _); k_dflt (refine' z_use (c_aheadB _ _ _ ?hb) ?B ?F ?X ?N ?T ?kK ?kd ?ku ?kp ?_); walk_at "use"; (case kp => trivial); (case hb => walk_at "side"); walk_at "back"))
local macro_rules | `(tactic| walk_at "call ref") => `(tactic| ((with_reducible show wpAny _ _ (call (Value.ref 44) _) _ _ _); k_dflt (refine' z_use (c_numeral _ _ _ _ _ ?hn ?hb ?hb2 ?hbs) ?B ?F ?X ?N ?T ?kK ?kd ?ku ?kp ?_); walk_at "use"; (case kp => trivial); (case hn => walk_at "side"); (case hb => walk_at "side"); (case hb2 => walk_at "side"); (case hbs => walk_at "side"); walk_at "back"))
local macro_rules | `(tactic| walk_at "call builtin:str.rjust") => `(tactic| (refine z_rjust (by walk_at "isS") (by walk_at "side") (by walk_at "side") ?_; intro t' tk'))
local macro_rules | `(tactic| walk_at "post") => `(tactic| exact ⟨_, rfl⟩)
theorem c_part_text (w : World) (n p b : Int) (t1 t2 t3 : Tok) (hb4 : b = 2 ∨ b = 8 ∨ b = 10 ∨ b = 16) (hn : 0 ≤ n) (hbs : Builtin.Int.intBits n ≤ 400) (hp : 0 ≤ p) (hp2 : p ≤ 1000) (hlen : (numS b.toNat n.toNat).length ≤ 1000) : Ctr w 260 5 [.int n t1, .int p t2, .int b t3] (fun _ _ => True) (fun _ v => ∃ t, v = .str (S (ptx b n p)) t) := by
  have hal : (ahead b.toNat).length ≤ 2 := by rcases hb4 with rfl | rfl | rfl | rfl <;> decide
  unfold Ctr
  k_fill
  refine' z_enter (r := 4) [("figures", .int n t1), ("places", .int p t2), ("base", .int b t3)] [] ["figures", "places", "base"] [some (.int n t1), some (.int p t2), some (.int b t3)] ?eo ?ec ?eb ?en ?em ?eK ?ecl ?e1 ?e2 ?_
  walk_at "enter"
  intro dp un gd outer A₀ base g L led h G D tk O p loose mean mg mb B X HT hd hu hpre LK F N
  k_fold
  walk_at "steps"
local macro_rules | `(tactic| walk_at "call builtin:len") => `(tactic| (k_dflt (refine' z_lenB ?B ?F ?hl ?hi ?hz ?_; (case B => k_asm); (case F => k_asm); (case hl => assumption); (case hi => assumption); (case hz => assumption))))
local macro_rules | `(tactic| walk_at "subscriptTail Name Name ref int") => `(tactic| (k_dflt (refine' z_itemB ?B ?F ?hl ?hi ?hz ?h0 ?h1 ?_ ?s; (case B => k_asm); (case F => k_asm); (case hl => assumption); (case hi => assumption); (case hz => assumption); (case h0 => assumption); (case h1 => first | assumption | omega); (case s => with_unfolding_all rfl); intro t' n' hn')))
local macro_rules | `(tactic| walk_at "size") => `(tactic| first | assumption | decide +kernel)
local macro_rules | `(tactic| walk_at "mulok") => `(tactic| first | exact mixed_mul (by assumption) (by assumption) (by decide +kernel) | exact mixed_mul2 (by omega) (by omega) (by decide +kernel))
local macro_rules | `(tactic| walk_at "side") => `(tactic| first | omega | assumption | decide | (intro hq; exact absurd hq (by decide +kernel)))
local macro_rules | `(tactic| walk_at "post") => `(tactic| first | exact ⟨_, _, rfl, mixed_a (by assumption) (by assumption) (by assumption)⟩ | exact ⟨_, _, rfl, mixed_b⟩)
theorem c_law_mixed (w : World) (l : Addr) (k : Int) (t1 : Tok) (vs : List Value) (ns : List Int) (hk0 : 0 ≤ k) (hk1 : k ≤ 10) (hz : ns.length ≤ 63) (hb : ∀ n ∈ ns, Builtin.Int.intBits n ≤ 2 ^ 20) : Ctr w 232 2 [.ref l, .int k t1] (fun base _ => base.IsList l vs.toArray ∧ IntsAre vs ns) (fun _ v => ∃ x t, v = .int x t ∧ Mixed x) := by
  unfold Ctr
  k_fill
  refine' z_enter (r := 1) [("script", .ref l), ("k", .int k t1)] ["n"] ["script", "k", "n"] [some (.ref l), some (.int k t1), none] ?eo ?ec ?eb ?en ?em ?eK ?ecl ?e1 ?e2 ?_
  walk_at "enter"
  intro dp un gd outer A₀ base g L led h G D tk O p loose mean mg mb B X HT hd hu hpre LK F N
  obtain ⟨hl, hi⟩ := hpre
  k_fold
  walk_at "steps"
end Mine
/-! part LawC -/
namespace Mine
theorem pow_le2 {a b : Nat} (h : a ≤ b) : (2 : Int) ^ a ≤ 2 ^ b := by
  have := Nat.pow_le_pow_right (n := 2) (by decide) h
  exact_mod_cast this
theorem bmod_lt {m k : Int} (hk : 0 < k) : m.fmod k < k := Int.fmod_lt_of_pos _ hk
theorem bmod_nn {m k : Int} (hk : 0 < k) : 0 ≤ m.fmod k := Int.fmod_nonneg_of_pos _ hk
theorem fdiv_nn2 {m k : Int} (hm : 0 ≤ m) (hk : 0 < k) : 0 ≤ m.fdiv k := by rw [Int.fdiv_eq_ediv_of_nonneg _ (by omega)]; exact Int.ediv_nonneg hm (by omega)
theorem ex_nn {m : Int} : 0 ≤ 1 + m.fmod 60 := by have := bmod_nn (m := m) (k := 60) (by decide); omega
theorem ex_nn2 {m : Int} : 0 ≤ 1 + m.fmod (60 - 1) := by have := bmod_nn (m := m) (k := 60 - 1) (by decide); omega
theorem sz1 {m : Int} : (Builtin.Int.intBits 2 : Int) * (1 + m.fmod 60) ≤ 2 ^ 27 := by rw [bl2]; have := bmod_lt (m := m) (k := 60) (by decide); omega
theorem sz2 {m : Int} : (Builtin.Int.intBits 2 : Int) * (1 + m.fmod (60 - 1)) ≤ 2 ^ 27 := by rw [bl2]; have := bmod_lt (m := m) (k := 60 - 1) (by decide); omega
theorem man_a (m : Int) : 0 < ((m.fmod (2 ^ (1 + m.fmod 60).toNat)).fdiv 2) * 2 + 1 ∧ (((m.fmod (2 ^ (1 + m.fmod 60).toNat)).fdiv 2) * 2 + 1) % 2 = 1 ∧ ((m.fmod (2 ^ (1 + m.fmod 60).toNat)).fdiv 2) * 2 + 1 < 2 ^ 60 := by
  have h1 := bmod_lt (m := m) (k := 60) (by decide)
  have h2 := bmod_nn (m := m) (k := 60) (by decide)
  have h3 : ((1 + m.fmod 60).toNat) = 1 + (m.fmod 60).toNat := by omega
  have h4 := fmod_nn (x := m) (k := (1 + m.fmod 60).toNat)
  have h5 := fmod_lt' (x := m) (k := (1 + m.fmod 60).toNat)
  have h6 : (2 : Int) ^ (1 + m.fmod 60).toNat = 2 * 2 ^ (m.fmod 60).toNat := by rw [h3, Int.pow_add]; rfl
  have h7 : (2 : Int) ^ (m.fmod 60).toNat ≤ 2 ^ 59 := pow_le2 (by omega)
  rw [Int.fdiv_eq_ediv_of_nonneg _ (by omega)]
  generalize m.fmod (2 ^ (1 + m.fmod 60).toNat) = q at *
  generalize (2 : Int) ^ (m.fmod 60).toNat = z at *
  omega
theorem man_c (k : Int) (h0 : 0 ≤ k) (h1 : k < 60) : 0 < (2 : Int) ^ (1 + k).toNat - 1 ∧ ((2 : Int) ^ (1 + k).toNat - 1) % 2 = 1 ∧ (2 : Int) ^ (1 + k).toNat - 1 < 2 ^ 60 := by
  have h3 : ((1 + k).toNat) = 1 + k.toNat := by omega
  have h6 : (2 : Int) ^ (1 + k).toNat = 2 * 2 ^ k.toNat := by rw [h3, Int.pow_add]; rfl
  have h7 : (2 : Int) ^ k.toNat ≤ 2 ^ 59 := pow_le2 (by omega)
  have h8 := two_pow_pos' k.toNat
  rw [h6]
  generalize (2 : Int) ^ k.toNat = z at *
  omega
theorem man_d (k : Int) (h0 : 0 ≤ k) (h1 : k < 59) : 0 < (2 : Int) ^ (1 + k).toNat + 1 ∧ ((2 : Int) ^ (1 + k).toNat + 1) % 2 = 1 ∧ (2 : Int) ^ (1 + k).toNat + 1 < 2 ^ 60 := by
  have h3 : ((1 + k).toNat) = 1 + k.toNat := by omega
  have h6 : (2 : Int) ^ (1 + k).toNat = 2 * 2 ^ k.toNat := by rw [h3, Int.pow_add]; rfl
  have h7 : (2 : Int) ^ k.toNat ≤ 2 ^ 58 := pow_le2 (by omega)
  have h8 := two_pow_pos' k.toNat
  rw [h6]
  generalize (2 : Int) ^ k.toNat = z at *
  omega
theorem raw_of {s m e : Int} (h : 0 < m ∧ m % 2 = 1 ∧ m < 2 ^ 60) : RawOk s m e (Builtin.Int.intBits m : Int) :=
  .inr ⟨h.1, h.2.1, rfl, by have := intBits_small (k := 60) (Int.le_of_lt h.1) h.2.2; omega⟩
theorem raw_a {s m e : Int} : RawOk s (((m.fmod (2 ^ (1 + m.fmod 60).toNat)).fdiv 2) * 2 + 1) e (Builtin.Int.intBits (((m.fmod (2 ^ (1 + m.fmod 60).toNat)).fdiv 2) * 2 + 1) : Int) := raw_of (man_a m)
theorem raw_b {s e : Int} : RawOk s 1 e (Builtin.Int.intBits 1 : Int) := raw_of (by decide)
theorem raw_c {s m e : Int} : RawOk s (2 ^ (1 + m.fmod 60).toNat - 1) e (Builtin.Int.intBits (2 ^ (1 + m.fmod 60).toNat - 1) : Int) := raw_of (man_c _ (bmod_nn (by decide)) (bmod_lt (by decide)))
theorem raw_d {s m e : Int} : RawOk s (2 ^ (1 + m.fmod (60 - 1)).toNat + 1) e (Builtin.Int.intBits (2 ^ (1 + m.fmod (60 - 1)).toNat + 1) : Int) := raw_of (man_d _ (bmod_nn (by decide)) (bmod_lt (by decide)))
theorem raw_z : RawOk 0 0 0 0 := .inl ⟨rfl, rfl, rfl, rfl⟩
theorem nz_pow {k : Nat} : (2 : Int) ^ k ≠ 0 := Int.ne_of_gt (two_pow_pos' k)
theorem bits_p16 : Builtin.Int.intBits ((2 : Int) ^ Int.toNat 16) ≤ 8000 := by decide +kernel
end Mine
/-! part W17 -/
namespace Mine
theorem flushW17 : (0 : Nat) = 0 := by
  w_top off
  first | walk1 | rfl
local macro_rules | `(tactic| walk_at "has") => `(tactic| first | (with_reducible assumption) | exact Has.here | (refine Has.cons ?_; walk_at "has") | (refine Has.sub (by with_reducible assumption) ?_; walk_at "has") | exact has_zero | exact has_nan | exact has_inf | exact has_ninf)
local macro_rules | `(tactic| walk_at "subs") => `(tactic| first | (with_reducible assumption) | exact sub_refl | (refine sub_cons ?_; walk_at "subs") | (refine sub_trans (by with_reducible assumption) ?_; walk_at "subs"))
local macro_rules | `(tactic| kun_tup) => `(tactic| exact Has.tup (by k_asm) (by k_asm) (by k_asm) (by walk_at "has"))
local macro_rules | `(tactic| walk_at "Fin") => `(tactic| ((refine ⟨_, _, by with_reducible assumption, by with_reducible assumption, by walk_at "subs", ?_, rfl⟩); walk_at "post"))
local macro_rules | `(tactic| walk_at "steps") => `(tactic| repeat' (first | (k_unfold) | walk1 | fail "no step"))
local macro_rules | `(tactic| walk_at "isR") => `(tactic| with_reducible first | assumption | exact isR _ | exact isR_n | exact isR_f | exact isR_c | exact isR_d | exact isR_u)
local macro_rules | `(tactic| walk_at "use") => `(tactic| ((case B => k_asm); (case F => k_asm); (case X => k_asm); (case N => k_asm); (case T => k_asm); (case kK => first | exact rfl | assumption); (case kd => first | omega | ktr_room); (case ku => first | omega | ktr_units)))
local macro_rules | `(tactic| walk_at "back") => `(tactic| (intro v9 h9 tk9 led9 F9 N9 s9 p9; k_dflt (first | (obtain ⟨D9, ta9, tb9, tc9, td9, e9, hM9⟩ := p9; subst e9) | (obtain ⟨y9, ⟨D9, ta9, tb9, tc9, td9, e9, hM9⟩, hy9⟩ := p9; subst e9) | (obtain ⟨c9, t9, e9, hc9⟩ := p9; subst e9) | (obtain ⟨t9, e9⟩ := p9; subst e9) | skip); (try k_sweep); (try k_fold)))
local macro_rules | `(tactic| walk_at "enter") => `(tactic| ((case eo => k_is); (case ec => k_is); (case eb => exact fun _ => by rfl); (case en => exact rfl); (case em => exact rfl); (case eK => exact ⟨by decide +kernel, rfl, by decide +kernel⟩); (case ecl => decide +kernel); (case e1 => exact rfl); (case e2 => exact rfl)))
local macro_rules | `(tactic| walk_at "side") => `(tactic| first | omega | decide | assumption)
local macro_rules | `(tactic| walk_at "binaryOp Add int int") => `(tactic| refine z_add ?_)
local macro_rules | `(tactic| walk_at "binaryOp Sub int int") => `(tactic| refine z_sub ?_)
local macro_rules | `(tactic| walk_at "binaryOp Mult int int") => `(tactic| refine z_mul (by walk_at "mulok") ?_)
local macro_rules | `(tactic| walk_at "binaryOp Mod int int") => `(tactic| refine z_mod (by walk_at "side") ?_)
local macro_rules | `(tactic| walk_at "binaryOp Pow int int") => `(tactic| refine z_pow (by walk_at "side") (by walk_at "size") ?_)
local macro_rules | `(tactic| walk_at "binaryOp LShift int int") => `(tactic| refine z_shl (by walk_at "side") (by walk_at "size") ?_)
local macro_rules | `(tactic| walk_at "binaryOp RShift int int") => `(tactic| refine z_shr (by walk_at "side") ?_)
local macro_rules | `(tactic| walk_at "binaryOp BitAnd int int") => `(tactic| refine z_and ?_)
local macro_rules | `(tactic| walk_at "binaryOp BitXor int int") => `(tactic| refine z_xor ?_)
local macro_rules | `(tactic| walk_at "unaryOp USub int") => `(tactic| refine z_neg ?_)
local macro_rules | `(tactic| walk_at "inplaceOp Add int int") => `(tactic| refine z_iadd ?_)
local macro_rules | `(tactic| walk_at "inplaceOp Sub int int") => `(tactic| refine z_isub ?_)
local macro_rules | `(tactic| walk_at "inplaceOp Mult int int") => `(tactic| refine z_imul (by walk_at "mulok") ?_)
local macro_rules | `(tactic| walk_at "inplaceOp RShift int int") => `(tactic| refine z_ishr (by walk_at "side") ?_)
local macro_rules | `(tactic| walk_at "inplaceOp LShift int int") => `(tactic| refine z_ishl (by walk_at "side") (by walk_at "size") ?_)
local macro_rules | `(tactic| walk_at "inplaceOp BitXor int int") => `(tactic| refine z_ixor ?_)
local macro_rules | `(tactic| walk_at "eval Constant int") => `(tactic| refine z_const ?_)
local macro_rules | `(tactic| walk_at "eval Constant str") => `(tactic| refine z_text ?_)
local macro_rules | `(tactic| walk_at "storeName") => `(tactic| (with_reducible (first | refine st0 (by assumption) (by assumption) (by assumption) ?_ | refine st1 (by assumption) (by assumption) (by assumption) ?_ | refine st2 (by assumption) (by assumption) (by assumption) ?_ | refine st3 (by assumption) (by assumption) (by assumption) ?_ | refine st4 (by assumption) (by assumption) (by assumption) ?_ | refine st5 (by assumption) (by assumption) (by assumption) ?_ | refine st6 (by assumption) (by assumption) (by assumption) ?_ | refine st7 (by assumption) (by assumption) (by assumption) ?_ | refine st8 (by assumption) (by assumption) (by assumption) ?_ | refine st9 (by assumption) (by assumption) (by assumption) ?_ | refine st10 (by assumption) (by assumption) (by assumption) ?_ | refine st11 (by assumption) (by assumption) (by assumption) ?_ | refine st12 (by assumption) (by assumption) (by assumption) ?_ | refine st13 (by assumption) (by assumption) (by assumption) ?_ | refine st14 (by assumption) (by assumption) (by assumption) ?_ | refine st15 (by assumption) (by assumption) (by assumption) ?_ | refine st16 (by assumption) (by assumption) (by assumption) ?_ | refine st17 (by assumption) (by assumption) (by assumption) ?_); intro h' tk' F' N'; (try k_sweep)))
local macro_rules | `(tactic| walk_at "eval Name") => `(tactic| with_reducible (first | refine ld0 (by assumption) (by assumption) ?_ | refine ld1 (by assumption) (by assumption) ?_ | refine ld2 (by assumption) (by assumption) ?_ | refine ld3 (by assumption) (by assumption) ?_ | refine ld4 (by assumption) (by assumption) ?_ | refine ld5 (by assumption) (by assumption) ?_ | refine ld6 (by assumption) (by assumption) ?_ | refine ld7 (by assumption) (by assumption) ?_ | refine ld8 (by assumption) (by assumption) ?_ | refine ld9 (by assumption) (by assumption) ?_ | refine ld10 (by assumption) (by assumption) ?_ | refine ld11 (by assumption) (by assumption) ?_ | refine ld12 (by assumption) (by assumption) ?_ | refine ld13 (by assumption) (by assumption) ?_ | refine ld14 (by assumption) (by assumption) ?_ | refine ld15 (by assumption) (by assumption) ?_ | refine ld16 (by assumption) (by assumption) ?_ | refine ld17 (by assumption) (by assumption) ?_))
local macro_rules | `(tactic| walk_at "loadName") => `(tactic| with_reducible (first | refine ln0 (by assumption) (by assumption) ?_ | refine ln1 (by assumption) (by assumption) ?_ | refine ln2 (by assumption) (by assumption) ?_ | refine ln3 (by assumption) (by assumption) ?_ | refine ln4 (by assumption) (by assumption) ?_ | refine ln5 (by assumption) (by assumption) ?_ | refine ln6 (by assumption) (by assumption) ?_ | refine ln7 (by assumption) (by assumption) ?_ | refine ln8 (by assumption) (by assumption) ?_ | refine ln9 (by assumption) (by assumption) ?_ | refine ln10 (by assumption) (by assumption) ?_ | refine ln11 (by assumption) (by assumption) ?_ | refine ln12 (by assumption) (by assumption) ?_ | refine ln13 (by assumption) (by assumption) ?_ | refine ln14 (by assumption) (by assumption) ?_ | refine ln15 (by assumption) (by assumption) ?_ | refine ln16 (by assumption) (by assumption) ?_ | refine ln17 (by assumption) (by assumption) ?_))
local macro_rules | `(tactic| walk_at "execs cons") => `(tactic| with_reducible refine wpAny_execs_cons ?_)
local macro_rules | `(tactic| walk_at "newTuple") => `(tactic| (k_dflt (refine' z_tuple ?F ?N ?z ?_; (case F => k_asm); (case N => k_asm); (case z => kmk_size)); intro T' h' F' N'; (try k_sweep)))
local macro_rules | `(tactic| walk_at "assign Tuple") => `(tactic| ((with_reducible show wpAny _ _ (assign (Expr.Tuple _ _ _) _ (Value.ref _)) _ _ _); k_dflt (refine' z_unpack ?F ?X ?N ?H ?h ?n ?st ?_; (case F => k_asm); (case X => k_asm); (case N => k_asm); (case H => walk_at "has"); (case h => exact rfl); (case n => exact rfl); (case st => exact rfl)); intro h' F' N'; (try k_sweep)))
local macro_rules | `(tactic| walk_at "dead") => `(tactic| first | omega | contradiction)
local macro_rules | `(tactic| walk_at "cond") => `(tactic| (intro hb; (try simp only [bne_iff_ne, beq_iff_eq, Bool.not_eq_true', Bool.not_eq_false', bne_eq_false_iff_eq, beq_eq_false_iff_ne, Bool.not_eq_true, Bool.not_eq_false, decide_eq_true_eq, decide_eq_false_iff_not, ne_eq, mpf_eq_iff, true_and, and_true, false_and, and_false, not_false_eq_true, not_true_eq_false, Decidable.not_not, Bool.not_not, Int.not_le, Int.not_lt] at hb); (try (exfalso; walk_at "dead"))))
local macro_rules | `(tactic| walk_at "ite") => `(tactic| first | with_reducible rw [if_pos True.intro] | with_reducible rw [if_neg not_false] | with_reducible rw [if_pos rfl] | (with_reducible (refine split_dec ?_ ?_ <;> walk_at "cond")) | (with_reducible (refine split_bool ?_ ?_ <;> walk_at "cond")))

local macro_rules | `(tactic| walk_at "compareOp Eq ref ref") => `(tactic| (k_dflt (refine' z_eqM ?F ?X ?N ?x ?y ?u ?_; (case F => k_asm); (case X => k_asm); (case N => k_asm); (case x => walk_at "has"); (case y => walk_at "has"); (case u => first | omega | ktr_units))))
local macro_rules | `(tactic| walk_at "compareOp NotEq ref ref") => `(tactic| (k_dflt (refine' z_neM ?F ?X ?N ?x ?y ?u ?_; (case F => k_asm); (case X => k_asm); (case N => k_asm); (case x => walk_at "has"); (case y => walk_at "has"); (case u => first | omega | ktr_units))))

local macro_rules | `(tactic| walk_at "pyl") => `(tactic| first | assumption | decide +kernel)
local macro_rules | `(tactic| walk_at "call builtin:divmod") => `(tactic| (k_dflt (refine' z_divmod ?F ?N ?b ?p ?_; (case F => k_asm); (case N => k_asm); (case b => walk_at "side"); (case p => walk_at "pyl")); intro T' h' F' N'; (try k_sweep)))
local macro_rules | `(tactic| walk_at "binaryOp FloorDiv int int") => `(tactic| refine z_fdiv (by walk_at "side") (by walk_at "pyl") ?_)

local macro_rules | `(tactic| walk_at "subscriptTail Name Constant ref int") => `(tactic| (k_dflt (refine' z_item ?F ?X ?N ?x _ ?lo ?hi ?j ?v ?_ ?s; (case F => k_asm); (case X => k_asm); (case N => k_asm); (case x => walk_at "has"); (case lo => decide); (case hi => decide); (case j => exact rfl); (case v => exact rfl); (case s => with_unfolding_all rfl))))
theorem mul_raw {m : Int} : IntMulOk ((m.fmod (2 ^ (1 + m.fmod 60).toNat)).fdiv 2) 2 := by
  have := man_a m
  exact mulOk (a := 60) (b := 2) (intBits_small (k := 60) (by omega) (by omega)) (by decide +kernel)
local macro_rules | `(tactic| walk_at "size") => `(tactic| first | assumption | exact sz1 | exact sz2 | decide +kernel)
local macro_rules | `(tactic| walk_at "mulok") => `(tactic| first | decide +kernel | exact mulOk (a := 2) (b := 2) (by decide +kernel) (by decide +kernel) | exact mul_raw)
local macro_rules | `(tactic| walk_at "side") => `(tactic| first | omega | assumption | decide | exact ex_nn | exact ex_nn2 | exact nz_pow)
local macro_rules | `(tactic| walk_at "pyl") => `(tactic| first | assumption | exact bits_p16 | decide +kernel)
local macro_rules | `(tactic| walk_at "post") => `(tactic| (first | exact ⟨_, _, _, _, _, _, _, _, _, rfl, by walk_at "has", raw_z⟩ | exact ⟨_, _, _, _, _, _, _, _, _, rfl, by walk_at "has", raw_a⟩ | exact ⟨_, _, _, _, _, _, _, _, _, rfl, by walk_at "has", raw_b⟩ | exact ⟨_, _, _, _, _, _, _, _, _, rfl, by walk_at "has", raw_c⟩ | exact ⟨_, _, _, _, _, _, _, _, _, rfl, by walk_at "has", raw_d⟩))
theorem c_law_raw (w : World) (rich : Int) (t1 t2 t3 : Tok) (h0 : 0 ≤ rich) : Ctr w 239 1 [.int rich t1, .int 60 t2, .int 0 t3] (fun _ _ => True) (fun led v => ∃ D s m e b u1 u2 u3 u4, v = .ref D ∧ Has w led D (tupO [.int s u1, .int m u2, .int e u3, .int b u4]) ∧ RawOk s m e b) := by
  unfold Ctr
  k_fill
  refine' z_enter (r := 0) [("rich", .int rich t1), ("bits", .int 60 t2), ("spread", .int 0 t3)] ["kind", "e", "m", "man"] ["rich", "bits", "spread", "kind", "e", "m", "man"] [some (.int rich t1), some (.int 60 t2), some (.int 0 t3), none, none, none, none] ?eo ?ec ?eb ?en ?em ?eK ?ecl ?e1 ?e2 ?_
  walk_at "enter"
  intro dp un gd outer A₀ base g L led h G D tk O p loose mean mg mb B X HT hd hu hpre LK F N
  k_fold
  walk_at "steps"
end Mine
/-! part SliceD -/
namespace Mine
/-! min of two, slices of a text -/
def mn (a b : Int) : Int := if b < a then b else a
section
variable {w : World} {A : Around} {E : Value → Shared → Prop} {h : Heap} {G : Array GenState} {D : Drawn} {tk : Nat} {O : OsState} {Q : Value → Shared → Prop} {t u : Tok} {g : Heap} {L : Addr} {m : Str → Option Value} {led : Led} {l : List Nat} {a b i j : Int}
theorem z_min (hh : A.handled = none) (F : Fr g L h m) (N : News g L h led) (e : mn a b = i) (q : ∀ h' t' tk', Fr g L h' m → News g L h' led → Q (.int i t') ⟨h', G, D, tk', O⟩) :
    wpAny (model PySem.Challenge.rw_aj5018_01.row.prog w) A (call (.builtin "min") [.int a t, .int b u]) Q E ⟨h, G, D, tk, O⟩ := by
  subst e
  exact
  min_two_N (s := ⟨h, G, D, tk, O⟩) hh F N fun h' tk' F' N' => q h' _ tk' F' N'
theorem slice_to (h0 : 0 ≤ j) (h1 : j ≤ l.length) : Txt.slice (S l) none (some j) = S (l.take j.toNat) := by
  have := eq_of_beq (slice_closes_to (x := S l) (j := j) ⟨h0, by rw [S_list]; exact h1⟩)
  rw [this, S_list]
  simp [S]
theorem slice_fr (h0 : 0 ≤ i) (h1 : i ≤ l.length) : Txt.slice (S l) (some i) none = S (l.drop i.toNat) := by
  have := slice_from_eq (x := S l) (i := i) (b := l.length) h0 (by rw [S_len]; exact h1) (by rw [S_len])
  rw [this, S_list]
  have e : (l.drop i.toNat).take ((l.length : Int) - i).toNat = l.drop i.toNat := List.take_of_length_le (by rw [List.length_drop]; omega)
  rw [e]; rfl
theorem z_sl_to {value slice : Expr} (F : Fr g L h m) (N : News g L h led) (h0 : 0 ≤ j) (h1 : j ≤ l.length) (hz : l.length ≤ 10000) (q : ∀ h' t' tk', Fr g L h' m → News g L h' led → Q (.str (S (l.take j.toNat)) t') ⟨h', G, D, tk', O⟩)
    (hs : subscripted slice false (.str (S l) t) (.ref h.objs.size) = operate [.ref h.objs.size, .str (S l) t] (getItem (.str (S l) t) (.ref h.objs.size)))
    (ht : ∀ r, letTemporaryGo value (.str (S l) t) r = pure ()) :
    wpAny (model PySem.Challenge.rw_aj5018_01.row.prog w) A (subscriptTail value slice (.str (S l) t) (.ref h.objs.size)) Q E ⟨h.push { cls := .type "slice", data := .fields #[.none, .int j u, .none] }, G, D, tk, O⟩ :=
  slice_strN_ns (s := ⟨h, G, D, tk, O⟩) F N (fun h' t' k F' N' => by rw [slice_to h0 h1]; exact q h' t' k F' N') hs ht (by rw [S_len, sizeLine_eq]; omega)
theorem z_sl_fr {value slice : Expr} (F : Fr g L h m) (N : News g L h led) (h0 : 0 ≤ i) (h1 : i ≤ l.length) (hz : l.length ≤ 10000) (q : ∀ h' t' tk', Fr g L h' m → News g L h' led → Q (.str (S (l.drop i.toNat)) t') ⟨h', G, D, tk', O⟩)
    (hs : subscripted slice false (.str (S l) t) (.ref h.objs.size) = operate [.ref h.objs.size, .str (S l) t] (getItem (.str (S l) t) (.ref h.objs.size)))
    (ht : ∀ r, letTemporaryGo value (.str (S l) t) r = pure ()) :
    wpAny (model PySem.Challenge.rw_aj5018_01.row.prog w) A (subscriptTail value slice (.str (S l) t) (.ref h.objs.size)) Q E ⟨h.push { cls := .type "slice", data := .fields #[.int i u, .none, .none] }, G, D, tk, O⟩ :=
  slice_strN_sn (s := ⟨h, G, D, tk, O⟩) F N (fun h' t' k F' N' => by rw [slice_fr h0 h1]; exact q h' t' k F' N') hs ht (by rw [S_len, sizeLine_eq]; omega)
end
/-- all that from_str asks of a text -/
structure FS (w : World) (b : Int) (l : List Nat) (man exp : Int) : Prop where
  b4 : b = 2 ∨ b = 8 ∨ b = 10 ∨ b = 16
  ok : Ok l
  n47 : 47 ∉ l
  n112 : 112 ∉ l
  sg : Sgd l
  li : Lit b.toNat l
  hz : l.length ≤ 300
  hm : Builtin.Int.intBits man ≤ 2000
  e1 : -400 ≤ exp
  e2 : exp ≤ 400
  hC : IsC w l b man exp
theorem c_fsB3 (w : World) (b : Int) (l : List Nat) (man exp prec : Int) (r : Rnd) (t1 t2 t3 : Tok) (h : FS w b l man exp) (hp : 0 < prec) (hpb : prec ≤ 30000) :
    Ctr w 225 14 [.str (S l) t1, .int prec t2, .str r.str t3] (fun _ _ => True) (fun led v => IsMpf w led v (fsv b man exp prec r)) := by
  obtain ⟨b4, ok, n47, n112, sg, li, hz, hm, e1, e2, hC⟩ := h
  rcases b4 with rfl | rfl | rfl | rfl
  · exact c_fs3_2 w l man exp prec r t1 t2 t3 ok n47 n112 sg li hz hp hpb hm e1 e2 hC
  · exact c_fs3_8 w l man exp prec r t1 t2 t3 ok n47 n112 sg li hz hp hpb hm e1 e2 hC
  · exact c_fs3_10 w l man exp prec r t1 t2 t3 ok n47 n112 sg li hz hp hpb hm e1 e2 hC
  · exact c_fs3_16 w l man exp prec r t1 t2 t3 ok n47 n112 sg li hz hp hpb hm e1 e2 hC
theorem c_fsB1 (w : World) (b : Int) (l : List Nat) (man exp : Int) (t1 : Tok) (h : FS w b l man exp) (h0 : 0 ≤ exp) :
    Ctr w 225 14 [.str (S l) t1] (fun _ _ => True) (fun led v => IsMpf w led v (fsv b man exp 0 .d)) := by
  obtain ⟨b4, ok, n47, n112, sg, li, hz, hm, e1, e2, hC⟩ := h
  rcases b4 with rfl | rfl | rfl | rfl
  · exact c_fs1_2 w l man exp t1 ok n47 n112 sg li hz hm h0 e2 hC
  · exact c_fs1_8 w l man exp t1 ok n47 n112 sg li hz hm h0 e2 hC
  · exact c_fs1_10 w l man exp t1 ok n47 n112 sg li hz hm h0 e2 hC
  · exact c_fs1_16 w l man exp t1 ok n47 n112 sg li hz hm h0 e2 hC
section
variable {w : World} {A : Around} {E : Value → Shared → Prop} {h : Heap} {G : Array GenState} {D : Drawn} {tk : Nat} {O : OsState} {Q : Value → Shared → Prop} {g : Heap} {L : Addr} {m : Str → Option Value} {led : Led} {T U : Addr} {x y : Mpf} {t1 t2 t3 t4 u1 u2 u3 u4 : Tok}
theorem z_eqT (F : Fr g L h m) (X : (Mine.hd.heap_39 w.params).In g) (N : News g L h led) (hx : Has w led T (tupO [.int x.s t1, .int x.m t2, .int x.e t3, .int x.b t4])) (hy : Has w led U (tupO [.int y.s u1, .int y.m u2, .int y.e u3, .int y.b u4]))
    (hu : A.units + 64 < cLine) (e : x = y) (q : Q (.bool true) ⟨h, G, D, tk, O⟩) :
    wpAny (model PySem.Challenge.rw_aj5018_01.row.prog w) A (compareOp .Eq (.ref T) (.ref U)) Q E ⟨h, G, D, tk, O⟩ :=
  z_eqM F X N hx hy hu (by rw [show decide ((⟨x.s, x.m, x.e, x.b⟩ : Mpf) = ⟨y.s, y.m, y.e, y.b⟩) = true from by subst e; simp]; exact q)
theorem z_neT (F : Fr g L h m) (X : (Mine.hd.heap_39 w.params).In g) (N : News g L h led) (hx : Has w led T (tupO [.int x.s t1, .int x.m t2, .int x.e t3, .int x.b t4])) (hy : Has w led U (tupO [.int y.s u1, .int y.m u2, .int y.e u3, .int y.b u4]))
    (hu : A.units + 64 < cLine) (e : x = y) (q : Q (.bool false) ⟨h, G, D, tk, O⟩) :
    wpAny (model PySem.Challenge.rw_aj5018_01.row.prog w) A (compareOp .NotEq (.ref T) (.ref U)) Q E ⟨h, G, D, tk, O⟩ :=
  z_neM F X N hx hy hu (by rw [show decide ((⟨x.s, x.m, x.e, x.b⟩ : Mpf) = ⟨y.s, y.m, y.e, y.b⟩) = true from by subst e; simp]; exact q)
end
end Mine
/-! part W18 -/
namespace Mine
theorem flushW18 : (0 : Nat) = 0 := by
  w_top off
  first | walk1 | rfl
local macro_rules | `(tactic| walk_at "has") => `(tactic| first | (with_reducible assumption) | exact Has.here | (refine Has.cons ?_; walk_at "has") | (refine Has.sub (by with_reducible assumption) ?_; walk_at "has") | exact has_zero | exact has_nan | exact has_inf | exact has_ninf)
local macro_rules | `(tactic| walk_at "subs") => `(tactic| first | (with_reducible assumption) | exact sub_refl | (refine sub_cons ?_; walk_at "subs") | (refine sub_trans (by with_reducible assumption) ?_; walk_at "subs"))
local macro_rules | `(tactic| kun_tup) => `(tactic| exact Has.tup (by k_asm) (by k_asm) (by k_asm) (by walk_at "has"))
local macro_rules | `(tactic| walk_at "Fin") => `(tactic| ((refine ⟨_, _, by with_reducible assumption, by with_reducible assumption, by walk_at "subs", ?_, rfl⟩); walk_at "post"))
local macro_rules | `(tactic| walk_at "steps") => `(tactic| repeat' (first | (k_unfold) | walk1 | fail "no step"))
local macro_rules | `(tactic| walk_at "isR") => `(tactic| with_reducible first | assumption | exact isR _ | exact isR_n | exact isR_f | exact isR_c | exact isR_d | exact isR_u)
local macro_rules | `(tactic| walk_at "use") => `(tactic| ((case B => k_asm); (case F => k_asm); (case X => k_asm); (case N => k_asm); (case T => k_asm); (case kK => first | exact rfl | assumption); (case kd => first | omega | ktr_room); (case ku => first | omega | ktr_units)))
local macro_rules | `(tactic| walk_at "back") => `(tactic| (intro v9 h9 tk9 led9 F9 N9 s9 p9; k_dflt (first | (obtain ⟨D9, ta9, tb9, tc9, td9, e9, hM9⟩ := p9; subst e9) | (obtain ⟨y9, ⟨D9, ta9, tb9, tc9, td9, e9, hM9⟩, hy9⟩ := p9; subst e9) | (obtain ⟨c9, t9, e9, hc9⟩ := p9; subst e9) | (obtain ⟨t9, e9⟩ := p9; subst e9) | skip); (try k_sweep); (try k_fold)))
local macro_rules | `(tactic| walk_at "enter") => `(tactic| ((case eo => k_is); (case ec => k_is); (case eb => exact fun _ => by rfl); (case en => exact rfl); (case em => exact rfl); (case eK => exact ⟨by decide +kernel, rfl, by decide +kernel⟩); (case ecl => decide +kernel); (case e1 => exact rfl); (case e2 => exact rfl)))
local macro_rules | `(tactic| walk_at "side") => `(tactic| first | omega | decide | assumption)
local macro_rules | `(tactic| walk_at "binaryOp Add int int") => `(tactic| refine z_add ?_)
local macro_rules | `(tactic| walk_at "binaryOp Sub int int") => `(tactic| refine z_sub ?_)
local macro_rules | `(tactic| walk_at "binaryOp Mult int int") => `(tactic| refine z_mul (by walk_at "mulok") ?_)
local macro_rules | `(tactic| walk_at "binaryOp Mod int int") => `(tactic| refine z_mod (by walk_at "side") ?_)
local macro_rules | `(tactic| walk_at "binaryOp Pow int int") => `(tactic| refine z_pow (by walk_at "side") (by walk_at "size") ?_)
local macro_rules | `(tactic| walk_at "binaryOp LShift int int") => `(tactic| refine z_shl (by walk_at "side") (by walk_at "size") ?_)
local macro_rules | `(tactic| walk_at "binaryOp RShift int int") => `(tactic| refine z_shr (by walk_at "side") ?_)
local macro_rules | `(tactic| walk_at "binaryOp BitAnd int int") => `(tactic| refine z_and ?_)
local macro_rules | `(tactic| walk_at "binaryOp BitXor int int") => `(tactic| refine z_xor ?_)
local macro_rules | `(tactic| walk_at "unaryOp USub int") => `(tactic| refine z_neg ?_)
local macro_rules | `(tactic| walk_at "inplaceOp Add int int") => `(tactic| refine z_iadd ?_)
local macro_rules | `(tactic| walk_at "inplaceOp Sub int int") => `(tactic| refine z_isub ?_)
local macro_rules | `(tactic| walk_at "inplaceOp Mult int int") => `(tactic| refine z_imul (by walk_at "mulok") ?_)
local macro_rules | `(tactic| walk_at "inplaceOp RShift int int") => `(tactic| refine z_ishr (by walk_at "side") ?_)
local macro_rules | `(tactic| walk_at "inplaceOp LShift int int") => `(tactic| refine z_ishl (by walk_at "side") (by walk_at "size") ?_)
local macro_rules | `(tactic| walk_at "inplaceOp BitXor int int") => `(tactic| refine z_ixor ?_)
local macro_rules | `(tactic| walk_at "eval Constant int") => `(tactic| refine z_const ?_)
local macro_rules | `(tactic| walk_at "eval Constant str") => `(tactic| refine z_text ?_)
local macro_rules | `(tactic| walk_at "storeName") => `(tactic| (with_reducible (first | refine st0 (by assumption) (by assumption) (by assumption) ?_ | refine st1 (by assumption) (by assumption) (by assumption) ?_ | refine st2 (by assumption) (by assumption) (by assumption) ?_ | refine st3 (by assumption) (by assumption) (by assumption) ?_ | refine st4 (by assumption) (by assumption) (by assumption) ?_ | refine st5 (by assumption) (by assumption) (by assumption) ?_ | refine st6 (by assumption) (by assumption) (by assumption) ?_ | refine st7 (by assumption) (by assumption) (by assumption) ?_ | refine st8 (by assumption) (by assumption) (by assumption) ?_ | refine st9 (by assumption) (by assumption) (by assumption) ?_ | refine st10 (by assumption) (by assumption) (by assumption) ?_ | refine st11 (by assumption) (by assumption) (by assumption) ?_ | refine st12 (by assumption) (by assumption) (by assumption) ?_ | refine st13 (by assumption) (by assumption) (by assumption) ?_ | refine st14 (by assumption) (by assumption) (by assumption) ?_ | refine st15 (by assumption) (by assumption) (by assumption) ?_ | refine st16 (by assumption) (by assumption) (by assumption) ?_ | refine st17 (by assumption) (by assumption) (by assumption) ?_); intro h' tk' F' N'; (try k_sweep)))
local macro_rules | `(tactic| walk_at "eval Name") => `(tactic| with_reducible (first | refine ld0 (by assumption) (by assumption) ?_ | refine ld1 (by assumption) (by assumption) ?_ | refine ld2 (by assumption) (by assumption) ?_ | refine ld3 (by assumption) (by assumption) ?_ | refine ld4 (by assumption) (by assumption) ?_ | refine ld5 (by assumption) (by assumption) ?_ | refine ld6 (by assumption) (by assumption) ?_ | refine ld7 (by assumption) (by assumption) ?_ | refine ld8 (by assumption) (by assumption) ?_ | refine ld9 (by assumption) (by assumption) ?_ | refine ld10 (by assumption) (by assumption) ?_ | refine ld11 (by assumption) (by assumption) ?_ | refine ld12 (by assumption) (by assumption) ?_ | refine ld13 (by assumption) (by assumption) ?_ | refine ld14 (by assumption) (by assumption) ?_ | refine ld15 (by assumption) (by assumption) ?_ | refine ld16 (by assumption) (by assumption) ?_ | refine ld17 (by assumption) (by assumption) ?_))
local macro_rules | `(tactic| walk_at "loadName") => `(tactic| with_reducible (first | refine ln0 (by assumption) (by assumption) ?_ | refine ln1 (by assumption) (by assumption) ?_ | refine ln2 (by assumption) (by assumption) ?_ | refine ln3 (by assumption) (by assumption) ?_ | refine ln4 (by assumption) (by assumption) ?_ | refine ln5 (by assumption) (by assumption) ?_ | refine ln6 (by assumption) (by assumption) ?_ | refine ln7 (by assumption) (by assumption) ?_ | refine ln8 (by assumption) (by assumption) ?_ | refine ln9 (by assumption) (by assumption) ?_ | refine ln10 (by assumption) (by assumption) ?_ | refine ln11 (by assumption) (by assumption) ?_ | refine ln12 (by assumption) (by assumption) ?_ | refine ln13 (by assumption) (by assumption) ?_ | refine ln14 (by assumption) (by assumption) ?_ | refine ln15 (by assumption) (by assumption) ?_ | refine ln16 (by assumption) (by assumption) ?_ | refine ln17 (by assumption) (by assumption) ?_))
local macro_rules | `(tactic| walk_at "execs cons") => `(tactic| with_reducible refine wpAny_execs_cons ?_)
local macro_rules | `(tactic| walk_at "newTuple") => `(tactic| (k_dflt (refine' z_tuple ?F ?N ?z ?_; (case F => k_asm); (case N => k_asm); (case z => kmk_size)); intro T' h' F' N'; (try k_sweep)))
local macro_rules | `(tactic| walk_at "assign Tuple") => `(tactic| ((with_reducible show wpAny _ _ (assign (Expr.Tuple _ _ _) _ (Value.ref _)) _ _ _); k_dflt (refine' z_unpack ?F ?X ?N ?H ?h ?n ?st ?_; (case F => k_asm); (case X => k_asm); (case N => k_asm); (case H => walk_at "has"); (case h => exact rfl); (case n => exact rfl); (case st => exact rfl)); intro h' F' N'; (try k_sweep)))
local macro_rules | `(tactic| walk_at "dead") => `(tactic| first | omega | contradiction)
local macro_rules | `(tactic| walk_at "cond") => `(tactic| (intro hb; (try simp only [bne_iff_ne, beq_iff_eq, Bool.not_eq_true', Bool.not_eq_false', bne_eq_false_iff_eq, beq_eq_false_iff_ne, Bool.not_eq_true, Bool.not_eq_false, decide_eq_true_eq, decide_eq_false_iff_not, ne_eq, mpf_eq_iff, true_and, and_true, false_and, and_false, not_false_eq_true, not_true_eq_false, Decidable.not_not, Bool.not_not, Int.not_le, Int.not_lt] at hb); (try (exfalso; walk_at "dead"))))
local macro_rules | `(tactic| walk_at "ite") => `(tactic| first | with_reducible rw [if_pos True.intro] | with_reducible rw [if_neg not_false] | with_reducible rw [if_pos rfl] | (with_reducible (refine split_dec ?_ ?_ <;> walk_at "cond")) | (with_reducible (refine split_bool ?_ ?_ <;> walk_at "cond")))

local macro_rules | `(tactic| walk_at "compareOp Eq ref ref") => `(tactic| (k_dflt (refine' z_eqM ?F ?X ?N ?x ?y ?u ?_; (case F => k_asm); (case X => k_asm); (case N => k_asm); (case x => walk_at "has"); (case y => walk_at "has"); (case u => first | omega | ktr_units))))
local macro_rules | `(tactic| walk_at "compareOp NotEq ref ref") => `(tactic| (k_dflt (refine' z_neM ?F ?X ?N ?x ?y ?u ?_; (case F => k_asm); (case X => k_asm); (case N => k_asm); (case x => walk_at "has"); (case y => walk_at "has"); (case u => first | omega | ktr_units))))

local macro_rules | `(tactic| walk_at "pyl") => `(tactic| first | assumption | decide +kernel)
local macro_rules | `(tactic| walk_at "call builtin:divmod") => `(tactic| (k_dflt (refine' z_divmod ?F ?N ?b ?p ?_; (case F => k_asm); (case N => k_asm); (case b => walk_at "side"); (case p => walk_at "pyl")); intro T' h' F' N'; (try k_sweep)))
local macro_rules | `(tactic| walk_at "binaryOp FloorDiv int int") => `(tactic| refine z_fdiv (by walk_at "side") (by walk_at "pyl") ?_)

local macro_rules | `(tactic| walk_at "subscriptTail Name Constant ref int") => `(tactic| (k_dflt (refine' z_item ?F ?X ?N ?x _ ?lo ?hi ?j ?v ?_ ?s; (case F => k_asm); (case X => k_asm); (case N => k_asm); (case x => walk_at "has"); (case lo => decide); (case hi => decide); (case j => exact rfl); (case v => exact rfl); (case s => with_unfolding_all rfl))))
local macro_rules | `(tactic| walk_at "isS") => `(tactic| first | with_reducible exact S_rfl | exact lit_0p | exact lit_p | exact lit_at | exact lit_e | exact lit_m | exact lit_n | exact lit_0 | exact lit_0b | exact lit_0o | exact lit_0x)
local macro_rules | `(tactic| walk_at "lz") => `(tactic| first | assumption | omega | ((try simp only [List.length_append, List.length_cons, List.length_nil, List.length_replicate]); omega))
local macro_rules | `(tactic| walk_at "binaryOp Add str str") => `(tactic| (refine z_cat (by walk_at "isS") (by walk_at "isS") (by walk_at "lz") ?_; intro t' tk'))
local macro_rules | `(tactic| walk_at "lz") => `(tactic| first | assumption | omega | ((try simp only [List.length_append, List.length_cons, List.length_nil, List.length_replicate, List.length_take, List.length_drop]); omega))
local macro_rules | `(tactic| walk_at "tsz") => `(tactic| first | assumption | omega)
local macro_rules | `(tactic| walk_at "side") => `(tactic| first | omega | assumption | decide)
local macro_rules | `(tactic| walk_at "call builtin:len") => `(tactic| ((with_reducible show wpAny _ _ (call (Value.builtin "len") [Value.str (S _) _]) _ _ _); refine z_slen (by walk_at "tsz") ?_))
local macro_rules | `(tactic| walk_at "call builtin:min") => `(tactic| (k_dflt (refine' z_min ?hh ?F ?N ?e ?_; (case hh => with_unfolding_all rfl); (case F => k_asm); (case N => k_asm); (case e => assumption)); intro h' t' tk' F' N'; (try k_sweep)))
local macro_rules | `(tactic| walk_at "subscriptTail Name Slice str ref") => `(tactic| ((with_reducible show wpAny _ _ (subscriptTail _ (Expr.Slice none (some _) none _) _ _) _ _ _); k_dflt (refine' z_sl_to ?F ?N ?h0 ?h1 ?hz ?_ ?s ?t; (case F => k_asm); (case N => k_asm); (case h0 => walk_at "tsz"); (case h1 => walk_at "tsz"); (case hz => walk_at "tsz"); (case s => with_unfolding_all rfl); (case t => intro _; with_unfolding_all rfl)); intro h' t' tk' F' N'; (try k_sweep)))
local macro_rules | `(tactic| walk_at "subscriptTail Name Slice str ref") => `(tactic| ((with_reducible show wpAny _ _ (subscriptTail _ (Expr.Slice (some _) none none _) _ _) _ _ _); k_dflt (refine' z_sl_fr ?F ?N ?h0 ?h1 ?hz ?_ ?s ?t; (case F => k_asm); (case N => k_asm); (case h0 => walk_at "tsz"); (case h1 => walk_at "tsz"); (case hz => walk_at "tsz"); (case s => with_unfolding_all rfl); (case t => intro _; with_unfolding_all rfl)); intro h' t' tk' F' N'; (try k_sweep)))
local macro_rules | `(tactic| walk_at "compareOp Eq ref ref") => `(tactic| (k_dflt (refine' z_eqT ?F ?X ?N ?x ?y ?u ?e ?_; (case F => k_asm); (case X => k_asm); (case N => k_asm); (case x => walk_at "has"); (case y => walk_at "has"); (case u => first | omega | ktr_units); (case e => assumption))))
local macro_rules | `(tactic| walk_at "compareOp NotEq ref ref") => `(tactic| (k_dflt (refine' z_neT ?F ?X ?N ?x ?y ?u ?e ?_; (case F => k_asm); (case X => k_asm); (case N => k_asm); (case x => walk_at "has"); (case y => walk_at "has"); (case u => first | omega | ktr_units); (case e => assumption))))
local macro_rules | `(tactic| walk_at "size") => `(tactic| first | assumption | exact size_mul (by assumption) (by assumption) (by assumption) (by decide))
local macro_rules | `(tactic| walk_at "call type:str") => `(tactic| (with_reducible refine z_str (by walk_at "side") (by walk_at "side") ?_))
local macro_rules | `(tactic| walk_at "call ref") => `(tactic| ((with_reducible show wpAny _ _ (call (Value.ref 246) _) _ _ _); k_dflt (refine' z_use (c_aheadB _ _ _ ?hb) ?B ?F ?X ?N ?T ?kK ?kd ?ku ?kp ?_); walk_at "use"; (case kp => trivial); (case hb => walk_at "side"); walk_at "back"))
local macro_rules | `(tactic| walk_at "call ref") => `(tactic| ((with_reducible show wpAny _ _ (call (Value.ref 44) _) _ _ _); k_dflt (refine' z_use (c_numeral _ _ _ _ _ ?hn ?hb ?hb2 ?hbs) ?B ?F ?X ?N ?T ?kK ?kd ?ku ?kp ?_); walk_at "use"; (case kp => trivial); (case hn => walk_at "side"); (case hb => walk_at "side"); (case hb2 => walk_at "side"); (case hbs => walk_at "side"); walk_at "back"))
local macro_rules | `(tactic| walk_at "call ref") => `(tactic| ((with_reducible show wpAny _ _ (call (Value.ref 92) [_]) _ _ _); k_dflt (refine' z_use (c_from_int1 _ _ _ ?hbs) ?B ?F ?X ?N ?T ?kK ?kd ?ku ?kp ?_); walk_at "use"; (case kp => trivial); (case hbs => walk_at "side"); walk_at "back"))
local macro_rules | `(tactic| walk_at "call ref") => `(tactic| ((with_reducible show wpAny _ _ (call (Value.ref 92) [_, _, _]) _ _ _); k_dflt (refine' z_use (c_from_int3 _ _ _ _ _ _ _ ?hp ?hbs) ?B ?F ?X ?N ?T ?kK ?kd ?ku ?kp ?_); walk_at "use"; (case kp => trivial); (case hp => walk_at "side"); (case hbs => walk_at "side"); walk_at "back"))
local macro_rules | `(tactic| walk_at "call ref") => `(tactic| ((with_reducible show wpAny _ _ (call (Value.ref 108) [_, _, _, _]) _ _ _); k_dflt (refine' z_use (c_from_rational _ _ _ _ _ _ _ _ _ ?hq0 ?hpp ?hpb ?hbp ?hbq) ?B ?F ?X ?N ?T ?kK ?kd ?ku ?kp ?_); walk_at "use"; (case kp => trivial); (case hq0 => walk_at "side"); (case hpp => walk_at "side"); (case hpb => walk_at "side"); (case hbp => walk_at "side"); (case hbq => walk_at "side"); walk_at "back"))
local macro_rules | `(tactic| walk_at "call ref") => `(tactic| ((with_reducible show wpAny _ _ (call (Value.ref 225) [_]) _ _ _); k_dflt (refine' z_use (c_fsB1 _ _ _ _ _ _ ?h ?h0) ?B ?F ?X ?N ?T ?kK ?kd ?ku ?kp ?_); (case h => first | assumption | exact (by assumption : _ → FS _ _ _ _ _) (by assumption)); walk_at "use"; (case kp => trivial); (case h0 => walk_at "side"); walk_at "back"))
local macro_rules | `(tactic| walk_at "call ref") => `(tactic| ((with_reducible show wpAny _ _ (call (Value.ref 225) [_, _, _]) _ _ _); k_dflt (refine' z_use (c_fsB3 _ _ _ _ _ _ _ _ _ _ ?h ?hp ?hpb) ?B ?F ?X ?N ?T ?kK ?kd ?ku ?kp ?_); (case h => first | assumption | exact (by assumption : _ → FS _ _ _ _ _) (by assumption)); walk_at "use"; (case kp => trivial); (case hp => walk_at "side"); (case hpb => walk_at "side"); walk_at "back"))
local macro_rules | `(tactic| walk_at "post") => `(tactic| exact rfl)
theorem c_whole1 (w : World) (n b behind minus prec bh man k2 k3 : Int) (r : Rnd) (t1 t2 t3 t4 t5 t6 : Tok) (hmi : minus = 1) (hb4 : b = 2 ∨ b = 8 ∨ b = 10 ∨ b = 16) (hn : 0 ≤ n) (hbs : Builtin.Int.intBits n ≤ 400) (hfl : (numS b.toNat n.toNat).length ≤ 250) (hbh : mn behind (((numS b.toNat n.toNat).length : Int) - 1) = bh) (hb0 : 0 ≤ bh) (hb1 : bh ≤ ((numS b.toNat n.toNat).length : Int) - 1) (hb2 : bh ≤ 100) (hbb : Builtin.Int.intBits b ≤ 6) (hp : 0 < prec) (hpb : prec ≤ 30000) (hq0 : 0 < b ^ bh.toNat) (hqb : Builtin.Int.intBits (b ^ bh.toNat) ≤ 8000) (hl10 : (numS 10 bh.toNat).length ≤ 20) (H1 : FS w b (([45] ++ ahead b.toNat) ++ (numS b.toNat n.toNat)) (-n) 0) (H2 : FS w b (((([45] ++ ahead b.toNat) ++ (numS b.toNat n.toNat).take ((((numS b.toNat n.toNat).length : Int) - bh).toNat)) ++ [46]) ++ (numS b.toNat n.toNat).drop ((((numS b.toNat n.toNat).length : Int) - bh).toNat)) man k2) (H3 : b = 16 → FS w b (((((([45] ++ ahead b.toNat) ++ (numS b.toNat n.toNat).take ((((numS b.toNat n.toNat).length : Int) - bh).toNat)) ++ [46]) ++ (numS b.toNat n.toNat).drop ((((numS b.toNat n.toNat).length : Int) - bh).toNat)) ++ [64]) ++ numS 10 bh.toNat) man k3) (H4 : ¬ b = 16 → FS w b (((((([45] ++ ahead b.toNat) ++ (numS b.toNat n.toNat).take ((((numS b.toNat n.toNat).length : Int) - bh).toNat)) ++ [46]) ++ (numS b.toNat n.toNat).drop ((((numS b.toNat n.toNat).length : Int) - bh).toNat)) ++ [101]) ++ numS 10 bh.toNat) man k3) (E1 : fsv b (-n) 0 0 .d = fme (-n) 0 0 .d) (E2 : fsv b (-n) 0 prec r = fme (-n) 0 prec r) (E3 : fsv b man k2 prec r = ratP (-n) (b ^ bh.toNat) prec r) (E4 : fsv b man k3 prec r = fme (-n) 0 prec r) : Ctr w 253 15 [.int n t1, .int b t2, .int behind t3, .int minus t4, .int prec t5, .str r.str t6] (fun _ _ => True) (fun _ v => v = .bool true) := by
  have hal : (ahead b.toNat).length ≤ 2 := by rcases hb4 with rfl | rfl | rfl | rfl <;> decide
  have hbn : Builtin.Int.intBits n ≤ 1000000 := by omega
  have hbm : Builtin.Int.intBits (-n) ≤ 1000000 := by rw [bits_neg]; omega
  have hbhb : Builtin.Int.intBits bh ≤ 1900 := Nat.le_trans (intBits_small (k := 7) hb0 (by omega)) (by decide)
  have hbn' : Builtin.Int.intBits n ≤ 8000 := by omega
  have hbm' : Builtin.Int.intBits (-n) ≤ 8000 := by rw [bits_neg]; omega
  unfold Ctr
  k_fill
  refine' z_enter (r := 14) [("n", .int n t1), ("base", .int b t2), ("behind", .int behind t3), ("minus", .int minus t4), ("prec", .int prec t5), ("rnd", .str r.str t6)] ["figures", "sign", "worth", "text", "cut", "back"] ["n", "base", "behind", "minus", "prec", "rnd", "figures", "sign", "worth", "text", "cut", "back"] [some (.int n t1), some (.int b t2), some (.int behind t3), some (.int minus t4), some (.int prec t5), some (.str r.str t6), none, none, none, none, none, none] ?eo ?ec ?eb ?en ?em ?eK ?ecl ?e1 ?e2 ?_
  walk_at "enter"
  intro dp un gd outer A₀ base g L led h G D tk O p loose mean mg mb B X HT hd hu hpre LK F N
  k_fold
  walk_at "steps"
theorem c_whole0 (w : World) (n b behind minus prec bh man k2 k3 : Int) (r : Rnd) (t1 t2 t3 t4 t5 t6 : Tok) (hmi : ¬ minus = 1) (hb4 : b = 2 ∨ b = 8 ∨ b = 10 ∨ b = 16) (hn : 0 ≤ n) (hbs : Builtin.Int.intBits n ≤ 400) (hfl : (numS b.toNat n.toNat).length ≤ 250) (hbh : mn behind (((numS b.toNat n.toNat).length : Int) - 1) = bh) (hb0 : 0 ≤ bh) (hb1 : bh ≤ ((numS b.toNat n.toNat).length : Int) - 1) (hb2 : bh ≤ 100) (hbb : Builtin.Int.intBits b ≤ 6) (hp : 0 < prec) (hpb : prec ≤ 30000) (hq0 : 0 < b ^ bh.toNat) (hqb : Builtin.Int.intBits (b ^ bh.toNat) ≤ 8000) (hl10 : (numS 10 bh.toNat).length ≤ 20) (H1 : FS w b (([] ++ ahead b.toNat) ++ (numS b.toNat n.toNat)) n 0) (H2 : FS w b (((([] ++ ahead b.toNat) ++ (numS b.toNat n.toNat).take ((((numS b.toNat n.toNat).length : Int) - bh).toNat)) ++ [46]) ++ (numS b.toNat n.toNat).drop ((((numS b.toNat n.toNat).length : Int) - bh).toNat)) man k2) (H3 : b = 16 → FS w b (((((([] ++ ahead b.toNat) ++ (numS b.toNat n.toNat).take ((((numS b.toNat n.toNat).length : Int) - bh).toNat)) ++ [46]) ++ (numS b.toNat n.toNat).drop ((((numS b.toNat n.toNat).length : Int) - bh).toNat)) ++ [64]) ++ numS 10 bh.toNat) man k3) (H4 : ¬ b = 16 → FS w b (((((([] ++ ahead b.toNat) ++ (numS b.toNat n.toNat).take ((((numS b.toNat n.toNat).length : Int) - bh).toNat)) ++ [46]) ++ (numS b.toNat n.toNat).drop ((((numS b.toNat n.toNat).length : Int) - bh).toNat)) ++ [101]) ++ numS 10 bh.toNat) man k3) (E1 : fsv b n 0 0 .d = fme n 0 0 .d) (E2 : fsv b n 0 prec r = fme n 0 prec r) (E3 : fsv b man k2 prec r = ratP n (b ^ bh.toNat) prec r) (E4 : fsv b man k3 prec r = fme n 0 prec r) : Ctr w 253 15 [.int n t1, .int b t2, .int behind t3, .int minus t4, .int prec t5, .str r.str t6] (fun _ _ => True) (fun _ v => v = .bool true) := by
  have hal : (ahead b.toNat).length ≤ 2 := by rcases hb4 with rfl | rfl | rfl | rfl <;> decide
  have hbn : Builtin.Int.intBits n ≤ 1000000 := by omega
  have hbm : Builtin.Int.intBits (-n) ≤ 1000000 := by rw [bits_neg]; omega
  have hbhb : Builtin.Int.intBits bh ≤ 1900 := Nat.le_trans (intBits_small (k := 7) hb0 (by omega)) (by decide)
  have hbn' : Builtin.Int.intBits n ≤ 8000 := by omega
  have hbm' : Builtin.Int.intBits (-n) ≤ 8000 := by rw [bits_neg]; omega
  unfold Ctr
  k_fill
  refine' z_enter (r := 14) [("n", .int n t1), ("base", .int b t2), ("behind", .int behind t3), ("minus", .int minus t4), ("prec", .int prec t5), ("rnd", .str r.str t6)] ["figures", "sign", "worth", "text", "cut", "back"] ["n", "base", "behind", "minus", "prec", "rnd", "figures", "sign", "worth", "text", "cut", "back"] [some (.int n t1), some (.int b t2), some (.int behind t3), some (.int minus t4), some (.int prec t5), some (.str r.str t6), none, none, none, none, none, none] ?eo ?ec ?eb ?en ?em ?eK ?ecl ?e1 ?e2 ?_
  walk_at "enter"
  intro dp un gd outer A₀ base g L led h G D tk O p loose mean mg mb B X HT hd hu hpre LK F N
  k_fold
  walk_at "steps"
end Mine
/-! part W19 -/
namespace Mine
theorem flushW19 : (0 : Nat) = 0 := by
  w_top off
  first | walk1 | rfl
local macro_rules | `(tactic| walk_at "has") => `(tactic| first | (with_reducible assumption) | exact Has.here | (refine Has.cons ?_; walk_at "has") | (refine Has.sub (by with_reducible assumption) ?_; walk_at "has") | exact has_zero | exact has_nan | exact has_inf | exact has_ninf)
local macro_rules | `(tactic| walk_at "subs") => `(tactic| first | (with_reducible assumption) | exact sub_refl | (refine sub_cons ?_; walk_at "subs") | (refine sub_trans (by with_reducible assumption) ?_; walk_at "subs"))
local macro_rules | `(tactic| kun_tup) => `(tactic| exact Has.tup (by k_asm) (by k_asm) (by k_asm) (by walk_at "has"))
local macro_rules | `(tactic| walk_at "Fin") => `(tactic| ((refine ⟨_, _, by with_reducible assumption, by with_reducible assumption, by walk_at "subs", ?_, rfl⟩); walk_at "post"))
local macro_rules | `(tactic| walk_at "steps") => `(tactic| repeat' (first | (k_unfold) | walk1 | fail "no step"))
local macro_rules | `(tactic| walk_at "isR") => `(tactic| with_reducible first | assumption | exact isR _ | exact isR_n | exact isR_f | exact isR_c | exact isR_d | exact isR_u)
local macro_rules | `(tactic| walk_at "use") => `(tactic| ((case B => k_asm); (case F => k_asm); (case X => k_asm); (case N => k_asm); (case T => k_asm); (case kK => first | exact rfl | assumption); (case kd => first | omega | ktr_room); (case ku => first | omega | ktr_units)))
local macro_rules | `(tactic| walk_at "back") => `(tactic| (intro v9 h9 tk9 led9 F9 N9 s9 p9; k_dflt (first | (obtain ⟨D9, ta9, tb9, tc9, td9, e9, hM9⟩ := p9; subst e9) | (obtain ⟨y9, ⟨D9, ta9, tb9, tc9, td9, e9, hM9⟩, hy9⟩ := p9; subst e9) | (obtain ⟨c9, t9, e9, hc9⟩ := p9; subst e9) | (obtain ⟨t9, e9⟩ := p9; subst e9) | skip); (try k_sweep); (try k_fold)))
local macro_rules | `(tactic| walk_at "enter") => `(tactic| ((case eo => k_is); (case ec => k_is); (case eb => exact fun _ => by rfl); (case en => exact rfl); (case em => exact rfl); (case eK => exact ⟨by decide +kernel, rfl, by decide +kernel⟩); (case ecl => decide +kernel); (case e1 => exact rfl); (case e2 => exact rfl)))
local macro_rules | `(tactic| walk_at "side") => `(tactic| first | omega | decide | assumption)
local macro_rules | `(tactic| walk_at "binaryOp Add int int") => `(tactic| refine z_add ?_)
local macro_rules | `(tactic| walk_at "binaryOp Sub int int") => `(tactic| refine z_sub ?_)
local macro_rules | `(tactic| walk_at "binaryOp Mult int int") => `(tactic| refine z_mul (by walk_at "mulok") ?_)
local macro_rules | `(tactic| walk_at "binaryOp Mod int int") => `(tactic| refine z_mod (by walk_at "side") ?_)
local macro_rules | `(tactic| walk_at "binaryOp Pow int int") => `(tactic| refine z_pow (by walk_at "side") (by walk_at "size") ?_)
local macro_rules | `(tactic| walk_at "binaryOp LShift int int") => `(tactic| refine z_shl (by walk_at "side") (by walk_at "size") ?_)
local macro_rules | `(tactic| walk_at "binaryOp RShift int int") => `(tactic| refine z_shr (by walk_at "side") ?_)
local macro_rules | `(tactic| walk_at "binaryOp BitAnd int int") => `(tactic| refine z_and ?_)
local macro_rules | `(tactic| walk_at "binaryOp BitXor int int") => `(tactic| refine z_xor ?_)
local macro_rules | `(tactic| walk_at "unaryOp USub int") => `(tactic| refine z_neg ?_)
local macro_rules | `(tactic| walk_at "inplaceOp Add int int") => `(tactic| refine z_iadd ?_)
local macro_rules | `(tactic| walk_at "inplaceOp Sub int int") => `(tactic| refine z_isub ?_)
local macro_rules | `(tactic| walk_at "inplaceOp Mult int int") => `(tactic| refine z_imul (by walk_at "mulok") ?_)
local macro_rules | `(tactic| walk_at "inplaceOp RShift int int") => `(tactic| refine z_ishr (by walk_at "side") ?_)
local macro_rules | `(tactic| walk_at "inplaceOp LShift int int") => `(tactic| refine z_ishl (by walk_at "side") (by walk_at "size") ?_)
local macro_rules | `(tactic| walk_at "inplaceOp BitXor int int") => `(tactic| refine z_ixor ?_)
local macro_rules | `(tactic| walk_at "eval Constant int") => `(tactic| refine z_const ?_)
local macro_rules | `(tactic| walk_at "eval Constant str") => `(tactic| refine z_text ?_)
local macro_rules | `(tactic| walk_at "storeName") => `(tactic| (with_reducible (first | refine st0 (by assumption) (by assumption) (by assumption) ?_ | refine st1 (by assumption) (by assumption) (by assumption) ?_ | refine st2 (by assumption) (by assumption) (by assumption) ?_ | refine st3 (by assumption) (by assumption) (by assumption) ?_ | refine st4 (by assumption) (by assumption) (by assumption) ?_ | refine st5 (by assumption) (by assumption) (by assumption) ?_ | refine st6 (by assumption) (by assumption) (by assumption) ?_ | refine st7 (by assumption) (by assumption) (by assumption) ?_ | refine st8 (by assumption) (by assumption) (by assumption) ?_ | refine st9 (by assumption) (by assumption) (by assumption) ?_ | refine st10 (by assumption) (by assumption) (by assumption) ?_ | refine st11 (by assumption) (by assumption) (by assumption) ?_ | refine st12 (by assumption) (by assumption) (by assumption) ?_ | refine st13 (by assumption) (by assumption) (by assumption) ?_ | refine st14 (by assumption) (by assumption) (by assumption) ?_ | refine st15 (by assumption) (by assumption) (by assumption) ?_ | refine st16 (by assumption) (by assumption) (by assumption) ?_ | refine st17 (by assumption) (by assumption) (by assumption) ?_); intro h' tk' F' N'; (try k_sweep)))
local macro_rules | `(tactic| walk_at "eval Name") => `(tactic| with_reducible (first | refine ld0 (by assumption) (by assumption) ?_ | refine ld1 (by assumption) (by assumption) ?_ | refine ld2 (by assumption) (by assumption) ?_ | refine ld3 (by assumption) (by assumption) ?_ | refine ld4 (by assumption) (by assumption) ?_ | refine ld5 (by assumption) (by assumption) ?_ | refine ld6 (by assumption) (by assumption) ?_ | refine ld7 (by assumption) (by assumption) ?_ | refine ld8 (by assumption) (by assumption) ?_ | refine ld9 (by assumption) (by assumption) ?_ | refine ld10 (by assumption) (by assumption) ?_ | refine ld11 (by assumption) (by assumption) ?_ | refine ld12 (by assumption) (by assumption) ?_ | refine ld13 (by assumption) (by assumption) ?_ | refine ld14 (by assumption) (by assumption) ?_ | refine ld15 (by assumption) (by assumption) ?_ | refine ld16 (by assumption) (by assumption) ?_ | refine ld17 (by assumption) (by assumption) ?_))
local macro_rules | `(tactic| walk_at "loadName") => `(tactic| with_reducible (first | refine ln0 (by assumption) (by assumption) ?_ | refine ln1 (by assumption) (by assumption) ?_ | refine ln2 (by assumption) (by assumption) ?_ | refine ln3 (by assumption) (by assumption) ?_ | refine ln4 (by assumption) (by assumption) ?_ | refine ln5 (by assumption) (by assumption) ?_ | refine ln6 (by assumption) (by assumption) ?_ | refine ln7 (by assumption) (by assumption) ?_ | refine ln8 (by assumption) (by assumption) ?_ | refine ln9 (by assumption) (by assumption) ?_ | refine ln10 (by assumption) (by assumption) ?_ | refine ln11 (by assumption) (by assumption) ?_ | refine ln12 (by assumption) (by assumption) ?_ | refine ln13 (by assumption) (by assumption) ?_ | refine ln14 (by assumption) (by assumption) ?_ | refine ln15 (by assumption) (by assumption) ?_ | refine ln16 (by assumption) (by assumption) ?_ | refine ln17 (by assumption) (by assumption) ?_))
local macro_rules | `(tactic| walk_at "execs cons") => `(tactic| with_reducible refine wpAny_execs_cons ?_)
local macro_rules | `(tactic| walk_at "newTuple") => `(tactic| (k_dflt (refine' z_tuple ?F ?N ?z ?_; (case F => k_asm); (case N => k_asm); (case z => kmk_size)); intro T' h' F' N'; (try k_sweep)))
local macro_rules | `(tactic| walk_at "assign Tuple") => `(tactic| ((with_reducible show wpAny _ _ (assign (Expr.Tuple _ _ _) _ (Value.ref _)) _ _ _); k_dflt (refine' z_unpack ?F ?X ?N ?H ?h ?n ?st ?_; (case F => k_asm); (case X => k_asm); (case N => k_asm); (case H => walk_at "has"); (case h => exact rfl); (case n => exact rfl); (case st => exact rfl)); intro h' F' N'; (try k_sweep)))
local macro_rules | `(tactic| walk_at "dead") => `(tactic| first | omega | contradiction)
local macro_rules | `(tactic| walk_at "cond") => `(tactic| (intro hb; (try simp only [bne_iff_ne, beq_iff_eq, Bool.not_eq_true', Bool.not_eq_false', bne_eq_false_iff_eq, beq_eq_false_iff_ne, Bool.not_eq_true, Bool.not_eq_false, decide_eq_true_eq, decide_eq_false_iff_not, ne_eq, mpf_eq_iff, true_and, and_true, false_and, and_false, not_false_eq_true, not_true_eq_false, Decidable.not_not, Bool.not_not, Int.not_le, Int.not_lt] at hb); (try (exfalso; walk_at "dead"))))
local macro_rules | `(tactic| walk_at "ite") => `(tactic| first | with_reducible rw [if_pos True.intro] | with_reducible rw [if_neg not_false] | with_reducible rw [if_pos rfl] | (with_reducible (refine split_dec ?_ ?_ <;> walk_at "cond")) | (with_reducible (refine split_bool ?_ ?_ <;> walk_at "cond")))

local macro_rules | `(tactic| walk_at "compareOp Eq ref ref") => `(tactic| (k_dflt (refine' z_eqM ?F ?X ?N ?x ?y ?u ?_; (case F => k_asm); (case X => k_asm); (case N => k_asm); (case x => walk_at "has"); (case y => walk_at "has"); (case u => first | omega | ktr_units))))
local macro_rules | `(tactic| walk_at "compareOp NotEq ref ref") => `(tactic| (k_dflt (refine' z_neM ?F ?X ?N ?x ?y ?u ?_; (case F => k_asm); (case X => k_asm); (case N => k_asm); (case x => walk_at "has"); (case y => walk_at "has"); (case u => first | omega | ktr_units))))

local macro_rules | `(tactic| walk_at "pyl") => `(tactic| first | assumption | decide +kernel)
local macro_rules | `(tactic| walk_at "call builtin:divmod") => `(tactic| (k_dflt (refine' z_divmod ?F ?N ?b ?p ?_; (case F => k_asm); (case N => k_asm); (case b => walk_at "side"); (case p => walk_at "pyl")); intro T' h' F' N'; (try k_sweep)))
local macro_rules | `(tactic| walk_at "binaryOp FloorDiv int int") => `(tactic| refine z_fdiv (by walk_at "side") (by walk_at "pyl") ?_)

local macro_rules | `(tactic| walk_at "subscriptTail Name Constant ref int") => `(tactic| (k_dflt (refine' z_item ?F ?X ?N ?x _ ?lo ?hi ?j ?v ?_ ?s; (case F => k_asm); (case X => k_asm); (case N => k_asm); (case x => walk_at "has"); (case lo => decide); (case hi => decide); (case j => exact rfl); (case v => exact rfl); (case s => with_unfolding_all rfl))))
structure MOk (x : Mpf) : Prop where
  s0 : x.s = 0
  m0 : 0 ≤ x.m
  odd : x.m % 2 = 1 ∨ x.m = 0
  z : x.m = 0 → x.e = 0 ∧ x.b = 0
  b : x.b = blen x.m.toNat
  bits : Builtin.Int.intBits x.m ≤ 1000
  lo : -2000 ≤ x.e
  hi : x.e ≤ 2000
theorem c_tf (w : World) (T : Addr) (x : Mpf) (pr : Int) (a1 a2 a3 a4 t5 : Tok) (h : MOk x) (h0 : 0 ≤ x.e + pr) (h1 : pr ≤ 1000) : Ctr w 115 1 [.ref T, .int pr t5] (fun _ led => Has w led T (tupO [.int x.s a1, .int x.m a2, .int x.e a3, .int x.b a4])) (fun _ v => ∃ t, v = .int (x.m * 2 ^ (x.e + pr).toNat) t) := by
  obtain ⟨s, m, e, b⟩ := x
  obtain ⟨s0, m0, odd, z, hb, bits, lo, hi⟩ := h
  dsimp only at *
  subst s0
  exact c_to_fixed w T m e b pr a1 a2 a3 a4 t5 h0 (by omega) (by omega)
theorem c_b2r (w : World) (x xb b bd fg : Int) (t1 t2 t3 t4 : Tok) (h0 : 0 ≤ xb) (h1 : 0 ≤ bd) (hs : (Builtin.Int.intBits b : Int) * bd ≤ 2 ^ 27) (hm : IntMulOk x (b ^ bd.toNat)) (hf : (x * b ^ bd.toNat).fdiv (2 ^ xb.toNat) = fg) : Ctr w 28 1 [.int x t1, .int xb t2, .int b t3, .int bd t4] (fun _ _ => True) (fun _ v => ∃ t, v = .int fg t) := by
  subst hf
  exact c_bin_to_radix w x xb b bd t1 t2 t3 t4 h0 h1 hs hm
theorem c_mi (w : World) (T : Addr) (x y : Mpf) (n : Int) (a1 a2 a3 a4 t2 t3 : Tok) (h : MOk x) (hn : 0 < n) (hbx : Builtin.Int.intBits x.m ≤ 500) (hbn : Builtin.Int.intBits n ≤ 1000) (hy : nrm 0 (x.m * n).toNat x.e (Int.toNat 1000) .d = y) : Ctr w 191 9 [.ref T, .int n t2, .int 1000 t3] (fun _ led => Has w led T (tupO [.int x.s a1, .int x.m a2, .int x.e a3, .int x.b a4])) (fun led v => IsMpf w led v y) := by
  obtain ⟨s, m, e, b⟩ := x
  obtain ⟨s0, m0, odd, z, hb, bits, lo, hi⟩ := h
  dsimp only at *
  subst s0
  subst hy
  exact c_mpf_mul_int w T 0 m e b n a1 a2 a3 a4 t2 t3 rfl m0 (fun h => (z h).1) hb hn hbx hbn
theorem c_ti (w : World) (T : Addr) (x : Mpf) (fg : Int) (a1 a2 a3 a4 t5 : Tok) (h : MOk x) (hf : toIntF x.m x.e = fg) : Ctr w 100 12 [.ref T, .str (Str.ofString "f") t5] (fun _ led => Has w led T (tupO [.int x.s a1, .int x.m a2, .int x.e a3, .int x.b a4])) (fun _ v => ∃ t, v = .int fg t) := by
  obtain ⟨s, m, e, b⟩ := x
  obtain ⟨s0, m0, odd, z, hb, bits, lo, hi⟩ := h
  dsimp only at *
  subst s0
  subst hf
  exact c_to_int w T m e b a1 a2 a3 a4 t5 (fun h => (z h).1) (by omega) (by omega)
theorem Ctr.mono {w : World} {f : Addr} {r : Nat} {vs : List Value} {Pre : Heap → Led → Prop} {P P' : Led → Value → Prop} (h : Ctr w f r vs Pre P) (k : ∀ l v, P l v → P' l v) : Ctr w f r vs Pre P' :=
  fun dp un gd cn cs a ccd cl outer A₀ base h₀ L m led s p loose mean mg mb Q E B F X N T hk hd hu hp hret =>
    h dp un gd cn cs a ccd cl outer A₀ base h₀ L m led s p loose mean mg mb Q E B F X N T hk hd hu hp fun v h' tk' led' F' N' s' p' => hret v h' tk' led' F' N' s' (k _ _ p')
theorem c_le (w : World) (T U : Addr) (x y : Mpf) (a1 a2 a3 a4 b1 b2 b3 b4 : Tok) (hx : MOk x) (hy : MOk y) (h : vle x.m x.e y.m y.e) : Ctr w 136 13 [.ref T, .ref U] (fun _ led => Has w led T (tupO [.int x.s a1, .int x.m a2, .int x.e a3, .int x.b a4]) ∧ Has w led U (tupO [.int y.s b1, .int y.m b2, .int y.e b3, .int y.b b4])) (fun _ v => v = .bool true) := by
  obtain ⟨s, m, e, b⟩ := x
  obtain ⟨s', m', e', b'⟩ := y
  obtain ⟨s0, m0, odd, z, hb, bits, lo, hi⟩ := hx
  obtain ⟨s0', m0', odd', z', hb', bits', lo', hi'⟩ := hy
  dsimp only at *
  subst s0
  subst s0'
  refine (c_mpf_le w T U m e b m' e' b' a1 a2 a3 a4 b1 b2 b3 b4 m0 odd z hb m0' odd' z' hb' (by omega) (by omega) bits bits').mono ?_
  rintro _ v ⟨c, rfl, hc⟩
  rw [hc.mpr h]
theorem c_lt (w : World) (T U : Addr) (x y : Mpf) (a1 a2 a3 a4 b1 b2 b3 b4 : Tok) (hx : MOk x) (hy : MOk y) (h : vlt x.m x.e y.m y.e) : Ctr w 129 13 [.ref T, .ref U] (fun _ led => Has w led T (tupO [.int x.s a1, .int x.m a2, .int x.e a3, .int x.b a4]) ∧ Has w led U (tupO [.int y.s b1, .int y.m b2, .int y.e b3, .int y.b b4])) (fun _ v => v = .bool true) := by
  obtain ⟨s, m, e, b⟩ := x
  obtain ⟨s', m', e', b'⟩ := y
  obtain ⟨s0, m0, odd, z, hb, bits, lo, hi⟩ := hx
  obtain ⟨s0', m0', odd', z', hb', bits', lo', hi'⟩ := hy
  dsimp only at *
  subst s0
  subst s0'
  refine (c_mpf_lt w T U m e b m' e' b' a1 a2 a3 a4 b1 b2 b3 b4 m0 odd z hb m0' odd' z' hb' (by omega) (by omega) bits bits').mono ?_
  rintro _ v ⟨c, rfl, hc⟩
  rw [hc.mpr h]
theorem c_fsX (w : World) (b : Int) (l : List Nat) (man exp prec : Int) (r : Rnd) (rs : Str) (hr : rs = r.str) (y : Mpf) (t1 t2 t3 : Tok) (h : FS w b l man exp) (hp : 0 < prec) (hpb : prec ≤ 30000) (e : fsv b man exp prec r = y) :
    Ctr w 225 14 [.str (S l) t1, .int prec t2, .str rs t3] (fun _ _ => True) (fun led v => IsMpf w led v y) := by
  subst hr
  subst e
  exact c_fsB3 w b l man exp prec r t1 t2 t3 h hp hpb
local macro_rules | `(tactic| walk_at "size") => `(tactic| first | assumption | exact size_mul (by assumption) (by assumption) (by assumption) (by decide))
local macro_rules | `(tactic| walk_at "mulok") => `(tactic| first | assumption)
local macro_rules | `(tactic| walk_at "side") => `(tactic| first | omega | assumption | decide)
local macro_rules | `(tactic| walk_at "call ref") => `(tactic| ((with_reducible show wpAny _ _ (call (Value.ref 115) _) _ _ _); k_dflt (refine' z_use (c_tf _ _ _ _ _ _ _ _ _ ?h ?h0 ?h1) ?B ?F ?X ?N ?T ?kK ?kd ?ku ?kp ?_); walk_at "use"; (case kp => walk_at "has"); (case h => walk_at "side"); (case h0 => walk_at "side"); (case h1 => walk_at "side"); walk_at "back"))
local macro_rules | `(tactic| walk_at "call ref") => `(tactic| ((with_reducible show wpAny _ _ (call (Value.ref 28) _) _ _ _); k_dflt (refine' z_use (c_b2r _ _ _ _ _ _ _ _ _ _ ?h0 ?h1 ?hs ?hm ?hf) ?B ?F ?X ?N ?T ?kK ?kd ?ku ?kp ?_); walk_at "use"; (case kp => trivial); (case h0 => walk_at "side"); (case h1 => walk_at "side"); (case hs => walk_at "side"); (case hm => walk_at "side"); (case hf => walk_at "side"); walk_at "back"))
local macro_rules | `(tactic| walk_at "call ref") => `(tactic| ((with_reducible show wpAny _ _ (call (Value.ref 191) _) _ _ _); k_dflt (refine' z_use (c_mi _ _ _ _ _ _ _ _ _ _ _ ?h ?hn ?hbx ?hbn ?hy) ?B ?F ?X ?N ?T ?kK ?kd ?ku ?kp ?_); walk_at "use"; (case kp => walk_at "has"); (case h => walk_at "side"); (case hn => walk_at "side"); (case hbx => walk_at "side"); (case hbn => walk_at "side"); (case hy => walk_at "side"); walk_at "back"))
local macro_rules | `(tactic| walk_at "call ref") => `(tactic| ((with_reducible show wpAny _ _ (call (Value.ref 100) _) _ _ _); k_dflt (refine' z_use (c_ti _ _ _ _ _ _ _ _ _ ?h ?hf) ?B ?F ?X ?N ?T ?kK ?kd ?ku ?kp ?_); walk_at "use"; (case kp => walk_at "has"); (case h => walk_at "side"); (case hf => walk_at "side"); walk_at "back"))
local macro_rules | `(tactic| walk_at "call ref") => `(tactic| ((with_reducible show wpAny _ _ (call (Value.ref 136) _) _ _ _); k_dflt (refine' z_use (c_le _ _ _ _ _ _ _ _ _ _ _ _ _ ?hx ?hy ?h) ?B ?F ?X ?N ?T ?kK ?kd ?ku ?kp ?_); walk_at "use"; (case kp => exact ⟨by walk_at "has", by walk_at "has"⟩); (case hx => walk_at "side"); (case hy => walk_at "side"); (case h => walk_at "side"); (intro v9 h9 tk9 led9 F9 N9 s9 p9; k_dflt (subst p9); (try k_sweep); (try k_fold))))
local macro_rules | `(tactic| walk_at "call ref") => `(tactic| ((with_reducible show wpAny _ _ (call (Value.ref 129) _) _ _ _); k_dflt (refine' z_use (c_lt _ _ _ _ _ _ _ _ _ _ _ _ _ ?hx ?hy ?h) ?B ?F ?X ?N ?T ?kK ?kd ?ku ?kp ?_); walk_at "use"; (case kp => exact ⟨by walk_at "has", by walk_at "has"⟩); (case hx => walk_at "side"); (case hy => walk_at "side"); (case h => walk_at "side"); (intro v9 h9 tk9 led9 F9 N9 s9 p9; k_dflt (subst p9); (try k_sweep); (try k_fold))))
local macro_rules | `(tactic| walk_at "call ref") => `(tactic| ((with_reducible show wpAny _ _ (call (Value.ref 260) _) _ _ _); k_dflt (refine' z_use (c_part_text _ _ _ _ _ _ _ ?hb4 ?hn ?hbs ?hp ?hp2 ?hlen) ?B ?F ?X ?N ?T ?kK ?kd ?ku ?kp ?_); walk_at "use"; (case kp => trivial); (case hb4 => walk_at "side"); (case hn => walk_at "side"); (case hbs => walk_at "side"); (case hp => walk_at "side"); (case hp2 => walk_at "side"); (case hlen => walk_at "side"); walk_at "back"))
local macro_rules | `(tactic| walk_at "call ref") => `(tactic| ((with_reducible show wpAny _ _ (call (Value.ref 225) [_, _, _]) _ _ _); k_dflt (refine' z_use (c_fsX _ _ _ _ _ _ _ _ ?hr _ _ _ _ ?h ?hp ?hpb ?e) ?B ?F ?X ?N ?T ?kK ?kd ?ku ?kp ?_); (case hr => walk_at "isR"); (case h => first | assumption | exact And.left ((by assumption : _ → FS _ _ _ _ _ ∧ _) (by assumption))); (case e => first | assumption | exact And.left (And.right ((by assumption : _ → FS _ _ _ _ _ ∧ _ ∧ _) (by assumption)))); walk_at "use"; (case kp => trivial); (case hp => decide); (case hpb => decide); walk_at "back"))
local macro_rules | `(tactic| walk_at "dead") => `(tactic| first | omega | contradiction | (simp_all; omega))
local macro_rules | `(tactic| walk_at "post") => `(tactic| exact rfl)
structure UpOk (w : World) (b : Int) (l : List Nat) (m k : Int) (hi x : Mpf) : Prop where
  fs : FS w b l m k
  e : fsv b m k 400 .c = hi
  ok : MOk hi
  lt : vlt x.m x.e hi.m hi.e
local macro_rules | `(tactic| walk_at "side") => `(tactic| first | omega | assumption | decide | exact UpOk.ok ((by assumption : _ → UpOk _ _ _ _ _ _ _) (by assumption)) | exact UpOk.lt ((by assumption : _ → UpOk _ _ _ _ _ _ _) (by assumption)))
local macro_rules | `(tactic| walk_at "call ref") => `(tactic| ((with_reducible show wpAny _ _ (call (Value.ref 225) [_, _, _]) _ _ _); k_dflt (refine' z_use (c_fsX _ _ _ _ _ _ _ _ ?hr _ _ _ _ ?h ?hp ?hpb ?e) ?B ?F ?X ?N ?T ?kK ?kd ?ku ?kp ?_); (case hr => walk_at "isR"); (case h => first | assumption | exact UpOk.fs ((by assumption : _ → UpOk _ _ _ _ _ _ _) (by assumption))); (case e => first | assumption | exact UpOk.e ((by assumption : _ → UpOk _ _ _ _ _ _ _) (by assumption))); walk_at "use"; (case kp => trivial); (case hp => decide); (case hpb => decide); walk_at "back"))
theorem c_partsB (w : World) (T : Addr) (x y : Mpf) (b places fg : Int) (a1 a2 a3 a4 t2 t3 : Tok) (hx : MOk x) (he1 : -60 ≤ x.e) (he2 : x.e ≤ 0) (hxb : Builtin.Int.intBits x.m ≤ 60) (hp0 : 0 ≤ places) (hp1 : places ≤ 60) (hbb : Builtin.Int.intBits b ≤ 6) (hq0 : 0 < b ^ places.toNat) (hqb : Builtin.Int.intBits (b ^ places.toNat) ≤ 400) (hfg : ((x.m * 2 ^ (x.e + 100).toNat) * b ^ places.toNat).fdiv (2 ^ Int.toNat 100) = fg) (hmo : IntMulOk (x.m * 2 ^ (x.e + 100).toNat) (b ^ places.toNat)) (hy : nrm 0 (x.m * b ^ places.toNat).toNat x.e (Int.toNat 1000) .d = y) (hyk : MOk y) (hyi : toIntF y.m y.e = fg) (hnb : b ≠ 2 ∧ b ≠ 8 ∧ b ≠ 10 ∧ b ≠ 16) : Ctr w 267 16 [.ref T, .int b t2, .int places t3] (fun _ led => Has w led T (tupO [.int x.s a1, .int x.m a2, .int x.e a3, .int x.b a4])) (fun _ v => v = .bool true) := by
  have hxb5 : Builtin.Int.intBits x.m ≤ 500 := by omega
  have hsz : (Builtin.Int.intBits b : Int) * places ≤ 2 ^ 27 := size_mul (j := 60) hbb hp0 (by omega) (by decide)
  have hqb5 : Builtin.Int.intBits (b ^ places.toNat) ≤ 1000 := by omega
  unfold Ctr
  k_fill
  refine' z_enter (r := 15) [("s", .ref T), ("base", .int b t2), ("places", .int places t3)] ["figures", "low"] ["s", "base", "places", "figures", "low"] [some (.ref T), some (.int b t2), some (.int places t3), none, none] ?eo ?ec ?eb ?en ?em ?eK ?ecl ?e1 ?e2 ?_
  walk_at "enter"
  intro dp un gd outer A₀ base g L led h G D tk O p loose mean mg mb B X HT hd hu hpre LK F N
  k_fold
  walk_at "steps"
theorem c_partsA (w : World) (T : Addr) (x y lo hi : Mpf) (b places fg m1 k1 m2 k2 : Int) (a1 a2 a3 a4 t2 t3 : Tok) (hx : MOk x) (he1 : -60 ≤ x.e) (he2 : x.e ≤ 0) (hxb : Builtin.Int.intBits x.m ≤ 60) (hp0 : 0 ≤ places) (hp1 : places ≤ 60) (hbb : Builtin.Int.intBits b ≤ 6) (hq0 : 0 < b ^ places.toNat) (hqb : Builtin.Int.intBits (b ^ places.toNat) ≤ 400) (hfg : ((x.m * 2 ^ (x.e + 100).toNat) * b ^ places.toNat).fdiv (2 ^ Int.toNat 100) = fg) (hmo : IntMulOk (x.m * 2 ^ (x.e + 100).toNat) (b ^ places.toNat)) (hy : nrm 0 (x.m * b ^ places.toNat).toNat x.e (Int.toNat 1000) .d = y) (hyk : MOk y) (hyi : toIntF y.m y.e = fg) (hb4 : b = 2 ∨ b = 8 ∨ b = 10 ∨ b = 16) (hfg0 : 0 ≤ fg) (hfb : Builtin.Int.intBits fg ≤ 400) (hfb1 : Builtin.Int.intBits (fg + 1) ≤ 400) (hlen1 : (numS b.toNat fg.toNat).length ≤ 1000) (hlen2 : (numS b.toNat (fg + 1).toNat).length ≤ 1000) (H1 : FS w b (ptx b fg places) m1 k1) (E1 : fsv b m1 k1 400 .f = lo) (L1 : MOk lo) (V1 : vle lo.m lo.e x.m x.e) (H2 : fg + 1 < b ^ places.toNat → UpOk w b (ptx b (fg + 1) places) m2 k2 hi x) : Ctr w 267 16 [.ref T, .int b t2, .int places t3] (fun _ led => Has w led T (tupO [.int x.s a1, .int x.m a2, .int x.e a3, .int x.b a4])) (fun _ v => v = .bool true) := by
  have hxb5 : Builtin.Int.intBits x.m ≤ 500 := by omega
  have hsz : (Builtin.Int.intBits b : Int) * places ≤ 2 ^ 27 := size_mul (j := 60) hbb hp0 (by omega) (by decide)
  have hqb5 : Builtin.Int.intBits (b ^ places.toNat) ≤ 1000 := by omega
  unfold Ctr
  k_fill
  refine' z_enter (r := 15) [("s", .ref T), ("base", .int b t2), ("places", .int places t3)] ["figures", "low"] ["s", "base", "places", "figures", "low"] [some (.ref T), some (.int b t2), some (.int places t3), none, none] ?eo ?ec ?eb ?en ?em ?eK ?ecl ?e1 ?e2 ?_
  walk_at "enter"
  intro dp un gd outer A₀ base g L led h G D tk O p loose mean mg mb B X HT hd hu hpre LK F N
  k_fold
  walk_at "steps"
end Mine
/-! part Cell -/
namespace Mine
/-! the law's frame: locals by place in a frame with cells; the cells -/
section
variable {M : Model} {A : Around} {E : Value → Shared → Prop} {h : Heap} {G : Array GenState} {D : Drawn} {tk : Nat} {O : OsState} {g : Heap} {L : Addr} {led : Led} {name : Str} {scope : Scope} {f : Addr} {cd v : Value} {x : Str} {pos : Pos} {cl : List (Str × Addr)} {m : Str → Option Value} {c : Addr} {o : Obj} {v₀ : Option Value}
theorem LocOk.atX {ns : List Str} {i : Nat} (K : LocOk scope ns) (hi : ns[i]? = some x) : (envX name scope L f cd cl).kindOf x = some .local ∧ (x == ("__debug__" : Str)) = false := by
  have := List.all_eq_true.mp K.loc x (List.mem_of_getElem? hi)
  simp only [Bool.and_eq_true, Bool.not_eq_true'] at this
  have e : scope.names.lookup x = some .local := by simpa using this.1
  exact ⟨e, this.2⟩
theorem zc_ld {ns : List Str} {vs : List (Option Value)} {Q : Value → Shared → Prop} (i : Nat) (K : LocOk scope ns) (F : Fr g L h (tm ns vs)) (hi : ns[i]? = some x) (hv : vs[i]? = some (some v)) (q : Q v ⟨h, G, D, tk, O⟩) :
    wpAny M A (eval (.Name x pos) (envX name scope L f cd cl)) Q E ⟨h, G, D, tk, O⟩ := nameX_L (s := ⟨h, G, D, tk, O⟩) F (tm_at K.nodup hi hv) q K.kind (K.atX hi).1 (K.atX (name := name) (L := L) (f := f) (cd := cd) (cl := cl) hi).2
theorem zc_st {ns : List Str} {vs : List (Option Value)} {Q : Unit → Shared → Prop} (i : Nat) (K : LocOk scope ns) (F : Fr g L h (tm ns vs)) (N : News g L h led) (hi : ns[i]? = some x) (hl : i < vs.length)
    (q : ∀ h' tk', Fr g L h' (tm ns (vs.set i (some v))) → News g L h' led → Q () ⟨h', G, D, tk', O⟩) :
    wpAny M A (storeName (envX name scope L f cd cl) x v) Q E ⟨h, G, D, tk, O⟩ :=
  storeX_L (s := ⟨h, G, D, tk, O⟩) F N (fun h' F' N' => q h' _ (by rw [← tm_set K.nodup hi hl]; exact F') N') K.kind (K.atX hi).1
theorem zc_ldC {Q : Value → Shared → Prop} (hk : scope.kind = .function) (hx : (envX name scope L f cd cl).kindOf x = some .cell) (hb : (x == ("__debug__" : Str)) = false) (hc : cl.lookup x = some c) (N : News g L h led) (hm : (c, o) ∈ led) (hd : o.data = .cell (some v)) (q : Q v ⟨h, G, D, tk, O⟩) :
    wpAny M A (eval (.Name x pos) (envX name scope L f cd cl)) Q E ⟨h, G, D, tk, O⟩ := nameX_C (s := ⟨h, G, D, tk, O⟩) N hc hm hd q hk hx hb
theorem zc_stC {Q : Unit → Shared → Prop} (hk : scope.kind = .function) (hx : (envX name scope L f cd cl).kindOf x = some .cell) (hc : cl.lookup x = some c) (F : Fr g L h m) (N : News g L h led) (hm : (c, o) ∈ led) (hd : o.data = .cell v₀)
    (q : ∀ h' o', Fr g L h' m → News g L h' ((c, o') :: led.filter fun p => p.1 != c) → o'.data = .cell (some v) → Q () ⟨h', G, D, tk, O⟩) :
    wpAny M A (storeName (envX name scope L f cd cl) x v) Q E ⟨h, G, D, tk, O⟩ := by
  have hmem := N (c, o) hm
  refine wpAny_storeName_cell (s := ⟨h, G, D, tk, O⟩) hk hx hc ⟨o, hmem.1, hd⟩ fun h' hv hs => ?_
  obtain ⟨o', ho', hd'⟩ := hv
  refine q h' o' ⟨F.ns.sameBut hs (Ne.symm hmem.2.1), fun b ob e => (hs.2 b (fun q => ?_)).trans (F.keep b ob e), F.above⟩ (fun p hp => ?_) hd'
  · rw [q, hmem.2.2] at e; cases e
  · rcases List.mem_cons.mp hp with rfl | hp
    · exact ⟨ho', hmem.2⟩
    · have hp' := List.mem_filter.mp hp
      have hne : p.1 ≠ c := by simpa using hp'.2
      exact ⟨(hs.2 p.1 hne).trans (N p hp'.1).1, (N p hp'.1).2⟩
end
theorem has_upd {w : World} {g h : Heap} {L c D : Addr} {led : Led} {o o' : Obj} {v₀ : Option Value} {vs : List Value} (N : News g L h led) (hm : (c, o) ∈ led) (hd : o.data = .cell v₀) (x : Has w led D (tupO vs)) : Has w ((c, o') :: led.filter fun p => p.1 != c) D (tupO vs) := by
  rcases x with x | x
  · exact .inl x
  · refine .inr (List.mem_cons_of_mem _ (List.mem_filter.mpr ⟨x, ?_⟩))
    have h1 := (N _ x).1
    have h2 := (N _ hm).1
    have : D ≠ c := by
      rintro rfl
      rw [h1] at h2
      have h3 : tupO vs = o := Option.some.inj h2
      rw [← h3] at hd
      cases hd
    simpa using this
end Mine
/-! part Comp -/
namespace Mine
/-! a list comprehension over a text whose every item is true -/
section
variable {prog : Program} {w : World} {A : Around} {E : Value → Shared → Prop} {h : Heap} {G : Array GenState} {D : Drawn} {tk : Nat} {O : OsState} {g : Heap} {L : Addr} {m : Str → Option Value} {led : Led}
theorem lc_str {elt iter : Expr} {x : Str} {px : Pos} {scope : Scope} {cl : List (Str × Addr)} {pos : Pos} {tx : Str} {env : Env} {Q : Value → Shared → Prop} (hh : A.handled = none) (F₀ : Fr g L h m) (N₀ : News g L h led)
    (ha : tx.cps.all (· < 128) = true) (hsz : tx.cps.size ≤ sizeLine) (hclos : closureFor scope env = pure cl) (hcell : ∀ y ∈ scope.names, y.2 ≠ .cell) (hkind : scope.kind = .function)
    (hnames : ∀ y ∈ scope.names, y.2 = .local → scope.names.lookup y.1 = some .local) (hx : scope.names.lookup x = some .local) (hs : ∀ x, foldedSetIterable iter env x = pure x)
    (hiter : ∀ Q' : Value → Shared → Prop, (∀ t tk', Q' (.str tx t) ⟨h, G, D, tk', O⟩) → wpAny (model prog w) A (eval iter env) Q' E ⟨h, G, D, tk, O⟩)
    (turn : ∀ (c i : Nat) (u : Tok) (C : Addr) (oC : Obj) (m₂ : Str → Option Value) (led' : Led) (h' : Heap) (tk' : Nat) (E' : Value → Shared → Prop), tx.cps[i]? = some c → m₂ x = some (.str ⟨#[c]⟩ u) → LCg.NsObj oC m₂ → (C, oC) ∈ led' → Fr g L h' m → News g L h' led' → (∀ p ∈ led, p ∈ led') →
      wpAny (model prog w) A (eval elt (compEnvC scope cl C env)) (fun y s₂ => ∃ h'' tk'' led'', y = .bool true ∧ s₂ = ⟨h'', G, D, tk'', O⟩ ∧ Fr g L h'' m ∧ News g L h'' led'' ∧ ∀ p ∈ led', p ∈ led'') E' ⟨h', G, D, tk', O⟩)
    (q : ∀ Dd h' tk', Fr g L h' m → News g L h' ((Dd, LCg.lst (List.replicate tx.cps.size (.bool true))) :: led) → Q (.ref Dd) ⟨h', G, D, tk', O⟩) :
    wpAny (model prog w) A (eval (.ListComp elt [⟨.Name x px, iter, [], 0⟩] scope pos) env) Q E ⟨h, G, D, tk, O⟩ := by
  rw [eval_ListComp]
  refine wpAny_comprehension_free (use := none) rfl hs hclos hkind hnames (hiter _ fun t tk' => ?_)
  refine wpAny_pyIter_ascii (s := ⟨h, G, D, tk', O⟩) ha ?_
  have rest : ∀ (s₂ : Shared) (k i : Nat), (∃ h' tk', s₂ = ⟨h', G, D, tk', O⟩) → i + k = tx.cps.size →
      LCg.CompRest prog w A g L m env elt x scope cl s₂ (fun _ => True) (SignAt tx) (LCg.FinE g L m s₂ (fun v s' => v = v → Q v s')) k i (List.replicate i (.bool true)) led := by
    rintro s₂ k
    induction k with
    | zero =>
      rintro i ⟨h1, tk1, rfl⟩ hi
      have hi' : i = tx.cps.size := by omega
      subst hi'
      intro Dd h2 tk2 F2 N2 _ _
      exact q Dd h2 tk2 F2 N2
    | succ k ih =>
      rintro i ⟨h1, tk1, rfl⟩ hi
      refine LCg.CompRest.succ ?_
      intro v I oI C oC Dd m₂ h2 tk2 E' hP hC hm2 F2 N2 off ne
      obtain ⟨c, u, hc, rfl⟩ := hP
      refine wpAny_mono (turn c i u C oC m₂ _ h2 tk2 E' hc hm2 hC (List.mem_cons_of_mem _ List.mem_cons_self) F2 N2 (fun p hp => List.mem_cons_of_mem _ (List.mem_cons_of_mem _ (List.mem_cons_of_mem _ hp)))) (fun y s₃ hy => ?_) fun _ _ e => e
      obtain ⟨h3, tk3, led3, rfl, rfl, F3, N3, sub3⟩ := hy
      refine LCg.CompEnd.intro (s₁ := ⟨h2, G, D, tk2, O⟩) F3 N3 led (fun p hp => sub3 p hp) off trivial ?_
      have := ih (i + 1) ⟨h1, tk1, rfl⟩ (by omega)
      rw [show List.replicate i (Value.bool true) ++ [Value.bool true] = List.replicate (i + 1) (Value.bool true) from (List.replicate_succ' ..).symm]
      exact this
  have hn : (⟨h, G, D, tk', O⟩ : Shared).heap.objs.size = h.objs.size := rfl
  refine LCg.block_U (s₂ := ⟨h.push { cls := .type "str_ascii_iterator", data := .fields #[.str tx t, .int 0 0] }, G, D, tk', O⟩) (Walks.strAscii hh h.objs.size tx t) hsz (fun i h st => by obtain ⟨o, e, _⟩ := st; exact ⟨o, e⟩)
    (fun i h h' o nw st e1 e2 _ _ _ => ?_) hcell hkind hx ⟨_, Heap.get?_push_size _ rfl, rfl, rfl⟩ (fun b hb => ?_) (F₀.keeps fun _ _ e => Heap.get?_push_of_some _ e) (N₀.grown fun _ _ e => Heap.get?_push_of_some _ e)
    (Nat.ne_of_lt F₀.ns.lt) (next_is_new F₀) (fun p hp => Nat.ne_of_lt (Heap.lt_size (N₀ p hp).1)) trivial (rest _ tx.cps.size 0 ⟨_, _, rfl⟩ (by omega)) ?_
  · obtain ⟨o2, e3, r⟩ := st
    rw [e1] at e3
    exact ⟨o, e2, by rw [Option.some.inj e3]; exact r⟩
  · rw [List.mem_singleton.mp hb]
    show h.objs.size < (h.push _).objs.size
    rw [Heap.size_push]; exact Nat.lt_succ_self _
  · intro Dd C h2 tk2 m' ys news' F' N' o1 hn' hC₀ hD₀ hCL hDL hCD offC fin
    refine ⟨m', hn', fun h'' hs'' => fin Dd h'' tk2 (F'.change hs'' hCL hC₀) (fun p hp => ?_) o1 rfl⟩
    refine ⟨hs''.extBut _ _ ?_ (N' p hp).1, (N' p hp).2⟩
    rcases List.mem_cons.mp hp with rfl | hp
    · exact Ne.symm hCD
    · exact offC p hp
end
end Mine
/-! part Mth -/
namespace Mine
/-! rounding of a rational, no program in sight -/
def rat (s : Int) (A B : Nat) (e : Int) (p : Nat) (r : Rnd) : Mpf := mkM s (rm A (B * 2 ^ (blen (A / B) - p)) (md s r)) (e + ((blen (A / B) - p : Nat) : Int))
def CC (A B p : Nat) : Prop := A % B = 0 ∨ p < blen (A / B)
section
variable {s e : Int} {A B p c d m q : Nat} {r : Rnd}
theorem nrm_rat : nrm s m e p r = rat s m 1 e p r := by
  unfold rat nrm
  rw [Nat.div_one, Nat.one_mul]
theorem rat_c (hc : 0 < c) : rat s (A * c) (B * c) e p r = rat s A B e p r := by
  unfold rat
  rw [Nat.mul_div_mul_right _ _ hc, show B * c * 2 ^ (blen (A / B) - p) = B * 2 ^ (blen (A / B) - p) * c by rw [Nat.mul_right_comm], rm_scale hc]
theorem CC_c (hc : 0 < c) (h : CC A B p) : CC (A * c) (B * c) p := by
  unfold CC at *
  rw [Nat.mul_div_mul_right _ _ hc, Nat.mul_mod_mul_right]
  rcases h with h | h
  · left; rw [h, Nat.zero_mul]
  · exact .inr h
theorem rat_exact (hB : 0 < B) : rat s (q * B) B e p r = nrm s q e p r := by
  have := rat_c (s := s) (A := q) (B := 1) (e := e) (p := p) (r := r) hB
  rw [Nat.one_mul] at this
  rw [this, nrm_rat]
theorem nrm_two : nrm s (q * 2 ^ d) (e - d) p r = nrm s q e p r := by
  by_cases hq : q = 0
  · subst hq
    rw [Nat.zero_mul, nrm_zero, nrm_zero]
  unfold nrm
  rw [blen_mul_two_pow hq]
  by_cases h : p ≤ blen q
  · rw [show blen q + d - p = blen q - p + d by omega, Nat.pow_add, rm_scale (Nat.two_pow_pos _)]
    congr 1; omega
  · have h1 : blen q - p = 0 := by omega
    rw [h1, Nat.pow_zero, rm_one]
    obtain ⟨k, hk⟩ : ∃ k, k = blen q + d - p := ⟨_, rfl⟩
    rw [← hk]
    have hd : d = (d - k) + k := by omega
    have e2 : q * 2 ^ d = q * 2 ^ (d - k) * 2 ^ k := by
      rw [Nat.mul_assoc, ← Nat.pow_add, ← hd]
    rw [e2, rm_exact (Nat.two_pow_pos _), mkM_scale]
    congr 1
    omega
theorem rat_two (h : CC A B p) (hB : 0 < B) : rat s (A * 2 ^ d) B (e - d) p r = rat s A B e p r := by
  rcases h with h | h
  · have h1 : A = A / B * B := by
      have := Nat.div_add_mod A B
      rw [h, Nat.mul_comm] at this
      omega
    rw [h1, Nat.mul_right_comm, rat_exact hB, rat_exact hB, nrm_two]
  · have hq : A / B ≠ 0 := by
      intro h0
      rw [h0, blen_zero] at h
      omega
    have h1 := two_blen_le hq
    have h2 := lt_two_blen (A / B)
    have hb1 : 1 ≤ blen (A / B) := by omega
    have hle : A / B * B ≤ A := Nat.div_mul_le_self A B
    have hlt : A < (A / B + 1) * B := by
      have := Nat.div_add_mod A B
      have := Nat.mod_lt A hB
      rw [Nat.add_mul, Nat.one_mul, Nat.mul_comm (A / B)]
      omega
    have g1 : 2 ^ (blen (A / B) - 1 + d) ≤ A * 2 ^ d / B := by
      rw [Nat.le_div_iff_mul_le hB, Nat.pow_add, Nat.mul_right_comm]
      exact Nat.mul_le_mul_right _ (Nat.le_trans (Nat.mul_le_mul_right _ h1) hle)
    have g2 : A * 2 ^ d / B < 2 ^ (blen (A / B) - 1 + d + 1) := by
      rw [Nat.div_lt_iff_lt_mul hB, show blen (A / B) - 1 + d + 1 = blen (A / B) + d by omega, Nat.pow_add, Nat.mul_right_comm]
      exact Nat.mul_lt_mul_of_pos_right (Nat.lt_of_lt_of_le hlt (Nat.mul_le_mul_right _ h2)) (Nat.two_pow_pos _)
    have hbl := blen_eq g1 g2
    unfold rat
    rw [hbl, show blen (A / B) - 1 + d + 1 - p = blen (A / B) - p + d by omega, Nat.pow_add, ← Nat.mul_assoc, rm_scale (Nat.two_pow_pos _)]
    congr 1; omega
end
theorem rat_same' {s e2 : Int} {A1 B1 A2 B2 p d : Nat} {r : Rnd} (h2 : CC A2 B2 p) (b1 : 0 < B1) (b2 : 0 < B2) (he : A1 * B2 = A2 * B1 * 2 ^ d) : rat s A1 B1 (e2 - d) p r = rat s A2 B2 e2 p r := by
  rw [← rat_c b2, he, Nat.mul_comm B1 B2, rat_two (CC_c b1 h2) (Nat.mul_pos b2 b1), rat_c b1]
theorem pow_bal {X Y i j f g : Nat} (h : X * 2 ^ i = Y * 2 ^ j) (k : i + g = j + f) : X * 2 ^ f = Y * 2 ^ g := by
  by_cases hf : f ≤ i
  · obtain ⟨t, rfl⟩ : ∃ t, i = f + t := ⟨i - f, by omega⟩
    obtain rfl : j = g + t := by omega
    rw [Nat.pow_add, Nat.pow_add, ← Nat.mul_assoc, ← Nat.mul_assoc] at h
    exact Nat.eq_of_mul_eq_mul_right (Nat.two_pow_pos t) h
  · obtain ⟨t, rfl⟩ : ∃ t, f = i + t := ⟨f - i, by omega⟩
    obtain rfl : g = j + t := by omega
    rw [Nat.pow_add, Nat.pow_add, ← Nat.mul_assoc, ← Nat.mul_assoc, h]
/-- A / B times 2 ^ e is P / Q -/
def Val (A B : Nat) (e : Int) (P Q : Nat) : Prop := A * Q * 2 ^ e.toNat = P * B * 2 ^ (-e).toNat
theorem Val.mk {A B P Q i j : Nat} {e : Int} (he : (i : Int) - j = e) (h : A * Q * 2 ^ i = P * B * 2 ^ j) : Val A B e P Q := by
  unfold Val
  exact pow_bal h (by omega)
theorem rat_same {s e1 e2 : Int} {A1 B1 A2 B2 p P Q P' Q' : Nat} {r : Rnd} (h1 : CC A1 B1 p) (h2 : CC A2 B2 p) (b1 : 0 < B1) (b2 : 0 < B2) (hQ : 0 < Q) (hP' : 0 < P')
    (v1 : Val A1 B1 e1 P Q) (v2 : Val A2 B2 e2 P' Q') (hv : P * Q' = P' * Q) : rat s A1 B1 e1 p r = rat s A2 B2 e2 p r := by
  unfold Val at v1 v2
  have key : (A1 * B2) * 2 ^ (e1.toNat + (-e2).toNat) = (A2 * B1) * 2 ^ (e2.toNat + (-e1).toNat) := by
    have hm : (A1 * Q * 2 ^ e1.toNat) * (P' * B2 * 2 ^ (-e2).toNat) = (P * B1 * 2 ^ (-e1).toNat) * (A2 * Q' * 2 ^ e2.toNat) := by rw [v1, v2]
    have hm2 : (A1 * B2 * 2 ^ (e1.toNat + (-e2).toNat)) * (P' * Q) = (A2 * B1 * 2 ^ (e2.toNat + (-e1).toNat)) * (P' * Q) := by
      conv => rhs; rw [← hv]
      rw [Nat.pow_add, Nat.pow_add]
      calc _ = (A1 * Q * 2 ^ e1.toNat) * (P' * B2 * 2 ^ (-e2).toNat) := by ac_rfl
        _ = _ := hm
        _ = _ := by ac_rfl
    exact Nat.eq_of_mul_eq_mul_right (Nat.mul_pos hP' hQ) hm2
  by_cases hle : e1 ≤ e2
  · have h := pow_bal (f := 0) (g := (e2 - e1).toNat) key (by omega)
    rw [Nat.pow_zero, Nat.mul_one] at h
    have := rat_same' (s := s) (e2 := e2) (r := r) h2 b1 b2 h
    rw [show e2 - ((e2 - e1).toNat : Int) = e1 by omega] at this
    exact this
  · have h := pow_bal (f := 0) (g := (e1 - e2).toNat) key.symm (by omega)
    rw [Nat.pow_zero, Nat.mul_one] at h
    have := rat_same' (s := s) (e2 := e1) (r := r) h1 b2 b1 h
    rw [show e1 - ((e1 - e2).toNat : Int) = e2 by omega] at this
    exact this.symm
/-! the quotient with its sticky bit -/
theorem rm_sticky {A B k : Nat} {m : Md} (hB : 0 < B) (h : A % B ≠ 0) (hk : 0 < k) : rm (A / B * 2 + 1) (2 ^ (k + 1)) m = rm A (B * 2 ^ k) m := by
  have hA := Nat.div_add_mod A B
  have hr := Nat.mod_lt A hB
  generalize A / B = q at *
  generalize hρ : A % B = ρ at *
  have hq := Nat.div_add_mod q (2 ^ k)
  have hu := Nat.mod_lt q (Nat.two_pow_pos k)
  generalize q / 2 ^ k = t at *
  generalize q % 2 ^ k = u at *
  obtain ⟨z, hz⟩ : ∃ z, 2 ^ k = 2 * z := ⟨2 ^ (k - 1), by rw [← Nat.pow_succ']; congr 1; omega⟩
  have hpos : 0 < 2 ^ k := Nat.two_pow_pos k
  have e1 : q * 2 + 1 = 2 ^ (k + 1) * t + (2 * u + 1) := by
    rw [Nat.pow_succ, ← hq, Nat.add_mul, Nat.mul_right_comm]; omega
  have hlt1 : 2 * u + 1 < 2 ^ (k + 1) := by rw [Nat.pow_succ]; omega
  have e2 : A = B * 2 ^ k * t + (B * u + ρ) := by
    rw [← hA, ← hq, Nat.mul_add, Nat.mul_assoc]; omega
  have hlt2 : B * u + ρ < B * 2 ^ k := by
    have : B * u + B ≤ B * 2 ^ k := by
      have := Nat.mul_le_mul_left B (show u + 1 ≤ 2 ^ k by omega)
      rw [Nat.mul_add, Nat.mul_one] at this
      exact this
    omega
  have d1 : (q * 2 + 1) / 2 ^ (k + 1) = t := by
    rw [e1, Nat.mul_add_div (Nat.two_pow_pos _), Nat.div_eq_of_lt hlt1]; rfl
  have m1 : (q * 2 + 1) % 2 ^ (k + 1) = 2 * u + 1 := by
    rw [e1, Nat.mul_add_mod, Nat.mod_eq_of_lt hlt1]
  have d2 : A / (B * 2 ^ k) = t := by
    rw [e2, Nat.mul_add_div (Nat.mul_pos hB hpos), Nat.div_eq_of_lt hlt2]; rfl
  have m2 : A % (B * 2 ^ k) = B * u + ρ := by
    rw [e2, Nat.mul_add_mod, Nat.mod_eq_of_lt hlt2]
  cases m with
  | dn => simp only [rm, d1, d2]
  | up => simp only [rm, d1, d2, m1, m2]; rw [if_neg (by omega), if_neg (by omega)]
  | nr =>
    simp only [rm, d1, d2, m1, m2]
    rw [Nat.pow_succ, hz]
    by_cases c : u < z
    · rw [if_pos (by omega), if_pos]
      have : B * u + B ≤ B * z := by
        have := Nat.mul_le_mul_left B (show u + 1 ≤ z by omega)
        rw [Nat.mul_add, Nat.mul_one] at this
        exact this
      rw [show B * (2 * z) = 2 * (B * z) by rw [Nat.mul_left_comm]]
      omega
    · have : B * z ≤ B * u := Nat.mul_le_mul_left B (by omega)
      rw [if_neg (by omega), if_pos (by omega), show B * (2 * z) = 2 * (B * z) by rw [Nat.mul_left_comm], if_neg (by omega), if_pos (by omega)]
theorem sticky {s e : Int} {A B p : Nat} {r : Rnd} (hB : 0 < B) (h : A % B ≠ 0) (hp : p < blen (A / B)) : nrm s (A / B * 2 + 1) (e - 1) p r = rat s A B e p r := by
  have hq : A / B ≠ 0 := by
    intro h0
    rw [h0, blen_zero] at hp
    omega
  have h1 := two_blen_le hq
  have h2 := lt_two_blen (A / B)
  have hb : blen (A / B * 2 + 1) = blen (A / B) + 1 := by
    have e1 : 2 ^ blen (A / B) = 2 ^ (blen (A / B) - 1) * 2 := by rw [← Nat.pow_succ]; congr 1; omega
    refine blen_eq (by rw [e1]; omega) ?_
    rw [Nat.pow_succ]; omega
  unfold nrm rat
  rw [hb, show blen (A / B) + 1 - p = blen (A / B) - p + 1 by omega, rm_sticky hB h (by omega)]
  congr 1; omega
theorem natCast_shift (a k : Nat) : ((a : Int) * 2 ^ k) = ((a * 2 ^ k : Nat) : Int) := by rw [Int.natCast_mul, Int.natCast_pow]; rfl
theorem nat_fdiv (a b : Nat) : (a : Int).fdiv b = ((a / b : Nat) : Int) := by
  rw [Int.fdiv_eq_ediv_of_nonneg _ (by omega), Int.natCast_ediv]
theorem nat_fmod (a b : Nat) : (a : Int).fmod b = ((a % b : Nat) : Int) := by
  rw [Int.fmod_eq_emod_of_nonneg _ (by omega), Int.natCast_emod]
theorem divP_rat {xs xe ye : Int} {xm ym p : Nat} {r : Rnd} (hx : 0 < xm) (hy : 0 < ym) (hp : 0 < p) : ∃ ex : Nat, ex ≤ p + blen ym + 5 ∧ CC (xm * 2 ^ ex) ym p ∧ divP xs xm xe (blen xm) ym ye (blen ym) p r = rat xs (xm * 2 ^ ex) ym (xe - ye - ex) p r := by
  have hym : (0 : Int) < ym := by omega
  unfold divP
  by_cases h1 : (ym : Int) = 1
  · have h1' : ym = 1 := by omega
    subst h1'
    refine ⟨0, by omega, .inl (Nat.mod_one _), ?_⟩
    rw [if_pos h1, nrm_rat]
    simp
  rw [if_neg h1]
  dsimp only
  obtain ⟨ex, hex⟩ : ∃ ex : Nat, (if (p : Int) - blen xm + blen ym + 5 < 5 then 5 else (p : Int) - blen xm + blen ym + 5) = ex := ⟨(if (p : Int) - blen xm + blen ym + 5 < 5 then 5 else (p : Int) - blen xm + blen ym + 5).toNat, by split <;> omega⟩
  rw [hex]
  have hex1 : 5 ≤ ex ∧ (p : Int) - blen xm + blen ym + 5 ≤ ex ∧ ex ≤ p + blen ym + 5 := by split at hex <;> omega
  rw [Int.toNat_natCast, natCast_shift, nat_fdiv, nat_fmod]
  have hbig : p < blen (xm * 2 ^ ex / ym) := by
    have g1 := two_blen_le (n := xm) (by omega)
    have g2 := lt_two_blen ym
    have gb : 1 ≤ blen xm := by rw [blen_pos (by omega)]; omega
    refine blen_ge_iff.mpr ?_
    rw [Nat.le_div_iff_mul_le hy]
    calc 2 ^ p * ym ≤ 2 ^ p * 2 ^ blen ym := Nat.mul_le_mul_left _ (Nat.le_of_lt g2)
      _ = 2 ^ (p + blen ym) := by rw [Nat.pow_add]
      _ ≤ 2 ^ (blen xm - 1 + ex) := Nat.pow_le_pow_right (by decide) (by omega)
      _ ≤ _ := by rw [Nat.pow_add]; exact Nat.mul_le_mul_right _ g1
  refine ⟨ex, hex1.2.2, .inr hbig, ?_⟩
  by_cases h0 : xm * 2 ^ ex % ym = 0
  · rw [if_pos (by rw [h0]; rfl), Int.toNat_natCast, Int.toNat_natCast]
    have hA : xm * 2 ^ ex = xm * 2 ^ ex / ym * ym := by
      have := Nat.div_add_mod (xm * 2 ^ ex) ym
      rw [h0, Nat.mul_comm] at this
      omega
    conv => rhs; rw [hA]
    rw [rat_exact hy]
  · rw [if_neg (by omega)]
    have e1 : (((xm * 2 ^ ex / ym : Nat) : Int) * 2 ^ Int.toNat 1 + 1).toNat = xm * 2 ^ ex / ym * 2 + 1 := by
      rw [show (2 : Int) ^ Int.toNat 1 = 2 from rfl]; omega
    rw [e1, Int.toNat_natCast, ← sticky hy h0 hbig]
    congr 1; omega
theorem mkM_at {n : Int} (h : n ≠ 0) : fme n 0 0 .d = ⟨sgn n, od n.natAbs, tz n.natAbs, blen (od n.natAbs)⟩ := by
  rw [fme0, mkM_ne (by omega)]
  congr 1; omega
theorem ratP_rat {P q : Int} {p : Nat} {r : Rnd} (hP : P ≠ 0) (hq : 0 < q) (hp : 0 < p) : ∃ (A B : Nat) (e : Int), 0 < B ∧ CC A B p ∧ ratP P q p r = rat (sgn P) A B e p r ∧ Val A B e P.natAbs q.toNat ∧ blen A ≤ blen P.natAbs + p + blen q.toNat + 5 ∧ -(p + 2 * (blen q.toNat : Int) + 5) ≤ e ∧ e ≤ blen P.natAbs := by
  have hP' : P.natAbs ≠ 0 := by omega
  have hq' : q.natAbs ≠ 0 := by omega
  have eq : q.toNat = q.natAbs := by omega
  obtain ⟨o1, o2⟩ := od_spec hP'
  obtain ⟨u1, u2⟩ := od_spec hq'
  have b1 := blen_od hP'
  have b2 := blen_od hq'
  obtain ⟨ex, hle, hc, he⟩ := divP_rat (xs := sgn P) (xe := tz P.natAbs) (ye := tz q.natAbs) (xm := od P.natAbs) (ym := od q.natAbs) (p := p) (r := r) (by omega) (by omega) hp
  refine ⟨od P.natAbs * 2 ^ ex, od q.natAbs, tz P.natAbs - tz q.natAbs - ex, by omega, hc, ?_, ?_, ?_, ?_⟩
  · unfold ratP
    rw [mkM_at hP, mkM_at (by omega : q ≠ 0)]
    exact he
  · refine Val.mk (i := tz P.natAbs) (j := tz q.natAbs + ex) (by omega) ?_
    rw [eq]
    calc _ = (od P.natAbs * 2 ^ tz P.natAbs) * q.natAbs * 2 ^ ex := by ac_rfl
      _ = P.natAbs * q.natAbs * 2 ^ ex := by rw [← o2]
      _ = P.natAbs * (od q.natAbs * 2 ^ tz q.natAbs) * 2 ^ ex := by rw [← u2]
      _ = _ := by rw [Nat.pow_add]; ac_rfl
  · rw [blen_mul_two_pow (od_pos hP'), eq]
    omega
  · rw [eq]
    omega
end Mine
/-! part Mth2 -/
namespace Mine
/-! what from_str's numbers are worth -/
theorem CC_one {A p : Nat} : CC A 1 p := .inl (Nat.mod_one _)
theorem fme_rat {P e : Int} {p : Nat} {r : Rnd} (hp : 0 < p) : fme P e p r = rat (sgn P) P.natAbs 1 e p r := by
  unfold fme
  rw [if_neg (by omega), nrm_rat, Int.toNat_natCast]
theorem fme_z {e prec : Int} {r : Rnd} : fme 0 e prec r = ⟨0, 0, 0, 0⟩ := by
  unfold fme
  split
  · rfl
  · exact nrm_zero
theorem ratP_z {q prec : Int} {r : Rnd} : ratP 0 q prec r = ⟨0, 0, 0, 0⟩ := by
  unfold ratP
  exact divP_zero (by rw [fme_z])
theorem fsv_z {b k prec : Int} {r : Rnd} : fsv b 0 k prec r = ⟨0, 0, 0, 0⟩ := by
  unfold fsv
  split
  · split
    · rw [Int.zero_mul]; exact fme_z
    · exact ratP_z
  · exact fme_z
theorem sgn_mul10 {m : Int} {k : Nat} : sgn (m * 10 ^ k) = sgn m := by
  have h : (0 : Int) < 10 ^ k := Int.pow_pos (by decide)
  unfold sgn
  by_cases hm : m < 0
  · rw [if_pos hm, if_pos (Int.mul_neg_of_neg_of_pos hm h)]
  · rw [if_neg hm, if_neg (by have := Int.mul_nonneg (a := m) (b := 10 ^ k) (by omega) (by omega); omega)]
theorem Val.cross {A B P Q P' Q' : Nat} {e : Int} (h : Val A B e P Q) (hQ : 0 < Q) (hv : P * Q' = P' * Q) : Val A B e P' Q' := by
  unfold Val at *
  refine Nat.eq_of_mul_eq_mul_right hQ ?_
  calc _ = (A * Q * 2 ^ e.toNat) * Q' := by ac_rfl
    _ = (P * B * 2 ^ (-e).toNat) * Q' := by rw [h]
    _ = (P * Q') * B * 2 ^ (-e).toNat := by ac_rfl
    _ = (P' * Q) * B * 2 ^ (-e).toNat := by rw [hv]
    _ = _ := by ac_rfl
theorem val_two {m q : Nat} {k : Int} : Val m 1 (k * q) (m * (2 ^ q) ^ k.toNat) ((2 ^ q) ^ (-k).toNat) := by
  have hk : (((q * k.toNat : Nat) : Int) - ((q * (-k).toNat : Nat) : Int)) = k * q := by
    rw [Int.natCast_mul, Int.natCast_mul, ← Int.mul_sub, show ((k.toNat : Int) - ((-k).toNat : Int)) = k by omega, Int.mul_comm]
  refine Val.mk hk ?_
  rw [← Nat.pow_mul, ← Nat.pow_mul, Nat.mul_one]
  ac_rfl
structure Rt (b man k : Int) (p : Nat) (r : Rnd) (A B : Nat) (e : Int) : Prop where
  pos : 0 < B
  cc : CC A B p
  eq : fsv b man k p r = rat (sgn man) A B e p r
  val : Val A B e (man.natAbs * b.toNat ^ k.toNat) (b.toNat ^ (-k).toNat)
  bd : k ≤ 0 → -60 ≤ k → blen man.natAbs ≤ 400 → p ≤ 400 → blen A ≤ 1005 ∧ -810 ≤ e ∧ e ≤ 400
theorem blen10 {n : Nat} (h : n ≤ 60) : blen (10 ^ n) ≤ 200 := by
  refine Nat.le_trans (blen_mono (Nat.pow_le_pow_right (by decide) h)) ?_
  exact blen_le_iff.mpr (by decide +kernel)
theorem fsv_rat {b man k : Int} {p : Nat} {r : Rnd} (hb4 : b = 2 ∨ b = 8 ∨ b = 10 ∨ b = 16) (hm : man ≠ 0) (hp : 0 < p) : ∃ A B e, Rt b man k p r A B e := by
  rcases hb4 with rfl | rfl | rfl | rfl
  · refine ⟨man.natAbs, 1, k * (1 : Nat), by decide, CC_one, ?_, val_two (q := 1), fun h1 h2 h3 h4 => ?_⟩
    · rw [fsv_2]; exact fme_rat hp
    · omega
  · refine ⟨man.natAbs, 1, k * (3 : Nat), by decide, CC_one, ?_, val_two (q := 3), fun h1 h2 h3 h4 => ?_⟩
    · rw [fsv_8]; exact fme_rat hp
    · omega
  · by_cases hk : 0 ≤ k
    · refine ⟨(man * 10 ^ k.toNat).natAbs, 1, 0, by decide, CC_one, ?_, Val.mk (i := 0) (j := 0) rfl ?_, fun h1 h2 h3 h4 => ?_⟩
      · rw [fsv_a hk, fme_rat hp, sgn_mul10]
      · rw [Int.natAbs_mul, Int.natAbs_pow, show (-k).toNat = 0 by omega]
        simp
      · have : k = 0 := by omega
        subst this
        simp only [Int.toNat_zero, Int.pow_zero, Int.mul_one]
        omega
    · have hq : (0 : Int) < 10 ^ (-k).toNat := Int.pow_pos (by decide)
      have eq : ((10 : Int) ^ (-k).toNat).toNat = 10 ^ (-k).toNat := by
        have : ((10 : Int) ^ (-k).toNat) = ((10 ^ (-k).toNat : Nat) : Int) := by rw [Int.natCast_pow]; rfl
        rw [this, Int.toNat_natCast]
      obtain ⟨A, B, e, h1, h2, h3, h4, h5, h6, h7⟩ := ratP_rat (r := r) hm hq hp
      rw [eq] at h4 h5 h6
      refine ⟨A, B, e, h1, h2, ?_, ?_, fun k1 k2 k3 k4 => ?_⟩
      · rw [fsv_b (by omega)]; exact h3
      · rw [show k.toNat = 0 by omega, Nat.pow_zero, Nat.mul_one]; exact h4
      · have := blen10 (n := (-k).toNat) (by omega)
        omega
  · refine ⟨man.natAbs, 1, k * (4 : Nat), by decide, CC_one, ?_, val_two (q := 4), fun h1 h2 h3 h4 => ?_⟩
    · rw [fsv_16]; exact fme_rat hp
    · omega
theorem toNat_pos4 {b : Int} (hb4 : b = 2 ∨ b = 8 ∨ b = 10 ∨ b = 16) {k : Nat} : 0 < b.toNat ^ k := Nat.pow_pos (by rcases hb4 with rfl | rfl | rfl | rfl <;> decide)
theorem fsv_is_ratP {b man k N q : Int} {p : Nat} {r : Rnd} (hb4 : b = 2 ∨ b = 8 ∨ b = 10 ∨ b = 16) (hm : man ≠ 0) (hN : N ≠ 0) (hs : sgn man = sgn N) (hq : 0 < q) (hp : 0 < p)
    (hv : man.natAbs * b.toNat ^ k.toNat * q.toNat = N.natAbs * b.toNat ^ (-k).toNat) : fsv b man k p r = ratP N q p r := by
  obtain ⟨A, B, e, h⟩ := fsv_rat (k := k) (r := r) hb4 hm hp
  obtain ⟨A', B', e', h1, h2, h3, h4, _⟩ := ratP_rat (r := r) hN hq hp
  rw [h.eq, h3, hs]
  exact rat_same h.cc h2 h.pos h1 (toNat_pos4 hb4) (by omega) h.val h4 hv
theorem fsv_is_fme {b man k N : Int} {p : Nat} {r : Rnd} (hb4 : b = 2 ∨ b = 8 ∨ b = 10 ∨ b = 16) (hm : man ≠ 0) (hN : N ≠ 0) (hs : sgn man = sgn N) (hp : 0 < p)
    (hv : man.natAbs * b.toNat ^ k.toNat = N.natAbs * b.toNat ^ (-k).toNat) : fsv b man k p r = fme N 0 p r := by
  obtain ⟨A, B, e, h⟩ := fsv_rat (k := k) (r := r) hb4 hm hp
  rw [h.eq, fme_rat hp, hs]
  refine rat_same h.cc CC_one h.pos (by decide) (toNat_pos4 hb4) (by omega : 0 < N.natAbs) h.val (P' := N.natAbs) (Q' := 1) ?_ (by rw [Nat.mul_one]; exact hv)
  exact Val.mk (i := 0) (j := 0) rfl rfl
/-- sixty figures of base 2 are enough: the number itself -/
theorem fsv_exact {b man k : Int} {m U : Nat} {e : Int} {r : Rnd} (hb4 : b = 2 ∨ b = 8 ∨ b = 10 ∨ b = 16) (h0 : 0 ≤ man) (hm : m % 2 = 1) (hl : blen m ≤ 60) (he : 0 ≤ e + 60) (hU : U = m * 2 ^ (e + 60).toNat)
    (hv : man.natAbs * b.toNat ^ k.toNat * 2 ^ 60 = U * b.toNat ^ (-k).toNat) : fsv b man k 60 r = ⟨0, m, e, blen m⟩ := by
  have hU0 : 0 < U := by rw [hU]; exact Nat.mul_pos (by omega) (Nat.two_pow_pos _)
  have hman : man ≠ 0 := by
    intro h
    subst h
    have : 0 < U * b.toNat ^ (-k).toNat := Nat.mul_pos hU0 (toNat_pos4 hb4)
    rw [← hv] at this
    simp at this
  obtain ⟨A, B, e', h⟩ := fsv_rat (k := k) (r := r) (p := 60) hb4 hman (by decide)
  have hn : nrm 0 m e 60 r = ⟨0, m, e, blen m⟩ := by
    unfold nrm
    rw [show blen m - 60 = 0 by omega, Nat.pow_zero, rm_one, mkM_ne (by omega), (od_of_odd hm).1, (od_of_odd hm).2]
    congr 1
    simp
  have hs : sgn man = 0 := by unfold sgn; rw [if_neg (by omega)]
  show fsv b man k ((60 : Nat) : Int) r = _
  rw [h.eq, ← hn, nrm_rat, hs]
  refine rat_same h.cc CC_one h.pos (by decide) (toNat_pos4 hb4) hU0 h.val (Q' := 2 ^ 60) ?_ hv
  refine Val.mk (i := (e + 60).toNat) (j := 60) (by omega) ?_
  rw [hU]; ac_rfl
/-! rounded down and up -/
theorem rm_up_ge {A B : Nat} (hB : 0 < B) : A ≤ rm A B .up * B := by
  have h1 := Nat.div_add_mod A B
  have h2 := Nat.mod_lt A hB
  simp only [rm]
  split
  · rename_i h
    rw [h, Nat.mul_comm] at h1
    omega
  · rw [Nat.add_mul, Nat.one_mul, Nat.mul_comm]
    omega
theorem rm_dn_le {A B : Nat} : rm A B .dn * B ≤ A := Nat.div_mul_le_self A B
theorem rat_len {A B p : Nat} {m : Md} : rm A (B * 2 ^ (blen (A / B) - p)) m ≤ 2 ^ p := by
  have h := (rm_le A (B * 2 ^ (blen (A / B) - p)) m).2
  have h2 : A / (B * 2 ^ (blen (A / B) - p)) < 2 ^ p := by
    rw [← Nat.div_div_eq_div_mul, Nat.div_lt_iff_lt_mul (Nat.two_pow_pos _), ← Nat.pow_add]
    exact Nat.lt_of_lt_of_le (lt_two_blen _) (Nat.pow_le_pow_right (by decide) (by omega))
  omega
/-- M / Q against U: the two ways -/
theorem lo_le {A B fg Q U M k : Nat} {e : Int} (hQ : 0 < Q) (hB : 0 < B) (hv : Val A B e fg Q) (hM : M * (B * 2 ^ k) ≤ A) (hU : fg * 2 ^ 60 ≤ U * Q) : M * 2 ^ (k + e.toNat + 60) ≤ U * 2 ^ (-e).toNat := by
  unfold Val at hv
  refine Nat.le_of_mul_le_mul_right (c := B * Q) ?_ (Nat.mul_pos hB hQ)
  calc M * 2 ^ (k + e.toNat + 60) * (B * Q) = (M * (B * 2 ^ k)) * (Q * 2 ^ e.toNat * 2 ^ 60) := by rw [Nat.pow_add, Nat.pow_add]; ac_rfl
    _ ≤ A * (Q * 2 ^ e.toNat * 2 ^ 60) := Nat.mul_le_mul_right _ hM
    _ = (A * Q * 2 ^ e.toNat) * 2 ^ 60 := by ac_rfl
    _ = (fg * 2 ^ 60) * (B * 2 ^ (-e).toNat) := by rw [hv]; ac_rfl
    _ ≤ (U * Q) * (B * 2 ^ (-e).toNat) := Nat.mul_le_mul_right _ hU
    _ = _ := by ac_rfl
theorem hi_lt {A B fg Q U M k : Nat} {e : Int} (hQ : 0 < Q) (hB : 0 < B) (hv : Val A B e fg Q) (hM : A ≤ M * (B * 2 ^ k)) (hU : U * Q < fg * 2 ^ 60) : U * 2 ^ (-e).toNat < M * 2 ^ (k + e.toNat + 60) := by
  unfold Val at hv
  refine Nat.lt_of_mul_lt_mul_right (a := B * Q) ?_
  calc U * 2 ^ (-e).toNat * (B * Q) = (U * Q) * (B * 2 ^ (-e).toNat) := by ac_rfl
    _ < (fg * 2 ^ 60) * (B * 2 ^ (-e).toNat) := Nat.mul_lt_mul_of_pos_right hU (Nat.mul_pos hB (Nat.two_pow_pos _))
    _ = (A * Q * 2 ^ e.toNat) * 2 ^ 60 := by rw [hv]; ac_rfl
    _ = A * (Q * 2 ^ e.toNat * 2 ^ 60) := by ac_rfl
    _ ≤ (M * (B * 2 ^ k)) * (Q * 2 ^ e.toNat * 2 ^ 60) := Nat.mul_le_mul_right _ hM
    _ = _ := by rw [Nat.pow_add, Nat.pow_add]; ac_rfl
end Mine
/-! part LawF -/
namespace Mine
/-! the law's frame: places by index, cells, the loop over the four bases -/
section
variable {M : Model} {A : Around} {E : Value → Shared → Prop} {h : Heap} {G : Array GenState} {D : Drawn} {tk : Nat} {O : OsState} {g : Heap} {L : Addr} {led : Led} {name : Str} {scope : Scope} {f : Addr} {cd v : Value} {x : Str} {pos : Pos} {cl : List (Str × Addr)} {m : Str → Option Value} {c : Addr} {o : Obj} {v₀ : Option Value}
theorem zc_stT {w : World} {Q : Unit → Shared → Prop} (_X : (Mine.hd.heap_39 w.params).In g) (hk : scope.kind = .function) (hx : (envX name scope L f cd cl).kindOf x = some .cell) (hc : cl.lookup x = some c) (F : Fr g L h m) (N : News g L h led) (hm : (c, o) ∈ led) (hd : o.data = .cell v₀)
    (q : ∀ h' o' led', Fr g L h' m → News g L h' led' → (c, o') ∈ led' → o'.data = .cell (some v) → (∀ p ∈ led, p.1 ≠ c → p ∈ led') → (∀ D vs, Has w led D (tupO vs) → Has w led' D (tupO vs)) → Q () ⟨h', G, D, tk, O⟩) :
    wpAny M A (storeName (envX name scope L f cd cl) x v) Q E ⟨h, G, D, tk, O⟩ :=
  zc_stC hk hx hc F N hm hd fun h' o' F' N' hd' => q h' o' _ F' N' (List.mem_cons_self ..) hd' (fun p hp hne => List.mem_cons_of_mem _ (List.mem_filter.mpr ⟨hp, by simpa using hne⟩)) fun D vs hD => has_upd N hm hd hD
theorem lx0 {ns : List Str} {vs : List (Option Value)} {Q : Value → Shared → Prop} (K : LocOk scope (x :: ns)) (F : Fr g L h (tm (x :: ns) (some v :: vs))) (q : Q v ⟨h, G, D, tk, O⟩) : wpAny M A (eval (.Name x pos) (envX name scope L f cd cl)) Q E ⟨h, G, D, tk, O⟩ := zc_ld 0 K F rfl rfl q
theorem sx0 {ov : Option Value} {ns : List Str} {vs : List (Option Value)} {Q : Unit → Shared → Prop} (K : LocOk scope (x :: ns)) (F : Fr g L h (tm (x :: ns) (ov :: vs))) (N : News g L h led) (q : ∀ h' tk', Fr g L h' (tm (x :: ns) (some v :: vs)) → News g L h' led → Q () ⟨h', G, D, tk', O⟩) : wpAny M A (storeName (envX name scope L f cd cl) x v) Q E ⟨h, G, D, tk, O⟩ := zc_st 0 K F N rfl (by simp) q
theorem lx1 {n0 : Str} {a0 : Option Value} {ns : List Str} {vs : List (Option Value)} {Q : Value → Shared → Prop} (K : LocOk scope (n0 :: x :: ns)) (F : Fr g L h (tm (n0 :: x :: ns) (a0 :: some v :: vs))) (q : Q v ⟨h, G, D, tk, O⟩) : wpAny M A (eval (.Name x pos) (envX name scope L f cd cl)) Q E ⟨h, G, D, tk, O⟩ := zc_ld 1 K F rfl rfl q
theorem sx1 {n0 : Str} {a0 : Option Value} {ov : Option Value} {ns : List Str} {vs : List (Option Value)} {Q : Unit → Shared → Prop} (K : LocOk scope (n0 :: x :: ns)) (F : Fr g L h (tm (n0 :: x :: ns) (a0 :: ov :: vs))) (N : News g L h led) (q : ∀ h' tk', Fr g L h' (tm (n0 :: x :: ns) (a0 :: some v :: vs)) → News g L h' led → Q () ⟨h', G, D, tk', O⟩) : wpAny M A (storeName (envX name scope L f cd cl) x v) Q E ⟨h, G, D, tk, O⟩ := zc_st 1 K F N rfl (by simp) q
theorem lx2 {n0 n1 : Str} {a0 a1 : Option Value} {ns : List Str} {vs : List (Option Value)} {Q : Value → Shared → Prop} (K : LocOk scope (n0 :: n1 :: x :: ns)) (F : Fr g L h (tm (n0 :: n1 :: x :: ns) (a0 :: a1 :: some v :: vs))) (q : Q v ⟨h, G, D, tk, O⟩) : wpAny M A (eval (.Name x pos) (envX name scope L f cd cl)) Q E ⟨h, G, D, tk, O⟩ := zc_ld 2 K F rfl rfl q
theorem sx2 {n0 n1 : Str} {a0 a1 : Option Value} {ov : Option Value} {ns : List Str} {vs : List (Option Value)} {Q : Unit → Shared → Prop} (K : LocOk scope (n0 :: n1 :: x :: ns)) (F : Fr g L h (tm (n0 :: n1 :: x :: ns) (a0 :: a1 :: ov :: vs))) (N : News g L h led) (q : ∀ h' tk', Fr g L h' (tm (n0 :: n1 :: x :: ns) (a0 :: a1 :: some v :: vs)) → News g L h' led → Q () ⟨h', G, D, tk', O⟩) : wpAny M A (storeName (envX name scope L f cd cl) x v) Q E ⟨h, G, D, tk, O⟩ := zc_st 2 K F N rfl (by simp) q
theorem lx3 {n0 n1 n2 : Str} {a0 a1 a2 : Option Value} {ns : List Str} {vs : List (Option Value)} {Q : Value → Shared → Prop} (K : LocOk scope (n0 :: n1 :: n2 :: x :: ns)) (F : Fr g L h (tm (n0 :: n1 :: n2 :: x :: ns) (a0 :: a1 :: a2 :: some v :: vs))) (q : Q v ⟨h, G, D, tk, O⟩) : wpAny M A (eval (.Name x pos) (envX name scope L f cd cl)) Q E ⟨h, G, D, tk, O⟩ := zc_ld 3 K F rfl rfl q
theorem sx3 {n0 n1 n2 : Str} {a0 a1 a2 : Option Value} {ov : Option Value} {ns : List Str} {vs : List (Option Value)} {Q : Unit → Shared → Prop} (K : LocOk scope (n0 :: n1 :: n2 :: x :: ns)) (F : Fr g L h (tm (n0 :: n1 :: n2 :: x :: ns) (a0 :: a1 :: a2 :: ov :: vs))) (N : News g L h led) (q : ∀ h' tk', Fr g L h' (tm (n0 :: n1 :: n2 :: x :: ns) (a0 :: a1 :: a2 :: some v :: vs)) → News g L h' led → Q () ⟨h', G, D, tk', O⟩) : wpAny M A (storeName (envX name scope L f cd cl) x v) Q E ⟨h, G, D, tk, O⟩ := zc_st 3 K F N rfl (by simp) q
theorem lx4 {n0 n1 n2 n3 : Str} {a0 a1 a2 a3 : Option Value} {ns : List Str} {vs : List (Option Value)} {Q : Value → Shared → Prop} (K : LocOk scope (n0 :: n1 :: n2 :: n3 :: x :: ns)) (F : Fr g L h (tm (n0 :: n1 :: n2 :: n3 :: x :: ns) (a0 :: a1 :: a2 :: a3 :: some v :: vs))) (q : Q v ⟨h, G, D, tk, O⟩) : wpAny M A (eval (.Name x pos) (envX name scope L f cd cl)) Q E ⟨h, G, D, tk, O⟩ := zc_ld 4 K F rfl rfl q
theorem sx4 {n0 n1 n2 n3 : Str} {a0 a1 a2 a3 : Option Value} {ov : Option Value} {ns : List Str} {vs : List (Option Value)} {Q : Unit → Shared → Prop} (K : LocOk scope (n0 :: n1 :: n2 :: n3 :: x :: ns)) (F : Fr g L h (tm (n0 :: n1 :: n2 :: n3 :: x :: ns) (a0 :: a1 :: a2 :: a3 :: ov :: vs))) (N : News g L h led) (q : ∀ h' tk', Fr g L h' (tm (n0 :: n1 :: n2 :: n3 :: x :: ns) (a0 :: a1 :: a2 :: a3 :: some v :: vs)) → News g L h' led → Q () ⟨h', G, D, tk', O⟩) : wpAny M A (storeName (envX name scope L f cd cl) x v) Q E ⟨h, G, D, tk, O⟩ := zc_st 4 K F N rfl (by simp) q
theorem lx5 {n0 n1 n2 n3 n4 : Str} {a0 a1 a2 a3 a4 : Option Value} {ns : List Str} {vs : List (Option Value)} {Q : Value → Shared → Prop} (K : LocOk scope (n0 :: n1 :: n2 :: n3 :: n4 :: x :: ns)) (F : Fr g L h (tm (n0 :: n1 :: n2 :: n3 :: n4 :: x :: ns) (a0 :: a1 :: a2 :: a3 :: a4 :: some v :: vs))) (q : Q v ⟨h, G, D, tk, O⟩) : wpAny M A (eval (.Name x pos) (envX name scope L f cd cl)) Q E ⟨h, G, D, tk, O⟩ := zc_ld 5 K F rfl rfl q
theorem sx5 {n0 n1 n2 n3 n4 : Str} {a0 a1 a2 a3 a4 : Option Value} {ov : Option Value} {ns : List Str} {vs : List (Option Value)} {Q : Unit → Shared → Prop} (K : LocOk scope (n0 :: n1 :: n2 :: n3 :: n4 :: x :: ns)) (F : Fr g L h (tm (n0 :: n1 :: n2 :: n3 :: n4 :: x :: ns) (a0 :: a1 :: a2 :: a3 :: a4 :: ov :: vs))) (N : News g L h led) (q : ∀ h' tk', Fr g L h' (tm (n0 :: n1 :: n2 :: n3 :: n4 :: x :: ns) (a0 :: a1 :: a2 :: a3 :: a4 :: some v :: vs)) → News g L h' led → Q () ⟨h', G, D, tk', O⟩) : wpAny M A (storeName (envX name scope L f cd cl) x v) Q E ⟨h, G, D, tk, O⟩ := zc_st 5 K F N rfl (by simp) q
theorem lx6 {n0 n1 n2 n3 n4 n5 : Str} {a0 a1 a2 a3 a4 a5 : Option Value} {ns : List Str} {vs : List (Option Value)} {Q : Value → Shared → Prop} (K : LocOk scope (n0 :: n1 :: n2 :: n3 :: n4 :: n5 :: x :: ns)) (F : Fr g L h (tm (n0 :: n1 :: n2 :: n3 :: n4 :: n5 :: x :: ns) (a0 :: a1 :: a2 :: a3 :: a4 :: a5 :: some v :: vs))) (q : Q v ⟨h, G, D, tk, O⟩) : wpAny M A (eval (.Name x pos) (envX name scope L f cd cl)) Q E ⟨h, G, D, tk, O⟩ := zc_ld 6 K F rfl rfl q
theorem sx6 {n0 n1 n2 n3 n4 n5 : Str} {a0 a1 a2 a3 a4 a5 : Option Value} {ov : Option Value} {ns : List Str} {vs : List (Option Value)} {Q : Unit → Shared → Prop} (K : LocOk scope (n0 :: n1 :: n2 :: n3 :: n4 :: n5 :: x :: ns)) (F : Fr g L h (tm (n0 :: n1 :: n2 :: n3 :: n4 :: n5 :: x :: ns) (a0 :: a1 :: a2 :: a3 :: a4 :: a5 :: ov :: vs))) (N : News g L h led) (q : ∀ h' tk', Fr g L h' (tm (n0 :: n1 :: n2 :: n3 :: n4 :: n5 :: x :: ns) (a0 :: a1 :: a2 :: a3 :: a4 :: a5 :: some v :: vs)) → News g L h' led → Q () ⟨h', G, D, tk', O⟩) : wpAny M A (storeName (envX name scope L f cd cl) x v) Q E ⟨h, G, D, tk, O⟩ := zc_st 6 K F N rfl (by simp) q
theorem lx7 {n0 n1 n2 n3 n4 n5 n6 : Str} {a0 a1 a2 a3 a4 a5 a6 : Option Value} {ns : List Str} {vs : List (Option Value)} {Q : Value → Shared → Prop} (K : LocOk scope (n0 :: n1 :: n2 :: n3 :: n4 :: n5 :: n6 :: x :: ns)) (F : Fr g L h (tm (n0 :: n1 :: n2 :: n3 :: n4 :: n5 :: n6 :: x :: ns) (a0 :: a1 :: a2 :: a3 :: a4 :: a5 :: a6 :: some v :: vs))) (q : Q v ⟨h, G, D, tk, O⟩) : wpAny M A (eval (.Name x pos) (envX name scope L f cd cl)) Q E ⟨h, G, D, tk, O⟩ := zc_ld 7 K F rfl rfl q
theorem sx7 {n0 n1 n2 n3 n4 n5 n6 : Str} {a0 a1 a2 a3 a4 a5 a6 : Option Value} {ov : Option Value} {ns : List Str} {vs : List (Option Value)} {Q : Unit → Shared → Prop} (K : LocOk scope (n0 :: n1 :: n2 :: n3 :: n4 :: n5 :: n6 :: x :: ns)) (F : Fr g L h (tm (n0 :: n1 :: n2 :: n3 :: n4 :: n5 :: n6 :: x :: ns) (a0 :: a1 :: a2 :: a3 :: a4 :: a5 :: a6 :: ov :: vs))) (N : News g L h led) (q : ∀ h' tk', Fr g L h' (tm (n0 :: n1 :: n2 :: n3 :: n4 :: n5 :: n6 :: x :: ns) (a0 :: a1 :: a2 :: a3 :: a4 :: a5 :: a6 :: some v :: vs)) → News g L h' led → Q () ⟨h', G, D, tk', O⟩) : wpAny M A (storeName (envX name scope L f cd cl) x v) Q E ⟨h, G, D, tk, O⟩ := zc_st 7 K F N rfl (by simp) q
theorem lx8 {n0 n1 n2 n3 n4 n5 n6 n7 : Str} {a0 a1 a2 a3 a4 a5 a6 a7 : Option Value} {ns : List Str} {vs : List (Option Value)} {Q : Value → Shared → Prop} (K : LocOk scope (n0 :: n1 :: n2 :: n3 :: n4 :: n5 :: n6 :: n7 :: x :: ns)) (F : Fr g L h (tm (n0 :: n1 :: n2 :: n3 :: n4 :: n5 :: n6 :: n7 :: x :: ns) (a0 :: a1 :: a2 :: a3 :: a4 :: a5 :: a6 :: a7 :: some v :: vs))) (q : Q v ⟨h, G, D, tk, O⟩) : wpAny M A (eval (.Name x pos) (envX name scope L f cd cl)) Q E ⟨h, G, D, tk, O⟩ := zc_ld 8 K F rfl rfl q
theorem sx8 {n0 n1 n2 n3 n4 n5 n6 n7 : Str} {a0 a1 a2 a3 a4 a5 a6 a7 : Option Value} {ov : Option Value} {ns : List Str} {vs : List (Option Value)} {Q : Unit → Shared → Prop} (K : LocOk scope (n0 :: n1 :: n2 :: n3 :: n4 :: n5 :: n6 :: n7 :: x :: ns)) (F : Fr g L h (tm (n0 :: n1 :: n2 :: n3 :: n4 :: n5 :: n6 :: n7 :: x :: ns) (a0 :: a1 :: a2 :: a3 :: a4 :: a5 :: a6 :: a7 :: ov :: vs))) (N : News g L h led) (q : ∀ h' tk', Fr g L h' (tm (n0 :: n1 :: n2 :: n3 :: n4 :: n5 :: n6 :: n7 :: x :: ns) (a0 :: a1 :: a2 :: a3 :: a4 :: a5 :: a6 :: a7 :: some v :: vs)) → News g L h' led → Q () ⟨h', G, D, tk', O⟩) : wpAny M A (storeName (envX name scope L f cd cl) x v) Q E ⟨h, G, D, tk, O⟩ := zc_st 8 K F N rfl (by simp) q
end

/-- the end of a turn -/
def TurnEnd (w : World) (g : Heap) (L ct cs D : Addr) (os : Obj) (sx : List Value) (m : Str → Option Value) (led : Led) (G : Array GenState) (Dr : Drawn) (O : OsState) (fl : Flow) (s₂ : Shared) : Prop :=
  fl = .next ∧ ∃ h2 tk2 led2, s₂ = ⟨h2, G, Dr, tk2, O⟩ ∧ Fr g L h2 m ∧ News g L h2 led2 ∧ (∃ ot v₀, (ct, ot) ∈ led2 ∧ ot.data = .cell v₀) ∧ (cs, os) ∈ led2 ∧ Has w led2 D (tupO sx) ∧ ∀ p ∈ led, p.1 ≠ ct → p ∈ led2
theorem z_for {w : World} {A : Around} {E : Value → Shared → Prop} {h : Heap} {G : Array GenState} {Dr : Drawn} {tk : Nat} {O : OsState} {g : Heap} {led : Led} {env : Env} {x : Str} {body : List Stmt} {Q : Flow → Shared → Prop} {T ct cs D : Addr} {os ot : Obj} {v₀ : Option Value} {sx : List Value} {items : List Value} {ns : List Str} {vs : List (Option Value)} {n : Nat}
    (hh : A.handled = none) (j : Nat) (hn : ns.Nodup) (hj : ns[j]? = some x) (hjl : j < vs.length) (F : Fr g env.locals h (tm ns vs)) (N : News g env.locals h led) (hT : (T, W.listOf items.toArray n) ∈ led) (hct : (ct, ot) ∈ led) (hot : ot.data = .cell v₀) (hcs : (cs, os) ∈ led) (hcc : ct ≠ cs) (hD : Has w led D (tupO sx))
    (turn : ∀ v ∈ items, ∀ h1 tk1 led1 ot v₀, Fr g env.locals h1 (tm ns (vs.set j (some v))) → News g env.locals h1 led1 → (ct, ot) ∈ led1 → ot.data = .cell v₀ → (cs, os) ∈ led1 → Has w led1 D (tupO sx) →
      wpAny (model PySem.Challenge.rw_aj5018_01.row.prog w) A (execs body env) (fun fl s₂ => TurnEnd w g env.locals ct cs D os sx (tm ns (vs.set j (some v))) led1 G Dr O fl s₂) E ⟨h1, G, Dr, tk1, O⟩)
    (q : ∀ h2 tk2 led2 vs2, Fr g env.locals h2 (tm ns vs2) → News g env.locals h2 led2 → Q .next ⟨h2, G, Dr, tk2, O⟩) :
    wpAny (model PySem.Challenge.rw_aj5018_01.row.prog w) A (pyIter (.ref T)) (fun it s₂ => LoopAtV PySem.Challenge.rw_aj5018_01.row.prog w A g env x body Q E it s₂) E ⟨h, G, Dr, tk, O⟩ := by
  have hTN := N _ hT
  have hls : h.IsList T items.toArray := ⟨_, hTN.1, rfl, _, rfl⟩
  have hne : T ≠ h.objs.size := Nat.ne_of_lt (Heap.lt_size hTN.1)
  have hctN := N _ hct
  have hTct : T ≠ ct := by
    intro e
    have h1 := hTN.1
    have h2 := hctN.1
    dsimp only at h1 h2
    rw [e, h2] at h1
    have h3 := Option.some.inj h1
    rw [h3] at hot
    cases hot
  have hIct : h.objs.size ≠ ct := Ne.symm (Nat.ne_of_lt (Heap.lt_size hctN.1))
  refine wpAny_pyIter_list hls ?_
  have W := Walks.list (prog := PySem.Challenge.rw_aj5018_01.row.prog) (w := w) hh h.objs.size T hne items.toArray
  let J : Nat → (Str → Option Value) → Led → Prop := fun _ m₁ led₁ => (m₁ = tm ns vs ∨ ∃ v, m₁ = tm ns (vs.set j (some v))) ∧ (∃ ot v₀, (ct, ot) ∈ led₁ ∧ ot.data = .cell v₀) ∧ (cs, os) ∈ led₁ ∧ Has w led₁ D (tupO sx)
  have hiI : ∀ (h' : Heap) (led' : Led) (oI : Obj), News g env.locals h' led' → h'.get? h.objs.size = some oI → oI.cls = .type "list_iterator" → (∀ o, (h.objs.size, o) ∈ led' → o.cls = .type "list_iterator") := fun h' led' oI N' e1 e2 o ho => by
    have := (N' _ ho).1
    dsimp only at this
    rw [e1] at this
    rw [← Option.some.inj this]; exact e2
  refine ⟨_, _, _, items.toArray.size, _, _, tm ns vs, led, J, rfl, W, ?_, ?_, ?_, ⟨⟨_, Heap.get?_push_size _ rfl, rfl, rfl⟩, hls.at fun o e => Heap.get?_push_of_some _ e⟩, F.push _, (fun p hp => ⟨Heap.get?_push_of_some _ (N p hp).1, (N p hp).2⟩), ⟨.inl rfl, ⟨_, _, hct, hot⟩, hcs, hD⟩, ?_, ?_⟩
  · intro hm
    rcases List.mem_cons.mp hm with e | hm
    · exact absurd F.ns.lt (e ▸ Nat.lt_irrefl _)
    · exact hTN.2.1 (List.mem_singleton.mp hm).symm
  · intro b hb
    rw [List.mem_singleton.mp hb]
    exact next_is_new F
  · intro p hp hI
    exact absurd (Heap.lt_size (N p hp).1) ((List.mem_singleton.mp hI) ▸ Nat.lt_irrefl _)
  · rintro i v m₁ news₁ s₁ own ⟨h1, tk1, rfl⟩ hi hP hJ hoff hfp hget _ hst F₁ N₁
    obtain ⟨hm, ⟨ot1, v1, hct1, hot1⟩, hcs1, hD1⟩ := hJ
    have F₂ : Fr g env.locals h1 (tm ns (vs.set j (some v))) := by
      rcases hm with rfl | ⟨v', rfl⟩
      · rw [← tm_set hn hj hjl]; exact F₁
      · have := tm_set (v := v) hn hj (show j < (vs.set j (some v')).length by simpa using hjl)
        rw [List.set_set] at this
        rw [← this]; exact F₁
    have hv : v ∈ items := by
      have hP' : items.toArray[i]? = some v := hP
      rw [List.getElem?_toArray] at hP'
      exact List.mem_of_getElem? hP'
    refine wpAny_mono (turn v hv h1 tk1 (own ++ news₁) ot1 v1 F₂ N₁ (List.mem_append_right _ hct1) hot1 (List.mem_append_right _ hcs1) (hD1.imp id (List.mem_append_right _))) (fun fl s₂ he => ?_) fun _ _ e => e
    obtain ⟨rfl, h2, tk2, led2, rfl, F2, N2, ⟨ot2, v2, hct2, hot2⟩, hcs2, hD2, hkeep⟩ := he
    have hownct : ∀ p ∈ own, p.1 ≠ ct := fun p hp e => by
      have := hfp p hp
      rcases List.mem_cons.mp this with h9 | h9
      · exact hIct (h9.symm.trans e)
      · exact hTct ((List.mem_singleton.mp h9).symm.trans e)
    have hown2 : ∀ p ∈ own, p ∈ led2 := fun p hp => hkeep p (List.mem_append_left _ hp) (hownct p hp)
    have hIcs : h.objs.size ≠ cs := fun e => hoff _ hcs1 (by show cs ∈ [h.objs.size]; rw [e]; exact List.mem_singleton.mpr rfl)
    obtain ⟨⟨oI, hI1, hI2, hI3⟩, _⟩ := id hst
    refine .next ⟨rfl, h2, tk2, _, led2.filter (fun p => p.1 != h.objs.size), rfl, F2, fun p hp => ?_, fun p hp hI => ?_, .inr ⟨v, rfl⟩, ⟨ot2, v2, List.mem_filter.mpr ⟨hct2, by simpa using Ne.symm hIct⟩, hot2⟩, List.mem_filter.mpr ⟨hcs2, by simpa using Ne.symm hIcs⟩, ?_⟩
    · rcases List.mem_append.mp hp with hp | hp
      · exact N2 _ (hown2 p hp)
      · exact N2 _ (List.mem_filter.mp hp).1
    · have := (List.mem_filter.mp hp).2
      rw [List.mem_singleton.mp hI] at this
      simp at this
    · rcases hD1 with hD1 | hD1
      · exact .inl hD1
      rcases hD2 with hD2 | hD2
      · exact .inl hD2
      · refine .inr (List.mem_filter.mpr ⟨hD2, ?_⟩)
        have hDI : D ≠ h.objs.size := fun e => hoff _ hD1 (by show D ∈ [h.objs.size]; rw [e]; exact List.mem_singleton.mpr rfl)
        simpa using hDI
  · intro h' tk' m' news' F' N' _ hJ
    obtain ⟨hm, _⟩ := hJ
    rcases hm with rfl | ⟨v, rfl⟩
    · exact q h' tk' news' _ F' N'
    · exact q h' tk' news' _ F' N'
end Mine
/-! part XOk -/
namespace Mine
/-! the number that the law draws, and what stands of it -/
structure XOk (x : Mpf) : Prop where
  s0 : x.s = 0
  or : (x.m = 0 ∧ x.e = 0 ∧ x.b = 0) ∨ (0 < x.m ∧ x.m % 2 = 1 ∧ x.b = (Builtin.Int.intBits x.m : Int) ∧ x.b ≤ 60 ∧ -60 ≤ x.e ∧ x.e ≤ -x.b)
theorem xok_raw {s m e b : Int} (h : RawOk s m e b) (hm : ¬ 0 < m) : XOk ⟨s, m, e, b⟩ := by
  rcases h with ⟨h1, h2, h3, h4⟩ | ⟨h1, _⟩
  · exact ⟨h2, .inl ⟨h1, h3, h4⟩⟩
  · exact absurd h1 hm
theorem xok_raw2 {s m e b : Int} (h : RawOk s m e b) (hm : m ≤ 0) : XOk ⟨s, m, e, b⟩ := xok_raw h (by omega)
theorem xok_new {s m e b f : Int} (h : RawOk s m e b) (hm : 0 < m) : XOk ⟨0, m, -b - f.fmod (61 - b), b⟩ := by
  rcases h with ⟨h1, _⟩ | ⟨h1, h2, h3, h4⟩
  · omega
  · have k1 := bmod_nn (m := f) (k := 61 - b) (by omega)
    have k2 := bmod_lt (m := f) (k := 61 - b) (by omega)
    refine ⟨rfl, .inr ⟨h1, h2, h3, h4, ?_, ?_⟩⟩
    · show -60 ≤ -b - f.fmod (61 - b); omega
    · show -b - f.fmod (61 - b) ≤ -b; omega
theorem xok_nz {s m e b : Int} (h : RawOk s m e b) (hm : 0 < m) : ¬ 61 - b = 0 := by
  rcases h with ⟨h1, _⟩ | ⟨h1, h2, h3, h4⟩ <;> omega
/-- the if over s is behind -/
def SJoin (w : World) (g : Heap) (L ct cs : Addr) (ot : Obj) (m : Str → Option Value) (G : Array GenState) (Dr : Drawn) (O : OsState) (fl : Flow) (s' : Shared) : Prop :=
  fl = .next ∧ ∃ h tk led D x t1 t2 t3 t4 os, s' = ⟨h, G, Dr, tk, O⟩ ∧ Fr g L h m ∧ News g L h led ∧ (ct, ot) ∈ led ∧ (cs, os) ∈ led ∧ os.data = .cell (some (.ref D)) ∧ Has w led D (tupO [.int x.s t1, .int x.m t2, .int x.e t3, .int x.b t4]) ∧ XOk x
section
variable {w : World} {A : Around} {E : Value → Shared → Prop} {h : Heap} {G : Array GenState} {D : Drawn} {tk : Nat} {O : OsState} {Q : Value → Shared → Prop} {a : Addr} {t u : Tok} {g : Heap} {L : Addr} {m : Str → Option Value} {led : Led} {k : Int} {n : Nat}
theorem rnd_at {k : Int} {t1 t2 t3 t4 t5 : Tok} (h0 : 0 ≤ k) (h5 : k < 5) : ∃ (r : Rnd) (t : Tok), [Value.str (Str.ofString "n") t1, .str (Str.ofString "f") t2, .str (Str.ofString "c") t3, .str (Str.ofString "d") t4, .str (Str.ofString "u") t5][k.toNat]? = some (.str r.str t) := by
  have : k.toNat = 0 ∨ k.toNat = 1 ∨ k.toNat = 2 ∨ k.toNat = 3 ∨ k.toNat = 4 := by omega
  rcases this with e | e | e | e | e <;> rw [e]
  · exact ⟨.n, _, rfl⟩
  · exact ⟨.f, _, rfl⟩
  · exact ⟨.c, _, rfl⟩
  · exact ⟨.d, _, rfl⟩
  · exact ⟨.u, _, rfl⟩
theorem z_rnd {value slice : Expr} {t1 t2 t3 t4 t5 : Tok} (N : News g L h led) (hm : (a, W.listOf [Value.str (Str.ofString "n") t1, .str (Str.ofString "f") t2, .str (Str.ofString "c") t3, .str (Str.ofString "d") t4, .str (Str.ofString "u") t5].toArray n) ∈ led)
    (h0 : 0 ≤ k) (h5 : k < 5) (q : ∀ (r : Rnd) t', Q (.str r.str t') ⟨h, G, D, tk, O⟩)
    (hs : subscripted slice false (.ref a) (.int k u) = operate [.ref a, .int k u] (getItem (.ref a) (.int k u))) :
    wpAny (model PySem.Challenge.rw_aj5018_01.row.prog w) A (subscriptTail value slice (.ref a) (.int k u)) Q E ⟨h, G, D, tk, O⟩ := by
  have hl : h.IsList a [Value.str (Str.ofString "n") t1, .str (Str.ofString "f") t2, .str (Str.ofString "c") t3, .str (Str.ofString "d") t4, .str (Str.ofString "u") t5].toArray := ⟨_, (N _ hm).1, rfl, _, rfl⟩
  obtain ⟨r, t', e⟩ := rnd_at (t1 := t1) (t2 := t2) (t3 := t3) (t4 := t4) (t5 := t5) h0 h5
  exact tail_any hl.typeIs slot_list_getitem.lookup (wpAny_getItem_list hl h0 (by omega) (by rw [List.getElem?_toArray]; exact e) (q r t')) hs
end
theorem mixed_nn {x : Int} (h : Mixed x) : 0 ≤ x := h.1
theorem law_n_nn {x k : Int} : 0 ≤ (x.fdiv 256).fmod (2 ^ (1 + k.fmod 120).toNat) := fmod_nn
theorem law_n_bits {x k : Int} : Builtin.Int.intBits ((x.fdiv 256).fmod (2 ^ (1 + k.fmod 120).toNat)) ≤ 120 := by
  have h1 := bmod_lt (m := k) (k := 120) (by decide)
  have := fmod_bits (x := x.fdiv 256) (k := (1 + k.fmod 120).toNat)
  omega
theorem law_ex {k : Int} : 0 ≤ 1 + k.fmod 120 := by have := bmod_nn (m := k) (k := 120) (by decide); omega
theorem base_lo {x : Int} : 2 ≤ 2 + (x.fdiv 500).fmod 35 := by have := bmod_nn (m := x.fdiv 500) (k := 35) (by decide); omega
theorem base_hi {x : Int} : 2 + (x.fdiv 500).fmod 35 ≤ 36 := by have := bmod_lt (m := x.fdiv 500) (k := 35) (by decide); omega
theorem behind_lo {x : Int} : 0 ≤ (x.fdiv 20000).fmod 61 := bmod_nn (by decide)
theorem behind_hi {x : Int} : (x.fdiv 20000).fmod 61 ≤ 60 := by have := bmod_lt (m := x.fdiv 20000) (k := 61) (by decide); omega
theorem places_lo {x : Int} : 1 ≤ 1 + (x.fdiv 2000000).fmod 60 := by have := bmod_nn (m := x.fdiv 2000000) (k := 60) (by decide); omega
theorem places_hi {x : Int} : 1 + (x.fdiv 2000000).fmod 60 ≤ 60 := by have := bmod_lt (m := x.fdiv 2000000) (k := 60) (by decide); omega
theorem prec_lo {x : Int} : 0 < 1 + (x.fdiv 5).fmod 90 := by have := bmod_nn (m := x.fdiv 5) (k := 90) (by decide); omega
theorem prec_hi {x : Int} : 1 + (x.fdiv 5).fmod 90 ≤ 90 := by have := bmod_lt (m := x.fdiv 5) (k := 90) (by decide); omega
theorem law_n_bits4 {x k : Int} : Builtin.Int.intBits ((x.fdiv 256).fmod (2 ^ (1 + k.fmod 120).toNat)) ≤ 400 := Nat.le_trans law_n_bits (by decide)
theorem rnd_lo {x : Int} : 0 ≤ x.fmod 5 := bmod_nn (by decide)
theorem rnd_hi {x : Int} : x.fmod 5 < 5 := bmod_lt (by decide)
theorem law_sz {k : Int} : (Builtin.Int.intBits 2 : Int) * (1 + k.fmod 120) ≤ 2 ^ 27 := by rw [bl2]; have := bmod_lt (m := k) (k := 120) (by decide); omega
theorem zl_join {M : Model} {w : World} {A : Around} {E : Value → Shared → Prop} {T : Sem Flow} {h : Heap} {G : Array GenState} {Dr : Drawn} {tk : Nat} {O : OsState} {Q : Flow → Shared → Prop} {g : Heap} {L : Addr} {m : Str → Option Value} {led : Led} {ot : Obj} (_X : (Mine.hd.heap_39 w.params).In g) (_F : Fr g L h m) (_N : News g L h led) (_hct : (L + 1 + 1, ot) ∈ led)
    (sub : wpAny M A T (SJoin w g L (L + 1 + 1) (L + 1) ot m G Dr O) E ⟨h, G, Dr, tk, O⟩)
    (q : ∀ h tk led D x t1 t2 t3 t4 os, Fr g L h m → News g L h led → (L + 1 + 1, ot) ∈ led → (L + 1, os) ∈ led → os.data = .cell (some (.ref D)) → Has w led D (tupO [.int x.s t1, .int x.m t2, .int x.e t3, .int x.b t4]) → XOk x → Q .next ⟨h, G, Dr, tk, O⟩) :
    wpAny M A T Q E ⟨h, G, Dr, tk, O⟩ := by
  refine wpAny_mono sub (fun fl s' hj => ?_) fun _ _ e => e
  obtain ⟨rfl, h, tk, led, D, x, t1, t2, t3, t4, os, rfl, a1, a2, a3, a4, a5, a6, a7⟩ := hj
  exact q _ _ _ _ _ _ _ _ _ _ a1 a2 a3 a4 a5 a6 a7
theorem sjoin_intro {w : World} {h : Heap} {G : Array GenState} {Dr : Drawn} {tk : Nat} {O : OsState} {g : Heap} {L D ct cs : Addr} {m : Str → Option Value} {led : Led} {ot os : Obj} {s m' e b : Int} {t1 t2 t3 t4 : Tok} (hx : XOk ⟨s, m', e, b⟩) (F : Fr g L h m) (N : News g L h led) (h1 : (ct, ot) ∈ led) (h2 : (cs, os) ∈ led) (h3 : os.data = .cell (some (.ref D)))
    (h4 : Has w led D (tupO [.int s t1, .int m' t2, .int e t3, .int b t4])) : SJoin w g L ct cs ot m G Dr O .next ⟨h, G, Dr, tk, O⟩ :=
  ⟨rfl, _, _, _, _, ⟨s, m', e, b⟩, _, _, _, _, _, rfl, F, N, h1, h2, h3, h4, hx⟩
theorem with_loc {M : Model} {cs : Scope} {ns : List Str} {dp un : Nat} {gd : Option (List Code)} {cn : Str} {L a : Addr} {ccd : Value} {cl : List (Str × Addr)} {outer : List Env} {body : List Stmt} {Q : Flow → Shared → Prop} {E : Value → Shared → Prop} {s : Shared} (K : LocOk cs ns) (hd : dp + 40 < recursionLimit) (hu : un + 400 < cLine)
    (q : LocOk cs ns → cs.kind = .function → dp + 40 < recursionLimit → un + 400 < cLine → wpAny M (ktrTop dp un gd cn cs L a ccd cl outer) (execs body (envX cn cs L a ccd cl)) Q E s) : wpAny M (ktrTop dp un gd cn cs L a ccd cl outer) (execs body (envX cn cs L a ccd cl)) Q E s := q K K.kind hd hu
theorem below_of {g h : Heap} {L : Addr} {m : Str → Option Value} (_F : Fr g L h m) : Below callerA g [] g := below_caller g
theorem Has.tr {w : World} {led led' : Led} {D : Addr} {o : Obj} (s : ∀ D vs, Has w led D (tupO vs) → Has w led' D (tupO vs)) (h : Has w led D o) (ho : ∃ vs, o = tupO vs) : Has w led' D o := by
  obtain ⟨vs, rfl⟩ := ho
  exact s _ _ h
theorem mem_tr {led led' : Led} {p : Addr × Obj} (s : ∀ p ∈ led, p ∈ led') (h : p ∈ led) : p ∈ led' := s _ h
theorem mem_trn {led led' : Led} {c : Addr} {p : Addr × Obj} (s : ∀ p ∈ led, p.1 ≠ c → p ∈ led') (hne : p.1 ≠ c) (h : p ∈ led) : p ∈ led' := s _ h hne
end Mine
/-! part LawG -/
namespace Mine
/-! the law's loop and its comprehension, as the walk takes them -/
theorem four {v : Value} {t1 t2 t3 t4 : Tok} (hv : v ∈ [Value.int 2 t1, .int 8 t2, .int 10 t3, .int 16 t4]) : ∃ b t, v = .int b t ∧ (b = 2 ∨ b = 8 ∨ b = 10 ∨ b = 16) := by
  simp only [List.mem_cons, List.not_mem_nil, or_false] at hv
  rcases hv with rfl | rfl | rfl | rfl
  · exact ⟨_, _, rfl, .inl rfl⟩
  · exact ⟨_, _, rfl, .inr (.inl rfl)⟩
  · exact ⟨_, _, rfl, .inr (.inr (.inl rfl))⟩
  · exact ⟨_, _, rfl, .inr (.inr (.inr rfl))⟩
theorem z_forL {w : World} {A : Around} {E : Value → Shared → Prop} {h : Heap} {G : Array GenState} {Dr : Drawn} {tk : Nat} {O : OsState} {g : Heap} {led : Led} {env : Env} {x : Str} {body : List Stmt} {Q : Flow → Shared → Prop} {T D : Addr} {os ot : Obj} {v₀ : Option Value} {sx : List Value} {n : Nat} {t1 t2 t3 t4 : Tok}
    {n0 n1 n2 n4 n5 n6 n7 : Str} {a0 a1 a2 a3 a4 a5 a6 a7 : Option Value} {scope : Scope}
    (hh : A.handled = none) (K : LocOk scope [n0, n1, n2, x, n4, n5, n6, n7]) (F : Fr g env.locals h (tm [n0, n1, n2, x, n4, n5, n6, n7] [a0, a1, a2, a3, a4, a5, a6, a7])) (N : News g env.locals h led) (hT : (T, W.listOf [Value.int 2 t1, .int 8 t2, .int 10 t3, .int 16 t4].toArray n) ∈ led)
    (hct : (env.locals + 1 + 1, ot) ∈ led) (hot : ot.data = .cell v₀) (hcs : (env.locals + 1, os) ∈ led) (hos : os.data = .cell (some (.ref D))) (hD : Has w led D (tupO sx))
    (turn : ∀ b t h1 tk1 led1 ot v₀, (b = 2 ∨ b = 8 ∨ b = 10 ∨ b = 16) → Fr g env.locals h1 (tm [n0, n1, n2, x, n4, n5, n6, n7] [a0, a1, a2, some (.int b t), a4, a5, a6, a7]) → News g env.locals h1 led1 → (env.locals + 1 + 1, ot) ∈ led1 → ot.data = .cell v₀ → (env.locals + 1, os) ∈ led1 → Has w led1 D (tupO sx) →
      wpAny (model PySem.Challenge.rw_aj5018_01.row.prog w) A (execs body env) (fun fl s₂ => TurnEnd w g env.locals (env.locals + 1 + 1) (env.locals + 1) D os sx (tm [n0, n1, n2, x, n4, n5, n6, n7] [a0, a1, a2, some (.int b t), a4, a5, a6, a7]) led1 G Dr O fl s₂) E ⟨h1, G, Dr, tk1, O⟩)
    (q : ∀ h2 tk2 led2 vs2, Fr g env.locals h2 (tm [n0, n1, n2, x, n4, n5, n6, n7] vs2) → News g env.locals h2 led2 → Q .next ⟨h2, G, Dr, tk2, O⟩) :
    wpAny (model PySem.Challenge.rw_aj5018_01.row.prog w) A (pyIter (.ref T)) (fun it s₂ => LoopAtV PySem.Challenge.rw_aj5018_01.row.prog w A g env x body Q E it s₂) E ⟨h, G, Dr, tk, O⟩ := by
  refine z_for hh 3 K.nodup rfl (by simp) F N hT hct hot hcs (Nat.succ_ne_self _) hD (fun v hv h1 tk1 led1 ot v₀ F1 N1 h3 h4 h5 h6 => ?_) q
  obtain ⟨b, t, rfl, hb⟩ := four hv
  exact turn b t h1 tk1 led1 ot v₀ hb F1 N1 h3 h4 h5 h6
/-- the end of a comprehension's element -/
def TurnC (g : Heap) (L : Addr) (m : Str → Option Value) (led : Led) (G : Array GenState) (Dr : Drawn) (O : OsState) (y : Value) (s₂ : Shared) : Prop :=
  ∃ h'' tk'' led'', y = .bool true ∧ s₂ = ⟨h'', G, Dr, tk'', O⟩ ∧ Fr g L h'' m ∧ News g L h'' led'' ∧ ∀ p ∈ led, p ∈ led''
theorem way_at {c i : Nat} (h : (Str.ofString "nfcdu").cps[i]? = some c) : ∃ r : Rnd, (⟨#[c]⟩ : Str) = r.str := by
  have hi : i < 5 := by
    have := (Array.getElem?_eq_some_iff.mp h).1
    have e : (Str.ofString "nfcdu").cps.size = 5 := by decide
    omega
  have e : (Str.ofString "nfcdu").cps = #[110, 102, 99, 100, 117] := by decide
  rw [e] at h
  have : i = 0 ∨ i = 1 ∨ i = 2 ∨ i = 3 ∨ i = 4 := by omega
  rcases this with rfl | rfl | rfl | rfl | rfl <;> (simp at h; subst h)
  · exact ⟨.n, by decide⟩
  · exact ⟨.f, by decide⟩
  · exact ⟨.c, by decide⟩
  · exact ⟨.d, by decide⟩
  · exact ⟨.u, by decide⟩
section
variable {w : World} {A : Around} {E : Value → Shared → Prop} {h : Heap} {G : Array GenState} {D : Drawn} {tk : Nat} {O : OsState} {g : Heap} {L : Addr} {m : Str → Option Value} {led : Led}
theorem lc_way {elt : Expr} {x : Str} {px pi : Pos} {kk : Nat} {scope : Scope} {cl : List (Str × Addr)} {pos : Pos} {env : Env} {Q : Value → Shared → Prop} (hh : A.handled = none) (F₀ : Fr g L h m) (N₀ : News g L h led)
    (hclos : closureFor scope env = pure cl) (hcell : (scope.names.all fun y => y.2 != .cell) = true) (hkind : scope.kind = .function)
    (hnames : (scope.names.all fun y => y.2 != .local || scope.names.lookup y.1 == some .local) = true) (hx : scope.names.lookup x = some .local) (hs : ∀ x, foldedSetIterable (Expr.Constant (.str (Str.ofString "nfcdu")) kk pi) env x = pure x)
    (turn : ∀ (r : Rnd) (u : Tok) (C : Addr) (oC : Obj) (m₂ : Str → Option Value) (led' : Led) (h' : Heap) (tk' : Nat) (E' : Value → Shared → Prop), m₂ x = some (.str r.str u) → LCg.NsObj oC m₂ → (C, oC) ∈ led' → Fr g L h' m → News g L h' led' → (∀ p ∈ led, p ∈ led') →
      wpAny (model PySem.Challenge.rw_aj5018_01.row.prog w) A (eval elt (compEnvC scope cl C env)) (fun y s₂ => TurnC g L m led' G D O y s₂) E' ⟨h', G, D, tk', O⟩)
    (q : ∀ Dd h' tk', Fr g L h' m → News g L h' ((Dd, LCg.lst (List.replicate 5 (.bool true))) :: led) → Q (.ref Dd) ⟨h', G, D, tk', O⟩) :
    wpAny (model PySem.Challenge.rw_aj5018_01.row.prog w) A (eval (.ListComp elt [⟨.Name x px, .Constant (.str (Str.ofString "nfcdu")) kk pi, [], 0⟩] scope pos) env) Q E ⟨h, G, D, tk, O⟩ := by
  have e5 : (Str.ofString "nfcdu").cps.size = 5 := by decide
  refine lc_str (tx := Str.ofString "nfcdu") hh F₀ N₀ (by decide +kernel) (by rw [e5, sizeLine_eq]; decide) hclos (fun y hy => ?_) hkind (fun y hy hl => ?_) hx hs (fun Q' q' => z_text (q' _ _)) ?_ ?_
  · have := List.all_eq_true.mp hcell y hy
    simpa using this
  · have := List.all_eq_true.mp hnames y hy
    rw [hl] at this
    simpa using this
  · intro c i u C oC m₂ led' h' tk' E' hc hm2 hns hC F N sub
    obtain ⟨r, hr⟩ := way_at hc
    rw [hr] at hm2
    exact turn r u C oC m₂ led' h' tk' E' hm2 hns hC F N sub
  · rw [e5]; exact q
theorem zq_way {scope : Scope} {cl : List (Str × Addr)} {C : Addr} {oC : Obj} {env : Env} {x : Str} {pos : Pos} {v : Value} {m₂ : Str → Option Value} {Q : Value → Shared → Prop} (N : News g L h led) (hC : (C, oC) ∈ led) (hn : LCg.NsObj oC m₂) (hm : m₂ x = some v) (q : Q v ⟨h, G, D, tk, O⟩)
    (hx : scope.names.lookup x = some .local) (hk : scope.kind = .function) (hb : (x == ("__debug__" : Str)) = false) : wpAny (model PySem.Challenge.rw_aj5018_01.row.prog w) A (eval (.Name x pos) (compEnvC scope cl C env)) Q E ⟨h, G, D, tk, O⟩ :=
  wpAny_Name (wpAny_loadName_local (s := ⟨h, G, D, tk, O⟩) (env := compEnvC scope cl C env) hk (lookup_relabel_local hx) (hn.ns (N _ hC).1) hm q) hb
theorem zq_cell {scope : Scope} {cl : List (Str × Addr)} {C c : Addr} {o : Obj} {env : Env} {x : Str} {pos : Pos} {v : Value} {Q : Value → Shared → Prop} (N : News g L h led) (hc : cl.lookup x = some c) (hm : (c, o) ∈ led) (hd : o.data = .cell (some v)) (q : Q v ⟨h, G, D, tk, O⟩)
    (hk : (compEnvC scope cl C env).scope.kind = .function) (hx : (compEnvC scope cl C env).kindOf x = some .cell) (hb : (x == ("__debug__" : Str)) = false) : wpAny (model PySem.Challenge.rw_aj5018_01.row.prog w) A (eval (.Name x pos) (compEnvC scope cl C env)) Q E ⟨h, G, D, tk, O⟩ :=
  lcf_cell (s := ⟨h, G, D, tk, O⟩) N hc hm hd q hk hx hb
theorem bools5 : LSm.BoolsAre (List.replicate 5 (Value.bool true)) [true, true, true, true, true] := .cons _ (.cons _ (.cons _ (.cons _ (.cons _ .nil))))
theorem z_all {T : Addr} {Q : Value → Shared → Prop} (hh : A.handled = none) (F : Fr g L h m) (N : News g L h led) (hT : (T, LCg.lst (List.replicate 5 (.bool true))) ∈ led) (q : ∀ h' tk', Fr g L h' m → News g L h' led → Q (.bool true) ⟨h', G, D, tk', O⟩) :
    wpAny (model PySem.Challenge.rw_aj5018_01.row.prog w) A (call (.builtin "all") [.ref T]) Q E ⟨h, G, D, tk, O⟩ :=
  LSm.all_bools (s := ⟨h, G, D, tk, O⟩) F N hh ⟨_, (N _ hT).1, rfl, _, rfl⟩ bools5 fun h' tk' F' N' => q h' tk' F' N'
end
/-- the law's own end -/
def LawEnd (g : Heap) (L : Addr) (G : Array GenState) (Dr : Drawn) (O : OsState) (fl : Flow) (s' : Shared) : Prop := fl = .ret (.bool true) ∧ ∃ h tk m, s' = ⟨h, G, Dr, tk, O⟩ ∧ Fr g L h m
theorem law_end {M : Model} {A : Around} {T : Sem Flow} {h : Heap} {G : Array GenState} {Dr : Drawn} {tk : Nat} {O : OsState} {g : Heap} {L : Addr} {m : Str → Option Value} {Q : Flow → Shared → Prop} {E : Value → Shared → Prop} (_F : Fr g L h m) (walk : wpAny M A T (LawEnd g L G Dr O) (fun _ _ => False) ⟨h, G, Dr, tk, O⟩)
    (good : ∀ h' tk' m', Fr g L h' m' → Q (.ret (.bool true)) ⟨h', G, Dr, tk', O⟩) : wpAny M A T Q E ⟨h, G, Dr, tk, O⟩ := by
  refine wpAny_mono walk (fun fl s' he => ?_) fun _ _ x => x.elim
  obtain ⟨rfl, h', tk', m', rfl, F'⟩ := he
  exact good h' tk' m' F'
end Mine
/-! part Txt3 -/
namespace Mine
/-! the law's texts, as from_str takes them -/
def sepc (b : Int) : Nat := if b = 16 then 64 else 101
def Cd (b : Int) (c : Nat) : Prop := (48 ≤ c ∧ c ≤ 57) ∨ (b = 16 ∧ 97 ≤ c ∧ c ≤ 102)
def Cc (b : Int) (c : Nat) : Prop := Cd b c ∨ c = 46 ∨ c = sepc b
abbrev B4 (b : Int) : Prop := b = 2 ∨ b = 8 ∨ b = 10 ∨ b = 16
theorem b4_nat {b : Int} (hb : B4 b) : b.toNat = 2 ∨ b.toNat = 8 ∨ b.toNat = 10 ∨ b.toNat = 16 := by rcases hb with rfl | rfl | rfl | rfl <;> decide
theorem b4_36 {b : Int} (hb : B4 b) : b.toNat ≤ 36 ∧ 2 ≤ b.toNat := by rcases hb with rfl | rfl | rfl | rfl <;> decide
theorem sepc_or {b : Int} : (b = 16 ∧ sepc b = 64) ∨ (b ≠ 16 ∧ sepc b = 101) := by
  unfold sepc
  by_cases h : b = 16
  · exact .inl ⟨h, if_pos h⟩
  · exact .inr ⟨h, if_neg h⟩
theorem dg_Cd {b : Int} (hb : B4 b) {d : Nat} (hd : d < b.toNat) : Cd b (dg d) := by
  unfold Cd dg
  split
  · left; omega
  · right
    rcases hb with rfl | rfl | rfl | rfl
    · have : d < 2 := hd
      omega
    · have : d < 8 := hd
      omega
    · have : d < 10 := hd
      omega
    · have : d < 16 := hd
      omega
theorem map_Cd {b : Int} (hb : B4 b) {ds : List Nat} (hd : ∀ d ∈ ds, d < b.toNat) : ∀ c ∈ ds.map dg, Cd b c := by
  intro c hc
  obtain ⟨d, h, rfl⟩ := List.mem_map.mp hc
  exact dg_Cd hb (hd d h)
theorem ahead_mem {b : Int} {c : Nat} (h : c ∈ ahead b) : c = 48 ∨ c = 98 ∨ c = 111 ∨ c = 120 := by
  unfold ahead at h
  split at h
  · simp at h; omega
  · split at h
    · simp at h; omega
    · split at h
      · simp at h; omega
      · simp at h
theorem sgT_mem {neg : Bool} {c : Nat} (h : c ∈ sgT neg) : c = 45 := by
  cases neg
  · simp [sgT] at h
  · simpa [sgT] using h
theorem take1_ne {k : Nat} {r : List Nat} (h : ∀ c ∈ r, c ≠ k) : (r.take 1 == [k]) = false := by
  cases r with
  | nil => rfl
  | cons a r =>
    have := h a (List.mem_cons_self ..)
    simpa using this
theorem bgn_pos {x k : Nat} {r : List Nat} (hx : x ≠ 45) (h : ∀ c ∈ r, c ≠ k) : bgn [48] [k] (x :: r) = false := by
  have h1 := take1_ne h
  unfold bgn
  have e1 : ((x :: r).take 2 == [48] ++ [k]) = false := by
    show ((x :: r.take 1) == 48 :: [k]) = false
    rw [List.cons_beq_cons, h1, Bool.and_false]
  have e2 : ((x :: r).take 3 == 45 :: ([48] ++ [k])) = false := by
    show ((x :: r.take 2) == 45 :: ([48] ++ [k])) = false
    rw [List.cons_beq_cons, beq_eq_false_iff_ne.mpr hx, Bool.false_and]
  rw [e1, e2]; rfl
theorem bgn_neg {x k : Nat} {r : List Nat} (h : ∀ c ∈ r, c ≠ k) : bgn [48] [k] (45 :: x :: r) = false := by
  have h1 := take1_ne h
  unfold bgn
  have e1 : ((45 :: x :: r).take 2 == [48] ++ [k]) = false := by
    show ((45 :: [x]) == 48 :: [k]) = false
    rw [List.cons_beq_cons]; rfl
  have e2 : ((45 :: x :: r).take 3 == 45 :: ([48] ++ [k])) = false := by
    show ((45 :: x :: r.take 1) == 45 :: 48 :: [k]) = false
    rw [List.cons_beq_cons, List.cons_beq_cons, h1, Bool.and_false, Bool.and_false]
  rw [e1, e2]; rfl
theorem lit_core {b : Int} (hb : B4 b) {neg : Bool} {d0 : Nat} {rest : List Nat} (hd0 : d0 < b.toNat) (hr : ∀ c ∈ rest, Cc b c) : Lit b.toNat (sgT neg ++ (ahead b.toNat ++ dg d0 :: rest)) := by
  rcases hb with rfl | rfl | rfl | rfl
  · cases neg <;> exact ⟨rfl, rfl, rfl⟩
  · cases neg <;> exact ⟨rfl, rfl, rfl⟩
  · have hd : d0 < 10 := hd0
    have hx : dg d0 ≠ 45 := by have := dg_ge d0; omega
    have hc : ∀ k, (k = 98 ∨ k = 66 ∨ k = 120 ∨ k = 88 ∨ k = 111) → ∀ c ∈ rest, c ≠ k := fun k hk c hcm => by
      have := hr c hcm
      unfold Cc Cd at this
      have hs : sepc 10 = 101 := rfl
      rw [hs] at this
      omega
    cases neg
    · show Lit 10 (dg d0 :: rest)
      unfold Lit
      rw [bgn_pos hx (hc 98 (by simp)), bgn_pos hx (hc 66 (by simp)), bgn_pos hx (hc 120 (by simp)), bgn_pos hx (hc 88 (by simp)), bgn_pos hx (hc 111 (by simp))]
      exact ⟨rfl, rfl, rfl⟩
    · show Lit 10 (45 :: dg d0 :: rest)
      unfold Lit
      rw [bgn_neg (hc 98 (by simp)), bgn_neg (hc 66 (by simp)), bgn_neg (hc 120 (by simp)), bgn_neg (hc 88 (by simp)), bgn_neg (hc 111 (by simp))]
      exact ⟨rfl, rfl, rfl⟩
  · cases neg <;> exact ⟨rfl, rfl, rfl⟩
theorem sgd_core {b : Int} (hb : B4 b) {neg : Bool} {d0 : Nat} {rest : List Nat} (hd0 : d0 < b.toNat) : Sgd (sgT neg ++ (ahead b.toNat ++ dg d0 :: rest)) := by
  have key : Lead (ahead b.toNat ++ dg d0 :: rest) := by
    rcases hb with rfl | rfl | rfl | rfl
    · exact ⟨48, _, rfl, by decide, by decide⟩
    · exact ⟨48, _, rfl, by decide, by decide⟩
    · have hd : d0 < 10 := hd0
      exact ⟨dg d0, rest, rfl, dg_ge d0, by unfold dg; rw [if_pos hd]; omega⟩
    · exact ⟨48, _, rfl, by decide, by decide⟩
  cases neg
  · exact .inl key
  · exact .inr ⟨_, rfl, key⟩
/-- all that is asked of the signs -/
structure Sn (b : Int) (l : List Nat) : Prop where
  ok : Ok l
  n47 : 47 ∉ l
  n112 : 112 ∉ l
  n108 : 108 ∉ l
  n95 : 95 ∉ l
  ne : l ≠ []
  asc : ∀ c ∈ l, c ≠ 0 ∧ c < 128
  sg : Sgd l
  li : Lit b.toNat l
theorem sn_core {b : Int} (hb : B4 b) {neg : Bool} {d0 : Nat} {rest : List Nat} (hd0 : d0 < b.toNat) (hr : ∀ c ∈ rest, Cc b c) : Sn b (sgT neg ++ (ahead b.toNat ++ dg d0 :: rest)) := by
  have all : ∀ c ∈ sgT neg ++ (ahead b.toNat ++ dg d0 :: rest), c = 45 ∨ c = 46 ∨ c = 64 ∨ (48 ≤ c ∧ c ≤ 57) ∨ (97 ≤ c ∧ c ≤ 102) ∨ c = 111 ∨ c = 120 := by
    intro c hc
    rcases List.mem_append.mp hc with h | h
    · left; exact sgT_mem h
    · rcases List.mem_append.mp h with h | h
      · have := ahead_mem h; omega
      · have h' : Cc b c := by
          rcases List.mem_cons.mp h with rfl | h
          · exact .inl (dg_Cd hb hd0)
          · exact hr c h
        unfold Cc Cd at h'
        have := @sepc_or b
        omega
  have no : ∀ k, (k = 47 ∨ k = 112 ∨ k = 108 ∨ k = 95) → k ∉ sgT neg ++ (ahead b.toNat ++ dg d0 :: rest) := fun k hk hm => by
    have := all k hm; omega
  refine ⟨fun c hc => ?_, no _ (by simp), no _ (by simp), no _ (by simp), no _ (by simp), by simp, fun c hc => ?_, sgd_core hb hd0, lit_core hb hd0 hr⟩
  · have := all c hc; omega
  · have := all c hc; omega
theorem isC1 {w : World} {b : Int} (hb : B4 b) {l : List Nat} {n : Int} (s : Sn b l) (hz : l.length ≤ 300) (hsep : sepc b ∉ l) (hpt : 46 ∉ l) (hn : (int_private% "readNumeral") 0 b.toNat l = (int_private% "Numeral.value") n) : IsC w l b n 0 := by
  intro t1 t2
  rcases hb with rfl | rfl | rfl | rfl
  · exact c_sme1_2 w l n t1 t2 s.ok s.n108 s.n95 s.n112 s.ne hz hsep hpt s.asc hn
  · exact c_sme1_8 w l n t1 t2 s.ok s.n108 s.n95 s.n112 s.ne hz hsep hpt s.asc hn
  · exact c_sme1_10 w l n t1 t2 s.ok s.n108 s.n95 s.n112 s.ne hz hsep hpt s.asc hn
  · exact c_sme1_16 w l n t1 t2 s.ok s.n108 s.n95 s.n112 s.ne hz hsep hpt s.asc hn
theorem isC2 {w : World} {b : Int} (hb : B4 b) {l a f : List Nat} {n : Int} (s : Sn b l) (hz : l.length ≤ 300) (hl : l = a ++ 46 :: f) (hsep : sepc b ∉ l) (ha1 : a ≠ []) (hpa : 46 ∉ a) (hpf : 46 ∉ f) (ha : ∀ c ∈ a ++ strR 48 f, c ≠ 0 ∧ c < 128) (hn : (int_private% "readNumeral") 0 b.toNat (a ++ strR 48 f) = (int_private% "Numeral.value") n) : IsC w l b n (0 - (strR 48 f).length) := by
  intro t1 t2
  rcases hb with rfl | rfl | rfl | rfl
  · exact c_sme2_2 w l a f n t1 t2 s.ok s.n108 s.n95 s.n112 s.ne hz hl hsep ha1 hpa hpf ha hn
  · exact c_sme2_8 w l a f n t1 t2 s.ok s.n108 s.n95 s.n112 s.ne hz hl hsep ha1 hpa hpf ha hn
  · exact c_sme2_10 w l a f n t1 t2 s.ok s.n108 s.n95 s.n112 s.ne hz hl hsep ha1 hpa hpf ha hn
  · exact c_sme2_16 w l a f n t1 t2 s.ok s.n108 s.n95 s.n112 s.ne hz hl hsep ha1 hpa hpf ha hn
theorem isC3 {w : World} {b : Int} (hb : B4 b) {l l2 a f : List Nat} {n k : Int} (s : Sn b l) (hz : l.length ≤ 300) (hl2 : l = l2 ++ sepc b :: numS 10 k.toNat) (hl : l2 = a ++ 46 :: f) (hsep : sepc b ∉ l2) (hsep2 : sepc b ∉ numS 10 k.toNat) (hk0 : 0 ≤ k) (hk1 : k ≤ 100000) (ha1 : a ≠ []) (hpa : 46 ∉ a) (hpf : 46 ∉ f) (ha : ∀ c ∈ a ++ strR 48 f, c ≠ 0 ∧ c < 128) (hn : (int_private% "readNumeral") 0 b.toNat (a ++ strR 48 f) = (int_private% "Numeral.value") n) : IsC w l b n (k - (strR 48 f).length) := by
  intro t1 t2
  rcases hb with rfl | rfl | rfl | rfl
  · exact c_sme3_2 w l l2 a f n k t1 t2 s.ok s.n108 s.n95 s.n112 s.ne hz hl2 hl hsep hsep2 hk0 hk1 ha1 hpa hpf ha hn
  · exact c_sme3_8 w l l2 a f n k t1 t2 s.ok s.n108 s.n95 s.n112 s.ne hz hl2 hl hsep hsep2 hk0 hk1 ha1 hpa hpf ha hn
  · exact c_sme3_10 w l l2 a f n k t1 t2 s.ok s.n108 s.n95 s.n112 s.ne hz hl2 hl hsep hsep2 hk0 hk1 ha1 hpa hpf ha hn
  · exact c_sme3_16 w l l2 a f n k t1 t2 s.ok s.n108 s.n95 s.n112 s.ne hz hl2 hl hsep hsep2 hk0 hk1 ha1 hpa hpf ha hn
/-! figures and the noughts at their end -/
def strZ (ds : List Nat) : List Nat := (ds.reverse.dropWhile (· == 0)).reverse
theorem dg_48 (d : Nat) : (dg d == 48) = (d == 0) := by
  unfold dg
  split
  · by_cases h : d = 0
    · subst h; rfl
    · rw [beq_eq_false_iff_ne.mpr (by omega), beq_eq_false_iff_ne.mpr h]
  · rw [beq_eq_false_iff_ne.mpr (by omega), beq_eq_false_iff_ne.mpr (by omega)]
theorem dropWhile_dg : ∀ ds : List Nat, (ds.map dg).dropWhile (· == 48) = (ds.dropWhile (· == 0)).map dg
  | [] => rfl
  | d :: r => by
    have h := dg_48 d
    rw [List.map_cons, List.dropWhile_cons, List.dropWhile_cons]
    simp only [h]
    split
    · exact dropWhile_dg r
    · rfl
theorem strR_dg (ds : List Nat) : strR 48 (ds.map dg) = (strZ ds).map dg := by
  unfold strR strZ
  rw [← List.map_reverse, dropWhile_dg, List.map_reverse]
theorem dropZ : ∀ l : List Nat, ∃ j, l = List.replicate j 0 ++ l.dropWhile (· == 0)
  | [] => ⟨0, rfl⟩
  | d :: r => by
    rw [List.dropWhile_cons]
    split
    · rename_i h
      obtain ⟨j, e⟩ := dropZ r
      refine ⟨j + 1, ?_⟩
      have hd : d = 0 := by simpa using h
      rw [List.replicate_succ, List.cons_append, ← e, hd]
    · exact ⟨0, rfl⟩
theorem strZ_spec (ds : List Nat) : ∃ j, ds = strZ ds ++ List.replicate j 0 := by
  obtain ⟨j, e⟩ := dropZ ds.reverse
  refine ⟨j, ?_⟩
  have := congrArg List.reverse e
  rw [List.reverse_reverse, List.reverse_append, List.reverse_replicate] at this
  exact this
theorem worth_zeros (b : Nat) (l : List Nat) : ∀ j, worth b (l ++ List.replicate j 0) = worth b l * b ^ j
  | 0 => by simp
  | j + 1 => by
    rw [List.replicate_succ', ← List.append_assoc, worth_snoc, worth_zeros b l j, Nat.pow_succ]
    simp [Nat.mul_assoc]
theorem worth_lead (b : Nat) : ∀ (j : Nat) (l : List Nat), worth b (List.replicate j 0 ++ l) = worth b l
  | 0, l => rfl
  | j + 1, l => by
    rw [List.replicate_succ, List.cons_append]
    have := worth_lead b j l
    unfold worth at *
    rw [List.foldl_cons]
    simpa using this
theorem strZ_sub {ds : List Nat} {d : Nat} (h : d ∈ strZ ds) : d ∈ ds := by
  obtain ⟨j, e⟩ := strZ_spec ds
  rw [e]; exact List.mem_append_left _ h
theorem strZ_len (ds : List Nat) : (strZ ds).length ≤ ds.length := by
  obtain ⟨j, e⟩ := strZ_spec ds
  have := congrArg List.length e
  rw [List.length_append] at this
  omega
theorem ds_split {ds : List Nat} (h : ds ≠ []) : ∃ d0 r, ds = d0 :: r := by
  cases ds with
  | nil => exact absurd rfl h
  | cons a r => exact ⟨a, r, rfl⟩
theorem read_four {b : Int} (hb : B4 b) {neg : Bool} {ds : List Nat} (hd : ∀ d ∈ ds, d < b.toNat) (hne : ds ≠ []) (hl : ds.length ≤ 6000) : (int_private% "readNumeral") 0 b.toNat (sgT neg ++ (ahead b.toNat ++ ds.map dg)) = (int_private% "Numeral.value") (sgI neg (worth b.toNat ds)) := by
  refine read_body (b4_36 hb).1 neg hd hne hl ?_ (based_four (b4_nat hb) hd)
  obtain ⟨d0, r, rfl⟩ := ds_split hne
  rcases hb with rfl | rfl | rfl | rfl
  · exact ⟨48, _, rfl, by decide⟩
  · exact ⟨48, _, rfl, by decide⟩
  · exact ⟨dg d0, r.map dg, rfl, dg_ge d0⟩
  · exact ⟨48, _, rfl, by decide⟩
theorem ahead_len (b : Int) : (ahead b).length ≤ 2 := by
  unfold ahead
  repeat' split
  all_goals decide
theorem sgT_len (neg : Bool) : (sgT neg).length ≤ 1 := by cases neg <;> decide
theorem Cd.c {b : Int} {c : Nat} (h : Cd b c) : Cc b c := .inl h
theorem sep_no {b : Int} (_hb : B4 b) {neg : Bool} {m : List Nat} (hm : ∀ c ∈ m, Cd b c ∨ c = 46) : sepc b ∉ sgT neg ++ (ahead b.toNat ++ m) := by
  intro h
  have hs := @sepc_or b
  rcases List.mem_append.mp h with h | h
  · have := sgT_mem h; omega
  · rcases List.mem_append.mp h with h | h
    · have := ahead_mem h; omega
    · have := hm _ h
      unfold Cd at this
      omega
theorem pt_no {b : Int} (hb : B4 b) {neg : Bool} {ds : List Nat} (hd : ∀ d ∈ ds, d < b.toNat) : 46 ∉ sgT neg ++ (ahead b.toNat ++ ds.map dg) := by
  intro h
  rcases List.mem_append.mp h with h | h
  · have := sgT_mem h; omega
  · rcases List.mem_append.mp h with h | h
    · have := ahead_mem h; omega
    · have := map_Cd hb hd _ h
      unfold Cd at this
      omega
/-- a whole number's text -/
theorem fs_int {w : World} {b : Int} (hb : B4 b) (neg : Bool) {ds : List Nat} (hd : ∀ d ∈ ds, d < b.toNat) (hne : ds ≠ []) (hlen : ds.length ≤ 250) (hm : Builtin.Int.intBits (sgI neg (worth b.toNat ds)) ≤ 2000) : FS w b (sgT neg ++ (ahead b.toNat ++ ds.map dg)) (sgI neg (worth b.toNat ds)) 0 := by
  have hz : (sgT neg ++ (ahead b.toNat ++ ds.map dg)).length ≤ 300 := by
    have h1 := ahead_len b.toNat
    have h2 := sgT_len neg
    simp only [List.length_append, List.length_map]
    omega
  have hsep := sep_no hb (neg := neg) (m := ds.map dg) fun c hc => .inl (map_Cd hb hd c hc)
  have hpt := pt_no hb (neg := neg) hd
  have hread := read_four hb (neg := neg) hd hne (by omega)
  have s : Sn b (sgT neg ++ (ahead b.toNat ++ ds.map dg)) := by
    obtain ⟨d0, r, rfl⟩ := ds_split hne
    exact sn_core hb (hd d0 (by simp)) fun c hc => (map_Cd hb (fun d h => hd d (List.mem_cons_of_mem _ h)) c hc).c
  exact ⟨hb, s.ok, s.n47, s.n112, s.sg, s.li, hz, hm, by decide, by decide, isC1 hb s hz hsep hpt hread⟩
theorem asc_a {b : Int} (hb : B4 b) {neg : Bool} {ds : List Nat} (hd : ∀ d ∈ ds, d < b.toNat) : ∀ c ∈ sgT neg ++ (ahead b.toNat ++ ds.map dg), c ≠ 0 ∧ c < 128 := by
  intro c h
  rcases List.mem_append.mp h with h | h
  · have := sgT_mem h; omega
  · rcases List.mem_append.mp h with h | h
    · have := ahead_mem h; omega
    · have := map_Cd hb hd _ h
      unfold Cd at this
      omega
theorem join_dg (neg : Bool) (b : Int) (ds1 ds2 : List Nat) : (sgT neg ++ (ahead b.toNat ++ ds1.map dg)) ++ strR 48 (ds2.map dg) = sgT neg ++ (ahead b.toNat ++ (ds1 ++ strZ ds2).map dg) := by
  rw [strR_dg, List.map_append, List.append_assoc, List.append_assoc]
/-- a text with a point -/
theorem fs_pt {w : World} {b : Int} (hb : B4 b) (neg : Bool) {ds1 ds2 : List Nat} (hd1 : ∀ d ∈ ds1, d < b.toNat) (hd2 : ∀ d ∈ ds2, d < b.toNat) (hne : ds1 ≠ []) (hlen : ds1.length + ds2.length ≤ 250) (hm : Builtin.Int.intBits (sgI neg (worth b.toNat (ds1 ++ strZ ds2))) ≤ 2000) :
    FS w b ((sgT neg ++ (ahead b.toNat ++ ds1.map dg)) ++ 46 :: ds2.map dg) (sgI neg (worth b.toNat (ds1 ++ strZ ds2))) (0 - (strZ ds2).length) := by
  have hz : ((sgT neg ++ (ahead b.toNat ++ ds1.map dg)) ++ 46 :: ds2.map dg).length ≤ 300 := by
    have h1 := ahead_len b.toNat
    have h2 := sgT_len neg
    simp only [List.length_append, List.length_map, List.length_cons]
    omega
  have hl2 := strZ_len ds2
  have hdz : ∀ d ∈ ds1 ++ strZ ds2, d < b.toNat := fun d h => (List.mem_append.mp h).elim (hd1 d) fun h => hd2 d (strZ_sub h)
  have hmem : ∀ c ∈ ds1.map dg ++ 46 :: ds2.map dg, Cd b c ∨ c = 46 := fun c hc => by
    rcases List.mem_append.mp hc with h | h
    · exact .inl (map_Cd hb hd1 c h)
    · rcases List.mem_cons.mp h with h | h
      · exact .inr h
      · exact .inl (map_Cd hb hd2 c h)
  have e1 : (sgT neg ++ (ahead b.toNat ++ ds1.map dg)) ++ 46 :: ds2.map dg = sgT neg ++ (ahead b.toNat ++ (ds1.map dg ++ 46 :: ds2.map dg)) := by rw [List.append_assoc, List.append_assoc]
  have hsep : sepc b ∉ (sgT neg ++ (ahead b.toNat ++ ds1.map dg)) ++ 46 :: ds2.map dg := by rw [e1]; exact sep_no hb hmem
  have s : Sn b ((sgT neg ++ (ahead b.toNat ++ ds1.map dg)) ++ 46 :: ds2.map dg) := by
    rw [e1]
    obtain ⟨d0, r, rfl⟩ := ds_split hne
    exact sn_core hb (hd1 d0 (by simp)) fun c hc => by
      rcases hmem c (List.mem_cons_of_mem _ hc) with h | h
      · exact .inl h
      · exact .inr (.inl h)
  have hread := read_four hb (neg := neg) hdz (by simp [hne]) (by rw [List.length_append]; omega)
  have hasc := asc_a hb (neg := neg) hdz
  rw [← join_dg] at hread hasc
  have hC := isC2 (w := w) hb s hz rfl hsep (by obtain ⟨d0, r, rfl⟩ := ds_split hne; simp) (pt_no hb hd1) (fun h => by have := map_Cd hb hd2 _ h; unfold Cd at this; omega) hasc hread
  rw [strR_dg, List.length_map] at hC
  exact ⟨hb, s.ok, s.n47, s.n112, s.sg, s.li, hz, hm, by omega, by omega, hC⟩
theorem num10_mem {k c : Nat} (h : c ∈ numS 10 k) : 48 ≤ c ∧ c ≤ 57 := by
  rw [numS_eq] at h
  obtain ⟨d, hd, rfl⟩ := List.mem_map.mp h
  have := numD_lt (b := 10) (by decide) k d hd
  unfold dg
  rw [if_pos this]
  omega
/-- a text with a point and an exponent -/
theorem fs_exp {w : World} {b k : Int} (hb : B4 b) (neg : Bool) {ds1 ds2 : List Nat} (hd1 : ∀ d ∈ ds1, d < b.toNat) (hd2 : ∀ d ∈ ds2, d < b.toNat) (hne : ds1 ≠ []) (hlen : ds1.length + ds2.length ≤ 250) (hm : Builtin.Int.intBits (sgI neg (worth b.toNat (ds1 ++ strZ ds2))) ≤ 2000) (hk0 : 0 ≤ k) (hk1 : k ≤ 400) (hk2 : (numS 10 k.toNat).length ≤ 20) :
    FS w b (((sgT neg ++ (ahead b.toNat ++ ds1.map dg)) ++ 46 :: ds2.map dg) ++ sepc b :: numS 10 k.toNat) (sgI neg (worth b.toNat (ds1 ++ strZ ds2))) (k - (strZ ds2).length) := by
  have hz : (((sgT neg ++ (ahead b.toNat ++ ds1.map dg)) ++ 46 :: ds2.map dg) ++ sepc b :: numS 10 k.toNat).length ≤ 300 := by
    have h1 := ahead_len b.toNat
    have h2 := sgT_len neg
    simp only [List.length_append, List.length_map, List.length_cons]
    omega
  have hl2 := strZ_len ds2
  have hdz : ∀ d ∈ ds1 ++ strZ ds2, d < b.toNat := fun d h => (List.mem_append.mp h).elim (hd1 d) fun h => hd2 d (strZ_sub h)
  have hmem : ∀ c ∈ ds1.map dg ++ 46 :: ds2.map dg, Cd b c ∨ c = 46 := fun c hc => by
    rcases List.mem_append.mp hc with h | h
    · exact .inl (map_Cd hb hd1 c h)
    · rcases List.mem_cons.mp h with h | h
      · exact .inr h
      · exact .inl (map_Cd hb hd2 c h)
  have e1 : (sgT neg ++ (ahead b.toNat ++ ds1.map dg)) ++ 46 :: ds2.map dg = sgT neg ++ (ahead b.toNat ++ (ds1.map dg ++ 46 :: ds2.map dg)) := by rw [List.append_assoc, List.append_assoc]
  have hsep : sepc b ∉ (sgT neg ++ (ahead b.toNat ++ ds1.map dg)) ++ 46 :: ds2.map dg := by rw [e1]; exact sep_no hb hmem
  have hsep2 : sepc b ∉ numS 10 k.toNat := fun h => by have := num10_mem h; have := @sepc_or b; omega
  have s : Sn b (((sgT neg ++ (ahead b.toNat ++ ds1.map dg)) ++ 46 :: ds2.map dg) ++ sepc b :: numS 10 k.toNat) := by
    rw [e1, List.append_assoc, List.append_assoc]
    obtain ⟨d0, r, rfl⟩ := ds_split hne
    exact sn_core hb (hd1 d0 (by simp)) (rest := r.map dg ++ 46 :: ds2.map dg ++ sepc b :: numS 10 k.toNat) fun c hc => by
      rcases List.mem_append.mp hc with h | h
      · rcases hmem c (List.mem_cons_of_mem _ h) with h | h
        · exact .inl h
        · exact .inr (.inl h)
      · rcases List.mem_cons.mp h with h | h
        · exact .inr (.inr h)
        · exact .inl (.inl (num10_mem h))
  have hread := read_four hb (neg := neg) hdz (by simp [hne]) (by rw [List.length_append]; omega)
  have hasc := asc_a hb (neg := neg) hdz
  rw [← join_dg] at hread hasc
  have hC := isC3 (w := w) hb s hz rfl rfl hsep hsep2 hk0 (by omega) (by obtain ⟨d0, r, rfl⟩ := ds_split hne; simp) (pt_no hb hd1) (fun h => by have := map_Cd hb hd2 _ h; unfold Cd at this; omega) hasc hread
  rw [strR_dg, List.length_map] at hC
  exact ⟨hb, s.ok, s.n47, s.n112, s.sg, s.li, hz, hm, by omega, by omega, hC⟩
end Mine
/-! part LawR -/
namespace Mine
/-! the plain law, first part: texts and numbers of x -/
theorem xok_mok {x : Mpf} (hx : XOk x) : MOk x ∧ 0 ≤ x.e + 60 := by
  obtain ⟨s, m, e, b⟩ := x
  obtain ⟨s0, h⟩ := hx
  dsimp only at *
  subst s0
  rcases h with ⟨h1, h2, h3⟩ | ⟨h1, h2, h3, h4, h5, h6⟩
  · subst h1; subst h2; subst h3
    exact ⟨⟨rfl, by decide, .inr rfl, fun _ => ⟨rfl, rfl⟩, rfl, by decide, by decide, by decide⟩, by decide⟩
  · have hb := bits_of (man := m) (by omega)
    refine ⟨⟨rfl, by show 0 ≤ m; omega, .inl h2, fun h => by dsimp only at h; omega, ?_, ?_, ?_, ?_⟩, by omega⟩
    · show b = ((blen m.toNat : Nat) : Int); omega
    · show Builtin.Int.intBits m ≤ 1000; omega
    · show -2000 ≤ e; omega
    · show e ≤ 2000; omega
theorem read_num {b n : Int} (hb2 : 2 ≤ b) (hb36 : b ≤ 36) (h0 : 0 ≤ n) (hbs : Builtin.Int.intBits n ≤ 120) : (numS b.toNat n.toNat).length ≤ 640 ∧ (∀ c ∈ numS b.toNat n.toNat, c ≠ 0 ∧ c < 128) ∧ (int_private% "readNumeral") 0 b.toNat (numS b.toNat n.toNat) = (int_private% "Numeral.value") n := by
  have hB : 2 ≤ b.toNat := by omega
  have hlen := numS_len hB n.toNat
  have hbl := bits_of h0
  have hmem : ∀ c ∈ numS b.toNat n.toNat, 48 ≤ c ∧ c < 128 := by
    intro c hc
    rw [numS_eq] at hc
    obtain ⟨d, hd, rfl⟩ := List.mem_map.mp hc
    have := numD_lt hB n.toNat d hd
    unfold dg
    split <;> omega
  refine ⟨by omega, fun c hc => by have := hmem c hc; omega, ?_⟩
  have hDl : (numD b.toNat n.toNat).length ≤ 6000 := by
    have : (numS b.toNat n.toNat).length = (numD b.toNat n.toNat).length := by rw [numS_eq, List.length_map]
    omega
  have hr := read_body (b := b.toNat) (by omega) false (body := numS b.toNat n.toNat) (numD_lt hB n.toNat) (numD_ne hB) hDl ?_ (based_num hB n.toNat)
  · rw [numD_worth hB] at hr
    have e : sgI false n.toNat = n := by show ((n.toNat : Nat) : Int) = n; omega
    rw [e] at hr
    exact hr
  · have hne : numS b.toNat n.toNat ≠ [] := by
      rw [numS_eq]
      have := numD_ne (n := n.toNat) hB
      simpa using this
    obtain ⟨c, r, e⟩ := ds_split hne
    exact ⟨c, r, e, (hmem c (by rw [e]; exact List.mem_cons_self ..)).1⟩
/-- the number in units of 2 ^ -60 -/
inductive XU : Mpf → Nat → Prop where
  | zero : XU ⟨0, 0, 0, 0⟩ 0
  | num (m : Nat) (e : Int) : m % 2 = 1 → blen m ≤ 60 → 0 ≤ e + 60 → e + (blen m : Int) ≤ 0 → XU ⟨0, m, e, blen m⟩ (m * 2 ^ (e + 60).toNat)
theorem xok_xu {x : Mpf} (hx : XOk x) : ∃ U, XU x U := by
  obtain ⟨s, m, e, b⟩ := x
  obtain ⟨s0, h⟩ := hx
  dsimp only at *
  subst s0
  rcases h with ⟨h1, h2, h3⟩ | ⟨h1, h2, h3, h4, h5, h6⟩
  · subst h1; subst h2; subst h3
    exact ⟨0, .zero⟩
  · obtain ⟨k, rfl⟩ : ∃ k : Nat, m = k := ⟨m.toNat, by omega⟩
    rw [intBits_nat] at h3
    subst h3
    exact ⟨_, .num k e (by omega) (by omega) (by omega) (by omega)⟩
theorem XU.lt {x : Mpf} {U : Nat} (h : XU x U) : U < 2 ^ 60 := by
  cases h with
  | zero => decide
  | num m e h1 h2 h3 h4 =>
    calc m * 2 ^ (e + 60).toNat < 2 ^ blen m * 2 ^ (e + 60).toNat := Nat.mul_lt_mul_of_pos_right (lt_two_blen m) (Nat.two_pow_pos _)
      _ = 2 ^ (blen m + (e + 60).toNat) := by rw [Nat.pow_add]
      _ ≤ 2 ^ 60 := Nat.pow_le_pow_right (by decide) (by omega)
theorem XU.fix {x : Mpf} {U : Nat} (h : XU x U) (t : Nat) : x.m * 2 ^ (x.e + ((60 + t : Nat) : Int)).toNat = ((U * 2 ^ t : Nat) : Int) := by
  cases h with
  | zero => simp
  | num m e h1 h2 h3 h4 =>
    show (m : Int) * 2 ^ (e + ((60 + t : Nat) : Int)).toNat = _
    rw [natCast_shift, Nat.mul_assoc, ← Nat.pow_add, show (e + ((60 + t : Nat) : Int)).toNat = (e + 60).toNat + t by omega]
theorem pow_cast (b : Nat) (k : Nat) : ((b : Int) ^ k) = ((b ^ k : Nat) : Int) := by rw [Int.natCast_pow]
theorem two_cast (k : Nat) : ((2 : Int) ^ k) = ((2 ^ k : Nat) : Int) := by rw [Int.natCast_pow]; rfl
/-- the floor that the law calls figures -/
def flr (U b P : Nat) : Nat := U * b ^ P / 2 ^ 60
theorem XU.flr {x : Mpf} {U : Nat} (h : XU x U) (t b P : Nat) : ((x.m * 2 ^ (x.e + ((60 + t : Nat) : Int)).toNat) * (b : Int) ^ P).fdiv (2 ^ (60 + t)) = (flr U b P : Int) := by
  rw [h.fix, pow_cast, ← Int.natCast_mul, fdiv_nat]
  unfold Mine.flr
  rw [Nat.mul_right_comm, Nat.pow_add, Nat.mul_div_mul_right _ _ (Nat.two_pow_pos t)]
theorem flr_lt {U b P : Nat} (hU : U < 2 ^ 60) (hb : 0 < b) : flr U b P < b ^ P := by
  unfold flr
  rw [Nat.div_lt_iff_lt_mul (Nat.two_pow_pos _), Nat.mul_comm]
  exact Nat.mul_lt_mul_of_pos_left hU (Nat.pow_pos hb)
theorem flr_le {U b P : Nat} : flr U b P * 2 ^ 60 ≤ U * b ^ P := Nat.div_mul_le_self _ _
theorem flr_gt {U b P : Nat} : U * b ^ P < (flr U b P + 1) * 2 ^ 60 := by
  unfold flr
  have := Nat.div_add_mod (U * b ^ P) (2 ^ 60)
  have := Nat.mod_lt (U * b ^ P) (Nat.two_pow_pos 60)
  rw [Nat.add_mul, Nat.one_mul, Nat.mul_comm]
  omega
theorem flr_exact {U b : Nat} (hb : b % 2 = 0) : flr U b 60 * 2 ^ 60 = U * b ^ 60 := by
  unfold flr
  refine Nat.div_mul_cancel ?_
  obtain ⟨c, rfl⟩ : ∃ c, b = c * 2 := ⟨b / 2, by omega⟩
  rw [Nat.mul_pow]
  exact ⟨U * c ^ 60, by ac_rfl⟩
theorem blen_lt_pow {n b P : Nat} (hb : blen b ≤ 6) (hP : P ≤ 60) (h : n ≤ b ^ P) : blen n ≤ 361 := by
  have h1 := blen_mono h
  have h2 := blen_pow_le b P
  have : blen b * P ≤ 6 * 60 := Nat.mul_le_mul hb hP
  omega
/-! the text of figures behind a point -/
theorem numD_len {b n P : Nat} (hb : 2 ≤ b) (hn : n < b ^ P) (hP : 1 ≤ P) : (numD b n).length ≤ P := by
  unfold numD
  split
  · simpa using hP
  · rw [List.length_reverse]; exact figs_len hb P n hn
theorem b4_len {b : Int} (hb : B4 b) : blen b.toNat ≤ 6 := by rcases hb with rfl | rfl | rfl | rfl <;> decide +kernel
theorem fs_ptx (w : World) {b n P : Int} (hb : B4 b) (h0 : 0 ≤ n) (hP1 : 1 ≤ P) (hP : P ≤ 60) (hn : n.toNat < b.toNat ^ P.toNat) :
    ∃ man k : Int, FS w b (ptx b n P) man k ∧ 0 ≤ man ∧ k ≤ 0 ∧ -60 ≤ k ∧ blen man.natAbs ≤ 400 ∧ man.natAbs * b.toNat ^ P.toNat = n.toNat * b.toNat ^ (-k).toNat := by
  have hB := (b4_36 hb).2
  have hlen := numD_len hB hn (by omega)
  obtain ⟨ds2, hds2⟩ : ∃ ds2, ds2 = List.replicate (P.toNat - (numD b.toNat n.toNat).length) 0 ++ numD b.toNat n.toNat := ⟨_, rfl⟩
  have hl2 : ds2.length = P.toNat := by
    rw [hds2, List.length_append, List.length_replicate]; omega
  have hd2 : ∀ d ∈ ds2, d < b.toNat := by
    intro d hd
    rw [hds2] at hd
    rcases List.mem_append.mp hd with h | h
    · have := (List.mem_replicate.mp h).2; omega
    · exact numD_lt hB n.toNat d h
  have hw2 : worth b.toNat ds2 = n.toNat := by rw [hds2, worth_lead, numD_worth hB]
  have hd1 : ∀ d ∈ [0], d < b.toNat := by intro d hd; simp at hd; omega
  obtain ⟨j, hj⟩ := strZ_spec ds2
  have hjl : (strZ ds2).length + j = P.toNat := by
    have := congrArg List.length hj
    rw [List.length_append, List.length_replicate] at this
    omega
  have hw0 : worth b.toNat ([0] ++ strZ ds2) = worth b.toNat (strZ ds2) := worth_lead b.toNat 1 (strZ ds2)
  have hw : worth b.toNat (strZ ds2) * b.toNat ^ j = n.toNat := by
    rw [← hw2]
    conv => rhs; rw [hj]
    rw [worth_zeros]
  have hpos : 0 < b.toNat ^ j := Nat.pow_pos (by omega)
  have hle : worth b.toNat (strZ ds2) ≤ n.toNat := by
    rw [← hw]; exact Nat.le_mul_of_pos_right _ hpos
  have hbl := blen_lt_pow (n := worth b.toNat (strZ ds2)) (b4_len hb) (P := P.toNat) (by omega) (by omega)
  have hsg : sgI false (worth b.toNat ([0] ++ strZ ds2)) = ((worth b.toNat (strZ ds2) : Nat) : Int) := by rw [hw0]; rfl
  have fs := fs_pt (w := w) hb false hd1 hd2 (by simp) (by rw [hl2]; simp; omega) (by rw [hsg, intBits_nat]; omega)
  rw [hsg] at fs
  have et : (sgT false ++ (ahead b.toNat ++ [0].map dg)) ++ 46 :: ds2.map dg = ptx b n P := by
    unfold ptx
    rw [hds2, numS_eq, List.length_map, List.map_append, List.map_replicate]
    show ([] ++ (ahead b.toNat ++ [48])) ++ 46 :: _ = _
    simp [dg]
  rw [et] at fs
  refine ⟨_, _, fs, by omega, by omega, by omega, ?_, ?_⟩
  · rw [Int.natAbs_natCast]; omega
  · rw [Int.natAbs_natCast, ← hw, ← hjl, Nat.pow_add, show (-(0 - ((strZ ds2).length : Int))).toNat = (strZ ds2).length by omega]
    ac_rfl
theorem fg60_flr {b : Int} {x : Mpf} {U : Nat} (hb : 0 ≤ b) (h : XU x U) : ((x.m * 2 ^ (x.e + 60).toNat) * b ^ Int.toNat 60).fdiv (2 ^ Int.toNat 60) = (flr U b.toNat 60 : Int) := by
  have := h.flr 0 b.toNat 60
  rw [show ((b.toNat : Nat) : Int) = b by omega] at this
  exact this
theorem b4_even {b : Int} (hb : B4 b) : b.toNat % 2 = 0 ∧ 0 ≤ b ∧ 0 < b.toNat := by rcases hb with rfl | rfl | rfl | rfl <;> decide
theorem fs60_eq {x : Mpf} {U : Nat} {b man k : Int} {r : Rnd} (hx : XU x U) (hb : B4 b) (hm : 0 ≤ man) (hk : k ≤ 0) (hv : man.natAbs * b.toNat ^ 60 = flr U b.toNat 60 * b.toNat ^ (-k).toNat) : fsv b man k 60 r = x := by
  have hpos : 0 < b.toNat ^ 60 := Nat.pow_pos (b4_even hb).2.2
  have hv2 : man.natAbs * b.toNat ^ k.toNat * 2 ^ 60 = U * b.toNat ^ (-k).toNat := by
    rw [show k.toNat = 0 by omega, Nat.pow_zero, Nat.mul_one]
    refine Nat.eq_of_mul_eq_mul_right hpos ?_
    calc man.natAbs * 2 ^ 60 * b.toNat ^ 60 = (man.natAbs * b.toNat ^ 60) * 2 ^ 60 := by ac_rfl
      _ = (flr U b.toNat 60 * 2 ^ 60) * b.toNat ^ (-k).toNat := by rw [hv]; ac_rfl
      _ = _ := by rw [flr_exact (b4_even hb).1]; ac_rfl
  cases hx with
  | zero =>
    have : man = 0 := by
      rw [show k.toNat = 0 by omega, Nat.pow_zero, Nat.mul_one, Nat.zero_mul] at hv2
      have : man.natAbs = 0 := by omega
      omega
    rw [this, fsv_z]
  | num m e h1 h2 h3 h4 => exact fsv_exact hb hm h1 h2 h3 rfl hv2
end Mine
/-! part LawR2 -/
namespace Mine
/-! the plain law, second part: the parts -/
theorem le_bal {X Y i j f g : Nat} (h : X * 2 ^ i ≤ Y * 2 ^ j) (k : i + g = j + f) : X * 2 ^ f ≤ Y * 2 ^ g := by
  by_cases hf : f ≤ i
  · obtain ⟨t, rfl⟩ : ∃ t, i = f + t := ⟨i - f, by omega⟩
    obtain rfl : j = g + t := by omega
    rw [Nat.pow_add, Nat.pow_add, ← Nat.mul_assoc, ← Nat.mul_assoc] at h
    exact Nat.le_of_mul_le_mul_right h (Nat.two_pow_pos t)
  · obtain ⟨t, rfl⟩ : ∃ t, f = i + t := ⟨f - i, by omega⟩
    obtain rfl : g = j + t := by omega
    rw [Nat.pow_add, Nat.pow_add, ← Nat.mul_assoc, ← Nat.mul_assoc]
    exact Nat.mul_le_mul_right _ h
theorem lt_bal {X Y i j f g : Nat} (h : X * 2 ^ i < Y * 2 ^ j) (k : i + g = j + f) : X * 2 ^ f < Y * 2 ^ g := by
  apply Nat.lt_of_not_le
  intro h'
  exact absurd (le_bal (f := j) (g := i) h' (by omega)) (Nat.not_le.mpr h)
theorem vle_nat {m1 m2 i j : Nat} {e1 e2 : Int} (he : (i : Int) - j = e1 - e2) (h : m1 * 2 ^ i ≤ m2 * 2 ^ j) : vle m1 e1 m2 e2 := by
  unfold vle
  rw [natCast_shift, natCast_shift]
  have := le_bal (f := (e1 - e2).toNat) (g := (e2 - e1).toNat) h (by omega)
  omega
theorem vlt_nat {m1 m2 i j : Nat} {e1 e2 : Int} (he : (i : Int) - j = e1 - e2) (h : m1 * 2 ^ i < m2 * 2 ^ j) : vlt m1 e1 m2 e2 := by
  unfold vlt
  rw [natCast_shift, natCast_shift]
  have := lt_bal (f := (e1 - e2).toNat) (g := (e2 - e1).toNat) h (by omega)
  omega
theorem mk_ok {M : Nat} {E : Int} (hb : blen M ≤ 500) (h1 : -1900 ≤ E) (h2 : E ≤ 1500) : MOk (mkM 0 M E) := by
  by_cases hM : M = 0
  · subst hM
    rw [mkM_zero]
    exact ⟨rfl, by decide, .inr rfl, fun _ => ⟨rfl, rfl⟩, rfl, by decide, by decide, by decide⟩
  · have ho := (od_spec hM).1
    have hl := blen_od hM
    rw [mkM_ne hM]
    refine ⟨rfl, by show (0 : Int) ≤ (od M : Nat); omega, .inl (by show ((od M : Nat) : Int) % 2 = 1; omega), fun h => ?_, by show ((blen (od M) : Nat) : Int) = _; rw [Int.toNat_natCast], ?_, ?_, ?_⟩
    · have h' : ((od M : Nat) : Int) = 0 := h
      omega
    · show Builtin.Int.intBits ((od M : Nat) : Int) ≤ 1000
      rw [intBits_nat]; omega
    · show -2000 ≤ E + (tz M : Nat); omega
    · show E + (tz M : Nat) ≤ 2000; omega
theorem vle_mk {M U i j : Nat} {E : Int} {x : Mpf} (hx : XU x U) (he : (i : Int) - j = E + 60) (h : M * 2 ^ i ≤ U * 2 ^ j) : vle (mkM 0 M E).m (mkM 0 M E).e x.m x.e := by
  by_cases hM : M = 0
  · subst hM
    rw [mkM_zero]
    cases hx with
    | zero => unfold vle; decide
    | num m e h1 h2 h3 h4 =>
      unfold vle
      show (0 : Int) * _ ≤ (m : Int) * _
      rw [Int.zero_mul, natCast_shift]
      omega
  · rw [mkM_ne hM]
    cases hx with
    | zero =>
      have : 0 < M * 2 ^ i := Nat.mul_pos (by omega) (Nat.two_pow_pos _)
      omega
    | num m e h1 h2 h3 h4 =>
      show vle (od M : Nat) (E + (tz M : Nat)) (m : Nat) e
      refine vle_nat (i := tz M + i) (j := (e + 60).toNat + j) (by omega) ?_
      rw [Nat.pow_add, Nat.pow_add, ← Nat.mul_assoc, ← Nat.mul_assoc, ← (od_spec hM).2]
      exact h
theorem vlt_mk {M U i j : Nat} {E : Int} {x : Mpf} (hx : XU x U) (he : (i : Int) - j = E + 60) (h : U * 2 ^ j < M * 2 ^ i) : vlt x.m x.e (mkM 0 M E).m (mkM 0 M E).e := by
  have hM : M ≠ 0 := by
    rintro rfl
    omega
  have ho := od_pos hM
  rw [mkM_ne hM]
  cases hx with
  | zero =>
    unfold vlt
    show (0 : Int) * _ < ((od M : Nat) : Int) * _
    rw [Int.zero_mul]
    exact Int.mul_pos (by omega) (two_pow_pos' _)
  | num m e h1 h2 h3 h4 =>
    show vlt (m : Nat) e (od M : Nat) (E + (tz M : Nat))
    refine vlt_nat (i := (e + 60).toNat + j) (j := tz M + i) (by omega) ?_
    rw [Nat.pow_add, Nat.pow_add, ← Nat.mul_assoc, ← Nat.mul_assoc, ← (od_spec hM).2]
    exact h
theorem sgn_nn {m : Int} (h : 0 ≤ m) : sgn m = 0 := by unfold sgn; rw [if_neg (by omega)]
theorem rm400 {A B : Nat} {m : Md} : blen (rm A (B * 2 ^ (blen (A / B) - 400)) m) ≤ 401 := by
  refine blen_le_iff.mpr (Nat.lt_of_le_of_lt rat_len ?_)
  exact Nat.pow_lt_pow_right (by decide) (by decide)
theorem fsv_lo {x : Mpf} {U fg P : Nat} {b man k : Int} (hx : XU x U) (hb : B4 b) (h0 : 0 ≤ man) (hk : k ≤ 0) (hk2 : -60 ≤ k) (hl : blen man.natAbs ≤ 400) (hv : man.natAbs * b.toNat ^ P = fg * b.toNat ^ (-k).toNat) (hU : fg * 2 ^ 60 ≤ U * b.toNat ^ P) :
    ∃ lo, fsv b man k 400 .f = lo ∧ MOk lo ∧ vle lo.m lo.e x.m x.e := by
  by_cases hm : man = 0
  · subst hm
    rw [fsv_z]
    exact ⟨_, rfl, mk_ok (M := 0) (E := 0) (by decide) (by decide) (by decide), vle_mk (M := 0) (E := 0) (i := 60) (j := 0) hx (by omega) (by rw [Nat.zero_mul]; exact Nat.zero_le _)⟩
  · obtain ⟨A, B, e, h⟩ := fsv_rat (k := k) (r := .f) (p := 400) hb hm (by decide)
    have hv' := h.val.cross (Q' := b.toNat ^ P) (P' := fg) (toNat_pos4 hb) (by rw [show k.toNat = 0 by omega, Nat.pow_zero, Nat.mul_one]; exact hv)
    have hbd := h.bd hk hk2 hl (by decide)
    have hd : blen (A / B) ≤ blen A := blen_mono (Nat.div_le_self _ _)
    have hM := @rm_dn_le A (B * 2 ^ (blen (A / B) - 400))
    refine ⟨_, rfl, ?_⟩
    show MOk (fsv b man k ((400 : Nat) : Int) .f) ∧ _
    have eq := h.eq
    rw [sgn_nn h0] at eq
    unfold rat at eq
    rw [show md 0 .f = .dn from rfl] at eq
    rw [show fsv b man k 400 .f = fsv b man k ((400 : Nat) : Int) .f from rfl, eq]
    refine ⟨mk_ok (Nat.le_trans rm400 (by decide)) (by omega) (by omega), ?_⟩
    refine vle_mk hx (i := blen (A / B) - 400 + e.toNat + 60) (j := (-e).toNat) (by omega) ?_
    exact lo_le (toNat_pos4 hb) h.pos hv' hM hU
theorem fsv_hi {x : Mpf} {U fg P : Nat} {b man k : Int} (hx : XU x U) (hb : B4 b) (h0 : 0 ≤ man) (hk : k ≤ 0) (hk2 : -60 ≤ k) (hl : blen man.natAbs ≤ 400) (hv : man.natAbs * b.toNat ^ P = fg * b.toNat ^ (-k).toNat) (hU : U * b.toNat ^ P < fg * 2 ^ 60) :
    ∃ hi, fsv b man k 400 .c = hi ∧ MOk hi ∧ vlt x.m x.e hi.m hi.e := by
  have hm : man ≠ 0 := by
    rintro rfl
    have h1 : 0 < b.toNat ^ (-k).toNat := toNat_pos4 hb
    have h2 : 0 = fg * b.toNat ^ (-k).toNat := by simpa using hv
    have h3 : 0 < fg := by
      rcases Nat.eq_zero_or_pos fg with h | h
      · rw [h] at hU; omega
      · exact h
    have := Nat.mul_pos h3 h1
    omega
  obtain ⟨A, B, e, h⟩ := fsv_rat (k := k) (r := .c) (p := 400) hb hm (by decide)
  have hv' := h.val.cross (Q' := b.toNat ^ P) (P' := fg) (toNat_pos4 hb) (by rw [show k.toNat = 0 by omega, Nat.pow_zero, Nat.mul_one]; exact hv)
  have hbd := h.bd hk hk2 hl (by decide)
  have hd : blen (A / B) ≤ blen A := blen_mono (Nat.div_le_self _ _)
  have hM := rm_up_ge (A := A) (B := B * 2 ^ (blen (A / B) - 400)) (Nat.mul_pos h.pos (Nat.two_pow_pos _))
  have eq := h.eq
  rw [sgn_nn h0] at eq
  unfold rat at eq
  rw [show md 0 .c = .up from rfl] at eq
  refine ⟨_, rfl, ?_⟩
  rw [show fsv b man k 400 .c = fsv b man k ((400 : Nat) : Int) .c from rfl, eq]
  refine ⟨mk_ok (Nat.le_trans rm400 (by decide)) (by omega) (by omega), ?_⟩
  refine vlt_mk hx (i := blen (A / B) - 400 + e.toNat + 60) (j := (-e).toNat) (by omega) ?_
  exact hi_lt (toNat_pos4 hb) h.pos hv' hM hU
/-! the figures by to_int -/
theorem nrm_small {N : Nat} {e : Int} {p : Nat} {r : Rnd} (h : blen N ≤ p) : nrm 0 N e p r = mkM 0 N e := by
  unfold nrm
  rw [show blen N - p = 0 by omega, Nat.pow_zero, rm_one]
  congr 1
  omega
theorem toIntF_mk {N : Nat} {e : Int} (he : e ≤ 0) : toIntF (mkM 0 N e).m (mkM 0 N e).e = ((N / 2 ^ (-e).toNat : Nat) : Int) := by
  by_cases hN : N = 0
  · subst hN
    rw [mkM_zero, Nat.zero_div]; rfl
  · have hs := (od_spec hN).2
    rw [mkM_ne hN]
    show toIntF (od N : Nat) (e + (tz N : Nat)) = _
    unfold toIntF
    split
    · rename_i h
      rw [natCast_shift]
      congr 1
      conv => rhs; rw [hs]
      have e1 : tz N = (e + (tz N : Nat)).toNat + (-e).toNat := by omega
      have e2 : od N * 2 ^ tz N = od N * 2 ^ (e + (tz N : Nat)).toNat * 2 ^ (-e).toNat := by rw [Nat.mul_assoc, ← Nat.pow_add, ← e1]
      rw [e2, Nat.mul_div_cancel _ (Nat.two_pow_pos _)]
    · rename_i h
      rw [fdiv_nat]
      congr 1
      conv => rhs; rw [hs]
      have e1 : (-e).toNat = (-(e + (tz N : Nat))).toNat + tz N := by omega
      rw [e1, Nat.pow_add, Nat.mul_div_mul_right _ _ (Nat.two_pow_pos _)]
theorem XU.toInt {x : Mpf} {U : Nat} (hx : XU x U) {b P : Nat} (hl : blen (b ^ P) ≤ 400) : ∃ y, nrm 0 (x.m * (b : Int) ^ P).toNat x.e (Int.toNat 1000) .d = y ∧ MOk y ∧ toIntF y.m y.e = (Mine.flr U b P : Int) := by
  cases hx with
  | zero =>
    refine ⟨_, rfl, ?_⟩
    show MOk (nrm 0 ((0 : Int) * (b : Int) ^ P).toNat 0 (Int.toNat 1000) .d) ∧ _
    rw [Int.zero_mul, Int.toNat_zero, nrm_zero]
    refine ⟨mk_ok (M := 0) (E := 0) (by decide) (by decide) (by decide), ?_⟩
    unfold Mine.flr
    rw [Nat.zero_mul, Nat.zero_div]; rfl
  | num m e h1 h2 h3 h4 =>
    have hN : blen (m * b ^ P) ≤ 460 := Nat.le_trans (blen_mul_le _ _) (by omega)
    refine ⟨_, rfl, ?_⟩
    show MOk (nrm 0 ((m : Int) * (b : Int) ^ P).toNat e 1000 .d) ∧ _
    have e0 : ((m : Int) * (b : Int) ^ P).toNat = m * b ^ P := by rw [pow_cast, ← Int.natCast_mul, Int.toNat_natCast]
    have e1 : nrm 0 ((m : Int) * (b : Int) ^ P).toNat e (Int.toNat 1000) .d = mkM 0 (m * b ^ P) e := by rw [e0]; exact nrm_small (by show blen (m * b ^ P) ≤ 1000; omega)
    show MOk (nrm 0 ((m : Int) * (b : Int) ^ P).toNat e (Int.toNat 1000) .d) ∧ toIntF (nrm 0 ((m : Int) * (b : Int) ^ P).toNat e (Int.toNat 1000) .d).m (nrm 0 ((m : Int) * (b : Int) ^ P).toNat e (Int.toNat 1000) .d).e = _
    rw [e1]
    refine ⟨mk_ok (by omega) (by omega) (by omega), ?_⟩
    rw [toIntF_mk (by omega)]
    congr 1
    unfold Mine.flr
    have e2 : (2 : Nat) ^ 60 = 2 ^ (-e).toNat * 2 ^ (e + 60).toNat := by rw [← Nat.pow_add]; congr 1; omega
    rw [e2, Nat.mul_right_comm, Nat.mul_div_mul_right _ _ (Nat.two_pow_pos _)]
theorem XU.mok {x : Mpf} {U : Nat} (hx : XU x U) : MOk x ∧ -60 ≤ x.e ∧ x.e ≤ 0 ∧ Builtin.Int.intBits x.m ≤ 60 := by
  cases hx with
  | zero => exact ⟨mk_ok (M := 0) (E := 0) (by decide) (by decide) (by decide), by decide, by decide, by decide⟩
  | num m e h1 h2 h3 h4 =>
    refine ⟨⟨rfl, by show (0 : Int) ≤ (m : Nat); omega, .inl (by show ((m : Nat) : Int) % 2 = 1; omega), fun h => ?_, by show ((blen m : Nat) : Int) = _; rw [Int.toNat_natCast], ?_, ?_, ?_⟩, ?_, ?_, ?_⟩
    · have h' : ((m : Nat) : Int) = 0 := h
      omega
    · show Builtin.Int.intBits ((m : Nat) : Int) ≤ 1000
      rw [intBits_nat]; omega
    · show -2000 ≤ e; omega
    · show e ≤ 2000; omega
    · show -60 ≤ e; omega
    · show e ≤ 0; omega
    · show Builtin.Int.intBits ((m : Nat) : Int) ≤ 60
      rw [intBits_nat]; omega
def fg60 (b : Int) (x : Mpf) : Int := ((x.m * 2 ^ (x.e + 60).toNat) * b ^ Int.toNat 60).fdiv (2 ^ Int.toNat 60)
theorem b4_bits {b : Int} (hb : B4 b) {P : Nat} (hP : P ≤ 60) : Builtin.Int.intBits (b ^ P) ≤ 361 := by
  have h := (b4_even hb).2.1
  rw [show b = ((b.toNat : Nat) : Int) by omega, pow_cast, intBits_nat]
  exact blen_lt_pow (b4_len hb) hP (Nat.le_refl _)
theorem fg60_ok {b : Int} {x : Mpf} (hx : XOk x) (hb4 : b = 2 ∨ b = 8 ∨ b = 10 ∨ b = 16) : 0 ≤ fg60 b x ∧ Builtin.Int.intBits (fg60 b x) ≤ 400 ∧ (numS b.toNat (fg60 b x).toNat).length ≤ 1000 ∧ IntMulOk (x.m * 2 ^ (x.e + 60).toNat) (b ^ Int.toNat 60) := by
  obtain ⟨U, hU⟩ := xok_xu hx
  have e : fg60 b x = (flr U b.toNat 60 : Int) := fg60_flr (b4_even hb4).2.1 hU
  have hlt := flr_lt (P := 60) hU.lt (b4_even hb4).2.2
  have hbl := blen_lt_pow (b4_len hb4) (Nat.le_refl 60) (Nat.le_of_lt hlt)
  rw [e]
  refine ⟨by omega, by rw [intBits_nat]; omega, ?_, ?_⟩
  · rw [Int.toNat_natCast]
    have := numS_len (b4_36 hb4).2 (flr U b.toNat 60)
    omega
  · have h1 : x.m * 2 ^ (x.e + 60).toNat = ((U * 2 ^ 0 : Nat) : Int) := hU.fix 0
    refine mulOk (a := 60) (b := 361) ?_ (b4_bits hb4 (P := 60) (by decide))
    rw [h1, intBits_nat, Nat.pow_zero, Nat.mul_one]
    exact blen_le_iff.mpr hU.lt
theorem c_fs60 (w : World) (x : Mpf) (b : Int) (r : Rnd) (t1 t2 t3 : Tok) (hx : XOk x) (hb4 : b = 2 ∨ b = 8 ∨ b = 10 ∨ b = 16) : Ctr w 225 14 [.str (S (ptx b (fg60 b x) 60)) t1, .int 60 t2, .str r.str t3] (fun _ _ => True) (fun led v => IsMpf w led v x) := by
  obtain ⟨U, hU⟩ := xok_xu hx
  have e : fg60 b x = (flr U b.toNat 60 : Int) := fg60_flr (b4_even hb4).2.1 hU
  have hlt := flr_lt (P := 60) hU.lt (b4_even hb4).2.2
  obtain ⟨man, k, fs, m0, k0, _, _, hv⟩ := fs_ptx w (n := fg60 b x) (P := 60) hb4 (by rw [e]; omega) (by decide) (by decide) (by rw [e, Int.toNat_natCast]; exact hlt)
  rw [e, Int.toNat_natCast] at hv
  exact c_fsX w b _ man k 60 r r.str rfl x t1 t2 t3 fs (by decide) (by decide) (fs60_eq hU hb4 m0 k0 hv)
theorem c_partsL (w : World) (T : Addr) (x : Mpf) (b places : Int) (a1 a2 a3 a4 t2 t3 : Tok) (hx : XOk x) (hb2 : 2 ≤ b) (hb36 : b ≤ 36) (hp1 : 1 ≤ places) (hp2 : places ≤ 60) : Ctr w 267 16 [.ref T, .int b t2, .int places t3] (fun _ led => Has w led T (tupO [.int x.s a1, .int x.m a2, .int x.e a3, .int x.b a4])) (fun _ v => v = .bool true) := by
  obtain ⟨U, hU⟩ := xok_xu hx
  obtain ⟨B, rfl⟩ : ∃ B : Nat, b = B := ⟨b.toNat, by omega⟩
  obtain ⟨P, rfl⟩ : ∃ P : Nat, places = P := ⟨places.toNat, by omega⟩
  obtain ⟨mok, e1, e2, e3⟩ := hU.mok
  have hBl : blen B ≤ 6 := blen_le_iff.mpr (by omega)
  have hbb : Builtin.Int.intBits (B : Int) ≤ 6 := by rw [intBits_nat]; exact hBl
  have hpl := blen_lt_pow hBl (P := P) (by omega) (Nat.le_refl _)
  have hq0 : (0 : Int) < (B : Int) ^ (P : Int).toNat := Int.pow_pos (by omega)
  have hqb : Builtin.Int.intBits ((B : Int) ^ (P : Int).toNat) ≤ 400 := by rw [Int.toNat_natCast, pow_cast, intBits_nat]; omega
  have hfg : ((x.m * 2 ^ (x.e + 100).toNat) * (B : Int) ^ (P : Int).toNat).fdiv (2 ^ Int.toNat 100) = (flr U B P : Int) := by rw [Int.toNat_natCast]; exact hU.flr 40 B P
  have h40 : x.m * 2 ^ (x.e + 100).toNat = ((U * 2 ^ 40 : Nat) : Int) := hU.fix 40
  have hmo : IntMulOk (x.m * 2 ^ (x.e + 100).toNat) ((B : Int) ^ (P : Int).toNat) := by
    refine mulOk (a := 101) (b := 400) ?_ hqb
    rw [h40, intBits_nat]
    have : blen (U * 2 ^ 40) ≤ blen U + blen (2 ^ 40) := blen_mul_le _ _
    have h60 : blen U ≤ 60 := blen_le_iff.mpr hU.lt
    have h41 : blen (2 ^ 40) = 41 := by decide +kernel
    omega
  obtain ⟨y, hy, hyk, hyi⟩ := hU.toInt (b := B) (P := P) (by omega)
  have hy' : nrm 0 (x.m * (B : Int) ^ (P : Int).toNat).toNat x.e (Int.toNat 1000) .d = y := by rw [Int.toNat_natCast]; exact hy
  by_cases hb4 : B4 (B : Int)
  · have hlt := flr_lt (P := P) hU.lt (show 0 < B by omega)
    have hbl := blen_lt_pow hBl (P := P) (by omega) (Nat.le_of_lt hlt)
    have hbl1 := blen_lt_pow hBl (P := P) (n := flr U B P + 1) (by omega) (by omega)
    have hB : (B : Int).toNat = B := Int.toNat_natCast B
    have hPn : (P : Int).toNat = P := Int.toNat_natCast P
    obtain ⟨m1, k1, fs1, a0, ak, ak2, al, av⟩ := fs_ptx w (n := (flr U B P : Int)) (P := P) hb4 (by omega) (by omega) (by omega) (by rw [hB, hPn, Int.toNat_natCast]; exact hlt)
    rw [hPn, Int.toNat_natCast (flr U B P)] at av
    obtain ⟨lo, l1, l2, l3⟩ := fsv_lo (fg := flr U B P) (P := P) hU hb4 a0 ak ak2 al av (by rw [hB]; exact flr_le)
    have n1 := numS_len (b := B) (by omega) (flr U B P)
    have n2 := numS_len (b := B) (by omega) (flr U B P + 1)
    have eT : ((flr U B P : Int) + 1) = ((flr U B P + 1 : Nat) : Int) := by omega
    by_cases hup : (flr U B P : Int) + 1 < (B : Int) ^ (P : Int).toNat
    · have hup' : flr U B P + 1 < B ^ P := by
        rw [hPn, pow_cast] at hup
        omega
      obtain ⟨m2, k2, fs2, c0, ck, ck2, cl, cv⟩ := fs_ptx w (n := (flr U B P : Int) + 1) (P := P) hb4 (by omega) (by omega) (by omega) (by rw [hB, hPn, eT, Int.toNat_natCast]; exact hup')
      rw [hPn, eT, Int.toNat_natCast (flr U B P + 1)] at cv
      obtain ⟨hi, i1, i2, i3⟩ := fsv_hi (fg := flr U B P + 1) (P := P) hU hb4 c0 ck ck2 cl cv (by rw [hB]; exact flr_gt)
      exact c_partsA w T x y lo hi B P (flr U B P) m1 k1 m2 k2 a1 a2 a3 a4 t2 t3 mok e1 e2 e3 (by omega) hp2 hbb hq0 hqb hfg hmo hy' hyk hyi hb4 (by omega) (by rw [intBits_nat]; omega) (by rw [eT, intBits_nat]; omega) (by rw [hB, Int.toNat_natCast]; omega) (by rw [hB, eT, Int.toNat_natCast]; omega) fs1 l1 l2 l3 fun _ => ⟨fs2, i1, i2, i3⟩
    · exact c_partsA w T x y lo lo B P (flr U B P) m1 k1 m1 k1 a1 a2 a3 a4 t2 t3 mok e1 e2 e3 (by omega) hp2 hbb hq0 hqb hfg hmo hy' hyk hyi hb4 (by omega) (by rw [intBits_nat]; omega) (by rw [eT, intBits_nat]; omega) (by rw [hB, Int.toNat_natCast]; omega) (by rw [hB, eT, Int.toNat_natCast]; omega) fs1 l1 l2 l3 fun h => absurd h hup
  · exact c_partsB w T x y B P (flr U B P) a1 a2 a3 a4 t2 t3 mok e1 e2 e3 (by omega) hp2 hbb hq0 hqb hfg hmo hy' hyk hyi (by unfold B4 at hb4; omega)
end Mine
/-! part LawR3 -/
namespace Mine
/-! the plain law, third part: the whole number -/
theorem fsv_zero_exp {b man prec : Int} {r : Rnd} : fsv b man 0 prec r = fme man 0 prec r := by
  unfold fsv
  split
  · rw [if_pos (Int.le_refl 0), Int.toNat_zero, Int.pow_zero, Int.mul_one]
  · rw [Int.zero_mul]
theorem sgn_sgI {neg : Bool} {n : Nat} (h : n ≠ 0) : sgn (sgI neg n) = if neg then 1 else 0 := by
  unfold sgn sgI
  cases neg
  · show (if (n : Int) < 0 then (1 : Int) else 0) = 0
    rw [if_neg (by omega)]
  · show (if -(n : Int) < 0 then (1 : Int) else 0) = 1
    rw [if_pos (by omega)]
theorem sgI_abs {neg : Bool} {n : Nat} : (sgI neg n).natAbs = n := by
  cases neg
  · exact Int.natAbs_natCast n
  · show (-(n : Int)).natAbs = n
    omega
theorem sgI_zero {neg : Bool} : sgI neg 0 = 0 := by cases neg <;> rfl
theorem sgI_bits {neg : Bool} {n : Nat} : Builtin.Int.intBits (sgI neg n) = blen n := by rw [intBits_blen, sgI_abs]
/-- all that `_law_whole_right` asks, of one number -/
structure Wh (w : World) (neg : Bool) (n b bh prec : Int) (r : Rnd) (man k2 k3 : Int) : Prop where
  h1 : FS w b (sgT neg ++ (ahead b.toNat ++ numS b.toNat n.toNat)) (sgI neg n.toNat) 0
  h2 : FS w b ((sgT neg ++ (ahead b.toNat ++ (numS b.toNat n.toNat).take (((numS b.toNat n.toNat).length : Int) - bh).toNat)) ++ 46 :: (numS b.toNat n.toNat).drop (((numS b.toNat n.toNat).length : Int) - bh).toNat) man k2
  h3 : FS w b (((sgT neg ++ (ahead b.toNat ++ (numS b.toNat n.toNat).take (((numS b.toNat n.toNat).length : Int) - bh).toNat)) ++ 46 :: (numS b.toNat n.toNat).drop (((numS b.toNat n.toNat).length : Int) - bh).toNat) ++ sepc b :: numS 10 bh.toNat) man k3
  e3 : fsv b man k2 prec r = ratP (sgI neg n.toNat) (b ^ bh.toNat) prec r
  e4 : fsv b man k3 prec r = fme (sgI neg n.toNat) 0 prec r
theorem whole_all (w : World) (neg : Bool) {n b bh : Int} {p : Nat} (r : Rnd) (hb : B4 b) (hbs : Builtin.Int.intBits n ≤ 120) (h0 : 0 ≤ n) (hb0 : 0 ≤ bh) (hb1 : bh ≤ ((numS b.toNat n.toNat).length : Int) - 1) (hb2 : bh ≤ 100) (hp : 0 < p) : ∃ man k2 k3 : Int, Wh w neg n b bh p r man k2 k3 := by
  have hB := (b4_36 hb).2
  have hbl := bits_of h0
  have hnl := numS_len hB n.toNat
  obtain ⟨N, rfl⟩ : ∃ N : Nat, n = N := ⟨n.toNat, by omega⟩
  rw [Int.toNat_natCast] at *
  obtain ⟨c, hc⟩ : ∃ c, c = (((numS b.toNat N).length : Int) - bh).toNat := ⟨_, rfl⟩
  have hlen : (numS b.toNat N).length = (numD b.toNat N).length := by rw [numS_eq, List.length_map]
  have hne := numD_ne (n := N) hB
  have hlt := numD_lt hB N
  have hw := numD_worth hB N
  have hc1 : 1 ≤ c := by omega
  have hcl : c ≤ (numD b.toNat N).length := by omega
  have hd1 : ∀ d ∈ (numD b.toNat N).take c, d < b.toNat := fun d h => hlt d (List.mem_of_mem_take h)
  have hd2 : ∀ d ∈ (numD b.toNat N).drop c, d < b.toNat := fun d h => hlt d (List.mem_of_mem_drop h)
  have hne1 : (numD b.toNat N).take c ≠ [] := by
    intro h
    have := congrArg List.length h
    rw [List.length_take] at this
    have hl0 : (numD b.toNat N).length ≠ 0 := fun h => hne (List.length_eq_zero_iff.mp h)
    simp only [List.length_nil] at this
    omega
  have hl2 : ((numD b.toNat N).drop c).length = bh.toNat := by rw [List.length_drop]; omega
  have hl1 : ((numD b.toNat N).take c).length = c := by rw [List.length_take]; omega
  obtain ⟨j, hj⟩ := strZ_spec ((numD b.toNat N).drop c)
  have hjl : (strZ ((numD b.toNat N).drop c)).length + j = bh.toNat := by
    have := congrArg List.length hj
    rw [List.length_append, List.length_replicate] at this
    omega
  obtain ⟨W, hWd⟩ : ∃ W, W = worth b.toNat ((numD b.toNat N).take c ++ strZ ((numD b.toNat N).drop c)) := ⟨_, rfl⟩
  have hWN : W * b.toNat ^ j = N := by
    rw [hWd, ← worth_zeros, List.append_assoc, ← hj, List.take_append_drop, hw]
  have hpos : 0 < b.toNat ^ j := Nat.pow_pos (by omega)
  have hWle : W ≤ N := by rw [← hWN]; exact Nat.le_mul_of_pos_right _ hpos
  have hWb : blen W ≤ 120 := Nat.le_trans (blen_mono hWle) (by omega)
  have hk10 := numS_len (b := 10) (by decide) bh.toNat
  have hk10b : blen bh.toNat ≤ 7 := blen_le_iff.mpr (by omega)
  have f1 := fs_int (w := w) hb neg hlt hne (by omega) (by rw [sgI_bits, hw]; omega)
  have f2 := fs_pt (w := w) hb neg hd1 hd2 hne1 (by omega) (by rw [sgI_bits, ← hWd]; omega)
  have f3 := fs_exp (w := w) (k := bh) hb neg hd1 hd2 hne1 (by omega) (by rw [sgI_bits, ← hWd]; omega) hb0 (by omega) (by omega)
  rw [← hWd] at f2 f3
  rw [hw] at f1
  rw [List.map_take, List.map_drop, ← numS_eq] at f2 f3
  rw [← numS_eq] at f1
  have hbq : (0 : Int) < b ^ bh.toNat := Int.pow_pos (by have := (b4_even hb).2; omega)
  have hbqn : (b ^ bh.toNat).toNat = b.toNat ^ bh.toNat := by
    have h := (b4_even hb).2.1
    have e : b ^ bh.toNat = ((b.toNat ^ bh.toNat : Nat) : Int) := by
      conv => lhs; rw [show b = ((b.toNat : Nat) : Int) by omega]
      rw [pow_cast]
    rw [e, Int.toNat_natCast]
  refine ⟨sgI neg W, 0 - ((strZ ((numD b.toNat N).drop c)).length : Int), bh - ((strZ ((numD b.toNat N).drop c)).length : Int), ⟨?_, ?_, ?_, ?_, ?_⟩⟩
  · rw [Int.toNat_natCast]; exact f1
  · rw [Int.toNat_natCast, ← hc]; exact f2
  · rw [Int.toNat_natCast, ← hc]; exact f3
  · rw [Int.toNat_natCast]
    by_cases hN : N = 0
    · have : W = 0 := by omega
      rw [this, hN, sgI_zero, fsv_z, ratP_z]
    · have hW0 : W ≠ 0 := by
        rintro rfl
        rw [Nat.zero_mul] at hWN
        exact hN hWN.symm
      refine fsv_is_ratP hb (fun h => hW0 (by have := congrArg Int.natAbs h; rw [sgI_abs] at this; exact this)) (fun h => hN (by have := congrArg Int.natAbs h; rw [sgI_abs] at this; exact this)) (by rw [sgn_sgI hW0, sgn_sgI hN]) hbq hp ?_
      rw [sgI_abs, sgI_abs, hbqn, show (0 - ((strZ ((numD b.toNat N).drop c)).length : Int)).toNat = 0 by omega, show (-(0 - ((strZ ((numD b.toNat N).drop c)).length : Int))).toNat = (strZ ((numD b.toNat N).drop c)).length by omega, ← hjl, Nat.pow_zero, Nat.mul_one, Nat.pow_add]
      generalize (strZ ((numD b.toNat N).drop c)).length = q
      rw [← hWN]
      ac_rfl
  · rw [Int.toNat_natCast]
    by_cases hN : N = 0
    · have : W = 0 := by omega
      rw [this, hN, sgI_zero, fsv_z, fme_z]
    · have hW0 : W ≠ 0 := by
        rintro rfl
        rw [Nat.zero_mul] at hWN
        exact hN hWN.symm
      refine fsv_is_fme hb (fun h => hW0 (by have := congrArg Int.natAbs h; rw [sgI_abs] at this; exact this)) (fun h => hN (by have := congrArg Int.natAbs h; rw [sgI_abs] at this; exact this)) (by rw [sgn_sgI hW0, sgn_sgI hN]) hp ?_
      rw [sgI_abs, sgI_abs, show (bh - ((strZ ((numD b.toNat N).drop c)).length : Int)).toNat = j by omega, show (-(bh - ((strZ ((numD b.toNat N).drop c)).length : Int))).toNat = 0 by omega, Nat.pow_zero, Nat.mul_one]
      exact hWN
theorem c_wholeL (w : World) (n b behind minus prec : Int) (r : Rnd) (t1 t2 t3 t4 t5 t6 : Tok) (hb4 : b = 2 ∨ b = 8 ∨ b = 10 ∨ b = 16) (hn : 0 ≤ n) (hbs : Builtin.Int.intBits n ≤ 120) (hbh : 0 ≤ behind) (hbh2 : behind ≤ 60) (hp : 0 < prec) (hp2 : prec ≤ 90) :
    Ctr w 253 15 [.int n t1, .int b t2, .int behind t3, .int minus t4, .int prec t5, .str r.str t6] (fun _ _ => True) (fun _ v => v = .bool true) := by
  obtain ⟨p, rfl⟩ : ∃ p : Nat, prec = p := ⟨prec.toNat, by omega⟩
  have hB := (b4_36 hb4).2
  have hbl := bits_of hn
  have hnl := numS_len hB n.toNat
  have hL1 : 1 ≤ (numS b.toNat n.toNat).length := by
    have hne := numD_ne (n := n.toNat) hB
    rw [numS_eq, List.length_map]
    have hl0 : (numD b.toNat n.toNat).length ≠ 0 := fun h => hne (List.length_eq_zero_iff.mp h)
    omega
  obtain ⟨bh, hbhd⟩ : ∃ bh, mn behind (((numS b.toNat n.toNat).length : Int) - 1) = bh := ⟨_, rfl⟩
  have hmn : 0 ≤ bh ∧ bh ≤ ((numS b.toNat n.toNat).length : Int) - 1 ∧ bh ≤ 60 := by
    rw [← hbhd]; unfold mn
    split <;> omega
  have hbb : Builtin.Int.intBits b ≤ 6 := by
    have := b4_bits hb4 (P := 1) (by decide)
    rcases hb4 with rfl | rfl | rfl | rfl <;> decide +kernel
  have hq0 : (0 : Int) < b ^ bh.toNat := Int.pow_pos (by have := (b4_even hb4).2; omega)
  have hqb : Builtin.Int.intBits (b ^ bh.toNat) ≤ 8000 := Nat.le_trans (b4_bits hb4 (P := bh.toNat) (by omega)) (by decide)
  have hk10 := numS_len (b := 10) (by decide) bh.toNat
  have hk10b : blen bh.toNat ≤ 7 := blen_le_iff.mpr (by omega)
  by_cases hmi : minus = 1
  · obtain ⟨man, k2, k3, H⟩ := whole_all w true r hb4 hbs hn hmn.1 hmn.2.1 (by omega) (p := p) (by omega)
    have es : sgI true n.toNat = -n := by show -((n.toNat : Nat) : Int) = -n; omega
    have h1 := H.h1
    have h2 := H.h2
    have h3 := H.h3
    have e3 := H.e3
    have e4 := H.e4
    rw [es] at h1 e3 e4
    refine c_whole1 w n b behind minus p bh man k2 k3 r t1 t2 t3 t4 t5 t6 hmi hb4 hn (by omega) (by omega) hbhd hmn.1 hmn.2.1 (by omega) hbb (by omega) (by omega) hq0 hqb (by omega) ?_ ?_ (fun hb => ?_) (fun hb => ?_) fsv_zero_exp fsv_zero_exp e3 e4
    · rw [List.append_assoc]; exact h1
    · rw [show [45] = sgT true from rfl]
      simp only [List.append_assoc, List.cons_append, List.nil_append, List.singleton_append] at h2 ⊢
      exact h2
    · have hs : sepc b = 64 := by unfold sepc; rw [if_pos hb]
      rw [hs] at h3
      rw [show [45] = sgT true from rfl]
      simp only [List.append_assoc, List.cons_append, List.nil_append, List.singleton_append] at h3 ⊢
      exact h3
    · have hs : sepc b = 101 := by unfold sepc; rw [if_neg hb]
      rw [hs] at h3
      rw [show [45] = sgT true from rfl]
      simp only [List.append_assoc, List.cons_append, List.nil_append, List.singleton_append] at h3 ⊢
      exact h3
  · obtain ⟨man, k2, k3, H⟩ := whole_all w false r hb4 hbs hn hmn.1 hmn.2.1 (by omega) (p := p) (by omega)
    have es : sgI false n.toNat = n := by show ((n.toNat : Nat) : Int) = n; omega
    have h1 := H.h1
    have h2 := H.h2
    have h3 := H.h3
    have e3 := H.e3
    have e4 := H.e4
    rw [es] at h1 e3 e4
    refine c_whole0 w n b behind minus p bh man k2 k3 r t1 t2 t3 t4 t5 t6 hmi hb4 hn (by omega) (by omega) hbhd hmn.1 hmn.2.1 (by omega) hbb (by omega) (by omega) hq0 hqb (by omega) ?_ ?_ (fun hb => ?_) (fun hb => ?_) fsv_zero_exp fsv_zero_exp e3 e4
    · exact h1
    · rw [show sgT false = [] from rfl] at h2
      simp only [List.append_assoc, List.cons_append, List.nil_append, List.singleton_append] at h2 ⊢
      exact h2
    · have hs : sepc b = 64 := by unfold sepc; rw [if_pos hb]
      rw [hs, show sgT false = [] from rfl] at h3
      simp only [List.append_assoc, List.cons_append, List.nil_append, List.singleton_append] at h3 ⊢
      exact h3
    · have hs : sepc b = 101 := by unfold sepc; rw [if_neg hb]
      rw [hs, show sgT false = [] from rfl] at h3
      simp only [List.append_assoc, List.cons_append, List.nil_append, List.singleton_append] at h3 ⊢
      exact h3
end Mine
/-! part LawS -/
namespace Mine
theorem z_intL {w : World} {A : Around} {E : Value → Shared → Prop} {h : Heap} {G : Array GenState} {D : Drawn} {tk : Nat} {O : OsState} {Q : Value → Shared → Prop} {t u : Tok} {b n : Int} (hb2 : 2 ≤ b) (hb36 : b ≤ 36) (h0 : 0 ≤ n) (hbs : Builtin.Int.intBits n ≤ 120) (q : Q (.int n tk) ⟨h, G, D, tk + 1, O⟩) :
    wpAny (model PySem.Challenge.rw_aj5018_01.row.prog w) A (call (.type "int") [.str (S (numS b.toNat n.toNat)) t, .int b u]) Q E ⟨h, G, D, tk, O⟩ :=
  z_int2 hb2 hb36 (read_num hb2 hb36 h0 hbs).1 (read_num hb2 hb36 h0 hbs).2.1 (read_num hb2 hb36 h0 hbs).2.2 q
theorem size60 {b : Int} (hb4 : b = 2 ∨ b = 8 ∨ b = 10 ∨ b = 16) : (Builtin.Int.intBits b : Int) * 60 ≤ 2 ^ 27 := by
  rcases hb4 with rfl | rfl | rfl | rfl <;> decide +kernel
theorem fg60_rfl {b : Int} {x : Mpf} : ((x.m * 2 ^ (x.e + 60).toNat) * b ^ Int.toNat 60).fdiv (2 ^ Int.toNat 60) = fg60 b x := rfl
end Mine
/-! the law -/
namespace Mine
theorem flushL : (0 : Nat) = 0 := by
  w_top off
  first | walk1 | rfl
local macro_rules | `(tactic| walk_at "has") => `(tactic| first | (with_reducible assumption) | exact Has.here | (refine Has.cons ?_; walk_at "has") | (refine Has.sub (by with_reducible assumption) ?_; walk_at "has") | exact has_zero | exact has_nan | exact has_inf | exact has_ninf)
local macro_rules | `(tactic| walk_at "subs") => `(tactic| first | (with_reducible assumption) | exact sub_refl | (refine sub_cons ?_; walk_at "subs") | (refine sub_trans (by with_reducible assumption) ?_; walk_at "subs"))
local macro_rules | `(tactic| kun_tup) => `(tactic| exact Has.tup (by k_asm) (by k_asm) (by k_asm) (by walk_at "has"))
local macro_rules | `(tactic| walk_at "Fin") => `(tactic| ((refine ⟨_, _, by with_reducible assumption, by with_reducible assumption, by walk_at "subs", ?_, rfl⟩); walk_at "post"))
local macro_rules | `(tactic| walk_at "steps") => `(tactic| repeat' (first | (k_unfold) | walk1 | fail "no step"))
local macro_rules | `(tactic| walk_at "isR") => `(tactic| with_reducible first | assumption | exact isR _ | exact isR_n | exact isR_f | exact isR_c | exact isR_d | exact isR_u)
local macro_rules | `(tactic| walk_at "use") => `(tactic| ((case B => k_asm); (case F => k_asm); (case X => k_asm); (case N => k_asm); (case T => k_asm); (case kK => first | exact rfl | assumption); (case kd => first | omega | ktr_room); (case ku => first | omega | ktr_units)))
local macro_rules | `(tactic| walk_at "back") => `(tactic| (intro v9 h9 tk9 led9 F9 N9 s9 p9; k_dflt (first | (obtain ⟨D9, ta9, tb9, tc9, td9, e9, hM9⟩ := p9; subst e9) | (obtain ⟨y9, ⟨D9, ta9, tb9, tc9, td9, e9, hM9⟩, hy9⟩ := p9; subst e9) | (obtain ⟨c9, t9, e9, hc9⟩ := p9; subst e9) | (obtain ⟨t9, e9⟩ := p9; subst e9) | skip); (try k_sweep); (try k_fold)))
local macro_rules | `(tactic| walk_at "enter") => `(tactic| ((case eo => k_is); (case ec => k_is); (case eb => exact fun _ => by rfl); (case en => exact rfl); (case em => exact rfl); (case eK => exact ⟨by decide +kernel, rfl, by decide +kernel⟩); (case ecl => decide +kernel); (case e1 => exact rfl); (case e2 => exact rfl)))
local macro_rules | `(tactic| walk_at "side") => `(tactic| first | omega | decide | assumption)
local macro_rules | `(tactic| walk_at "binaryOp Add int int") => `(tactic| refine z_add ?_)
local macro_rules | `(tactic| walk_at "binaryOp Sub int int") => `(tactic| refine z_sub ?_)
local macro_rules | `(tactic| walk_at "binaryOp Mult int int") => `(tactic| refine z_mul (by walk_at "mulok") ?_)
local macro_rules | `(tactic| walk_at "binaryOp Mod int int") => `(tactic| refine z_mod (by walk_at "side") ?_)
local macro_rules | `(tactic| walk_at "binaryOp Pow int int") => `(tactic| refine z_pow (by walk_at "side") (by walk_at "size") ?_)
local macro_rules | `(tactic| walk_at "binaryOp LShift int int") => `(tactic| refine z_shl (by walk_at "side") (by walk_at "size") ?_)
local macro_rules | `(tactic| walk_at "binaryOp RShift int int") => `(tactic| refine z_shr (by walk_at "side") ?_)
local macro_rules | `(tactic| walk_at "binaryOp BitAnd int int") => `(tactic| refine z_and ?_)
local macro_rules | `(tactic| walk_at "binaryOp BitXor int int") => `(tactic| refine z_xor ?_)
local macro_rules | `(tactic| walk_at "unaryOp USub int") => `(tactic| refine z_neg ?_)
local macro_rules | `(tactic| walk_at "inplaceOp Add int int") => `(tactic| refine z_iadd ?_)
local macro_rules | `(tactic| walk_at "inplaceOp Sub int int") => `(tactic| refine z_isub ?_)
local macro_rules | `(tactic| walk_at "inplaceOp Mult int int") => `(tactic| refine z_imul (by walk_at "mulok") ?_)
local macro_rules | `(tactic| walk_at "inplaceOp RShift int int") => `(tactic| refine z_ishr (by walk_at "side") ?_)
local macro_rules | `(tactic| walk_at "inplaceOp LShift int int") => `(tactic| refine z_ishl (by walk_at "side") (by walk_at "size") ?_)
local macro_rules | `(tactic| walk_at "inplaceOp BitXor int int") => `(tactic| refine z_ixor ?_)
local macro_rules | `(tactic| walk_at "eval Constant int") => `(tactic| refine z_const ?_)
local macro_rules | `(tactic| walk_at "eval Constant str") => `(tactic| refine z_text ?_)
local macro_rules | `(tactic| walk_at "storeName") => `(tactic| (with_reducible (first | refine st0 (by assumption) (by assumption) (by assumption) ?_ | refine st1 (by assumption) (by assumption) (by assumption) ?_ | refine st2 (by assumption) (by assumption) (by assumption) ?_ | refine st3 (by assumption) (by assumption) (by assumption) ?_ | refine st4 (by assumption) (by assumption) (by assumption) ?_ | refine st5 (by assumption) (by assumption) (by assumption) ?_ | refine st6 (by assumption) (by assumption) (by assumption) ?_ | refine st7 (by assumption) (by assumption) (by assumption) ?_ | refine st8 (by assumption) (by assumption) (by assumption) ?_ | refine st9 (by assumption) (by assumption) (by assumption) ?_ | refine st10 (by assumption) (by assumption) (by assumption) ?_ | refine st11 (by assumption) (by assumption) (by assumption) ?_ | refine st12 (by assumption) (by assumption) (by assumption) ?_ | refine st13 (by assumption) (by assumption) (by assumption) ?_ | refine st14 (by assumption) (by assumption) (by assumption) ?_ | refine st15 (by assumption) (by assumption) (by assumption) ?_ | refine st16 (by assumption) (by assumption) (by assumption) ?_ | refine st17 (by assumption) (by assumption) (by assumption) ?_); intro h' tk' F' N'; (try k_sweep)))
local macro_rules | `(tactic| walk_at "eval Name") => `(tactic| with_reducible (first | refine ld0 (by assumption) (by assumption) ?_ | refine ld1 (by assumption) (by assumption) ?_ | refine ld2 (by assumption) (by assumption) ?_ | refine ld3 (by assumption) (by assumption) ?_ | refine ld4 (by assumption) (by assumption) ?_ | refine ld5 (by assumption) (by assumption) ?_ | refine ld6 (by assumption) (by assumption) ?_ | refine ld7 (by assumption) (by assumption) ?_ | refine ld8 (by assumption) (by assumption) ?_ | refine ld9 (by assumption) (by assumption) ?_ | refine ld10 (by assumption) (by assumption) ?_ | refine ld11 (by assumption) (by assumption) ?_ | refine ld12 (by assumption) (by assumption) ?_ | refine ld13 (by assumption) (by assumption) ?_ | refine ld14 (by assumption) (by assumption) ?_ | refine ld15 (by assumption) (by assumption) ?_ | refine ld16 (by assumption) (by assumption) ?_ | refine ld17 (by assumption) (by assumption) ?_))
local macro_rules | `(tactic| walk_at "loadName") => `(tactic| with_reducible (first | refine ln0 (by assumption) (by assumption) ?_ | refine ln1 (by assumption) (by assumption) ?_ | refine ln2 (by assumption) (by assumption) ?_ | refine ln3 (by assumption) (by assumption) ?_ | refine ln4 (by assumption) (by assumption) ?_ | refine ln5 (by assumption) (by assumption) ?_ | refine ln6 (by assumption) (by assumption) ?_ | refine ln7 (by assumption) (by assumption) ?_ | refine ln8 (by assumption) (by assumption) ?_ | refine ln9 (by assumption) (by assumption) ?_ | refine ln10 (by assumption) (by assumption) ?_ | refine ln11 (by assumption) (by assumption) ?_ | refine ln12 (by assumption) (by assumption) ?_ | refine ln13 (by assumption) (by assumption) ?_ | refine ln14 (by assumption) (by assumption) ?_ | refine ln15 (by assumption) (by assumption) ?_ | refine ln16 (by assumption) (by assumption) ?_ | refine ln17 (by assumption) (by assumption) ?_))
local macro_rules | `(tactic| walk_at "execs cons") => `(tactic| with_reducible refine wpAny_execs_cons ?_)
local macro_rules | `(tactic| walk_at "newTuple") => `(tactic| (k_dflt (refine' z_tuple ?F ?N ?z ?_; (case F => k_asm); (case N => k_asm); (case z => kmk_size)); intro T' h' F' N'; (try k_sweep)))
local macro_rules | `(tactic| walk_at "assign Tuple") => `(tactic| ((with_reducible show wpAny _ _ (assign (Expr.Tuple _ _ _) _ (Value.ref _)) _ _ _); k_dflt (refine' z_unpack ?F ?X ?N ?H ?h ?n ?st ?_; (case F => k_asm); (case X => k_asm); (case N => k_asm); (case H => walk_at "has"); (case h => exact rfl); (case n => exact rfl); (case st => exact rfl)); intro h' F' N'; (try k_sweep)))
local macro_rules | `(tactic| walk_at "dead") => `(tactic| first | omega | contradiction)
local macro_rules | `(tactic| walk_at "cond") => `(tactic| (intro hb; (try simp only [bne_iff_ne, beq_iff_eq, Bool.not_eq_true', Bool.not_eq_false', bne_eq_false_iff_eq, beq_eq_false_iff_ne, Bool.not_eq_true, Bool.not_eq_false, decide_eq_true_eq, decide_eq_false_iff_not, ne_eq, mpf_eq_iff, true_and, and_true, false_and, and_false, not_false_eq_true, not_true_eq_false, Decidable.not_not, Bool.not_not, Int.not_le, Int.not_lt] at hb); (try (exfalso; walk_at "dead"))))
local macro_rules | `(tactic| walk_at "ite") => `(tactic| first | with_reducible rw [if_pos True.intro] | with_reducible rw [if_neg not_false] | with_reducible rw [if_pos rfl] | (with_reducible (refine split_dec ?_ ?_ <;> walk_at "cond")) | (with_reducible (refine split_bool ?_ ?_ <;> walk_at "cond")))

local macro_rules | `(tactic| walk_at "compareOp Eq ref ref") => `(tactic| (k_dflt (refine' z_eqM ?F ?X ?N ?x ?y ?u ?_; (case F => k_asm); (case X => k_asm); (case N => k_asm); (case x => walk_at "has"); (case y => walk_at "has"); (case u => first | omega | ktr_units))))
local macro_rules | `(tactic| walk_at "compareOp NotEq ref ref") => `(tactic| (k_dflt (refine' z_neM ?F ?X ?N ?x ?y ?u ?_; (case F => k_asm); (case X => k_asm); (case N => k_asm); (case x => walk_at "has"); (case y => walk_at "has"); (case u => first | omega | ktr_units))))

local macro_rules | `(tactic| walk_at "pyl") => `(tactic| first | assumption | decide +kernel)
local macro_rules | `(tactic| walk_at "call builtin:divmod") => `(tactic| (k_dflt (refine' z_divmod ?F ?N ?b ?p ?_; (case F => k_asm); (case N => k_asm); (case b => walk_at "side"); (case p => walk_at "pyl")); intro T' h' F' N'; (try k_sweep)))
local macro_rules | `(tactic| walk_at "binaryOp FloorDiv int int") => `(tactic| refine z_fdiv (by walk_at "side") (by walk_at "pyl") ?_)

local macro_rules | `(tactic| walk_at "subscriptTail Name Constant ref int") => `(tactic| (k_dflt (refine' z_item ?F ?X ?N ?x _ ?lo ?hi ?j ?v ?_ ?s; (case F => k_asm); (case X => k_asm); (case N => k_asm); (case x => walk_at "has"); (case lo => decide); (case hi => decide); (case j => exact rfl); (case v => exact rfl); (case s => with_unfolding_all rfl))))
local macro_rules | `(tactic| walk_at "memc") => `(tactic| first | (with_reducible assumption) | exact List.mem_cons_self | (refine List.mem_cons_of_mem _ ?_; walk_at "memc") | (refine mem_tr (by with_reducible assumption) ?_; walk_at "memc") | (refine mem_trn (by with_reducible assumption) (by walk_at "apart") ?_; walk_at "memc"))
local macro_rules | `(tactic| walk_at "apart") => `(tactic| first | exact Nat.succ_ne_self _ | exact (Nat.succ_ne_self _).symm | (with_reducible assumption))
local macro_rules | `(tactic| walk_at "has") => `(tactic| first | (with_reducible assumption) | exact Has.here | (refine Has.cons ?_; walk_at "has") | (refine Has.sub (by with_reducible assumption) ?_; walk_at "has") | (refine Has.tr (by with_reducible assumption) ?_ ?_; walk_at "has"; exact ⟨_, rfl⟩) | exact has_zero | exact has_nan | exact has_inf | exact has_ninf)
local macro_rules | `(tactic| walk_at "side") => `(tactic| first | (with_reducible assumption) | decide | exact law_ex | exact nz_pow | exact law_n_nn | exact law_n_bits | exact law_n_bits4 | exact base_lo | exact base_hi | exact behind_lo | exact behind_hi | exact places_lo | exact places_hi | exact prec_lo | exact prec_hi | exact mixed_nn (by assumption) | exact xok_nz (by assumption) (by assumption) | omega)
local macro_rules | `(tactic| walk_at "size") => `(tactic| first | assumption | exact law_sz)
local macro_rules | `(tactic| walk_at "pyl") => `(tactic| first | assumption | decide +kernel)
local macro_rules | `(tactic| walk_at "storeName") => `(tactic| (k_dflt (refine' zc_stT ?X ?K ?x ?c ?F ?N ?m ?d ?_; (case X => k_asm); (case K => exact LocOk.kind (by assumption)); (case x => with_unfolding_all rfl); (case c => rfl); (case F => k_asm); (case N => k_asm); (case m => walk_at "memc"); (case d => assumption)); intro h' o' led' F' N' hm' hd' hsub' hhas'; (try k_sweep)))
local macro_rules | `(tactic| walk_at "storeName") => `(tactic| (with_reducible (first | refine sx0 (by assumption) (by assumption) (by assumption) ?_ | refine sx1 (by assumption) (by assumption) (by assumption) ?_ | refine sx2 (by assumption) (by assumption) (by assumption) ?_ | refine sx3 (by assumption) (by assumption) (by assumption) ?_ | refine sx4 (by assumption) (by assumption) (by assumption) ?_ | refine sx5 (by assumption) (by assumption) (by assumption) ?_ | refine sx6 (by assumption) (by assumption) (by assumption) ?_ | refine sx7 (by assumption) (by assumption) (by assumption) ?_); intro h' tk' F' N'; (try k_sweep)))
local macro_rules | `(tactic| walk_at "eval Name") => `(tactic| (k_dflt (refine' zc_ldC ?K ?x ?b ?c ?N ?m ?d ?_; (case K => exact LocOk.kind (by assumption)); (case x => with_unfolding_all rfl); (case b => decide); (case c => rfl); (case N => k_asm); (case m => walk_at "memc"); (case d => assumption))))
local macro_rules | `(tactic| walk_at "eval Name") => `(tactic| with_reducible (first | refine lx0 (by assumption) (by assumption) ?_ | refine lx1 (by assumption) (by assumption) ?_ | refine lx2 (by assumption) (by assumption) ?_ | refine lx3 (by assumption) (by assumption) ?_ | refine lx4 (by assumption) (by assumption) ?_ | refine lx5 (by assumption) (by assumption) ?_ | refine lx6 (by assumption) (by assumption) ?_ | refine lx7 (by assumption) (by assumption) ?_))
local macro_rules | `(tactic| walk_at "call ref") => `(tactic| ((with_reducible show wpAny _ _ (call (Value.ref 232) _) _ _ _); k_dflt (refine' z_use (c_law_mixed _ _ _ _ _ _ ?h0 ?h1 ?hz ?hb) ?B ?F ?X ?N ?T ?kK ?kd ?ku ?kp ?_); walk_at "use"; (case kp => exact ⟨by assumption, by assumption⟩); (case h0 => decide); (case h1 => decide); (case hz => omega); (case hb => assumption); (intro v9 h9 tk9 led9 F9 N9 s9 p9; k_dflt (obtain ⟨x9, t9, e9, hM9⟩ := p9; subst e9); (have hx9 := mixed_nn hM9); (try k_sweep); (try k_fold))))
local macro_rules | `(tactic| walk_at "call ref") => `(tactic| ((with_reducible show wpAny _ _ (call (Value.ref 239) _) _ _ _); k_dflt (refine' z_use (c_law_raw _ _ _ _ _ ?h0) ?B ?F ?X ?N ?T ?kK ?kd ?ku ?kp ?_); walk_at "use"; (case kp => trivial); (case h0 => walk_at "side"); (intro v9 h9 tk9 led9 F9 N9 s9 p9; k_dflt (obtain ⟨D9, xs9, xm9, xe9, xb9, u1, u2, u3, u4, e9, hH9, hR9⟩ := p9; subst e9); (try k_sweep); (try k_fold))))
local macro_rules | `(tactic| walk_at "call ref") => `(tactic| ((with_reducible show wpAny _ _ (call (Value.ref 44) _) _ _ _); k_dflt (refine' z_use (c_numeral _ _ _ _ _ ?hn ?hb ?hb2 ?hbs) ?B ?F ?X ?N ?T ?kK ?kd ?ku ?kp ?_); walk_at "use"; (case kp => trivial); (case hn => walk_at "side"); (case hb => walk_at "side"); (case hb2 => walk_at "side"); (case hbs => walk_at "side"); walk_at "back"))
local macro_rules | `(tactic| walk_at "call type:int") => `(tactic| (with_reducible refine z_intL (by walk_at "side") (by walk_at "side") (by walk_at "side") (by walk_at "side") ?_))
local macro_rules | `(tactic| walk_at "exec If") => `(tactic| ((with_reducible show wpAny _ _ (exec (Stmt.If (Expr.Compare (Expr.Subscript _ _ _) _ _ _) _ _ _) _) _ _ _); k_dflt (refine' zl_join ?X ?F ?N ?m ?sub ?q; (case X => k_asm); (case F => k_asm); (case N => k_asm); (case m => walk_at "memc"); (case' q => (intro h' tk' led' D9 x9 t1 t2 t3 t4 os9 F' N' m1 m2 d2 hH hXO; (try k_sweep))))))
local macro_rules | `(tactic| walk_at "SJoin") => `(tactic| (refine' sjoin_intro ?ok ?F ?N ?h1 ?h2 ?h3 ?h4; (case F => k_asm); (case N => k_asm); (case h1 => walk_at "memc"); (case h2 => walk_at "memc"); (case h3 => assumption); (case h4 => walk_at "has"); (case ok => first | exact xok_new (by assumption) (by assumption) | exact xok_raw2 (by assumption) (by assumption) | exact xok_raw (by assumption) (by assumption))))
local macro_rules | `(tactic| walk_at "eval Call") => `(tactic| ((with_reducible show wpAny _ _ (eval (Expr.Call (Expr.Name _ _) _ [] _) _) _ _ _); k_dflt (refine Call_ ?_)))
local macro_rules | `(tactic| walk_at "call ref") => `(tactic| ((with_reducible show wpAny _ _ (call (Value.ref 267) _) _ _ _); k_dflt (refine' z_use (c_partsL _ _ _ _ _ _ _ _ _ _ _ ?hx ?hb2 ?hb36 ?hp1 ?hp2) ?B ?F ?X ?N ?T ?kK ?kd ?ku ?kp ?_); walk_at "use"; (case kp => walk_at "has"); (case hx => assumption); (case hb2 => walk_at "side"); (case hb36 => walk_at "side"); (case hp1 => walk_at "side"); (case hp2 => walk_at "side"); (intro v9 h9 tk9 led9 F9 N9 s9 p9; k_dflt (subst p9); (try k_sweep); (try k_fold))))
local macro_rules | `(tactic| walk_at "subscriptTail List cons BinOp ref int") => `(tactic| (k_dflt (refine' z_rnd ?N ?m ?h0 ?h5 ?_ ?s; (case N => k_asm); (case m => walk_at "memc"); (case h0 => exact rnd_lo); (case h5 => exact rnd_hi); (case s => with_unfolding_all rfl)); intro r9 t9))
local macro_rules | `(tactic| walk_at "pyIter ref") => `(tactic| (k_dflt (refine' z_forL ?hh ?K ?F ?N ?hT ?hct ?hot ?hcs ?hos ?hD ?turn ?q; (case hh => with_unfolding_all rfl); (case K => assumption); (case F => k_asm); (case N => k_asm); (case hT => walk_at "memc"); (case hct => walk_at "memc"); (case hot => assumption); (case hcs => walk_at "memc"); (case hos => assumption); (case hD => walk_at "has"); (case' turn => (intro b9 t9 h9 tk9 led9 ot9 v9 hb4 F9 N9 m9 d9 mm9 hH9; (try k_sweep))); (case' q => (intro h9 tk9 led9 vs9 F9 N9; (try k_sweep))))))
local macro_rules | `(tactic| walk_at "TurnEnd") => `(tactic| (refine ⟨rfl, _, _, _, rfl, by k_asm, by k_asm, ⟨_, _, by walk_at "memc", by assumption⟩, by walk_at "memc", by walk_at "has", ?_⟩; intro p hp hne; walk_at "memc"))
local macro_rules | `(tactic| walk_at "TurnC") => `(tactic| exact ⟨_, _, _, rfl, rfl, by k_asm, by k_asm, by walk_at "subs"⟩)
local macro_rules | `(tactic| walk_at "eval ListComp") => `(tactic| (k_dflt (refine' lc_way ?hh ?F ?N ?hclos ?hcell ?hkind ?hnames ?hx ?hs ?turn ?q; (case hh => with_unfolding_all rfl); (case F => k_asm); (case N => k_asm); (case hclos => rfl); (case hcell => decide +kernel); (case hkind => rfl); (case hnames => decide +kernel); (case hx => rfl); (case hs => intro _; rfl); (case' turn => (intro r9 u9 C9 oC9 m9 led9 h9 tk9 E9 hm9 hn9 hC9 F9 N9 s9; (try k_sweep))); (case' q => (intro D9 h9 tk9 F9 N9; (try k_sweep))))))
local macro_rules | `(tactic| walk_at "eval Name") => `(tactic| ((with_reducible show wpAny _ _ (eval (Expr.Name _ _) (compEnvC _ _ _ _)) _ _ _); k_dflt (first | (refine' zq_way ?N ?hC ?hn ?hm ?_ ?hx ?hk ?hb; (case N => k_asm); (case hn => assumption); (case hC => walk_at "memc"); (case hm => assumption); (case hx => rfl); (case hk => rfl); (case hb => decide)) | (refine' zq_cell ?N ?hc ?hm ?hd ?_ ?hk ?hx ?hb; (case N => k_asm); (case hc => rfl); (case hm => walk_at "memc"); (case hd => assumption); (case hk => rfl); (case hx => rfl); (case hb => decide)))))
local macro_rules | `(tactic| walk_at "call builtin:all") => `(tactic| (k_dflt (refine' z_all ?hh ?F ?N ?hT ?q; (case hh => with_unfolding_all rfl); (case F => k_asm); (case N => k_asm); (case hT => walk_at "memc")); intro h9 tk9 F9 N9; (try k_sweep)))
local macro_rules | `(tactic| walk_at "compareOp Eq ref ref") => `(tactic| (k_dflt (refine' z_eqT ?F ?X ?N ?x ?y ?u ?e ?_; (case F => k_asm); (case X => k_asm); (case N => k_asm); (case x => walk_at "has"); (case y => walk_at "has"); (case u => first | omega | ktr_units); (case e => exact rfl))))
local macro_rules | `(tactic| walk_at "LawEnd") => `(tactic| exact ⟨rfl, _, _, _, rfl, by k_asm⟩)
local macro_rules | `(tactic| walk_at "call ref") => `(tactic| ((with_reducible show wpAny _ _ (call (Value.ref 253) _) _ _ _); k_dflt (refine' z_use (c_wholeL _ _ _ _ _ _ _ _ _ _ _ _ _ ?hb4 ?hn ?hbs ?hbh ?hbh2 ?hp ?hp2) ?B ?F ?X ?N ?T ?kK ?kd ?ku ?kp ?_); walk_at "use"; (case kp => trivial); (case hb4 => walk_at "side"); (case hn => walk_at "side"); (case hbs => walk_at "side"); (case hbh => walk_at "side"); (case hbh2 => walk_at "side"); (case hp => walk_at "side"); (case hp2 => walk_at "side"); (intro v9 h9 tk9 led9 F9 N9 s9 p9; k_dflt (subst p9); (try k_sweep); (try k_fold))))
local macro_rules | `(tactic| walk_at "call ref") => `(tactic| ((with_reducible show wpAny _ _ (call (Value.ref 115) _) _ _ _); k_dflt (refine' z_use (c_tf _ _ _ _ _ _ _ _ _ ?h ?h0 ?h1) ?B ?F ?X ?N ?T ?kK ?kd ?ku ?kp ?_); walk_at "use"; (case kp => walk_at "has"); (case h => exact (xok_mok (by assumption)).1); (case h0 => exact (xok_mok (by assumption)).2); (case h1 => decide); walk_at "back"))
local macro_rules | `(tactic| walk_at "call ref") => `(tactic| ((with_reducible show wpAny _ _ (call (Value.ref 28) _) _ _ _); k_dflt (refine' z_use (c_b2r _ _ _ _ _ _ _ _ _ _ ?h0 ?h1 ?hs ?hm ?hf) ?B ?F ?X ?N ?T ?kK ?kd ?ku ?kp ?_); walk_at "use"; (case kp => trivial); (case h0 => decide); (case h1 => decide); (case hf => exact fg60_rfl); (case hs => exact size60 (by assumption)); (case hm => exact (fg60_ok (by assumption) (by assumption)).2.2.2); walk_at "back"))
local macro_rules | `(tactic| walk_at "call ref") => `(tactic| ((with_reducible show wpAny _ _ (call (Value.ref 260) _) _ _ _); k_dflt (refine' z_use (c_part_text _ _ _ _ _ _ _ ?hb4 ?hn ?hbs ?hp ?hp2 ?hlen) ?B ?F ?X ?N ?T ?kK ?kd ?ku ?kp ?_); walk_at "use"; (case kp => trivial); (case hb4 => assumption); (case hn => exact (fg60_ok (by assumption) (by assumption)).1); (case hbs => exact (fg60_ok (by assumption) (by assumption)).2.1); (case hp => decide); (case hp2 => decide); (case hlen => exact (fg60_ok (by assumption) (by assumption)).2.2.1); walk_at "back"))
local macro_rules | `(tactic| walk_at "call ref") => `(tactic| ((with_reducible show wpAny _ _ (call (Value.ref 225) _) _ _ _); k_dflt (refine' z_use (c_fs60 _ _ _ _ _ _ _ ?hx ?hb4) ?B ?F ?X ?N ?T ?kK ?kd ?ku ?kp ?_); walk_at "use"; (case kp => trivial); (case hx => assumption); (case hb4 => assumption); walk_at "back"))

theorem ret_true {fl : Flow} (h : (match fl with | .ret v => v | _ => Value.none) = .bool true) : fl = .ret (.bool true) := by
  cases fl with
  | ret v => obtain rfl : v = Value.bool true := h; rfl
  | next => cases h
  | brk => cases h
  | cont => cases h
theorem tm_start {g h : Heap} {L : Addr} {m : Str → Option Value} {v : Value} {n : Str} {ns rest : List Str} (F : Fr g L h m) (e : m = fun y => if y = n then some v else none) (hn : (n :: rest).Nodup) (hns : ns = n :: rest) : Fr g L h (tm ns (some v :: rest.map fun _ => none)) := by
  subst e; subst hns
  have := tm_init (binds := [(n, v)]) (rest := rest) (by simpa using hn)
  simp only [List.map_cons, List.map_nil, List.cons_append, List.nil_append] at this
  rw [← this]
  have e2 : mapOf [(n, v)] = fun y => if y = n then some v else none := by
    funext y
    unfold mapOf
    simp only [List.reverse_cons, List.reverse_nil, List.nil_append, List.lookup_cons, List.lookup_nil]
    by_cases hy : y = n
    · subst hy; rw [if_pos rfl, beq_self_eq_true]
    · have : (y == n) = false := by simpa using hy
      rw [if_neg hy, this]
  rw [e2]; exact F
theorem law_holds : PySem.Challenge.rw_aj5018_01.Holds := Mine.hd (by
  k_go0
  rename Fr _ _ _ _ => F
  rename News _ _ _ _ => N
  rename Heap.IsList _ _ _ => hl
  rename IntsAre _ _ => hi
  rename Top _ _ _ _ _ _ => HT
  rename (Mine.hd.heap_39 _).In _ => X
  rename PyData.layable0 (PyData.list (List.map _ _)) = true => hlay
  have hb := fun n hn => @PyData.bits_item_of_ints _ hlay n hn
  clear hlay
  rename ¬ _ < _ => hlen
  refine law_end F ?walk (fun h' tk' m' F' => ?good)
  case good =>
    clear F N
    show GoodW _ _ _ _ _ (Except.ok (Flow.ret (Value.bool true))) _
    wrow_close
  change wpAny _ (ktrTop _ _ _ _ _ _ _ _ [(Str.ofString "text", _), (Str.ofString "s", _)] []) (execs _ (envX _ _ _ _ _ [(Str.ofString "text", _), (Str.ofString "s", _)])) _ _ (Shared.mk _ _ _ _ _)
  dsimp only
  have F9 := tm_start F (n := "script") (rest := ["first", "n", "base", "behind", "places", "prec", "rnd"]) (ns := ["script", "first", "n", "base", "behind", "places", "prec", "rnd"]) (by rfl) (by decide) rfl
  clear F
  rename (_ : Obj).data = _ => hdA
  revert hdA
  rename (_ : Obj).data = _ => hdB
  intro hdA
  replace hdA := hdA.trans (b := Data.cell none) rfl
  replace hdB := hdB.trans (b := Data.cell none) rfl
  rename Below _ _ _ _ => K0
  clear K0
  have B := below_of F9
  obtain ⟨p9, loose9, mean9, mg9, mb9, HT9⟩ : ∃ p loose mean mg mb, Top p loose mean mg mb _ := ⟨_, _, _, _, _, HT⟩
  clear HT
  replace F9 : Fr _ _ _ (tm ["script", "first", "n", "base", "behind", "places", "prec", "rnd"] [some (.ref _), none, none, none, none, none, none, none]) := F9
  refine with_loc (ns := ["script", "first", "n", "base", "behind", "places", "prec", "rnd"]) ⟨by decide +kernel, rfl, by decide +kernel⟩ (by decide) (by decide) (fun LK hK hd hu => ?_)
  walk_at "steps"
  all_goals rfl)
end Mine
theorem PySem.Challenge.cw_aj5018_01_holds : PySem.Challenge.rw_aj5018_01.Holds := by
  exact Mine.law_holds
