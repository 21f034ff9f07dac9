import PyProof.Rows.All
import Wide.All
import OpenK.AllK
import Wide.FinOn
import Lean
import PySem.Challenge.RW_re0060_01
section
open PySem PySem.W PyProof.Rows
set_option Elab.async false
set_option maxRecDepth 100000
set_option maxHeartbeats 8000000
namespace Mine
open_top hd for PySem.Challenge.rw_re0060_01
end Mine
end
section
open PySem PySem.W PyProof.Rows PySem.Calls
set_option Elab.async false
set_option maxRecDepth 100000
namespace Mine

/-- all that stood stands, but at these addresses -/
def KeepBut (as : List Addr) (h h' : Heap) : Prop := ∀ b o, b ∉ as → h.get? b = some o → h'.get? b = some o

theorem KeepBut.refl {as : List Addr} {h : Heap} : KeepBut as h h := fun _ _ _ e => e
theorem KeepBut.trans {as : List Addr} {h h' h'' : Heap} (k : KeepBut as h h') (k' : KeepBut as h' h'') : KeepBut as h h'' := fun b o n e => k' b o n (k b o n e)
theorem KeepBut.mono {as bs : List Addr} {h h' : Heap} (k : KeepBut as h h') (hs : ∀ a ∈ as, a ∈ bs) : KeepBut bs h h' := fun b o n e => k b o (fun q => n (hs b q)) e
theorem fr_keepBut {as : List Addr} {h₀ h h' : Heap} {L : Addr} {m : Str → Option Value} (F : Fr h₀ L h m) (k : KeepBut as h h') (off : ∀ a ∈ as, a ≠ L ∧ h₀.get? a = none) : Fr h₀ L h' m :=
  ⟨F.ns.at' fun o e => k L o (fun q => (off L q).1 rfl) e, fun b o e => k b o (fun q => by rw [(off b q).2] at e; cases e) (F.keep b o e), F.above⟩
theorem news_keepBut {as : List Addr} {h₀ h h' : Heap} {L : Addr} {news : List (Addr × Obj)} (N : News h₀ L h news) (k : KeepBut as h h') (off : ∀ p ∈ news, p.1 ∉ as) : News h₀ L h' news :=
  fun p hp => ⟨k _ _ (off p hp) (N p hp).1, (N p hp).2⟩

section
variable {prog : Program} {w : World} {A₀ A : Around} {s : Shared} {base h₀ : Heap} {outer : List Env} {L : Addr} {m mg mb : Str → Option Value} {env : Env} {news : List (Addr × Obj)} {K : Frag} {p : Program} {loose : List Str} {mean : ExcName → Option Value}
  {R : Result → Shared → Prop} {name qual : Str} {params : Arguments} {body : List Stmt} {scope : Scope} {cl : List (Str × Addr)} {dV kV doc pm cdv ct oc : Value} {an od : Option Addr} {osl : Array (Option Value)} {fo : Obj} {f : Addr} {args : Args} {binds : List (Str × Value)}

/-- a call of a def of the text's: the ledger that is handed on may be a part; the rest stands in the callee's base -/
theorem code_defY (B : Below A₀ base outer h₀) (F : Fr h₀ L s.heap m) (X₀ : K.In h₀) (N : News h₀ L s.heap news) (T : Top p loose mean mg mb h₀) (hA : A.frames = some (env :: outer)) (hf : env.frame = some L) (hke : env.scope.kind = .function)
    (ho : K.lookup f = some ⟨oc, od, .func (fnOf name qual params body scope dV kV doc pm an cdv ct), osl⟩) (hcd : codeIn K cdv qual = true) (hroom : A.depth < recursionLimit)
    (hbind : BindsTo s (fnOf name qual params body scope dV kV doc pm an cdv ct) args binds) (hloc : ∀ y ∈ binds, scope.names.lookup y.1 = some .local)
    (h : ∀ g L' h₁, KeepBut (news.map (·.1)) s.heap g → s.heap.objs.size ≤ L' → Fr g L' h₁ (fun y => binds.reverse.lookup y) → News g L' h₁ news → Below A base (env :: outer) g → K.In g → Top p loose mean mg mb g → (∀ p ∈ news, p.1 < L') →
      wpAny (model prog w) (A.deeper (envOf qual scope L' f cdv)) (execs body (envOf qual scope L' f cdv))
        (fun fl s' => R (.ok (.ret (match fl with | .ret v => v | _ => .none))) s')
        (fun e s' => wpAny (model prog w) (A.deeper (envOf qual scope L' f cdv)) (leaving (envOf qual scope L' f cdv) e) (fun _ s'' => R (.error e) s'') (fun e' s'' => R (.error e') s'') s')
        { s with heap := h₁, toks := s.toks + binds.length })
    (hco : scope.isCoroutine = false) (hgen : scope.isGenerator = false) (hk : scope.kind = .function)
    (hcell : ∀ x ∈ scope.names, x.2 ≠ .cell) : codeAny (model prog w) A (.call (.ref f) args) R s := by
  have ⟨_, BG, st, _⟩ := groundX (R := R) B F N hA hf hke
  have X := X₀.keeps F.keep
  refine codeAny_call_def (fd := fnOf name qual params body scope dV kV doc pm an cdv ct) (body := body) (binds := binds) hroom (X _ _ ho) rfl (T.nolimit.keeps F.keep) (codeRec_of X hcd) rfl hbind hcell hloc (fun h₁ hns hk₁ => ?_) hco hgen hk
  exact h _ s.heap.objs.size h₁ (fun b o n e => hideAll_get _ e n) (Nat.le_refl _) ⟨hns, fun b o e => hk₁ b o (of_hideAll _ e), Nat.le_of_eq (hideAll_size _ _)⟩
    (fun p hp => ⟨hk₁ _ _ (N p hp).1, Nat.ne_of_lt (Heap.lt_size (N p hp).1), hideAll_none _ (List.mem_map_of_mem hp)⟩) BG (X₀.keeps st) (T.keeps st) (fun p hp => Heap.lt_size (N p hp).1)
end

abbrev tabs2 : List (Addr × Addr) := [(41, 37), (34, 30)]

/-- what a call of f upon vs does: it changes the objects at `as` alone, makes what it makes, hands back what Post says -/
def Con (w : World) (f : Addr) (vs : List Value) (rm : Nat) (as : List Addr) (Pre : Heap → Prop) (Post : Heap → Value → Heap → Prop) : Prop :=
  ∀ (dp un : Nat) (gd : Option (List Code)) (cn : Str) (cs : Scope) (fa : Addr) (ccd : Value) (cl : List (Str × Addr)) (outer : List Env) (A₀ : Around) (base h₀ : Heap) (L : Addr) (m : Str → Option Value) (s : Shared) (p : Program) (loose : List Str) (mean : ExcName → Option Value) (mg mb : Str → Option Value) (Q E : Value → Shared → Prop),
    Below A₀ base outer h₀ → Fr h₀ L s.heap m → (hd.heap_39 w.params).In h₀ → Top p loose mean mg mb h₀ → base.NoSeer → CodeAll tabs2 base →
    cs.kind = .function → dp + rm < 880 → un + 8 * rm < 9800 →
    (∀ a ∈ as, a ≠ L ∧ h₀.get? a = none) → Pre s.heap →
    (∀ r h' tk', KeepBut as s.heap h' → Post s.heap r h' → Q r { s with heap := h', toks := tk' }) →
    wpAny (model PySem.Challenge.rw_re0060_01.row.prog w) (ktrTop dp un gd cn cs L fa ccd cl outer) (call (.ref f) vs) Q E s
end Mine
end
section
open PySem PySem.W PyProof.Rows PySem.Calls
local macro_rules | `(tactic| omega) => `(tactic| lia)
namespace Mine
open Builtin.Int (intBits)

/-! plain arithmetic of the division by halves -/
theorem two_pos (k : Nat) : (0 : Int) < 2 ^ k := kbt_pos k
theorem fdiv_two (x : Int) (k : Nat) : x.fdiv (2 ^ k) = x / 2 ^ k := Int.fdiv_eq_ediv_of_nonneg x (Int.le_of_lt (two_pos k))
theorem div_mod_two (x : Int) (k : Nat) : x = (x / 2 ^ k) * 2 ^ k + x % 2 ^ k ∧ 0 ≤ x % 2 ^ k ∧ x % 2 ^ k < 2 ^ k := by
  refine ⟨?_, Int.emod_nonneg _ (Int.ne_of_gt (two_pos k)), Int.emod_lt_of_pos _ (two_pos k)⟩
  have := Int.mul_ediv_add_emod x (2 ^ k)
  rw [Int.mul_comm] at this
  omega
theorem bitOr_low {q y : Int} {k : Nat} (h0 : 0 ≤ y) (h1 : y < 2 ^ k) : Builtin.bitOr (q * 2 ^ k) y = q * 2 ^ k + y := by
  have e : Builtin.bitAnd (q * 2 ^ k) y = 0 := by
    have hy : y = Builtin.bitAnd y (2 ^ k - 1) := by rw [kbt_mask]; exact (Int.emod_eq_of_lt h0 h1).symm
    have h2 : ∀ j : Nat, ∀ q y : Int, 0 ≤ y → y < 2 ^ j → Builtin.bitAnd (q * 2 ^ j) y = 0 := by
      intro j
      induction j with
      | zero => intro q y a b; have : y = 0 := by simp at b; omega
                subst this; exact bitAnd_zero _
      | succ j ih =>
        intro q y a b
        rw [kbt_halves]
        have e1 : q * 2 ^ (j + 1) = 2 * (q * 2 ^ j) := by rw [Int.pow_succ]; simp [Int.mul_assoc, Int.mul_comm, Int.mul_left_comm]
        have b' : y < 2 * 2 ^ j := by rw [Int.pow_succ, Int.mul_comm] at b; exact b
        have e2 : 2 * (q * 2 ^ j) / 2 = q * 2 ^ j := by omega
        rw [e1, e2, ih q (y / 2) (by omega) (by omega)]
        have e3 : ¬ (2 * (q * 2 ^ j) % 2 = 1 ∧ y % 2 = 1) := by omega
        rw [if_neg e3]; rfl
    exact h2 k q y h0 h1
  rw [bitOr_and, e]; omega
theorem bitXor_high {x : Int} {k : Nat} (h0 : 0 ≤ x) : Builtin.bitXor x (x / 2 ^ k * 2 ^ k) = x % 2 ^ k := by
  have ⟨e, a, b⟩ := div_mod_two x k
  have o : Builtin.bitOr (x / 2 ^ k * 2 ^ k) (x % 2 ^ k) = x := by rw [bitOr_low a b]; exact e.symm
  have hand : Builtin.bitAnd (x / 2 ^ k * 2 ^ k) (x % 2 ^ k) = 0 := by
    have := bitOr_and (x / 2 ^ k * 2 ^ k) (x % 2 ^ k)
    rw [bitOr_low a b] at this; omega
  -- x & high = high
  have h3 : Builtin.bitAnd x (x / 2 ^ k * 2 ^ k) = x / 2 ^ k * 2 ^ k := by
    have h2 : ∀ j : Nat, ∀ q y : Int, 0 ≤ y → y < 2 ^ j → Builtin.bitAnd (q * 2 ^ j + y) (q * 2 ^ j) = q * 2 ^ j := by
      intro j
      induction j with
      | zero => intro q y a b; have : y = 0 := by simp at b; omega
                subst this; rw [Int.add_zero]; exact bitAnd_self _
      | succ j ih =>
        intro q y a b
        rw [kbt_halves]
        have e1 : q * 2 ^ (j + 1) = 2 * (q * 2 ^ j) := by rw [Int.pow_succ]; simp [Int.mul_assoc, Int.mul_comm, Int.mul_left_comm]
        have b' : y < 2 * 2 ^ j := by rw [Int.pow_succ, Int.mul_comm] at b; exact b
        have e2 : 2 * (q * 2 ^ j) / 2 = q * 2 ^ j := by omega
        have e4 : (2 * (q * 2 ^ j) + y) / 2 = q * 2 ^ j + y / 2 := by omega
        rw [e1, e2, e4, ih q (y / 2) (by omega) (by omega)]
        have e3 : ¬ ((2 * (q * 2 ^ j) + y) % 2 = 1 ∧ 2 * (q * 2 ^ j) % 2 = 1) := by omega
        rw [if_neg e3]; omega
    have := h2 k (x / 2 ^ k) (x % 2 ^ k) a b
    rw [← e] at this; exact this
  rw [bitXor_and, h3]; omega

theorem bits_of_lt {x : Int} {k : Nat} (h0 : 0 ≤ x) (h : x < 2 ^ k) : intBits x ≤ k := by
  refine intBits_le_iff.mpr ?_
  have : ((x.natAbs : Nat) : Int) < ((2 ^ k : Nat) : Int) := by rw [kbt_cast]; omega
  exact_mod_cast this
theorem lt_of_bits {x : Int} {k : Nat} (h0 : 0 ≤ x) (h : intBits x ≤ k) : x < 2 ^ k := by
  have h1 := intBits_le_iff.mp h
  have : ((x.natAbs : Nat) : Int) < ((2 ^ k : Nat) : Int) := by exact_mod_cast h1
  rw [kbt_cast] at this; omega
/-- b has n bits -/
def Norm (b : Int) (n : Nat) : Prop := 0 < n ∧ (2 : Int) ^ n ≤ 2 * b ∧ b < 2 ^ n
theorem Norm.pos {b : Int} {n : Nat} (h : Norm b n) : 0 < b := by have := two_pos n; have := h.2.1; omega
theorem norm_bits {b : Int} (hb : 0 < b) : Norm b (intBits b) := by
  have h1 : b < 2 ^ intBits b := lt_of_bits (by omega) (Nat.le_refl _)
  have h0 : 0 < intBits b := by
    rcases Nat.eq_zero_or_pos (intBits b) with e | e
    · rw [e] at h1; simp at h1; omega
    · exact e
  refine ⟨h0, ?_, h1⟩
  obtain ⟨j, hj⟩ : ∃ j, intBits b = j + 1 := ⟨intBits b - 1, by omega⟩
  rw [hj, Int.pow_succ]
  by_cases hlt : b < 2 ^ j
  · have := bits_of_lt (by omega) hlt; omega
  · omega
/-- the halves of a normed number -/
theorem norm_half {b : Int} {k : Nat} (hk : 0 < k) (h : Norm b (k + k)) : Norm (b / 2 ^ k) k := by
  obtain ⟨_, h1, h2⟩ := h
  have ⟨e, a, c⟩ := div_mod_two b k
  have hp := two_pos k
  obtain ⟨j, rfl⟩ : ∃ j, k = j + 1 := ⟨k - 1, by omega⟩
  have ev : (2 : Int) ^ (j + 1) = 2 * 2 ^ j := by rw [Int.pow_succ]; omega
  rw [Int.pow_add] at h1 h2
  refine ⟨hk, ?_, ?_⟩
  · have : (2 : Int) ^ (j + 1) * 2 ^ (j + 1) < (2 * (b / 2 ^ (j + 1)) + 2) * 2 ^ (j + 1) := by
      have : (2 * (b / 2 ^ (j + 1)) + 2) * 2 ^ (j + 1) = 2 * (b / 2 ^ (j + 1) * 2 ^ (j + 1)) + 2 * 2 ^ (j + 1) := by rw [Int.add_mul, Int.mul_assoc]
      rw [this]; omega
    have := Int.lt_of_mul_lt_mul_right this (Int.le_of_lt hp)
    omega
  · have : b / 2 ^ (j + 1) * 2 ^ (j + 1) < 2 ^ (j + 1) * 2 ^ (j + 1) := by omega
    exact Int.lt_of_mul_lt_mul_right this (Int.le_of_lt hp)
theorem norm_pad {b : Int} {n : Nat} (h : Norm b n) : Norm (b * 2) (n + 1) := by
  obtain ⟨a, b1, c⟩ := h
  refine ⟨by omega, ?_, ?_⟩ <;> rw [Int.pow_succ] <;> omega

/-- what the division of three halves by two is asked -/
structure Pre3 (a12 a3 b b1 b2 : Int) (n : Nat) : Prop where
  a0 : 0 ≤ a12
  alt : a12 < b
  c0 : 0 ≤ a3
  c1 : a3 < 2 ^ n
  eb : b = b1 * 2 ^ n + b2
  d0 : 0 ≤ b2
  d1 : b2 < 2 ^ n
  nb : Norm b1 n
structure Pre2 (a b : Int) (n : Nat) : Prop where
  a0 : 0 ≤ a
  alt : a < b * 2 ^ n
  nb : Norm b n
/-- quotient and rest -/
def QR (a b q r : Int) : Prop := a = q * b + r ∧ 0 ≤ r ∧ r < b

section
variable {a12 a3 b b1 b2 : Int} {n : Nat}
theorem Pre3.bpos (h : Pre3 a12 a3 b b1 b2 n) : 0 < b := by have := h.a0; have := h.alt; omega
/-- the high part is at most b1 -/
theorem Pre3.top (h : Pre3 a12 a3 b b1 b2 n) : a12 / 2 ^ n ≤ b1 := by
  have ⟨e, a, c⟩ := div_mod_two a12 n
  have hp := two_pos n
  have := h.alt; have := h.eb; have := h.d1
  have : a12 / 2 ^ n * 2 ^ n < (b1 + 1) * 2 ^ n := by rw [Int.add_mul]; omega
  have := Int.lt_of_mul_lt_mul_right this (Int.le_of_lt hp)
  omega
theorem Pre3.to2 (h : Pre3 a12 a3 b b1 b2 n) (hne : a12 / 2 ^ n ≠ b1) : Pre2 a12 b1 n := by
  refine ⟨h.a0, ?_, h.nb⟩
  have ⟨e, a, c⟩ := div_mod_two a12 n
  have hp := two_pos n
  have := h.top
  have h1 : a12 / 2 ^ n + 1 ≤ b1 := by omega
  have h2 := Int.mul_le_mul_of_nonneg_right h1 (Int.le_of_lt hp)
  rw [Int.add_mul] at h2; omega
/-- the first guess -/
theorem Pre3.guess {q r : Int} (h : Pre3 a12 a3 b b1 b2 n) (e : a12 = q * b1 + r) : a12 * 2 ^ n + a3 = q * b + (r * 2 ^ n + a3 - q * b2) := by
  rw [e, h.eb, Int.add_mul, Int.mul_add, Int.mul_assoc]; omega
theorem Pre3.guessQ {q r : Int} (h : Pre3 a12 a3 b b1 b2 n) (hne : a12 / 2 ^ n ≠ b1) (hq : QR a12 b1 q r) :
    0 ≤ q ∧ q < 2 ^ n ∧ 0 ≤ r ∧ r < 2 ^ n ∧ r * 2 ^ n + a3 - q * b2 < b := by
  obtain ⟨e, r0, r1⟩ := hq
  have hp := two_pos n
  have hb1 := h.nb.pos
  have hq0 : 0 ≤ q := by
    rcases Int.lt_or_le q 0 with hn | hn
    · have := Int.mul_le_mul_of_nonneg_right (show q ≤ -1 by omega) (Int.le_of_lt hb1)
      have := h.a0; omega
    · exact hn
  have hq1 : q < 2 ^ n := by
    have h2 := (h.to2 hne).alt
    have h3 : q * b1 < 2 ^ n * b1 := by rw [Int.mul_comm (2 ^ n) b1]; omega
    exact Int.lt_of_mul_lt_mul_right h3 (Int.le_of_lt hb1)
  refine ⟨hq0, hq1, r0, by have := h.nb.2.2; omega, ?_⟩
  have : 0 ≤ q * b2 := Int.mul_nonneg hq0 h.d0
  have h4 : (r + 1) * 2 ^ n ≤ b1 * 2 ^ n := Int.mul_le_mul_of_nonneg_right (by omega) (Int.le_of_lt hp)
  rw [Int.add_mul] at h4
  have := h.eb; have := h.d0; have := h.c1; omega
theorem Pre3.guessT {q r : Int} (h : Pre3 a12 a3 b b1 b2 n) (he : a12 / 2 ^ n = b1) (hq : q = 2 ^ n - 1) (hr : r = a12 - b1 * 2 ^ n + b1) :
    a12 = q * b1 + r ∧ 0 ≤ q ∧ q < 2 ^ n ∧ 0 ≤ r ∧ r < 2 ^ (n + 1) ∧ r * 2 ^ n + a3 - q * b2 < b := by
  have hp := two_pos n
  have ⟨e2, a, c⟩ := div_mod_two a12 n
  rw [he] at e2
  have e1 : a12 = q * b1 + r := by rw [hr, hq, Int.sub_mul, Int.mul_comm (2 ^ n) b1]; omega
  have hb1 := h.nb.pos; have := h.nb.2.2; have := h.alt; have := h.eb; have := h.d1
  refine ⟨e1, by omega, by omega, by omega, by rw [Int.pow_succ]; omega, ?_⟩
  have g := h.guess e1
  have t : a12 * 2 ^ n + a3 < b * 2 ^ n := by
    have h4 : (a12 + 1) * 2 ^ n ≤ b * 2 ^ n := Int.mul_le_mul_of_nonneg_right (by omega) (Int.le_of_lt hp)
    rw [Int.add_mul] at h4
    have := h.c1; omega
  have e3 : q * b = b * 2 ^ n - b := by rw [hq, Int.sub_mul, Int.mul_comm (2 ^ n) b]; omega
  omega
end

theorem qr_lt {a b q r : Int} {k : Nat} (hb : 0 < b) (h0 : 0 ≤ a) (ha : a < b * 2 ^ k) (h : QR a b q r) : 0 ≤ q ∧ q < 2 ^ k := by
  obtain ⟨e, r0, r1⟩ := h
  constructor
  · rcases Int.lt_or_le q 0 with hn | hn
    · have := Int.mul_le_mul_of_nonneg_right (show q ≤ -1 by omega) (Int.le_of_lt hb); omega
    · exact hn
  · have h3 : q * b < 2 ^ k * b := by rw [Int.mul_comm (2 ^ k) b]; omega
    exact Int.lt_of_mul_lt_mul_right h3 (Int.le_of_lt hb)

section
variable {a b : Int} {k : Nat}
theorem parts (a : Int) (k : Nat) : a = (a / 2 ^ (k + k) * 2 ^ k + a / 2 ^ k % 2 ^ k) * 2 ^ k + a % 2 ^ k := by
  have ⟨e, _, _⟩ := div_mod_two a k
  have ⟨e2, _, _⟩ := div_mod_two (a / 2 ^ k) k
  have e3 : a / 2 ^ k / 2 ^ k = a / 2 ^ (k + k) := by rw [Int.ediv_ediv_of_nonneg (Int.le_of_lt (two_pos k)), ← Int.pow_add]
  rw [e3] at e2
  rw [← e2]; exact e
theorem Pre2.first (hk : 0 < k) (h : Pre2 a b (k + k)) : Pre3 (a / 2 ^ (k + k)) (a / 2 ^ k % 2 ^ k) b (b / 2 ^ k) (b % 2 ^ k) k := by
  have hp := two_pos (k + k)
  have ⟨e, x, y⟩ := div_mod_two b k
  have ⟨_, u, v⟩ := div_mod_two (a / 2 ^ k) k
  refine ⟨Int.ediv_nonneg h.a0 (Int.le_of_lt hp), Int.ediv_lt_of_lt_mul hp h.alt, u, v, e, x, y, norm_half hk h.nb⟩
theorem Pre2.second {q1 r1 : Int} (hk : 0 < k) (h : Pre2 a b (k + k)) (h1 : QR (a / 2 ^ (k + k) * 2 ^ k + a / 2 ^ k % 2 ^ k) b q1 r1) : Pre3 r1 (a % 2 ^ k) b (b / 2 ^ k) (b % 2 ^ k) k := by
  have f := h.first hk
  have ⟨_, u, v⟩ := div_mod_two a k
  exact ⟨h1.2.1, h1.2.2, u, v, f.eb, f.d0, f.d1, f.nb⟩
theorem Pre2.q1 {q1 r1 : Int} (hk : 0 < k) (h : Pre2 a b (k + k)) (h1 : QR (a / 2 ^ (k + k) * 2 ^ k + a / 2 ^ k % 2 ^ k) b q1 r1) : 0 ≤ q1 ∧ q1 < 2 ^ k := by
  have f := h.first hk
  have hp := two_pos k
  refine qr_lt f.bpos ?_ ?_ h1
  · have := Int.mul_nonneg f.a0 (Int.le_of_lt hp); have := f.c0; omega
  · have h4 : (a / 2 ^ (k + k) + 1) * 2 ^ k ≤ b * 2 ^ k := Int.mul_le_mul_of_nonneg_right (by have := f.alt; omega) (Int.le_of_lt hp)
    rw [Int.add_mul] at h4
    have := f.c1; omega
theorem Pre2.done {q1 r1 q2 r2 : Int} (hk : 0 < k) (h : Pre2 a b (k + k)) (h1 : QR (a / 2 ^ (k + k) * 2 ^ k + a / 2 ^ k % 2 ^ k) b q1 r1) (h2 : QR (r1 * 2 ^ k + a % 2 ^ k) b q2 r2) :
    0 ≤ q2 ∧ q2 < 2 ^ k ∧ QR a b (q1 * 2 ^ k + q2) r2 := by
  have f := h.second hk h1
  have hp := two_pos k
  have ⟨x, y⟩ : 0 ≤ q2 ∧ q2 < 2 ^ k := by
    refine qr_lt f.bpos ?_ ?_ h2
    · have := Int.mul_nonneg f.a0 (Int.le_of_lt hp); have := f.c0; omega
    · have h4 : (r1 + 1) * 2 ^ k ≤ b * 2 ^ k := Int.mul_le_mul_of_nonneg_right (by have := f.alt; omega) (Int.le_of_lt hp)
      rw [Int.add_mul] at h4
      have := f.c1; omega
  refine ⟨x, y, ?_, h2.2⟩
  have p := parts a k
  rw [h1.1, Int.add_mul, Int.add_assoc, h2.1, ← Int.add_assoc] at p
  rw [Int.add_mul, p]
  congr 2
  rw [Int.mul_assoc, Int.mul_comm b, ← Int.mul_assoc]
theorem Pre2.pad {n : Nat} (h : Pre2 a b n) : Pre2 (a * 2) (b * 2) (n + 1) := by
  refine ⟨by have := h.a0; omega, ?_, norm_pad h.nb⟩
  rw [Int.pow_succ]
  have h1 := h.alt
  have e : b * 2 * (2 ^ n * 2) = b * 2 ^ n * 4 := by rw [Int.mul_assoc, Int.mul_left_comm 2, ← Int.mul_assoc]; rfl
  rw [e]
  have := h.a0
  generalize b * 2 ^ n = z at *
  omega
theorem qr_pad {q r : Int} (h : QR (a * 2) (b * 2) q r) : QR a b q (r / 2) := by
  obtain ⟨e, x, y⟩ := h
  rw [← Int.mul_assoc] at e
  unfold QR
  generalize q * b = z at *
  omega
end
theorem Pre2.bits {a b : Int} {n : Nat} (h : Pre2 a b n) : intBits a ≤ n + n := by
  refine bits_of_lt h.a0 (Int.lt_trans h.alt ?_)
  rw [Int.pow_add]
  exact Int.mul_lt_mul_of_pos_right h.nb.2.2 (two_pos n)
theorem Norm.bits {b : Int} {n : Nat} (h : Norm b n) : intBits b ≤ n := bits_of_lt (Int.le_of_lt h.pos) h.2.2
theorem qr_fdiv {a b : Int} (hb : 0 < b) : QR a b (a.fdiv b) (a.fmod b) := by
  rw [Int.fdiv_eq_ediv_of_nonneg _ (Int.le_of_lt hb), Int.fmod_eq_emod_of_nonneg _ (Int.le_of_lt hb)]
  refine ⟨?_, Int.emod_nonneg _ (Int.ne_of_gt hb), Int.emod_lt_of_pos _ hb⟩
  have := Int.mul_ediv_add_emod a b
  rw [Int.mul_comm] at this; omega
end Mine
end
section
open PySem PySem.W PyProof.Rows PySem.Calls
set_option Elab.async false
set_option maxRecDepth 100000
local macro_rules | `(tactic| omega) => `(tactic| lia)
namespace Mine
open Builtin.Int (intBits)

/-- the walk stands still here -/
def Stop (p : Prop) : Prop := p
theorem Stop.mk {p : Prop} (h : Stop p) : p := h
theorem Stop.go {p : Prop} (h : p) : Stop p := h

section
variable {prog : Program} {w : World} {A : Around} {E : Value → Shared → Prop} {s : Shared} {x y n : Int} {t u : Tok} {Q : Value → Shared → Prop} {k j : Nat}
theorem op_lsh (hn : n = (k : Int)) (hx : intBits x ≤ j) (hsz : j + k ≤ 134217728) (h : ∀ z, z = x * 2 ^ k → Q (.int z s.toks) { s with toks := s.toks + 1 }) :
    wpAny (model prog w) A (binaryOp .LShift (.int x t) (.int n u)) Q E s := by
  subst hn
  exact lshift_int (a := x) (n := (k : Int)) (Int.natCast_nonneg k) (by have : ((2 : Int) ^ 27) = 134217728 := by decide
                                                                        rw [this]; omega) (h _ (by rw [Int.toNat_natCast]))
theorem op_ilsh (hn : n = (k : Int)) (hx : intBits x ≤ j) (hsz : j + k ≤ 134217728) (h : ∀ z, z = x * 2 ^ k → Q (.int z s.toks) { s with toks := s.toks + 1 }) :
    wpAny (model prog w) A (inplaceOp .LShift (.int x t) (.int n u)) Q E s := by
  subst hn
  exact ilshift_int (a := x) (n := (k : Int)) (Int.natCast_nonneg k) (by have : ((2 : Int) ^ 27) = 134217728 := by decide
                                                                         rw [this]; omega) (h _ (by rw [Int.toNat_natCast]))
theorem op_rsh (hn : n = (k : Int)) (h : ∀ z, z = x / 2 ^ k → Q (.int z s.toks) { s with toks := s.toks + 1 }) :
    wpAny (model prog w) A (binaryOp .RShift (.int x t) (.int n u)) Q E s := by
  subst hn
  exact rshift_int (Int.natCast_nonneg k) (h _ (by rw [Int.toNat_natCast]; exact fdiv_two x k))
theorem op_irsh (hn : n = (k : Int)) (h : ∀ z, z = x / 2 ^ k → Q (.int z s.toks) { s with toks := s.toks + 1 }) :
    wpAny (model prog w) A (inplaceOp .RShift (.int x t) (.int n u)) Q E s := by
  subst hn
  exact irshift_int (Int.natCast_nonneg k) (h _ (by rw [Int.toNat_natCast]; exact fdiv_two x k))
theorem op_mask (hm : y = 2 ^ k - 1) (h : ∀ z, z = x % 2 ^ k → Q (.int z s.toks) { s with toks := s.toks + 1 }) :
    wpAny (model prog w) A (binaryOp .BitAnd (.int x t) (.int y u)) Q E s := by
  subst hm
  exact and_int (h _ (kbt_mask x k))
theorem op_or {q : Int} (hx : x = q * 2 ^ k) (h0 : 0 ≤ y) (h1 : y < 2 ^ k) (h : ∀ z, z = q * 2 ^ k + y → Q (.int z s.toks) { s with toks := s.toks + 1 }) :
    wpAny (model prog w) A (binaryOp .BitOr (.int x t) (.int y u)) Q E s := by
  subst hx
  exact or_int (h _ (bitOr_low h0 h1))
theorem op_xor (h0 : 0 ≤ x) (hy : y = x / 2 ^ k * 2 ^ k) (h : ∀ z, z = x % 2 ^ k → Q (.int z s.toks) { s with toks := s.toks + 1 }) :
    wpAny (model prog w) A (binaryOp .BitXor (.int x t) (.int y u)) Q E s := by
  subst hy
  exact xor_int (h _ (bitXor_high h0))
theorem op_mul (hx : intBits x ≤ j) (hy : intBits y ≤ k) (hsz : j + k ≤ 134217728) (h : ∀ z, z = x * y → Q (.int z s.toks) { s with toks := s.toks + 1 }) :
    wpAny (model prog w) A (binaryOp .Mult (.int x t) (.int y u)) Q E s := mul_int (h _ rfl) (IntMulOk.of_le hx hy hsz)
theorem op_sub (h : ∀ z, z = x - y → Q (.int z s.toks) { s with toks := s.toks + 1 }) :
    wpAny (model prog w) A (binaryOp .Sub (.int x t) (.int y u)) Q E s := sub_int' (h _ rfl)
theorem op_divmod {h₀ base : Heap} {L : Addr} {m : Str → Option Value} {news : List (Addr × Obj)} {p : Program} {loose : List Str} {mean : ExcName → Option Value} {mg mb : Str → Option Value} {A₀ : Around} {env : Env} {outer : List Env}
    (B : Below A₀ base outer h₀) (F : Fr h₀ L s.heap m) (N : News h₀ L s.heap news) (T : Top p loose mean mg mb h₀) (NS : base.NoSeer) (hb : y ≠ 0) (ht : prog.given.tree = none) (hd : A.depth + 100 < 1000)
    (hA : A.frames = some (env :: outer)) (hg : env.scope.isGenerator = false) (hc : env.scope.isCoroutine = false) (hb' : env.builtins = builtinsNs) (hgl : env.globals = mainGlobals)
    (h : ∀ r h', s.heap.objs.size ≤ r → Fr h₀ L h' m → News h₀ L h' ((r, { cls := .type "tuple", data := .seq #[.int (x.fdiv y) s.toks, .int (x.fmod y) (s.toks + 1)] }) :: news) →
      Q (.ref r) { s with toks := s.toks + 1 + 1, heap := h' }) :
    wpAny (model prog w) A (call (.builtin "divmod") [.int x t, .int y u]) Q E s :=
  divmod_N F N hb (fun h' F' N' => h _ h' (Nat.le_refl _) F' N') (.inr (PylongRoom.of (T.nolimit.keeps F.keep) hd (SeerAt.of ((NS.keeps B.stays).keeps F.keep) ht hA hg hc hb' hgl)))
end

section
variable {w : World} {f : Addr} {vs : List Value} {rm : Nat} {as : List Addr} {Pre : Heap → Prop} {Post : Heap → Value → Heap → Prop}
  {dp un : Nat} {gd : Option (List Code)} {cn : Str} {cs : Scope} {fa : Addr} {ccd : Value} {cl : List (Str × Addr)} {A₀ : Around} {outer : List Env} {base h₀ : Heap} {L : Addr} {m : Str → Option Value} {s : Shared} {p : Program} {loose : List Str} {mean : ExcName → Option Value} {mg mb : Str → Option Value} {Q E : Value → Shared → Prop} {news : List (Addr × Obj)}
/-- a call by its contract, nothing changed -/
theorem con_use0 (C : Con w f vs rm [] Pre Post) (B : Below A₀ base outer h₀) (F : Fr h₀ L s.heap m) (X : (hd.heap_39 w.params).In h₀) (T : Top p loose mean mg mb h₀) (NS : base.NoSeer) (CA : CodeAll tabs2 base) (N : News h₀ L s.heap news)
    (hk : cs.kind = .function) (hd : dp + rm < 880) (hu : un + 8 * rm < 9800) (hpre : Pre s.heap)
    (ret : ∀ r h' tk', KeepBut [] s.heap h' → Fr h₀ L h' m → News h₀ L h' news → Post s.heap r h' → Q r { s with heap := h', toks := tk' }) :
    wpAny (model PySem.Challenge.rw_re0060_01.row.prog w) (ktrTop dp un gd cn cs L fa ccd cl outer) (call (.ref f) vs) Q E s :=
  C _ _ _ _ _ _ _ _ _ _ _ _ _ _ _ _ _ _ _ _ _ _ B F X T NS CA hk hd hu (fun _ h => nomatch h) hpre fun r h' tk' k po =>
    ret r h' tk' k (fr_keepBut F k fun _ h => nomatch h) (news_keepBut N k fun _ _ h => nomatch h) po
end
section
variable {prog : Program} {w : World} {A : Around} {E : Value → Shared → Prop} {s : Shared} {h₀ : Heap} {L : Addr} {m : Str → Option Value} {news : List (Addr × Obj)} {x y : Int} {t u : Tok} {Q : Value → Shared → Prop}
theorem op_fdivN (hy : 0 < y) (hs : y < 1073741824) (h : ∀ z, z = x / y → Q (.int z s.toks) { s with toks := s.toks + 1 }) :
    wpAny (model prog w) A (binaryOp .FloorDiv (.int x t) (.int y u)) Q E s :=
  floordiv_int (by omega) (h _ (Int.fdiv_eq_ediv_of_nonneg _ (by omega))) (.inl (PyProof.noPylong_small (by omega)))
theorem flatten_zeros (k : Nat) : (List.replicate k [(0 : Int)]).flatten = List.replicate k 0 := by
  induction k with
  | zero => rfl
  | succ k ih => rw [List.replicate_succ, List.flatten_cons, ih]; rfl
theorem op_zeros {l : Addr} {c k : Nat} {t0 : Tok} (F : Fr h₀ L s.heap m) (N : News h₀ L s.heap news) (hm : (l, listOf #[.int 0 t0] c) ∈ news) (hx : x = (k : Int)) (hk : k ≤ 16777216)
    (h : ∀ D h' vs, Fr h₀ L h' m → News h₀ L h' ((D, listOf vs.toArray 0) :: news) → (∀ p ∈ news, p.1 < D) → IntsAre vs (List.replicate k 0) → Q (.ref D) { s with heap := h' }) :
    wpAny (model prog w) A (binaryOp .Mult (.ref l) (.int x u)) Q E s := by
  subst hx
  refine KM.mul (vs := [.int 0 t0]) (ns := [0]) F N (News.isList N hm) (.cons _ _ .nil) (by omega) (by omega) (by simp; omega) fun D h' F' N' l1 i1 _ _ _ _ _ => h D h' _ F' N' l1 ?_
  rw [Int.toNat_natCast] at i1 ⊢
  rw [flatten_zeros] at i1
  exact i1
end
/-- a pair of ints at r, new -/
def PairAt (h : Heap) (r : Value) (h' : Heap) (a b : Int) : Prop := ∃ x t u n, r = .ref x ∧ h.get? x = none ∧ h'.get? x = some { cls := .type "tuple", data := .seq #[.int a t, .int b u] n }
section
variable {w : World} {f : Addr} {vs : List Value} {rm : Nat} {as : List Addr} {Pre : Heap → Prop} {R : Int → Int → Prop}
  {dp un : Nat} {gd : Option (List Code)} {cn : Str} {cs : Scope} {fa : Addr} {ccd : Value} {cl : List (Str × Addr)} {A₀ : Around} {outer : List Env} {base h₀ : Heap} {L : Addr} {m : Str → Option Value} {s : Shared} {p : Program} {loose : List Str} {mean : ExcName → Option Value} {mg mb : Str → Option Value} {Q E : Value → Shared → Prop} {news : List (Addr × Obj)}
theorem news_new {h h' : Heap} {D : Addr} {o : Obj} (F : Fr h₀ L h m) (N : News h₀ L h' news) (l : h.get? D = none) (e : h'.get? D = some o) : News h₀ L h' ((D, o) :: news) := fun p hp => by
  rcases List.mem_cons.mp hp with rfl | hp
  · refine ⟨e, fun (q : D = L) => ?_, ?_⟩
    · obtain ⟨oL, _, _, hL, _⟩ := F.ns
      rw [q, hL] at l; cases l
    · cases q : h₀.get? D with
      | none => rfl
      | some o' => have := F.keep D o' q; rw [l] at this; cases this
  · exact N p hp
theorem news_ne {h : Heap} {D : Addr} (N : News h₀ L h news) (l : h.get? D = none) : ∀ p ∈ news, p.1 ≠ D := fun p hp q => by
  have := (N p hp).1; rw [q, l] at this; cases this
/-- a call by its contract, nothing changed, a pair of ints made -/
theorem con_pair (C : Con w f vs rm [] Pre (fun h r h' => ∃ q rr, PairAt h r h' q rr ∧ R q rr)) (B : Below A₀ base outer h₀) (F : Fr h₀ L s.heap m) (X : (hd.heap_39 w.params).In h₀) (T : Top p loose mean mg mb h₀) (NS : base.NoSeer) (CA : CodeAll tabs2 base) (N : News h₀ L s.heap news)
    (hk : cs.kind = .function) (hd : dp + rm < 880) (hu : un + 8 * rm < 9800) (hpre : Pre s.heap)
    (ret : ∀ q rr D t u n h' tk', R q rr → KeepBut [] s.heap h' → Fr h₀ L h' m → News h₀ L h' ((D, { cls := .type "tuple", data := .seq #[.int q t, .int rr u] n }) :: news) → (∀ p ∈ news, p.1 ≠ D) → Q (.ref D) { s with heap := h', toks := tk' }) :
    wpAny (model PySem.Challenge.rw_re0060_01.row.prog w) (ktrTop dp un gd cn cs L fa ccd cl outer) (call (.ref f) vs) Q E s :=
  con_use0 C B F X T NS CA N hk hd hu hpre fun r h' tk' k F' N' ⟨q, rr, ⟨D, t, u, n, e, l, eD⟩, hR⟩ => by
    subst e
    exact ret q rr D t u n h' tk' hR k F' (news_new F N' l eD) (news_ne N l)
end
theorem fresh_of {s : Heap} {as : List Addr} {L D : Addr} {o : Obj} {g h' : Heap} {news : List (Addr × Obj)} (KB : KeepBut as s g) (N : News g L h' news) (hm : (D, o) ∈ news) (ha : D ∉ as) : s.get? D = none := by
  cases q : s.get? D with
  | none => rfl
  | some o' => have e := KB D o' ha q; rw [(N _ hm).2.2] at e; cases e
theorem fresh_back {s g h : Heap} {as : List Addr} {L c : Addr} {m : Str → Option Value} (KB : KeepBut as s g) (F : Fr g L h m) (n : h.get? c = none) (ha : ∀ a ∈ as, ∃ o, h.get? a = some o) : s.get? c = none := by
  cases q : s.get? c with
  | none => rfl
  | some o =>
    by_cases hc : c ∈ as
    · obtain ⟨o', e⟩ := ha c hc; rw [n] at e; cases e
    · have e := F.keep c o (KB c o hc q); rw [n] at e; cases e
theorem keep_of {s g h : Heap} {as : List Addr} {L : Addr} {m : Str → Option Value} (KB : KeepBut as s g) (F : Fr g L h m) : KeepBut as s h := fun b o n e => F.keep b o (KB b o n e)
theorem tree_none : PySem.Challenge.rw_re0060_01.row.prog.given.tree = none := rfl
end Mine
end
section
open PySem PySem.W PyProof.Rows PySem.Calls
set_option Elab.async false
set_option maxRecDepth 100000
set_option maxHeartbeats 8000000
set_option pp.deepTerms.threshold 4
local macro_rules | `(tactic| omega) => `(tactic| lia)
local macro_rules | `(tactic| k_steps) => `(tactic| repeat' (first | (k_unfold; (try dsimp only)) | (k_end; wrow_close) | (walk1; (try dsimp only)) | (dsimp only; walk1) | (leave1; walk_say "STEP leave1"; try dsimp only) | fail "no step"))
namespace Mine
open Builtin.Int (intBits)
local macro_rules | `(tactic| walk_at "binaryOp RShift int int") => `(tactic| refine Stop.mk ?_)
local macro_rules | `(tactic| walk_at "binaryOp LShift int int") => `(tactic| refine Stop.mk ?_)
local macro_rules | `(tactic| walk_at "binaryOp BitOr int int") => `(tactic| refine Stop.mk ?_)
local macro_rules | `(tactic| walk_at "binaryOp BitAnd int int") => `(tactic| refine Stop.mk ?_)
local macro_rules | `(tactic| walk_at "binaryOp Mult int int") => `(tactic| refine Stop.mk ?_)
local macro_rules | `(tactic| walk_at "call ref") => `(tactic| refine Stop.mk ?_)

local macro_rules | `(tactic| walk_at "exec While") => `(tactic| refine Stop.mk ?_)
theorem reg1 : True := by
  k_with "enter" => (refine wpAny_call ?_; w_on; k_dflt (refine' code_defY (news := []) ?k1 ?k2 ?k3 ?k4 ?k5 ?kA ?kF ?kK ?k6 ?k7 ?k8 ?k9 ?kB ?_ ?c2 ?c3 ?c4 ?c5; (case kA => exact rfl); (case kF => exact rfl); (case kK => assumption); (case k1 => k_asm); (case k2 => k_asm); (case k3 => k_asm); (case k4 => exact News.nil); (case k5 => k_asm); (case k6 => k_is); (case k7 => k_is); (case k8 => (simp only [recursionLimit, ktrTop]; omega)); (case k9 => exact BindsTo.of_eq rfl); (case c5 => decide); (case kB => exact locs rfl); (case c2 => exact rfl); (case c3 => exact rfl); (case c4 => exact rfl); k_whole; intro g' L' h' KB' SZ' F' N' B' X' T' LT'; (try dsimp only); (try k_fold)))
  trivial

theorem while_step {T q b r : Int} (h : T = q * b + r) (hr : r < 0) : T = (q - 1) * b + (r + b) ∧ r + b < b := ⟨by rw [Int.sub_mul]; omega, by omega⟩
theorem div3_con (w : World) (n rm : Nat) (hn : n ≤ 4194304) (hrm : rm ≤ 100)
    (C2 : ∀ a b ta tb tn, Pre2 a b n → Con w 21 [.int a ta, .int b tb, .int (n : Int) tn] rm [] (fun _ => True) (fun h r h' => ∃ q rr, PairAt h r h' q rr ∧ QR a b q rr))
    (a12 a3 b b1 b2 : Int) (t1 t2 t3 t4 t5 t6 : Tok) (P : Pre3 a12 a3 b b1 b2 n) :
    Con w 28 [.int a12 t1, .int a3 t2, .int b t3, .int b1 t4, .int b2 t5, .int (n : Int) t6] (rm + 1) [] (fun _ => True) (fun h r h' => ∃ q rr, PairAt h r h' q rr ∧ QR (a12 * 2 ^ n + a3) b q rr) := by
  unfold Con
  k_fill
  intro dp un gd cn cs fa ccd cl outer A₀ base h₀ L m s p loose mean mg mb Q E B F X T NS CA hk hd hu has hpre hret
  k_extra "enter"
  clear B F X T
  have hbp := P.bpos
  k_with "state" => exact while_step (by assumption) (by assumption)
  k_steps
  refine Stop.go (op_rsh (k := n) rfl ?_)
  intro hi hhi
  k_steps
  · refine Stop.go (op_lsh (k := n) (j := 1) rfl (by decide) (by omega) ?_)
    intro z hz
    rw [Int.one_mul] at hz
    k_steps
    refine Stop.go (op_lsh (k := n) (j := n) rfl P.nb.bits (by omega) ?_)
    intro y hy
    k_steps
    generalize hq : z - 1 = q at *
    generalize hr : a12 - y + b1 = r at *
    have G := P.guessT (q := q) (r := r) (by omega) (by omega) (by omega)
    refine Stop.go (op_lsh (k := n) (j := n + 1) rfl (bits_of_lt G.2.2.2.1 G.2.2.2.2.1) (by omega) ?_)
    intro x hx
    k_steps
    refine Stop.go (op_or (k := n) hx P.c0 P.c1 ?_)
    intro v hv
    k_steps
    refine Stop.go (op_mul (j := n) (k := n) (bits_of_lt G.2.1 G.2.2.1) (bits_of_lt P.d0 P.d1) (by omega) ?_)
    intro u hu'
    k_steps
    refine Stop.go ?_
    have E1 := P.guess G.1
    generalize hr0 : v - u = r0 at *
    have E2 : a12 * 2 ^ n + a3 = q * b + r0 ∧ r0 < b := ⟨by omega, by omega⟩
    clear G hr0 hu' hv hx hr hq E1 hz hhi
    k_while (fun _ q r => a12 * 2 ^ n + a3 = q * b + r ∧ r < b) (fun _ q r => (-r).toNat) "q" "r"
    k_steps
    try dsimp only
    show Q (.ref _) _
    refine hret _ _ _ (keep_of KB' (by assumption)) ⟨_, _, ⟨_, _, _, _, rfl, fresh_of KB' (by assumption) (List.Mem.head _) (by nofun), News.get (by assumption) (List.Mem.head _)⟩, by assumption, by omega, by assumption⟩
  · refine Stop.go ?_
    k_dflt (refine con_pair (C2 _ _ _ _ _ (P.to2 (by omega))) (by k_asm) (by k_asm) (by k_asm) (by k_asm) (by k_asm) (by k_asm) (by k_asm) rfl (by show dp + 1 + rm < 880; omega) (by show un + 3 + 8 * rm < 9800; omega) trivial ?_)
    intro q r D9 t9 u9 n9 h9 tk9 hqr KB9 F9 N9 l9
    have G := P.guessQ (by omega) hqr
    k_steps
    refine Stop.go (op_lsh (k := n) (j := n) rfl (bits_of_lt G.2.2.1 G.2.2.2.1) (by omega) ?_)
    intro x hx
    k_steps
    refine Stop.go (op_or (k := n) hx P.c0 P.c1 ?_)
    intro v hv
    k_steps
    refine Stop.go (op_mul (j := n) (k := n) (bits_of_lt G.1 G.2.1) (bits_of_lt P.d0 P.d1) (by omega) ?_)
    intro u hu'
    k_steps
    refine Stop.go ?_
    have E1 := P.guess hqr.1
    generalize hr0 : v - u = r0 at *
    have E2 : a12 * 2 ^ n + a3 = q * b + r0 ∧ r0 < b := ⟨by omega, by omega⟩
    clear G hr0 hu' hv hx E1 hhi hqr KB9 l9
    k_while (fun _ q r => a12 * 2 ^ n + a3 = q * b + r ∧ r < b) (fun _ q r => (-r).toNat) "q" "r"
    k_steps
    try dsimp only
    show Q (.ref _) _
    refine hret _ _ _ (keep_of KB' (by assumption)) ⟨_, _, ⟨_, _, _, _, rfl, fresh_of KB' (by assumption) (List.Mem.head _) (by nofun), News.get (by assumption) (List.Mem.head _)⟩, by assumption, by omega, by assumption⟩
end Mine
end
section
open PySem PySem.W PyProof.Rows PySem.Calls
set_option Elab.async false
set_option maxRecDepth 100000
set_option maxHeartbeats 8000000
set_option pp.deepTerms.threshold 4
local macro_rules | `(tactic| omega) => `(tactic| lia)
local macro_rules | `(tactic| k_steps) => `(tactic| repeat' (first | (k_unfold; (try dsimp only)) | (k_end; wrow_close) | (walk1; (try dsimp only)) | (dsimp only; walk1) | (leave1; walk_say "STEP leave1"; try dsimp only) | fail "no step"))
namespace Mine
open Builtin.Int (intBits)
local macro_rules | `(tactic| walk_at "binaryOp RShift int int") => `(tactic| refine Stop.mk ?_)
local macro_rules | `(tactic| walk_at "binaryOp LShift int int") => `(tactic| refine Stop.mk ?_)
local macro_rules | `(tactic| walk_at "inplaceOp LShift int int") => `(tactic| refine Stop.mk ?_)
local macro_rules | `(tactic| walk_at "inplaceOp RShift int int") => `(tactic| refine Stop.mk ?_)
local macro_rules | `(tactic| walk_at "binaryOp BitOr int int") => `(tactic| refine Stop.mk ?_)
local macro_rules | `(tactic| walk_at "binaryOp BitAnd int int") => `(tactic| refine Stop.mk ?_)
local macro_rules | `(tactic| walk_at "binaryOp Mult int int") => `(tactic| refine Stop.mk ?_)
local macro_rules | `(tactic| walk_at "call ref") => `(tactic| refine Stop.mk ?_)
local macro_rules | `(tactic| walk_at "call builtin:divmod") => `(tactic| refine Stop.mk ?_)
theorem reg2 : True := by
  k_with "enter" => (refine wpAny_call ?_; w_on; k_dflt (refine' code_defY (news := []) ?k1 ?k2 ?k3 ?k4 ?k5 ?kA ?kF ?kK ?k6 ?k7 ?k8 ?k9 ?kB ?_ ?c2 ?c3 ?c4 ?c5; (case kA => exact rfl); (case kF => exact rfl); (case kK => assumption); (case k1 => k_asm); (case k2 => k_asm); (case k3 => k_asm); (case k4 => exact News.nil); (case k5 => k_asm); (case k6 => k_is); (case k7 => k_is); (case k8 => (simp only [recursionLimit]; omega)); (case k9 => exact BindsTo.of_eq rfl); (case c5 => decide); (case kB => exact locs rfl); (case c2 => exact rfl); (case c3 => exact rfl); (case c4 => exact rfl); k_whole; intro g' L' h' KB' SZ' F' N' B' X' T' LT'; (try dsimp only); (try k_fold)))
  trivial

theorem div2_con (w : World) : ∀ k n : Nat, k ≤ 20 → n ≤ 4000 * 2 ^ k → n ≤ 4194304 → ∀ a b ta tb tn, Pre2 a b n →
    Con w 21 [.int a ta, .int b tb, .int (n : Int) tn] (2 * k + 1) [] (fun _ => True) (fun h r h' => ∃ q rr, PairAt h r h' q rr ∧ QR a b q rr) := by
  intro k
  induction k with
  | zero =>
    intro n hk20 hnk hn a b ta tb tn P
    unfold Con
    k_fill
    intro dp un gd cn cs fa ccd cl outer A₀ base h₀ L m s p loose mean mg mb Q E B F X T NS CA hk hd hu has hpre hret
    k_extra "enter"
    clear B F X T
    have hbits := P.bits
    k_steps
    refine Stop.go ?_
    refine op_divmod (by k_asm) (by k_asm) (by k_asm) (by k_asm) NS (Int.ne_of_gt P.nb.pos) tree_none (by show dp + 1 + 100 < 1000; omega) rfl rfl rfl rfl rfl ?_
    intro D9 h9 l9 F9 N9
    try dsimp only
    show Q (.ref _) _
    exact hret _ _ _ (keep_of KB' F9) ⟨_, _, ⟨_, _, _, _, rfl, fresh_of KB' N9 (List.Mem.head _) (by nofun), N9.get (List.Mem.head _)⟩, qr_fdiv P.nb.pos⟩
  | succ k ih =>
    intro n hk20 hnk hn a b ta tb tn P
    unfold Con
    k_fill
    intro dp un gd cn cs fa ccd cl outer A₀ base h₀ L m s p loose mean mg mb Q E B F X T NS CA hk hd hu has hpre hret
    k_extra "enter"
    clear B F X T
    have hbits := P.bits
    have hbb := P.nb.bits
    k_steps
    · refine Stop.go ?_
      refine op_divmod (by k_asm) (by k_asm) (by k_asm) (by k_asm) NS (Int.ne_of_gt P.nb.pos) tree_none (by show dp + 1 + 100 < 1000; omega) rfl rfl rfl rfl rfl ?_
      intro D9 h9 l9 F9 N9
      try dsimp only
      show Q (.ref _) _
      exact hret _ _ _ (keep_of KB' F9) ⟨_, _, ⟨_, _, _, _, rfl, fresh_of KB' N9 (List.Mem.head _) (by nofun), N9.get (List.Mem.head _)⟩, qr_fdiv P.nb.pos⟩
    · refine Stop.go (op_mask (k := 1) (by decide) ?_)
      intro pad hpad
      k_steps
      · refine Stop.go (op_ilsh (k := 1) (j := n + n) rfl hbits (by omega) ?_)
        intro za hza
        k_steps
        refine Stop.go (op_ilsh (k := 1) (j := n) rfl hbb (by omega) ?_)
        intro zb hzb
        k_steps
        refine Stop.go (op_rsh (k := 1) rfl ?_)
        intro half hhalf
        obtain ⟨j, rfl⟩ : ∃ j : Nat, half = (j : Int) := ⟨half.toNat, by omega⟩
        have hj : n + 1 = j + j := by omega
        have hj0 : 0 < j := by omega
        have hjk : j ≤ 4000 * 2 ^ k := by rw [Nat.pow_succ] at hnk; omega
        have P' : Pre2 za zb (j + j) := by rw [← hj, hza, hzb]; exact P.pad
        k_steps
        refine Stop.go (op_lsh (k := j) (j := 1) rfl (by decide) (by omega) ?_)
        intro z hz
        rw [Int.one_mul] at hz
        k_steps
        refine Stop.go (op_rsh (k := j) rfl ?_)
        intro b1 hb1
        k_steps
        refine Stop.go (op_mask (k := j) (by omega) ?_)
        intro b2 hb2
        k_steps
        refine Stop.go (op_rsh (k := j + j) (by show ((n : Int) + 1) = ((j + j : Nat) : Int); omega) ?_)
        intro hi hhi
        k_steps
        refine Stop.go (op_rsh (k := j) rfl ?_)
        intro md hmd
        k_steps
        refine Stop.go (op_mask (k := j) (by omega) ?_)
        intro mid hmid
        k_steps
        have P3 : Pre3 hi mid zb b1 b2 j := by rw [hhi, hmid, hmd, hb1, hb2]; exact P'.first hj0
        refine Stop.go ?_
        k_dflt (refine con_pair (div3_con w j (2 * k + 1) (by omega) (by omega) (ih j (by omega) hjk (by omega)) _ _ _ _ _ _ _ _ _ _ _ P3) (by k_asm) (by k_asm) (by k_asm) (by k_asm) (by k_asm) (by k_asm) (by k_asm) rfl (by show dp + 1 + (2 * k + 1 + 1) < 880; omega) (by show un + 3 + 8 * (2 * k + 1 + 1) < 9800; omega) trivial ?_)
        intro q1 r1 D1 t1 u1 n1 h1 tk1 hq1 KB1 F1 N1 l1
        k_steps
        refine Stop.go (op_mask (k := j) (by omega) ?_)
        intro lo hlo
        k_steps
        rw [hhi, hmid, hmd] at hq1
        have P4 : Pre3 r1 lo zb b1 b2 j := by rw [hlo, hb1, hb2]; exact P'.second hj0 hq1
        refine Stop.go ?_
        k_dflt (refine con_pair (div3_con w j (2 * k + 1) (by omega) (by omega) (ih j (by omega) hjk (by omega)) _ _ _ _ _ _ _ _ _ _ _ P4) (by k_asm) (by k_asm) (by k_asm) (by k_asm) (by k_asm) (by k_asm) (by k_asm) rfl (by show dp + 1 + (2 * k + 1 + 1) < 880; omega) (by show un + 3 + 8 * (2 * k + 1 + 1) < 9800; omega) trivial ?_)
        intro q2 r2 D2 t2 u2 n2 h2 tk2 hq2 KB2 F2 N2 l2
        rw [hlo] at hq2
        have hq1b := P'.q1 hj0 hq1
        have hdone := P'.done hj0 hq1 hq2
        k_steps
        try any_goals (exfalso; omega)
        refine Stop.go (op_irsh (k := 1) rfl ?_)
        intro r3 hr3
        k_steps
        refine Stop.go (op_lsh (k := j) (j := j) rfl (bits_of_lt hq1b.1 hq1b.2) (by omega) ?_)
        intro z2 hz2
        k_steps
        refine Stop.go (op_or (k := j) hz2 hdone.1 hdone.2.1 ?_)
        intro qf hqf
        k_steps
        try dsimp only
        show Q (.ref _) _
        have hfin : QR a b qf r3 := by rw [hqf]; exact (by rw [hr3]; rw [hza, hzb] at hdone; exact qr_pad hdone.2.2)
        exact hret _ _ _ (keep_of KB' (by assumption)) ⟨_, _, ⟨_, _, _, _, rfl, fresh_of KB' (by assumption) (List.Mem.head _) (by nofun), News.get (by assumption) (List.Mem.head _)⟩, hfin⟩
      · refine Stop.go (op_rsh (k := 1) rfl ?_)
        intro half hhalf
        obtain ⟨j, rfl⟩ : ∃ j : Nat, half = (j : Int) := ⟨half.toNat, by omega⟩
        have hj : n = j + j := by omega
        have hj0 : 0 < j := by omega
        have hjk : j ≤ 4000 * 2 ^ k := by rw [Nat.pow_succ] at hnk; omega
        have P' : Pre2 a b (j + j) := by rw [← hj]; exact P
        k_steps
        refine Stop.go (op_lsh (k := j) (j := 1) rfl (by decide) (by omega) ?_)
        intro z hz
        rw [Int.one_mul] at hz
        k_steps
        refine Stop.go (op_rsh (k := j) rfl ?_)
        intro b1 hb1
        k_steps
        refine Stop.go (op_mask (k := j) (by omega) ?_)
        intro b2 hb2
        k_steps
        refine Stop.go (op_rsh (k := j + j) (by show (n : Int) = ((j + j : Nat) : Int); omega) ?_)
        intro hi hhi
        k_steps
        refine Stop.go (op_rsh (k := j) rfl ?_)
        intro md hmd
        k_steps
        refine Stop.go (op_mask (k := j) (by omega) ?_)
        intro mid hmid
        k_steps
        have P3 : Pre3 hi mid b b1 b2 j := by rw [hhi, hmid, hmd, hb1, hb2]; exact P'.first hj0
        refine Stop.go ?_
        k_dflt (refine con_pair (div3_con w j (2 * k + 1) (by omega) (by omega) (ih j (by omega) hjk (by omega)) _ _ _ _ _ _ _ _ _ _ _ P3) (by k_asm) (by k_asm) (by k_asm) (by k_asm) (by k_asm) (by k_asm) (by k_asm) rfl (by show dp + 1 + (2 * k + 1 + 1) < 880; omega) (by show un + 3 + 8 * (2 * k + 1 + 1) < 9800; omega) trivial ?_)
        intro q1 r1 D1 t1 u1 n1 h1 tk1 hq1 KB1 F1 N1 l1
        k_steps
        refine Stop.go (op_mask (k := j) (by omega) ?_)
        intro lo hlo
        k_steps
        rw [hhi, hmid, hmd] at hq1
        have P4 : Pre3 r1 lo b b1 b2 j := by rw [hlo, hb1, hb2]; exact P'.second hj0 hq1
        refine Stop.go ?_
        k_dflt (refine con_pair (div3_con w j (2 * k + 1) (by omega) (by omega) (ih j (by omega) hjk (by omega)) _ _ _ _ _ _ _ _ _ _ _ P4) (by k_asm) (by k_asm) (by k_asm) (by k_asm) (by k_asm) (by k_asm) (by k_asm) rfl (by show dp + 1 + (2 * k + 1 + 1) < 880; omega) (by show un + 3 + 8 * (2 * k + 1 + 1) < 9800; omega) trivial ?_)
        intro q2 r2 D2 t2 u2 n2 h2 tk2 hq2 KB2 F2 N2 l2
        rw [hlo] at hq2
        have hq1b := P'.q1 hj0 hq1
        have hdone := P'.done hj0 hq1 hq2
        k_steps
        try any_goals (exfalso; omega)
        refine Stop.go (op_lsh (k := j) (j := j) rfl (bits_of_lt hq1b.1 hq1b.2) (by omega) ?_)
        intro z2 hz2
        k_steps
        refine Stop.go (op_or (k := j) hz2 hdone.1 hdone.2.1 ?_)
        intro qf hqf
        k_steps
        try dsimp only
        show Q (.ref _) _
        have hfin : QR a b qf r2 := by rw [hqf]; exact hdone.2.2
        exact hret _ _ _ (keep_of KB' (by assumption)) ⟨_, _, ⟨_, _, _, _, rfl, fresh_of KB' (by assumption) (List.Mem.head _) (by nofun), News.get (by assumption) (List.Mem.head _)⟩, hfin⟩
end Mine
end
section
open PySem PySem.W PyProof.Rows PySem.Calls PySem.Spec
set_option Elab.async false
set_option maxRecDepth 100000
namespace Mine
section
variable {prog : Program} {w : World} {A₀ A : Around} {s : Shared} {base h₀ : Heap} {outer : List Env} {L : Addr} {m mg mb : Str → Option Value} {env : Env} {news : List (Addr × Obj)} {K : Frag} {p : Program} {loose : List Str} {mean : ExcName → Option Value}
  {R : Result → Shared → Prop} {name qual : Str} {params : Arguments} {body : List Stmt} {scope : Scope} {cl : List (Str × Addr)} {dV kV doc pm cdv ct oc : Value} {an od : Option Addr} {osl : Array (Option Value)} {fo : Obj} {f : Addr} {args : Args} {binds : List (Str × Value)}

/-- the same for a def with cells -/
theorem code_defCY (B : Below A₀ base outer h₀) (F : Fr h₀ L s.heap m) (X₀ : K.In h₀) (N : News h₀ L s.heap news) (T : Top p loose mean mg mb h₀) (hA : A.frames = some (env :: outer)) (hf : env.frame = some L) (hke : env.scope.kind = .function)
    (ho : K.lookup f = some ⟨oc, od, .func (fnOf name qual params body scope dV kV doc pm an cdv ct), osl⟩) (hcd : codeIn K cdv qual = true) (hroom : A.depth < recursionLimit)
    (hbind : BindsTo s (fnOf name qual params body scope dV kV doc pm an cdv ct) args binds) (hkind : (binds.all fun y => scope.names.lookup y.1 == some .local || scope.names.lookup y.1 == some .cell) = true)
    (hnd : ((cellsFrom 0 scope.names []).map (·.1)).Nodup)
    (h : ∀ g L' h₁ tk cells, KeepBut (news.map (·.1)) s.heap g → s.heap.objs.size ≤ L' → Fr g L' h₁ (bindL (envOfC qual scope L' f cdv).kindOf binds fun _ => none) → News g L' h₁ (cells ++ news) →
      CellsAre (bindC (envOfC qual scope L' f cdv).kindOf binds fun _ => none) (cellsFrom (L' + 1) scope.names []) cells → Below A base (env :: outer) g → K.In g → Top p loose mean mg mb g → (∀ p ∈ news, p.1 < L') →
      wpAny (model prog w) (A.deeper (envOfC qual scope L' f cdv)) (execs body (envOfC qual scope L' f cdv))
        (fun fl s' => R (.ok (.ret (match fl with | .ret v => v | _ => .none))) s')
        (fun e s' => wpAny (model prog w) (A.deeper (envOfC qual scope L' f cdv)) (leaving (envOfC qual scope L' f cdv) e) (fun _ s'' => R (.error e) s'') (fun e' s'' => R (.error e') s'') s')
        { s with heap := h₁, toks := tk })
    (hco : scope.isCoroutine = false) (hgen : scope.isGenerator = false) (hk : scope.kind = .function) : codeAny (model prog w) A (.call (.ref f) args) R s := by
  have ⟨_, BG, st, _⟩ := groundX (R := R) B F N hA hf hke
  have X := X₀.keeps F.keep
  refine codeAny_call_function hroom (X _ _ ho) rfl hco hgen rfl (codeRec_of X hcd) (hbind _ _ _ _ ?_)
  refine wpAny_newFunctionEnv_cells hk (kindsX hkind _) fun env' he s' x => ?_
  subst he
  refine ⟨(T.nolimit.keeps F.keep).keeps x.toInCall.keep, codeAny_func ?_⟩
  obtain ⟨h₁, tk, rfl, _⟩ := x.done
  have hk₁ := x.toInCall.keep
  obtain ⟨cells, NC, Y⟩ := Cl.news (h₀ := s.heap) (Nat.le_refl _) fun n c hm => ⟨x.cell n c (lookup_of_mem_nodup (cellsFrom_names scope.names 0 (s.heap.objs.size + 1) [] [] rfl ▸ hnd) hm), x.above n c hm⟩
  refine h _ s.heap.objs.size h₁ tk cells (fun b o n e => hideAll_get _ e n) (Nat.le_refl _) ⟨x.toInCall.ns, fun b o e => hk₁ b o (of_hideAll _ e), Nat.le_of_eq (hideAll_size _ _)⟩ (fun p hp => ?_) Y BG (X₀.keeps st) (T.keeps st) (fun p hp => Heap.lt_size (N p hp).1)
  rcases List.mem_append.mp hp with hp | hp
  · refine ⟨(NC p hp).1, (NC p hp).2.1, ?_⟩
    cases q : (hideAll s.heap (news.map (·.1))).get? p.1 with
    | none => rfl
    | some o => have := of_hideAll _ q; rw [(NC p hp).2.2] at this; cases this
  · exact ⟨hk₁ _ _ (N p hp).1, Nat.ne_of_lt (Heap.lt_size (N p hp).1), hideAll_none _ (List.mem_map_of_mem hp)⟩

/-- the same for a def that the call has made (with a closure) -/
theorem code_nestY (B : Below A₀ base outer h₀) (F : Fr h₀ L s.heap m) (X₀ : K.In h₀) (N : News h₀ L s.heap news) (T : Top p loose mean mg mb h₀) (hA : A.frames = some (env :: outer)) (hf : env.frame = some L) (hke : env.scope.kind = .function)
    {c' : Addr} {ctv : Value}
    (ho : (f, fnMade name qual params body scope cl doc pm c' ctv) ∈ news) (hcd : s.heap.CodeRec (.ref c') qual) (hroom : A.depth < recursionLimit)
    (hbind : BindsTo s (fnX name qual params body scope cl .none .none doc pm none (.ref c') ctv) args binds) (hloc : ∀ y ∈ binds, scope.names.lookup y.1 = some .local)
    (h : ∀ g L' h₁, KeepBut (news.map (·.1)) s.heap g → s.heap.objs.size ≤ L' → Fr g L' h₁ (fun y => binds.reverse.lookup y) → News g L' h₁ news → Below A base (env :: outer) g → K.In g → Top p loose mean mg mb g → (∀ p ∈ news, p.1 < L') →
      wpAny (model prog w) (A.deeper (envX qual scope L' f (.ref c') cl)) (execs body (envX qual scope L' f (.ref c') cl))
        (fun fl s' => R (.ok (.ret (match fl with | .ret v => v | _ => .none))) s')
        (fun e s' => wpAny (model prog w) (A.deeper (envX qual scope L' f (.ref c') cl)) (leaving (envX qual scope L' f (.ref c') cl) e) (fun _ s'' => R (.error e) s'') (fun e' s'' => R (.error e') s'') s')
        { s with heap := h₁, toks := s.toks + binds.length })
    (hco : scope.isCoroutine = false) (hgen : scope.isGenerator = false) (hk : scope.kind = .function)
    (hcell : ∀ x ∈ scope.names, x.2 ≠ .cell) : codeAny (model prog w) A (.call (.ref f) args) R s := by
  have ⟨_, BG, st, _⟩ := groundX (R := R) B F N hA hf hke
  refine codeAny_call_def (fd := fnX name qual params body scope cl .none .none doc pm none (.ref c') ctv) (body := body) (binds := binds) hroom (N _ ho).1 rfl (T.nolimit.keeps F.keep) hcd rfl hbind hcell hloc (fun h₁ hns hk₁ => ?_) hco hgen hk
  exact h _ s.heap.objs.size h₁ (fun b o n e => hideAll_get _ e n) (Nat.le_refl _) ⟨hns, fun b o e => hk₁ b o (of_hideAll _ e), Nat.le_of_eq (hideAll_size _ _)⟩
    (fun p hp => ⟨hk₁ _ _ (N p hp).1, Nat.ne_of_lt (Heap.lt_size (N p hp).1), hideAll_none _ (List.mem_map_of_mem hp)⟩) BG (X₀.keeps st) (T.keeps st) (fun p hp => Heap.lt_size (N p hp).1)
end
end Mine
end
section
open PySem PySem.W PyProof.Rows PySem.Calls
local macro_rules | `(tactic| omega) => `(tactic| lia)
namespace Mine

/-- k digits of x by the base b, the lowest first -/
def digs (b : Int) : Nat → Int → List Int
  | 0, _ => []
  | k + 1, x => x % b :: digs b k (x / b)
theorem digs_length (b : Int) : ∀ k x, (digs b k x).length = k
  | 0, _ => rfl
  | k + 1, x => by rw [digs, List.length_cons, digs_length b k]
theorem mod_prod {b c x : Int} (hb : 0 < b) (hc : 0 < c) : x / (b * c) = x / b / c ∧ x % (b * c) = x % b + b * (x / b % c) := by
  have hbc := Int.mul_pos hb hc
  refine kbt_unique hbc ?_ ?_ ?_
  · have e1 := Int.mul_ediv_add_emod x b
    have e2 := Int.mul_ediv_add_emod (x / b) c
    rw [Int.mul_assoc]
    have : b * (x / b % c) + b * (c * (x / b / c)) = b * (x / b) := by rw [← Int.mul_add]; congr 1; omega
    omega
  · have := Int.emod_nonneg x (Int.ne_of_gt hb)
    have := Int.mul_nonneg (Int.le_of_lt hb) (Int.emod_nonneg (x / b) (Int.ne_of_gt hc))
    omega
  · have h1 := Int.emod_lt_of_pos x hb
    have h2 := Int.emod_lt_of_pos (x / b) hc
    have h3 : b * (x / b % c) ≤ b * (c - 1) := Int.mul_le_mul_of_nonneg_left (by omega) (Int.le_of_lt hb)
    rw [Int.mul_sub] at h3
    omega
theorem digs_add {b : Int} (hb : 0 < b) (k : Nat) : ∀ (j : Nat) (x : Int), digs b (j + k) x = digs b j (x % b ^ j) ++ digs b k (x / b ^ j)
  | 0, x => by
    rw [Nat.zero_add, Int.pow_zero, Int.ediv_one]
    rfl
  | j + 1, x => by
    have hp : 0 < b ^ j := pow_pos_of hb j
    have e := mod_prod (x := x) hb hp
    have hpw : b ^ (j + 1) = b * b ^ j := by rw [Int.pow_succ, Int.mul_comm]
    rw [hpw, e.1, e.2, show j + 1 + k = (j + k) + 1 by omega]
    show x % b :: digs b (j + k) (x / b) = (x % b + b * (x / b % b ^ j)) % b :: (digs b j ((x % b + b * (x / b % b ^ j)) / b) ++ digs b k (x / b / b ^ j))
    have h1 : (x % b + b * (x / b % b ^ j)) / b = x / b % b ^ j ∧ (x % b + b * (x / b % b ^ j)) % b = x % b :=
      kbt_unique hb rfl (Int.emod_nonneg x (Int.ne_of_gt hb)) (Int.emod_lt_of_pos x hb)
    rw [h1.1, h1.2, digs_add hb k j]
/-- the number that digits stand for -/
def undig (b : Int) : List Int → Int
  | [] => 0
  | d :: r => d + b * undig b r
theorem undig_append (b : Int) : ∀ (l r : List Int), undig b (l ++ r) = undig b l + b ^ l.length * undig b r
  | [], r => by simp [undig]
  | d :: l, r => by
    show d + b * undig b (l ++ r) = d + b * undig b l + b ^ (l.length + 1) * undig b r
    rw [undig_append b l r, Int.mul_add, Int.pow_succ, Int.mul_comm (b ^ l.length) b, Int.mul_assoc]
    omega
theorem undig_digs {b : Int} (hb : 0 < b) : ∀ (k : Nat) (x : Int), 0 ≤ x → x < b ^ k → undig b (digs b k x) = x
  | 0, x, h0, h1 => by rw [Int.pow_zero] at h1; show (0 : Int) = x; omega
  | k + 1, x, h0, h1 => by
    show x % b + b * undig b (digs b k (x / b)) = x
    rw [undig_digs hb k (x / b) (Int.ediv_nonneg h0 (Int.le_of_lt hb)) (Int.ediv_lt_of_lt_mul hb (by rw [Int.pow_succ] at h1; exact h1))]
    exact Int.emod_add_mul_ediv x b
theorem digs_range {b : Int} (hb : 0 < b) : ∀ (k : Nat) (x : Int), ∀ d ∈ digs b k x, 0 ≤ d ∧ d < b
  | k + 1, x, d, h => by
    rcases List.mem_cons.mp h with rfl | h
    · exact ⟨Int.emod_nonneg x (Int.ne_of_gt hb), Int.emod_lt_of_pos x hb⟩
    · exact digs_range hb k _ d h
theorem digs_one {n : Nat} {x : Int} (h0 : 0 ≤ x) (h1 : x < 2 ^ n) : digs (2 ^ n) 1 x = [x] := by
  show [x % 2 ^ n] = [x]
  rw [Int.emod_eq_of_lt h0 h1]

/-- the stretch of a list from lo to hi put anew -/
def fill (ns : List Int) (lo hi : Nat) (ds : List Int) : List Int := ns.take lo ++ ds ++ ns.drop hi
theorem fill_one {ns : List Int} {lo : Nat} {x : Int} (h : lo < ns.length) : ns.set lo x = fill ns lo (lo + 1) [x] := by
  unfold fill
  rw [List.set_eq_take_append_cons_drop, if_pos h, List.append_assoc]
  rfl
theorem fill_two {ns ds es : List Int} {lo mid hi : Nat} (h1 : lo ≤ mid) (h2 : mid ≤ hi) (h3 : hi ≤ ns.length) (hd : ds.length = mid - lo) :
    fill (fill ns lo mid ds) mid hi es = fill ns lo hi (ds ++ es) := by
  unfold fill
  have l1 : (ns.take lo).length = lo := by rw [List.length_take]; omega
  have l2 : (ns.take lo ++ ds).length = mid := by rw [List.length_append, l1, hd]; omega
  have e1 : (ns.take lo ++ ds ++ ns.drop mid).take mid = ns.take lo ++ ds := by
    rw [List.take_append_of_le_length (by omega), List.take_of_length_le (by omega)]
  have e2 : (ns.take lo ++ ds ++ ns.drop mid).drop hi = ns.drop hi := by
    rw [List.drop_append, l2, List.drop_eq_nil_of_le (by omega), List.nil_append, List.drop_drop]
    congr 1; omega
  rw [e1, e2]
  simp only [List.append_assoc]
theorem fill_length {ns ds : List Int} {lo hi : Nat} (h1 : lo ≤ hi) (h2 : hi ≤ ns.length) (hd : ds.length = hi - lo) : (fill ns lo hi ds).length = ns.length := by
  unfold fill
  rw [List.length_append, List.length_append, List.length_take, List.length_drop, hd]
  omega
theorem fill_all {ns ds : List Int} {k : Nat} (h : ns.length = k) : fill ns 0 k ds = ds := by
  unfold fill
  rw [List.take_zero, List.drop_eq_nil_of_le (by omega)]
  simp
theorem digs_split {n lo mid hi : Nat} {x : Int} (h1 : lo ≤ mid) (h2 : mid ≤ hi) : digs (2 ^ n) (mid - lo) (x % 2 ^ ((mid - lo) * n)) ++ digs (2 ^ n) (hi - mid) (x / 2 ^ ((mid - lo) * n)) = digs (2 ^ n) (hi - lo) x := by
  rw [show hi - lo = (mid - lo) + (hi - mid) by omega, digs_add (two_pos n), ← Int.pow_mul, Nat.mul_comm n]
theorem upper_lt {n j k : Nat} {x : Int} (h : x < 2 ^ ((j + k) * n)) : x / 2 ^ (j * n) < 2 ^ (k * n) := by
  rw [Nat.add_mul, Int.pow_add, Int.mul_comm] at h
  exact Int.ediv_lt_of_lt_mul (two_pos _) h
end Mine
namespace Mine
open Builtin.Int (intBits)
theorem ceil_facts {b n k : Nat} (hn : 0 < n) (hk : (k : Int) = ((b : Int) + n - 1) / n) : k * n ≤ b + n - 1 ∧ b ≤ k * n ∧ k ≤ b := by
  have e : k = (b + n - 1) / n := by
    have : ((b : Int) + n - 1) = ((b + n - 1 : Nat) : Int) := by omega
    rw [this] at hk
    exact_mod_cast hk
  have h1 := Nat.div_mul_le_self (b + n - 1) n
  have h2 := Nat.lt_div_mul_add hn (a := b + n - 1)
  rw [← e] at h1 h2
  refine ⟨h1, by omega, ?_⟩
  rcases Nat.lt_or_ge b k with h | h
  · have h3 : (b + 1) * n ≤ k * n := Nat.mul_le_mul_right _ h
    have h4 : b ≤ b * n := Nat.le_mul_of_pos_right _ hn
    rw [Nat.add_mul] at h3
    omega
  · exact h
theorem lt_pow_of_le {x : Int} {j : Nat} (h0 : 0 ≤ x) (h : intBits x ≤ j) : x < 2 ^ j := lt_of_bits h0 h
theorem bits_pos {x : Int} (h : x ≠ 0) : 0 < intBits x := by
  rcases Nat.eq_zero_or_pos (intBits x) with e | e
  · have h1 := intBits_le_iff.mp (Nat.le_of_eq e)
    simp at h1; exact absurd h1 h
  · exact e
end Mine
namespace Mine
open Builtin.Int (intBits)
theorem undig_lt {b : Int} (hb : 0 < b) : ∀ (l : List Int), (∀ d ∈ l, 0 ≤ d ∧ d < b) → 0 ≤ undig b l ∧ undig b l < b ^ l.length
  | [], _ => by simp [undig]
  | d :: r, h => by
    have ih := undig_lt hb r fun x hx => h x (List.mem_cons_of_mem _ hx)
    have hd := h d List.mem_cons_self
    show 0 ≤ d + b * undig b r ∧ d + b * undig b r < b ^ (r.length + 1)
    have h1 := Int.mul_nonneg (Int.le_of_lt hb) ih.1
    have h2 : b * undig b r ≤ b * (b ^ r.length - 1) := Int.mul_le_mul_of_nonneg_left (by omega) (Int.le_of_lt hb)
    rw [Int.mul_sub] at h2
    rw [Int.pow_succ, Int.mul_comm (b ^ r.length) b]
    omega
def seg (ns : List Int) (lo hi : Nat) : List Int := (ns.take hi).drop lo
theorem seg_length {ns : List Int} {lo hi : Nat} (h : hi ≤ ns.length) : (seg ns lo hi).length = hi - lo := by
  unfold seg; rw [List.length_drop, List.length_take]; omega
theorem seg_split {ns : List Int} {lo mid hi : Nat} (h1 : lo ≤ mid) (h2 : mid ≤ hi) : seg ns lo hi = seg ns lo mid ++ seg ns mid hi := by
  unfold seg
  have e : ns.take hi = ns.take mid ++ (ns.take hi).drop mid := by
    have := List.take_append_drop mid (ns.take hi)
    rw [List.take_take, Nat.min_eq_left h2] at this
    exact this.symm
  by_cases hl : mid ≤ ns.length
  · rw [e, List.drop_append, List.length_take, Nat.min_eq_left hl, show lo - mid = 0 by omega, List.drop_zero, ← e]
  · have e1 : ns.take hi = ns := List.take_of_length_le (by omega)
    have e2 : ns.take mid = ns := List.take_of_length_le (by omega)
    rw [e1, e2, List.drop_eq_nil_of_le (as := ns) (i := mid) (by omega), List.append_nil]
theorem seg_one {ns : List Int} {lo : Nat} (h : lo < ns.length) : seg ns lo (lo + 1) = [ns.getD lo 0] := by
  unfold seg
  rw [List.drop_take, show lo + 1 - lo = 1 by omega]
  have e : ns.drop lo = ns[lo] :: ns.drop (lo + 1) := List.drop_eq_getElem_cons h
  have e2 : ns.getD lo 0 = ns[lo] := by simp [h]
  rw [e, e2]
  rfl
theorem seg_mem {ns : List Int} {lo hi : Nat} {d : Int} (h : d ∈ seg ns lo hi) : d ∈ ns := List.mem_of_mem_take (List.mem_of_mem_drop h)
theorem seg_all (ns : List Int) : seg ns 0 ns.length = ns := by unfold seg; rw [List.drop_zero, List.take_length]
theorem undig_seg {ns : List Int} {n lo mid hi : Nat} (h1 : lo ≤ mid) (h2 : mid ≤ hi) (h3 : hi ≤ ns.length) :
    undig (2 ^ n) (seg ns mid hi) * 2 ^ ((mid - lo) * n) + undig (2 ^ n) (seg ns lo mid) = undig (2 ^ n) (seg ns lo hi) := by
  rw [seg_split h1 h2, undig_append, seg_length (by omega), ← Int.pow_mul, Nat.mul_comm n, Int.mul_comm]
  omega
theorem seg_bits {ns : List Int} {n lo hi : Nat} (h : hi ≤ ns.length) (hr : ∀ d ∈ ns, 0 ≤ d ∧ d < 2 ^ n) : intBits (undig (2 ^ n) (seg ns lo hi)) ≤ (hi - lo) * n := by
  have := undig_lt (two_pos n) (seg ns lo hi) fun d hd => hr d (seg_mem hd)
  rw [seg_length h, ← Int.pow_mul, Nat.mul_comm n] at this
  exact bits_of_lt this.1 this.2
end Mine
namespace Mine
open Builtin.Int (intBits)
/-- long division by digits, so far -/
structure DInv (n : Nat) (b : Int) (ds zs qs : List Int) (r : Int) : Prop where
  done : ∃ dn, zs.reverse ++ dn = ds ∧ undig (2 ^ n) dn = undig (2 ^ n) qs.reverse * b + r ∧ qs.length = dn.length
  r0 : 0 ≤ r
  r1 : r < b
  qr : ∀ q ∈ qs, 0 ≤ q ∧ q < 2 ^ n
theorem DInv.start {n : Nat} {b : Int} {ds : List Int} (hb : 0 < b) : DInv n b ds ds.reverse [] 0 :=
  ⟨⟨[], by simp, by simp [undig], rfl⟩, Int.le_refl _, hb, fun _ h => nomatch h⟩
theorem DInv.pre {n : Nat} {b z r : Int} {ds zs qs : List Int} (h : DInv n b ds (z :: zs) qs r) (hd : ∀ d ∈ ds, 0 ≤ d ∧ d < 2 ^ n) (nb : Norm b n) : Pre2 (r * 2 ^ n + z) b n := by
  obtain ⟨dn, e, _⟩ := h.done
  have hz := hd z (by rw [← e]; simp)
  have hp := two_pos n
  have h0 := Int.mul_nonneg h.r0 (Int.le_of_lt hp)
  refine ⟨by omega, ?_, nb⟩
  have h1 : (r + 1) * 2 ^ n ≤ b * 2 ^ n := Int.mul_le_mul_of_nonneg_right (by have := h.r1; omega) (Int.le_of_lt hp)
  rw [Int.add_mul] at h1
  omega
theorem DInv.step {n : Nat} {b z r q r' : Int} {ds zs qs : List Int} (h : DInv n b ds (z :: zs) qs r) (hd : ∀ d ∈ ds, 0 ≤ d ∧ d < 2 ^ n) (nb : Norm b n) (hq : QR (r * 2 ^ n + z) b q r') : DInv n b ds zs (qs ++ [q]) r' := by
  have P := h.pre hd nb
  have hq2 := qr_lt nb.pos P.a0 P.alt hq
  obtain ⟨dn, e, e2, e3⟩ := h.done
  refine ⟨⟨z :: dn, ?_, ?_, ?_⟩, hq.2.1, hq.2.2, ?_⟩
  · rw [← e, List.reverse_cons, List.append_assoc]; rfl
  · show z + 2 ^ n * undig (2 ^ n) dn = undig (2 ^ n) (qs ++ [q]).reverse * b + r'
    rw [List.reverse_append]
    show z + 2 ^ n * undig (2 ^ n) dn = (q + 2 ^ n * undig (2 ^ n) qs.reverse) * b + r'
    rw [e2, Int.mul_add, Int.add_mul, Int.mul_assoc]
    have := hq.1
    have c := Int.mul_comm (2 ^ n) r
    omega
  · simp [e3]
  · intro y hy
    rcases List.mem_append.mp hy with hy | hy
    · exact h.qr y hy
    · rw [List.mem_singleton.mp hy]; exact hq2
theorem DInv.fin {n : Nat} {b r : Int} {ds qs : List Int} (h : DInv n b ds [] qs r) : QR (undig (2 ^ n) ds) b (undig (2 ^ n) qs.reverse) r ∧ qs.length = ds.length := by
  obtain ⟨dn, e, e2, e3⟩ := h.done
  have : dn = ds := by simpa using e
  subst this
  exact ⟨⟨e2, h.r0, h.r1⟩, e3⟩
end Mine
end
section
open PySem PySem.W PyProof.Rows PySem.Calls
set_option Elab.async false
set_option maxRecDepth 100000
local macro_rules | `(tactic| omega) => `(tactic| lia)
namespace Mine
theorem codeRec_but {h h' : Heap} {cd : Value} {q : Str} {D : Addr} {o : Obj} {its : Array Value} {n : Nat} (x : h.CodeRec cd q) (k : KeepBut [D] h h') (e : h.get? D = some o) (hd : o.data = .seq its n) : h'.CodeRec cd q := by
  obtain ⟨c, oc, vs, t, e1, e2, e3, e4⟩ := x
  refine ⟨c, oc, vs, t, e1, k c oc (fun hm => ?_) e2, e3, e4⟩
  rw [List.mem_singleton.mp hm, e] at e2
  cases e2
  rw [hd] at e3; cases e3

/-- what the inner def of _int2digits does: it puts the digits of x into the list at D, from lo to hi -/
def InnerA (w : World) (f D cA cI cN c' : Addr) (ob oA oI oN : Obj) (qual : Str) (n len k : Nat) : Prop :=
  ∀ (dp un : Nat) (gd : Option (List Code)) (cn : Str) (cs : Scope) (fa : Addr) (ccd : Value) (cl : List (Str × Addr)) (outer : List Env) (A₀ : Around) (base h₀ : Heap) (L : Addr) (m : Str → Option Value) (s : Shared) (p : Program) (loose : List Str) (mean : ExcName → Option Value) (mg mb : Str → Option Value) (Q E : Value → Shared → Prop)
    (vs : List Value) (ns : List Int) (x : Int) (lo hi : Nat) (t1 t2 t3 : Tok),
    Below A₀ base outer h₀ → Fr h₀ L s.heap m → (hd.heap_39 w.params).In h₀ → Top p loose mean mg mb h₀ → base.NoSeer → CodeAll tabs2 base →
    cs.kind = .function → News h₀ L s.heap [(f, ob), (D, listOf vs.toArray 0), (cA, oA), (cI, oI), (cN, oN)] → s.heap.CodeRec (.ref c') qual → IntsAre vs ns → ns.length = len → lo < hi → hi ≤ len → hi - lo ≤ 2 ^ k → 0 ≤ x → x < 2 ^ ((hi - lo) * n) →
    dp + (k + 1) < 880 → un + 8 * (k + 1) < 9800 →
    (∀ vs' h' tk', KeepBut [D] s.heap h' → h'.get? D = some (listOf vs'.toArray 0) → IntsAre vs' (fill ns lo hi (digs (2 ^ n) (hi - lo) x)) → Q .none { s with heap := h', toks := tk' }) →
    wpAny (model PySem.Challenge.rw_re0060_01.row.prog w) (ktrTop dp un gd cn cs L fa ccd cl outer) (call (.ref f) [.int x t1, .int (lo : Int) t2, .int (hi : Int) t3]) Q E s

/-- what the inner def of _digits2int does: the number that the digits from lo to hi stand for -/
def InnerB (w : World) (f cA cI cN c' : Addr) (ob oA oI oN : Obj) (qual : Str) (n : Nat) (D : Addr) (vs : List Value) (ns : List Int) (k : Nat) : Prop :=
  ∀ (dp un : Nat) (gd : Option (List Code)) (cn : Str) (cs : Scope) (fa : Addr) (ccd : Value) (cl : List (Str × Addr)) (outer : List Env) (A₀ : Around) (base h₀ : Heap) (L : Addr) (m : Str → Option Value) (s : Shared) (p : Program) (loose : List Str) (mean : ExcName → Option Value) (mg mb : Str → Option Value) (Q E : Value → Shared → Prop)
    (lo hi : Nat) (t2 t3 : Tok),
    Below A₀ base outer h₀ → Fr h₀ L s.heap m → (hd.heap_39 w.params).In h₀ → Top p loose mean mg mb h₀ → base.NoSeer → CodeAll tabs2 base →
    cs.kind = .function → News h₀ L s.heap [(f, ob), (cA, oA), (cI, oI), (cN, oN)] → s.heap.CodeRec (.ref c') qual → s.heap.IsList D vs.toArray → lo < hi → hi ≤ ns.length → hi - lo ≤ 2 ^ k →
    dp + (k + 1) < 880 → un + 8 * (k + 1) < 9800 →
    (∀ z t h' tk', KeepBut [] s.heap h' → z = undig (2 ^ n) (seg ns lo hi) → Q (.int z t) { s with heap := h', toks := tk' }) →
    wpAny (model PySem.Challenge.rw_re0060_01.row.prog w) (ktrTop dp un gd cn cs L fa ccd cl outer) (call (.ref f) [.int (lo : Int) t2, .int (hi : Int) t3]) Q E s

theorem strong {P : Nat → Prop} (step : ∀ k, (∀ j, j < k → P j) → P k) : ∀ k, P k := fun k => Nat.strongRecOn k step

section
variable {h₀ h h' : Heap} {L D : Addr} {m : Str → Option Value} {news : List (Addr × Obj)} {g : Obj → List (Addr × Obj)} {o o' : Obj}
theorem news_upd1 (N : News h₀ L h news) (U : UpdF D o news g) (k : KeepBut [D] h h') (e : h'.get? D = some o') : News h₀ L h' (g o') := by
  obtain ⟨pre, post, rfl, hg, h1, h2⟩ := U.split
  rw [hg]
  intro p hp
  have zD := N (D, o) (List.mem_append_right _ (.head _))
  rcases List.mem_append.mp hp with q | q
  · exact ⟨k _ _ (by simpa using h1 p q) (N p (List.mem_append_left _ q)).1, (N p (List.mem_append_left _ q)).2⟩
  · rcases List.mem_cons.mp q with rfl | q
    · exact ⟨e, zD.2⟩
    · exact ⟨k _ _ (by simpa using h2 p q) (N p (List.mem_append_right _ (.tail _ q))).1, (N p (List.mem_append_right _ (.tail _ q))).2⟩
theorem fr_upd1 (F : Fr h₀ L h m) (N : News h₀ L h news) (hm : (D, o) ∈ news) (k : KeepBut [D] h h') : Fr h₀ L h' m :=
  fr_keepBut F k fun a ha => by rw [List.mem_singleton.mp ha]; exact (N _ hm).2
theorem news_sub {l : List (Addr × Obj)} (N : News h₀ L h news) (hs : ∀ p ∈ l, p ∈ news) : News h₀ L h l := fun p hp => N p (hs p hp)
/-- all that stood stands when the callee's own ledger is told whole -/
theorem keep_whole {s g : Heap} {l news : List (Addr × Obj)} {L' : Addr} {m' : Str → Option Value} (KB : KeepBut (l.map (·.1)) s g) (F : Fr g L' h m') (N : News g L' h news) (hl : ∀ p ∈ l, s.get? p.1 = some p.2) (hs : ∀ p ∈ l, p ∈ news) : KeepBut [] s h := by
  intro b o _ e
  by_cases hb : b ∈ l.map (·.1)
  · obtain ⟨p, hp, rfl⟩ := List.mem_map.mp hb
    rw [hl p hp] at e
    cases e
    exact (N p (hs p hp)).1
  · exact F.keep b o (KB b o hb e)
/-- the same but for one that is turned -/
theorem keep_but1 {s g : Heap} {l news : List (Addr × Obj)} {L' : Addr} {m' : Str → Option Value} (KB : KeepBut (l.map (·.1)) s g) (F : Fr g L' h m') (N : News g L' h news) (hl : ∀ p ∈ l, s.get? p.1 = some p.2) (hs : ∀ p ∈ l, p.1 ≠ D → p ∈ news) : KeepBut [D] s h := by
  intro b o hD e
  by_cases hb : b ∈ l.map (·.1)
  · obtain ⟨p, hp, rfl⟩ := List.mem_map.mp hb
    rw [hl p hp] at e
    cases e
    exact (N p (hs p hp (by simpa using hD))).1
  · exact F.keep b o (KB b o hb e)
theorem codeRec_g {s g : Heap} {f D cA cI cN : Addr} {ob oA oI oN : Obj} {fd : FuncData} {its : Array Value} {n : Nat} {vA vI vN : Option Value} {cd : Value} {q : Str} (KB : KeepBut ([(f, ob), (D, listOf its n), (cA, oA), (cI, oI), (cN, oN)].map (·.1)) s g)
    (N : News h₀ L s [(f, ob), (D, listOf its n), (cA, oA), (cI, oI), (cN, oN)]) (x : s.CodeRec cd q) (df : ob.data = .func fd) (dA : oA.data = .cell vA) (dI : oI.data = .cell vI) (dN : oN.data = .cell vN) : g.CodeRec cd q := by
  obtain ⟨c, oc, vs, t, e1, e2, e3, e4⟩ := x
  refine ⟨c, oc, vs, t, e1, KB c oc (fun hm => ?_) e2, e3, e4⟩
  obtain ⟨p, hp, hpc⟩ := List.mem_map.mp hm
  have e5 := (N p hp).1
  rw [hpc, e2] at e5
  cases e5
  simp only [List.mem_cons, List.not_mem_nil, or_false] at hp
  rcases hp with rfl | rfl | rfl | rfl | rfl
  · rw [df] at e3; cases e3
  · cases e3
  · rw [dA] at e3; cases e3
  · rw [dI] at e3; cases e3
  · rw [dN] at e3; cases e3
theorem keep_shape {s g : Heap} {f : Addr} {ob : Obj} {r : List (Addr × Obj)} {L' : Addr} {m' : Str → Option Value} (KB : KeepBut (((f, ob) :: (D, o) :: r).map (·.1)) s g) (F : Fr g L' h m') (N : News g L' h ((f, ob) :: (D, o') :: r))
    (hl : News h₀ L s ((f, ob) :: (D, o) :: r)) : KeepBut [D] s h := by
  refine keep_but1 KB F N (fun p hp => (hl p hp).1) fun p hp hne => ?_
  rcases List.mem_cons.mp hp with rfl | hp
  · exact .head _
  · rcases List.mem_cons.mp hp with rfl | hp
    · exact absurd rfl hne
    · exact .tail _ (.tail _ hp)
end
end Mine
namespace Mine
section
variable {w : World} {f D cA cI cN c' : Addr} {oA oI oN : Obj} {qual nm : Str} {n len k : Nat} {params : Arguments} {body : List Stmt} {scope : Scope} {clo : List (Str × Addr)} {doc pm ctv : Value}
  {dp un : Nat} {gd : Option (List Code)} {cn : Str} {cs : Scope} {fa : Addr} {ccd : Value} {cl : List (Str × Addr)} {A₀ : Around} {outer : List Env} {base h₀ : Heap} {L : Addr} {m : Str → Option Value} {s : Shared} {p : Program} {loose : List Str} {mean : ExcName → Option Value} {mg mb : Str → Option Value} {Q E : Value → Shared → Prop} {news : List (Addr × Obj)} {g : Obj → List (Addr × Obj)}
  {vs : List Value} {ns : List Int} {x : Int} {lo hi : Nat} {zlo zhi : Int} {t1 t2 t3 : Tok}
theorem inner_useA (N : News h₀ L s.heap news) (mf : (f, fnMade nm qual params body scope clo doc pm c' ctv) ∈ news) (U : UpdF D (listOf vs.toArray 0) news g) (mA : (cA, oA) ∈ news) (mI : (cI, oI) ∈ news) (mN : (cN, oN) ∈ news)
    (IA : InnerA w f D cA cI cN c' (fnMade nm qual params body scope clo doc pm c' ctv) oA oI oN qual n len k)
    (B : Below A₀ base outer h₀) (F : Fr h₀ L s.heap m) (X : (hd.heap_39 w.params).In h₀) (T : Top p loose mean mg mb h₀) (NS : base.NoSeer) (CA : CodeAll tabs2 base) (hk : cs.kind = .function)
    (hc : s.heap.CodeRec (.ref c') qual) (I : IntsAre vs ns) (hl : ns.length = len) (hzl : zlo = (lo : Int)) (hzh : zhi = (hi : Int)) (h1 : lo < hi) (h2 : hi ≤ len) (h3 : hi - lo ≤ 2 ^ k) (h4 : 0 ≤ x) (h5 : x < 2 ^ ((hi - lo) * n))
    (hd : dp + (k + 1) < 880) (hu : un + 8 * (k + 1) < 9800)
    (ret : ∀ vs' h' tk', KeepBut [D] s.heap h' → Fr h₀ L h' m → News h₀ L h' (g (listOf vs'.toArray 0)) → h'.CodeRec (.ref c') qual → IntsAre vs' (fill ns lo hi (digs (2 ^ n) (hi - lo) x)) → Q .none { s with heap := h', toks := tk' }) :
    wpAny (model PySem.Challenge.rw_re0060_01.row.prog w) (ktrTop dp un gd cn cs L fa ccd cl outer) (call (.ref f) [.int x t1, .int zlo t2, .int zhi t3]) Q E s := by
  subst hzl hzh
  have mD : (D, listOf vs.toArray 0) ∈ news := by obtain ⟨pre, post, rfl, _⟩ := U.split; exact List.mem_append_right _ (.head _)
  refine IA _ _ _ _ _ _ _ _ _ _ _ _ _ _ s _ _ _ _ _ _ _ vs ns x lo hi _ _ _ B F X T NS CA hk (news_sub N ?_) hc I hl h1 h2 h3 h4 h5 hd hu fun vs' h' tk' k' e' I' =>
    ret vs' h' tk' k' (fr_upd1 F N mD k') (news_upd1 N U k' e') (codeRec_but hc k' (N _ mD).1 rfl) I'
  intro p hp
  simp only [List.mem_cons, List.not_mem_nil, or_false] at hp
  rcases hp with rfl | rfl | rfl | rfl | rfl <;> assumption
end
end Mine

namespace Mine
/-- the table of codes at P: empty, or the inner def's one code -/
def TabOk (h : Heap) (P : Addr) (ln col : Int) (q : Str) : Prop := h.get? P = some (tabObj #[]) ∨ ∃ c', h.get? P = some (tabObj #[rawInt ln, rawInt col, .ref c']) ∧ h.CodeRec (.ref c') q
abbrev qI : Str := (Str.ofString "_int2digits" ++ Str.ofString ".<locals>.") ++ Str.ofString "inner"
abbrev qD : Str := (Str.ofString "_digits2int" ++ Str.ofString ".<locals>.") ++ Str.ofString "inner"
abbrev Tab30 (h : Heap) : Prop := TabOk h 30 32 4 qI
abbrev Tab37 (h : Heap) : Prop := TabOk h 37 47 4 qD
theorem codeRec_keep {h h' : Heap} {cd : Value} {q : Str} {as : List Addr} (x : h.CodeRec cd q) (k : KeepBut as h h') (hn : ∀ a ∈ as, ∀ o, h.get? a = some o → ∀ vs, o.data = .fields vs → vs[1]? = none) : h'.CodeRec cd q := by
  obtain ⟨c, oc, vs, t, e1, e2, e3, e4⟩ := x
  refine ⟨c, oc, vs, t, e1, k c oc (fun hm => ?_) e2, e3, e4⟩
  rw [hn c hm oc e2 vs e3] at e4; cases e4
/-- a code's record is not the table's -/
theorem codeRec_tab {h h' : Heap} {P : Addr} {c' : Value} {q : Str} {a b : Int} {v : Value} (x : h.CodeRec c' q) (k : KeepBut [P] h h') (e : h.get? P = some (tabObj #[rawInt a, rawInt b, v])) : h'.CodeRec c' q := by
  obtain ⟨c, oc, vs, t, e1, e2, e3, e4⟩ := x
  refine ⟨c, oc, vs, t, e1, k c oc (fun hm => ?_) e2, e3, e4⟩
  rw [List.mem_singleton.mp hm, e] at e2
  cases e2; cases e3
  simp [rawInt] at e4
/-- a list of ints at r, new -/
def ListAt (h : Heap) (r : Value) (h' : Heap) (ns : List Int) : Prop := ∃ D vs, r = .ref D ∧ h.get? D = none ∧ h'.get? D = some (listOf vs.toArray 0) ∧ IntsAre vs ns
end Mine

namespace Mine
/-- no list among these -/
def NoSeq (l : List (Addr × Obj)) : Prop := ∀ p ∈ l, ∀ its n, p.2.data ≠ .seq its n
theorem NoSeq.nil : NoSeq [] := fun _ h => nomatch h
theorem NoSeq.cell {a : Addr} {o : Obj} {v : Option Value} {l : List (Addr × Obj)} (h : o.data = .cell v) (r : NoSeq l) : NoSeq ((a, o) :: l) := fun p hp its n e => by
  rcases List.mem_cons.mp hp with rfl | hp
  · rw [h] at e; cases e
  · exact r p hp its n e
theorem NoSeq.func {a : Addr} {o : Obj} {v : FuncData} {l : List (Addr × Obj)} (h : o.data = .func v) (r : NoSeq l) : NoSeq ((a, o) :: l) := fun p hp its n e => by
  rcases List.mem_cons.mp hp with rfl | hp
  · rw [h] at e; cases e
  · exact r p hp its n e
theorem NoSeq.tab {a : Addr} {ps : Array Value} {l : List (Addr × Obj)} (r : NoSeq l) : NoSeq ((a, tabObj ps) :: l) := fun p hp its n e => by
  rcases List.mem_cons.mp hp with rfl | hp
  · cases e
  · exact r p hp its n e
theorem isList_g {s g h₀ : Heap} {L D : Addr} {l : List (Addr × Obj)} {its : Array Value} (KB : KeepBut (l.map (·.1)) s g) (N : News h₀ L s l) (hn : NoSeq l) (x : s.IsList D its) : g.IsList D its := by
  obtain ⟨o, e, hc, n, hd⟩ := x
  refine ⟨o, KB D o (fun hm => ?_) e, hc, n, hd⟩
  obtain ⟨p, hp, hpc⟩ := List.mem_map.mp hm
  have e5 := (N p hp).1
  rw [hpc, e] at e5
  cases e5
  exact hn p hp its n hd
/-- no record among these -/
def NoRec (l : List (Addr × Obj)) : Prop := ∀ p ∈ l, ∀ vs : Array Value, p.2.data = .fields vs → ∀ q t, vs[1]? ≠ some (.str q t)
theorem NoRec.nil : NoRec [] := fun _ h => nomatch h
theorem NoRec.cell {a : Addr} {o : Obj} {v : Option Value} {l : List (Addr × Obj)} (h : o.data = .cell v) (r : NoRec l) : NoRec ((a, o) :: l) := fun p hp vs e => by
  rcases List.mem_cons.mp hp with rfl | hp
  · rw [h] at e; cases e
  · exact r p hp vs e
theorem NoRec.func {a : Addr} {o : Obj} {v : FuncData} {l : List (Addr × Obj)} (h : o.data = .func v) (r : NoRec l) : NoRec ((a, o) :: l) := fun p hp vs e => by
  rcases List.mem_cons.mp hp with rfl | hp
  · rw [h] at e; cases e
  · exact r p hp vs e
theorem codeRec_in {s g h₀ : Heap} {L : Addr} {l : List (Addr × Obj)} {cd : Value} {q : Str} (KB : KeepBut (l.map (·.1)) s g) (N : News h₀ L s l) (hn : NoRec l) (x : s.CodeRec cd q) : g.CodeRec cd q := by
  obtain ⟨c, oc, vs, t, e1, e2, e3, e4⟩ := x
  refine ⟨c, oc, vs, t, e1, KB c oc (fun hm => ?_) e2, e3, e4⟩
  obtain ⟨p, hp, hpc⟩ := List.mem_map.mp hm
  have e5 := (N p hp).1
  rw [hpc, e2] at e5
  cases e5
  exact hn p hp vs e3 q t e4
section
variable {w : World} {f D cA cI cN c' : Addr} {oA oI oN : Obj} {qual nm : Str} {n len k : Nat} {params : Arguments} {body : List Stmt} {scope : Scope} {clo : List (Str × Addr)} {doc pm ctv : Value}
  {dp un : Nat} {gd : Option (List Code)} {cn : Str} {cs : Scope} {fa : Addr} {ccd : Value} {cl : List (Str × Addr)} {A₀ : Around} {outer : List Env} {base h₀ : Heap} {L : Addr} {m : Str → Option Value} {s : Shared} {p : Program} {loose : List Str} {mean : ExcName → Option Value} {mg mb : Str → Option Value} {Q E : Value → Shared → Prop} {news : List (Addr × Obj)}
  {vs : List Value} {ns : List Int} {lo hi : Nat} {zlo zhi : Int} {t2 t3 : Tok}
theorem inner_useB (N : News h₀ L s.heap news) (mf : (f, fnMade nm qual params body scope clo doc pm c' ctv) ∈ news) (mA : (cA, oA) ∈ news) (mI : (cI, oI) ∈ news) (mN : (cN, oN) ∈ news)
    (IB : InnerB w f cA cI cN c' (fnMade nm qual params body scope clo doc pm c' ctv) oA oI oN qual n D vs ns k)
    (B : Below A₀ base outer h₀) (F : Fr h₀ L s.heap m) (X : (hd.heap_39 w.params).In h₀) (T : Top p loose mean mg mb h₀) (NS : base.NoSeer) (CA : CodeAll tabs2 base) (hk : cs.kind = .function)
    (hc : s.heap.CodeRec (.ref c') qual) (hI : s.heap.IsList D vs.toArray) (hzl : zlo = (lo : Int)) (hzh : zhi = (hi : Int)) (h1 : lo < hi) (h2 : hi ≤ ns.length) (h3 : hi - lo ≤ 2 ^ k)
    (hd : dp + (k + 1) < 880) (hu : un + 8 * (k + 1) < 9800)
    (ret : ∀ z t h' tk', KeepBut [] s.heap h' → Fr h₀ L h' m → News h₀ L h' news → z = undig (2 ^ n) (seg ns lo hi) → Q (.int z t) { s with heap := h', toks := tk' }) :
    wpAny (model PySem.Challenge.rw_re0060_01.row.prog w) (ktrTop dp un gd cn cs L fa ccd cl outer) (call (.ref f) [.int zlo t2, .int zhi t3]) Q E s := by
  subst hzl hzh
  refine IB _ _ _ _ _ _ _ _ _ _ _ _ _ _ s _ _ _ _ _ _ _ lo hi _ _ B F X T NS CA hk (news_sub N ?_) hc hI h1 h2 h3 hd hu fun z t h' tk' k' e' =>
    ret z t h' tk' k' (fr_keepBut F k' fun _ h => nomatch h) (news_keepBut N k' fun _ _ h => nomatch h) e'
  intro p hp
  simp only [List.mem_cons, List.not_mem_nil, or_false] at hp
  rcases hp with rfl | rfl | rfl | rfl <;> assumption
end
theorem isList_keep {h h' : Heap} {as : List Addr} {D : Addr} {its : Array Value} (x : h.IsList D its) (k : KeepBut as h h') (hD : D ∉ as) : h'.IsList D its := x.at fun o e => k D o hD e
end Mine

namespace Mine
/-- the table at P holds the one code c -/
abbrev Full (h : Heap) (P : Addr) (ln col : Int) (c : Addr) : Prop := h.get? P = some (tabObj #[rawInt ln, rawInt col, .ref c])
def RecIs (o : Obj) (q : Str) : Prop := ∃ vs t, o.data = .fields vs ∧ vs[1]? = some (.str q t)
/-- the table was filled by the call: a new code -/
def Filled (h h' : Heap) (P : Addr) (ln col : Int) (q : Str) : Prop := ∃ c oc, Full h' P ln col c ∧ h.get? c = none ∧ h'.get? c = some oc ∧ RecIs oc q
theorem RecIs.rec {h : Heap} {o : Obj} {c : Addr} {q : Str} (x : RecIs o q) (e : h.get? c = some o) : h.CodeRec (.ref c) q := let ⟨vs, t, a, b⟩ := x; ⟨c, o, vs, t, rfl, e, a, b⟩
theorem news_cons {h₀ h : Heap} {L a : Addr} {o : Obj} {l : List (Addr × Obj)} (h1 : h.get? a = some o) (h2 : a ≠ L ∧ h₀.get? a = none) (N : News h₀ L h l) : News h₀ L h ((a, o) :: l) := fun p hp => by
  rcases List.mem_cons.mp hp with rfl | hp
  · exact ⟨h1, h2⟩
  · exact N p hp
theorem off_new {h₀ h : Heap} {L D : Addr} {m : Str → Option Value} (F : Fr h₀ L h m) (l : h.get? D = none) : D ≠ L ∧ h₀.get? D = none := by
  refine ⟨fun q => ?_, ?_⟩
  · obtain ⟨oL, _, _, hL, _⟩ := F.ns
    rw [q, hL] at l; cases l
  · cases q : h₀.get? D with
    | none => rfl
    | some o' => have := F.keep D o' q; rw [l] at this; cases this
theorem ne_of_get {h : Heap} {a b : Addr} {o o' : Obj} (e : h.get? a = some o) (e' : h.get? b = some o') (hne : o ≠ o') : @Ne Nat a b := fun q => by
  have q' : a = b := q
  rw [q', e'] at e; exact hne (Option.some.inj e).symm
theorem ne_of_none {h : Heap} {a b : Addr} {o : Obj} (e : h.get? a = some o) (e' : h.get? b = none) : @Ne Nat a b := fun q => by
  have q' : a = b := q
  rw [q', e'] at e; cases e
section
variable {w : World} {f : Addr} {vs : List Value} {rm : Nat} {as : List Addr} {Pre : Heap → Prop} {Post : Heap → Value → Heap → Prop}
  {dp un : Nat} {gd : Option (List Code)} {cn : Str} {cs : Scope} {fa : Addr} {ccd : Value} {cl : List (Str × Addr)} {A₀ : Around} {outer : List Env} {base h₀ : Heap} {L : Addr} {m : Str → Option Value} {s : Shared} {p : Program} {loose : List Str} {mean : ExcName → Option Value} {mg mb : Str → Option Value} {Q E : Value → Shared → Prop} {news : List (Addr × Obj)}
/-- a call by its contract -/
theorem con_use (C : Con w f vs rm as Pre Post) (B : Below A₀ base outer h₀) (F : Fr h₀ L s.heap m) (X : (hd.heap_39 w.params).In h₀) (T : Top p loose mean mg mb h₀) (NS : base.NoSeer) (CA : CodeAll tabs2 base)
    (hk : cs.kind = .function) (hd : dp + rm < 880) (hu : un + 8 * rm < 9800) (hpre : Pre s.heap) (has : ∀ a ∈ as, a ≠ L ∧ h₀.get? a = none)
    (ret : ∀ r h' tk', KeepBut as s.heap h' → Fr h₀ L h' m → Post s.heap r h' → Q r { s with heap := h', toks := tk' }) :
    wpAny (model PySem.Challenge.rw_re0060_01.row.prog w) (ktrTop dp un gd cn cs L fa ccd cl outer) (call (.ref f) vs) Q E s :=
  C _ _ _ _ _ _ _ _ _ _ _ _ _ _ _ _ _ _ _ _ _ _ B F X T NS CA hk hd hu has hpre fun r h' tk' k po => ret r h' tk' k (fr_keepBut F k has) po
end
end Mine

namespace Mine
def AllNe (d : Nat) : List (Addr × Obj) → Prop
  | [] => True
  | p :: r => (@Ne Nat p.1 d) ∧ AllNe d r
theorem allNe_of {d : Addr} : ∀ {l : List (Addr × Obj)}, (∀ p ∈ l, p.1 ≠ d) → AllNe d l
  | [], _ => trivial
  | p :: _, h => ⟨h p (.head _), allNe_of fun q hq => h q (.tail _ hq)⟩
end Mine

namespace Mine
theorem NoRec.tab3 {P : Addr} {a b : Int} {v : Value} {l : List (Addr × Obj)} (r : NoRec l) : NoRec ((P, tabObj #[rawInt a, rawInt b, v]) :: l) := fun p hp vs e q t => by
  rcases List.mem_cons.mp hp with rfl | hp
  · cases e; simp [rawInt]
  · exact r p hp vs e q t
end Mine

namespace Mine
theorem Con.room {w : World} {f : Addr} {vs : List Value} {rm rm' : Nat} {as : List Addr} {Pre : Heap → Prop} {Post : Heap → Value → Heap → Prop} (C : Con w f vs rm as Pre Post) (h : rm ≤ rm') : Con w f vs rm' as Pre Post := by
  intro dp un gd cn cs fa ccd cl outer A₀ base h₀ L m s p loose mean mg mb Q E B F X T NS CA hk hd hu has hpre hret
  exact C dp un gd cn cs fa ccd cl outer A₀ base h₀ L m s p loose mean mg mb Q E B F X T NS CA hk (by omega) (by omega) has hpre hret
end Mine
end
section
open PySem PySem.W PyProof.Rows PySem.Calls
set_option Elab.async false
set_option maxRecDepth 100000
set_option maxHeartbeats 8000000
set_option pp.deepTerms.threshold 6
local macro_rules | `(tactic| omega) => `(tactic| lia)
namespace Mine
open Builtin.Int (intBits)
local macro_rules | `(tactic| walk_at "binaryOp RShift int int") => `(tactic| refine Stop.mk ?_)
local macro_rules | `(tactic| walk_at "binaryOp LShift int int") => `(tactic| refine Stop.mk ?_)
local macro_rules | `(tactic| walk_at "binaryOp FloorDiv int int") => `(tactic| refine Stop.mk ?_)
local macro_rules | `(tactic| walk_at "binaryOp BitXor int int") => `(tactic| refine Stop.mk ?_)
local macro_rules | `(tactic| walk_at "binaryOp Mult int int") => `(tactic| refine Stop.mk ?_)
local macro_rules | `(tactic| walk_at "binaryOp Mult ref int") => `(tactic| refine Stop.mk ?_)
local macro_rules | `(tactic| walk_at "call ref") => `(tactic| refine Stop.mk ?_)
theorem reg3 : True := by
  k_with "enterC" => (refine wpAny_call ?_; w_on; k_dflt (refine' code_defCY (news := _) ?k1 ?k2 ?k3 ?k4 ?k5 ?kA ?kF ?kK ?k6 ?k7 ?k8 ?k9 ?kB ?kD ?_ ?c2 ?c3 ?c4; (case kA => exact rfl); (case kF => exact rfl); (case kK => assumption); (case k1 => k_asm); (case k2 => k_asm); (case k3 => k_asm); (case k4 => k_asm); (case k5 => k_asm); (case k6 => k_is); (case k7 => k_is); (case k8 => (simp only [recursionLimit]; omega)); (case k9 => exact BindsTo.of_eq rfl); (case kB => exact rfl); (case kD => decide +kernel); (case c2 => exact rfl); (case c3 => exact rfl); (case c4 => exact rfl); k_whole; intro g' L' h' tk' cells' KB' SZ' F' N' Y' B' X' T' l1; (try k_lt l1); k_cells Y'; (try simp only [List.cons_append, List.nil_append] at N'); (try dsimp only); (try k_fold)))
  trivial

theorem i2d_E (w : World) (a : Int) (n : Nat) (ta tn : Tok) (ha : 0 ≤ a) (hn : 0 < n) (hn2 : n ≤ 4194304) (hab : intBits a ≤ 16777216) :
    Con w 35 [.int a ta, .int (n : Int) tn] 30 [30] (fun h => h.get? 30 = some (tabObj #[])) (fun h r h' => Filled h h' 30 32 4 qI ∧ ListAt h r h' (digs (2 ^ n) ((intBits a + n - 1) / n) a)) := by
  unfold Con
  k_fill
  intro dp un gd cn cs fa ccd cl outer A₀ base h₀ L m s p loose mean mg mb Q E B F X T NS CA hk hd hu has ht hret
  have C34 : CodeHd base 34 30 := CA.2.1
  have N : News h₀ L s.heap [(30, tabObj #[])] := fun p hp => by
    rw [List.mem_singleton.mp hp]
    exact ⟨ht, has 30 (List.Mem.head _)⟩
  k_extra "enterC"
  clear B F X T N
  k_steps
  refine Stop.go (op_fdivN (by omega) (by omega) ?_)
  intro z hz
  have hz0 : 0 ≤ z := by rw [hz]; exact Int.ediv_nonneg (by omega) (by omega)
  obtain ⟨k, rfl⟩ : ∃ k : Nat, z = (k : Int) := ⟨z.toNat, by omega⟩
  obtain ⟨hc1, hc2, hc3⟩ := ceil_facts hn hz
  have hkE : k = (intBits a + n - 1) / n := by
    have e : ((intBits a : Int) + n - 1) = ((intBits a + n - 1 : Nat) : Int) := by omega
    rw [e] at hz
    exact_mod_cast hz
  have hk24 : k ≤ 16777216 := by omega
  have hkn : k * n ≤ 33554432 := by omega
  k_steps
  refine Stop.go (op_zeros (k := k) (by k_asm) (by k_asm) (by k_mem) rfl hk24 ?_)
  intro D h1 vs F1 N1 l1 I1
  k_lt l1
  have hvs : vs.toArray.size = k := by rw [List.size_toArray, I1.length, List.length_replicate]
  k_steps
  · have hka : a < 2 ^ (k * n) := lt_pow_of_le ha hc2
    have hk0 : 0 < k := by
      have := bits_pos (x := a) (by assumption)
      rcases Nat.eq_zero_or_pos k with e | e
      · rw [e, Nat.zero_mul] at hc2; omega
      · exact e
    refine Stop.go ?_
    k_dflt (refine' inner_useA (D := D) (k := 24) (lo := 0) (hi := k) (len := k) (cA := L' + 1 + 1) (cI := L' + 1 + 1 + 1) (cN := L' + 1) ?N ?mf ?U ?mA ?mI ?mN (strong ?st _) ?B ?F ?X ?T NS CA rfl ?hc I1 ?hl rfl rfl hk0 (Nat.le_refl _) ?h3 ha ?h5 ?hd ?hu ?_; (case N => k_asm); (case mf => k_mem); (case U => k_updF); (case mA => k_mem); (case mI => k_mem); (case mN => k_mem); (case B => k_asm); (case F => k_asm); (case X => k_asm); (case T => k_asm); (case hc => exact codeRec_news (by k_asm) (by k_mem) (by assumption) (by assumption)); (case hl => simp); (case h3 => simpa using hk24); (case h5 => simpa using hka); (case hd => show dp + 1 + 25 < 880; omega); (case hu => show un + 3 + 8 * 25 < 9800; omega))
    case st =>
      intro kk IH
      clear hret KB' has
      unfold InnerA
      intro dp2 un2 gd2 cn2 cs2 fa2 ccd2 cl2 outer2 A2 base2 b0 L2 m2 s2 p2 loose2 mean2 mg2 mb2 Q2 E2 ws ns x lo hi t1 t2 t3 B2 F2 X2 T2 NS2 CA2 hk2 N2 hc2 I2 hl2 h12 h22 h32 h42 h52 hd2 hu2 ret2
      have N2c := N2
      refine wpAny_call ?_
      k_dflt (refine' code_nestY ?k1 ?k2 ?k3 ?k4 ?k5 ?kA ?kF ?kK ?k6 ?k7 ?k8 ?k9 ?kB ?_ ?c2 ?c3 ?c4 ?c5; (case kA => exact rfl); (case kF => exact rfl); (case kK => exact hk2); (case k1 => exact B2); (case k2 => exact F2); (case k3 => exact X2); (case k4 => exact N2); (case k5 => exact T2); (case k6 => k_mem); (case k7 => exact hc2); (case k8 => (simp only [recursionLimit]; omega)); (case k9 => exact BindsTo.of_eq rfl); (case c5 => decide); (case kB => exact locs rfl); (case c2 => exact rfl); (case c3 => exact rfl); (case c4 => exact rfl); k_whole; intro g3 L3 h3 KB3 SZ3 F3 N3 B3 X3 T3 l3; (try k_lt l3); (try dsimp only); (try k_fold))
      have hc3 := codeRec_g KB3 N2c hc2 rfl (by assumption) (by assumption) (by assumption)
      clear F2 N2 B2 X2 T2
      k_steps
      · dsimp only
        show Q2 .none _
        have eh : hi = lo + 1 := by omega
        refine ret2 _ _ _ (keep_shape KB3 (by assumption) (by assumption) N2c) (News.get (by assumption) (.tail _ (.head _))) ?_
        subst eh
        have e1 : lo + 1 - lo = 1 := by omega
        rw [e1, Nat.one_mul] at h52
        rw [e1, digs_one h42 h52, ← fill_one (by omega)]
        assumption
      · refine Stop.go (op_rsh (k := 1) rfl ?_)
        intro mid hmid
        obtain ⟨md, rfl⟩ : ∃ j : Nat, mid = (j : Int) := ⟨mid.toNat, by omega⟩
        have hm1 : lo < md := by omega
        have hm2 : md < hi := by omega
        obtain ⟨kj, rfl⟩ : ∃ kj, kk = kj + 1 := by
          cases kk with
          | zero => simp at h32; omega
          | succ kj => exact ⟨kj, rfl⟩
        rw [Nat.pow_succ] at h32
        have hsh : (md - lo) * n ≤ k * n := Nat.mul_le_mul_right _ (by omega)
        have hxn : (hi - lo) * n ≤ k * n := Nat.mul_le_mul_right _ (by omega)
        have hxb := bits_of_lt h42 h52
        have h64 : (2 : Int) ^ 64 = 18446744073709551616 := by decide
        k_steps
        refine Stop.go (op_mul (j := 64) (k := 64) (bits_of_lt (by omega) (by omega)) (bits_of_lt (by omega) (by omega)) (by omega) ?_)
        intro sh hsh2
        have hsh3 : sh = (((md - lo) * n : Nat) : Int) := by rw [hsh2, Int.natCast_mul, Int.ofNat_sub (Nat.le_of_lt hm1)]
        k_steps
        refine Stop.go (op_rsh (k := (md - lo) * n) hsh3 ?_)
        intro up hup
        have hub : Builtin.Int.intBits up ≤ (hi - lo) * n := by
          rw [hup, ← fdiv_two]; exact intBits_fdiv_le hxb
        k_steps
        refine Stop.go (op_lsh (k := (md - lo) * n) (j := (hi - lo) * n) hsh3 hub (by omega) ?_)
        intro us hus
        rw [hup] at hus
        k_steps
        refine Stop.go (op_xor (k := (md - lo) * n) h42 hus ?_)
        intro lw hlw
        k_steps
        refine Stop.go ?_
        dsimp only [List.nil_append]
        have hlw0 : 0 ≤ lw ∧ lw < 2 ^ ((md - lo) * n) := by rw [hlw]; exact (div_mod_two x _).2
        have hup0 : 0 ≤ up ∧ up < 2 ^ ((hi - md) * n) := by
          rw [hup]
          refine ⟨Int.ediv_nonneg h42 (Int.le_of_lt (two_pos _)), upper_lt ?_⟩
          rw [show md - lo + (hi - md) = hi - lo by omega]; exact h52
        k_dflt (refine' inner_useA (D := D) (k := kj) (lo := lo) (hi := md) (len := k) (n := n) (cA := L' + 1 + 1) (cI := L' + 1 + 1 + 1) (cN := L' + 1) ?N ?mf ?U ?mA ?mI ?mN (IH _ (Nat.lt_succ_self _)) ?B ?F ?X ?T NS2 CA2 rfl ?hc I2 hl2 rfl rfl hm1 (by omega) (by omega) hlw0.1 hlw0.2 ?hd ?hu ?_; (case N => k_asm); (case mf => k_mem); (case U => k_updF); (case mA => k_mem); (case mI => k_mem); (case mN => k_mem); (case B => k_asm); (case F => k_asm); (case X => k_asm); (case T => k_asm); (case hc => exact Heap.CodeRec.keeps hc3 (Fr.keep (by assumption))); (case hd => show dp2 + 1 + (kj + 1) < 880; omega); (case hu => show un2 + 3 + 8 * (kj + 1) < 9800; omega))
        intro vs4 h4 tk4 K4 F4 N4 hc4 I4
        try dsimp only at N4
        k_steps
        refine Stop.go ?_
        dsimp only [List.nil_append]
        k_dflt (refine' inner_useA (D := D) (k := kj) (lo := md) (hi := hi) (len := k) (n := n) (cA := L' + 1 + 1) (cI := L' + 1 + 1 + 1) (cN := L' + 1) ?N ?mf ?U ?mA ?mI ?mN (IH _ (Nat.lt_succ_self _)) ?B ?F ?X ?T NS2 CA2 rfl ?hc I4 ?hl rfl rfl hm2 (by omega) (by omega) hup0.1 hup0.2 ?hd ?hu ?_; (case N => k_asm); (case mf => k_mem); (case U => k_updF); (case mA => k_mem); (case mI => k_mem); (case mN => k_mem); (case B => k_asm); (case F => k_asm); (case X => k_asm); (case T => k_asm); (case hc => exact Heap.CodeRec.keeps hc3 (Fr.keep (by assumption))); (case hl => rw [fill_length (by omega) (by omega) (digs_length _ _ _)]; exact hl2); (case hd => show dp2 + 1 + (kj + 1) < 880; omega); (case hu => show un2 + 3 + 8 * (kj + 1) < 9800; omega))
        intro vs5 h5 tk5 K5 F5 N5 hc5 I5
        try dsimp only at N5
        k_steps
        refine ret2 vs5 h5 tk5 (keep_shape KB3 F5 N5 N2c) (N5.get (.tail _ (.head _))) ?_
        rw [fill_two (by omega) (by omega) (by omega) (digs_length _ _ _), hlw, hup, digs_split (by omega) (by omega)] at I5
        exact I5
    intro vs6 h6 tk6 K6 F6 N6 hc6 I6
    try dsimp only at N6
    rw [fill_all (by simp)] at I6
    k_steps
    dsimp only
    show Q (.ref D) _
    refine hret _ _ _ (keep_of KB' F6) ⟨?_, D, vs6, rfl, fresh_of KB' N6 (o := listOf vs6.toArray 0) (by k_mem) ?_, N6.get (by k_mem), ?_⟩
    · exact ⟨_, _, N6.get (o := tabObj #[rawInt 32, rawInt 4, .ref _]) (by k_mem), fresh_of KB' N6 (List.Mem.tail _ (List.Mem.head _)) (by intro hm; exact Nat.ne_of_gt (show (30 : Nat) < _ by omega) (List.mem_singleton.mp hm)), N6.get (List.Mem.tail _ (List.Mem.head _)), _, _, by assumption, by assumption⟩
    · intro hm; have h30 : (30 : Nat) < D := by omega
      exact Nat.ne_of_gt h30 (List.mem_singleton.mp hm)
    · rw [Nat.sub_zero, hkE] at I6; exact I6
  · have ha0 : a = 0 := by assumption
    have hk00 : k = 0 := by
      have : intBits a = 0 := by rw [ha0]; rfl
      omega
    dsimp only
    show Q (.ref D) _
    rename News _ _ _ _ => N7
    rename Fr _ _ _ _ => F7
    refine hret _ _ _ (keep_of KB' F7) ⟨?_, D, vs, rfl, fresh_of KB' N7 (o := listOf vs.toArray 0) (by k_mem) ?_, N7.get (by k_mem), ?_⟩
    · exact ⟨_, _, N7.get (o := tabObj #[rawInt 32, rawInt 4, .ref _]) (by k_mem), fresh_of KB' N7 (List.Mem.tail _ (List.Mem.head _)) (by intro hm; exact Nat.ne_of_gt (show (30 : Nat) < _ by omega) (List.mem_singleton.mp hm)), N7.get (List.Mem.tail _ (List.Mem.head _)), _, _, by assumption, by assumption⟩
    · intro hm; have h30 : (30 : Nat) < D := by omega
      exact Nat.ne_of_gt h30 (List.mem_singleton.mp hm)
    · rw [← hkE, hk00]; rw [hk00] at I1; exact I1
theorem i2d_F (w : World) (cc : Addr) (a : Int) (n : Nat) (ta tn : Tok) (ha : 0 ≤ a) (hn : 0 < n) (hn2 : n ≤ 4194304) (hab : intBits a ≤ 16777216) :
    Con w 35 [.int a ta, .int (n : Int) tn] 30 [30] (fun h => Full h 30 32 4 cc ∧ h.CodeRec (.ref cc) qI) (fun h r h' => Full h' 30 32 4 cc ∧ ListAt h r h' (digs (2 ^ n) ((intBits a + n - 1) / n) a)) := by
  unfold Con
  k_fill
  intro dp un gd cn cs fa ccd cl outer A₀ base h₀ L m s p loose mean mg mb Q E B F X T NS CA hk hd hu has ht hret
  have C34 : CodeHd base 34 30 := CA.2.1
  obtain ⟨ht, hcc⟩ := ht
  have N : News h₀ L s.heap [(30, tabObj #[rawInt 32, rawInt 4, .ref cc])] := fun p hp => by
    rw [List.mem_singleton.mp hp]
    exact ⟨ht, has 30 (List.Mem.head _)⟩
  k_extra "enterC"
  clear B F X T N
  have hcB : g'.CodeRec (.ref cc) qI := codeRec_tab hcc KB' ht
  k_steps
  refine Stop.go (op_fdivN (by omega) (by omega) ?_)
  intro z hz
  have hz0 : 0 ≤ z := by rw [hz]; exact Int.ediv_nonneg (by omega) (by omega)
  obtain ⟨k, rfl⟩ : ∃ k : Nat, z = (k : Int) := ⟨z.toNat, by omega⟩
  obtain ⟨hc1, hc2, hc3⟩ := ceil_facts hn hz
  have hkE : k = (intBits a + n - 1) / n := by
    have e : ((intBits a : Int) + n - 1) = ((intBits a + n - 1 : Nat) : Int) := by omega
    rw [e] at hz
    exact_mod_cast hz
  have hk24 : k ≤ 16777216 := by omega
  have hkn : k * n ≤ 33554432 := by omega
  k_steps
  refine Stop.go (op_zeros (k := k) (by k_asm) (by k_asm) (by k_mem) rfl hk24 ?_)
  intro D h1 vs F1 N1 l1 I1
  k_lt l1
  have hvs : vs.toArray.size = k := by rw [List.size_toArray, I1.length, List.length_replicate]
  k_steps
  · have hka : a < 2 ^ (k * n) := lt_pow_of_le ha hc2
    have hk0 : 0 < k := by
      have := bits_pos (x := a) (by assumption)
      rcases Nat.eq_zero_or_pos k with e | e
      · rw [e, Nat.zero_mul] at hc2; omega
      · exact e
    refine Stop.go ?_
    k_dflt (refine' inner_useA (D := D) (k := 24) (lo := 0) (hi := k) (len := k) (cA := L' + 1 + 1) (cI := L' + 1 + 1 + 1) (cN := L' + 1) ?N ?mf ?U ?mA ?mI ?mN (strong ?st _) ?B ?F ?X ?T NS CA rfl ?hc I1 ?hl rfl rfl hk0 (Nat.le_refl _) ?h3 ha ?h5 ?hd ?hu ?_; (case N => k_asm); (case mf => k_mem); (case U => k_updF); (case mA => k_mem); (case mI => k_mem); (case mN => k_mem); (case B => k_asm); (case F => k_asm); (case X => k_asm); (case T => k_asm); (case hc => exact Heap.CodeRec.keeps hcB (Fr.keep (by assumption))); (case hl => simp); (case h3 => simpa using hk24); (case h5 => simpa using hka); (case hd => show dp + 1 + 25 < 880; omega); (case hu => show un + 3 + 8 * 25 < 9800; omega))
    case st =>
      intro kk IH
      clear hret KB' has
      unfold InnerA
      intro dp2 un2 gd2 cn2 cs2 fa2 ccd2 cl2 outer2 A2 base2 b0 L2 m2 s2 p2 loose2 mean2 mg2 mb2 Q2 E2 ws ns x lo hi t1 t2 t3 B2 F2 X2 T2 NS2 CA2 hk2 N2 hc2 I2 hl2 h12 h22 h32 h42 h52 hd2 hu2 ret2
      have N2c := N2
      refine wpAny_call ?_
      k_dflt (refine' code_nestY ?k1 ?k2 ?k3 ?k4 ?k5 ?kA ?kF ?kK ?k6 ?k7 ?k8 ?k9 ?kB ?_ ?c2 ?c3 ?c4 ?c5; (case kA => exact rfl); (case kF => exact rfl); (case kK => exact hk2); (case k1 => exact B2); (case k2 => exact F2); (case k3 => exact X2); (case k4 => exact N2); (case k5 => exact T2); (case k6 => k_mem); (case k7 => exact hc2); (case k8 => (simp only [recursionLimit]; omega)); (case k9 => exact BindsTo.of_eq rfl); (case c5 => decide); (case kB => exact locs rfl); (case c2 => exact rfl); (case c3 => exact rfl); (case c4 => exact rfl); k_whole; intro g3 L3 h3 KB3 SZ3 F3 N3 B3 X3 T3 l3; (try k_lt l3); (try dsimp only); (try k_fold))
      have hc3 := codeRec_g KB3 N2c hc2 rfl (by assumption) (by assumption) (by assumption)
      clear F2 N2 B2 X2 T2
      k_steps
      · dsimp only
        show Q2 .none _
        have eh : hi = lo + 1 := by omega
        refine ret2 _ _ _ (keep_shape KB3 (by assumption) (by assumption) N2c) (News.get (by assumption) (.tail _ (.head _))) ?_
        subst eh
        have e1 : lo + 1 - lo = 1 := by omega
        rw [e1, Nat.one_mul] at h52
        rw [e1, digs_one h42 h52, ← fill_one (by omega)]
        assumption
      · refine Stop.go (op_rsh (k := 1) rfl ?_)
        intro mid hmid
        obtain ⟨md, rfl⟩ : ∃ j : Nat, mid = (j : Int) := ⟨mid.toNat, by omega⟩
        have hm1 : lo < md := by omega
        have hm2 : md < hi := by omega
        obtain ⟨kj, rfl⟩ : ∃ kj, kk = kj + 1 := by
          cases kk with
          | zero => simp at h32; omega
          | succ kj => exact ⟨kj, rfl⟩
        rw [Nat.pow_succ] at h32
        have hsh : (md - lo) * n ≤ k * n := Nat.mul_le_mul_right _ (by omega)
        have hxn : (hi - lo) * n ≤ k * n := Nat.mul_le_mul_right _ (by omega)
        have hxb := bits_of_lt h42 h52
        have h64 : (2 : Int) ^ 64 = 18446744073709551616 := by decide
        k_steps
        refine Stop.go (op_mul (j := 64) (k := 64) (bits_of_lt (by omega) (by omega)) (bits_of_lt (by omega) (by omega)) (by omega) ?_)
        intro sh hsh2
        have hsh3 : sh = (((md - lo) * n : Nat) : Int) := by rw [hsh2, Int.natCast_mul, Int.ofNat_sub (Nat.le_of_lt hm1)]
        k_steps
        refine Stop.go (op_rsh (k := (md - lo) * n) hsh3 ?_)
        intro up hup
        have hub : Builtin.Int.intBits up ≤ (hi - lo) * n := by
          rw [hup, ← fdiv_two]; exact intBits_fdiv_le hxb
        k_steps
        refine Stop.go (op_lsh (k := (md - lo) * n) (j := (hi - lo) * n) hsh3 hub (by omega) ?_)
        intro us hus
        rw [hup] at hus
        k_steps
        refine Stop.go (op_xor (k := (md - lo) * n) h42 hus ?_)
        intro lw hlw
        k_steps
        refine Stop.go ?_
        dsimp only [List.nil_append]
        have hlw0 : 0 ≤ lw ∧ lw < 2 ^ ((md - lo) * n) := by rw [hlw]; exact (div_mod_two x _).2
        have hup0 : 0 ≤ up ∧ up < 2 ^ ((hi - md) * n) := by
          rw [hup]
          refine ⟨Int.ediv_nonneg h42 (Int.le_of_lt (two_pos _)), upper_lt ?_⟩
          rw [show md - lo + (hi - md) = hi - lo by omega]; exact h52
        k_dflt (refine' inner_useA (D := D) (k := kj) (lo := lo) (hi := md) (len := k) (n := n) (cA := L' + 1 + 1) (cI := L' + 1 + 1 + 1) (cN := L' + 1) ?N ?mf ?U ?mA ?mI ?mN (IH _ (Nat.lt_succ_self _)) ?B ?F ?X ?T NS2 CA2 rfl ?hc I2 hl2 rfl rfl hm1 (by omega) (by omega) hlw0.1 hlw0.2 ?hd ?hu ?_; (case N => k_asm); (case mf => k_mem); (case U => k_updF); (case mA => k_mem); (case mI => k_mem); (case mN => k_mem); (case B => k_asm); (case F => k_asm); (case X => k_asm); (case T => k_asm); (case hc => exact Heap.CodeRec.keeps hc3 (Fr.keep (by assumption))); (case hd => show dp2 + 1 + (kj + 1) < 880; omega); (case hu => show un2 + 3 + 8 * (kj + 1) < 9800; omega))
        intro vs4 h4 tk4 K4 F4 N4 hc4 I4
        try dsimp only at N4
        k_steps
        refine Stop.go ?_
        dsimp only [List.nil_append]
        k_dflt (refine' inner_useA (D := D) (k := kj) (lo := md) (hi := hi) (len := k) (n := n) (cA := L' + 1 + 1) (cI := L' + 1 + 1 + 1) (cN := L' + 1) ?N ?mf ?U ?mA ?mI ?mN (IH _ (Nat.lt_succ_self _)) ?B ?F ?X ?T NS2 CA2 rfl ?hc I4 ?hl rfl rfl hm2 (by omega) (by omega) hup0.1 hup0.2 ?hd ?hu ?_; (case N => k_asm); (case mf => k_mem); (case U => k_updF); (case mA => k_mem); (case mI => k_mem); (case mN => k_mem); (case B => k_asm); (case F => k_asm); (case X => k_asm); (case T => k_asm); (case hc => exact Heap.CodeRec.keeps hc3 (Fr.keep (by assumption))); (case hl => rw [fill_length (by omega) (by omega) (digs_length _ _ _)]; exact hl2); (case hd => show dp2 + 1 + (kj + 1) < 880; omega); (case hu => show un2 + 3 + 8 * (kj + 1) < 9800; omega))
        intro vs5 h5 tk5 K5 F5 N5 hc5 I5
        try dsimp only at N5
        k_steps
        refine ret2 vs5 h5 tk5 (keep_shape KB3 F5 N5 N2c) (N5.get (.tail _ (.head _))) ?_
        rw [fill_two (by omega) (by omega) (by omega) (digs_length _ _ _), hlw, hup, digs_split (by omega) (by omega)] at I5
        exact I5
    intro vs6 h6 tk6 K6 F6 N6 hc6 I6
    try dsimp only at N6
    rw [fill_all (by simp)] at I6
    k_steps
    dsimp only
    show Q (.ref D) _
    refine hret _ _ _ (keep_of KB' F6) ⟨?_, D, vs6, rfl, fresh_of KB' N6 (o := listOf vs6.toArray 0) (by k_mem) ?_, N6.get (by k_mem), ?_⟩
    · exact N6.get (o := tabObj #[rawInt 32, rawInt 4, .ref cc]) (by k_mem)
    · intro hm; have h30 : (30 : Nat) < D := by omega
      exact Nat.ne_of_gt h30 (List.mem_singleton.mp hm)
    · rw [Nat.sub_zero, hkE] at I6; exact I6
  · have ha0 : a = 0 := by assumption
    have hk00 : k = 0 := by
      have : intBits a = 0 := by rw [ha0]; rfl
      omega
    dsimp only
    show Q (.ref D) _
    rename News _ _ _ _ => N7
    rename Fr _ _ _ _ => F7
    refine hret _ _ _ (keep_of KB' F7) ⟨?_, D, vs, rfl, fresh_of KB' N7 (o := listOf vs.toArray 0) (by k_mem) ?_, N7.get (by k_mem), ?_⟩
    · exact N7.get (o := tabObj #[rawInt 32, rawInt 4, .ref cc]) (by k_mem)
    · intro hm; have h30 : (30 : Nat) < D := by omega
      exact Nat.ne_of_gt h30 (List.mem_singleton.mp hm)
    · rw [← hkE, hk00]; rw [hk00] at I1; exact I1
end Mine
end
section
open PySem PySem.W PyProof.Rows PySem.Calls
set_option Elab.async false
set_option maxRecDepth 100000
set_option maxHeartbeats 8000000
set_option pp.deepTerms.threshold 6
local macro_rules | `(tactic| omega) => `(tactic| lia)
namespace Mine
open Builtin.Int (intBits)
local macro_rules | `(tactic| walk_at "binaryOp RShift int int") => `(tactic| refine Stop.mk ?_)
local macro_rules | `(tactic| walk_at "binaryOp LShift int int") => `(tactic| refine Stop.mk ?_)
local macro_rules | `(tactic| walk_at "binaryOp Mult int int") => `(tactic| refine Stop.mk ?_)
local macro_rules | `(tactic| walk_at "call ref") => `(tactic| refine Stop.mk ?_)
local macro_rules | `(tactic| walk_at "call builtin:len") => `(tactic| refine Stop.mk ?_)
local macro_rules | `(tactic| walk_at "truthy ref") => `(tactic| refine Stop.mk ?_)
theorem reg4 : True := by
  k_with "enterC" => (refine wpAny_call ?_; w_on; k_dflt (refine' code_defCY (news := _) ?k1 ?k2 ?k3 ?k4 ?k5 ?kA ?kF ?kK ?k6 ?k7 ?k8 ?k9 ?kB ?kD ?_ ?c2 ?c3 ?c4; (case kA => exact rfl); (case kF => exact rfl); (case kK => assumption); (case k1 => k_asm); (case k2 => k_asm); (case k3 => k_asm); (case k4 => k_asm); (case k5 => k_asm); (case k6 => k_is); (case k7 => k_is); (case k8 => (simp only [recursionLimit]; omega)); (case k9 => exact BindsTo.of_eq rfl); (case kB => exact rfl); (case kD => decide +kernel); (case c2 => exact rfl); (case c3 => exact rfl); (case c4 => exact rfl); k_whole; intro g' L' h' tk' cells' KB' SZ' F' N' Y' B' X' T' l1; (try k_lt l1); k_cells Y'; (try simp only [List.cons_append, List.nil_append] at N'); (try dsimp only); (try k_fold)))
  trivial

theorem d2i_E (w : World) (D : Addr) (vs : List Value) (ns : List Int) (n : Nat) (tn : Tok) (hn : 0 < n) (hn2 : n ≤ 4194304) (I : IntsAre vs ns) (hr : ∀ d ∈ ns, 0 ≤ d ∧ d < 2 ^ n) (hl24 : ns.length ≤ 16777216) (hln : ns.length * n ≤ 33554432) :
    Con w 42 [.ref D, .int (n : Int) tn] 30 [37] (fun h => h.get? 37 = some (tabObj #[]) ∧ h.IsList D vs.toArray) (fun h r h' => Filled h h' 37 47 4 qD ∧ ∃ t, r = .int (undig (2 ^ n) ns) t) := by
  unfold Con
  k_fill
  intro dp un gd cn cs fa ccd cl outer A₀ base h₀ L m s p loose mean mg mb Q E B F X T NS CA hk hd hu has hpre hret
  have C41 : CodeHd base 41 37 := CA.1
  obtain ⟨ht, hls⟩ := hpre
  have hsz : (vs.toArray.size : Int) = (ns.length : Int) := by rw [List.size_toArray, I.length]
  have N : News h₀ L s.heap [(37, tabObj #[])] := fun p hp => by
    rw [List.mem_singleton.mp hp]
    exact ⟨ht, has 37 (List.Mem.head _)⟩
  have Nc := N
  k_extra "enterC"
  have hlg : g'.IsList D vs.toArray := isList_g KB' Nc (.tab .nil) hls
  clear B F X T N Nc
  k_steps
  refine Stop.go (wpAny_truthy_list (hlg.at fun o e => Fr.keep (by assumption) _ _ e) (by omega) ?_)
  cases hve : vs.toArray.isEmpty with
  | true =>
    have hns : ns = [] := by
      have e1 : vs.toArray.size = 0 := by simpa [Array.isEmpty] using hve
      exact List.eq_nil_of_length_eq_zero (by omega)
    rw [if_neg (by simp)]
    k_steps
    dsimp only
    show Q (.int _ _) _
    rename News _ _ _ _ => N7
    rename Fr _ _ _ _ => F7
    refine hret _ _ _ (keep_of KB' F7) ⟨?_, ⟨_, by rw [hns]; rfl⟩⟩
    · exact ⟨_, _, N7.get (o := tabObj #[rawInt 47, rawInt 4, .ref _]) (by k_mem), fresh_of KB' N7 (List.Mem.tail _ (List.Mem.head _)) (by intro hm; exact Nat.ne_of_gt (show (37 : Nat) < _ by omega) (List.mem_singleton.mp hm)), N7.get (List.Mem.tail _ (List.Mem.head _)), _, _, by assumption, by assumption⟩
  | false =>
    have hns : 0 < ns.length := by
      rcases Nat.eq_zero_or_pos ns.length with e | e
      · have e1 : vs.toArray.size = 0 := by omega
        simp [Array.isEmpty, e1] at hve
      · exact e
    rw [if_pos (by simp)]
    k_steps
    refine Stop.go (call_len_list (hlg.at fun o e => Fr.keep (by assumption) _ _ e) (by omega) ?_)
    k_steps
    refine Stop.go ?_
    dsimp only [List.nil_append]
    k_dflt (refine' inner_useB (D := D) (k := 24) (lo := 0) (hi := ns.length) (ns := ns) (vs := vs) (n := n) (cA := L' + 1) (cI := L' + 1 + 1 + 1) (cN := L' + 1 + 1) ?N ?mf ?mA ?mI ?mN (strong ?st _) ?B ?F ?X ?T NS CA rfl ?hc ?hls rfl hsz hns (Nat.le_refl _) ?h3 ?hd ?hu ?_; (case N => k_asm); (case mf => k_mem); (case mA => k_mem); (case mI => k_mem); (case mN => k_mem); (case B => k_asm); (case F => k_asm); (case X => k_asm); (case T => k_asm); (case hc => exact codeRec_news (by k_asm) (by k_mem) (by assumption) (by assumption)); (case hls => exact hlg.at fun o e => Fr.keep (by assumption) _ _ e); (case h3 => simpa using hl24); (case hd => show dp + 1 + 25 < 880; omega); (case hu => show un + 3 + 8 * 25 < 9800; omega))
    case st =>
      intro kk IH
      clear hret KB' has
      unfold InnerB
      intro dp2 un2 gd2 cn2 cs2 fa2 ccd2 cl2 outer2 A2 base2 b0 L2 m2 s2 p2 loose2 mean2 mg2 mb2 Q2 E2 lo hi t2 t3 B2 F2 X2 T2 NS2 CA2 hk2 N2 hc2 hls2 h12 h22 h32 hd2 hu2 ret2
      have N2c := N2
      refine wpAny_call ?_
      k_dflt (refine' code_nestY ?k1 ?k2 ?k3 ?k4 ?k5 ?kA ?kF ?kK ?k6 ?k7 ?k8 ?k9 ?kB ?_ ?c2 ?c3 ?c4 ?c5; (case kA => exact rfl); (case kF => exact rfl); (case kK => exact hk2); (case k1 => exact B2); (case k2 => exact F2); (case k3 => exact X2); (case k4 => exact N2); (case k5 => exact T2); (case k6 => k_mem); (case k7 => exact hc2); (case k8 => (simp only [recursionLimit]; omega)); (case k9 => exact BindsTo.of_eq rfl); (case c5 => decide); (case kB => exact locs rfl); (case c2 => exact rfl); (case c3 => exact rfl); (case c4 => exact rfl); k_whole; intro g3 L3 h3 KB3 SZ3 F3 N3 B3 X3 T3 l3; (try k_lt l3); (try dsimp only); (try k_fold))
      have hc3 := codeRec_in KB3 N2c (.func rfl (.cell (by assumption) (.cell (by assumption) (.cell (by assumption) .nil)))) hc2
      have hl3 := isList_g KB3 N2c (.func rfl (.cell (by assumption) (.cell (by assumption) (.cell (by assumption) .nil)))) hls2
      clear F2 N2 B2 X2 T2
      k_steps
      · dsimp only
        show Q2 (.int _ _) _
        have eh : hi = lo + 1 := by omega
        refine ret2 _ _ _ _ (keep_whole KB3 (by assumption) (by assumption) (fun p hp => (N2c p hp).1) (fun p hp => hp)) ?_
        subst eh
        rw [seg_one (by omega), Int.toNat_natCast]
        simp [undig]
      · refine Stop.go (op_rsh (k := 1) rfl ?_)
        intro mid hmid
        obtain ⟨md, rfl⟩ : ∃ j : Nat, mid = (j : Int) := ⟨mid.toNat, by omega⟩
        have hm1 : lo < md := by omega
        have hm2 : md < hi := by omega
        obtain ⟨kj, rfl⟩ : ∃ kj, kk = kj + 1 := by
          cases kk with
          | zero => simp at h32; omega
          | succ kj => exact ⟨kj, rfl⟩
        rw [Nat.pow_succ] at h32
        have hsh : (md - lo) * n ≤ ns.length * n := Nat.mul_le_mul_right _ (by omega)
        have hxn : (hi - md) * n ≤ ns.length * n := Nat.mul_le_mul_right _ (by omega)
        have h64 : (2 : Int) ^ 64 = 18446744073709551616 := by decide
        k_steps
        refine Stop.go (op_mul (j := 64) (k := 64) (bits_of_lt (by omega) (by omega)) (bits_of_lt (by omega) (by omega)) (by omega) ?_)
        intro sh hsh2
        have hsh3 : sh = (((md - lo) * n : Nat) : Int) := by rw [hsh2, Int.natCast_mul, Int.ofNat_sub (Nat.le_of_lt hm1)]
        k_steps
        refine Stop.go ?_
        dsimp only [List.nil_append]
        k_dflt (refine' inner_useB (D := D) (k := kj) (lo := md) (hi := hi) (ns := ns) (n := n) (cA := L' + 1) (cI := L' + 1 + 1 + 1) (cN := L' + 1 + 1) ?N ?mf ?mA ?mI ?mN (IH _ (Nat.lt_succ_self _)) ?B ?F ?X ?T NS2 CA2 rfl ?hc ?hls rfl rfl hm2 (by omega) (by omega) ?hd ?hu ?_; (case N => k_asm); (case mf => k_mem); (case mA => k_mem); (case mI => k_mem); (case mN => k_mem); (case B => k_asm); (case F => k_asm); (case X => k_asm); (case T => k_asm); (case hc => exact Heap.CodeRec.keeps hc3 (Fr.keep (by assumption))); (case hls => exact hl3.at fun o e => Fr.keep (by assumption) _ _ e); (case hd => show dp2 + 1 + (kj + 1) < 880; omega); (case hu => show un2 + 3 + 8 * (kj + 1) < 9800; omega))
        intro u tu h4 tk4 K4 F4 N4 hu4
        k_steps
        refine Stop.go (op_lsh (k := (md - lo) * n) (j := (hi - md) * n) hsh3 (by rw [hu4]; exact seg_bits h22 hr) (by omega) ?_)
        intro us hus
        k_steps
        refine Stop.go ?_
        dsimp only [List.nil_append]
        k_dflt (refine' inner_useB (D := D) (k := kj) (lo := lo) (hi := md) (ns := ns) (n := n) (cA := L' + 1) (cI := L' + 1 + 1 + 1) (cN := L' + 1 + 1) ?N ?mf ?mA ?mI ?mN (IH _ (Nat.lt_succ_self _)) ?B ?F ?X ?T NS2 CA2 rfl ?hc ?hls rfl rfl hm1 (by omega) (by omega) ?hd ?hu ?_; (case N => k_asm); (case mf => k_mem); (case mA => k_mem); (case mI => k_mem); (case mN => k_mem); (case B => k_asm); (case F => k_asm); (case X => k_asm); (case T => k_asm); (case hc => exact Heap.CodeRec.keeps hc3 (Fr.keep (by assumption))); (case hls => exact hl3.at fun o e => Fr.keep (by assumption) _ _ e); (case hd => show dp2 + 1 + (kj + 1) < 880; omega); (case hu => show un2 + 3 + 8 * (kj + 1) < 9800; omega))
        intro v tv h5 tk5 K5 F5 N5 hv5
        k_steps
        dsimp only
        show Q2 (.int _ _) _
        refine ret2 _ _ _ _ (keep_whole KB3 (by assumption) (by assumption) (fun p hp => (N2c p hp).1) (fun p hp => hp)) ?_
        rw [hus, hu4, hv5, undig_seg (by omega) (by omega) h22]
    intro z9 t9 h9 tk9 K9 F7 N7 hz9
    rw [seg_all] at hz9
    k_steps
    dsimp only
    show Q (.int _ _) _
    refine hret _ _ _ (keep_of KB' F7) ⟨?_, ⟨_, by rw [hz9]⟩⟩
    · exact ⟨_, _, N7.get (o := tabObj #[rawInt 47, rawInt 4, .ref _]) (by k_mem), fresh_of KB' N7 (List.Mem.tail _ (List.Mem.head _)) (by intro hm; exact Nat.ne_of_gt (show (37 : Nat) < _ by omega) (List.mem_singleton.mp hm)), N7.get (List.Mem.tail _ (List.Mem.head _)), _, _, by assumption, by assumption⟩
theorem d2i_F (w : World) (cc : Addr) (D : Addr) (vs : List Value) (ns : List Int) (n : Nat) (tn : Tok) (hn : 0 < n) (hn2 : n ≤ 4194304) (I : IntsAre vs ns) (hr : ∀ d ∈ ns, 0 ≤ d ∧ d < 2 ^ n) (hl24 : ns.length ≤ 16777216) (hln : ns.length * n ≤ 33554432) :
    Con w 42 [.ref D, .int (n : Int) tn] 30 [37] (fun h => (Full h 37 47 4 cc ∧ h.CodeRec (.ref cc) qD) ∧ h.IsList D vs.toArray) (fun h r h' => Full h' 37 47 4 cc ∧ ∃ t, r = .int (undig (2 ^ n) ns) t) := by
  unfold Con
  k_fill
  intro dp un gd cn cs fa ccd cl outer A₀ base h₀ L m s p loose mean mg mb Q E B F X T NS CA hk hd hu has hpre hret
  have C41 : CodeHd base 41 37 := CA.1
  obtain ⟨ht, hls⟩ := hpre
  have hsz : (vs.toArray.size : Int) = (ns.length : Int) := by rw [List.size_toArray, I.length]
  obtain ⟨ht, hcc⟩ := ht
  have N : News h₀ L s.heap [(37, tabObj #[rawInt 47, rawInt 4, .ref cc])] := fun p hp => by
    rw [List.mem_singleton.mp hp]
    exact ⟨ht, has 37 (List.Mem.head _)⟩
  have Nc := N
  k_extra "enterC"
  have hlg : g'.IsList D vs.toArray := isList_g KB' Nc (.tab .nil) hls
  clear B F X T N Nc
  have hcB : g'.CodeRec (.ref cc) qD := codeRec_tab hcc KB' ht
  k_steps
  refine Stop.go (wpAny_truthy_list (hlg.at fun o e => Fr.keep (by assumption) _ _ e) (by omega) ?_)
  cases hve : vs.toArray.isEmpty with
  | true =>
    have hns : ns = [] := by
      have e1 : vs.toArray.size = 0 := by simpa [Array.isEmpty] using hve
      exact List.eq_nil_of_length_eq_zero (by omega)
    rw [if_neg (by simp)]
    k_steps
    dsimp only
    show Q (.int _ _) _
    rename News _ _ _ _ => N7
    rename Fr _ _ _ _ => F7
    refine hret _ _ _ (keep_of KB' F7) ⟨?_, ⟨_, by rw [hns]; rfl⟩⟩
    · exact N7.get (o := tabObj #[rawInt 47, rawInt 4, .ref cc]) (by k_mem)
  | false =>
    have hns : 0 < ns.length := by
      rcases Nat.eq_zero_or_pos ns.length with e | e
      · have e1 : vs.toArray.size = 0 := by omega
        simp [Array.isEmpty, e1] at hve
      · exact e
    rw [if_pos (by simp)]
    k_steps
    refine Stop.go (call_len_list (hlg.at fun o e => Fr.keep (by assumption) _ _ e) (by omega) ?_)
    k_steps
    refine Stop.go ?_
    dsimp only [List.nil_append]
    k_dflt (refine' inner_useB (D := D) (k := 24) (lo := 0) (hi := ns.length) (ns := ns) (vs := vs) (n := n) (cA := L' + 1) (cI := L' + 1 + 1 + 1) (cN := L' + 1 + 1) ?N ?mf ?mA ?mI ?mN (strong ?st _) ?B ?F ?X ?T NS CA rfl ?hc ?hls rfl hsz hns (Nat.le_refl _) ?h3 ?hd ?hu ?_; (case N => k_asm); (case mf => k_mem); (case mA => k_mem); (case mI => k_mem); (case mN => k_mem); (case B => k_asm); (case F => k_asm); (case X => k_asm); (case T => k_asm); (case hc => exact Heap.CodeRec.keeps hcB (Fr.keep (by assumption))); (case hls => exact hlg.at fun o e => Fr.keep (by assumption) _ _ e); (case h3 => simpa using hl24); (case hd => show dp + 1 + 25 < 880; omega); (case hu => show un + 3 + 8 * 25 < 9800; omega))
    case st =>
      intro kk IH
      clear hret KB' has
      unfold InnerB
      intro dp2 un2 gd2 cn2 cs2 fa2 ccd2 cl2 outer2 A2 base2 b0 L2 m2 s2 p2 loose2 mean2 mg2 mb2 Q2 E2 lo hi t2 t3 B2 F2 X2 T2 NS2 CA2 hk2 N2 hc2 hls2 h12 h22 h32 hd2 hu2 ret2
      have N2c := N2
      refine wpAny_call ?_
      k_dflt (refine' code_nestY ?k1 ?k2 ?k3 ?k4 ?k5 ?kA ?kF ?kK ?k6 ?k7 ?k8 ?k9 ?kB ?_ ?c2 ?c3 ?c4 ?c5; (case kA => exact rfl); (case kF => exact rfl); (case kK => exact hk2); (case k1 => exact B2); (case k2 => exact F2); (case k3 => exact X2); (case k4 => exact N2); (case k5 => exact T2); (case k6 => k_mem); (case k7 => exact hc2); (case k8 => (simp only [recursionLimit]; omega)); (case k9 => exact BindsTo.of_eq rfl); (case c5 => decide); (case kB => exact locs rfl); (case c2 => exact rfl); (case c3 => exact rfl); (case c4 => exact rfl); k_whole; intro g3 L3 h3 KB3 SZ3 F3 N3 B3 X3 T3 l3; (try k_lt l3); (try dsimp only); (try k_fold))
      have hc3 := codeRec_in KB3 N2c (.func rfl (.cell (by assumption) (.cell (by assumption) (.cell (by assumption) .nil)))) hc2
      have hl3 := isList_g KB3 N2c (.func rfl (.cell (by assumption) (.cell (by assumption) (.cell (by assumption) .nil)))) hls2
      clear F2 N2 B2 X2 T2
      k_steps
      · dsimp only
        show Q2 (.int _ _) _
        have eh : hi = lo + 1 := by omega
        refine ret2 _ _ _ _ (keep_whole KB3 (by assumption) (by assumption) (fun p hp => (N2c p hp).1) (fun p hp => hp)) ?_
        subst eh
        rw [seg_one (by omega), Int.toNat_natCast]
        simp [undig]
      · refine Stop.go (op_rsh (k := 1) rfl ?_)
        intro mid hmid
        obtain ⟨md, rfl⟩ : ∃ j : Nat, mid = (j : Int) := ⟨mid.toNat, by omega⟩
        have hm1 : lo < md := by omega
        have hm2 : md < hi := by omega
        obtain ⟨kj, rfl⟩ : ∃ kj, kk = kj + 1 := by
          cases kk with
          | zero => simp at h32; omega
          | succ kj => exact ⟨kj, rfl⟩
        rw [Nat.pow_succ] at h32
        have hsh : (md - lo) * n ≤ ns.length * n := Nat.mul_le_mul_right _ (by omega)
        have hxn : (hi - md) * n ≤ ns.length * n := Nat.mul_le_mul_right _ (by omega)
        have h64 : (2 : Int) ^ 64 = 18446744073709551616 := by decide
        k_steps
        refine Stop.go (op_mul (j := 64) (k := 64) (bits_of_lt (by omega) (by omega)) (bits_of_lt (by omega) (by omega)) (by omega) ?_)
        intro sh hsh2
        have hsh3 : sh = (((md - lo) * n : Nat) : Int) := by rw [hsh2, Int.natCast_mul, Int.ofNat_sub (Nat.le_of_lt hm1)]
        k_steps
        refine Stop.go ?_
        dsimp only [List.nil_append]
        k_dflt (refine' inner_useB (D := D) (k := kj) (lo := md) (hi := hi) (ns := ns) (n := n) (cA := L' + 1) (cI := L' + 1 + 1 + 1) (cN := L' + 1 + 1) ?N ?mf ?mA ?mI ?mN (IH _ (Nat.lt_succ_self _)) ?B ?F ?X ?T NS2 CA2 rfl ?hc ?hls rfl rfl hm2 (by omega) (by omega) ?hd ?hu ?_; (case N => k_asm); (case mf => k_mem); (case mA => k_mem); (case mI => k_mem); (case mN => k_mem); (case B => k_asm); (case F => k_asm); (case X => k_asm); (case T => k_asm); (case hc => exact Heap.CodeRec.keeps hc3 (Fr.keep (by assumption))); (case hls => exact hl3.at fun o e => Fr.keep (by assumption) _ _ e); (case hd => show dp2 + 1 + (kj + 1) < 880; omega); (case hu => show un2 + 3 + 8 * (kj + 1) < 9800; omega))
        intro u tu h4 tk4 K4 F4 N4 hu4
        k_steps
        refine Stop.go (op_lsh (k := (md - lo) * n) (j := (hi - md) * n) hsh3 (by rw [hu4]; exact seg_bits h22 hr) (by omega) ?_)
        intro us hus
        k_steps
        refine Stop.go ?_
        dsimp only [List.nil_append]
        k_dflt (refine' inner_useB (D := D) (k := kj) (lo := lo) (hi := md) (ns := ns) (n := n) (cA := L' + 1) (cI := L' + 1 + 1 + 1) (cN := L' + 1 + 1) ?N ?mf ?mA ?mI ?mN (IH _ (Nat.lt_succ_self _)) ?B ?F ?X ?T NS2 CA2 rfl ?hc ?hls rfl rfl hm1 (by omega) (by omega) ?hd ?hu ?_; (case N => k_asm); (case mf => k_mem); (case mA => k_mem); (case mI => k_mem); (case mN => k_mem); (case B => k_asm); (case F => k_asm); (case X => k_asm); (case T => k_asm); (case hc => exact Heap.CodeRec.keeps hc3 (Fr.keep (by assumption))); (case hls => exact hl3.at fun o e => Fr.keep (by assumption) _ _ e); (case hd => show dp2 + 1 + (kj + 1) < 880; omega); (case hu => show un2 + 3 + 8 * (kj + 1) < 9800; omega))
        intro v tv h5 tk5 K5 F5 N5 hv5
        k_steps
        dsimp only
        show Q2 (.int _ _) _
        refine ret2 _ _ _ _ (keep_whole KB3 (by assumption) (by assumption) (fun p hp => (N2c p hp).1) (fun p hp => hp)) ?_
        rw [hus, hu4, hv5, undig_seg (by omega) (by omega) h22]
    intro z9 t9 h9 tk9 K9 F7 N7 hz9
    rw [seg_all] at hz9
    k_steps
    dsimp only
    show Q (.int _ _) _
    refine hret _ _ _ (keep_of KB' F7) ⟨?_, ⟨_, by rw [hz9]⟩⟩
    · exact N7.get (o := tabObj #[rawInt 47, rawInt 4, .ref cc]) (by k_mem)
end Mine
end
section
open PySem PySem.W PyProof.Rows PySem.Calls PyProof.V PySem.Spec
set_option Elab.async false
set_option maxRecDepth 100000
local macro_rules | `(tactic| omega) => `(tactic| lia)
namespace Mine
section
variable {prog : Program} {w : World} {A : Around} {E : Value → Shared → Prop} {s : Shared} {env : Env} {h₀ : Heap} {x : Str} {body : List Stmt} {Q : Flow → Shared → Prop}

/-- the names' map: what the state holds, what is forgotten, what stood -/
abbrev stM (stored : List Str) (m₀ u : Str → Option Value) (ps : List (Str × Value)) : Str → Option Value := kstB (fun z => if stored.contains z then u z else m₀ z) ps
theorem stM_eq {stored : List Str} {m₀ m' : Str → Option Value} {ps : List (Str × Value)} (h1 : ∀ p ∈ ps, m' p.1 = some p.2) (h2 : ∀ z, (∀ p ∈ ps, z ≠ p.1) → stored.contains z = false → m' z = m₀ z) : stM stored m₀ m' ps = m' := by
  funext y
  refine kstB_eq h1 fun hn => ?_
  show (if stored.contains y = true then m' y else m₀ y) = m' y
  cases h3 : stored.contains y with
  | true => simp
  | false => simp only [Bool.false_eq_true, if_false]; exact (h2 y hn h3).symm

/-- a turn's end: the next state -/
def StEnd {σ : Type} (Led : σ → List (Addr × Obj)) (ps : σ → List (Str × Value)) (stored : List Str) (m₀ : Str → Option Value) (P : σ → Prop) (m' : Str → Option Value) (n' : List (Addr × Obj)) : Prop :=
  ∃ c', n' = Led c' ∧ (∀ p ∈ ps c', m' p.1 = some p.2) ∧ (∀ z, (∀ p ∈ ps c', z ≠ p.1) → stored.contains z = false → m' z = m₀ z) ∧ P c'

theorem rev_state {σ : Type} {I : Addr} {lp : Addr × Obj} {m₀ : Str → Option Value} (Led : σ → List (Addr × Obj)) (ps : σ → List (Str × Value)) (stored : List Str) (Inv : List Int → σ → Prop) (hlp : ∀ c, lp ∈ Led c)
    (turn : ∀ (z : Int) (tz : Tok) (zs : List Int) (c : σ) (u : Str → Option Value) (it : Obj) h tk, Inv (z :: zs) c → it.cls = .type "list_reverseiterator" → Fr h₀ env.locals h (fun y => if y = x then some (.int z tz) else stM stored m₀ u (ps c) y) → News h₀ env.locals h ((I, it) :: Led c) →
      wpAny (model prog w) A (execs body env) (UnrPost h₀ env.locals { s with heap := h, toks := tk } I it (StEnd Led ps stored m₀ (Inv zs)) Q) E { s with heap := h, toks := tk })
    (done : ∀ c (u : Str → Option Value) h tk, Inv [] c → Fr h₀ env.locals h (stM stored m₀ u (ps c)) → News h₀ env.locals h (Led c) → Q .next { s with heap := h, toks := tk }) :
    ∀ {ws : List Value} {ms : List Int}, IntsAre ws ms → ∀ (c : σ) (u : Str → Option Value), Inv ms c → RevRest prog w A E h₀ env x body Q s I lp ws (stM stored m₀ u (ps c)) (Led c) := by
  intro ws ms hI
  induction hI with
  | nil => exact fun c u hv => RevRest.zero fun h tk F N => done c u h tk hv F N
  | @cons z tz ws ms _ ih =>
    intro c u hv
    refine RevRest.succ fun it h tk hit F N => wpAny_mono (turn z tz _ c u it h tk hv hit F N) (fun f s₂ p => ?_) fun _ _ e => e
    have fin : ∀ s₂, UnrEnd h₀ env.locals { s with heap := h, toks := tk } I it (StEnd Led ps stored m₀ (Inv ms)) s₂ → UnrEnd h₀ env.locals { s with heap := h, toks := tk } I it (fun m' n' => lp ∈ n' ∧ RevRest prog w A E h₀ env x body Q s I lp ws m' n') s₂ := by
      rintro s₂ ⟨h', tk', m', n', e, F', N', off, c', rfl, h1, h2, h3⟩
      refine ⟨h', tk', m', _, e, F', N', off, hlp c', ?_⟩
      have := ih c' m' h3
      rw [stM_eq h1 h2] at this
      exact this
    cases f with
    | ret v => exact p
    | brk => exact p
    | next => exact fin _ p
    | cont => exact fin _ p

theorem range_state {σ : Type} {I : Addr} {a : Int} {n : Nat} {m₀ : Str → Option Value} (Led : σ → List (Addr × Obj)) (ps : σ → List (Str × Value)) (stored : List Str) (Inv : Nat → σ → Prop)
    (turn : ∀ (i : Nat) (c : σ) (u : Str → Option Value) (it : Obj) t h tk, i < n → Inv i c → it.cls = .type "range_iterator" → Fr h₀ env.locals h (fun y => if y = x then some (.int (a + (i : Int)) t) else stM stored m₀ u (ps c) y) → News h₀ env.locals h ((I, it) :: Led c) →
      wpAny (model prog w) A (execs body env) (UnrPost h₀ env.locals { s with heap := h, toks := tk } I it (StEnd Led ps stored m₀ (Inv (i + 1))) Q) E { s with heap := h, toks := tk })
    (done : ∀ c (u : Str → Option Value) h tk, Inv n c → Fr h₀ env.locals h (stM stored m₀ u (ps c)) → News h₀ env.locals h (Led c) → Q .next { s with heap := h, toks := tk }) :
    ∀ (k i : Nat), i + k = n → ∀ (c : σ) (u : Str → Option Value), Inv i c → RangeRest prog w A E h₀ env x body Q s I a n k i (stM stored m₀ u (ps c)) (Led c) := by
  intro k
  induction k with
  | zero => exact fun i hi c u hv => RangeRest.zero fun h tk F N => done c u h tk (by rw [← hi]; exact hv) F N
  | succ k ih =>
    intro i hi c u hv
    refine RangeRest.succ fun t h tk F N => wpAny_mono (turn i c u _ t h tk (by omega) hv rfl F N) (fun f s₂ p => ?_) fun _ _ e => e
    have fin : ∀ s₂, UnrEnd h₀ env.locals { s with heap := h, toks := tk } I (itR (a + ((i + 1 : Nat) : Int)) ((n : Int) - ((i + 1 : Nat) : Int))) (StEnd Led ps stored m₀ (Inv (i + 1))) s₂ →
        UnrEnd h₀ env.locals { s with heap := h, toks := tk } I (itR (a + ((i + 1 : Nat) : Int)) ((n : Int) - ((i + 1 : Nat) : Int))) (RangeRest prog w A E h₀ env x body Q s I a n k (i + 1)) s₂ := by
      rintro s₂ ⟨h', tk', m', n', e, F', N', off, c', rfl, h1, h2, h3⟩
      refine ⟨h', tk', m', _, e, F', N', off, ?_⟩
      have := ih (i + 1) (by omega) c' m' h3
      rw [stM_eq h1 h2] at this
      exact this
    cases f with
    | ret v => exact p
    | brk => exact p
    | next => exact fin _ p
    | cont => exact fin _ p
theorem rev_start {σ : Type} {I : Addr} {lp : Addr × Obj} {m₀ : Str → Option Value} (Led : σ → List (Addr × Obj)) (ps : σ → List (Str × Value)) (stored : List Str) (Inv : List Int → σ → Prop) (hlp : ∀ c, lp ∈ Led c)
    {ws : List Value} {ms : List Int} (hI : IntsAre ws ms) (c₀ : σ) (h1 : ∀ p ∈ ps c₀, m₀ p.1 = some p.2) (hv : Inv ms c₀)
    (turn : ∀ (z : Int) (tz : Tok) (zs : List Int) (c : σ) (u : Str → Option Value) (it : Obj) h tk, Inv (z :: zs) c → it.cls = .type "list_reverseiterator" → Fr h₀ env.locals h (fun y => if y = x then some (.int z tz) else stM stored m₀ u (ps c) y) → News h₀ env.locals h ((I, it) :: Led c) →
      wpAny (model prog w) A (execs body env) (UnrPost h₀ env.locals { s with heap := h, toks := tk } I it (StEnd Led ps stored m₀ (Inv zs)) Q) E { s with heap := h, toks := tk })
    (done : ∀ c (u : Str → Option Value) h tk, Inv [] c → Fr h₀ env.locals h (stM stored m₀ u (ps c)) → News h₀ env.locals h (Led c) → Q .next { s with heap := h, toks := tk }) :
    RevRest prog w A E h₀ env x body Q s I lp ws m₀ (Led c₀) := by
  have := rev_state (prog := prog) (w := w) (A := A) (E := E) (I := I) (lp := lp) Led ps stored Inv hlp turn done hI c₀ m₀ hv
  rw [stM_eq h1 fun _ _ _ => rfl] at this
  exact this
theorem range_start {σ : Type} {I : Addr} {a : Int} {n : Nat} {m₀ : Str → Option Value} (Led : σ → List (Addr × Obj)) (ps : σ → List (Str × Value)) (stored : List Str) (Inv : Nat → σ → Prop)
    (c₀ : σ) (h1 : ∀ p ∈ ps c₀, m₀ p.1 = some p.2) (hv : Inv 0 c₀)
    (turn : ∀ (i : Nat) (c : σ) (u : Str → Option Value) (it : Obj) t h tk, i < n → Inv i c → it.cls = .type "range_iterator" → Fr h₀ env.locals h (fun y => if y = x then some (.int (a + (i : Int)) t) else stM stored m₀ u (ps c) y) → News h₀ env.locals h ((I, it) :: Led c) →
      wpAny (model prog w) A (execs body env) (UnrPost h₀ env.locals { s with heap := h, toks := tk } I it (StEnd Led ps stored m₀ (Inv (i + 1))) Q) E { s with heap := h, toks := tk })
    (done : ∀ c (u : Str → Option Value) h tk, Inv n c → Fr h₀ env.locals h (stM stored m₀ u (ps c)) → News h₀ env.locals h (Led c) → Q .next { s with heap := h, toks := tk }) :
    RangeRest prog w A E h₀ env x body Q s I a n n 0 m₀ (Led c₀) := by
  have := range_state (prog := prog) (w := w) (A := A) (E := E) (I := I) (a := a) Led ps stored Inv turn done n 0 (Nat.zero_add n) c₀ m₀ hv
  rw [stM_eq h1 fun _ _ _ => rfl] at this
  exact this
end
end Mine
end
section
open PySem PySem.W PyProof.Rows PySem.Calls
set_option Elab.async false
set_option maxRecDepth 100000
set_option maxHeartbeats 8000000
set_option pp.deepTerms.threshold 6
local macro_rules | `(tactic| omega) => `(tactic| lia)
namespace Mine
open Builtin.Int (intBits)
local macro_rules | `(tactic| walk_at "binaryOp LShift int int") => `(tactic| refine Stop.mk ?_)
local macro_rules | `(tactic| walk_at "call ref") => `(tactic| refine Stop.mk ?_)
local macro_rules | `(tactic| walk_at "pyIter ref") => `(tactic| refine Stop.mk ?_)
local macro_rules | `(tactic| walk_at "call builtin:list.reverse") => `(tactic| refine Stop.mk ?_)
local macro_rules | `(tactic| walk_at "call builtin:list.append") => `(tactic| refine Stop.mk ?_)
local macro_rules | `(tactic| walk_at "UnrPost") => `(tactic| refine Stop.mk ?_)
theorem reg5 : True := by
  k_with "enterV" => (refine wpAny_call ?_; w_on; k_dflt (refine' code_defY ?k1 ?k2 ?k3 ?k4 ?k5 ?kA ?kF ?kK ?k6 ?k7 ?k8 ?k9 ?kB ?_ ?c2 ?c3 ?c4 ?c5; (case kA => exact rfl); (case kF => exact rfl); (case kK => assumption); (case k1 => k_asm); (case k2 => k_asm); (case k3 => k_asm); (case k4 => k_asm); (case k5 => k_asm); (case k6 => k_is); (case k7 => k_is); (case k8 => (simp only [recursionLimit]; omega)); (case k9 => exact BindsTo.of_eq rfl); (case c5 => decide); (case kB => exact locs rfl); (case c2 => exact rfl); (case c3 => exact rfl); (case c4 => exact rfl); k_whole; intro g' L' h' KB' SZ' F' N' B' X' T' l1; (try k_lt l1); (try dsimp only); (try k_fold)))
  trivial

theorem dpos_E (w : World) (a b : Int) (ta tb : Tok) (ha : 0 ≤ a) (hb : 0 < b) (hab : intBits a ≤ 16777216) (hbb : intBits b ≤ 4194304) :
    Con w 49 [.int a ta, .int b tb] 32 [37, 30] (fun h => h.get? 37 = some (tabObj #[]) ∧ h.get? 30 = some (tabObj #[])) (fun h r h' => Filled h h' 37 47 4 qD ∧ Filled h h' 30 32 4 qI ∧ ∃ q rr, PairAt h r h' q rr ∧ QR a b q rr) := by
  unfold Con
  k_fill
  intro dp un gd cn cs fa ccd cl outer A₀ base h₀ L m s p loose mean mg mb Q E B F X T NS CA hk hd hu has hpre hret
  have N : News h₀ L s.heap [(37, tabObj #[]), (30, tabObj #[])] := news_cons hpre.1 (has 37 (.head _)) (news_cons hpre.2 (has 30 (.tail _ (.head _))) News.nil)
  k_extra "enterV"
  clear B F X T N
  have nb := norm_bits hb
  k_steps
  rename News _ _ _ _ => N0
  rename Fr _ _ _ _ => F0
  refine Stop.go ?_
  k_dflt (refine con_use (i2d_E w a (intBits b) _ _ ha nb.1 hbb hab) (by k_asm) (by k_asm) (by k_asm) (by k_asm) NS CA rfl (by show dp + 1 + 30 < 880; omega) (by show un + 3 + 8 * 30 < 9800; omega) (N0.get (.tail _ (.head _))) (fun a ha => by rw [List.mem_singleton.mp ha]; exact (N0 _ (.tail _ (.head _))).2) ?_)
  intro rv h1 tk1 K1 F1 po
  obtain ⟨⟨c3, oc3, f3, n3, g3, rec3⟩, D, vs, rfl, nD, gD, I1⟩ := po
  dsimp only at K1 n3 nD
  have N1 : News g' L' h1 [(D, listOf vs.toArray 0), (c3, oc3), (30, tabObj #[rawInt 32, rawInt 4, .ref c3]), (37, tabObj #[])] :=
    news_cons gD (off_new F0 nD) (news_cons g3 (off_new F0 n3) (news_cons f3 (N0 _ (.tail _ (.head _))).2 (news_cons (K1 37 _ (by decide) (N0.get (.head _))) (N0 _ (.head _)).2 News.nil)))
  have n3s : s.heap.get? c3 = none := fresh_back KB' F0 n3 fun a ha => by
    rcases List.mem_cons.mp ha with rfl | ha
    · exact ⟨_, N0.get (.head _)⟩
    · rw [List.mem_singleton.mp ha]; exact ⟨_, N0.get (.tail _ (.head _))⟩
  have h37 : @Ne Nat 37 c3 := ne_of_none (N0.get (.head _)) n3
  clear N0 F0 nD n3 gD g3 f3 K1
  have hds := digs_range (two_pos (intBits b)) ((intBits a + intBits b - 1) / intBits b) a
  have hcf := ceil_facts (b := intBits a) (k := (intBits a + intBits b - 1) / intBits b) nb.1 (by rw [Int.natCast_ediv]; congr 1; have := nb.1; omega)
  have hdE := undig_digs (two_pos (intBits b)) ((intBits a + intBits b - 1) / intBits b) a ha (by rw [← Int.pow_mul, Nat.mul_comm]; exact lt_pow_of_le ha hcf.2.1)
  have hdn : (digs (2 ^ intBits b) ((intBits a + intBits b - 1) / intBits b) a).length * intBits b ≤ 33554432 := by rw [digs_length]; omega
  have hdl : (digs (2 ^ intBits b) ((intBits a + intBits b - 1) / intBits b) a).length ≤ 16777216 := by rw [digs_length]; omega
  generalize hdsE : digs (2 ^ intBits b) ((intBits a + intBits b - 1) / intBits b) a = ds at *
  k_steps
  rename_i Dq _ lq _ I _ F2 N2 lI
  refine Stop.go ?_
  k_dflt (refine' iter_revUnr (ax := D) (n := 0) ?hh F2 N2 ?hof ?hm ?hc ?hd ?rest; (case hh => exact rfl); (case hof => exact ⟨.inl (by k_ne), .inl (by k_ne), .inl (by k_ne), .inl (by k_ne), .inl (by k_ne), trivial⟩); (case hm => k_mem); (case hc => exact rfl); (case hd => exact rfl))
  refine rev_start (σ := Int × Tok × List Value × List Int) (fun c => [(Dq, listOf c.2.2.1.toArray c.2.2.1.length), (D, listOf vs.toArray 0), (c3, oc3), (30, tabObj #[rawInt 32, rawInt 4, .ref c3]), (37, tabObj #[])])
    (fun c => [(Str.ofString "r", .int c.1 c.2.1)]) [Str.ofString "a_digit", Str.ofString "q_digit"] (fun zs c => DInv (intBits b) b ds zs c.2.2.2 c.1 ∧ IntsAre c.2.2.1 c.2.2.2) (fun c => .tail _ (.head _)) I1.reverse (0, _, [], []) (by kst_all) ⟨DInv.start hb, .nil⟩ ?turn ?done
  case turn =>
    rintro z tz zs ⟨r, tr, vq, qs⟩ u it h tk ⟨hv, Iq⟩ hit F3 N3
    clear F2 N2
    dsimp only at hv Iq N3
    dsimp only [stM, kstB] at F3
    change Fr g' L' h _ at F3
    change News g' L' h _ at N3
    have hqs : qs.length ≤ ds.length := by
      obtain ⟨dn, e, _, e3⟩ := hv.done
      rw [← e, e3]; simp; omega
    have hvq : vq.length ≤ 16777216 := by rw [Iq.length]; omega
    k_steps
    refine Stop.go (op_lsh (k := intBits b) (j := intBits b) rfl (bits_of_lt hv.r0 (Int.lt_trans hv.r1 nb.2.2)) (by omega) ?_)
    intro y hy
    k_steps
    refine Stop.go ?_
    have P2 : Pre2 (y + z) b (intBits b) := by rw [hy]; exact hv.pre hds nb
    k_dflt (refine con_pair (div2_con w 11 _ (by omega) (by omega) hbb _ _ _ _ _ P2) (by k_asm) (by k_asm) (by k_asm) (by k_asm) NS CA (by k_asm) rfl (by show dp + 1 + 23 < 880; omega) (by show un + 3 + 8 * 23 < 9800; omega) trivial ?_)
    intro q r2 D9 t9 u9 n9 h9 tk9 hqr KB9 F9 N9 l9
    replace l9 := allNe_of l9
    simp only [AllNe, and_true] at l9
    k_steps
    refine Stop.go ?_
    dsimp only [List.cons_append, List.nil_append]
    k_dflt (refine' append_K (its := vq.toArray) (n := vq.length) ?k1 ?k2 ?k3 ?_ ?z; (case k1 => k_asm); (case k2 => k_asm); (case k3 => k_upd); (case z => rw [sizeLine_eq]; simpa using hvq))
    intro h8 F8 N8
    have es : listOf (vq.toArray.push (Value.int q t9)) (vq.length + 1) = listOf (vq ++ [Value.int q t9]).toArray (vq ++ [Value.int q t9]).length := LCg.lst_snoc _ _
    rw [es] at N8
    k_steps
    refine Stop.go ?_
    show UnrEnd _ _ _ _ _ _ _
    refine UnrEnd.intro F8 N8 _ (List.forall_mem_cons.mpr ⟨by k_mem, ?sub⟩) ?off ⟨(r2, u9, vq ++ [.int q t9], qs ++ [q]), rfl, by kst_all, by ksw_same, ?_, ?_⟩
    case sub => exact fun x hx => .tail _ (.tail _ hx)
    case off => clear l9; dsimp only; k_all
    · rw [hy] at hqr; exact hv.step hds nb hqr
    · exact Iq.append (.cons _ _ .nil)
  case done =>
    rintro ⟨r, tr, vq, qs⟩ u h tk ⟨hv, Iq⟩ F3 N3
    dsimp only at hv Iq N3
    dsimp only [stM, kstB] at F3
    change Fr g' L' h _ at F3
    change News g' L' h _ at N3
    have hfin := hv.fin
    have hvq : vq.length ≤ 16777216 := by rw [Iq.length]; omega
    k_steps
    refine Stop.go ?_
    k_dflt (refine' kl_reverse (l := vq.reverse) (its := vq.toArray) ?F ?N ?e ?U ?z ?_; (case F => k_asm); (case N => k_asm); (case U => k_upd); (case e => simp); (case z => rw [sizeLine_eq]; simpa using hvq))
    intro h4 F4 N4
    k_steps
    have Iqr := Iq.reverse
    have hql : qs.reverse.length = ds.length := by rw [List.length_reverse]; exact hfin.2
    refine Stop.go ?_
    k_dflt (refine con_use (d2i_E w Dq vq.reverse qs.reverse (intBits b) _ nb.1 hbb Iqr (fun d hd => hv.qr d (List.mem_reverse.mp hd)) (by omega) (by rw [hql]; exact hdn)) (by k_asm) F4 (by k_asm) (by k_asm) NS CA rfl (by show dp + 1 + 30 < 880; omega) (by show un + 3 + 8 * 30 < 9800; omega) ⟨N4.get (by k_mem), News.isList N4 (n := vq.length) (by k_mem)⟩ (fun a ha => by rw [List.mem_singleton.mp ha]; exact (N4 (37, tabObj #[]) (by k_mem)).2) ?_)
    intro rv h5 tk5 K5 F5 po
    obtain ⟨⟨c7, oc7, f7, n7, g7, rec7⟩, tq, rfl⟩ := po
    dsimp only at K5 n7
    have n7s : s.heap.get? c7 = none := fresh_back KB' F4 n7 fun a ha => by
      rcases List.mem_cons.mp ha with rfl | ha
      · exact ⟨_, N4.get (o := tabObj #[]) (by k_mem)⟩
      · rw [List.mem_singleton.mp ha]; exact ⟨_, N4.get (o := tabObj #[rawInt 32, rawInt 4, .ref c3]) (by k_mem)⟩
    have N5 : News g' L' h5 [(c7, oc7), (37, tabObj #[rawInt 47, rawInt 4, .ref c7]), (c3, oc3), (30, tabObj #[rawInt 32, rawInt 4, .ref c3])] :=
      news_cons g7 (off_new F4 n7) (news_cons f7 (N4 (37, tabObj #[]) (by k_mem)).2 (news_cons (K5 c3 _ (fun hm => h37 (List.mem_singleton.mp hm).symm) (N4.get (by k_mem))) (N4 (c3, oc3) (by k_mem)).2 (news_cons (K5 30 _ (by decide) (N4.get (by k_mem))) (N4 (30, tabObj #[rawInt 32, rawInt 4, .ref c3]) (by k_mem)).2 News.nil)))
    clear N4 F4 F3 N3 n7 g7 f7 K5
    k_steps
    dsimp only
    show Q (.ref _) _
    rename News _ _ _ _ => N6
    rename Fr _ _ _ _ => F6
    refine hret _ _ _ (keep_of KB' F6) ⟨⟨c7, oc7, N6.get (by k_mem), n7s, N6.get (by k_mem), rec7⟩, ⟨c3, oc3, N6.get (by k_mem), n3s, N6.get (by k_mem), rec3⟩, _, _, ⟨_, _, _, _, rfl, fresh_of KB' N6 (.head _) ?_, N6.get (.head _)⟩, ?_⟩
    · intro hm
      rcases List.mem_cons.mp hm with hm | hm
      · exact Nat.ne_of_gt (show (37 : Nat) < _ by omega) hm
      · exact Nat.ne_of_gt (show (30 : Nat) < _ by omega) (List.mem_singleton.mp hm)
    · rw [← hdE]; exact hfin.1
theorem dpos_F (w : World) (c7 c3 : Addr) (a b : Int) (ta tb : Tok) (ha : 0 ≤ a) (hb : 0 < b) (hab : intBits a ≤ 16777216) (hbb : intBits b ≤ 4194304) :
    Con w 49 [.int a ta, .int b tb] 32 [37, 30] (fun h => (Full h 37 47 4 c7 ∧ Full h 30 32 4 c3) ∧ h.CodeRec (.ref c7) qD ∧ h.CodeRec (.ref c3) qI) (fun h r h' => (Full h' 37 47 4 c7 ∧ Full h' 30 32 4 c3) ∧ ∃ q rr, PairAt h r h' q rr ∧ QR a b q rr) := by
  unfold Con
  k_fill
  intro dp un gd cn cs fa ccd cl outer A₀ base h₀ L m s p loose mean mg mb Q E B F X T NS CA hk hd hu has hpre hret
  have N : News h₀ L s.heap [(37, tabObj #[rawInt 47, rawInt 4, .ref c7]), (30, tabObj #[rawInt 32, rawInt 4, .ref c3])] := news_cons hpre.1.1 (has 37 (.head _)) (news_cons hpre.1.2 (has 30 (.tail _ (.head _))) News.nil)
  have Nc := N
  k_extra "enterV"
  have hr7 := codeRec_in KB' Nc (.tab3 (.tab3 .nil)) hpre.2.1
  have hr3 := codeRec_in KB' Nc (.tab3 (.tab3 .nil)) hpre.2.2
  clear B F X T N Nc
  have nb := norm_bits hb
  k_steps
  rename News _ _ _ _ => N0
  rename Fr _ _ _ _ => F0
  refine Stop.go ?_
  k_dflt (refine con_use (i2d_F w c3 a (intBits b) _ _ ha nb.1 hbb hab) (by k_asm) (by k_asm) (by k_asm) (by k_asm) NS CA rfl (by show dp + 1 + 30 < 880; omega) (by show un + 3 + 8 * 30 < 9800; omega) ⟨N0.get (.tail _ (.head _)), hr3.keeps F0.keep⟩ (fun a ha => by rw [List.mem_singleton.mp ha]; exact (N0 _ (.tail _ (.head _))).2) ?_)
  intro rv h1 tk1 K1 F1 po
  obtain ⟨f3, D, vs, rfl, nD, gD, I1⟩ := po
  dsimp only at K1 nD
  have N1 : News g' L' h1 [(D, listOf vs.toArray 0), (30, tabObj #[rawInt 32, rawInt 4, .ref c3]), (37, tabObj #[rawInt 47, rawInt 4, .ref c7])] :=
    news_cons gD (off_new F0 nD) (news_cons f3 (N0 _ (.tail _ (.head _))).2 (news_cons (K1 37 _ (by decide) (N0.get (.head _))) (N0 _ (.head _)).2 News.nil))
  clear N0 F0 nD gD f3 K1
  have hds := digs_range (two_pos (intBits b)) ((intBits a + intBits b - 1) / intBits b) a
  have hcf := ceil_facts (b := intBits a) (k := (intBits a + intBits b - 1) / intBits b) nb.1 (by rw [Int.natCast_ediv]; congr 1; have := nb.1; omega)
  have hdE := undig_digs (two_pos (intBits b)) ((intBits a + intBits b - 1) / intBits b) a ha (by rw [← Int.pow_mul, Nat.mul_comm]; exact lt_pow_of_le ha hcf.2.1)
  have hdn : (digs (2 ^ intBits b) ((intBits a + intBits b - 1) / intBits b) a).length * intBits b ≤ 33554432 := by rw [digs_length]; omega
  have hdl : (digs (2 ^ intBits b) ((intBits a + intBits b - 1) / intBits b) a).length ≤ 16777216 := by rw [digs_length]; omega
  generalize hdsE : digs (2 ^ intBits b) ((intBits a + intBits b - 1) / intBits b) a = ds at *
  k_steps
  rename_i Dq _ lq _ I _ F2 N2 lI
  refine Stop.go ?_
  k_dflt (refine' iter_revUnr (ax := D) (n := 0) ?hh F2 N2 ?hof ?hm ?hc ?hd ?rest; (case hh => exact rfl); (case hof => exact ⟨.inl (by k_ne), .inl (by k_ne), .inl (by k_ne), .inl (by k_ne), trivial⟩); (case hm => k_mem); (case hc => exact rfl); (case hd => exact rfl))
  refine rev_start (σ := Int × Tok × List Value × List Int) (fun c => [(Dq, listOf c.2.2.1.toArray c.2.2.1.length), (D, listOf vs.toArray 0), (30, tabObj #[rawInt 32, rawInt 4, .ref c3]), (37, tabObj #[rawInt 47, rawInt 4, .ref c7])])
    (fun c => [(Str.ofString "r", .int c.1 c.2.1)]) [Str.ofString "a_digit", Str.ofString "q_digit"] (fun zs c => DInv (intBits b) b ds zs c.2.2.2 c.1 ∧ IntsAre c.2.2.1 c.2.2.2) (fun c => .tail _ (.head _)) I1.reverse (0, _, [], []) (by kst_all) ⟨DInv.start hb, .nil⟩ ?turn ?done
  case turn =>
    rintro z tz zs ⟨r, tr, vq, qs⟩ u it h tk ⟨hv, Iq⟩ hit F3 N3
    clear F2 N2
    dsimp only at hv Iq N3
    dsimp only [stM, kstB] at F3
    change Fr g' L' h _ at F3
    change News g' L' h _ at N3
    have hqs : qs.length ≤ ds.length := by
      obtain ⟨dn, e, _, e3⟩ := hv.done
      rw [← e, e3]; simp; omega
    have hvq : vq.length ≤ 16777216 := by rw [Iq.length]; omega
    k_steps
    refine Stop.go (op_lsh (k := intBits b) (j := intBits b) rfl (bits_of_lt hv.r0 (Int.lt_trans hv.r1 nb.2.2)) (by omega) ?_)
    intro y hy
    k_steps
    refine Stop.go ?_
    have P2 : Pre2 (y + z) b (intBits b) := by rw [hy]; exact hv.pre hds nb
    k_dflt (refine con_pair (div2_con w 11 _ (by omega) (by omega) hbb _ _ _ _ _ P2) (by k_asm) (by k_asm) (by k_asm) (by k_asm) NS CA (by k_asm) rfl (by show dp + 1 + 23 < 880; omega) (by show un + 3 + 8 * 23 < 9800; omega) trivial ?_)
    intro q r2 D9 t9 u9 n9 h9 tk9 hqr KB9 F9 N9 l9
    replace l9 := allNe_of l9
    simp only [AllNe, and_true] at l9
    k_steps
    refine Stop.go ?_
    dsimp only [List.cons_append, List.nil_append]
    k_dflt (refine' append_K (its := vq.toArray) (n := vq.length) ?k1 ?k2 ?k3 ?_ ?z; (case k1 => k_asm); (case k2 => k_asm); (case k3 => k_upd); (case z => rw [sizeLine_eq]; simpa using hvq))
    intro h8 F8 N8
    have es : listOf (vq.toArray.push (Value.int q t9)) (vq.length + 1) = listOf (vq ++ [Value.int q t9]).toArray (vq ++ [Value.int q t9]).length := LCg.lst_snoc _ _
    rw [es] at N8
    k_steps
    refine Stop.go ?_
    show UnrEnd _ _ _ _ _ _ _
    refine UnrEnd.intro F8 N8 _ (List.forall_mem_cons.mpr ⟨by k_mem, ?sub⟩) ?off ⟨(r2, u9, vq ++ [.int q t9], qs ++ [q]), rfl, by kst_all, by ksw_same, ?_, ?_⟩
    case sub => exact fun x hx => .tail _ (.tail _ hx)
    case off => clear l9; dsimp only; k_all
    · rw [hy] at hqr; exact hv.step hds nb hqr
    · exact Iq.append (.cons _ _ .nil)
  case done =>
    rintro ⟨r, tr, vq, qs⟩ u h tk ⟨hv, Iq⟩ F3 N3
    dsimp only at hv Iq N3
    dsimp only [stM, kstB] at F3
    change Fr g' L' h _ at F3
    change News g' L' h _ at N3
    have hfin := hv.fin
    have hvq : vq.length ≤ 16777216 := by rw [Iq.length]; omega
    k_steps
    refine Stop.go ?_
    k_dflt (refine' kl_reverse (l := vq.reverse) (its := vq.toArray) ?F ?N ?e ?U ?z ?_; (case F => k_asm); (case N => k_asm); (case U => k_upd); (case e => simp); (case z => rw [sizeLine_eq]; simpa using hvq))
    intro h4 F4 N4
    k_steps
    have Iqr := Iq.reverse
    have hql : qs.reverse.length = ds.length := by rw [List.length_reverse]; exact hfin.2
    refine Stop.go ?_
    k_dflt (refine con_use (d2i_F w c7 Dq vq.reverse qs.reverse (intBits b) _ nb.1 hbb Iqr (fun d hd => hv.qr d (List.mem_reverse.mp hd)) (by omega) (by rw [hql]; exact hdn)) (by k_asm) F4 (by k_asm) (by k_asm) NS CA rfl (by show dp + 1 + 30 < 880; omega) (by show un + 3 + 8 * 30 < 9800; omega) ⟨⟨N4.get (by k_mem), hr7.keeps F4.keep⟩, News.isList N4 (n := vq.length) (by k_mem)⟩ (fun a ha => by rw [List.mem_singleton.mp ha]; exact (N4 (37, tabObj #[rawInt 47, rawInt 4, .ref c7]) (by k_mem)).2) ?_)
    intro rv h5 tk5 K5 F5 po
    obtain ⟨f7, tq, rfl⟩ := po
    dsimp only at K5
    have N5 : News g' L' h5 [(37, tabObj #[rawInt 47, rawInt 4, .ref c7]), (30, tabObj #[rawInt 32, rawInt 4, .ref c3])] :=
      news_cons f7 (N4 (37, tabObj #[rawInt 47, rawInt 4, .ref c7]) (by k_mem)).2 (news_cons (K5 30 _ (by decide) (N4.get (by k_mem))) (N4 (30, tabObj #[rawInt 32, rawInt 4, .ref c3]) (by k_mem)).2 News.nil)
    clear N4 F4 F3 N3 f7 K5
    k_steps
    dsimp only
    show Q (.ref _) _
    rename News _ _ _ _ => N6
    rename Fr _ _ _ _ => F6
    refine hret _ _ _ (keep_of KB' F6) ⟨⟨N6.get (by k_mem), N6.get (by k_mem)⟩, _, _, ⟨_, _, _, _, rfl, fresh_of KB' N6 (.head _) ?_, N6.get (.head _)⟩, ?_⟩
    · intro hm
      rcases List.mem_cons.mp hm with hm | hm
      · exact Nat.ne_of_gt (show (37 : Nat) < _ by omega) hm
      · exact Nat.ne_of_gt (show (30 : Nat) < _ by omega) (List.mem_singleton.mp hm)
    · rw [← hdE]; exact hfin.1
end Mine
end
section
open PySem PySem.W PyProof.Rows PySem.Calls
set_option Elab.async false
set_option maxRecDepth 100000
set_option maxHeartbeats 8000000
set_option pp.deepTerms.threshold 6
local macro_rules | `(tactic| omega) => `(tactic| lia)
namespace Mine
open Builtin.Int (intBits)
/-- Python's own quotient and rest -/
def DM (a b q r : Int) : Prop := a = q * b + r ∧ ((0 ≤ r ∧ r < b) ∨ (b < r ∧ r ≤ 0))
theorem DM.of_qr {a b q r : Int} (h : QR a b q r) : DM a b q r := ⟨h.1, .inl h.2⟩
theorem DM.flip {a b q r : Int} (h : DM (-a - 1) b q r) (hb : 0 < b) : DM a b (-q - 1) (b + (-r - 1)) := by
  obtain ⟨e, h | h⟩ := h
  · refine ⟨?_, .inl ⟨by omega, by omega⟩⟩
    rw [Int.sub_mul, Int.neg_mul]; omega
  · omega
theorem DM.neg {a b q r : Int} (h : DM (-a) (-b) q r) (hb : b < 0) : DM a b q (-r) := by
  obtain ⟨e, h | h⟩ := h
  · refine ⟨?_, .inr ⟨by omega, by omega⟩⟩
    rw [Int.mul_neg] at e; omega
  · omega
theorem qr_unique {a b q r : Int} (h : QR a b q r) : q = a / b ∧ r = a % b := by
  obtain ⟨e, h0, h1⟩ := h
  have := kbt_unique (a := a) (b := b) (q := q) (r := r) (by omega) (by rw [Int.mul_comm]; omega) h0 h1
  exact ⟨this.1.symm, this.2.symm⟩
theorem DM.unique {a b q r : Int} (h : DM a b q r) : q = a.fdiv b ∧ r = a.fmod b := by
  obtain ⟨e, h | h⟩ := h
  · have hb : 0 < b := by omega
    have u := qr_unique ⟨e, h⟩
    rw [Int.fdiv_eq_ediv_of_nonneg _ (Int.le_of_lt hb), Int.fmod_eq_emod_of_nonneg _ (Int.le_of_lt hb)]
    exact u
  · have hb : b < 0 := by omega
    have u := qr_unique (a := -a) (b := -b) (q := q) (r := -r) ⟨by rw [Int.mul_neg]; omega, by omega, by omega⟩
    have e1 : q = a.fdiv b := by
      rw [u.1, ← Int.neg_fdiv_neg a b]
      exact (Int.fdiv_eq_ediv_of_nonneg _ (by omega)).symm
    refine ⟨e1, ?_⟩
    have := Int.mul_fdiv_add_fmod a b
    rw [← e1, Int.mul_comm] at this
    omega
local macro_rules | `(tactic| walk_at "call ref") => `(tactic| refine Stop.mk ?_)
theorem reg6 : True := by
  k_with "enterV" => (refine wpAny_call ?_; w_on; k_dflt (refine' code_defY ?k1 ?k2 ?k3 ?k4 ?k5 ?kA ?kF ?kK ?k6 ?k7 ?k8 ?k9 ?kB ?_ ?c2 ?c3 ?c4 ?c5; (case kA => exact rfl); (case kF => exact rfl); (case kK => assumption); (case k1 => k_asm); (case k2 => k_asm); (case k3 => k_asm); (case k4 => k_asm); (case k5 => k_asm); (case k6 => k_is); (case k7 => k_is); (case k8 => (simp only [recursionLimit]; omega)); (case k9 => exact BindsTo.of_eq rfl); (case c5 => decide); (case kB => exact locs rfl); (case c2 => exact rfl); (case c3 => exact rfl); (case c4 => exact rfl); k_whole; intro g' L' h' KB' SZ' F' N' B' X' T' l1; (try k_lt l1); (try dsimp only); (try k_fold)))
  trivial

theorem idm1_E (w : World) (a b : Int) (ta tb : Tok) (ha : 0 ≤ a) (hb : 0 < b) (hab : intBits a ≤ 16777216) (hbb : intBits b ≤ 4194304) :
    Con w 56 [.int a ta, .int b tb] 33 [37, 30] (fun h => h.get? 37 = some (tabObj #[]) ∧ h.get? 30 = some (tabObj #[])) (fun h r h' => Filled h h' 37 47 4 qD ∧ Filled h h' 30 32 4 qI ∧ ∃ q rr, PairAt h r h' q rr ∧ DM a b q rr) := by
  unfold Con
  k_fill
  intro dp un gd cn cs fa ccd cl outer A₀ base h₀ L m s p loose mean mg mb Q E B F X T NS CA hk hd hu has hpre hret
  have N : News h₀ L s.heap [(37, tabObj #[]), (30, tabObj #[])] := news_cons hpre.1 (has 37 (.head _)) (news_cons hpre.2 (has 30 (.tail _ (.head _))) News.nil)
  k_extra "enterV"
  clear B F X T N
  k_steps
  try any_goals (exfalso; omega)
  rename News _ _ _ _ => N0
  rename Fr _ _ _ _ => F0
  refine Stop.go ?_
  k_dflt (refine con_use (dpos_E w a b _ _ ha hb hab hbb) (by k_asm) F0 (by k_asm) (by k_asm) NS CA rfl (by show dp + 1 + 32 < 880; omega) (by show un + 3 + 8 * 32 < 9800; omega) (by exact ⟨N0.get (.head _), N0.get (.tail _ (.head _))⟩) (fun a ha => by
      rcases List.mem_cons.mp ha with rfl | ha
      · exact (N0 _ (.head _)).2
      · rw [List.mem_singleton.mp ha]; exact (N0 _ (.tail _ (.head _))).2) ?_)
  intro rv h5 tk5 K5 F5 po
  obtain ⟨⟨c7, oc7, f7, n7, g7, rec7⟩, ⟨c3, oc3, f3, n3, g3, rec3⟩, q, r, ⟨D, tq, tr, nn, rfl, nD, gD⟩, hq⟩ := po
  dsimp only at K5 n7 n3 nD
  have n7s : s.heap.get? c7 = none := fresh_back KB' F0 n7 fun a ha => by
    rcases List.mem_cons.mp ha with rfl | ha
    · exact ⟨_, N0.get (.head _)⟩
    · rw [List.mem_singleton.mp ha]; exact ⟨_, N0.get (.tail _ (.head _))⟩
  have n3s : s.heap.get? c3 = none := fresh_back KB' F0 n3 fun a ha => by
    rcases List.mem_cons.mp ha with rfl | ha
    · exact ⟨_, N0.get (.head _)⟩
    · rw [List.mem_singleton.mp ha]; exact ⟨_, N0.get (.tail _ (.head _))⟩
  have nDs : s.heap.get? D = none := fresh_back KB' F0 nD fun a ha => by
    rcases List.mem_cons.mp ha with rfl | ha
    · exact ⟨_, N0.get (.head _)⟩
    · rw [List.mem_singleton.mp ha]; exact ⟨_, N0.get (.tail _ (.head _))⟩
  dsimp only
  show Q (.ref D) _
  exact hret _ _ _ (keep_of KB' F5) ⟨⟨c7, oc7, f7, n7s, g7, rec7⟩, ⟨c3, oc3, f3, n3s, g3, rec3⟩, q, r, ⟨D, tq, tr, nn, rfl, nDs, gD⟩, .of_qr hq⟩
theorem idm2_E (w : World) (a b : Int) (ta tb : Tok) (ha : a < 0) (hb : 0 < b) (hab : intBits a ≤ 16777216) (hbb : intBits b ≤ 4194304) :
    Con w 56 [.int a ta, .int b tb] 34 [37, 30] (fun h => h.get? 37 = some (tabObj #[]) ∧ h.get? 30 = some (tabObj #[])) (fun h r h' => Filled h h' 37 47 4 qD ∧ Filled h h' 30 32 4 qI ∧ ∃ q rr, PairAt h r h' q rr ∧ DM a b q rr) := by
  unfold Con
  k_fill
  intro dp un gd cn cs fa ccd cl outer A₀ base h₀ L m s p loose mean mg mb Q E B F X T NS CA hk hd hu has hpre hret
  have N : News h₀ L s.heap [(37, tabObj #[]), (30, tabObj #[])] := news_cons hpre.1 (has 37 (.head _)) (news_cons hpre.2 (has 30 (.tail _ (.head _))) News.nil)
  k_extra "enterV"
  clear B F X T N
  k_steps
  try any_goals (exfalso; omega)
  rename News _ _ _ _ => N0
  rename Fr _ _ _ _ => F0
  refine Stop.go ?_
  k_dflt (refine con_use (idm1_E w (-a - 1) b _ _ (by omega) hb (intBits_le_of_natAbs (by omega) hab) hbb) (by k_asm) F0 (by k_asm) (by k_asm) NS CA rfl (by show dp + 1 + 33 < 880; omega) (by show un + 3 + 8 * 33 < 9800; omega) (by exact ⟨N0.get (.head _), N0.get (.tail _ (.head _))⟩) (fun a ha => by
      rcases List.mem_cons.mp ha with rfl | ha
      · exact (N0 _ (.head _)).2
      · rw [List.mem_singleton.mp ha]; exact (N0 _ (.tail _ (.head _))).2) ?_)
  intro rv h5 tk5 K5 F5 po
  obtain ⟨⟨c7, oc7, f7, n7, g7, rec7⟩, ⟨c3, oc3, f3, n3, g3, rec3⟩, q, r, ⟨D, tq, tr, nn, rfl, nD, gD⟩, hq⟩ := po
  dsimp only at K5 n7 n3 nD
  have n7s : s.heap.get? c7 = none := fresh_back KB' F0 n7 fun a ha => by
    rcases List.mem_cons.mp ha with rfl | ha
    · exact ⟨_, N0.get (.head _)⟩
    · rw [List.mem_singleton.mp ha]; exact ⟨_, N0.get (.tail _ (.head _))⟩
  have n3s : s.heap.get? c3 = none := fresh_back KB' F0 n3 fun a ha => by
    rcases List.mem_cons.mp ha with rfl | ha
    · exact ⟨_, N0.get (.head _)⟩
    · rw [List.mem_singleton.mp ha]; exact ⟨_, N0.get (.tail _ (.head _))⟩
  have nDs : s.heap.get? D = none := fresh_back KB' F0 nD fun a ha => by
    rcases List.mem_cons.mp ha with rfl | ha
    · exact ⟨_, N0.get (.head _)⟩
    · rw [List.mem_singleton.mp ha]; exact ⟨_, N0.get (.tail _ (.head _))⟩
  have N5 : News g' L' h5 [(D, { cls := .type "tuple", data := .seq #[.int q tq, .int r tr] nn }), (c7, oc7), (37, tabObj #[rawInt 47, rawInt 4, .ref c7]), (c3, oc3), (30, tabObj #[rawInt 32, rawInt 4, .ref c3])] :=
    news_cons gD (off_new F0 nD) (news_cons g7 (off_new F0 n7) (news_cons f7 (N0 _ (.head _)).2 (news_cons g3 (off_new F0 n3) (news_cons f3 (N0 _ (.tail _ (.head _))).2 News.nil))))
  clear N0 F0 nD gD K5 n7 n3
  k_steps
  dsimp only
  show Q (.ref _) _
  rename News _ _ _ _ => N6
  rename Fr _ _ _ _ => F6
  refine hret _ _ _ (keep_of KB' F6) ⟨⟨c7, oc7, N6.get (by k_mem), n7s, N6.get (by k_mem), rec7⟩, ⟨c3, oc3, N6.get (by k_mem), n3s, N6.get (by k_mem), rec3⟩, _, _, ⟨_, _, _, _, rfl, fresh_of KB' N6 (.head _) ?_, N6.get (.head _)⟩, ?_⟩
  · intro hm
    rcases List.mem_cons.mp hm with hm | hm
    · exact Nat.ne_of_gt (show (37 : Nat) < _ by omega) hm
    · exact Nat.ne_of_gt (show (30 : Nat) < _ by omega) (List.mem_singleton.mp hm)
  · exact DM.flip hq hb
theorem idm3_E (w : World) (a b : Int) (ta tb : Tok) (hb : b < 0) (hab : intBits a ≤ 16777216) (hbb : intBits b ≤ 4194304) :
    Con w 56 [.int a ta, .int b tb] 35 [37, 30] (fun h => h.get? 37 = some (tabObj #[]) ∧ h.get? 30 = some (tabObj #[])) (fun h r h' => Filled h h' 37 47 4 qD ∧ Filled h h' 30 32 4 qI ∧ ∃ q rr, PairAt h r h' q rr ∧ DM a b q rr) := by
  unfold Con
  k_fill
  intro dp un gd cn cs fa ccd cl outer A₀ base h₀ L m s p loose mean mg mb Q E B F X T NS CA hk hd hu has hpre hret
  have N : News h₀ L s.heap [(37, tabObj #[]), (30, tabObj #[])] := news_cons hpre.1 (has 37 (.head _)) (news_cons hpre.2 (has 30 (.tail _ (.head _))) News.nil)
  k_extra "enterV"
  clear B F X T N
  k_steps
  try any_goals (exfalso; omega)
  rename News _ _ _ _ => N0
  rename Fr _ _ _ _ => F0
  refine Stop.go ?_
  rcases Int.lt_or_le (-a) 0 with ha | ha
  · skip
    k_dflt (refine con_use (idm2_E w (-a) (-b) _ _ (by omega) (by omega) (intBits_neg_le hab) (intBits_neg_le hbb)) (by k_asm) F0 (by k_asm) (by k_asm) NS CA rfl (by show dp + 1 + 34 < 880; omega) (by show un + 3 + 8 * 34 < 9800; omega) (by exact ⟨N0.get (.head _), N0.get (.tail _ (.head _))⟩) (fun a ha => by
        rcases List.mem_cons.mp ha with rfl | ha
        · exact (N0 _ (.head _)).2
        · rw [List.mem_singleton.mp ha]; exact (N0 _ (.tail _ (.head _))).2) ?_)
    intro rv h5 tk5 K5 F5 po
    obtain ⟨⟨c7, oc7, f7, n7, g7, rec7⟩, ⟨c3, oc3, f3, n3, g3, rec3⟩, q, r, ⟨D, tq, tr, nn, rfl, nD, gD⟩, hq⟩ := po
    dsimp only at K5 n7 n3 nD
    have n7s : s.heap.get? c7 = none := fresh_back KB' F0 n7 fun a ha => by
      rcases List.mem_cons.mp ha with rfl | ha
      · exact ⟨_, N0.get (.head _)⟩
      · rw [List.mem_singleton.mp ha]; exact ⟨_, N0.get (.tail _ (.head _))⟩
    have n3s : s.heap.get? c3 = none := fresh_back KB' F0 n3 fun a ha => by
      rcases List.mem_cons.mp ha with rfl | ha
      · exact ⟨_, N0.get (.head _)⟩
      · rw [List.mem_singleton.mp ha]; exact ⟨_, N0.get (.tail _ (.head _))⟩
    have nDs : s.heap.get? D = none := fresh_back KB' F0 nD fun a ha => by
      rcases List.mem_cons.mp ha with rfl | ha
      · exact ⟨_, N0.get (.head _)⟩
      · rw [List.mem_singleton.mp ha]; exact ⟨_, N0.get (.tail _ (.head _))⟩
    have N5 : News g' L' h5 [(D, { cls := .type "tuple", data := .seq #[.int q tq, .int r tr] nn }), (c7, oc7), (37, tabObj #[rawInt 47, rawInt 4, .ref c7]), (c3, oc3), (30, tabObj #[rawInt 32, rawInt 4, .ref c3])] :=
      news_cons gD (off_new F0 nD) (news_cons g7 (off_new F0 n7) (news_cons f7 (N0 _ (.head _)).2 (news_cons g3 (off_new F0 n3) (news_cons f3 (N0 _ (.tail _ (.head _))).2 News.nil))))
    clear N0 F0 nD gD K5 n7 n3
    k_steps
    dsimp only
    show Q (.ref _) _
    rename News _ _ _ _ => N6
    rename Fr _ _ _ _ => F6
    refine hret _ _ _ (keep_of KB' F6) ⟨⟨c7, oc7, N6.get (by k_mem), n7s, N6.get (by k_mem), rec7⟩, ⟨c3, oc3, N6.get (by k_mem), n3s, N6.get (by k_mem), rec3⟩, _, _, ⟨_, _, _, _, rfl, fresh_of KB' N6 (.head _) ?_, N6.get (.head _)⟩, ?_⟩
    · intro hm
      rcases List.mem_cons.mp hm with hm | hm
      · exact Nat.ne_of_gt (show (37 : Nat) < _ by omega) hm
      · exact Nat.ne_of_gt (show (30 : Nat) < _ by omega) (List.mem_singleton.mp hm)
    · exact DM.neg hq hb
  · skip
    k_dflt (refine con_use (idm1_E w (-a) (-b) _ _ (by omega) (by omega) (intBits_neg_le hab) (intBits_neg_le hbb)) (by k_asm) F0 (by k_asm) (by k_asm) NS CA rfl (by show dp + 1 + 33 < 880; omega) (by show un + 3 + 8 * 33 < 9800; omega) (by exact ⟨N0.get (.head _), N0.get (.tail _ (.head _))⟩) (fun a ha => by
        rcases List.mem_cons.mp ha with rfl | ha
        · exact (N0 _ (.head _)).2
        · rw [List.mem_singleton.mp ha]; exact (N0 _ (.tail _ (.head _))).2) ?_)
    intro rv h5 tk5 K5 F5 po
    obtain ⟨⟨c7, oc7, f7, n7, g7, rec7⟩, ⟨c3, oc3, f3, n3, g3, rec3⟩, q, r, ⟨D, tq, tr, nn, rfl, nD, gD⟩, hq⟩ := po
    dsimp only at K5 n7 n3 nD
    have n7s : s.heap.get? c7 = none := fresh_back KB' F0 n7 fun a ha => by
      rcases List.mem_cons.mp ha with rfl | ha
      · exact ⟨_, N0.get (.head _)⟩
      · rw [List.mem_singleton.mp ha]; exact ⟨_, N0.get (.tail _ (.head _))⟩
    have n3s : s.heap.get? c3 = none := fresh_back KB' F0 n3 fun a ha => by
      rcases List.mem_cons.mp ha with rfl | ha
      · exact ⟨_, N0.get (.head _)⟩
      · rw [List.mem_singleton.mp ha]; exact ⟨_, N0.get (.tail _ (.head _))⟩
    have nDs : s.heap.get? D = none := fresh_back KB' F0 nD fun a ha => by
      rcases List.mem_cons.mp ha with rfl | ha
      · exact ⟨_, N0.get (.head _)⟩
      · rw [List.mem_singleton.mp ha]; exact ⟨_, N0.get (.tail _ (.head _))⟩
    have N5 : News g' L' h5 [(D, { cls := .type "tuple", data := .seq #[.int q tq, .int r tr] nn }), (c7, oc7), (37, tabObj #[rawInt 47, rawInt 4, .ref c7]), (c3, oc3), (30, tabObj #[rawInt 32, rawInt 4, .ref c3])] :=
      news_cons gD (off_new F0 nD) (news_cons g7 (off_new F0 n7) (news_cons f7 (N0 _ (.head _)).2 (news_cons g3 (off_new F0 n3) (news_cons f3 (N0 _ (.tail _ (.head _))).2 News.nil))))
    clear N0 F0 nD gD K5 n7 n3
    k_steps
    dsimp only
    show Q (.ref _) _
    rename News _ _ _ _ => N6
    rename Fr _ _ _ _ => F6
    refine hret _ _ _ (keep_of KB' F6) ⟨⟨c7, oc7, N6.get (by k_mem), n7s, N6.get (by k_mem), rec7⟩, ⟨c3, oc3, N6.get (by k_mem), n3s, N6.get (by k_mem), rec3⟩, _, _, ⟨_, _, _, _, rfl, fresh_of KB' N6 (.head _) ?_, N6.get (.head _)⟩, ?_⟩
    · intro hm
      rcases List.mem_cons.mp hm with hm | hm
      · exact Nat.ne_of_gt (show (37 : Nat) < _ by omega) hm
      · exact Nat.ne_of_gt (show (30 : Nat) < _ by omega) (List.mem_singleton.mp hm)
    · exact DM.neg hq hb
theorem idm1_F (w : World) (c7 c3 : Addr) (a b : Int) (ta tb : Tok) (ha : 0 ≤ a) (hb : 0 < b) (hab : intBits a ≤ 16777216) (hbb : intBits b ≤ 4194304) :
    Con w 56 [.int a ta, .int b tb] 33 [37, 30] (fun h => (Full h 37 47 4 c7 ∧ Full h 30 32 4 c3) ∧ h.CodeRec (.ref c7) qD ∧ h.CodeRec (.ref c3) qI) (fun h r h' => (Full h' 37 47 4 c7 ∧ Full h' 30 32 4 c3) ∧ ∃ q rr, PairAt h r h' q rr ∧ DM a b q rr) := by
  unfold Con
  k_fill
  intro dp un gd cn cs fa ccd cl outer A₀ base h₀ L m s p loose mean mg mb Q E B F X T NS CA hk hd hu has hpre hret
  have N : News h₀ L s.heap [(37, tabObj #[rawInt 47, rawInt 4, .ref c7]), (30, tabObj #[rawInt 32, rawInt 4, .ref c3])] := news_cons hpre.1.1 (has 37 (.head _)) (news_cons hpre.1.2 (has 30 (.tail _ (.head _))) News.nil)
  have Nc := N
  k_extra "enterV"
  have hr7 := codeRec_in KB' Nc (.tab3 (.tab3 .nil)) hpre.2.1
  have hr3 := codeRec_in KB' Nc (.tab3 (.tab3 .nil)) hpre.2.2
  clear B F X T N Nc
  k_steps
  try any_goals (exfalso; omega)
  rename News _ _ _ _ => N0
  rename Fr _ _ _ _ => F0
  refine Stop.go ?_
  k_dflt (refine con_use (dpos_F w c7 c3 a b _ _ ha hb hab hbb) (by k_asm) F0 (by k_asm) (by k_asm) NS CA rfl (by show dp + 1 + 32 < 880; omega) (by show un + 3 + 8 * 32 < 9800; omega) (by exact ⟨⟨N0.get (.head _), N0.get (.tail _ (.head _))⟩, hr7.keeps F0.keep, hr3.keeps F0.keep⟩) (fun a ha => by
      rcases List.mem_cons.mp ha with rfl | ha
      · exact (N0 _ (.head _)).2
      · rw [List.mem_singleton.mp ha]; exact (N0 _ (.tail _ (.head _))).2) ?_)
  intro rv h5 tk5 K5 F5 po
  obtain ⟨⟨f7, f3⟩, q, r, ⟨D, tq, tr, nn, rfl, nD, gD⟩, hq⟩ := po
  dsimp only at K5 nD
  have nDs : s.heap.get? D = none := fresh_back KB' F0 nD fun a ha => by
    rcases List.mem_cons.mp ha with rfl | ha
    · exact ⟨_, N0.get (.head _)⟩
    · rw [List.mem_singleton.mp ha]; exact ⟨_, N0.get (.tail _ (.head _))⟩
  dsimp only
  show Q (.ref D) _
  exact hret _ _ _ (keep_of KB' F5) ⟨⟨f7, f3⟩, q, r, ⟨D, tq, tr, nn, rfl, nDs, gD⟩, .of_qr hq⟩
theorem idm2_F (w : World) (c7 c3 : Addr) (a b : Int) (ta tb : Tok) (ha : a < 0) (hb : 0 < b) (hab : intBits a ≤ 16777216) (hbb : intBits b ≤ 4194304) :
    Con w 56 [.int a ta, .int b tb] 34 [37, 30] (fun h => (Full h 37 47 4 c7 ∧ Full h 30 32 4 c3) ∧ h.CodeRec (.ref c7) qD ∧ h.CodeRec (.ref c3) qI) (fun h r h' => (Full h' 37 47 4 c7 ∧ Full h' 30 32 4 c3) ∧ ∃ q rr, PairAt h r h' q rr ∧ DM a b q rr) := by
  unfold Con
  k_fill
  intro dp un gd cn cs fa ccd cl outer A₀ base h₀ L m s p loose mean mg mb Q E B F X T NS CA hk hd hu has hpre hret
  have N : News h₀ L s.heap [(37, tabObj #[rawInt 47, rawInt 4, .ref c7]), (30, tabObj #[rawInt 32, rawInt 4, .ref c3])] := news_cons hpre.1.1 (has 37 (.head _)) (news_cons hpre.1.2 (has 30 (.tail _ (.head _))) News.nil)
  have Nc := N
  k_extra "enterV"
  have hr7 := codeRec_in KB' Nc (.tab3 (.tab3 .nil)) hpre.2.1
  have hr3 := codeRec_in KB' Nc (.tab3 (.tab3 .nil)) hpre.2.2
  clear B F X T N Nc
  k_steps
  try any_goals (exfalso; omega)
  rename News _ _ _ _ => N0
  rename Fr _ _ _ _ => F0
  refine Stop.go ?_
  k_dflt (refine con_use (idm1_F w c7 c3 (-a - 1) b _ _ (by omega) hb (intBits_le_of_natAbs (by omega) hab) hbb) (by k_asm) F0 (by k_asm) (by k_asm) NS CA rfl (by show dp + 1 + 33 < 880; omega) (by show un + 3 + 8 * 33 < 9800; omega) (by exact ⟨⟨N0.get (.head _), N0.get (.tail _ (.head _))⟩, hr7.keeps F0.keep, hr3.keeps F0.keep⟩) (fun a ha => by
      rcases List.mem_cons.mp ha with rfl | ha
      · exact (N0 _ (.head _)).2
      · rw [List.mem_singleton.mp ha]; exact (N0 _ (.tail _ (.head _))).2) ?_)
  intro rv h5 tk5 K5 F5 po
  obtain ⟨⟨f7, f3⟩, q, r, ⟨D, tq, tr, nn, rfl, nD, gD⟩, hq⟩ := po
  dsimp only at K5 nD
  have nDs : s.heap.get? D = none := fresh_back KB' F0 nD fun a ha => by
    rcases List.mem_cons.mp ha with rfl | ha
    · exact ⟨_, N0.get (.head _)⟩
    · rw [List.mem_singleton.mp ha]; exact ⟨_, N0.get (.tail _ (.head _))⟩
  have N5 : News g' L' h5 [(D, { cls := .type "tuple", data := .seq #[.int q tq, .int r tr] nn }), (37, tabObj #[rawInt 47, rawInt 4, .ref c7]), (30, tabObj #[rawInt 32, rawInt 4, .ref c3])] :=
    news_cons gD (off_new F0 nD) (news_cons f7 (N0 _ (.head _)).2 (news_cons f3 (N0 _ (.tail _ (.head _))).2 News.nil))
  clear N0 F0 nD gD K5
  k_steps
  dsimp only
  show Q (.ref _) _
  rename News _ _ _ _ => N6
  rename Fr _ _ _ _ => F6
  refine hret _ _ _ (keep_of KB' F6) ⟨⟨N6.get (by k_mem), N6.get (by k_mem)⟩, _, _, ⟨_, _, _, _, rfl, fresh_of KB' N6 (.head _) ?_, N6.get (.head _)⟩, ?_⟩
  · intro hm
    rcases List.mem_cons.mp hm with hm | hm
    · exact Nat.ne_of_gt (show (37 : Nat) < _ by omega) hm
    · exact Nat.ne_of_gt (show (30 : Nat) < _ by omega) (List.mem_singleton.mp hm)
  · exact DM.flip hq hb
theorem idm3_F (w : World) (c7 c3 : Addr) (a b : Int) (ta tb : Tok) (hb : b < 0) (hab : intBits a ≤ 16777216) (hbb : intBits b ≤ 4194304) :
    Con w 56 [.int a ta, .int b tb] 35 [37, 30] (fun h => (Full h 37 47 4 c7 ∧ Full h 30 32 4 c3) ∧ h.CodeRec (.ref c7) qD ∧ h.CodeRec (.ref c3) qI) (fun h r h' => (Full h' 37 47 4 c7 ∧ Full h' 30 32 4 c3) ∧ ∃ q rr, PairAt h r h' q rr ∧ DM a b q rr) := by
  unfold Con
  k_fill
  intro dp un gd cn cs fa ccd cl outer A₀ base h₀ L m s p loose mean mg mb Q E B F X T NS CA hk hd hu has hpre hret
  have N : News h₀ L s.heap [(37, tabObj #[rawInt 47, rawInt 4, .ref c7]), (30, tabObj #[rawInt 32, rawInt 4, .ref c3])] := news_cons hpre.1.1 (has 37 (.head _)) (news_cons hpre.1.2 (has 30 (.tail _ (.head _))) News.nil)
  have Nc := N
  k_extra "enterV"
  have hr7 := codeRec_in KB' Nc (.tab3 (.tab3 .nil)) hpre.2.1
  have hr3 := codeRec_in KB' Nc (.tab3 (.tab3 .nil)) hpre.2.2
  clear B F X T N Nc
  k_steps
  try any_goals (exfalso; omega)
  rename News _ _ _ _ => N0
  rename Fr _ _ _ _ => F0
  refine Stop.go ?_
  rcases Int.lt_or_le (-a) 0 with ha | ha
  · skip
    k_dflt (refine con_use (idm2_F w c7 c3 (-a) (-b) _ _ (by omega) (by omega) (intBits_neg_le hab) (intBits_neg_le hbb)) (by k_asm) F0 (by k_asm) (by k_asm) NS CA rfl (by show dp + 1 + 34 < 880; omega) (by show un + 3 + 8 * 34 < 9800; omega) (by exact ⟨⟨N0.get (.head _), N0.get (.tail _ (.head _))⟩, hr7.keeps F0.keep, hr3.keeps F0.keep⟩) (fun a ha => by
        rcases List.mem_cons.mp ha with rfl | ha
        · exact (N0 _ (.head _)).2
        · rw [List.mem_singleton.mp ha]; exact (N0 _ (.tail _ (.head _))).2) ?_)
    intro rv h5 tk5 K5 F5 po
    obtain ⟨⟨f7, f3⟩, q, r, ⟨D, tq, tr, nn, rfl, nD, gD⟩, hq⟩ := po
    dsimp only at K5 nD
    have nDs : s.heap.get? D = none := fresh_back KB' F0 nD fun a ha => by
      rcases List.mem_cons.mp ha with rfl | ha
      · exact ⟨_, N0.get (.head _)⟩
      · rw [List.mem_singleton.mp ha]; exact ⟨_, N0.get (.tail _ (.head _))⟩
    have N5 : News g' L' h5 [(D, { cls := .type "tuple", data := .seq #[.int q tq, .int r tr] nn }), (37, tabObj #[rawInt 47, rawInt 4, .ref c7]), (30, tabObj #[rawInt 32, rawInt 4, .ref c3])] :=
      news_cons gD (off_new F0 nD) (news_cons f7 (N0 _ (.head _)).2 (news_cons f3 (N0 _ (.tail _ (.head _))).2 News.nil))
    clear N0 F0 nD gD K5
    k_steps
    dsimp only
    show Q (.ref _) _
    rename News _ _ _ _ => N6
    rename Fr _ _ _ _ => F6
    refine hret _ _ _ (keep_of KB' F6) ⟨⟨N6.get (by k_mem), N6.get (by k_mem)⟩, _, _, ⟨_, _, _, _, rfl, fresh_of KB' N6 (.head _) ?_, N6.get (.head _)⟩, ?_⟩
    · intro hm
      rcases List.mem_cons.mp hm with hm | hm
      · exact Nat.ne_of_gt (show (37 : Nat) < _ by omega) hm
      · exact Nat.ne_of_gt (show (30 : Nat) < _ by omega) (List.mem_singleton.mp hm)
    · exact DM.neg hq hb
  · skip
    k_dflt (refine con_use (idm1_F w c7 c3 (-a) (-b) _ _ (by omega) (by omega) (intBits_neg_le hab) (intBits_neg_le hbb)) (by k_asm) F0 (by k_asm) (by k_asm) NS CA rfl (by show dp + 1 + 33 < 880; omega) (by show un + 3 + 8 * 33 < 9800; omega) (by exact ⟨⟨N0.get (.head _), N0.get (.tail _ (.head _))⟩, hr7.keeps F0.keep, hr3.keeps F0.keep⟩) (fun a ha => by
        rcases List.mem_cons.mp ha with rfl | ha
        · exact (N0 _ (.head _)).2
        · rw [List.mem_singleton.mp ha]; exact (N0 _ (.tail _ (.head _))).2) ?_)
    intro rv h5 tk5 K5 F5 po
    obtain ⟨⟨f7, f3⟩, q, r, ⟨D, tq, tr, nn, rfl, nD, gD⟩, hq⟩ := po
    dsimp only at K5 nD
    have nDs : s.heap.get? D = none := fresh_back KB' F0 nD fun a ha => by
      rcases List.mem_cons.mp ha with rfl | ha
      · exact ⟨_, N0.get (.head _)⟩
      · rw [List.mem_singleton.mp ha]; exact ⟨_, N0.get (.tail _ (.head _))⟩
    have N5 : News g' L' h5 [(D, { cls := .type "tuple", data := .seq #[.int q tq, .int r tr] nn }), (37, tabObj #[rawInt 47, rawInt 4, .ref c7]), (30, tabObj #[rawInt 32, rawInt 4, .ref c3])] :=
      news_cons gD (off_new F0 nD) (news_cons f7 (N0 _ (.head _)).2 (news_cons f3 (N0 _ (.tail _ (.head _))).2 News.nil))
    clear N0 F0 nD gD K5
    k_steps
    dsimp only
    show Q (.ref _) _
    rename News _ _ _ _ => N6
    rename Fr _ _ _ _ => F6
    refine hret _ _ _ (keep_of KB' F6) ⟨⟨N6.get (by k_mem), N6.get (by k_mem)⟩, _, _, ⟨_, _, _, _, rfl, fresh_of KB' N6 (.head _) ?_, N6.get (.head _)⟩, ?_⟩
    · intro hm
      rcases List.mem_cons.mp hm with hm | hm
      · exact Nat.ne_of_gt (show (37 : Nat) < _ by omega) hm
      · exact Nat.ne_of_gt (show (30 : Nat) < _ by omega) (List.mem_singleton.mp hm)
    · exact DM.neg hq hb
theorem idm_E (w : World) (a b : Int) (ta tb : Tok) (hb : b ≠ 0) (hab : intBits a ≤ 16777216) (hbb : intBits b ≤ 4194304) :
    Con w 56 [.int a ta, .int b tb] 35 [37, 30] (fun h => h.get? 37 = some (tabObj #[]) ∧ h.get? 30 = some (tabObj #[])) (fun h r h' => Filled h h' 37 47 4 qD ∧ Filled h h' 30 32 4 qI ∧ ∃ q rr, PairAt h r h' q rr ∧ DM a b q rr) := by
  rcases Int.lt_or_le b 0 with h | h
  · exact idm3_E w a b ta tb h hab hbb
  · rcases Int.lt_or_le a 0 with h' | h'
    · exact (idm2_E w a b ta tb h' (by omega) hab hbb).room (by omega)
    · exact (idm1_E w a b ta tb h' (by omega) hab hbb).room (by omega)
theorem idm_F (w : World) (c7 c3 : Addr) (a b : Int) (ta tb : Tok) (hb : b ≠ 0) (hab : intBits a ≤ 16777216) (hbb : intBits b ≤ 4194304) :
    Con w 56 [.int a ta, .int b tb] 35 [37, 30] (fun h => (Full h 37 47 4 c7 ∧ Full h 30 32 4 c3) ∧ h.CodeRec (.ref c7) qD ∧ h.CodeRec (.ref c3) qI) (fun h r h' => (Full h' 37 47 4 c7 ∧ Full h' 30 32 4 c3) ∧ ∃ q rr, PairAt h r h' q rr ∧ DM a b q rr) := by
  rcases Int.lt_or_le b 0 with h | h
  · exact idm3_F w c7 c3 a b ta tb h hab hbb
  · rcases Int.lt_or_le a 0 with h' | h'
    · exact (idm2_F w c7 c3 a b ta tb h' (by omega) hab hbb).room (by omega)
    · exact (idm1_F w c7 c3 a b ta tb h' (by omega) hab hbb).room (by omega)
end Mine
end
section
open PySem PySem.W PyProof.Rows PySem.Calls
set_option Elab.async false
set_option maxRecDepth 100000
set_option maxHeartbeats 8000000
set_option pp.deepTerms.threshold 6
local macro_rules | `(tactic| omega) => `(tactic| lia)
namespace Mine
open Builtin.Int (intBits)
local macro_rules | `(tactic| walk_at "exec Raise some none") => `(tactic| ((with_reducible rename Fr _ _ _ _ => kF); k_dflt (refine' Raise_classB rfl excClass_ZeroDivisionError ?ks ?nm ?_; (case ks => (rw [isSubtype_type]; kernel_rfl)); (case nm => (refine' name_B kF ?k1 ?k2 ?k3 ?k4 ?k5 ?_; (case k1 => k_asm); (case k2 => k_asm); (case k3 => k_is); (case k4 => boot_by_name); (case k5 => decide); exact ⟨rfl, rfl⟩))); intro h' e' hx'))
local macro_rules | `(tactic| walk_at "call ref") => `(tactic| refine Stop.mk ?_)
theorem reg7 : True := by
  k_with "enter" => (refine wpAny_call ?_; w_on; k_dflt (refine' code_defY (news := []) ?k1 ?k2 ?k3 ?k4 ?k5 ?kA ?kF ?kK ?k6 ?k7 ?k8 ?k9 ?kB ?_ ?c2 ?c3 ?c4 ?c5; (case kA => exact rfl); (case kF => exact rfl); (case kK => assumption); (case k1 => k_asm); (case k2 => k_asm); (case k3 => k_asm); (case k4 => exact News.nil); (case k5 => k_asm); (case k6 => k_is); (case k7 => k_is); (case k8 => first | decide | (simp only [recursionLimit]; omega)); (case k9 => exact BindsTo.of_eq rfl); (case c5 => decide); (case kB => exact locs rfl); (case c2 => exact rfl); (case c3 => exact rfl); (case c4 => exact rfl); k_whole; intro g' L' h' KB' SZ' F' N' B' X' T' LT'; (try dsimp only); (try k_fold)))
  trivial
theorem kts_one {h g : Heap} {L : Addr} {h₀ : Heap} {m : Str → Option Value} (F : Fr h₀ L h m) (k : KeepBut [] h g) : KtsDicts [L] g := fun b hb => by
  rw [List.mem_singleton.mp hb]
  obtain ⟨o, es, n, e, hd, _⟩ := F.ns
  exact ⟨o, es, n, k L o (by nofun) e, hd⟩
theorem kts_back {h g g' h' h₀ : Heap} {L L' : Addr} {m m' : Str → Option Value} (F : Fr h₀ L h m) (k : KeepBut [] h g) (T : KtsTurn [L] g g') (F' : Fr g' L' h' m') : Fr h₀ L h' m ∧ KeepBut [L] h h' := by
  have kb : KeepBut [L] h h' := fun b o hb e => F'.keep b o (T.other b o (k b o (by nofun) e) hb)
  refine ⟨⟨?_, fun b o e => ?_, F.above⟩, kb⟩
  · obtain ⟨o, es, n, e, hd, r⟩ := F.ns
    obtain ⟨sl, hs⟩ := T.frame L o (k L o (by nofun) e) (.head _)
    exact ⟨_, es, n, F'.keep _ _ hs, hd, r⟩
  · refine kb b o (fun hm => ?_) (F.keep b o e)
    have : h₀.get? L = none := Heap.get?_none_of_le F.above
    rw [List.mem_singleton.mp hm, this] at e; cases e
theorem ref_law (w : World) (x : Int) (tx : Tok) (dp un : Nat) (gd : Option (List Code)) (cn : Str) (cs : Scope) (fa : Addr) (ccd : Value) (cl : List (Str × Addr)) (A₀ : Around) (base h₀ : Heap) (L : Addr) (m : Str → Option Value) (s : Shared) (p : Program) (loose : List Str) (mean : ExcName → Option Value) (mg mb : Str → Option Value) (Q E : Value → Shared → Prop)
    (B : Below A₀ base [] h₀) (F : Fr h₀ L s.heap m) (X : (hd.heap_39 w.params).In h₀) (T : Top p loose mean mg mb h₀) (XB : (hd.heap_39 w.params).In base) (TB : Top p loose mean mg mb base) (hk : cs.kind = .function) (hd : dp + 10 < 880) (hu : un + 8 * 10 < 9800)
    (hret : ∀ h' tk', Fr h₀ L h' m → KeepBut [L] s.heap h' → Q (.bool true) { s with heap := h', toks := tk' }) :
    wpAny (model PySem.Challenge.rw_re0060_01.row.prog w) (ktrTop dp un gd cn cs L fa ccd cl []) (call (.ref 84) [.int x tx]) Q E s := by
  revert X; k_fill; intro X
  have Fc := F
  k_extra "enter"
  have KD : KtsDicts ([envX cn cs L fa ccd cl].filterMap (·.frame)) g' := kts_one Fc KB'
  clear B F X T
  k_steps
  rename News _ _ _ _ => N0
  rename Fr _ _ _ _ => F0
  refine Stop.go ?_
  refine wpAny_call ?_
  k_dflt (refine' code_def ?k1 ?k2 ?k3 ?k4 ?k5 ?kA ?kF ?kK ?k6 ?k7 ?k8 ?k9 ?kB ?_ ?c2 ?c3 ?c4 ?c5; (case kA => exact rfl); (case kF => exact rfl); (case kK => exact rfl); (case k1 => k_asm); (case k2 => exact F0); (case k3 => k_asm); (case k4 => exact N0); (case k5 => k_asm); (case k6 => k_is); (case k7 => k_is); (case k8 => (show dp + 1 < recursionLimit; simp only [recursionLimit]; omega)); (case k9 => exact BindsTo.of_eq rfl); (case c5 => decide); (case kB => exact locs rfl); (case c2 => exact rfl); (case c3 => exact rfl); (case c4 => exact rfl); k_whole; intro g2 L2 h2 FG2 F2 N2 B2 X2 T2; (try dsimp only); (try k_fold))
  k_steps
  dsimp only
  show Q (.bool true) _
  rename KtsTurn _ _ _ => KT
  rename Fr _ _ _ _ => F9
  refine hret _ _ (kts_back Fc KB' KT F9).1 (kts_back Fc KB' KT F9).2
end Mine
end
section
open PySem PySem.W PyProof.Rows PySem.Calls
local macro_rules | `(tactic| omega) => `(tactic| lia)
namespace Mine
open Builtin.Int (intBits)
theorem natAbs_sum {B : Nat} : ∀ {l : List Int}, (∀ x ∈ l, x.natAbs < 2 ^ B) → l.sum.natAbs ≤ l.length * 2 ^ B
  | [], _ => by simp
  | x :: r, h => by
    have ih := natAbs_sum (l := r) fun y hy => h y (List.mem_cons_of_mem _ hy)
    have hx := h x List.mem_cons_self
    rw [List.sum_cons, List.length_cons, Nat.add_mul]
    omega
theorem bits_sum {B : Nat} {l : List Int} (h : ∀ x ∈ l, intBits x ≤ B) (hl : l.length ≤ 64) : intBits l.sum ≤ B + 7 := by
  refine intBits_le_iff.mpr ?_
  have h1 := natAbs_sum (B := B) (l := l) fun x hx => intBits_le_iff.mp (h x hx)
  have h2 : l.length * 2 ^ B ≤ 64 * 2 ^ B := Nat.mul_le_mul_right _ hl
  have h3 : 0 < 2 ^ B := Nat.two_pow_pos B
  rw [Nat.pow_add]
  omega
theorem pick_mem {ns : List Int} {lo hi st : Option Int} {x : Int} (h : x ∈ pickNums ns lo hi st) : x ∈ ns := by
  unfold pickNums at h
  obtain ⟨i, _, hi⟩ := List.mem_filterMap.mp h
  exact List.mem_of_getElem? hi
theorem pick_len {vs : List Value} {ns : List Int} (I : IntsAre vs ns) (lo hi st : Option Int) : (pickNums ns lo hi st).length ≤ ns.length := by
  have h1 := (I.pick lo hi st).length
  have h2 := slicePick_size_le vs.toArray lo hi st
  have h3 : vs.toArray.size = ns.length := by rw [List.size_toArray, I.length]
  have h4 : (slicePick vs.toArray lo hi st).toList.length = (slicePick vs.toArray lo hi st).size := Array.length_toList
  omega
theorem bits_pick {vs : List Value} {ns : List Int} (I : IntsAre vs ns) (hb : ∀ x ∈ ns, intBits x ≤ 1048576) (hl : ns.length ≤ 63) (lo hi st : Option Int) : intBits (pickNums ns lo hi st).sum ≤ 1048583 :=
  bits_sum (fun x hx => hb x (pick_mem hx)) (Nat.le_trans (pick_len I lo hi st) (by omega))
def theUnit : Int := 3 ^ 2600
theorem unit_bits : intBits theUnit ≤ 4121 := by
  refine intBits_le_iff.mpr ?_
  unfold theUnit
  decide +kernel
theorem unit_pos : 0 < theUnit := by unfold theUnit; decide +kernel
end Mine
end
section
open PySem PySem.W PyProof.Rows PySem.Calls
set_option Elab.async false
set_option maxRecDepth 100000
set_option maxHeartbeats 8000000
set_option pp.deepTerms.threshold 6
local macro_rules | `(tactic| omega) => `(tactic| lia)
namespace Mine
open Builtin.Int (intBits)
local macro_rules | `(tactic| walk_at "call builtin:sum") => `(tactic| refine Stop.mk ?_)
local macro_rules | `(tactic| walk_at "binaryOp Mult int int") => `(tactic| refine Stop.mk ?_)
local macro_rules | `(tactic| walk_at "binaryOp Pow int int") => `(tactic| refine Stop.mk ?_)
local macro_rules | `(tactic| walk_at "binaryOp Mod int int") => `(tactic| refine Stop.mk ?_)
theorem reg8 : True := by
  k_with "enter" => (refine wpAny_call ?_; w_on; k_dflt (refine' code_defY (news := []) ?k1 ?k2 ?k3 ?k4 ?k5 ?kA ?kF ?kK ?k6 ?k7 ?k8 ?k9 ?kB ?_ ?c2 ?c3 ?c4 ?c5; (case kA => exact rfl); (case kF => exact rfl); (case kK => assumption); (case k1 => k_asm); (case k2 => k_asm); (case k3 => k_asm); (case k4 => exact News.nil); (case k5 => k_asm); (case k6 => k_is); (case k7 => k_is); (case k8 => first | decide | (simp only [recursionLimit]; omega)); (case k9 => exact BindsTo.of_eq rfl); (case c5 => decide); (case kB => exact locs rfl); (case c2 => exact rfl); (case c3 => exact rfl); (case c4 => exact rfl); k_whole; intro g' L' h' KB' SZ' F' N' B' X' T' LT'; (try dsimp only); (try k_fold)))
  trivial
/-- what _law_line makes: a rise and a run -/
def Line (R N : Int) : Prop := ∃ rise run : Int, run ≠ 0 ∧ intBits rise ≤ 1048592 ∧ intBits run ≤ 1048592 ∧ R = (rise + (rise.fmod 3 - 1) * theUnit * run) * theUnit ∧ N = run * theUnit
section
variable {prog : Program} {w : World} {A : Around} {E : Value → Shared → Prop} {s : Shared} {t u : Tok} {Q : Value → Shared → Prop}
theorem op_unit (h : ∀ z, z = theUnit → Q (.int z s.toks) { s with toks := s.toks + 1 }) : wpAny (model prog w) A (binaryOp .Pow (.int 3 t) (.int 2600 u)) Q E s :=
  pow_int_small (by decide) (by decide) (by decide) (h _ rfl)
theorem op_mod3 {x : Int} (h : ∀ z, z = x.fmod 3 → Q (.int z s.toks) { s with toks := s.toks + 1 }) : wpAny (model prog w) A (binaryOp .Mod (.int x t) (.int 3 u)) Q E s :=
  mod_int' (by decide) (h _ rfl)
end
theorem bits_small {z : Int} (h0 : -1 ≤ z) (h1 : z ≤ 1) : intBits z ≤ 1 := by
  refine intBits_le_iff.mpr ?_
  omega
theorem line_con (w : World) (D : Addr) (vs : List Value) (ns : List Int) (I : IntsAre vs ns) (hb : ∀ x ∈ ns, intBits x ≤ 1048576) (hl : ns.length ≤ 63) :
    Con w 70 [.ref D] 5 [] (fun h => h.IsList D vs.toArray) (fun h r h' => ∃ q rr, PairAt h r h' q rr ∧ Line q rr) := by
  unfold Con
  k_fill
  intro dp un gd cn cs fa ccd cl outer A₀ base h₀ L m s p loose mean mg mb Q E B F X T NS CA hk hd hu has hpre hret
  k_extra "enter"
  have hlg : g'.IsList D vs.toArray := isList_keep hpre KB' (by nofun)
  clear B F X T
  k_steps
  rename News _ _ _ _ => N1
  rename Fr _ _ _ _ => F1
  refine Stop.go ?_
  k_dflt (refine LSm.sum_ints F1 News.nil rfl (by rw [Array.toArray_toList]; exact News.isList N1 (List.Mem.head _)) (I.pick none none (some 2)) ?_)
  intro h1 tk1 t1 F2 N2
  have b1 := bits_pick I hb hl none none (some 2)
  generalize (pickNums ns none none (some 2)).sum = s1 at *
  clear F1 N1
  k_steps
  rename News _ _ _ _ => N1
  rename Fr _ _ _ _ => F1
  refine Stop.go ?_
  k_dflt (refine LSm.sum_ints F1 News.nil rfl (by rw [Array.toArray_toList]; exact News.isList N1 (List.Mem.head _)) (I.pick (some 1) none (some 2)) ?_)
  intro h2 tk2 t2 F3 N3
  have b2 := bits_pick I hb hl (some 1) none (some 2)
  generalize (pickNums ns (some 1) none (some 2)).sum = s2 at *
  clear F1 N1
  have b3 : intBits (5 + s1) ≤ 1048592 := Nat.le_trans (intBits_add_le (m := 64) (by decide) b1) (by omega)
  have b4 : intBits (12 + s2) ≤ 1048592 := Nat.le_trans (intBits_add_le (m := 64) (by decide) b2) (by omega)
  generalize 5 + s1 = rise at *
  have b12 : intBits 12 ≤ 1048592 := by decide
  k_steps
  · skip
    refine Stop.go (op_unit ?_)
    intro un_ hun
    have hub := unit_bits
    rw [← hun] at hub
    k_steps
    refine Stop.go (op_mod3 ?_)
    intro m3 hm3
    have hm3b : intBits (m3 - 1) ≤ 1 := bits_small (by have := Int.fmod_nonneg_of_pos rise (b := 3) (by decide); omega) (by have := Int.fmod_lt_of_pos rise (b := 3) (by decide); omega)
    k_steps
    refine Stop.go (op_mul (j := 1) (k := 4121) hm3b hub (by omega) ?_)
    intro z1 hz1
    have bz1 : intBits z1 ≤ 4122 := by rw [hz1]; exact intBits_mul_le (m := 1) (n := 4121) hm3b hub
    k_steps
    refine Stop.go (op_mul (j := 4122) (k := 1048592) bz1 b12 (by omega) ?_)
    intro z2 hz2
    have bz2 : intBits z2 ≤ 1052714 := by rw [hz2]; exact intBits_mul_le (m := 4122) (n := 1048592) bz1 b12
    k_steps
    refine Stop.go (op_mul (j := 1052715) (k := 4121) (Nat.le_trans (intBits_add_le b3 bz2) (by omega)) hub (by omega) ?_)
    intro z3 hz3
    k_steps
    refine Stop.go (op_mul (j := 1048592) (k := 4121) b12 hub (by omega) ?_)
    intro z4 hz4
    k_steps
    dsimp only
    show Q (.ref _) _
    exact hret _ _ _ (keep_of KB' (by assumption)) ⟨_, _, ⟨_, _, _, _, rfl, fresh_of KB' (by assumption) (List.Mem.head _) (by nofun), News.get (by assumption) (List.Mem.head _)⟩, rise, 12, by decide, b3, b12, by rw [hz3, hz2, hz1, hm3, hun], by rw [hz4, hun]⟩
  · skip
    refine Stop.go (op_unit ?_)
    intro un_ hun
    have hub := unit_bits
    rw [← hun] at hub
    k_steps
    refine Stop.go (op_mod3 ?_)
    intro m3 hm3
    have hm3b : intBits (m3 - 1) ≤ 1 := bits_small (by have := Int.fmod_nonneg_of_pos rise (b := 3) (by decide); omega) (by have := Int.fmod_lt_of_pos rise (b := 3) (by decide); omega)
    k_steps
    refine Stop.go (op_mul (j := 1) (k := 4121) hm3b hub (by omega) ?_)
    intro z1 hz1
    have bz1 : intBits z1 ≤ 4122 := by rw [hz1]; exact intBits_mul_le (m := 1) (n := 4121) hm3b hub
    k_steps
    refine Stop.go (op_mul (j := 4122) (k := 1048592) bz1 b4 (by omega) ?_)
    intro z2 hz2
    have bz2 : intBits z2 ≤ 1052714 := by rw [hz2]; exact intBits_mul_le (m := 4122) (n := 1048592) bz1 b4
    k_steps
    refine Stop.go (op_mul (j := 1052715) (k := 4121) (Nat.le_trans (intBits_add_le b3 bz2) (by omega)) hub (by omega) ?_)
    intro z3 hz3
    k_steps
    refine Stop.go (op_mul (j := 1048592) (k := 4121) b4 hub (by omega) ?_)
    intro z4 hz4
    k_steps
    dsimp only
    show Q (.ref _) _
    exact hret _ _ _ (keep_of KB' (by assumption)) ⟨_, _, ⟨_, _, _, _, rfl, fresh_of KB' (by assumption) (List.Mem.head _) (by nofun), News.get (by assumption) (List.Mem.head _)⟩, rise, 12 + s2, by assumption, b3, b4, by rw [hz3, hz2, hz1, hm3, hun], by rw [hz4, hun]⟩
end Mine
end
section
local macro_rules | `(tactic| omega) => `(tactic| lia)
namespace Mine
/-- b is a border of the first m letters of f, shorter than they -/
def Bd (f : Nat → Int) (m b : Nat) : Prop := b < m ∧ ∀ j, j < b → f j = f (m - b + j)
/-- the longest one -/
def MaxBd (f : Nat → Int) (m b : Nat) : Prop := Bd f m b ∧ ∀ c, Bd f m c → c ≤ b
theorem maxBd_one (f : Nat → Int) : MaxBd f 1 0 := ⟨⟨by omega, fun j h => by omega⟩, fun c h => by have := h.1; omega⟩
/-- a shorter border is a border of the longer one -/
theorem Bd.inner {f : Nat → Int} {m b c : Nat} (hb : Bd f m b) (hc : Bd f m c) (h : c < b) : Bd f b c := by
  refine ⟨h, fun j hj => ?_⟩
  have h1 := hc.2 j hj
  have h2 := hb.2 (b - c + j) (by omega)
  rw [h1, h2]
  congr 1
  have := hb.1; omega
theorem Bd.outer {f : Nat → Int} {m b c : Nat} (hb : Bd f m b) (hc : Bd f b c) : Bd f m c := by
  have := hb.1; have := hc.1
  refine ⟨by omega, fun j hj => ?_⟩
  have h1 := hc.2 j hj
  have h2 := hb.2 (b - c + j) (by omega)
  rw [h1, h2]
  congr 1
  omega
/-- one letter more -/
theorem Bd.succ {f : Nat → Int} {m b : Nat} (hb : Bd f m b) (e : f m = f b) : Bd f (m + 1) (b + 1) := by
  have := hb.1
  refine ⟨by omega, fun j hj => ?_⟩
  rcases Nat.lt_or_ge j b with h | h
  · rw [hb.2 j h]; congr 1; omega
  · have : j = b := by omega
    subst this
    rw [← e]; congr 1; omega
theorem Bd.pred {f : Nat → Int} {m b : Nat} (hb : Bd f (m + 1) (b + 1)) : Bd f m b ∧ f m = f b := by
  have := hb.1
  refine ⟨⟨by omega, fun j hj => ?_⟩, ?_⟩
  · rw [hb.2 j (by omega)]; congr 1; omega
  · rw [hb.2 b (by omega)]; congr 1; omega
/-- the search's state: b is a border of the first m, and no longer one goes on -/
def Srch (f : Nat → Int) (m b : Nat) : Prop := Bd f m b ∧ ∀ c, b < c → Bd f m c → f m ≠ f c
theorem Srch.start {f : Nat → Int} {m b : Nat} (h : MaxBd f m b) : Srch f m b := ⟨h.1, fun c hc hb => by have := h.2 c hb; omega⟩
theorem Srch.found {f : Nat → Int} {m b : Nat} (h : Srch f m b) (e : f m = f b) : MaxBd f (m + 1) (b + 1) := by
  refine ⟨h.1.succ e, fun c hc => ?_⟩
  rcases Nat.eq_zero_or_pos c with rfl | hp
  · omega
  · obtain ⟨d, rfl⟩ : ∃ d, c = d + 1 := ⟨c - 1, by omega⟩
    have ⟨p, q⟩ := hc.pred
    rcases Nat.lt_or_ge b d with hd | hd
    · exact absurd q (h.2 d hd p)
    · omega
theorem Srch.none {f : Nat → Int} {m : Nat} (h : Srch f m 0) (e : f m ≠ f 0) : MaxBd f (m + 1) 0 := by
  refine ⟨⟨by omega, fun j hj => by omega⟩, fun c hc => ?_⟩
  rcases Nat.eq_zero_or_pos c with rfl | hp
  · omega
  · obtain ⟨d, rfl⟩ : ∃ d, c = d + 1 := ⟨c - 1, by omega⟩
    have ⟨p, q⟩ := hc.pred
    rcases Nat.eq_zero_or_pos d with rfl | hd
    · exact absurd q e
    · exact absurd q (h.2 d hd p)
theorem Srch.next {f : Nat → Int} {m b c : Nat} (h : Srch f m b) (e : f m ≠ f b) (hc : MaxBd f b c) : Srch f m c := by
  refine ⟨h.1.outer hc.1, fun d hd hb => ?_⟩
  rcases Nat.lt_trichotomy d b with hlt | rfl | hgt
  · have := hc.2 d (h.1.inner hb hlt); omega
  · exact e
  · exact h.2 d hgt hb
theorem MaxBd.unique {f : Nat → Int} {m b c : Nat} (h : MaxBd f m b) (h' : MaxBd f m c) : b = c := Nat.le_antisymm (h'.2 b h.1) (h.2 c h'.1)
/-- a period of the first m letters -/
def Per (f : Nat → Int) (m t : Nat) : Prop := ∀ j, j + t < m → f j = f (j + t)
theorem bd_of_per {f : Nat → Int} {m t : Nat} (h0 : 0 < t) (h1 : t ≤ m) (h : Per f m t) : Bd f m (m - t) := by
  refine ⟨by omega, fun j hj => ?_⟩
  rw [h j (by omega)]; congr 1; omega
theorem per_of_bd {f : Nat → Int} {m b : Nat} (h : Bd f m b) : Per f m (m - b) := fun j hj => by
  have := h.1
  rw [h.2 j (by omega)]; congr 1; omega
/-- the longest border by the least period -/
theorem maxBd_of_per {f : Nat → Int} {m t : Nat} (h0 : 0 < t) (h1 : t ≤ m) (h : Per f m t) (hm : ∀ u, 0 < u → u < t → ¬ Per f m u) : MaxBd f m (m - t) := by
  refine ⟨bd_of_per h0 h1 h, fun c hc => ?_⟩
  have hc1 := hc.1
  rcases Nat.lt_or_ge (m - c) t with hlt | hge
  · exact absurd (per_of_bd hc) (hm _ (by omega) hlt)
  · omega
end Mine
end
section
open PySem PySem.W PyProof.Rows PySem.Calls PyProof.V PySem.Spec
set_option Elab.async false
set_option maxRecDepth 100000
local macro_rules | `(tactic| omega) => `(tactic| lia)
namespace Mine
theorem rng_size {a b : Int} {n : Nat} (h : b - a = (n : Int)) : Builtin.Range.rangeSize a b 1 = (n : Int) := by
  unfold Builtin.Range.rangeSize
  rw [if_pos (by decide)]
  split
  · rw [Int.ediv_one]; omega
  · omega
theorem rng_small {a b : Int} (h1 : -1000 ≤ a) (h2 : a ≤ 1000000) (h3 : -1000 ≤ b) (h4 : b ≤ 1000000) : Builtin.Range.small a b 1 = true := by
  have fits : ∀ x : Int, -10000000 ≤ x → x ≤ 10000000 → Builtin.Range.rangeFitsLong x = true := by
    intro x a b
    unfold Builtin.Range.rangeFitsLong
    simp
    omega
  have hs : 0 ≤ Builtin.Range.rangeSize a b 1 ∧ Builtin.Range.rangeSize a b 1 ≤ 1001000 := by
    unfold Builtin.Range.rangeSize
    rw [if_pos (by decide)]
    split
    · rw [Int.ediv_one]; omega
    · omega
  unfold Builtin.Range.small
  rw [fits a (by omega) (by omega), fits b (by omega) (by omega), fits 1 (by omega) (by omega), fits _ (by omega) (by omega), if_pos (by decide), fits (b + (1 - 1)) (by omega) (by omega)]
  simp
theorem rng_size0 {a b : Int} (h : b ≤ a) : Builtin.Range.rangeSize a b 1 = ((0 : Nat) : Int) := by
  unfold Builtin.Range.rangeSize
  rw [if_pos (by decide), if_neg (by omega)]; rfl
section
variable {prog : Program} {w : World} {A : Around} {E : Value → Shared → Prop} {s : Shared} {env : Env} {test : PySem.Expr} {body orelse : List Stmt} {Q : Flow → Shared → Prop} {h₀ : Heap} {L : Addr} {M0 : Str → Option Value} {x : Str}
theorem map_again {v v' : Value} : (fun y => if y = x then some v else if y = x then some v' else M0 y) = fun y => if y = x then some v else M0 y := by
  funext y
  by_cases h : y = x <;> simp [h]
/-- a while that turns one int downward, by induction -/
theorem while_ind (Led : List (Addr × Obj)) (Inv : Nat → Prop)
    (step : ∀ idx : Nat, (∀ j : Nat, j < idx → ∀ t h tk, Inv j → Fr h₀ L h (fun y => if y = x then some (.int (j : Int) t) else M0 y) → News h₀ L h Led → WhlRest prog w A E env test body orelse Q 0 { s with heap := h, toks := tk }) →
      ∀ t h tk, Inv idx → Fr h₀ L h (fun y => if y = x then some (.int (idx : Int) t) else M0 y) → News h₀ L h Led → WhlRest prog w A E env test body orelse Q 1 { s with heap := h, toks := tk })
    (idx : Nat) (t : Tok) (inv : Inv idx) (F : Fr h₀ L s.heap (fun y => if y = x then some (.int (idx : Int) t) else M0 y)) (N : News h₀ L s.heap Led) : WhlRest prog w A E env test body orelse Q 0 s := by
  have all : ∀ idx : Nat, ∀ t h tk, Inv idx → Fr h₀ L h (fun y => if y = x then some (.int (idx : Int) t) else M0 y) → News h₀ L h Led → WhlRest prog w A E env test body orelse Q 0 { s with heap := h, toks := tk } :=
    fun idx => Nat.strongRecOn idx fun idx ih => step idx ih
  exact all idx t s.heap s.toks inv F N
end
end Mine
end
section
open PySem PySem.W PyProof.Rows PySem.Calls
set_option Elab.async false
set_option maxRecDepth 100000
set_option maxHeartbeats 8000000
set_option pp.deepTerms.threshold 6
local macro_rules | `(tactic| omega) => `(tactic| lia)
namespace Mine
open Builtin.Int (intBits)
local macro_rules | `(tactic| walk_at "binaryOp Mult ref int") => `(tactic| refine Stop.mk ?_)
local macro_rules | `(tactic| walk_at "call builtin:len") => `(tactic| refine Stop.mk ?_)
local macro_rules | `(tactic| walk_at "pyIter ref") => `(tactic| refine Stop.mk ?_)
local macro_rules | `(tactic| walk_at "exec While") => `(tactic| refine Stop.mk ?_)
local macro_rules | `(tactic| walk_at "UnrPost") => `(tactic| refine Stop.mk ?_)
local macro_rules | `(tactic| walk_at "WhlPost") => `(tactic| refine Stop.mk ?_)
theorem reg9 : True := by
  k_with "enter" => (refine wpAny_call ?_; w_on; k_dflt (refine' code_defY (news := []) ?k1 ?k2 ?k3 ?k4 ?k5 ?kA ?kF ?kK ?k6 ?k7 ?k8 ?k9 ?kB ?_ ?c2 ?c3 ?c4 ?c5; (case kA => exact rfl); (case kF => exact rfl); (case kK => assumption); (case k1 => k_asm); (case k2 => k_asm); (case k3 => k_asm); (case k4 => exact News.nil); (case k5 => k_asm); (case k6 => k_is); (case k7 => k_is); (case k8 => first | decide | (simp only [recursionLimit]; omega)); (case k9 => exact BindsTo.of_eq rfl); (case c5 => decide); (case kB => exact locs rfl); (case c2 => exact rfl); (case c3 => exact rfl); (case c4 => exact rfl); k_whole; intro g' L' h' KB' SZ' F' N' B' X' T' LT'; (try dsimp only); (try k_fold)))
  trivial
abbrev fnOfL (ns : List Int) : Nat → Int := fun i => ns.getD i 0
/-- the first n entries of the table are told -/
def TabInv (ns tb : List Int) (n : Nat) : Prop := tb.length = ns.length ∧ ∀ j, j < n → ∃ b : Nat, tb.getD j 0 = (b : Int) ∧ MaxBd (fnOfL ns) (j + 1) b
theorem tabInv_set {ns tb : List Int} {i b : Nat} (hv : TabInv ns tb (i + 1)) (hi : i + 1 < ns.length) (mb : MaxBd (fnOfL ns) (i + 1 + 1) b) : TabInv ns (tb.set (i + 1) (b : Int)) (i + 1 + 1) := by
  refine ⟨by rw [List.length_set]; exact hv.1, fun j hj => ?_⟩
  rcases Nat.lt_or_ge j (i + 1) with h | h
  · obtain ⟨c, e, mc⟩ := hv.2 j h
    refine ⟨c, ?_, mc⟩
    rw [← e]
    simp only [List.getD_eq_getElem?_getD]
    rw [List.getElem?_set_ne (by omega)]
  · have : j = i + 1 := by omega
    subst this
    refine ⟨b, ?_, mb⟩
    simp only [List.getD_eq_getElem?_getD]
    rw [List.getElem?_set_self (by rw [hv.1]; exact hi)]
    rfl
theorem ovl_con (w : World) (D : Addr) (vs : List Value) (ns : List Int) (I : IntsAre vs ns) (hk1 : 1 ≤ ns.length) (hk2 : ns.length ≤ 64) :
    Con w 63 [.ref D] 5 [] (fun h => h.IsList D vs.toArray) (fun h r h' => ∃ tb, ListAt h r h' tb ∧ TabInv ns tb ns.length) := by
  unfold Con
  k_fill
  intro dp un gd cn cs fa ccd cl outer A₀ base h₀ L m s p loose mean mg mb Q E B F X T NS CA hk hd hu has hpre hret
  k_extra "enter"
  have hlg : g'.IsList D vs.toArray := isList_keep hpre KB' (by nofun)
  have hvs : (vs.toArray.size : Int) = (ns.length : Int) := by rw [List.size_toArray, I.length]
  clear B F X T
  k_steps
  refine Stop.go (call_len_list (hlg.at fun o e => Fr.keep (by assumption) _ _ e) (by omega) ?_)
  rw [hvs]
  k_steps
  refine Stop.go (op_zeros (k := ns.length) (by k_asm) (by k_asm) (by k_mem) rfl (by omega) ?_)
  intro Dt h1 vt F1 N1 l1 I1
  k_lt l1
  k_steps
  refine Stop.go (call_len_list (hlg.at fun o e => Fr.keep (by assumption) _ _ e) (by omega) ?_)
  rw [hvs]
  k_steps
  rename News _ _ _ _ => N2
  rename Fr _ _ _ _ => F2
  rename IsRange _ _ _ _ _ _ _ _ => hr
  rename IntsAre vt _ => I1
  refine Stop.go ?_
  k_dflt (refine iter_rangeUnr (n := ns.length - 1) rfl hr (rng_small (by omega) (by omega) (by omega) (by omega)) (rng_size (by omega)) F2 (news_sub N2 (l := [(Dt, listOf vt.toArray 0)]) (fun p hp => by rw [List.mem_singleton.mp hp]; exact .head _)) ?_)
  intro It lI
  k_lt lI
  refine range_start (σ := List Value × List Int) (fun c => [(Dt, listOf c.1.toArray 0)]) (fun c => []) [Str.ofString "idx", Str.ofString "i"] (fun i c => IntsAre c.1 c.2 ∧ TabInv ns c.2 (i + 1)) (vt, _) (fun p hp => nomatch hp) ⟨I1, ?_⟩ ?turn ?done
  · refine ⟨by simp, fun j hj => ⟨0, ?_, ?_⟩⟩
    · have : j = 0 := by omega
      subst this
      obtain ⟨k, hk⟩ : ∃ k, ns.length = k + 1 := ⟨ns.length - 1, by omega⟩
      rw [hk, List.replicate_succ]; rfl
    · have : j = 0 := by omega
      subst this
      exact maxBd_one _
  case turn =>
    rintro i ⟨wt, tb⟩ u it t h tk hi ⟨It1, hv⟩ hit F3 N3
    clear F2 N2
    dsimp only at hv It1 N3
    dsimp only [stM, kstB] at F3
    change Fr g' L' h _ at F3
    change News g' L' h _ at N3
    have htl := hv.1
    k_steps
    rename News _ _ _ _ => N4
    rename Fr _ _ _ _ => F4
    have e1 : (1 + (i : Int) - 1).toNat = i := by omega
    obtain ⟨b, eb, mb⟩ := hv.2 i (by omega)
    rw [e1, eb] at F4
    refine Stop.go (whl_start 0 (while_ind (x := Str.ofString "idx") [(It, it), (Dt, listOf wt.toArray 0)] (fun b => Srch (fnOfL ns) (i + 1) b) ?step b _ (Srch.start mb) F4 N4))
    intro idx ih t5 h5 tk5 inv F5 N5
    clear F4 N4
    have hidx : idx < i + 1 := inv.1.1
    refine whl_turn (by passes_own) ?_
    k_steps
    have ea : (1 + (i : Int)).toNat = i + 1 := by omega
    have ec : ((idx : Nat) : Int).toNat = idx := Int.toNat_natCast idx
    by_cases hne : fnOfL ns (i + 1) = fnOfL ns idx
    · refine WhlIf.no (by rw [ea, ec, show ns.getD (i + 1) 0 = ns.getD idx 0 from hne]; simp) ?_
      k_steps
      refine Stop.go ?_
      show UnrEnd _ _ _ _ _ _ _
      refine UnrEnd.intro (by assumption) (by assumption) _ (fun p hp => hp) ?off ⟨(_, _), rfl, (fun p hp => nomatch hp), by ksw_same, ‹_›, ?_⟩
      case off => dsimp only; k_all
      rw [ea]
      exact tabInv_set (b := idx + 1) hv (by omega) (inv.found hne)
    · refine WhlIf.yes (by rw [ea, ec]; simpa using hne) ?_
      k_steps
      · refine Stop.go ?_
        have h0 : idx = 0 := by omega
        subst h0
        dsimp only [WhlPost]
        k_steps
        refine Stop.go ?_
        show UnrEnd _ _ _ _ _ _ _
        refine UnrEnd.intro (by assumption) (by assumption) _ (fun p hp => hp) ?off ⟨(_, _), rfl, (fun p hp => nomatch hp), by ksw_same, ‹_›, ?_⟩
        case off => dsimp only; k_all
        rw [ea]
        exact tabInv_set (b := 0) hv (by omega) (inv.none hne)
      · refine Stop.go ?_
        rename News _ _ _ _ => N6
        rename Fr _ _ _ _ => F6
        obtain ⟨c, ecc, mc⟩ := hv.2 (idx - 1) (by omega)
        have e3 : (((idx : Nat) : Int) - 1).toNat = idx - 1 := by omega
        rw [show idx - 1 + 1 = idx by omega] at mc
        rw [e3, ecc, map_again] at F6
        exact ih c mc.1.1 _ _ _ (inv.next hne mc) F6 N6
  case done =>
    rintro ⟨wt, tb⟩ u h tk ⟨It1, hv⟩ F3 N3
    dsimp only at hv It1 N3
    dsimp only [stM, kstB] at F3
    change Fr g' L' h _ at F3
    change News g' L' h _ at N3
    k_steps
    dsimp only
    show Q (.ref _) _
    rw [show ns.length - 1 + 1 = ns.length by omega] at hv
    refine hret _ _ _ (keep_of KB' F3) ⟨tb, ⟨Dt, wt, rfl, fresh_of KB' N3 (.head _) (by nofun), N3.get (.head _), It1⟩, hv⟩
end Mine
end
section
local macro_rules | `(tactic| omega) => `(tactic| lia)
namespace Mine
/-! words of a straight line -/
/-- two neighbours of Euclid's run: sizes a and b, what they leave, and their heights -/
structure Nb (P q : Int) (even : Bool) (a b da db ca cb : Int) : Prop where
  e1 : a * P = ca * q + (if even then da else -da)
  e2 : b * P = cb * q + (if even then -db else db)
  e3 : b * da + a * db = q
  da0 : 0 < da
  db0 : 0 ≤ db
  le : db ≤ da
  ev : even = true → 0 < db
  od : even = false → db < da
  a1 : 1 ≤ a
  b1 : 1 ≤ b
def Link (P q : Int) (k : Nat) (a b : Int) : Prop := ∃ da db ca cb, Nb P q (k % 2 == 0) a b da db ca cb
/-- the height at n -/
def Ht (P q n : Int) : Int := n * P / q
theorem ht_of {P q n c x : Int} (e : n * P = c * q + x) (h0 : 0 ≤ x) (h1 : x < q) : Ht P q n = c := by
  unfold Ht
  have hq : 0 < q := by omega
  rw [e, Int.add_comm, Int.add_mul_ediv_right _ _ (Int.ne_of_gt hq), Int.ediv_eq_zero_of_lt h0 h1]; omega
theorem ht_below {P q n c x : Int} (e : n * P = c * q - x) (h0 : 0 < x) (h1 : x ≤ q) : Ht P q n = c - 1 := by
  refine ht_of (x := q - x) ?_ (by omega) (by omega)
  rw [e, Int.sub_mul]; omega
theorem ht_rest {P q : Int} (hq : 0 < q) (n : Int) : ∃ r, n * P = Ht P q n * q + r ∧ 0 ≤ r ∧ r < q := by
  refine ⟨n * P % q, ?_, Int.emod_nonneg _ (Int.ne_of_gt hq), Int.emod_lt_of_pos _ hq⟩
  unfold Ht
  have := Int.mul_ediv_add_emod (n * P) q
  rw [Int.mul_comm] at this; omega
section
variable {P q : Int} {ev : Bool} {a b da db ca cb : Int}
theorem Nb.qpos (h : Nb P q ev a b da db ca cb) : 0 < q := by
  have h1 := Int.mul_pos (show 0 < b from h.b1) h.da0
  have h2 := Int.mul_nonneg (show 0 ≤ a from by have := h.a1; omega) h.db0
  have := h.e3; omega
/-- the determinant -/
theorem Nb.det (h : Nb P q ev a b da db ca cb) : a * cb - b * ca = if ev then 1 else -1 := by
  have hq := h.qpos
  have e1 := h.e1; have e2 := h.e2; have e3 := h.e3
  have x1 : b * (a * P) = a * (b * P) := by rw [← Int.mul_assoc, ← Int.mul_assoc, Int.mul_comm b a]
  rw [e1, e2, Int.mul_add, Int.mul_add] at x1
  have y1 : b * (ca * q) = b * ca * q := (Int.mul_assoc _ _ _).symm
  have y2 : a * (cb * q) = a * cb * q := (Int.mul_assoc _ _ _).symm
  have key : (a * cb - b * ca) * q = (if ev then (1 : Int) else -1) * q := by
    rw [Int.sub_mul]
    cases ev with
    | true =>
      simp only [if_true, Int.mul_neg, Int.one_mul] at x1 ⊢
      omega
    | false =>
      simp only [Bool.false_eq_true, if_false, Int.mul_neg] at x1 ⊢
      rw [Int.neg_mul, Int.one_mul]
      omega
  exact Int.eq_of_mul_eq_mul_right (Int.ne_of_gt hq) key
/-- no step below b comes nearer to a whole number than a does -/
theorem Nb.best (h : Nb P q ev a b da db ca cb) {n j : Int} (h1 : 1 ≤ n) (h2 : n < b) :
    n * P - j * q ≥ da ∨ n * P - j * q ≤ -da ∧ (ev = true → n * P - j * q < -da) := by
  have hd := h.det
  -- coordinates
  obtain ⟨X, Y, eX, eY⟩ : ∃ X Y : Int, n = X * a + Y * b ∧ j = X * ca + Y * cb := by
    cases ev with
    | true =>
      simp only [if_true] at hd
      refine ⟨n * cb - j * b, j * a - n * ca, ?_, ?_⟩
      · have : (n * cb - j * b) * a + (j * a - n * ca) * b = n * (a * cb - b * ca) := by
          simp only [Int.sub_mul, Int.mul_sub]
          have e1 : n * cb * a = n * (a * cb) := by rw [Int.mul_assoc, Int.mul_comm cb a]
          have e2 : n * ca * b = n * (b * ca) := by rw [Int.mul_assoc, Int.mul_comm ca b]
          have e3 : j * b * a = j * a * b := by rw [Int.mul_assoc, Int.mul_comm b a, ← Int.mul_assoc]
          omega
        rw [this, hd]; omega
      · have : (n * cb - j * b) * ca + (j * a - n * ca) * cb = j * (a * cb - b * ca) := by
          simp only [Int.sub_mul, Int.mul_sub]
          have e1 : n * cb * ca = n * ca * cb := by rw [Int.mul_assoc, Int.mul_comm cb ca, ← Int.mul_assoc]
          have e2 : j * b * ca = j * (b * ca) := Int.mul_assoc _ _ _
          have e3 : j * a * cb = j * (a * cb) := Int.mul_assoc _ _ _
          omega
        rw [this, hd]; omega
    | false =>
      simp only [Bool.false_eq_true, if_false] at hd
      refine ⟨j * b - n * cb, n * ca - j * a, ?_, ?_⟩
      · have : (j * b - n * cb) * a + (n * ca - j * a) * b = -(n * (a * cb - b * ca)) := by
          simp only [Int.sub_mul, Int.mul_sub]
          have e1 : n * cb * a = n * (a * cb) := by rw [Int.mul_assoc, Int.mul_comm cb a]
          have e2 : n * ca * b = n * (b * ca) := by rw [Int.mul_assoc, Int.mul_comm ca b]
          have e3 : j * b * a = j * a * b := by rw [Int.mul_assoc, Int.mul_comm b a, ← Int.mul_assoc]
          omega
        rw [this, hd]; omega
      · have : (j * b - n * cb) * ca + (n * ca - j * a) * cb = -(j * (a * cb - b * ca)) := by
          simp only [Int.sub_mul, Int.mul_sub]
          have e1 : n * cb * ca = n * ca * cb := by rw [Int.mul_assoc, Int.mul_comm cb ca, ← Int.mul_assoc]
          have e2 : j * b * ca = j * (b * ca) := Int.mul_assoc _ _ _
          have e3 : j * a * cb = j * (a * cb) := Int.mul_assoc _ _ _
          omega
        rw [this, hd]; omega
  have hz : n * P - j * q = if ev then X * da - Y * db else Y * db - X * da := by
    rw [eX, eY, Int.add_mul, Int.add_mul, Int.mul_assoc, Int.mul_assoc, h.e1, h.e2, Int.mul_add, Int.mul_add]
    have e1 : X * (ca * q) = X * ca * q := (Int.mul_assoc _ _ _).symm
    have e2 : Y * (cb * q) = Y * cb * q := (Int.mul_assoc _ _ _).symm
    cases ev with
    | true => simp only [if_true, Int.mul_neg]; omega
    | false => simp only [Bool.false_eq_true, if_false, Int.mul_neg]; omega
  have a1 := h.a1; have b1 := h.b1; have da0 := h.da0; have db0 := h.db0
  have big : (X * da - Y * db ≥ da) ∨ (X * da - Y * db ≤ -da ∧ (0 < db → X * da - Y * db < -da)) := by
    rcases Int.lt_trichotomy Y 0 with hY | hY | hY
    · -- Y ≤ -1
      have hYb : Y * b ≤ -1 * b := Int.mul_le_mul_of_nonneg_right (by omega) (by omega)
      have hX : 0 < X := by
        rcases Int.lt_or_le 0 X with hX | hX
        · exact hX
        · have := Int.mul_nonneg (show 0 ≤ -X by omega) (show 0 ≤ a by omega)
          rw [Int.neg_mul] at this; omega
      have h3 : 1 * da ≤ X * da := Int.mul_le_mul_of_nonneg_right (by omega) (by omega)
      have h4 : 0 ≤ -Y * db := Int.mul_nonneg (by omega) db0
      rw [Int.neg_mul] at h4
      left; omega
    · subst hY
      have hX : 0 < X := by
        rcases Int.lt_or_le 0 X with hX | hX
        · exact hX
        · have := Int.mul_nonneg (show 0 ≤ -X by omega) (show 0 ≤ a by omega)
          rw [Int.neg_mul] at this; omega
      have h3 : 1 * da ≤ X * da := Int.mul_le_mul_of_nonneg_right (by omega) (by omega)
      left; omega
    · have hYb : 1 * b ≤ Y * b := Int.mul_le_mul_of_nonneg_right (by omega) (by omega)
      have hX : X < 0 := by
        rcases Int.lt_or_le X 0 with hX | hX
        · exact hX
        · have := Int.mul_nonneg hX (show 0 ≤ a by omega); omega
      have h3 : X * da ≤ -1 * da := Int.mul_le_mul_of_nonneg_right (by omega) (by omega)
      have h4 : 0 ≤ Y * db := Int.mul_nonneg (by omega) db0
      right
      refine ⟨by omega, fun hdb => ?_⟩
      have h5 : 1 * db ≤ Y * db := Int.mul_le_mul_of_nonneg_right (by omega) db0
      omega
  cases hev : ev with
  | true =>
    rw [hev] at hz
    simp only [if_true] at hz
    rw [hz]
    rcases big with hb | hb
    · exact .inl hb
    · exact .inr ⟨hb.1, fun _ => hb.2 (h.ev hev)⟩
  | false =>
    rw [hev] at hz
    simp only [Bool.false_eq_true, if_false] at hz
    rw [hz]
    rcases big with hb | hb
    · exact .inr ⟨by omega, fun hh => by cases hh⟩
    · exact .inl (by omega)
/-- the rest at n below b -/
theorem Nb.rest (h : Nb P q ev a b da db ca cb) {n : Int} (h1 : 1 ≤ n) (h2 : n < b) :
    ∃ r, n * P = Ht P q n * q + r ∧ da ≤ r ∧ r ≤ q - da ∧ (ev = true → r < q - da) := by
  have hq := h.qpos
  obtain ⟨r, e, r0, r1⟩ := ht_rest hq (P := P) n
  have da0 := h.da0
  have hA : r ≥ da := by
    rcases h.best (j := Ht P q n) h1 h2 with hb | hb
    · omega
    · omega
  have hB : r ≤ q - da ∧ (ev = true → r < q - da) := by
    rcases h.best (j := Ht P q n + 1) h1 h2 with hb | hb
    · rw [Int.add_mul] at hb; omega
    · rw [Int.add_mul] at hb
      exact ⟨by omega, fun hh => by have := hb.2 hh; omega⟩
  exact ⟨r, e, hA, hB.1, hB.2⟩
/-- a moves the heights by ca, below b -/
theorem Nb.move (h : Nb P q ev a b da db ca cb) {n : Int} (h1 : 1 ≤ n) (h2 : n < b) : Ht P q (n + a) = Ht P q n + ca := by
  obtain ⟨r, e, r0, r1, r2⟩ := h.rest h1 h2
  have e1 := h.e1
  have da0 := h.da0
  cases ev with
  | true =>
    simp only [if_true] at e1
    refine ht_of (x := r + da) ?_ (by omega) (by have := r2 rfl; omega)
    rw [Int.add_mul, e, e1, Int.add_mul]; omega
  | false =>
    simp only [Bool.false_eq_true, if_false] at e1
    refine ht_of (x := r - da) ?_ (by omega) (by omega)
    rw [Int.add_mul, e, e1, Int.add_mul]; omega
/-- nothing shorter than b moves them so, as far as a + b -/
theorem Nb.still (h : Nb P q ev a b da db ca cb) {t : Int} (h1 : 1 ≤ t) (h2 : t < b) :
    Ht P q (a + t) - Ht P q a ≠ Ht P q (a + b) - Ht P q (a + b - t) := by
  have hq := h.qpos
  obtain ⟨r, e, r0, r1, r2⟩ := h.rest h1 h2
  have mv := h.move h1 h2
  have e1 := h.e1; have e2 := h.e2; have e3 := h.e3
  have da0 := h.da0; have db0 := h.db0; have le := h.le
  have hbd : da ≤ b * da := by
    have := Int.mul_le_mul_of_nonneg_right h.b1 (Int.le_of_lt da0); omega
  have had : db ≤ a * db := by
    have := Int.mul_le_mul_of_nonneg_right h.a1 db0; omega
  rw [Int.add_comm a t, mv]
  cases hev : ev with
  | true =>
    rw [hev] at e1 e2
    simp only [if_true] at e1 e2
    have hdb := h.ev hev
    have f1 : Ht P q a = ca := ht_of e1 (by omega) (by omega)
    have f2 : Ht P q (a + b) = ca + cb := ht_of (x := da - db) (by rw [Int.add_mul, e1, e2, Int.add_mul]; omega) (by omega) (by omega)
    have f3 : Ht P q (a + b - t) = ca + cb - Ht P q t - 1 := ht_below (x := r - (da - db)) (by rw [Int.sub_mul, Int.add_mul, e1, e2, e, Int.sub_mul, Int.add_mul]; omega) (by omega) (by omega)
    omega
  | false =>
    rw [hev] at e1 e2
    simp only [Bool.false_eq_true, if_false] at e1 e2
    have hdb := h.od hev
    have f1 : Ht P q a = ca - 1 := ht_below (x := da) (by omega) (by omega) (by omega)
    have f2 : Ht P q (a + b) = ca + cb - 1 := ht_below (x := da - db) (by rw [Int.add_mul, e1, e2, Int.add_mul]; omega) (by omega) (by omega)
    have f3 : Ht P q (a + b - t) = ca + cb - Ht P q t - 1 := ht_below (x := da - db + r) (by rw [Int.sub_mul, Int.add_mul, e1, e2, e, Int.sub_mul, Int.add_mul]; omega) (by omega) (by omega)
    omega
end
end Mine
end
section
local macro_rules | `(tactic| omega) => `(tactic| lia)
namespace Mine
/-- the sizes as the law's Euclid makes them -/
structure SizesOk (P q : Int) (sz : List Int) : Prop where
  qpos : 0 < q
  head : sz.getD 0 0 = 1
  ne : 0 < sz.length
  link : ∀ k, k + 1 < sz.length → Link P q k (sz.getD k 0) (sz.getD (k + 1) 0)
  fin : (∃ c, sz.getD (sz.length - 1) 0 * P = c * q) ∨ (2 ≤ sz.length ∧ 55 ≤ sz.getD (sz.length - 2) 0 + sz.getD (sz.length - 1) 0)
section
variable {P q c : Int} {w : Nat → Int} {cnt m : Nat}
theorem per_of {s : Nat} {d : Int} {lim : Int} (hw : ∀ j : Nat, j < cnt → w j = c + Ht P q ((j : Int) + 2) - Ht P q ((j : Int) + 1)) (hm : m ≤ cnt)
    (mv : ∀ n : Int, 1 ≤ n → n < lim → Ht P q (n + (s : Int)) = Ht P q n + d) (hl : (m : Int) + 2 ≤ (s : Int) + lim) : Per w m s := fun j hj => by
  rw [hw j (by omega), hw (j + s) (by omega)]
  have e1 := mv ((j : Int) + 2) (by omega) (by omega)
  have e2 := mv ((j : Int) + 1) (by omega) (by omega)
  have a1 : (((j + s : Nat) : Int) + 2) = (j : Int) + 2 + (s : Int) := by omega
  have a2 : (((j + s : Nat) : Int) + 1) = (j : Int) + 1 + (s : Int) := by omega
  rw [a1, a2, e1, e2]; omega
theorem not_per {k : Nat} {a b : Int} {t : Nat} (L : Link P q k a b) (hw : ∀ j : Nat, j < cnt → w j = c + Ht P q ((j : Int) + 2) - Ht P q ((j : Int) + 1)) (hm : m ≤ cnt)
    (h1 : 1 ≤ t) (h2 : (t : Int) < b) (h3 : a + b ≤ (m : Int) + 1) : ¬ Per w m t := fun hp => by
  obtain ⟨da, db, ca, cb, N⟩ := L
  have a1 := N.a1
  have st := N.still (t := (t : Int)) (by omega) h2
  have step : ∀ n : Nat, 1 ≤ n → n + t ≤ m → Ht P q (((n + 1 : Nat) : Int) + t) - Ht P q ((n + 1 : Nat) : Int) = Ht P q ((n : Int) + t) - Ht P q (n : Int) := by
    intro n hn hnm
    have e := hp (n - 1) (by omega)
    rw [hw (n - 1) (by omega), hw (n - 1 + t) (by omega)] at e
    have x1 : (((n - 1 : Nat) : Int) + 2) = ((n + 1 : Nat) : Int) := by omega
    have x2 : (((n - 1 : Nat) : Int) + 1) = (n : Int) := by omega
    have x3 : (((n - 1 + t : Nat) : Int) + 2) = ((n + 1 : Nat) : Int) + t := by omega
    have x4 : (((n - 1 + t : Nat) : Int) + 1) = (n : Int) + t := by omega
    rw [x1, x2, x3, x4] at e
    omega
  have const : ∀ n : Nat, 1 ≤ n → n + t ≤ m + 1 → Ht P q ((n : Int) + t) - Ht P q (n : Int) = Ht P q (((1 : Nat) : Int) + t) - Ht P q ((1 : Nat) : Int) := by
    intro n
    induction n with
    | zero => intro h; omega
    | succ n ih =>
      intro _ hnm
      rcases Nat.eq_zero_or_pos n with rfl | hn
      · rfl
      · rw [step n hn (by omega), ih hn (by omega)]
  have c1 := const a.toNat (by omega) (by omega)
  have c2 := const (a + b - t).toNat (by omega) (by omega)
  have y1 : ((a.toNat : Nat) : Int) = a := by omega
  have y2 : (((a + b - t).toNat : Nat) : Int) = a + b - t := by omega
  rw [y1] at c1
  rw [y2, show a + b - (t : Int) + t = a + b by omega] at c2
  exact st (by omega)
theorem border_of {sz : List Int} (S : SizesOk P q sz) (hw : ∀ j : Nat, j < cnt → w j = c + Ht P q ((j : Int) + 2) - Ht P q ((j : Int) + 1)) (h1 : 1 ≤ m) (hm : m ≤ cnt) (h50 : m ≤ 50) {K : Nat} (hK : K < sz.length)
    (before : ∀ k, k < K → sz.getD k 0 + sz.getD (k + 1) 0 < (m : Int) + 2) (this : K + 1 < sz.length → (m : Int) + 2 ≤ sz.getD K 0 + sz.getD (K + 1) 0) :
    MaxBd w m (m - (sz.getD K 0).toNat) ∧ 1 ≤ sz.getD K 0 ∧ sz.getD K 0 ≤ (m : Int) := by
  have hpos : 1 ≤ sz.getD K 0 := by
    rcases Nat.eq_zero_or_pos K with rfl | hk
    · rw [S.head]; omega
    · obtain ⟨k, rfl⟩ : ∃ k, K = k + 1 := ⟨K - 1, by omega⟩
      obtain ⟨_, _, _, _, N⟩ := S.link k hK
      exact N.b1
  have hle : sz.getD K 0 ≤ (m : Int) := by
    rcases Nat.eq_zero_or_pos K with rfl | hk
    · rw [S.head]; omega
    · obtain ⟨k, rfl⟩ : ∃ k, K = k + 1 := ⟨K - 1, by omega⟩
      obtain ⟨_, _, _, _, N⟩ := S.link k hK
      have := before k (by omega)
      have := N.a1
      omega
  refine ⟨maxBd_of_per (by omega) (by omega) ?_ ?_, hpos, hle⟩
  · have es : (((sz.getD K 0).toNat : Nat) : Int) = sz.getD K 0 := by omega
    rcases Nat.lt_or_ge (K + 1) sz.length with hlt | hge
    · obtain ⟨da, db, ca, cb, N⟩ := S.link K hlt
      refine per_of (d := ca) (lim := sz.getD (K + 1) 0) hw hm (fun n x y => ?_) (by have := this hlt; omega)
      rw [es]; exact N.move x y
    · have eK : K = sz.length - 1 := by omega
      rcases S.fin with ⟨c', e⟩ | ⟨h2, h55⟩
      · rw [← eK] at e
        refine per_of (d := c') (lim := (m : Int) + 2) hw hm (fun n _ _ => ?_) (by omega)
        rw [es]
        unfold Ht
        rw [Int.add_mul, e, Int.add_mul_ediv_right _ _ (Int.ne_of_gt S.qpos)]
      · have := before (sz.length - 2) (by omega)
        rw [show sz.length - 2 + 1 = sz.length - 1 by omega] at this
        omega
  · intro u hu hlt
    rcases Nat.eq_zero_or_pos K with rfl | hk
    · rw [S.head] at hlt; simp at hlt; omega
    · obtain ⟨k, rfl⟩ : ∃ k, K = k + 1 := ⟨K - 1, by omega⟩
      exact not_per (S.link k hK) hw hm hu (by omega) (by have := before k (by omega); omega)
end
end Mine
end
section
local macro_rules | `(tactic| omega) => `(tactic| lia)
namespace Mine
def fb : Nat → Int
  | 0 => 0
  | 1 => 1
  | n + 2 => fb (n + 1) + fb n
/-- Euclid is under way: the last two sizes and what is left -/
structure Run (P q : Int) (i : Nat) (z1 z2 u v : Int) : Prop where
  v0 : 0 < v
  vu : v < u
  sum : z1 * u + z2 * v = q
  h1 : ∃ c, z1 * P = c * q + (if (i % 2 == 0) then v else -v)
  h2 : ∃ c, z2 * P = c * q + (if (i % 2 == 0) then -u else u)
  p1 : 1 ≤ z1
  p2 : 0 ≤ z2
  f1 : fb (i + 1) ≤ z1
  f2 : fb i ≤ z2
section
variable {P q z1 z2 u v : Int} {i : Nat}
theorem Run.bounds (h : Run P q i z1 z2 u v) : z1 ≤ q ∧ z2 ≤ q ∧ u ≤ q ∧ v ≤ q := by
  have a := h.p1; have b := h.p2; have c := h.v0; have d := h.vu; have e := h.sum
  have x1 : z1 * 1 ≤ z1 * u := Int.mul_le_mul_of_nonneg_left (by omega) (by omega)
  have x2 : z2 * 1 ≤ z2 * v := Int.mul_le_mul_of_nonneg_left (by omega) b
  have x3 : 1 * u ≤ z1 * u := Int.mul_le_mul_of_nonneg_right a (by omega)
  have x4 : 0 ≤ z2 * v := Int.mul_nonneg b (by omega)
  have x5 : 0 ≤ z1 * u := Int.mul_nonneg (by omega) (by omega)
  omega
theorem par_succ (i : Nat) : ((i + 1) % 2 == 0) = !(i % 2 == 0) := by
  rcases Nat.mod_two_eq_zero_or_one i with h | h
  · have : (i + 1) % 2 = 1 := by omega
    rw [h, this]; rfl
  · have : (i + 1) % 2 = 0 := by omega
    rw [h, this]; rfl
theorem quo_pos {quo r : Int} (v0 : 0 < v) (vu : v < u) (e : u = quo * v + r) (r1 : r < v) : 1 ≤ quo := by
  rcases Int.lt_or_le quo 1 with h | h
  · have : quo * v ≤ 0 * v := Int.mul_le_mul_of_nonneg_right (by omega) (by omega)
    omega
  · exact h
/-- a rest: one size more -/
theorem Run.next {quo r : Int} (h : Run P q i z1 z2 u v) (e : u = quo * v + r) (r0 : 0 < r) (r1 : r < v) :
    Link P q i z1 (quo * z1 + z2) ∧ Run P q (i + 1) (quo * z1 + z2) z1 v r := by
  obtain ⟨c1, e1⟩ := h.h1
  obtain ⟨c2, e2⟩ := h.h2
  have qp := quo_pos h.v0 h.vu e r1
  have a := h.p1; have b := h.p2; have v0 := h.v0
  have hq1 : 1 * z1 ≤ quo * z1 := Int.mul_le_mul_of_nonneg_right qp (by omega)
  have hs : (quo * z1 + z2) * v + z1 * r = q := by
    rw [← h.sum, e, Int.add_mul, Int.mul_add]
    have : quo * z1 * v = z1 * (quo * v) := by rw [Int.mul_comm quo z1, Int.mul_assoc]
    omega
  have eb : (quo * z1 + z2) * P = (quo * c1 + c2) * q + (if (i % 2 == 0) then -r else r) := by
    rw [Int.add_mul, Int.mul_assoc, e1, e2, Int.mul_add, Int.add_mul]
    have : quo * (c1 * q) = quo * c1 * q := (Int.mul_assoc _ _ _).symm
    cases hp : (i % 2 == 0) with
    | true => simp only [if_true]; omega
    | false => simp only [Bool.false_eq_true, if_false, Int.mul_neg]; omega
  refine ⟨⟨v, r, c1, quo * c1 + c2, ⟨e1, eb, hs, v0, by omega, by omega, fun _ => r0, fun _ => r1, a, by omega⟩⟩, ?_⟩
  refine ⟨r0, r1, hs, ⟨_, by rw [eb, par_succ]; congr 1; cases hp : (i % 2 == 0) <;> simp⟩, ⟨_, by rw [e1, par_succ]; congr 1; cases hp : (i % 2 == 0) <;> simp⟩, by omega, by omega, ?_, ?_⟩
  · have := h.f1; have := h.f2
    show fb (i + 1) + fb i ≤ quo * z1 + z2
    omega
  · exact h.f1
/-- no rest, at an odd place -/
theorem Run.lastOdd {quo : Int} (h : Run P q i z1 z2 u v) (hi : (i % 2 == 0) = false) (e : u = quo * v) : Link P q i z1 (quo * z1 + z2) ∧ ∃ c, (quo * z1 + z2) * P = c * q := by
  obtain ⟨c1, e1⟩ := h.h1
  obtain ⟨c2, e2⟩ := h.h2
  have v0 := h.v0
  have qp : 1 ≤ quo := quo_pos (r := 0) h.v0 h.vu (by rw [Int.add_zero]; exact e) v0
  have a := h.p1; have b := h.p2
  have hq1 : 1 * z1 ≤ quo * z1 := Int.mul_le_mul_of_nonneg_right qp (by omega)
  rw [hi] at e1 e2
  simp only [Bool.false_eq_true, if_false] at e1 e2
  have hs : (quo * z1 + z2) * v + z1 * 0 = q := by
    rw [← h.sum, e, Int.add_mul]
    have : quo * z1 * v = z1 * (quo * v) := by rw [Int.mul_comm quo z1, Int.mul_assoc]
    omega
  have eb : (quo * z1 + z2) * P = (quo * c1 + c2) * q := by
    rw [Int.add_mul, Int.mul_assoc, e1, e2, Int.mul_add, Int.add_mul]
    have : quo * (c1 * q) = quo * c1 * q := (Int.mul_assoc _ _ _).symm
    simp only [Int.mul_neg]; omega
  refine ⟨⟨v, 0, c1, quo * c1 + c2, ⟨?_, ?_, hs, v0, by omega, by omega, fun x => ?_, fun _ => v0, a, by omega⟩⟩, _, eb⟩
  · rw [hi]; simp only [Bool.false_eq_true, if_false]; exact e1
  · rw [hi]; simp only [Bool.false_eq_true, if_false]; rw [eb]; omega
  · rw [hi] at x; cases x
/-- no rest, at an even place: the last quotient is split -/
theorem Run.lastEven {quo : Int} (h : Run P q i z1 z2 u v) (hi : (i % 2 == 0) = true) (e : u = quo * v) :
    Link P q i z1 ((quo - 1) * z1 + z2) ∧ Link P q (i + 1) ((quo - 1) * z1 + z2) (1 * ((quo - 1) * z1 + z2) + z1) ∧ ∃ c, (1 * ((quo - 1) * z1 + z2) + z1) * P = c * q := by
  obtain ⟨c1, e1⟩ := h.h1
  obtain ⟨c2, e2⟩ := h.h2
  have v0 := h.v0
  have q2 : 2 ≤ quo := by
    rcases Int.lt_or_le quo 2 with hh | hh
    · have : quo * v ≤ 1 * v := Int.mul_le_mul_of_nonneg_right (by omega) (by omega)
      have := h.vu; omega
    · exact hh
  have a := h.p1; have b := h.p2
  have hq1 : 1 * z1 ≤ (quo - 1) * z1 := Int.mul_le_mul_of_nonneg_right (by omega) (by omega)
  rw [hi] at e1 e2
  simp only [if_true] at e1 e2
  have k1 : (quo - 1) * z1 * v = z1 * (quo * v) - z1 * v := by
    rw [Int.sub_mul, Int.sub_mul, Int.one_mul, Int.mul_comm quo z1, Int.mul_assoc]
  have hs : ((quo - 1) * z1 + z2) * v + z1 * v = q := by
    rw [← h.sum, e, Int.add_mul, k1]; omega
  have eA : ((quo - 1) * z1 + z2) * P = ((quo - 1) * c1 + c2) * q + -v := by
    rw [Int.add_mul, Int.mul_assoc, e1, e2, Int.mul_add, Int.add_mul]
    have : (quo - 1) * (c1 * q) = (quo - 1) * c1 * q := (Int.mul_assoc _ _ _).symm
    have : (quo - 1) * v = quo * v - v := by rw [Int.sub_mul, Int.one_mul]
    omega
  have hi' : ((i + 1) % 2 == 0) = false := by rw [par_succ, hi]; rfl
  have hA : 1 ≤ (quo - 1) * z1 + z2 := by omega
  generalize (quo - 1) * z1 + z2 = A at *
  generalize (quo - 1) * c1 + c2 = cA at eA
  have eB : (1 * A + z1) * P = (cA + c1) * q := by
    rw [Int.one_mul, Int.add_mul, eA, e1, Int.add_mul]; omega
  refine ⟨⟨v, v, c1, cA, ⟨?_, ?_, hs, v0, by omega, by omega, fun _ => v0, fun x => ?_, a, by omega⟩⟩, ⟨v, 0, cA, cA + c1, ⟨?_, ?_, ?_, v0, by omega, by omega, fun x => ?_, fun _ => v0, by omega, by omega⟩⟩, _, eB⟩
  · rw [hi]; simp only [if_true]; exact e1
  · rw [hi]; simp only [if_true]; exact eA
  · rw [hi] at x; cases x
  · rw [hi']; simp only [Bool.false_eq_true, if_false]; exact eA
  · rw [hi']; simp only [Bool.false_eq_true, if_false]; rw [eB]; omega
  · rw [Int.one_mul, Int.add_mul]; omega
  · rw [hi'] at x; cases x
end

/-- the list of sizes and what is left, after i turns; σ the sign of both -/
structure SInv (σ P q : Int) (i : Nat) (sz : List Int) (U V : Int) : Prop where
  sg : σ = 1 ∨ σ = -1
  qpos : 0 < q
  head : sz.getD 0 0 = 1
  ne : 0 < sz.length
  link : ∀ k, k + 1 < sz.length → Link P q k (sz.getD k 0) (sz.getD (k + 1) 0)
  st : (V = 0 ∧ ∃ c, sz.getD (sz.length - 1) 0 * P = c * q) ∨ (V ≠ 0 ∧ sz.length = i + 1 ∧ ∃ u v, U = σ * u ∧ V = σ * v ∧ Run P q i (sz.getD i 0) ((0 :: sz).getD i 0) u v)
theorem SInv.start {σ P q : Int} (sg : σ = 1 ∨ σ = -1) (h0 : 0 ≤ P) (h1 : P < q) : SInv σ P q 0 [1] (σ * q) (σ * P) := by
  refine ⟨sg, by omega, rfl, by simp, fun k hk => by simp at hk, ?_⟩
  rcases Int.lt_trichotomy P 0 with h | h | h
  · omega
  · left
    subst h
    exact ⟨by rw [Int.mul_zero], 0, by simp⟩
  · right
    refine ⟨fun e => ?_, rfl, q, P, rfl, rfl, ⟨h, h1, ?_, ⟨0, ?_⟩, ⟨1, ?_⟩, ?_, ?_, ?_, ?_⟩⟩
    · rcases sg with rfl | rfl <;> omega
    · show 1 * q + 0 * P = q; omega
    · show 1 * P = 0 * q + P; omega
    · show 0 * P = 1 * q + -q; omega
    · show (1 : Int) ≤ 1; omega
    · show (0 : Int) ≤ 0; omega
    · show (1 : Int) ≤ 1; omega
    · show (0 : Int) ≤ 0; omega
theorem getD_app {l r : List Int} {k : Nat} (h : k < l.length) : (l ++ r).getD k 0 = l.getD k 0 := by
  simp only [List.getD_eq_getElem?_getD]
  rw [List.getElem?_append_left h]
theorem getD_app_len {l r : List Int} {k : Nat} (h : l.length ≤ k) : (l ++ r).getD k 0 = r.getD (k - l.length) 0 := by
  simp only [List.getD_eq_getElem?_getD]
  rw [List.getElem?_append_right h]
/-- a turn with nothing left -/
theorem SInv.idle {σ P q U : Int} {i : Nat} {sz : List Int} (h : SInv σ P q i sz U 0) : SInv σ P q (i + 1) sz U 0 :=
  ⟨h.sg, h.qpos, h.head, h.ne, h.link, .inl ⟨rfl, by rcases h.st with h | h; exact h.2; exact absurd rfl h.1⟩⟩
/-- what stands at a turn that divides -/
theorem SInv.run {σ P q U V : Int} {i : Nat} {sz : List Int} (h : SInv σ P q i sz U V) (hv : V ≠ 0) : sz.length = i + 1 ∧ ∃ u v, U = σ * u ∧ V = σ * v ∧ Run P q i (sz.getD i 0) ((0 :: sz).getD i 0) u v := by
  rcases h.st with h | h
  · exact absurd h.1 hv
  · exact h.2
theorem SInv.link1 {σ P q U V A : Int} {i : Nat} {sz : List Int} (h : SInv σ P q i sz U V) (hl : sz.length = i + 1) (L : Link P q i (sz.getD i 0) A) : ∀ k, k + 1 < (sz ++ [A]).length → Link P q k ((sz ++ [A]).getD k 0) ((sz ++ [A]).getD (k + 1) 0) := by
  intro k hk
  rw [List.length_append, List.length_singleton] at hk
  rcases Nat.lt_or_ge (k + 1) sz.length with hlt | hge
  · rw [getD_app (by omega), getD_app hlt]; exact h.link k hlt
  · have : k = i := by omega
    subst this
    rw [getD_app (by omega), getD_app_len (by omega), hl, Nat.sub_self]
    exact L
theorem SInv.head1 {σ P q U V : Int} {i : Nat} {sz r : List Int} (h : SInv σ P q i sz U V) : (sz ++ r).getD 0 0 = 1 := by rw [getD_app h.ne]; exact h.head
/-- the sign out of the division -/
theorem sign_out {σ u v U V quo rest : Int} (sg : σ = 1 ∨ σ = -1) (hU : U = σ * u) (hV : V = σ * v) (e : U = quo * V + rest) (hr : (0 ≤ rest ∧ rest < V) ∨ (V < rest ∧ rest ≤ 0)) (v0 : 0 < v) : u = quo * v + σ * rest ∧ 0 ≤ σ * rest ∧ σ * rest < v ∧ rest = σ * (σ * rest) := by
  rcases sg with rfl | rfl
  · rw [Int.one_mul] at hU hV
    subst hU hV
    simp only [Int.one_mul]
    exact ⟨e, by omega, by omega, trivial⟩
  · rw [Int.neg_mul, Int.one_mul] at hU hV
    subst hU hV
    rw [Int.mul_neg] at e
    simp only [Int.neg_mul, Int.one_mul, Int.neg_neg]
    exact ⟨by omega, by omega, by omega, trivial⟩
/-- a turn that leaves a rest, or none at an odd place: one size more -/
theorem SInv.one {σ P q U V quo rest : Int} {i : Nat} {sz : List Int} (h : SInv σ P q i sz U V) (hv : V ≠ 0) (e : U = quo * V + rest) (hr : (0 ≤ rest ∧ rest < V) ∨ (V < rest ∧ rest ≤ 0)) (hodd : rest = 0 → (i % 2 == 0) = false) :
    SInv σ P q (i + 1) (sz ++ [quo * sz.getD i 0 + (0 :: sz).getD i 0]) V rest := by
  obtain ⟨hl, u, v, hU, hV, R⟩ := h.run hv
  obtain ⟨x1, x2, x3, x4⟩ := sign_out h.sg hU hV e hr R.v0
  have hlen : (sz ++ [quo * sz.getD i 0 + (0 :: sz).getD i 0]).length = i + 2 := by simp [hl]
  rcases Int.lt_or_le 0 (σ * rest) with hp | hp
  · have ⟨L, R'⟩ := R.next x1 hp x3
    refine ⟨h.sg, h.qpos, h.head1, by omega, h.link1 hl L, .inr ⟨fun e0 => ?_, hlen, v, σ * rest, hV, x4, ?_⟩⟩
    · rw [e0, Int.mul_zero] at hp; omega
    · rw [getD_app_len (by omega), hl, Nat.sub_self]
      have : (0 :: (sz ++ [quo * sz.getD i 0 + (0 :: sz).getD i 0])).getD (i + 1) 0 = sz.getD i 0 := by
        show (sz ++ [quo * sz.getD i 0 + (0 :: sz).getD i 0]).getD i 0 = sz.getD i 0
        exact getD_app (by omega)
      rw [this]
      exact R'
  · have hr0 : rest = 0 := by rw [x4, show σ * rest = 0 by omega, Int.mul_zero]
    subst hr0
    have ⟨L, c⟩ := R.lastOdd (quo := quo) (hodd rfl) (by rw [Int.mul_zero, Int.add_zero] at x1; exact x1)
    refine ⟨h.sg, h.qpos, h.head1, by omega, h.link1 hl L, .inl ⟨rfl, ?_⟩⟩
    rw [hlen, getD_app_len (by omega), hl, show i + 2 - 1 - (i + 1) = 0 by omega]
    exact c
/-- a turn that leaves none at an even place: two sizes more -/
theorem SInv.two {σ P q U V quo : Int} {i : Nat} {sz : List Int} (h : SInv σ P q i sz U V) (hv : V ≠ 0) (e : U = quo * V + 0) (hev : (i % 2 == 0) = true) :
    SInv σ P q (i + 1) (sz ++ [(quo - 1) * sz.getD i 0 + (0 :: sz).getD i 0] ++ [1 * ((quo - 1) * sz.getD i 0 + (0 :: sz).getD i 0) + sz.getD i 0]) V 0 := by
  obtain ⟨hl, u, v, hU, hV, R⟩ := h.run hv
  obtain ⟨x1, _, _, _⟩ := sign_out h.sg hU hV e (by rcases h.sg with rfl | rfl <;> (rw [hV]; have := R.v0; omega)) R.v0
  rw [Int.mul_zero, Int.add_zero] at x1
  have ⟨L1, L2, c⟩ := R.lastEven (quo := quo) hev x1
  have l1 := h.link1 hl L1
  generalize hA : (quo - 1) * sz.getD i 0 + (0 :: sz).getD i 0 = A at *
  generalize hB : 1 * A + sz.getD i 0 = B at *
  have hlen1 : (sz ++ [A]).length = i + 2 := by simp [hl]
  have hlen : (sz ++ [A] ++ [B]).length = i + 3 := by simp [hl]
  refine ⟨h.sg, h.qpos, ?_, by omega, ?_, .inl ⟨rfl, ?_⟩⟩
  · rw [getD_app (by omega)]; exact h.head1
  · intro k hk
    rw [hlen] at hk
    rcases Nat.lt_or_ge (k + 1) (i + 2) with hlt | hge
    · rw [getD_app (l := sz ++ [A]) (r := [B]) (k := k) (by omega), getD_app (l := sz ++ [A]) (r := [B]) (k := k + 1) (by omega)]
      exact l1 k (by omega)
    · have : k = i + 1 := by omega
      subst this
      rw [getD_app (l := sz ++ [A]) (r := [B]) (k := i + 1) (by omega), getD_app_len (l := sz) (r := [A]) (by omega), getD_app_len (l := sz ++ [A]) (r := [B]) (by omega), hlen1, hl]
      simpa using L2
  · rw [hlen, getD_app_len (by omega), hlen1, show i + 3 - 1 - (i + 2) = 0 by omega]
    exact c
theorem SInv.fin {σ P q U V : Int} {sz : List Int} (h : SInv σ P q 8 sz U V) : SizesOk P q sz := by
  refine ⟨h.qpos, h.head, h.ne, h.link, ?_⟩
  rcases h.st with ⟨_, hc⟩ | ⟨_, hl, u, v, _, _, R⟩
  · exact .inl hc
  · right
    refine ⟨by omega, ?_⟩
    have f1 : fb 9 ≤ sz.getD 8 0 := R.f1
    have f2 := R.f2
    have e1 : fb 9 = 34 := by decide
    have e2 : fb 8 = 21 := by decide
    rw [hl]
    have : (0 :: sz).getD 8 0 = sz.getD 7 0 := rfl
    rw [this] at f2
    show 55 ≤ sz.getD 7 0 + sz.getD 8 0
    omega
end Mine
end
section
open PySem PySem.W PyProof.Rows PySem.Calls
set_option Elab.async false
set_option maxRecDepth 100000
set_option maxHeartbeats 8000000
set_option pp.deepTerms.threshold 6
local macro_rules | `(tactic| omega) => `(tactic| lia)
namespace Mine
open Builtin.Int (intBits)
local macro_rules | `(tactic| walk_at "call ref") => `(tactic| refine Stop.mk ?_)
local macro_rules | `(tactic| walk_at "binaryOp Mult int int") => `(tactic| refine Stop.mk ?_)
local macro_rules | `(tactic| walk_at "call builtin:len") => `(tactic| refine Stop.mk ?_)
local macro_rules | `(tactic| walk_at "call builtin:list.append") => `(tactic| refine Stop.mk ?_)
local macro_rules | `(tactic| walk_at "pyIter ref") => `(tactic| refine Stop.mk ?_)
local macro_rules | `(tactic| walk_at "UnrPost") => `(tactic| refine Stop.mk ?_)
theorem reg10 : True := by
  k_with "enterV" => (refine wpAny_call ?_; w_on; k_dflt (refine' code_defY ?k1 ?k2 ?k3 ?k4 ?k5 ?kA ?kF ?kK ?k6 ?k7 ?k8 ?k9 ?kB ?_ ?c2 ?c3 ?c4 ?c5; (case kA => exact rfl); (case kF => exact rfl); (case kK => assumption); (case k1 => k_asm); (case k2 => k_asm); (case k3 => k_asm); (case k4 => k_asm); (case k5 => k_asm); (case k6 => k_is); (case k7 => k_is); (case k8 => (simp only [recursionLimit]; omega)); (case k9 => exact BindsTo.of_eq rfl); (case c5 => decide); (case kB => exact locs rfl); (case c2 => exact rfl); (case c3 => exact rfl); (case c4 => exact rfl); k_whole; intro g' L' h' KB' SZ' F' N' B' X' T' l1; (try k_lt l1); (try dsimp only); (try k_fold)))
  trivial
theorem bits_le_q {z q : Int} (h0 : z.natAbs ≤ q.natAbs) {m : Nat} (h : intBits q ≤ m) : intBits z ≤ m := intBits_le_of_natAbs h0 h
theorem sg_abs {σ u : Int} (sg : σ = 1 ∨ σ = -1) : (σ * u).natAbs = u.natAbs := by
  rcases sg with rfl | rfl
  · rw [Int.one_mul]
  · rw [Int.neg_mul, Int.one_mul, Int.natAbs_neg]
theorem sizes_con (w : World) (c7 c3 : Addr) (σ P q : Int) (sg : σ = 1 ∨ σ = -1) (h0 : 0 ≤ P) (h1 : P < q) (hbq : intBits q ≤ 2097152) (U0 V0 : Int) (hU0 : U0 = σ * q) (hV0 : V0 = σ * P) (t1 t2 : Tok) :
    Con w 77 [.int U0 t1, .int V0 t2] 40 [37, 30] (fun h => (Full h 37 47 4 c7 ∧ Full h 30 32 4 c3) ∧ h.CodeRec (.ref c7) qD ∧ h.CodeRec (.ref c3) qI) (fun h r h' => (Full h' 37 47 4 c7 ∧ Full h' 30 32 4 c3) ∧ ∃ sz, ListAt h r h' sz ∧ SizesOk P q sz ∧ sz.length ≤ 10) := by
  unfold Con
  k_fill
  intro dp un gd cn cs fa ccd cl outer A₀ base h₀ L m s p loose mean mg mb Q E B F X T NS CA hk hd hu has hpre hret
  have N : News h₀ L s.heap [(37, tabObj #[rawInt 47, rawInt 4, .ref c7]), (30, tabObj #[rawInt 32, rawInt 4, .ref c3])] := news_cons hpre.1.1 (has 37 (.head _)) (news_cons hpre.1.2 (has 30 (.tail _ (.head _))) News.nil)
  have Nc := N
  k_extra "enterV"
  have hr7 := codeRec_in KB' Nc (.tab3 (.tab3 .nil)) hpre.2.1
  have hr3 := codeRec_in KB' Nc (.tab3 (.tab3 .nil)) hpre.2.2
  clear B F X T N Nc
  k_steps
  rename_i Dz _ lz _ _ _ _ _ _ _ _ hr F2 N2 _
  refine Stop.go ?_
  k_dflt (refine iter_rangeUnr (n := 8) rfl hr (rng_small (by omega) (by omega) (by omega) (by omega)) (rng_size (by decide)) F2 N2 ?_)
  intro It lI
  k_lt lI
  refine range_start (σ := List Value × List Int × Nat × Int × Tok × Int × Tok) (fun c => [(Dz, listOf c.1.toArray c.2.2.1), (37, tabObj #[rawInt 47, rawInt 4, .ref c7]), (30, tabObj #[rawInt 32, rawInt 4, .ref c3])])
    (fun c => [(Str.ofString "upper", .int c.2.2.2.1 c.2.2.2.2.1), (Str.ofString "lower", .int c.2.2.2.2.2.1 c.2.2.2.2.2.2)]) [Str.ofString "turn", Str.ofString "quotient", Str.ofString "rest"]
    (fun i c => IntsAre c.1 (0 :: c.2.1) ∧ SInv σ P q i c.2.1 c.2.2.2.1 c.2.2.2.2.2.1 ∧ c.2.1.length ≤ i + 2 ∧ (c.2.2.2.2.2.1 ≠ 0 → c.2.1.length ≤ i + 1)) ([_, _], [1], 0, U0, _, V0, _) (by kst_all) ⟨.cons _ _ (.cons _ _ .nil), by rw [hU0, hV0]; exact SInv.start sg h0 h1, by simp, by simp⟩ ?turn ?done
  case turn =>
    rintro i ⟨vz, sz, cap, U, tU, V, tV⟩ u it t h tk hi ⟨Iz, hv, hlen, hlen2⟩ hit F3 N3
    clear F2 N2 hr
    dsimp only at hv Iz N3 hlen hlen2
    dsimp only [stM, kstB] at F3
    change Fr g' L' h _ at F3
    change News g' L' h _ at N3
    k_steps
    · have hV : V ≠ 0 := by assumption
      obtain ⟨hl, uu, vv, hUe, hVe, R⟩ := hv.run hV
      have hbd := R.bounds
      have hv0 := R.v0
      have hvu := R.vu
      have bU : intBits U ≤ 2097152 := bits_le_q (by rw [hUe, sg_abs sg]; omega) hbq
      have bV : intBits V ≤ 2097152 := bits_le_q (by rw [hVe, sg_abs sg]; omega) hbq
      refine Stop.go ?_
      k_dflt (refine con_use (idm_F w c7 c3 U V _ _ hV (by omega) (by omega)) (by k_asm) F3 (by k_asm) (by k_asm) NS CA rfl (by show dp + 1 + 35 < 880; omega) (by show un + 3 + 8 * 35 < 9800; omega) (by exact ⟨⟨N3.get (by k_mem), N3.get (by k_mem)⟩, hr7.keeps F3.keep, hr3.keeps F3.keep⟩) (fun a ha => by
        rcases List.mem_cons.mp ha with rfl | ha
        · exact (N3 (37, tabObj #[rawInt 47, rawInt 4, .ref c7]) (by k_mem)).2
        · rw [List.mem_singleton.mp ha]; exact (N3 (30, tabObj #[rawInt 32, rawInt 4, .ref c3]) (by k_mem)).2) ?_)
      intro rv h5 tk5 K5 F5 po
      obtain ⟨⟨f7, f3⟩, quo, rest, ⟨D9, tq, tr, nn, rfl, nD, gD⟩, hdm⟩ := po
      dsimp only at K5 nD
      have l9 := allNe_of (news_ne N3 nD)
      simp only [AllNe, and_true] at l9
      have lo : ∀ a : Nat, a ∈ [37, 30] → a = 37 ∨ a = 30 := fun a ha => by simpa using ha
      have N5 : News g' L' h5 [(D9, { cls := .type "tuple", data := .seq #[.int quo tq, .int rest tr] nn }), (It, it), (Dz, listOf vz.toArray cap), (37, tabObj #[rawInt 47, rawInt 4, .ref c7]), (30, tabObj #[rawInt 32, rawInt 4, .ref c3])] :=
        news_cons gD (off_new F3 nD) (news_cons (K5 It _ (fun hm => by have := lo _ hm; omega) (N3.get (by k_mem))) (N3 (It, it) (by k_mem)).2 (news_cons (K5 Dz _ (fun hm => by have := lo _ hm; omega) (N3.get (by k_mem))) (N3 (Dz, listOf vz.toArray cap) (by k_mem)).2
          (news_cons f7 (N3 (37, tabObj #[rawInt 47, rawInt 4, .ref c7]) (by k_mem)).2 (news_cons f3 (N3 (30, tabObj #[rawInt 32, rawInt 4, .ref c3]) (by k_mem)).2 News.nil))))
      clear N3 F3 nD gD f7 f3 K5
      have hvz : vz.toArray.size = i + 2 := by rw [List.size_toArray, Iz.length, List.length_cons, hl]
      have ez1 : (0 :: sz).getD (-1 + ((0 :: sz).length : Int)).toNat 0 = sz.getD i 0 := by
        rw [show (-1 + ((0 :: sz).length : Int)).toNat = i + 1 by rw [List.length_cons, hl]; omega]; rfl
      have ez2 : (0 :: sz).getD (-2 + ((0 :: sz).length : Int)).toNat 0 = (0 :: sz).getD i 0 := by
        rw [show (-2 + ((0 :: sz).length : Int)).toNat = i by rw [List.length_cons, hl]; omega]
      have hso := sign_out sg hUe hVe hdm.1 hdm.2 hv0
      have hqp := quo_pos hv0 hvu hso.1 hso.2.2.1
      have hqle : quo ≤ q := by
        have x1 : quo * 1 ≤ quo * vv := Int.mul_le_mul_of_nonneg_left (by omega) (by omega)
        omega
      have bquo : intBits quo ≤ 2097152 := bits_le_q (by omega) hbq
      have bquo1 : intBits (quo - 1) ≤ 2097152 := bits_le_q (by omega) hbq
      have hz1p := R.p1
      have hz2p := R.p2
      have bz1 : intBits (sz.getD i 0) ≤ 2097152 := bits_le_q (by omega) hbq
      k_steps
      · rename News _ _ _ _ => Nq
        rename Fr _ _ _ _ => Fq
        refine Stop.go (call_len_list (News.isList Nq (n := cap) (by k_mem)) (by rw [hvz]; omega) ?_)
        rw [hvz]
        k_steps
        · have hr0 : rest = 0 := by assumption
          have hf : ((i + 2 : Nat) : Int).fmod 2 = 0 := by assumption
          rw [Int.fmod_eq_emod_of_nonneg _ (by decide)] at hf
          have hev : (i % 2 == 0) = true := by simp; omega
          rw [ez1]
          refine Stop.go (op_mul (j := 2097152) (k := 2097152) bquo1 bz1 (by omega) ?_)
          intro a1 ha1
          have ba1 : intBits a1 ≤ 4194304 := by rw [ha1]; exact intBits_mul_le (m := 2097152) (n := 2097152) bquo1 bz1
          have bz2 : intBits ((0 :: sz).getD i 0) ≤ 2097152 := bits_le_q (by omega) hbq
          have bA : intBits (a1 + (0 :: sz).getD i 0) ≤ 4194305 := Nat.le_trans (intBits_add_le ba1 bz2) (by omega)
          k_steps
          rw [ez2]
          rename News _ _ _ _ => N6
          rename Fr _ _ _ _ => F6
          refine Stop.go ?_
          try dsimp only [List.cons_append, List.nil_append]
          k_dflt (refine' append_K (its := vz.toArray) (n := cap) F6 N6 ?k3 ?_ ?z; (case k3 => k_upd); (case z => rw [sizeLine_eq]; omega))
          intro h8 F8 N8
          rw [List.push_toArray] at N8
          generalize htA : Value.int (a1 + (0 :: sz).getD i 0) _ = vA at N8
          have Iz2 : IntsAre (vz ++ [vA]) (0 :: (sz ++ [a1 + (0 :: sz).getD i 0])) := by rw [← htA]; exact Iz.append (.cons _ _ .nil)
          generalize hA : a1 + (0 :: sz).getD i 0 = A at *
          have hvz2 : (vz ++ [vA]).toArray.size = i + 3 := by rw [List.size_toArray, Iz2.length]; simp [hl]
          have ey1 : (0 :: (sz ++ [A])).getD (-1 + ((0 :: (sz ++ [A])).length : Int)).toNat 0 = A := by
            rw [show (-1 + ((0 :: (sz ++ [A])).length : Int)).toNat = i + 1 + 1 by rw [List.length_cons, List.length_append, List.length_singleton, hl]; omega]
            show (sz ++ [A]).getD (i + 1) 0 = A
            rw [getD_app_len (by omega), hl, Nat.sub_self]; rfl
          have ey2 : (0 :: (sz ++ [A])).getD (-2 + ((0 :: (sz ++ [A])).length : Int)).toNat 0 = sz.getD i 0 := by
            rw [show (-2 + ((0 :: (sz ++ [A])).length : Int)).toNat = i + 1 by rw [List.length_cons, List.length_append, List.length_singleton, hl]; omega]
            show (sz ++ [A]).getD i 0 = _
            rw [getD_app (by omega)]
          clear Iz
          k_steps
          rw [ey1]
          refine Stop.go (op_mul (j := 64) (k := 4194305) (by decide) bA (by omega) ?_)
          intro a2 ha2
          k_steps
          rw [ey2]
          rename News _ _ _ _ => N7
          rename Fr _ _ _ _ => F7
          refine Stop.go ?_
          try dsimp only [List.cons_append, List.nil_append]
          k_dflt (refine' append_K (its := (vz ++ [vA]).toArray) (n := cap + 1) F7 N7 ?k3 ?_ ?z; (case k3 => k_upd); (case z => rw [sizeLine_eq]; omega))
          intro h9 F9 N9
          rw [List.push_toArray] at N9
          k_steps
          refine Stop.go ?_
          show UnrEnd _ _ _ _ _ _ _
          rename News _ _ _ _ => N10
          rename Fr _ _ _ _ => F10
          subst hr0
          refine UnrEnd.intro F10 N10 [(Dz, listOf (vz ++ [vA] ++ [_]).toArray (cap + 1 + 1)), (37, tabObj #[rawInt 47, rawInt 4, .ref c7]), (30, tabObj #[rawInt 32, rawInt 4, .ref c3])] (List.forall_mem_cons.mpr ⟨by k_mem, List.forall_mem_cons.mpr ⟨by k_mem, List.forall_mem_cons.mpr ⟨by k_mem, List.forall_mem_cons.mpr ⟨by k_mem, List.forall_mem_nil _⟩⟩⟩⟩) ?off ⟨(vz ++ [vA] ++ [_], sz ++ [A] ++ [1 * A + sz.getD i 0], cap + 1 + 1, V, tV, 0, tr), rfl, by kst_all, by ksw_same, ?_, ?_, ?_, ?_⟩
          case off => exact List.forall_mem_cons.mpr ⟨Nat.ne_of_lt lI.1, List.forall_mem_cons.mpr ⟨Nat.ne_of_lt lI.2.1, List.forall_mem_cons.mpr ⟨Nat.ne_of_lt lI.2.2, List.forall_mem_nil _⟩⟩⟩
          · rw [ha2]; exact Iz2.append (.cons _ _ .nil)
          · rw [← hA, ha1]; exact hv.two hV hdm.1 hev
          · show (sz ++ [_] ++ [_]).length ≤ _; simp [hl]
          · intro x; exact absurd rfl x
        · have hr0 : rest = 0 := by assumption
          have hf : ((i + 2 : Nat) : Int).fmod 2 ≠ 0 := by assumption
          rw [Int.fmod_eq_emod_of_nonneg _ (by decide)] at hf
          have hodd : (i % 2 == 0) = false := by simp; omega
          rw [ez1]
          refine Stop.go (op_mul (j := 2097152) (k := 2097152) bquo bz1 (by omega) ?_)
          intro a1 ha1
          k_steps
          rw [ez2]
          rename News _ _ _ _ => N6
          rename Fr _ _ _ _ => F6
          refine Stop.go ?_
          try dsimp only [List.cons_append, List.nil_append]
          k_dflt (refine' append_K (its := vz.toArray) (n := cap) F6 N6 ?k3 ?_ ?z; (case k3 => k_upd); (case z => rw [sizeLine_eq]; omega))
          intro h8 F8 N8
          rw [List.push_toArray] at N8
          rw [ha1] at N8
          k_steps
          refine Stop.go ?_
          show UnrEnd _ _ _ _ _ _ _
          rename News _ _ _ _ => N9
          rename Fr _ _ _ _ => F9
          refine UnrEnd.intro F9 N9 [(Dz, listOf (vz ++ [_]).toArray (cap + 1)), (37, tabObj #[rawInt 47, rawInt 4, .ref c7]), (30, tabObj #[rawInt 32, rawInt 4, .ref c3])] (List.forall_mem_cons.mpr ⟨by k_mem, List.forall_mem_cons.mpr ⟨by k_mem, List.forall_mem_cons.mpr ⟨by k_mem, List.forall_mem_cons.mpr ⟨by k_mem, List.forall_mem_nil _⟩⟩⟩⟩) ?off ⟨(vz ++ [_], sz ++ [quo * sz.getD i 0 + (0 :: sz).getD i 0], cap + 1, V, tV, rest, tr), rfl, by kst_all, by ksw_same, ?_, ?_, ?_, ?_⟩
          case off => exact List.forall_mem_cons.mpr ⟨Nat.ne_of_lt lI.1, List.forall_mem_cons.mpr ⟨Nat.ne_of_lt lI.2.1, List.forall_mem_cons.mpr ⟨Nat.ne_of_lt lI.2.2, List.forall_mem_nil _⟩⟩⟩
          · exact Iz.append (.cons _ _ .nil)
          · exact hv.one hV hdm.1 hdm.2 (fun _ => hodd)
          · show (sz ++ [_]).length ≤ _; simp [hl]
          · intro _; show (sz ++ [_]).length ≤ _; simp [hl]
      · skip
        rw [ez1]
        refine Stop.go (op_mul (j := 2097152) (k := 2097152) bquo bz1 (by omega) ?_)
        intro a1 ha1
        k_steps
        rw [ez2]
        rename News _ _ _ _ => N6
        rename Fr _ _ _ _ => F6
        refine Stop.go ?_
        try dsimp only [List.cons_append, List.nil_append]
        k_dflt (refine' append_K (its := vz.toArray) (n := cap) F6 N6 ?k3 ?_ ?z; (case k3 => k_upd); (case z => rw [sizeLine_eq]; omega))
        intro h8 F8 N8
        rw [List.push_toArray] at N8
        rw [ha1] at N8
        k_steps
        refine Stop.go ?_
        show UnrEnd _ _ _ _ _ _ _
        rename News _ _ _ _ => N9
        rename Fr _ _ _ _ => F9
        refine UnrEnd.intro F9 N9 [(Dz, listOf (vz ++ [_]).toArray (cap + 1)), (37, tabObj #[rawInt 47, rawInt 4, .ref c7]), (30, tabObj #[rawInt 32, rawInt 4, .ref c3])] (List.forall_mem_cons.mpr ⟨by k_mem, List.forall_mem_cons.mpr ⟨by k_mem, List.forall_mem_cons.mpr ⟨by k_mem, List.forall_mem_cons.mpr ⟨by k_mem, List.forall_mem_nil _⟩⟩⟩⟩) ?off ⟨(vz ++ [_], sz ++ [quo * sz.getD i 0 + (0 :: sz).getD i 0], cap + 1, V, tV, rest, tr), rfl, by kst_all, by ksw_same, ?_, ?_, ?_, ?_⟩
        case off => exact List.forall_mem_cons.mpr ⟨Nat.ne_of_lt lI.1, List.forall_mem_cons.mpr ⟨Nat.ne_of_lt lI.2.1, List.forall_mem_cons.mpr ⟨Nat.ne_of_lt lI.2.2, List.forall_mem_nil _⟩⟩⟩
        · exact Iz.append (.cons _ _ .nil)
        · exact hv.one hV hdm.1 hdm.2 (fun x => absurd x (by assumption))
        · show (sz ++ [_]).length ≤ _; simp [hl]
        · intro _; show (sz ++ [_]).length ≤ _; simp [hl]
    · have hV : V = 0 := by assumption
      subst hV
      refine Stop.go ?_
      show UnrEnd _ _ _ _ _ _ _
      refine UnrEnd.intro F3 N3 _ (fun p hp => hp) ?off ⟨(vz, sz, cap, U, tU, 0, tV), rfl, by kst_all, by ksw_same, Iz, hv.idle, Nat.le_succ_of_le hlen, fun x => absurd rfl x⟩
      case off => exact List.forall_mem_cons.mpr ⟨Nat.ne_of_lt lI.1, List.forall_mem_cons.mpr ⟨Nat.ne_of_lt lI.2.1, List.forall_mem_cons.mpr ⟨Nat.ne_of_lt lI.2.2, List.forall_mem_nil _⟩⟩⟩
  case done =>
    rintro ⟨vz, sz, cap, U, tU, V, tV⟩ u h tk ⟨Iz, hv, hlen, hlen2⟩ F3 N3
    dsimp only at hv Iz N3 hlen
    dsimp only [stM, kstB] at F3
    change Fr g' L' h _ at F3
    change News g' L' h _ at N3
    k_steps
    dsimp only
    show Q (.ref _) _
    rename News _ _ _ _ => N6
    rename Fr _ _ _ _ => F6
    rename IntsAre _ (List.drop 1 (0 :: sz)) => I6
    refine hret _ _ _ (keep_of KB' F6) ⟨⟨N6.get (by k_mem), N6.get (by k_mem)⟩, sz, ⟨_, _, rfl, fresh_of KB' N6 (.head _) ?_, N6.get (.head _), I6⟩, hv.fin, hlen⟩
    intro hm
    rcases List.mem_cons.mp hm with hm | hm
    · exact Nat.ne_of_gt (show (37 : Nat) < _ by omega) hm
    · exact Nat.ne_of_gt (show (30 : Nat) < _ by omega) (List.mem_singleton.mp hm)
end Mine
end
section
open PySem PySem.W PyProof.Rows PySem.Calls
set_option Elab.async false
set_option maxRecDepth 100000
local macro_rules | `(tactic| omega) => `(tactic| lia)
namespace Mine
open Builtin.Int (intBits)
theorem ghost_seer {h : Heap} {tabs : List (Addr × Addr)} (hT : TabsAt tabs h) (x : h.NoSeer) : (ghostOf h tabs).NoSeer where
  statics := let ⟨mc, a, b⟩ := x.statics; ⟨mc, ghost_ns hT a, b⟩
  mods := let ⟨mc, a, b⟩ := x.mods; ⟨mc, ghost_ns hT a, b⟩
  imp := let ⟨mc, a, b⟩ := x.imp; ⟨mc, ghost_ns hT a, b⟩
  main := let ⟨mg, bm, ob, a, b, c, d, e⟩ := x.main; ⟨mg, bm, ob, ghost_ns hT a, b, ghost_get hT c (fun q => by rw [q] at d; cases d), d, e⟩

theorem ints_size {vs : List Value} {ns : List Int} (I : IntsAre vs ns) : vs.toArray.size = ns.length := by rw [List.size_toArray, I.length]
theorem small_bits {x : Int} (h : x.natAbs < 1024) : intBits x ≤ 10 := intBits_le_iff.mpr (by simpa using h)
theorem line_bits {R N : Int} (h : Line R N) : intBits R ≤ 1056900 ∧ intBits N ≤ 1052720 ∧ N ≠ 0 := by
  obtain ⟨rz, rn, hn0, hbz, hbn, hR, hN⟩ := h
  have ub := unit_bits
  have up := unit_pos
  have h3 : intBits (rz.fmod 3 - 1) ≤ 10 := by
    refine small_bits ?_
    rw [Int.fmod_eq_emod_of_nonneg _ (by decide)]; omega
  refine ⟨?_, ?_, ?_⟩
  · rw [hR]
    have a := intBits_mul_le (intBits_mul_le h3 ub) hbn
    have b := intBits_add_le hbz a
    refine Nat.le_trans (intBits_mul_le b ub) (by omega)
  · rw [hN]; exact Nat.le_trans (intBits_mul_le hbn ub) (by omega)
  · rw [hN]; exact Int.mul_ne_zero hn0 (by omega)
theorem news_same {h₀ h h' : Heap} {L : Addr} {all : List (Addr × Obj)} (N : News h₀ L h all) (K : KeepBut [37, 30] h h') (e7 : h'.get? 37 = h.get? 37) (e3 : h'.get? 30 = h.get? 30) : News h₀ L h' all := fun p hp => by
  refine ⟨?_, (N p hp).2⟩
  by_cases h1 : p.1 = 37
  · rw [h1, e7, ← h1]; exact (N p hp).1
  · by_cases h2 : p.1 = 30
    · rw [h2, e3, ← h2]; exact (N p hp).1
    · exact K _ _ (fun hm => by
        rcases List.mem_cons.mp hm with h | h
        · exact h1 h
        · exact h2 (List.mem_singleton.mp h)) (N p hp).1
/-- a pair of ints in the heap -/
structure Tp where
  a : Addr
  q : Int
  r : Int
  tq : Tok
  tr : Tok
  n : Nat
def Tp.ent (t : Tp) : Addr × Obj := (t.a, { cls := .type "tuple", data := .seq #[.int t.q t.tq, .int t.r t.tr] t.n })
def Tp.val (t : Tp) : Value := .ref t.a
def Tp.dat (t : Tp) : Dat := .tuple [.int t.q, .int t.r]
theorem tp_dat (tl : List Tp) : ∀ {l : List Tp}, (∀ t ∈ l, t ∈ tl) → DatAll (tl.map Tp.ent) (l.map Tp.val) (l.map Tp.dat)
  | [], _ => .nil
  | t :: l, h => .cons (.tuple (n := t.n) (List.mem_map.mpr ⟨t, h t (.head _), rfl⟩) (.cons (.int _ _) (.cons (.int _ _) .nil))) (tp_dat tl fun u hu => h u (.tail _ hu))
theorem dats_ok {l : List Tp} : ∀ d ∈ l.map Tp.dat, kqdOk 8 d = true := fun d hd => by
  obtain ⟨t, _, rfl⟩ := List.mem_map.mp hd
  rfl
theorem dats_eq {n : Nat} {q r : Nat → Int} : ∀ {l l' : List Tp}, l.length = n → l'.length = n → (∀ j t, l[j]? = some t → t.q = q j ∧ t.r = r j) → (∀ j t, l'[j]? = some t → t.q = q j ∧ t.r = r j) → l.map Tp.dat = l'.map Tp.dat := by
  intro l l' h1 h2 h3 h4
  refine List.ext_getElem? fun j => ?_
  rw [List.getElem?_map, List.getElem?_map]
  cases e : l[j]? with
  | none =>
    have := List.getElem?_eq_none_iff.mp e
    rw [List.getElem?_eq_none (by omega)]
  | some t =>
    have lt := (List.getElem?_eq_some_iff.mp e).1
    cases e' : l'[j]? with
    | none =>
      have := List.getElem?_eq_none_iff.mp e'
      omega
    | some t' =>
      have a := h3 j t e
      have b := h4 j t' e'
      simp only [Option.map_some, Tp.dat]
      rw [a.1, a.2, b.1, b.2]
theorem nd_false {p : Prop} (i : Decidable p) (h : p) : (!@decide p i) = false := by rw [decide_eq_true h]; rfl
theorem news_tail {h₀ h h' : Heap} {L : Addr} (pre t1 t2 : List (Addr × Obj)) (N : News h₀ L h (pre ++ (t1 ++ t2))) (K : KeepBut [L] h h') : News h₀ L h' (pre ++ t1) := fun p hp => by
  have z := N p (by
    rcases List.mem_append.mp hp with h | h
    · exact List.mem_append_left _ h
    · exact List.mem_append_right _ (List.mem_append_left _ h))
  exact ⟨K _ _ (fun hm => z.2.1 (List.mem_singleton.mp hm)) z.1, z.2⟩
def OffF (fix : List (Addr × Obj)) (tl : List Tp) : Prop := ∀ p ∈ fix, ∀ t ∈ tl, t.a ≠ p.1

theorem off_tail {fix : List (Addr × Obj)} {tl : List Tp} {a : Addr} {o : Obj} (h : OffF fix tl) (hm : (a, o) ∈ fix) : ∀ p ∈ tl.map Tp.ent, p.1 ≠ a := fun p hp => by
  obtain ⟨t, ht, rfl⟩ := List.mem_map.mp hp
  exact h _ hm t ht
theorem tail_lt {hi X : Addr} {l : List (Addr × Obj)} (h : AllLt hi l) (hx : @LE.le Nat _ hi X) : ∀ p ∈ l, p.1 ≠ X := by
  induction l with
  | nil => exact fun _ h => nomatch h
  | cons a l ih =>
    refine List.forall_mem_cons.mpr ⟨?_, ih h.2⟩
    have := h.1
    exact neN (by omega)
section
open LCg
variable {prog : Program} {w : World} {A : Around} {s : Shared} {h₀ : Heap} {L : Addr} {m : Str → Option Value} {env : Env} {elt : Expr} {x : Str} {scope : Scope} {cl : List (Str × Addr)} {S : List (Addr × Obj) → Prop} {P : Nat → Value → Prop} {Fin : List Value → List (Addr × Obj) → Prop} {n : Nat}
/-- what a turn that makes a pair leaves -/
def PairEnd (h₀ : Heap) (L : Addr) (m : Str → Option Value) (s₁ : Shared) (all : List (Addr × Obj)) (Ok : Tp → Prop) (y : Value) (s₂ : Shared) : Prop :=
  ∃ t h' tk', y = Tp.val t ∧ s₂ = { s₁ with heap := h', toks := tk' } ∧ Fr h₀ L h' m ∧ News h₀ L h' (t.ent :: all) ∧ (∀ p ∈ all, p.1 ≠ t.a) ∧ Ok t
theorem comp_pairs (fix : List (Addr × Obj)) (i0 : Nat) (Ok : Nat → Tp → Prop) (hS : ∀ nw, S nw)
    (turn : ∀ i tl v I oI C oC D m₂ h tk (E' : Value → Shared → Prop), i0 ≤ i → i < n → tl.length = i → OffF fix tl → P i v → NsObj oC m₂ → m₂ x = some v → Fr h₀ L h m → News h₀ L h ((I, oI) :: (C, oC) :: (D, lst (tl.map Tp.val)) :: (fix ++ tl.map Tp.ent)) → Off3 I C D (fix ++ tl.map Tp.ent) → ((@Ne Nat I C) ∧ (@Ne Nat I D) ∧ (@Ne Nat C D)) →
      wpAny (model prog w) A (eval elt (compEnvC scope cl C env)) (PairEnd h₀ L m { s with heap := h, toks := tk } ((I, oI) :: (C, oC) :: (D, lst (tl.map Tp.val)) :: (fix ++ tl.map Tp.ent)) (Ok i)) E' { s with heap := h, toks := tk })
    (fin : ∀ tl, tl.length = n → (∀ j t, tl[j]? = some t → Ok j t) → OffF fix tl → Fin (tl.map Tp.val) (fix ++ tl.map Tp.ent)) :
    ∀ k i tl, i + k = n → i0 ≤ i → tl.length = i → (∀ j t, tl[j]? = some t → Ok j t) → OffF fix tl → CompRest prog w A h₀ L m env elt x scope cl s S P Fin k i (tl.map Tp.val) (fix ++ tl.map Tp.ent)
  | 0, i, tl, e, _, hl, ho, hf => CompRest.zero (fin tl (by omega) ho hf)
  | k + 1, i, tl, e, hi, hl, ho, hf => CompRest.succ fun v I oI C oC D m₂ h tk E' hP hC hx F N off ne => by
    refine wpAny_mono (turn i tl v I oI C oC D m₂ h tk E' hi (by omega) hl hf hP hC hx F N off ne) (fun y s₂ hy => ?_) fun _ _ e => e
    obtain ⟨t, h', tk', rfl, rfl, F', N2, l, ok⟩ := hy
    have eL : (tl ++ [t]).map Tp.ent = tl.map Tp.ent ++ [t.ent] := by simp
    refine CompEnd.intro F' N2 (fix ++ (tl ++ [t]).map Tp.ent) (fun p hp => ?_) (Off3.of fun p hp => ?_) (hS _) ?_
    · rw [eL] at hp
      simp only [List.mem_cons, List.mem_append, List.not_mem_nil, or_false] at hp ⊢
      rcases hp with h | h | h | h | h | h
      · exact .inr (.inl h)
      · exact .inr (.inr (.inl h))
      · exact .inr (.inr (.inr (.inl h)))
      · exact .inr (.inr (.inr (.inr (.inl h))))
      · exact .inr (.inr (.inr (.inr (.inr h))))
      · exact .inl h
    · rw [eL, ← List.append_assoc] at hp
      rcases List.mem_append.mp hp with h | h
      · exact off.mem p h
      · rw [List.mem_singleton.mp h]
        exact ⟨Ne.symm (l (I, oI) (.head _)), Ne.symm (l (C, oC) (.tail _ (.head _))), Ne.symm (l (D, lst (tl.map Tp.val)) (.tail _ (.tail _ (.head _))))⟩
    · have r := comp_pairs fix i0 Ok hS turn fin k (i + 1) (tl ++ [t]) (by omega) (by omega) (by simp [hl]) (fun j u hj => ?_) (fun p hp u hu => ?_)
      · rw [List.map_append] at r; exact r
      · by_cases hjl : j < tl.length
        · rw [List.getElem?_append_left hjl] at hj; exact ho j u hj
        · rw [List.getElem?_append_right (by omega)] at hj
          have : j - tl.length = 0 := by
            rcases Nat.eq_zero_or_pos (j - tl.length) with h | h
            · exact h
            · rw [List.getElem?_eq_none (by rw [List.length_singleton]; exact h)] at hj; cases hj
          rw [this] at hj
          have e2 : j = i := by omega
          cases hj; rw [e2]; exact ok
      · rcases List.mem_append.mp hu with h | h
        · exact hf p hp u h
        · rw [List.mem_singleton.mp h]; exact Ne.symm (l p (by simp [hp]))

theorem comp_pairs0 (fix : List (Addr × Obj)) (Ok : Nat → Tp → Prop) (hS : ∀ nw, S nw)
    (turn : ∀ i tl v I oI C oC D m₂ h tk (E' : Value → Shared → Prop), i < n → tl.length = i → OffF fix tl → P i v → NsObj oC m₂ → m₂ x = some v → Fr h₀ L h m → News h₀ L h ((I, oI) :: (C, oC) :: (D, lst (tl.map Tp.val)) :: (fix ++ tl.map Tp.ent)) → Off3 I C D (fix ++ tl.map Tp.ent) → ((@Ne Nat I C) ∧ (@Ne Nat I D) ∧ (@Ne Nat C D)) →
      wpAny (model prog w) A (eval elt (compEnvC scope cl C env)) (PairEnd h₀ L m { s with heap := h, toks := tk } ((I, oI) :: (C, oC) :: (D, lst (tl.map Tp.val)) :: (fix ++ tl.map Tp.ent)) (Ok i)) E' { s with heap := h, toks := tk })
    (fin : ∀ tl, tl.length = n → (∀ j t, tl[j]? = some t → Ok j t) → OffF fix tl → Fin (tl.map Tp.val) (fix ++ tl.map Tp.ent)) :
    CompRest prog w A h₀ L m env elt x scope cl s S P Fin n 0 [] fix := by
  have r := comp_pairs (prog := prog) (w := w) (A := A) (s := s) (h₀ := h₀) (L := L) (m := m) (env := env) (elt := elt) (x := x) (scope := scope) (cl := cl) (S := S) (P := P) (Fin := Fin) (n := n) fix 0 Ok hS (fun i tl v I oI C oC D m₂ h tk E' _ hi hl hf hP hC hx F N off ne => turn i tl v I oI C oC D m₂ h tk E' hi hl hf hP hC hx F N off ne) fin n 0 [] (by omega) (Nat.le_refl _) rfl (fun j t h => by simp at h) (fun _ _ _ h => nomatch h)
  rw [List.map_nil, List.map_nil, List.append_nil] at r
  exact r

abbrev fixL (c1 c2 c3 c4 c5 : Addr × Obj) (a7 : Addr) (o7 : Obj) (a3 : Addr) (o3 : Obj) : List (Addr × Obj) :=
  [c1, c2, c3, c4, c5, (37, tabObj #[rawInt 47, rawInt 4, .ref a7]), (30, tabObj #[rawInt 32, rawInt 4, .ref a3]), (a7, o7), (a3, o3)]
theorem told_first {I C D : Addr} {oI oC : Obj} {e0 c1 c2 c3 c4 c5 : Addr × Obj} {h h' : Heap} {s₁ : Shared} {rv : Value} {q r : Int} {k tk' : Nat}
    (F : Fr h₀ L h m) (N : News h₀ L h ((I, oI) :: (C, oC) :: (D, lst []) :: e0 :: c1 :: c2 :: c3 :: c4 :: c5 :: (37, tabObj #[]) :: (30, tabObj #[]) :: []))
    (off : Off3 I C D (e0 :: c1 :: c2 :: c3 :: c4 :: c5 :: (37, tabObj #[]) :: (30, tabObj #[]) :: []))
    (offc : ∀ p ∈ [c1, c2, c3, c4, c5], p.1 ≠ 37 ∧ p.1 ≠ 30)
    (K : KeepBut [37, 30] h h') (F' : Fr h₀ L h' m) (F7 : Filled h h' 37 47 4 qD) (F3 : Filled h h' 30 32 4 qI) (pr : PairAt h rv h' q r)
    (next : ∀ a7 o7 a3 o3, RecIs o7 qD → RecIs o3 qI → (∀ p ∈ [c1, c2, c3, c4, c5, (37, tabObj #[]), (30, tabObj #[])], p.1 ≠ a7) → (∀ p ∈ [c1, c2, c3, c4, c5, (37, tabObj #[]), (30, tabObj #[])], p.1 ≠ a3) →
      ∀ t : Tp, t.q = q → t.r = r → OffF (fixL c1 c2 c3 c4 c5 a7 o7 a3 o3) [t] →
      CompRest prog w A h₀ L m env elt x scope cl s (fun _ => True) P Fin k 1 ([t].map Tp.val) (fixL c1 c2 c3 c4 c5 a7 o7 a3 o3 ++ [t].map Tp.ent)) :
    CompEnd h₀ L m s₁ I oI C oC D (lst []) (fun _ => True) (fun y news' => CompRest prog w A h₀ L m env elt x scope cl s (fun _ => True) P Fin k (0 + 1) ([] ++ [y]) news') rv { s₁ with heap := h', toks := tk' } := by
  obtain ⟨a7, o7, f7, n7, g7, r7⟩ := F7
  obtain ⟨a3, o3, f3, n3, g3, r3⟩ := F3
  obtain ⟨ta, t1, t2, tn, rfl, nt, gt⟩ := pr
  have o3m := off.mem
  simp only [List.mem_cons, List.not_mem_nil, or_false, forall_eq_or_imp, forall_eq] at o3m offc
  have ne7 := news_ne N n7
  have ne3 := news_ne N n3
  have neT := news_ne N nt
  have cT : ∀ (a : Addr) (o : Obj) (qq : Str), h'.get? a = some o → RecIs o qq → ta ≠ a := fun a o qq e ⟨vs, t, e1, e2⟩ ea => by
    rw [← ea, gt] at e; cases e; cases e1
  have kk : ∀ p ∈ ((I, oI) :: (C, oC) :: (D, lst []) :: e0 :: c1 :: c2 :: c3 :: c4 :: c5 :: (37, tabObj #[]) :: (30, tabObj #[]) :: []), p.1 ∉ ([37, 30] : List Addr) → h'.get? p.1 = some p.2 ∧ p.1 ≠ L ∧ h₀.get? p.1 = none := fun p hp hn => ⟨K _ _ hn (N p hp).1, (N p hp).2⟩
  have nm : ∀ {a : Addr}, a ≠ 37 → a ≠ 30 → a ∉ ([37, 30] : List Addr) := fun h1 h2 hm => by
    rcases List.mem_cons.mp hm with h | h
    · exact h1 h
    · exact h2 (List.mem_singleton.mp h)
  let t : Tp := ⟨ta, q, r, t1, t2, tn⟩
  have N2 : News h₀ L h' ((I, oI) :: (C, oC) :: (D, lst []) :: (fixL c1 c2 c3 c4 c5 a7 o7 a3 o3 ++ [t].map Tp.ent)) := by
    intro p hp
    simp only [fixL, List.cons_append, List.nil_append, List.map_cons, List.map_nil, List.mem_cons, List.not_mem_nil, or_false] at hp
    obtain ⟨x0, x1, x2, x3, x4, x5, x7, x8⟩ := o3m
    obtain ⟨y1, y2, y3, y4, y5⟩ := offc
    rcases hp with rfl | rfl | rfl | rfl | rfl | rfl | rfl | rfl | rfl | rfl | rfl | rfl | rfl
    · exact kk _ (by simp) (nm (Ne.symm x7.1) (Ne.symm x8.1))
    · exact kk _ (by simp) (nm (Ne.symm x7.2.1) (Ne.symm x8.2.1))
    · exact kk _ (by simp) (nm (Ne.symm x7.2.2) (Ne.symm x8.2.2))
    · exact kk _ (by simp) (nm y1.1 y1.2)
    · exact kk _ (by simp) (nm y2.1 y2.2)
    · exact kk _ (by simp) (nm y3.1 y3.2)
    · exact kk _ (by simp) (nm y4.1 y4.2)
    · exact kk _ (by simp) (nm y5.1 y5.2)
    · exact ⟨f7, (N (37, tabObj #[]) (by simp)).2⟩
    · exact ⟨f3, (N (30, tabObj #[]) (by simp)).2⟩
    · exact ⟨g7, off_new F n7⟩
    · exact ⟨g3, off_new F n3⟩
    · exact ⟨gt, off_new F nt⟩
  refine CompEnd.intro F' N2 (fixL c1 c2 c3 c4 c5 a7 o7 a3 o3 ++ [t].map Tp.ent) (fun p hp => hp) (Off3.of fun p hp => ?_) trivial (next a7 o7 a3 o3 r7 r3 (fun p hp => ne7 p (.tail _ (.tail _ (.tail _ (.tail _ hp))))) (fun p hp => ne3 p (.tail _ (.tail _ (.tail _ (.tail _ hp))))) t rfl rfl fun p hp u hu => ?_)
  · simp only [fixL, List.cons_append, List.nil_append, List.map_cons, List.map_nil, List.mem_cons, List.not_mem_nil, or_false] at hp
    obtain ⟨x0, x1, x2, x3, x4, x5, x7, x8⟩ := o3m
    have fr : ∀ {a : Addr}, (∀ p ∈ ((I, oI) :: (C, oC) :: (D, lst []) :: e0 :: c1 :: c2 :: c3 :: c4 :: c5 :: (37, tabObj #[]) :: (30, tabObj #[]) :: []), p.1 ≠ a) → a ≠ I ∧ a ≠ C ∧ a ≠ D := fun z => ⟨Ne.symm (z (I, oI) (by simp)), Ne.symm (z (C, oC) (by simp)), Ne.symm (z (D, lst []) (by simp))⟩
    rcases hp with rfl | rfl | rfl | rfl | rfl | rfl | rfl | rfl | rfl | rfl
    · exact x1
    · exact x2
    · exact x3
    · exact x4
    · exact x5
    · exact x7
    · exact x8
    · exact fr ne7
    · exact fr ne3
    · exact fr neT
  · rw [List.mem_singleton.mp hu]
    simp only [fixL, List.mem_cons, List.not_mem_nil, or_false] at hp
    rcases hp with rfl | rfl | rfl | rfl | rfl | rfl | rfl | rfl | rfl
    · exact Ne.symm (neT _ (by simp))
    · exact Ne.symm (neT _ (by simp))
    · exact Ne.symm (neT _ (by simp))
    · exact Ne.symm (neT _ (by simp))
    · exact Ne.symm (neT _ (by simp))
    · exact Ne.symm (neT (37, tabObj #[]) (by simp))
    · exact Ne.symm (neT (30, tabObj #[]) (by simp))
    · exact cT _ _ _ g7 r7
    · exact cT _ _ _ g3 r3
end
end Mine
end
section
open PySem PySem.W PyProof.Rows PySem.Calls
set_option Elab.async false
set_option maxRecDepth 100000
local macro_rules | `(tactic| omega) => `(tactic| lia)
namespace Mine
section
variable {prog : Program} {w : World} {A : Around} {E : Value → Shared → Prop} {s : Shared} {value slice : Expr} {Q : Value → Shared → Prop} {l : Addr} {k : Int} {u : Tok}
theorem item_told {tl : List Tp} {t : Tp} (hl : s.heap.IsList l (tl.map Tp.val).toArray) (h0 : 0 ≤ k) (hk : tl[k.toNat]? = some t) (hfit : k < 2 ^ 63) (h : Q (.ref t.a) s)
    (hs : subscripted slice false (.ref l) (.int k u) = operate [.ref l, .int k u] (getItem (.ref l) (.int k u)) := by with_unfolding_all rfl) :
    wpAny (model prog w) A (subscriptTail value slice (.ref l) (.int k u)) Q E s :=
  tail_any hl.typeIs slot_list_getitem.lookup (wpAny_getItem_list hl h0 hfit (x := .ref t.a) (by rw [List.getElem?_toArray, List.getElem?_map, hk]; rfl) h) hs
theorem item_pair {t : Tp} (ht : s.heap.get? t.a = some t.ent.2) (h0 : 0 ≤ k) (h1 : k < 2) (h : ∀ t', Q (.int ([t.q, t.r].getD k.toNat 0) t') s)
    (hs : subscripted slice false (.ref t.a) (.int k u) = operate [.ref t.a, .int k u] (getItem (.ref t.a) (.int k u)) := by with_unfolding_all rfl) :
    wpAny (model prog w) A (subscriptTail value slice (.ref t.a) (.int k u)) Q E s := by
  have hT : IsTup s.heap t.a [Value.int t.q t.tq, .int t.r t.tr].toArray := ⟨_, ht, rfl, _, rfl⟩
  rcases (show k = 0 ∨ k = 1 by omega) with rfl | rfl
  · exact item_tupleT hT (by decide) (by decide) (j := 0) rfl rfl (h _) hs
  · exact item_tupleT hT (by decide) (by decide) (j := 1) rfl rfl (h _) hs
end
end Mine
end
section
open PySem PySem.W PyProof.Rows PySem.Calls
set_option Elab.async false
set_option maxRecDepth 100000
local macro_rules | `(tactic| omega) => `(tactic| lia)
namespace Mine
section
open LCg
variable {prog : Program} {w : World} {A : Around} {E : Value → Shared → Prop} {s : Shared} {h₀ : Heap} {L : Addr} {m : Str → Option Value} {env : Env}
/-- a comprehension of two clauses: the second goes over the first one's item -/
abbrev nestE (x y : Str) (px py px' py' : Pos) (iter : Expr) (scope : Scope) (pos : Pos) : Expr := .ListComp (.Name y py) [⟨.Name x px, iter, [], 0⟩, ⟨.Name y py', .Name x px', [], 0⟩] scope pos
variable {x y : Str} {px py px' py' : Pos} {iter : Expr} {scope : Scope} {pos : Pos}
theorem nest_turn0 (it acc : Value) (env : Env) : compTurn (nestE x y px py px' py' iter scope pos) 0 it acc env = (standAt iter.pos >>= fun _ => pyNext it >>= fun r => match r with
      | none => pure (.done .next)
      | some v => letOwnedTupleGo (.Name x px) it v >>= fun _ => assign (.Name x px) env v >>= fun _ =>
        (eval (.Name x px') env >>= fun z => standAt px' >>= fun _ => foldedSetIterable (.Name x px') env z >>= fun z => holding [z] (pyIter z) >>= fun j =>
          runOwn (.compStart (nestE x y px py px' py' iter scope pos) 1 j acc env) env >>= fun _ =>
          again (.compLoop (nestE x y px py px' py' iter scope pos) 0 it acc env))) := by rfl
theorem nest_turn1 (it acc : Value) (env : Env) : compTurn (nestE x y px py px' py' iter scope pos) 1 it acc env = (standAt px' >>= fun _ => pyNext it >>= fun r => match r with
      | none => pure (.done .next)
      | some v => letOwnedTupleGo (.Name y py') it v >>= fun _ => assign (.Name y py') env v >>= fun _ =>
        (eval (.Name y py) env >>= fun z => call (.builtin "list.append") [acc, z] >>= fun _ => pure ()) >>= fun _ =>
          again (.compLoop (nestE x y px py px' py' iter scope pos) 1 it acc env)) := by rfl
theorem nest_start1 {R : Result → Shared → Prop} {it acc : Value} {cenv : Env}
    (h0 : codeAny (model prog w) A (.compLoop (nestE x y px py px' py' iter scope pos) 1 it acc cenv) R s)
    (h : wpAny (model prog w) A (pyIter it) (fun it' s' => codeAny (model prog w) A (.compLoop (nestE x y px py px' py' iter scope pos) 1 it' acc cenv) R s')
      (notedBy (model prog w) A cenv fun x s' => R (.error x) s') s) :
    codeAny (model prog w) A (.compStart (nestE x y px py px' py' iter scope pos) 1 it acc cenv) R s := by
  refine codeAny_of_tree ?_
  show wpAny _ _ ((compStart (nestE x y px py px' py' iter scope pos) 1 it acc cenv).onRaise (fun x => do noteFrame x cenv; standAt theWindowsPlace)) _ _ s
  refine wpAny_notedAt ?_
  unfold compStart
  show wpAny _ _ (ask >>= _) _ _ s
  refine wpAny_bind (wpAny_askSetting (wpAny_ite ?_))
  split
  · exact wpAny_pure (And.intro rfl h0)
  · refine wpAny_bind (wpAny_rule ?_)
    show wpAny _ _ (standAt px' >>= _) _ _ s
    exact wpAny_bind (wpAny_standAt (wpAny_bind (wpAny_mono h (fun it' s' h' => wpAny_pure (And.intro rfl h')) fun _ _ x => x)))
theorem lst_grow {ys vs : List Value} {i : Nat} {v : Value} (h : vs.toArray[i]? = some v) : ({ cls := .type "list", data := .seq ((ys ++ vs.take i).toArray.push v) ((ys ++ vs.take i).length + 1) } : Obj) = lst (ys ++ vs.take (i + 1)) := by
  rw [lst_snoc, List.append_assoc]
  have h' : vs[i]? = some v := by simpa using h
  rw [List.take_add_one, h']; rfl
theorem nest_inner {R : Result → Shared → Prop} {cenv : Env} {J t D C : Addr} {vs ys : List Value} {m' : Str → Option Value} (hh : A.handled = none) (hC : cenv.locals = C) (hkf : cenv.scope.kind = .function) (hy : cenv.kindOf y = some .local) (hdb : (y == ("__debug__" : Str)) = false)
    (hJ : s.heap.IsTupleIter J t 0) (ht : s.heap.IsTuple t vs.toArray) (hD : s.heap.get? D = some (lst ys)) (hn : s.heap.Ns C m')
    (n1 : J ≠ C) (n2 : J ≠ D) (n3 : C ≠ D) (n4 : t ≠ J) (n5 : t ≠ C) (n6 : t ≠ D) (hsz : ys.length + vs.length ≤ sizeLine)
    (hR : ∀ h' tk m'', KeepBut [J, C, D] s.heap h' → h'.get? D = some (lst (ys ++ vs)) → h'.Ns C m'' → R (.ok .next) { s with heap := h', toks := tk }) :
    codeAny (model prog w) A (.compStart (nestE x y px py px' py' iter scope pos) 1 (.ref J) (.ref D) cenv) R s := by
  have W : Walks prog w A J [J, t] [J] vs.toArray.size (fun i v => vs.toArray[i]? = some v) (fun i h => h.IsTupleIter J t i ∧ h.IsTuple t vs.toArray) := Walks.tuple hh J t n4 vs.toArray
  have hp : (cenv.scope.kind == .class || (cenv.scope.kind == .module && cenv.locals != cenv.globals)) = false := by rw [hkf]; rfl
  have loop : codeAny (model prog w) A (.compLoop (nestE x y px py px' py' iter scope pos) 1 (.ref J) (.ref D) cenv) R s := by
    refine codeAny_loop rfl (fun k s' => ∃ h' tk i m'', s' = { s with heap := h', toks := tk } ∧ i ≤ vs.length ∧ k = vs.length + 1 - i ∧ (h'.IsTupleIter J t i ∧ h'.IsTuple t vs.toArray) ∧ h'.get? D = some (lst (ys ++ vs.take i)) ∧ h'.Ns C m'' ∧ KeepBut [J, C, D] s.heap h') ?_ (vs.length + 1)
      ⟨s.heap, s.toks, 0, m', rfl, Nat.zero_le _, rfl, ⟨hJ, ht⟩, by simpa using hD, hn, KeepBut.refl⟩
    rintro k s' ⟨h', tk, i, m'', rfl, hi, rfl, st, hD', hn', K⟩
    show wpAny _ A ((compTurn (nestE x y px py px' py' iter scope pos) 1 (.ref J) (.ref D) cenv).onRaise (fun x => do noteFrame x cenv; theTreesLotGoes x)) _ _ _
    refine wpAny_noted ?_
    rw [nest_turn1]
    refine wpAny_bind (wpAny_standAt (wpAny_bind ?_))
    by_cases hlt : i < vs.length
    · refine W.item i _ _ _ (by simpa using hlt) st fun v h₂ tk₂ hv st₂ hk₂ => ?_
      dsimp only
      refine wpAny_bind (wpAny_pure ?_)
      refine wpAny_bind (wpAny_assign_Name (wpAny_storeName_local hy (m := m'') (by rw [hC]; exact hn'.at' fun o e => hk₂ _ o (by simpa using Ne.symm n1) e) (fun h₃ hn₃ hs₃ => ?_) hp))
      rw [hC] at hs₃
      refine wpAny_bind (wpAny_bind (wpAny_Name (wpAny_loadName_local hkf hy hn₃ (by simp; rfl) ?_) hdb))
      refine wpAny_bind ?_
      have hD₃ : h₃.get? D = some (lst (ys ++ vs.take i)) := hs₃.extBut _ _ (Ne.symm n3) (hk₂ _ _ (by simpa using Ne.symm n2) hD')
      refine append_at (hsz := by show (ys ++ vs.take i).toArray.size ≤ sizeLine; rw [List.size_toArray, List.length_append, List.length_take]; omega) hD₃ fun h₄ hs₄ hD₄ => ?_
      refine wpAny_pure (wpAny_pure ⟨rfl, vs.length + 1 - (i + 1), by omega, h₄, _, i + 1, (fun z => if z = y then some v else m'' z), rfl, hlt, rfl, ?_, ?_, ?_, ?_⟩)
      · exact W.frame _ _ _ (W.frame _ _ _ st₂ fun b hb o e => hs₃.extBut b o (fun q => by
          rcases List.mem_cons.mp hb with h | h
          · exact n1 (h.symm.trans q)
          · exact n5 ((List.mem_singleton.mp h).symm.trans q)) e) fun b hb o e => hs₄.extBut b o (fun q => by
          rcases List.mem_cons.mp hb with h | h
          · exact n2 (h.symm.trans q)
          · exact n6 ((List.mem_singleton.mp h).symm.trans q)) e
      · exact hD₄.trans (congrArg some (lst_grow hv))
      · exact (hC ▸ hn₃ : h₃.Ns C _).sameBut hs₄ n3
      · refine fun b o hb e => hs₄.extBut b o (fun q => hb (by simp [q])) (hs₃.extBut b o (fun q => hb (by simp [q])) (hk₂ b o (fun q => hb (by simp at q; simp [q])) (K b o hb e)))
    · obtain rfl : i = vs.length := Nat.le_antisymm hi (Nat.not_lt.mp hlt)
      refine W.done _ _ _ (by simpa using st) fun h₂ tk₂ hk₂ => ?_
      dsimp only
      refine wpAny_pure (hR _ _ m'' (fun b o hb e => hk₂ b o (fun q => hb (by simp at q; simp [q])) (K b o hb e)) ?_ (hn'.at' fun o e => hk₂ _ o (by simpa using Ne.symm n1) e))
      rw [List.take_length] at hD'
      exact hk₂ _ _ (by simpa using Ne.symm n2) hD'
  exact nest_start1 loop (W.self 0 _ _ _ ⟨hJ, ht⟩ loop)
theorem mem3 {a b c d : Addr} (h : a ∈ [b, c, d]) : @Eq Nat a b ∨ @Eq Nat a c ∨ @Eq Nat a d := by
  simp only [List.mem_cons, List.not_mem_nil, or_false] at h; exact h
theorem mem2 {a b c : Addr} (h : a ∈ [b, c]) : @Eq Nat a b ∨ @Eq Nat a c := by
  simp only [List.mem_cons, List.not_mem_nil, or_false] at h; exact h
def NestSrc (A : Around) (h₀ : Heap) (L : Addr) (m : Str → Option Value) (Q : Value → Shared → Prop) (xv : Value) (s₁ : Shared) : Prop :=
  ∃ (ax : Addr) (its : List (Addr × List Value)) (k : Nat) (news : List (Addr × Obj)), xv = .ref ax ∧ A.handled = none ∧ Fr h₀ L s₁.heap m ∧ News h₀ L s₁.heap news ∧ (ax, ({ cls := .type "list", data := .seq (its.map fun p => Value.ref p.1).toArray k } : Obj)) ∈ news ∧
    (∀ p ∈ its, ∃ o n, (p.1, o) ∈ news ∧ o.cls = .type "tuple" ∧ o.data = .seq p.2.toArray n) ∧ (its.flatMap (·.2)).length ≤ sizeLine ∧
    ∀ D h tk, Fr h₀ L h m → News h₀ L h ((D, lst (its.flatMap (·.2))) :: news) → (∀ p ∈ news, p.1 ≠ D) → Q (.ref D) { s₁ with heap := h, toks := tk }
theorem flat_take_len {its : List (Addr × List Value)} {i : Nat} {v : Addr × List Value} (h : its[i]? = some v) : ((its.take i).flatMap (·.2)).length + v.2.length ≤ (its.flatMap (·.2)).length := by
  have e : its = its.take i ++ (v :: its.drop (i + 1)) := by
    have hl := (List.getElem?_eq_some_iff.mp h).1
    have e1 : its.drop i = v :: its.drop (i + 1) := by
      rw [List.drop_eq_getElem_cons hl]
      have := (List.getElem?_eq_some_iff.mp h).2
      rw [this]
    rw [← e1, List.take_append_drop]
  have : (its.flatMap (·.2)).length = ((its.take i ++ (v :: its.drop (i + 1))).flatMap (·.2)).length := by rw [← e]
  rw [this, List.flatMap_append, List.flatMap_cons, List.length_append, List.length_append]; omega
theorem flat_take_succ {its : List (Addr × List Value)} {i : Nat} {v : Addr × List Value} (h : its[i]? = some v) : (its.take (i + 1)).flatMap (·.2) = (its.take i).flatMap (·.2) ++ v.2 := by
  rw [List.take_add_one, h, List.flatMap_append]; simp
theorem ListComp_N {cl : List (Str × Addr)} {Q : Value → Shared → Prop} (hclos : closureFor scope env = pure cl) (hcell : ∀ y ∈ scope.names, y.2 ≠ .cell) (hkind : scope.kind = .function)
    (hnames : ∀ y ∈ scope.names, y.2 = .local → scope.names.lookup y.1 = some .local) (hx : scope.names.lookup x = some .local) (hy : scope.names.lookup y = some .local)
    (hdx : (x == ("__debug__" : Str)) = false) (hdy : (y == ("__debug__" : Str)) = false)
    (h : wpAny (model prog w) A (eval iter env) (NestSrc A h₀ L m Q) E s)
    (hs : ∀ x, foldedSetIterable iter env x = pure x := by intro _; rfl) :
    wpAny (model prog w) A (eval (nestE x y px py px' py' iter scope pos) env) Q E s := by
  rw [eval_ListComp]
  refine wpAny_comprehension_free (use := none) rfl hs hclos hkind hnames (wpAny_mono h (fun xv s₁ h₁ => ?_) fun _ _ e => e)
  obtain ⟨ax, its, k, news, rfl, hh, F, N, hax, hts, hsz, fin⟩ := h₁
  have hl : s₁.heap.IsList ax (its.map fun p => Value.ref p.1).toArray := ⟨_, (N _ hax).1, rfl, _, rfl⟩
  have hlt : @LT.lt Nat _ ax s₁.heap.objs.size := Heap.lt_size (N _ hax).1
  refine wpAny_pyIter_list hl ?_
  refine wpAny_newObj_type (wpAny_newFunctionEnv hcell (by intro y hy; simp at hy) (fun h₁ hns₁ hsb₁ => ?_) hkind)
  dsimp only at hns₁ hsb₁ ⊢
  generalize hI : s₁.heap.objs.size = I at hns₁ hsb₁ ⊢
  generalize hH1 : s₁.heap.push { cls := .type "list_iterator", data := .fields #[.ref ax, .int 0 0] } = H1 at hns₁ hsb₁ ⊢
  have hD : H1.objs.size = I + 1 := by rw [← hH1, Heap.size_push, hI]
  generalize hH2 : H1.push { cls := .type "list", dict := none, data := .seq ([] : List Value).toArray } = H2 at hns₁ hsb₁ ⊢
  have hC : H2.objs.size = I + 2 := by rw [← hH2, Heap.size_push, hD]
  generalize hDD : H1.objs.size = D at hns₁ hsb₁ ⊢
  generalize hCC : H2.objs.size = C at hns₁ hsb₁ ⊢
  have old : ∀ b o, s₁.heap.get? b = some o → h₁.get? b = some o := fun b o e => by
    have lt : @LT.lt Nat _ b s₁.heap.objs.size := Heap.lt_size e
    have e1 : H1.get? b = some o := by rw [← hH1]; exact Heap.get?_push_of_some _ e
    have e2 : H2.get? b = some o := by rw [← hH2]; exact Heap.get?_push_of_some _ e1
    refine hsb₁.extBut b o (fun q => ?_) (Heap.get?_push_of_some _ e2)
    have q' : @Eq Nat b C := q
    omega
  have aI : h₁.get? I = some { cls := .type "list_iterator", data := .fields #[.ref ax, .int 0 0] } := by
    have e1 : H1.get? I = some { cls := .type "list_iterator", data := .fields #[.ref ax, .int 0 0] } := by rw [← hH1, ← hI]; exact Heap.get?_push_size _ rfl
    have e2 := Heap.get?_push_of_some { cls := .type "list", dict := none, data := .seq ([] : List Value).toArray } e1
    rw [hH2] at e2
    refine hsb₁.extBut I _ (fun q => ?_) (Heap.get?_push_of_some _ e2)
    have q' : @Eq Nat I C := q
    omega
  have aD : h₁.get? D = some (lst []) := by
    have e2 : H2.get? D = some (lst []) := by rw [← hH2, ← hDD]; exact Heap.get?_push_size _ rfl
    refine hsb₁.extBut D _ (fun q => ?_) (Heap.get?_push_of_some _ e2)
    have q' : @Eq Nat D C := q
    omega
  have fresh₀ : ∀ a : Addr, @LE.le Nat _ s₁.heap.objs.size a → a ≠ L ∧ h₀.get? a = none := fun a ha => by
    have hLlt : @LT.lt Nat _ L s₁.heap.objs.size := F.ns.lt
    refine ⟨neN (by omega), ?_⟩
    cases e : h₀.get? a with
    | none => rfl
    | some o' => exact absurd (Heap.lt_size (F.keep a o' e)) (Nat.not_lt.mpr ha)
  have nIC : I ≠ C := fun q => by omega
  have nID : I ≠ D := fun q => by omega
  have nCD : C ≠ D := fun q => by omega
  have naI : ax ≠ I := neN (by omega)
  have naC : ax ≠ C := neN (by omega)
  have naD : ax ≠ D := neN (by omega)
  have szz : (its.map fun p => Value.ref p.1).toArray.size = its.length := by rw [List.size_toArray, List.length_map]
  have W : Walks prog w A I [I, ax] [I] (its.map fun p => Value.ref p.1).toArray.size (fun i v => (its.map fun p => Value.ref p.1).toArray[i]? = some v) (fun i h => h.IsListIter I ax i ∧ h.IsList ax (its.map fun p => Value.ref p.1).toArray) := Walks.list hh I ax naI _
  have st0 : h₁.IsListIter I ax 0 ∧ h₁.IsList ax (its.map fun p => Value.ref p.1).toArray := ⟨⟨_, aI, rfl, rfl⟩, _, old _ _ (N _ hax).1, rfl, _, rfl⟩
  have N₁ : News h₀ L h₁ news := fun p hp => ⟨old _ _ (N p hp).1, (N p hp).2⟩
  have F₁ : Fr h₀ L h₁ m := F.keeps old
  have lo : ∀ p ∈ news, @LT.lt Nat _ p.1 I := fun p hp => by rw [← hI]; exact Heap.lt_size (N p hp).1
  have loop : ∀ s₃ : Shared, s₃ = { s₁ with heap := h₁, toks := s₁.toks + ([] : List (Str × Value)).length } →
      codeAny (model prog w) A (.compLoop (nestE x y px py px' py' iter scope pos) 0 (.ref I) (.ref D) (compEnvC scope cl C env)) (compPost (model prog w) A E none Q (.ref D) C) s₃ := by
    rintro s₃ rfl
    refine codeAny_loop rfl (fun k s' => ∃ h' tk i m'', s' = { s₁ with heap := h', toks := tk } ∧ i ≤ its.length ∧ k = its.length + 1 - i ∧ (h'.IsListIter I ax i ∧ h'.IsList ax (its.map fun p => Value.ref p.1).toArray) ∧ h'.get? D = some (lst ((its.take i).flatMap (·.2))) ∧ h'.Ns C m'' ∧ KeepBut [I, C, D] h₁ h') ?_ (its.length + 1)
      ⟨h₁, _, 0, _, rfl, Nat.zero_le _, rfl, st0, aD, hns₁, KeepBut.refl⟩
    rintro k s' ⟨h', tk, i, m'', rfl, hi, rfl, st, hD', hn', K⟩
    show wpAny _ A ((compTurn (nestE x y px py px' py' iter scope pos) 0 (.ref I) (.ref D) (compEnvC scope cl C env)).onRaise (fun x => do noteFrame x (compEnvC scope cl C env); theTreesLotGoes x)) _ _ _
    refine wpAny_noted ?_
    rw [nest_turn0]
    refine wpAny_bind (wpAny_standAt (wpAny_bind ?_))
    by_cases hlt : i < its.length
    · refine W.item i _ _ _ (by rw [szz]; exact hlt) st fun v h₂ tk₂ hv st₂ hk₂ => ?_
      dsimp only
      obtain ⟨p, hp⟩ : ∃ p, its[i]? = some p := ⟨its[i], List.getElem?_eq_getElem hlt⟩
      have hv' : v = .ref p.1 := by
        rw [List.getElem?_toArray, List.getElem?_map, hp] at hv; cases hv; rfl
      subst hv'
      obtain ⟨ot, nt, hmt, hct, hdt⟩ := hts p (List.mem_of_getElem? hp)
      have kf : (compEnvC scope cl C env).scope.kind = .function := hkind
      refine wpAny_bind (wpAny_pure ?_)
      refine wpAny_bind (wpAny_assign_Name (wpAny_storeName_local (lookup_relabel_local hx) (m := m'') (hn'.at' fun o e => hk₂ _ o (by simpa using Ne.symm nIC) e) (fun h₃ hn₃ hs₃ => ?_) (by simp [compEnvC, relabel, hkind])))
      refine wpAny_bind (wpAny_Name (wpAny_loadName_local kf (lookup_relabel_local hx) hn₃ (by simp; rfl) ?_) hdx)
      refine wpAny_bind (wpAny_standAt (wpAny_bind (wpAny_pure (wpAny_bind (wpAny_holding ?_)))))
      have hs₃' : Heap.SameBut C h₂ h₃ := hs₃
      have up : ∀ b o, b ∉ [I, C, D] → h₁.get? b = some o → h₃.get? b = some o := fun b o hb e => hs₃'.extBut b o (fun q => hb (by simp [q])) (hk₂ b o (fun q => hb (by simp at q; simp [q])) (K b o hb e))
      have offp : ∀ {a : Addr}, @LT.lt Nat _ a I → a ∉ [I, C, D] := fun {a} ha hm => by
        have := mem3 hm
        omega
      have ht : h₃.IsTuple p.1 p.2.toArray := ⟨ot, up _ _ (offp (lo _ hmt)) (N₁ _ hmt).1, hct, nt, hdt⟩
      have hD₃ : h₃.get? D = some (lst ((its.take i).flatMap (·.2))) := hs₃'.extBut _ _ (Ne.symm nCD) (hk₂ _ _ (by simpa using Ne.symm nID) hD')
      have st₃ : h₃.IsListIter I ax (i + 1) ∧ h₃.IsList ax (its.map fun p => Value.ref p.1).toArray := W.frame _ _ _ st₂ fun b hb o e => hs₃'.extBut b o (fun q => by
          rcases List.mem_cons.mp hb with h | h
          · exact nIC (h.symm.trans q)
          · exact naC ((List.mem_singleton.mp h).symm.trans q)) e
      have hn₃' : h₃.Ns C _ := hn₃
      refine wpAny_pyIter_tuple ht ?_
      refine wpAny_bind (wpAny_runOwn ?_)
      have pu : ∀ b o, h₃.get? b = some o → (h₃.push { cls := .type "tuple_iterator", data := .fields #[.ref p.1, .int 0 0] }).get? b = some o := fun b o e => Heap.get?_push_of_some _ e
      have lC : @LT.lt Nat _ C h₃.objs.size := hn₃'.lt
      have lD : @LT.lt Nat _ D h₃.objs.size := Heap.lt_size hD₃
      have lI : @LT.lt Nat _ I h₃.objs.size := by obtain ⟨o, e, _⟩ := st₃.1; exact Heap.lt_size e
      have lt := lo _ hmt
      have la := lo _ hax
      refine nest_inner (C := C) (J := h₃.objs.size) (t := p.1) (D := D) (vs := p.2) (ys := (its.take i).flatMap (·.2)) hh rfl kf (lookup_relabel_local hy) hdy ⟨_, Heap.get?_push_size _ rfl, rfl, rfl⟩ (ht.at fun o e => pu _ o e) (pu _ _ hD₃) (hn₃'.at' fun o e => pu _ o e)
        (Nat.ne_of_gt lC) (Nat.ne_of_gt lD) nCD (neN (by dsimp only at lt; omega)) (neN (by dsimp only at lt; omega)) (neN (by dsimp only at lt; omega)) (Nat.le_trans (flat_take_len hp) hsz) ?_
      intro h₄ tk₄ m₄ K₄ hD₄ hn₄
      refine wpAny_pure ⟨rfl, its.length + 1 - (i + 1), by omega, h₄, _, i + 1, m₄, rfl, hlt, rfl, ?_, ?_, hn₄, ?_⟩
      · refine W.frame _ _ _ st₃ fun b hb o e => K₄ b o (fun hm => ?_) (pu b o e)
        have lb : @LT.lt Nat _ b h₃.objs.size := Heap.lt_size e
        have m1 := mem3 hm
        have m2 := mem2 hb
        dsimp only at la
        omega
      · rw [flat_take_succ hp]; exact hD₄
      · refine fun b o hb e => K₄ b o (fun hm => ?_) (pu b o (up b o hb e))
        have lb : @LT.lt Nat _ b h₃.objs.size := Heap.lt_size (up b o hb e)
        have m1 := mem3 hm
        rcases m1 with m1 | m1 | m1
        · omega
        · exact hb (by rw [show b = C from m1]; simp)
        · exact hb (by rw [show b = D from m1]; simp)
    · obtain rfl : i = its.length := Nat.le_antisymm hi (Nat.not_lt.mp hlt)
      refine W.done _ _ _ (by rw [szz]; exact st) fun h₂ tk₂ hk₂ => ?_
      dsimp only
      have K₂ : KeepBut [I, C, D] h₁ h₂ := fun b o hb e => hk₂ b o (fun q => hb (by simp at q; simp [q])) (K b o hb e)
      rw [List.take_length] at hD'
      have hD₂ : h₂.get? D = some (lst (its.flatMap (·.2))) := hk₂ _ _ (by simpa using Ne.symm nID) hD'
      refine wpAny_pure ⟨m'', hn'.at' fun o e => hk₂ _ o (by simpa using Ne.symm nIC) e, fun h'' hs'' => ?_⟩
      have hs3 : Heap.SameBut C h₂ h'' := hs''
      have K₃ : KeepBut [I, C, D] h₁ h'' := fun b o hb e => hs3.extBut b o (fun q => hb (by simp [q])) (K₂ b o hb e)
      have offp : ∀ {a : Addr}, @LT.lt Nat _ a I → a ∉ [I, C, D] := fun {a} ha hm => by
        have := mem3 hm
        omega
      refine fin D h'' _ (fr_keepBut F₁ K₃ fun a ha => fresh₀ a (by
        have := mem3 ha
        omega)) (fun p hp => ?_) (fun p hp => ?_)
      · rcases List.mem_cons.mp hp with rfl | hp
        · exact ⟨hs3.extBut _ _ (Ne.symm nCD) hD₂, fresh₀ D (by omega)⟩
        · exact ⟨K₃ _ _ (offp (lo p hp)) (N₁ p hp).1, (N₁ p hp).2⟩
      · have := lo p hp
        exact neN (by omega)
  exact codeAny_compStart_list (loop _ rfl) (W.self 0 _ _ _ st0 (loop _ rfl))
end
end Mine
end
section
open PySem PySem.W PyProof.Rows PySem.Calls PyProof.V PySem.Spec
set_option Elab.async false
set_option maxRecDepth 100000
local macro_rules | `(tactic| omega) => `(tactic| lia)
namespace Mine
section
variable {prog : Program} {w : World} {A : Around} {E : Value → Shared → Prop} {s : Shared} {env : Env} {h₀ : Heap} {x : Str} {px : Pos} {body : List Stmt} {Q : Flow → Shared → Prop}
/-- what a for whose name is captured comes to -/
def CelSrc (prog : Program) (w : World) (A : Around) (E : Value → Shared → Prop) (env : Env) (x : Str) (px : Pos) (body : List Stmt) (Q : Flow → Shared → Prop) (xv : Value) (s₁ : Shared) : Prop :=
  wpAny (model prog w) A (pyIter xv) (fun it s₂ => codeAny (model prog w) A (.forLoop (.Name x px) it body [] env) (fun r s' => match r with | .ok f => Q f s' | .error e => cameBackBy (model prog w) A env E e s') s₂) E s₁
theorem For_cel {iter : Expr} {pos : Pos} (h : wpAny (model prog w) A (eval iter env) (CelSrc prog w A E env x px body Q) E s) (hs : ∀ x, foldedSetIterable iter env x = pure x := by intro _; rfl) :
    wpAny (model prog w) A (exec (.For (.Name x px) iter body [] pos) env) Q E s := wpAny_For h hs
/-- a turn's end, the name's cell told apart -/
def CelEnd (h₀ : Heap) (L : Addr) (s : Shared) (I : Addr) (it : Obj) (c : Addr) (oc : Obj) (rest : (Str → Option Value) → List (Addr × Obj) → Prop) (f : Flow) (s₂ : Shared) : Prop :=
  (f = .next ∨ f = .cont) ∧ ∃ h' tk m' news', s₂ = { s with heap := h', toks := tk } ∧ Fr h₀ L h' m' ∧ News h₀ L h' ((I, it) :: (c, oc) :: news') ∧ rest m' news'
theorem mem_addr {l l' : List (Addr × Obj)} (e : l.map (·.1) = l'.map (·.1)) {p : Addr × Obj} (hp : p ∈ l) : ∃ q ∈ l', q.1 = p.1 := by
  have : p.1 ∈ l'.map (·.1) := e ▸ List.mem_map_of_mem hp
  obtain ⟨q, hq, e⟩ := List.mem_map.mp this
  exact ⟨q, hq, e⟩
theorem CelSrc.range {σ : Type} {r : Addr} {a b : Int} {t u v : Tok} {n : Nat} {m₀ : Str → Option Value} {c : Addr} {oc₀ : Obj} (Led : σ → List (Addr × Obj)) (stored : List Str) (Inv : Nat → σ → Prop) (c₀ : σ)
    (hh : A.handled = none) (hk : env.scope.kind = .function) (hx : env.kindOf x = some .cell) (hc : env.cells.lookup x = some c) (hE : PassesOwn (model prog w) A env E)
    (hr : IsRange s.heap r a b 1 t u v) (hsm : Builtin.Range.small a b 1 = true) (hn : Builtin.Range.rangeSize a b 1 = (n : Int)) (F : Fr h₀ env.locals s.heap m₀) (N : News h₀ env.locals s.heap ((c, oc₀) :: Led c₀)) (hoc : ∃ z, oc₀.data = .cell z)
    (hadr : ∀ d, (Led d).map (·.1) = (Led c₀).map (·.1)) (hoff : ∀ p ∈ Led c₀, p.1 ≠ c) (hv : Inv 0 c₀)
    (turn : ∀ I : Addr, (∀ p ∈ (c, oc₀) :: Led c₀, p.1 < I) → ∀ (i : Nat) (d : σ) (uu : Str → Option Value) (it oc : Obj) (tt : Tok) h tk, i < n → Inv i d → oc.data = .cell (some (.int (a + (i : Int)) tt)) → Fr h₀ env.locals h (stM stored m₀ uu []) → News h₀ env.locals h ((I, it) :: (c, oc) :: Led d) →
      wpAny (model prog w) A (execs body env) (CelEnd h₀ env.locals { s with heap := h, toks := tk } I it c oc (StEnd Led (fun _ => []) stored m₀ (Inv (i + 1)))) E { s with heap := h, toks := tk })
    (done : ∀ d (uu : Str → Option Value) h tk, Inv n d → Fr h₀ env.locals h (stM stored m₀ uu []) → News h₀ env.locals h (Led d) → Q .next { s with heap := h, toks := tk }) :
    CelSrc prog w A E env x px body Q (.ref r) s := by
  unfold CelSrc
  refine wpAny_pyIter_range hr hsm ?_
  have lo : ∀ p ∈ (c, oc₀) :: Led c₀, p.1 < s.heap.objs.size := fun p hp => Heap.lt_size (N p hp).1
  have turn := turn s.heap.objs.size lo
  have hLI : env.locals ≠ s.heap.objs.size := Nat.ne_of_lt F.ns.lt
  have hI₀ : h₀.get? s.heap.objs.size = none := next_is_new F
  generalize hI : s.heap.objs.size = I at turn lo hLI hI₀ ⊢
  have ledI : ∀ d, ∀ p ∈ Led d, p.1 ≠ I := fun d p hp => by
    obtain ⟨q, hq, e⟩ := mem_addr (hadr d) hp
    rw [← e]; exact Nat.ne_of_lt (lo q (List.mem_cons_of_mem _ hq))
  have ledc : ∀ d, ∀ p ∈ Led d, p.1 ≠ c := fun d p hp => by
    obtain ⟨q, hq, e⟩ := mem_addr (hadr d) hp
    rw [← e]; exact hoff q hq
  have hcI : c ≠ I := Nat.ne_of_lt (lo (c, oc₀) (.head _))
  have hcL : c ≠ env.locals := (N (c, oc₀) (.head _)).2.1
  have hc₀ : h₀.get? c = none := (N (c, oc₀) (.head _)).2.2
  have W : Walks prog w A I [I] [I] n (fun i v => ∃ t, v = .int (a + (i : Int)) t) (fun i h => IsRangeIter h I (a + (i : Nat) * 1) ((n : Int) - (i : Nat)) 1) := LCg.range_walks hh a n
  refine codeAny_forLoop (R := fun r s' => match r with | .ok f => Q f s' | .error e => cameBackBy (model prog w) A env E e s')
    (fun k s' => ∃ h' tk i d oc uu, s' = { s with heap := h', toks := tk } ∧ i ≤ n ∧ k = n + 1 - i ∧ IsRangeIter h' I (a + (i : Nat) * 1) ((n : Int) - (i : Nat)) 1 ∧ Inv i d ∧ (∃ z, oc.data = .cell z) ∧ Fr h₀ env.locals h' (stM stored m₀ uu []) ∧ News h₀ env.locals h' ((c, oc) :: Led d)) ?_ (n + 1)
    ⟨_, s.toks, 0, c₀, oc₀, m₀, rfl, Nat.zero_le _, rfl, ?_, hv, hoc, ?_, ?_⟩
  · rintro k s' ⟨h', tk, i, d, oc, uu, rfl, hi, rfl, st, iv, ⟨z, hz⟩, F', N'⟩
    have ha : ∀ p ∈ (c, oc) :: Led d, p.1 ≠ I := fun p hp => by
      rcases List.mem_cons.mp hp with rfl | hp
      · exact hcI
      · exact ledI d p hp
    by_cases hlt : i < n
    · refine W.item i _ _ _ hlt st fun v h₁ tk₁ hP st₁ hk₁ => ?_
      obtain ⟨tt, rfl⟩ := hP
      have F₁ : Fr h₀ env.locals h₁ (stM stored m₀ uu []) := LCg.fr_but F' hk₁ hLI hI₀
      have N₁ : News h₀ env.locals h₁ ((c, oc) :: Led d) := LCg.news_but N' hk₁ ha
      refine wpAny_assign_Name (wpAny_storeName_cell hk hx hc ⟨oc, (N₁ _ (.head _)).1, hz⟩ fun h₂ hc₂ hs₂ => ?_)
      have hs₂' : Heap.SameBut c h₁ h₂ := hs₂
      obtain ⟨oc', e', hd'⟩ := hc₂
      have F₂ : Fr h₀ env.locals h₂ (stM stored m₀ uu []) := F₁.change hs₂' hcL hc₀
      have st₂ : IsRangeIter h₂ I (a + ((i + 1 : Nat) : Nat) * 1) ((n : Int) - ((i + 1 : Nat) : Nat)) 1 := W.frame _ _ _ st₁ fun b hb o e => hs₂'.extBut b o (fun q => hcI (q.symm.trans (List.mem_singleton.mp hb))) e
      have N₂ : News h₀ env.locals h₂ ((I, _) :: (c, oc') :: Led d) := fun p hp => by
        rcases List.mem_cons.mp hp with rfl | hp
        · exact ⟨st₂, Ne.symm hLI, hI₀⟩
        · rcases List.mem_cons.mp hp with rfl | hp
          · exact ⟨e', hcL, hc₀⟩
          · have z := N₁ p (List.mem_cons_of_mem _ hp)
            exact ⟨hs₂'.extBut _ _ (ledc d p hp) z.1, z.2⟩
      refine wpAny_mono (wpAny_passesOwn hE (turn i d uu _ oc' tt h₂ tk₁ hlt iv hd' F₂ N₂)) (fun f s₃ h₃ => ?_) fun _ _ e => e
      obtain ⟨hf, h₃, tk₃, m', news', rfl, F₃, N₃, d', rfl, _, q2, iv'⟩ := h₃
      have nx : ∃ m, m < n + 1 - i ∧ ∃ h' tk i d oc uu, ({ s with heap := h₃, toks := tk₃ } : Shared) = { s with heap := h', toks := tk } ∧ i ≤ n ∧ m = n + 1 - i ∧ IsRangeIter h' I (a + (i : Nat) * 1) ((n : Int) - (i : Nat)) 1 ∧ Inv i d ∧ (∃ z, oc.data = .cell z) ∧ Fr h₀ env.locals h' (stM stored m₀ uu []) ∧ News h₀ env.locals h' ((c, oc) :: Led d) := by
        refine ⟨n + 1 - (i + 1), by omega, h₃, tk₃, i + 1, d', oc', m', rfl, hlt, rfl, (N₃ _ (.head _)).1, iv', ⟨_, hd'⟩, ?_, fun p hp => N₃ p (List.mem_cons_of_mem _ hp)⟩
        rw [stM_eq (ps := []) (fun p hp => nomatch hp) q2]; exact F₃
      rcases hf with rfl | rfl
      · exact nx
      · exact nx
    · obtain rfl : i = n := Nat.le_antisymm hi (Nat.not_lt.mp hlt)
      refine W.done _ _ _ st fun h₁ tk₁ hk₁ => wpAny_execs_nil ?_
      exact done d uu h₁ tk₁ iv (LCg.fr_but F' hk₁ hLI hI₀) fun p hp => LCg.news_but N' hk₁ ha p (List.mem_cons_of_mem _ hp)
  · show IsRangeIter _ _ _ _ _
    rw [hn, ← hI]; simpa using Heap.get?_push_size _ rfl
  · rw [stM_eq (ps := []) (fun p hp => nomatch hp) fun _ _ _ => rfl]; exact F.push _
  · exact fun p hp => ⟨Heap.get?_push_of_some _ (N p hp).1, (N p hp).2⟩
end
end Mine
end
section
open PySem PySem.W PyProof.Rows PySem.Calls
set_option Elab.async false
set_option maxRecDepth 100000
namespace Mine
section
variable {h₀ h : Heap} {L : Addr} {m : Str → Option Value}
theorem trim9 {z d2 d c1 c2 c3 c4 c5 k7 k3 r7 r3 : Addr × Obj} {tl : List (Addr × Obj)} (N : News h₀ L h (z :: d2 :: d :: c1 :: c2 :: c3 :: c4 :: c5 :: k7 :: k3 :: r7 :: r3 :: tl)) : News h₀ L h (z :: d :: c1 :: c2 :: c3 :: c4 :: c5 :: k7 :: k3 :: tl) := fun p hp => N p (by
  simp only [List.mem_cons] at hp ⊢
  rcases hp with h | h | h | h | h | h | h | h | h | h
  · exact .inl h
  · exact .inr (.inr (.inl h))
  · exact .inr (.inr (.inr (.inl h)))
  · exact .inr (.inr (.inr (.inr (.inl h))))
  · exact .inr (.inr (.inr (.inr (.inr (.inl h)))))
  · exact .inr (.inr (.inr (.inr (.inr (.inr (.inl h))))))
  · exact .inr (.inr (.inr (.inr (.inr (.inr (.inr (.inl h)))))))
  · exact .inr (.inr (.inr (.inr (.inr (.inr (.inr (.inr (.inl h))))))))
  · exact .inr (.inr (.inr (.inr (.inr (.inr (.inr (.inr (.inr (.inl h)))))))))
  · exact .inr (.inr (.inr (.inr (.inr (.inr (.inr (.inr (.inr (.inr (.inr (.inr h))))))))))))
theorem ne9 {z : Addr} {d2 d c1 c2 c3 c4 c5 k7 k3 r7 r3 : Addr × Obj} {tl : List (Addr × Obj)} (l : ∀ p ∈ d2 :: d :: c1 :: c2 :: c3 :: c4 :: c5 :: k7 :: k3 :: r7 :: r3 :: tl, p.1 ≠ z) :
    ((@Ne Nat d.1 z) ∧ (@Ne Nat c1.1 z) ∧ (@Ne Nat c2.1 z) ∧ (@Ne Nat c3.1 z) ∧ (@Ne Nat c4.1 z) ∧ (@Ne Nat c5.1 z) ∧ (@Ne Nat k7.1 z) ∧ (@Ne Nat k3.1 z)) ∧ ∀ p ∈ tl, p.1 ≠ z :=
  ⟨⟨l d (by simp), l c1 (by simp), l c2 (by simp), l c3 (by simp), l c4 (by simp), l c5 (by simp), l k7 (by simp), l k3 (by simp)⟩, fun p hp => l p (by simp [hp])⟩
theorem pull4 {a b c d : Addr × Obj} {tl : List (Addr × Obj)} (N : News h₀ L h (a :: b :: c :: d :: tl)) : News h₀ L h (d :: a :: b :: c :: tl) := fun p hp => N p (by
  simp only [List.mem_cons] at hp ⊢
  rcases hp with h | h | h | h | h
  · exact .inr (.inr (.inr (.inl h)))
  · exact .inl h
  · exact .inr (.inl h)
  · exact .inr (.inr (.inl h))
  · exact .inr (.inr (.inr (.inr h))))
end
end Mine
end
section
local macro_rules | `(tactic| omega) => `(tactic| lia)
namespace Mine
theorem fdiv_of {a b q r : Int} (hb : 0 < b) (e : a = b * q + r) (h0 : 0 ≤ r) (h1 : r < b) : a.fdiv b = q := by
  rw [Int.fdiv_eq_ediv_of_nonneg _ (by omega), e]
  rw [Int.add_comm, Int.add_mul_ediv_left _ _ (by omega), Int.ediv_eq_zero_of_lt h0 h1]; omega
theorem line_split {R N : Int} (h : N ≠ 0) : ∃ σ P q c : Int, (σ = 1 ∨ σ = -1) ∧ 0 ≤ P ∧ P < q ∧ N = σ * q ∧ R.fmod N = σ * P ∧ q.natAbs = N.natAbs ∧ ∀ n : Nat, (R * (n : Int)).fdiv N = c * n + Ht P q n := by
  have go : ∀ (R N : Int), 0 < N → ∃ c : Int, 0 ≤ R.emod N ∧ R.emod N < N ∧ ∀ n : Nat, (R * (n : Int)).fdiv N = c * n + Ht (R.emod N) N n := by
    intro R N hN
    refine ⟨R / N, Int.emod_nonneg _ (by omega), Int.emod_lt_of_pos _ hN, fun n => ?_⟩
    rw [Int.fdiv_eq_ediv_of_nonneg _ (by omega)]
    have e : R * (n : Int) = R.emod N * n + N * (R / N * n) := by
      have := Int.mul_ediv_add_emod R N
      have e2 : R = N * (R / N) + R % N := by omega
      have : R * (n : Int) = (N * (R / N) + R % N) * n := by rw [← e2]
      rw [this, Int.add_mul, Int.add_comm, Int.mul_assoc]; rfl
    rw [e, Int.add_mul_ediv_left _ _ (by omega)]
    unfold Ht
    rw [Int.mul_comm (R.emod N) n, Int.add_comm]
  rcases Int.lt_or_gt_of_ne h with hN | hN
  · obtain ⟨c, h0, h1, h2⟩ := go (-R) (-N) (by omega)
    refine ⟨-1, (-R).emod (-N), -N, c, .inr rfl, h0, h1, by omega, ?_, by omega, fun n => ?_⟩
    · rw [← Int.neg_neg R, ← Int.neg_neg N, Int.neg_fmod_neg, Int.neg_neg, Int.neg_neg, Int.fmod_eq_emod_of_nonneg _ (by omega)]
      show _ = -1 * ((-R) % (-N)); omega
    · rw [← h2 n, Int.neg_mul, Int.neg_fdiv_neg]
  · obtain ⟨c, h0, h1, h2⟩ := go R N hN
    refine ⟨1, R.emod N, N, c, .inl rfl, h0, h1, by omega, ?_, rfl, h2⟩
    rw [Int.fmod_eq_emod_of_nonneg _ (by omega)]; show _ = 1 * (R % N); omega
end Mine
end
section
open PySem PySem.W PyProof.Rows PySem.Calls
set_option Elab.async false
set_option maxRecDepth 100000
local macro_rules | `(tactic| omega) => `(tactic| lia)
namespace Mine
/-- a turn gives an int -/
def IntEnd (h₀ : Heap) (L : Addr) (m : Str → Option Value) (s₁ : Shared) (all : List (Addr × Obj)) (Ok : Int → Prop) (y : Value) (s₂ : Shared) : Prop :=
  ∃ z t h' tk', y = .int z t ∧ s₂ = { s₁ with heap := h', toks := tk' } ∧ Fr h₀ L h' m ∧ News h₀ L h' all ∧ Ok z
/-- a turn gives nothing -/
def OutEnd (h₀ : Heap) (L : Addr) (m : Str → Option Value) (s₁ : Shared) (all : List (Addr × Obj)) (Ok : Prop) (s₂ : Shared) : Prop :=
  ∃ h' tk', s₂ = { s₁ with heap := h', toks := tk' } ∧ Fr h₀ L h' m ∧ News h₀ L h' all ∧ Ok
theorem getElem?_snoc {α : Type} {l : List α} {a b : α} {j : Nat} (h : (l ++ [a])[j]? = some b) : (l[j]? = some b) ∨ (j = l.length ∧ b = a) := by
  rcases Nat.lt_trichotomy j l.length with hl | rfl | hl
  · rw [List.getElem?_append_left hl] at h; exact .inl h
  · simp at h; exact .inr ⟨rfl, h.symm⟩
  · rw [List.getElem?_eq_none (by simp; omega)] at h; cases h
section
open LCg
variable {prog : Program} {w : World} {A : Around} {s : Shared} {h₀ : Heap} {L : Addr} {m : Str → Option Value} {env : Env} {ct elt : Expr} {x : Str} {scope : Scope} {cl : List (Str × Addr)} {S : List (Addr × Obj) → Prop} {P : Nat → Value → Prop} {Fin : List Value → List (Addr × Obj) → Prop} {n : Nat}
theorem comp_ints_go (news : List (Addr × Obj)) (Ok : Nat → Int → Prop) (hS : S news)
    (turn : ∀ i v I oI C oC D ys m₂ h tk (E' : Value → Shared → Prop), i < n → P i v → NsObj oC m₂ → m₂ x = some v → Fr h₀ L h m → News h₀ L h ((I, oI) :: (C, oC) :: (D, lst ys) :: news) → Off3 I C D news → ((@Ne Nat I C) ∧ (@Ne Nat I D) ∧ (@Ne Nat C D)) →
      wpAny (model prog w) A (eval elt (compEnvC scope cl C env)) (IntEnd h₀ L m { s with heap := h, toks := tk } ((I, oI) :: (C, oC) :: (D, lst ys) :: news) (Ok i)) E' { s with heap := h, toks := tk })
    (fin : ∀ ys zs, IntsAre ys zs → zs.length = n → (∀ j z, zs[j]? = some z → Ok j z) → Fin ys news) :
    ∀ k i ys zs, i + k = n → IntsAre ys zs → zs.length = i → (∀ j z, zs[j]? = some z → Ok j z) → CompRest prog w A h₀ L m env elt x scope cl s S P Fin k i ys news
  | 0, i, ys, zs, e, hI, hl, ho => CompRest.zero (fin ys zs hI (by omega) ho)
  | k + 1, i, ys, zs, e, hI, hl, ho => CompRest.succ fun v I oI C oC D m₂ h tk E' hP hC hx F N off ne => by
    refine wpAny_mono (turn i v I oI C oC D ys m₂ h tk E' (by omega) hP hC hx F N off ne) (fun y s₂ hy => ?_) fun _ _ e => e
    obtain ⟨z, t, h', tk', rfl, rfl, F', N', ok⟩ := hy
    refine CompEnd.intro F' N' news (fun p hp => hp) off hS (comp_ints_go news Ok hS turn fin k (i + 1) _ (zs ++ [z]) (by omega) (hI.append (.cons z t .nil)) (by simp [hl]) fun j u hj => ?_)
    rcases getElem?_snoc hj with hj | ⟨rfl, rfl⟩
    · exact ho j u hj
    · rw [hl]; exact ok
theorem comp_ints (news : List (Addr × Obj)) (Ok : Nat → Int → Prop) (hS : S news)
    (turn : ∀ i v I oI C oC D ys m₂ h tk (E' : Value → Shared → Prop), i < n → P i v → NsObj oC m₂ → m₂ x = some v → Fr h₀ L h m → News h₀ L h ((I, oI) :: (C, oC) :: (D, lst ys) :: news) → Off3 I C D news → ((@Ne Nat I C) ∧ (@Ne Nat I D) ∧ (@Ne Nat C D)) →
      wpAny (model prog w) A (eval elt (compEnvC scope cl C env)) (IntEnd h₀ L m { s with heap := h, toks := tk } ((I, oI) :: (C, oC) :: (D, lst ys) :: news) (Ok i)) E' { s with heap := h, toks := tk })
    (fin : ∀ ys zs, IntsAre ys zs → zs.length = n → (∀ j z, zs[j]? = some z → Ok j z) → Fin ys news) :
    CompRest prog w A h₀ L m env elt x scope cl s S P Fin n 0 [] news :=
  comp_ints_go news Ok hS turn fin n 0 [] [] (by omega) .nil rfl fun j z h => by simp at h
/-- the items that a test lets through -/
def Kept (keep : Nat → Bool) (val : Nat → Int) (i : Nat) : List Int := ((List.range i).filter keep).map val
theorem kept_yes {keep : Nat → Bool} {val : Nat → Int} {i : Nat} (h : keep i = true) : Kept keep val (i + 1) = Kept keep val i ++ [val i] := by
  unfold Kept; rw [List.range_succ, List.filter_append, List.map_append]; simp [h]
theorem kept_no {keep : Nat → Bool} {val : Nat → Int} {i : Nat} (h : keep i = false) : Kept keep val (i + 1) = Kept keep val i := by
  unfold Kept; rw [List.range_succ, List.filter_append, List.map_append]; simp [h]
theorem comp_test_go (news : List (Addr × Obj)) (keep : Nat → Bool) (val : Nat → Int) (hS : S news)
    (turn : ∀ i v I oI C oC D ys m₂ h tk (E' : Value → Shared → Prop), i < n → P i v → NsObj oC m₂ → m₂ x = some v → Fr h₀ L h m → News h₀ L h ((I, oI) :: (C, oC) :: (D, lst ys) :: news) → Off3 I C D news → ((@Ne Nat I C) ∧ (@Ne Nat I D) ∧ (@Ne Nat C D)) →
      wpAny (model prog w) A (isTrue ct (compEnvC scope cl C env) (eval ct (compEnvC scope cl C env))) (fun ok s' => if ok = true then
        wpAny (model prog w) A (eval elt (compEnvC scope cl C env)) (IntEnd h₀ L m { s with heap := h, toks := tk } ((I, oI) :: (C, oC) :: (D, lst ys) :: news) (fun z => keep i = true ∧ z = val i)) E' s'
        else OutEnd h₀ L m { s with heap := h, toks := tk } ((I, oI) :: (C, oC) :: (D, lst ys) :: news) (keep i = false) s') E' { s with heap := h, toks := tk })
    (fin : ∀ ys, IntsAre ys (Kept keep val n) → Fin ys news) :
    ∀ k i ys, i + k = n → IntsAre ys (Kept keep val i) → LCt.CompRestT prog w A h₀ L m env ct elt x scope cl s S P Fin k i ys news
  | 0, i, ys, e, hI => LCt.CompRestT.zero (fin ys (by rw [← e]; exact hI))
  | k + 1, i, ys, e, hI => LCt.CompRestT.succ fun v I oI C oC D m₂ h tk E' hP hC hx F N off ne => by
    refine wpAny_mono (turn i v I oI C oC D ys m₂ h tk E' (by omega) hP hC hx F N off ne) (fun ok s' h1 => ?_) fun _ _ e => e
    cases ok with
    | true =>
      simp only [if_true] at h1 ⊢
      refine wpAny_mono h1 (fun y s₂ hy => ?_) fun _ _ e => e
      obtain ⟨z, t, h', tk', rfl, rfl, F', N', hk, rfl⟩ := hy
      refine CompEnd.intro F' N' news (fun p hp => hp) off hS (comp_test_go news keep val hS turn fin k (i + 1) _ (by omega) ?_)
      rw [kept_yes hk]; exact hI.append (.cons _ t .nil)
    | false =>
      simp only [Bool.false_eq_true, if_false] at h1 ⊢
      obtain ⟨h', tk', rfl, F', N', hk⟩ := h1
      refine CompEnd.intro F' N' news (fun p hp => hp) off hS (comp_test_go news keep val hS turn fin k (i + 1) _ (by omega) ?_)
      rw [kept_no hk]; exact hI
theorem comp_test (news : List (Addr × Obj)) (keep : Nat → Bool) (val : Nat → Int) (hS : S news)
    (turn : ∀ i v I oI C oC D ys m₂ h tk (E' : Value → Shared → Prop), i < n → P i v → NsObj oC m₂ → m₂ x = some v → Fr h₀ L h m → News h₀ L h ((I, oI) :: (C, oC) :: (D, lst ys) :: news) → Off3 I C D news → ((@Ne Nat I C) ∧ (@Ne Nat I D) ∧ (@Ne Nat C D)) →
      wpAny (model prog w) A (isTrue ct (compEnvC scope cl C env) (eval ct (compEnvC scope cl C env))) (fun ok s' => if ok = true then
        wpAny (model prog w) A (eval elt (compEnvC scope cl C env)) (IntEnd h₀ L m { s with heap := h, toks := tk } ((I, oI) :: (C, oC) :: (D, lst ys) :: news) (fun z => keep i = true ∧ z = val i)) E' s'
        else OutEnd h₀ L m { s with heap := h, toks := tk } ((I, oI) :: (C, oC) :: (D, lst ys) :: news) (keep i = false) s') E' { s with heap := h, toks := tk })
    (fin : ∀ ys, IntsAre ys (Kept keep val n) → Fin ys news) : LCt.CompRestT prog w A h₀ L m env ct elt x scope cl s S P Fin n 0 [] news :=
  comp_test_go news keep val hS turn fin n 0 [] (by omega) .nil
end
section
variable {prog : Program} {w : World} {A : Around} {E : Value → Shared → Prop} {s : Shared} {value slice : Expr} {Q : Value → Shared → Prop} {l : Addr} {k : Int} {u : Tok}
theorem ints_item {vs : List Value} {ns : List Int} (I : IntsAre vs ns) : ∀ {j : Nat}, j < ns.length → ∃ t, vs[j]? = some (.int (ns.getD j 0) t) := by
  induction I with
  | nil => intro j h; simp at h
  | @cons z tz ws ms _ ih =>
    intro j h
    cases j with
    | zero => exact ⟨tz, rfl⟩
    | succ j => exact ih (by simpa using h)
theorem item_ints {vs : List Value} {ns : List Int} (hl : s.heap.IsList l vs.toArray) (I : IntsAre vs ns) (h0 : 0 ≤ k) (hk : k < (ns.length : Int)) (hfit : ns.length ≤ 1000) (h : ∀ t', Q (.int (ns.getD k.toNat 0) t') s)
    (hs : subscripted slice false (.ref l) (.int k u) = operate [.ref l, .int k u] (getItem (.ref l) (.int k u)) := by with_unfolding_all rfl) :
    wpAny (model prog w) A (subscriptTail value slice (.ref l) (.int k u)) Q E s := by
  obtain ⟨t, e⟩ := ints_item I (j := k.toNat) (by omega)
  exact tail_any hl.typeIs slot_list_getitem.lookup (wpAny_getItem_list hl h0 (by omega) (x := .int (ns.getD k.toNat 0) t) (by rw [List.getElem?_toArray]; exact e) (h t)) hs
end
section
variable {prog : Program} {w : World} {A : Around} {E : Value → Shared → Prop} {s : Shared} {env : Env} {h₀ : Heap} {x : Str} {px : Pos} {body : List Stmt} {Q : Flow → Shared → Prop}
theorem trimE {h : Heap} {L : Addr} {y z d c1 c2 c3 c4 c5 k7 k3 : Addr × Obj} {tl : List (Addr × Obj)} (N : News h₀ L h (y :: z :: d :: c1 :: c2 :: c3 :: c4 :: c5 :: k7 :: k3 :: tl)) : News h₀ L h (c1 :: y :: z :: d :: c2 :: c3 :: k7 :: k3 :: tl) := fun p hp => N p (by
  simp only [List.mem_cons] at hp ⊢
  rcases hp with h | h | h | h | h | h | h | h | h <;> simp [h])
/-- a for whose name is captured and that grows one list of ints -/
theorem CelSrc.due {r : Addr} {a b : Int} {t u v : Tok} {n : Nat} {m₀ : Str → Option Value} {c ld : Addr} {oc₀ : Obj} {rest : List (Addr × Obj)} (stored : List Str) (Inv : Nat → List Int → Prop)
    (hh : A.handled = none) (hk : env.scope.kind = .function) (hx : env.kindOf x = some .cell) (hc : env.cells.lookup x = some c) (hE : PassesOwn (model prog w) A env E)
    (hr : IsRange s.heap r a b 1 t u v) (hsm : Builtin.Range.small a b 1 = true) (hn : Builtin.Range.rangeSize a b 1 = (n : Int)) (F : Fr h₀ env.locals s.heap m₀) (N : News h₀ env.locals s.heap ((c, oc₀) :: (ld, listOf #[] 0) :: rest)) (hoc : ∃ z, oc₀.data = .cell z)
    (hoff : ∀ p ∈ (ld, listOf #[] 0) :: rest, p.1 ≠ c) (hv : Inv 0 [])
    (turn : ∀ I : Addr, (∀ p ∈ (c, oc₀) :: (ld, listOf #[] 0) :: rest, p.1 < I) → ∀ (i : Nat) vs ds cap (uu : Str → Option Value) (it oc : Obj) (tt : Tok) h tk, i < n → IntsAre vs ds → Inv i ds → oc.data = .cell (some (.int (a + (i : Int)) tt)) → Fr h₀ env.locals h (stM stored m₀ uu []) → News h₀ env.locals h ((I, it) :: (c, oc) :: (ld, listOf vs.toArray cap) :: rest) →
      wpAny (model prog w) A (execs body env) (CelEnd h₀ env.locals { s with heap := h, toks := tk } I it c oc (fun m' news' => ∃ vs' ds' cap', news' = (ld, listOf vs'.toArray cap') :: rest ∧ (∀ z, stored.contains z = false → m' z = m₀ z) ∧ IntsAre vs' ds' ∧ Inv (i + 1) ds')) E { s with heap := h, toks := tk })
    (done : ∀ vs ds cap (uu : Str → Option Value) h tk, IntsAre vs ds → Inv n ds → Fr h₀ env.locals h (stM stored m₀ uu []) → News h₀ env.locals h ((ld, listOf vs.toArray cap) :: rest) → Q .next { s with heap := h, toks := tk }) :
    CelSrc prog w A E env x px body Q (.ref r) s := by
  refine CelSrc.range (σ := List Value × List Int × Nat) (fun c => (ld, listOf c.1.toArray c.2.2) :: rest) stored (fun i c => IntsAre c.1 c.2.1 ∧ Inv i c.2.1) ([], [], 0) hh hk hx hc hE hr hsm hn F N hoc (fun _ => rfl) hoff ⟨.nil, hv⟩ ?_ ?_
  · rintro I hI i ⟨vs, ds, cap⟩ uu it oc tt h tk hi ⟨iv, hd⟩ hoc F1 N1
    refine wpAny_mono (turn I hI i vs ds cap uu it oc tt h tk hi iv hd hoc F1 N1) (fun f s₂ h2 => ?_) fun _ _ e => e
    obtain ⟨hf, h', tk', m', news', e, F2, N2, vs', ds', cap', rfl, hm, iv', hd'⟩ := h2
    exact ⟨hf, h', tk', m', _, e, F2, N2, (vs', ds', cap'), rfl, (fun p hp => nomatch hp), (fun z _ hz => hm z hz), iv', hd'⟩
  · rintro ⟨vs, ds, cap⟩ uu h tk ⟨iv, hd⟩ F1 N1
    exact done vs ds cap uu h tk iv hd F1 N1
/-- the first size that serves m steps, or the last one -/
def DueOk (sz : List Int) (m : Nat) (z : Int) : Prop := ∃ K, K < sz.length ∧ (∀ k, k < K → sz.getD k 0 + sz.getD (k + 1) 0 < (m : Int) + 2) ∧ (K + 1 < sz.length → (m : Int) + 2 ≤ sz.getD K 0 + sz.getD (K + 1) 0) ∧ z = (m : Int) - sz.getD K 0
def DueInv (sz : List Int) (i : Nat) (ds : List Int) : Prop := ds.length = i ∧ ∀ j z, ds[j]? = some z → DueOk sz (j + 1) z
theorem DueInv.nil (sz : List Int) : DueInv sz 0 [] := ⟨rfl, fun j z h => by simp at h⟩
theorem DueInv.snoc {sz ds : List Int} {i : Nat} {z : Int} (h : DueInv sz i ds) (hz : DueOk sz (i + 1) z) : DueInv sz (i + 1) (ds ++ [z]) := by
  refine ⟨by simp [h.1], fun j u hj => ?_⟩
  rcases getElem?_snoc hj with hj | ⟨rfl, rfl⟩
  · exact h.2 j u hj
  · rw [h.1]; exact hz
/-- the head of the places that serve, the last place behind them -/
theorem first_kept {keep : Nat → Bool} {n : Nat} : ∃ K, K ≤ n ∧ (Kept keep (fun k => (k : Int)) n ++ [(n : Int)]).getD 0 0 = (K : Int) ∧ (∀ k, k < K → keep k = false) ∧ (K < n → keep K = true) := by
  induction n with
  | zero => exact ⟨0, Nat.le_refl _, rfl, fun k h => by omega, fun h => by omega⟩
  | succ n ih =>
    obtain ⟨K, hK, e, h1, h2⟩ := ih
    rcases Nat.lt_or_ge K n with hlt | hge
    · refine ⟨K, by omega, ?_, h1, fun _ => h2 hlt⟩
      have hne : Kept keep (fun k => (k : Int)) n ≠ [] := fun q => by
        have : K ∈ (List.range n).filter keep := List.mem_filter.mpr ⟨List.mem_range.mpr hlt, h2 hlt⟩
        unfold Kept at q
        rw [List.map_eq_nil_iff] at q
        rw [q] at this; cases this
      obtain ⟨a, l, hl⟩ : ∃ a l, Kept keep (fun k => (k : Int)) n = a :: l := by
        cases hh : Kept keep (fun k => (k : Int)) n with
        | nil => exact absurd hh hne
        | cons a l => exact ⟨a, l, rfl⟩
      rw [hl] at e
      cases hk : keep n with
      | true => rw [kept_yes hk, hl]; exact e
      | false => rw [kept_no hk, hl]; exact e
    · have hKn : K = n := by omega
      subst hKn
      have hnil : Kept keep (fun k => (k : Int)) K = [] := by
        unfold Kept
        rw [List.map_eq_nil_iff, List.filter_eq_nil_iff]
        intro k hk; rw [h1 k (List.mem_range.mp hk)]; simp
      cases hk : keep K with
      | true => exact ⟨K, by omega, by rw [kept_yes hk, hnil]; rfl, h1, fun _ => hk⟩
      | false =>
        refine ⟨K + 1, by omega, by rw [kept_no hk, hnil]; rfl, fun k hlt => ?_, fun h => by omega⟩
        rcases Nat.lt_or_ge k K with h | h
        · exact h1 k h
        · rw [show k = K by omega]; exact hk
theorem due_of {sz : List Int} {m n : Nat} (hn : sz.length = n + 1) {k : Int} (hk : k = (Kept (fun k => decide ((m : Int) + 2 ≤ sz.getD k 0 + sz.getD (k + 1) 0)) (fun k => (k : Int)) n ++ [(n : Int)]).getD 0 0) :
    0 ≤ k ∧ k < (sz.length : Int) ∧ DueOk sz m ((m : Int) - sz.getD k.toNat 0) := by
  obtain ⟨K, hK, e, h1, h2⟩ := first_kept (keep := fun k => decide ((m : Int) + 2 ≤ sz.getD k 0 + sz.getD (k + 1) 0)) (n := n)
  rw [e] at hk
  subst hk
  refine ⟨by omega, by omega, K, by omega, fun k hlt => ?_, fun hlt => ?_, by rw [Int.toNat_natCast]⟩
  · have := of_decide_eq_false (h1 k hlt)
    omega
  · exact of_decide_eq_true (h2 (by omega))
end
section
variable {prog : Program} {w : World} {A : Around} {E : Value → Shared → Prop} {s : Shared} {h₀ : Heap} {L : Addr} {m : Str → Option Value} {news : List (Addr × Obj)}
theorem op_addI {l b : Addr} {vs ws : List Value} {ns ms : List Int} {Q : Value → Shared → Prop} (F : Fr h₀ L s.heap m) (N : News h₀ L s.heap news) (hl : s.heap.IsList l vs.toArray) (hb : s.heap.IsList b ws.toArray) (hi : IntsAre vs ns) (hj : IntsAre ws ms) (hsz : ns.length + ms.length ≤ sizeLine)
    (h : ∀ D h', Fr h₀ L h' m → News h₀ L h' ((D, listOf (vs ++ ws).toArray 0) :: news) → (∀ p ∈ news, p.1 < D) → IntsAre (vs ++ ws) (ns ++ ms) → Q (.ref D) { s with heap := h' }) :
    wpAny (model prog w) A (binaryOp .Add (.ref l) (.ref b)) Q E s :=
  add_lists_ints (hsz := hsz) F N hl hb hi hj fun h' F' N' I => h _ h' F' N' (fun p hp => Heap.lt_size (N p hp).1) I
end
theorem kept_len {keep : Nat → Bool} {val : Nat → Int} {n : Nat} : (Kept keep val n).length ≤ n := by
  unfold Kept
  rw [List.length_map]
  exact Nat.le_trans (List.length_filter_le _ _) (Nat.le_of_eq List.length_range)
theorem ints_one {z z' : Int} {t : Tok} (h : z = z') : IntsAre [.int z t] [z'] := h ▸ .cons _ _ .nil
theorem len_snoc {l : List Int} {z : Int} {n : Nat} (h : l.length ≤ n) : (l ++ [z]).length ≤ n + 1 ∧ 0 < (l ++ [z]).length := by
  rw [List.length_append, List.length_singleton]; omega
theorem drop3 {h₀ h : Heap} {L : Addr} {a b c : Addr × Obj} {l : List (Addr × Obj)} (N : News h₀ L h (a :: b :: c :: l)) : News h₀ L h l := fun p hp => N p (.tail _ (.tail _ (.tail _ hp)))
theorem ksw1 {m₀ m' : Str → Option Value} {l : List Str} (h : ∀ z, (∀ p ∈ ([] : List (Str × Value)), z ≠ p.1) → l.contains z = false → m' z = m₀ z) : ∀ z, l.contains z = false → m' z = m₀ z := fun z hz => h z (fun p hp => nomatch hp) hz
end Mine
end
section
open PySem PySem.W PyProof.Rows PySem.Calls
set_option Elab.async false
set_option maxRecDepth 100000
local macro_rules | `(tactic| omega) => `(tactic| lia)
namespace Mine
theorem getD_some {l : List Int} {j : Nat} (h : j < l.length) : l[j]? = some (l.getD j 0) := by
  rw [List.getD_eq_getElem?_getD, List.getElem?_eq_getElem h]; rfl
/-- the table is what Euclid's run told -/
theorem tables_eq {P q cc rise run : Int} {sz zw tb ds : List Int} {cnt : Nat} (S : SizesOk P q sz) (hl : zw.length = cnt) (hc : cnt ≤ 50)
    (hw : ∀ (j : Nat) z, zw[j]? = some z → z = (rise * (1 + ((j + 1 : Nat) : Int))).fdiv run - (rise * (1 + (j : Int))).fdiv run)
    (hHt : ∀ n : Nat, (rise * (n : Int)).fdiv run = cc * n + Ht P q n) (TI : TabInv zw tb zw.length) (DI : DueInv sz cnt ds) : tb = ds := by
  have hwd : ∀ j : Nat, j < cnt → fnOfL zw j = cc + Ht P q ((j : Int) + 2) - Ht P q ((j : Int) + 1) := fun j hj => by
    have e := hw j _ (getD_some (by omega))
    have e1 := hHt (j + 2)
    have e2 := hHt (j + 1)
    rw [show (1 + ((j + 1 : Nat) : Int)) = ((j + 2 : Nat) : Int) by omega, show (1 + (j : Int)) = ((j + 1 : Nat) : Int) by omega, e1, e2] at e
    show zw.getD j 0 = _
    rw [e, show ((j + 2 : Nat) : Int) = (j : Int) + 2 by omega, show ((j + 1 : Nat) : Int) = (j : Int) + 1 by omega, Int.mul_add, Int.mul_add]
    omega
  refine List.ext_getElem? fun j => ?_
  rcases Nat.lt_or_ge j cnt with hj | hj
  · have d1 := getD_some (l := ds) (j := j) (by rw [DI.1]; exact hj)
    obtain ⟨K, hK, h1, h2, e⟩ := DI.2 j _ d1
    obtain ⟨b, eb, mb⟩ := TI.2 j (by omega)
    obtain ⟨mb', p1, p2⟩ := border_of S hwd (m := j + 1) (by omega) (by omega) (by omega) hK h1 h2
    have := mb.unique mb'
    rw [getD_some (l := tb) (by rw [TI.1]; omega), d1, eb, e, this]
    congr 1
    omega
  · rw [List.getElem?_eq_none (by rw [TI.1]; omega), List.getElem?_eq_none (by rw [DI.1]; omega)]
abbrev itsOf (tl : List Tp) : List (Addr × List Value) := tl.map fun t => (t.a, [Value.int t.q t.tq, Value.int t.r t.tr])
def flatV (tl : List Tp) : List Value := (itsOf tl).flatMap (·.2)
def flatI (tl : List Tp) : List Int := tl.flatMap fun t => [t.q, t.r]
theorem flat_ints : ∀ tl : List Tp, IntsAre (flatV tl) (flatI tl)
  | [] => .nil
  | _ :: tl => .cons _ _ (.cons _ _ (flat_ints tl))
theorem flat_len : ∀ tl : List Tp, (flatV tl).length = 2 * tl.length ∧ (flatI tl).length = 2 * tl.length
  | [] => ⟨rfl, rfl⟩
  | t :: tl => by
    have h := flat_len tl
    have e1 : (flatV (t :: tl)).length = (flatV tl).length + 2 := rfl
    have e2 : (flatI (t :: tl)).length = (flatI tl).length + 2 := rfl
    rw [e1, e2, List.length_cons]; omega
theorem nest_src {A : Around} {h₀ : Heap} {L : Addr} {m : Str → Option Value} {Q : Value → Shared → Prop} {s₁ : Shared} {tl : List Tp} {news : List (Addr × Obj)} {D : Addr} (hh : A.handled = none) (F : Fr h₀ L s₁.heap m) (N : News h₀ L s₁.heap news)
    (hD : (D, LCg.lst (tl.map Tp.val)) ∈ news) (ht : ∀ t ∈ tl, t.ent ∈ news) (hsz : 2 * tl.length ≤ sizeLine)
    (h : ∀ D' h tk, Fr h₀ L h m → News h₀ L h ((D', LCg.lst (flatV tl)) :: news) → (∀ p ∈ news, p.1 ≠ D') → Q (.ref D') { s₁ with heap := h, toks := tk }) : NestSrc A h₀ L m Q (.ref D) s₁ := by
  refine ⟨D, itsOf tl, (tl.map Tp.val).length, news, rfl, hh, F, N, ?_, fun p hp => ?_, ?_, h⟩
  · rw [List.map_map]; exact hD
  · obtain ⟨t, htm, rfl⟩ := List.mem_map.mp hp
    exact ⟨_, t.n, ht t htm, rfl, rfl⟩
  · exact Nat.le_trans (Nat.le_of_eq (flat_len tl).1) hsz
theorem trimH {h₀ h : Heap} {L : Addr} {t w y z d c2 c3 k7 k3 : Addr × Obj} {tl : List (Addr × Obj)} (N : News h₀ L h (t :: w :: y :: z :: d :: c2 :: c3 :: k7 :: k3 :: tl)) : News h₀ L h (t :: y :: d :: c3 :: k7 :: k3 :: tl) := fun p hp => N p (by
  simp only [List.mem_cons] at hp ⊢
  rcases hp with h | h | h | h | h | h | h <;> simp [h])
theorem trimI {h₀ h : Heap} {L : Addr} {e a n t y d c3 k7 k3 : Addr × Obj} {tl : List (Addr × Obj)} (N : News h₀ L h (e :: a :: n :: t :: y :: d :: c3 :: k7 :: k3 :: tl)) : News h₀ L h [e, k7, k3] := fun p hp => N p (by
  simp only [List.mem_cons, List.not_mem_nil, or_false] at hp ⊢
  rcases hp with h | h | h <;> simp [h])
section
variable {prog : Program} {w : World} {A : Around} {E : Value → Shared → Prop} {s : Shared} {h₀ : Heap} {L : Addr} {m : Str → Option Value} {env : Env}
theorem ListComp_NF {x y : Str} {px py px' py' : Pos} {iter : Expr} {scope : Scope} {pos : Pos} {cl : List (Str × Addr)} {Q : Value → Shared → Prop} (_F : Fr h₀ L s.heap m) (hclos : closureFor scope env = pure cl) (hcell : ∀ y ∈ scope.names, y.2 ≠ .cell) (hkind : scope.kind = .function)
    (hnames : ∀ y ∈ scope.names, y.2 = .local → scope.names.lookup y.1 = some .local) (hx : scope.names.lookup x = some .local) (hy : scope.names.lookup y = some .local)
    (hdx : (x == ("__debug__" : Str)) = false) (hdy : (y == ("__debug__" : Str)) = false)
    (h : wpAny (model prog w) A (eval iter env) (NestSrc A h₀ L m Q) E s)
    (hs : ∀ x, foldedSetIterable iter env x = pure x := by intro _; rfl) :
    wpAny (model prog w) A (eval (nestE x y px py px' py' iter scope pos) env) Q E s := ListComp_N hclos hcell hkind hnames hx hy hdx hdy h hs
end
theorem ints_at {vs : List Value} {ns : List Int} (I : IntsAre vs ns) {i : Nat} {v : Value} (h : vs.toArray[i]? = some v) : ∃ z t, v = .int z t := by
  rw [List.getElem?_toArray] at h
  have hl := (List.getElem?_eq_some_iff.mp h).1
  obtain ⟨t, e⟩ := ints_item I (j := i) (by rw [← I.length]; exact hl)
  rw [e] at h; cases h
  exact ⟨_, _, rfl⟩
theorem kept_none {ys : List Value} {val : Nat → Int} {n : Nat} (I : IntsAre ys (Kept (fun _ => false) val n)) : ys = [] := by
  have e : Kept (fun _ => false) val n = [] := by unfold Kept; simp
  rw [e] at I
  cases I; rfl
end Mine
end
section
open PySem PySem.W PyProof.Rows PySem.Calls
set_option Elab.async false
set_option maxRecDepth 100000
set_option maxHeartbeats 8000000
set_option pp.deepTerms.threshold 5
local macro_rules | `(tactic| omega) => `(tactic| lia)
namespace Mine
open Builtin.Int (intBits)
local macro_rules | `(tactic| walk_at "call ref") => `(tactic| refine Stop.mk ?_)
local macro_rules | `(tactic| walk_at "binaryOp Mult int int") => `(tactic| refine Stop.mk ?_)
local macro_rules | `(tactic| walk_at "call builtin:len") => `(tactic| refine Stop.mk ?_)
local macro_rules | `(tactic| walk_at "call builtin:list.append") => `(tactic| refine Stop.mk ?_)
local macro_rules | `(tactic| walk_at "pyIter ref") => `(tactic| refine Stop.mk ?_)
local macro_rules | `(tactic| walk_at "UnrPost") => `(tactic| refine Stop.mk ?_)
local macro_rules | `(tactic| walk_at "eval ListComp") => `(tactic| refine Stop.mk ?_)
local macro_rules | `(tactic| walk_at "CompSrc") => `(tactic| refine Stop.mk ?_)
local macro_rules | `(tactic| walk_at "CompRest") => `(tactic| refine Stop.mk ?_)
local macro_rules | `(tactic| walk_at "CompEnd") => `(tactic| refine Stop.mk ?_)
local macro_rules | `(tactic| k_all) => `(tactic| with_reducible assumption)
local macro_rules | `(tactic| walk_at "PairEnd") => `(tactic| refine Stop.mk ?_)
local macro_rules | `(tactic| k_all) => `(tactic| (with_reducible refine tail_lt (by with_reducible assumption) ?_; omega))
local macro_rules | `(tactic| walk_at "subscriptTail") => `(tactic| refine Stop.mk ?_)
local macro_rules | `(tactic| walk_at "exec For") => `(tactic| refine Stop.mk ?_)
local macro_rules | `(tactic| walk_at "CelSrc") => `(tactic| refine Stop.mk ?_)
local macro_rules | `(tactic| walk_at "CelEnd") => `(tactic| refine Stop.mk ?_)
local macro_rules | `(tactic| k_ne) => `(tactic| (refine neN ?_; (try dsimp only); first | with_reducible assumption | (with_reducible refine Ne.symm ?_; with_reducible assumption) | omega))
local macro_rules | `(tactic| walk_at "CompSrcT") => `(tactic| refine Stop.mk ?_)
local macro_rules | `(tactic| walk_at "CompRestT") => `(tactic| refine Stop.mk ?_)
local macro_rules | `(tactic| walk_at "binaryOp Add ref ref") => `(tactic| refine Stop.mk ?_)
local macro_rules | `(tactic| walk_at "NestSrc") => `(tactic| refine Stop.mk ?_)
local macro_rules | `(tactic| walk_at "IntEnd") => `(tactic| refine Stop.mk ?_)
local macro_rules | `(tactic| walk_at "OutEnd") => `(tactic| refine Stop.mk ?_)
theorem law_walk : PySem.Challenge.rw_re0060_01.Holds := hd (by
  w_strict (k_go0; (all_goals try k_fold); k_steps; skip)
  rename Below _ _ _ _ => B
  rename Fr _ _ _ _ => F
  rename News _ _ _ _ => N
  rename Top topProg _ _ _ _ _ => T
  rename Top hd.view_39 _ _ _ _ _ => T0
  rename TabsAt _ _ => hTA
  rename PyData.layable0 _ = true => hlay
  rename CodeHd _ (41, 37).fst _ => ch1
  rename CodeHd _ (34, 30).fst _ => ch2
  rename IntsAre _ _ => I
  rename List Int => ns
  rename List Value => vs
  have NS := ghost_seer hTA (T0.seer (by rfl))
  have CA : CodeAll tabs2 _ := ⟨ch1, ch2, trivial⟩
  refine Stop.go ?_
  k_dflt (refine con_pair (line_con _ _ _ _ I (fun x hx => intBits_le_of_item hx hlay) (by omega)) B F (by assumption) T NS CA N rfl (by decide) (by decide) (lifted.at fun o e => F.keep _ o e) ?_)
  intro rise run D0 t0 u0 n0 h1 tk1 hline K1 F1 N1 l1
  have l1 := allNe_of l1
  simp only [AllNe, and_true] at l1
  clear N F
  k_steps
  rename Fr _ _ _ _ => F
  rename News _ _ _ _ => N
  refine Stop.go (call_len_list (lifted.at fun o e => F.keep _ o e) (by rw [ints_size I]; omega) ?_)
  rw [ints_size I]
  k_steps
  obtain ⟨bR, bN, hN0⟩ := line_bits hline
  obtain ⟨cnt, hc, hc1, hc2⟩ : ∃ cnt : Nat, (18 : Int) + (ns.length : Int).fdiv 3 = (cnt : Int) ∧ 18 ≤ cnt ∧ cnt ≤ 39 := ⟨18 + ns.length / 3, by rw [Int.fdiv_eq_ediv_of_nonneg _ (by decide)]; omega, by omega, by omega⟩
  rename Fr _ _ _ _ => F
  rename News _ _ _ _ => N
  refine Stop.go ?_
  k_dflt (refine LCg.ListComp_U (F₀ := F) (by with_unfolding_all rfl) (by decide) (by rfl) (by decide) (by rfl) ?_)
  k_steps
  rename Fr _ _ _ _ => F
  rename News _ _ _ _ => N
  rename IsRange _ _ _ _ _ _ _ _ => hr
  refine Stop.go (LCg.CompSrc.range (n := cnt + 1) rfl F N hr (rng_small (by omega) (by omega) (by omega) (by omega)) (rng_size (by omega)) (by rw [sizeLine_eq]; omega) ?_)
  intro g1
  refine LCg.CompRest.succ ?_
  clear F N hr
  intro v It oI C oC D mc h2 tk2 E2 hv hC hx F N off ne
  obtain ⟨tp, rfl⟩ := hv
  have off0 := off
  simp only [LCg.Off3, and_true] at off
  k_steps
  refine Stop.go (op_mul (j := 1056900) (k := 10) bR (small_bits (by omega)) (by omega) ?_)
  intro p1 hp1
  have bp1 : intBits p1 ≤ 1056910 := by rw [hp1]; exact intBits_mul_le bR (small_bits (by omega))
  k_steps
  refine Stop.go ?_
  k_dflt (refine con_use (idm_E _ p1 run _ _ hN0 (by omega) (by omega)) B F (by k_asm) T NS CA rfl (by decide) (by decide) (by exact ⟨N.get (by k_mem), N.get (by k_mem)⟩) (fun a ha => by
        rcases List.mem_cons.mp ha with rfl | ha
        · exact (N (37, tabObj #[]) (by k_mem)).2
        · rw [List.mem_singleton.mp ha]; exact (N (30, tabObj #[]) (by k_mem)).2) ?_)
  intro rv h5 tk5 K5 F5 po
  obtain ⟨f7, f3, quo, rest, pr, hdm⟩ := po
  have hu := hdm.unique
  k_dflt (refine told_first F N off0 ?_ K5 F5 f7 f3 pr ?_)
  · refine List.forall_mem_cons.mpr ⟨?_, List.forall_mem_cons.mpr ⟨?_, List.forall_mem_cons.mpr ⟨?_, List.forall_mem_cons.mpr ⟨?_, List.forall_mem_cons.mpr ⟨?_, List.forall_mem_nil _⟩⟩⟩⟩⟩ <;> exact ⟨neN (by dsimp only; omega), neN (by dsimp only; omega)⟩
  intro a7 o7 a3 o3 r7 r3 s7 s3 t htq htr htf
  refine comp_pairs (n := cnt + 1) (fixL _ _ _ _ _ a7 o7 a3 o3) 1 (fun i t => t.q = (rise * (1 + (i : Int))).fdiv run ∧ t.r = (rise * (1 + (i : Int))).fmod run) (fun _ => trivial) ?turn ?fin cnt 1 [t] (by omega) (by omega) rfl ?ok htf
  case ok =>
    intro j u hj
    match j, hj with
    | 0, hj =>
      obtain rfl : t = u := by simpa using hj
      rw [htq, htr, hu.1, hu.2, hp1]; exact ⟨rfl, rfl⟩
    | j + 1, hj => simp at hj
  case turn =>
    clear F N off0 off ne hx hC htf htq htr pr hdm hu K5 F5 f7 f3 hp1 bp1
    intro i tl v It oI C oC D mc h6 tk6 E6 hi0 hi hlen hof hv hC hx F N off ne
    obtain ⟨tp, rfl⟩ := hv
    dsimp only [fixL, List.cons_append, List.nil_append] at N off
    simp only [LCg.Off3, and_true] at off
    k_steps
    refine Stop.go (op_mul (j := 1056900) (k := 10) bR (small_bits (by omega)) (by omega) ?_)
    intro p2 hp2
    have bp2 : intBits p2 ≤ 1056910 := by rw [hp2]; exact intBits_mul_le bR (small_bits (by omega))
    k_steps
    refine Stop.go ?_
    k_dflt (refine con_use (idm_F _ a7 a3 p2 run _ _ hN0 (by omega) (by omega)) B F (by k_asm) T NS CA rfl (by decide) (by decide) (by exact ⟨⟨N.get (by k_mem), N.get (by k_mem)⟩, r7.rec (N.get (by k_mem)), r3.rec (N.get (by k_mem))⟩) (fun a ha => by
        rcases List.mem_cons.mp ha with rfl | ha
        · exact (N (37, tabObj #[rawInt 47, rawInt 4, .ref a7]) (by k_mem)).2
        · rw [List.mem_singleton.mp ha]; exact (N (30, tabObj #[rawInt 32, rawInt 4, .ref a3]) (by k_mem)).2) ?_)
    intro rv h5 tk5 K5 F5 po
    obtain ⟨⟨f7, f3⟩, quo, rest, ⟨D9, tq, tr, nn, rfl, nD, gD⟩, hdm⟩ := po
    have hu := hdm.unique
    exact ⟨⟨D9, quo, rest, tq, tr, nn⟩, h5, tk5, rfl, rfl, F5, news_new F (news_same N K5 (f7.trans (N.get (by k_mem)).symm) (f3.trans (N.get (by k_mem)).symm)) nD gD, news_ne N nD, by rw [hu.1, hp2], by rw [hu.2, hp2]⟩
  case fin =>
    clear F N off0 off ne hx hC htf htq htr pr hdm hu K5 F5 f7 f3 hp1 bp1
    intro tl htl hok hof
    unfold LCg.FinE
    intro D h6 tk6 F N o1
    have z1 := off_tail hof (List.Mem.head _)
    have z2 := off_tail hof (List.Mem.tail _ (List.Mem.head _))
    have z3 := off_tail hof (List.Mem.tail _ (List.Mem.tail _ (List.Mem.head _)))
    have z4 := off_tail hof (List.Mem.tail _ (List.Mem.tail _ (List.Mem.tail _ (List.Mem.head _))))
    have z5 := off_tail hof (List.Mem.tail _ (List.Mem.tail _ (List.Mem.tail _ (List.Mem.tail _ (List.Mem.head _)))))
    have s7 := allNe_of s7
    have s3 := allNe_of s3
    simp only [AllNe, and_true] at s7 s3
    dsimp only [fixL, List.cons_append, List.nil_append] at N o1
    simp only [LCg.Off1, and_true] at o1
    k_steps
    rename Fr _ _ _ _ => F
    rename News _ _ _ _ => N
    refine Stop.go ?_
    k_dflt (refine LCg.ListComp_U (F₀ := F) (by with_unfolding_all rfl) (by decide) (by rfl) (by decide) (by rfl) ?_)
    k_steps
    rename Fr _ _ _ _ => F
    rename News _ _ _ _ => N
    rename IsRange _ _ _ _ _ _ _ _ => hr
    refine Stop.go (LCg.CompSrc.range (n := cnt + 1) rfl F N hr (rng_small (by omega) (by omega) (by omega) (by omega)) (rng_size (by omega)) (by rw [sizeLine_eq]; omega) ?_)
    intro g2
    refine comp_pairs0 _ (fun i t => t.q = (rise * (1 + (i : Int))).fdiv run ∧ t.r = (rise * (1 + (i : Int))).fmod run) (fun _ => trivial) ?turn2 ?fin2
    case turn2 =>
      clear F N hr
      intro i tl2 v It oI C oC D2 mc h7 tk7 E7 hi hlen hof2 hv hC hx F N off ne
      obtain ⟨tp, rfl⟩ := hv
      dsimp only [List.cons_append, List.nil_append] at N off ⊢
      simp only [LCg.Off3] at off
      k_steps
      refine Stop.go (op_mul (j := 1056900) (k := 10) bR (small_bits (by omega)) (by omega) ?_)
      intro p2 hp2
      k_steps
      · exact absurd (by assumption) hN0
      refine Stop.go (op_mul (j := 1056900) (k := 10) bR (small_bits (by omega)) (by omega) ?_)
      intro p3 hp3
      k_steps
      rename_i D9 h9 F9 N9 l9
      refine Stop.go ⟨⟨D9, p2.fdiv run, p3.fmod run, _, _, 0⟩, h9, _, rfl, rfl, F9, N9, tail_lt l9 (Nat.le_refl _), by rw [hp2], by rw [hp3]⟩
    case fin2 =>
      clear F N hr
      intro tl2 htl2 hok2 hof2
      unfold LCg.FinE
      intro D2 h7 tk7 F N o2
      dsimp only [List.cons_append, List.nil_append] at N o2
      simp only [LCg.Off1] at o2
      have heq : tl.map Tp.dat = tl2.map Tp.dat := dats_eq htl htl2 hok hok2
      k_dflt (refine kqd_ne N (by k_mem) rfl rfl (tp_dat tl fun _ h => h) ?sa (by k_mem) rfl rfl (tp_dat tl2 fun _ h => h) ?sb dats_ok dats_ok (show callerA.units + 3 + 64 < cLine by decide) ?_)
      case sa => exact fun p hp => by simp only [List.mem_cons, List.mem_append]; simp [hp]
      case sb => exact fun p hp => by simp only [List.mem_cons, List.mem_append]; simp [hp]
      rw [nd_false _ heq]
      k_steps
      refine Stop.go ?_
      k_dflt (refine ref_law _ rise t0 _ _ _ _ _ _ _ _ _ _ _ _ _ _ _ _ _ _ _ _ _ B F (by assumption) T (by assumption) T rfl (by decide) (by decide) ?_)
      intro h8 tk8 F8 K8
      have N8 := news_tail [_, _, _, _, _, _, _, _, _, _, _] (tl.map Tp.ent) (tl2.map Tp.ent) N K8
      dsimp only [List.cons_append, List.nil_append] at N8
      clear F N
      k_steps
      obtain ⟨t00, ht00⟩ : ∃ t, tl[0]? = some t := ⟨tl[0]'(by omega), List.getElem?_eq_getElem _⟩
      have m00 : t00.ent ∈ tl.map Tp.ent := List.mem_map.mpr ⟨t00, List.mem_of_getElem? ht00, rfl⟩
      refine Stop.go (item_told (News.isList N8 (n := _) (by k_mem)) (by decide) ht00 (by decide) ?_)
      k_steps
      refine Stop.go (item_pair (N8.get (List.Mem.tail _ (List.Mem.tail _ (List.Mem.tail _ (List.Mem.tail _ (List.Mem.tail _ (List.Mem.tail _ (List.Mem.tail _ (List.Mem.tail _ (List.Mem.tail _ (List.Mem.tail _ (List.Mem.tail _ m00)))))))))))) (by decide) (by decide) ?_)
      intro tr0
      have er0 : [t00.q, t00.r].getD (Int.toNat 1) 0 = rise.fmod run := by
        have := (hok 0 t00 ht00).2
        show t00.r = _
        rw [this]; simp
      rw [er0]
      k_steps

      obtain ⟨sg, P, q, cc, hsg, hP0, hPq, hNq, hRP, hqa, hHt⟩ := line_split (R := rise) hN0
      refine Stop.go ?_
      k_dflt (refine con_use (sizes_con _ a7 a3 sg P q hsg hP0 hPq (Nat.le_trans (bits_le_q (Nat.le_of_eq hqa) bN) (by decide)) run _ hNq hRP _ _) B F8 (by k_asm) T NS CA rfl (by decide) (by decide) (by exact ⟨⟨N8.get (by k_mem), N8.get (by k_mem)⟩, r7.rec (N8.get (by k_mem)), r3.rec (N8.get (by k_mem))⟩) (fun a ha => by
          rcases List.mem_cons.mp ha with rfl | ha
          · exact (N8 (37, tabObj #[rawInt 47, rawInt 4, .ref a7]) (by k_mem)).2
          · rw [List.mem_singleton.mp ha]; exact (N8 (30, tabObj #[rawInt 32, rawInt 4, .ref a3]) (by k_mem)).2) ?_)
      intro rv9 h9 tk9 K9 F9 po
      obtain ⟨⟨f7, f3⟩, sz, ⟨Dz, vz, rfl, nDz, gDz, Iz⟩, hso, hszl⟩ := po
      have N9 := news_new F8 (news_same N8 K9 (f7.trans (N8.get (by k_mem)).symm) (f3.trans (N8.get (by k_mem)).symm)) nDz gDz
      have l9 := news_ne N8 nDz
      have N10 := trim9 N9
      obtain ⟨⟨qa, qb, qc, qd, qe, qf, qg, qh⟩, q7⟩ := ne9 l9
      dsimp only at qa qb qc qd qe qf qg qh
      obtain ⟨oa, ob, oc, od, oe, of, og, -, -⟩ := o1
      clear N9 l9 N8 F8 K8 K9 l1 s7 s3 o2 hof hof2
      k_steps
      refine Stop.go (For_cel ?_)
      k_steps
      k_with "exec Assign cons ListComp" => refine Stop.mk ?_
      rename_i ld h12 l12 h13 F13 N13 h14 tk14 t14 u14 v14 hr14 F14 N14 k14
      have N15 := trimE N14
      clear F13 N13 N14 k14
      refine Stop.go ?_
      k_dflt (refine CelSrc.due (n := cnt) [Str.ofString "fitting"] (DueInv sz) rfl rfl rfl rfl (by passes_own) hr14 (rng_small (by omega) (by omega) (by omega) (by omega)) (rng_size (by omega)) F14 N15 ⟨_, by assumption⟩ ?hoff5 (DueInv.nil sz) ?turn5 ?done5)
      case hoff5 =>
        refine List.forall_mem_cons.mpr ⟨neN (by dsimp only; omega), List.forall_mem_cons.mpr ⟨neN (by dsimp only; omega), List.forall_mem_cons.mpr ⟨neN (by dsimp only; omega), List.forall_mem_cons.mpr ⟨neN (by dsimp only; omega), List.forall_mem_cons.mpr ⟨neN (by dsimp only; omega), List.forall_mem_cons.mpr ⟨neN (by dsimp only; omega), List.forall_mem_cons.mpr ⟨neN (by dsimp only; omega), z1⟩⟩⟩⟩⟩⟩⟩
      case turn5 =>
        clear F14 N15 hr14
        intro I5 lI5 i vd ds cap5 uu it5 oc5 tt5 h15 tk15 hi Iv hv5 hoc5 F N
        k_lt lI5
        dsimp only [stM, kstB] at F
        k_steps
        obtain ⟨n5, hn5⟩ : ∃ n5, sz.length = n5 + 1 := ⟨sz.length - 1, by have := hso.ne; omega⟩
        refine Stop.go ?_
        k_dflt (refine LCt.Assign_ListComp_T (F₀ := F) (by rfl) (by with_unfolding_all rfl) (by with_unfolding_all rfl) (by decide) (by rfl) (by decide) (by rfl) (by rfl) (by rfl) ?_)
        k_steps
        refine Stop.go (call_len_list (News.isList N (n := 0) (by k_mem)) (by rw [ints_size Iz]; omega) ?_)
        rw [ints_size Iz]
        k_steps
        rename Fr _ _ _ _ => F
        rename News _ _ _ _ => N
        rename IsRange _ _ _ _ _ _ _ _ => hr
        refine Stop.go (LCt.CompSrcT.range (n := n5) rfl F N hr (rng_small (by omega) (by omega) (by omega) (by omega)) (rng_size (by omega)) (by rw [sizeLine_eq]; omega) ?_)
        intro g5
        clear F N hr
        refine comp_test _ (fun k => decide (((i + 1 : Nat) : Int) + 2 ≤ sz.getD k 0 + sz.getD (k + 1) 0)) (fun k => (k : Int)) trivial ?turn6 ?fin6
        case turn6 =>
          intro k v I6 oI6 C6 oC6 D6 ys6 m6 h16 tk16 E6 hk hv hC hx F N off ne
          obtain ⟨tp6, rfl⟩ := hv
          clear off ne
          have e1 : (0 + (k : Int)).toNat = k := by omega
          have e2 : (0 + (k : Int) + 1).toNat = k + 1 := by omega
          k_steps
          · rename _ ≤ _ => ht
            rw [e1, e2] at ht
            exact Stop.go ⟨_, _, h16, _, rfl, rfl, F, N, decide_eq_true (by omega), by omega⟩
          · rename ¬ _ ≤ _ => ht
            rw [e1, e2] at ht
            exact Stop.go ⟨h16, _, rfl, F, N, decide_eq_false (by omega)⟩
        case fin6 =>
          intro ys6 Iy6
          unfold LCg.FinA
          intro D6 h17 tk17 F N o6
          k_steps
          refine Stop.go (call_len_list (News.isList N (n := 0) (by k_mem)) (by rw [ints_size Iz]; omega) ?_)
          rw [ints_size Iz]
          k_steps
          rename Fr _ _ _ _ => F
          rename News _ _ _ _ => N
          have kl := kept_len (keep := fun k => decide (((i + 1 : Nat) : Int) + 2 ≤ sz.getD k 0 + sz.getD (k + 1) 0)) (val := fun k => (k : Int)) (n := n5)
          have kl2 := len_snoc (z := (n5 : Int)) kl
          refine Stop.go ?_
          k_dflt (refine op_addI F N (News.isList N (n := ys6.length) (by k_mem)) (News.isList N (n := 0) (by k_mem)) Iy6 (ints_one (z' := (n5 : Int)) (by omega)) (by rw [sizeLine_eq, List.length_singleton]; omega) ?_)
          intro D7 h18 F N l7 I7
          k_steps
          refine Stop.go (item_ints (News.isList N (n := 0) (by k_mem)) I7 (by decide) (by omega) (by omega) ?_)
          intro t7
          obtain ⟨k7, hk7⟩ : ∃ k7, k7 = (Kept (fun k => decide (((i + 1 : Nat) : Int) + 2 ≤ sz.getD k 0 + sz.getD (k + 1) 0)) (fun k => (k : Int)) n5 ++ [(n5 : Int)]).getD (Int.toNat 0) 0 := ⟨_, rfl⟩
          rw [← hk7]
          obtain ⟨d0, d1, d2⟩ := due_of (m := i + 1) hn5 hk7
          clear hk7 I7 kl kl2 l7
          have N := drop3 N
          refine Stop.go (item_ints (News.isList N (n := 0) (by k_mem)) Iz d0 d1 (by omega) ?_)
          intro t8
          k_steps
          refine Stop.go ?_
          k_dflt (refine' append_K (its := vd.toArray) (n := cap5) F N ?k3 ?_ ?z; (case k3 => k_upd); (case z => rw [sizeLine_eq, List.size_toArray, Iv.length, hv5.1]; omega))
          intro h19 F N
          rw [List.push_toArray] at N
          k_steps
          refine Stop.go ⟨.inl rfl, _, _, _, _, rfl, ‹_›, ‹_›, vd ++ [_], ds ++ [_], cap5 + 1, rfl, ksw1 (by ksw_same), Iv.append (.cons _ _ .nil), hv5.snoc ?_⟩
          rw [show 1 + (i : Int) = ((i + 1 : Nat) : Int) by omega]
          exact d2
      case done5 =>
        clear F14 N15 hr14
        intro vd ds cap5 uu h15 tk15 Iv hv5 F N
        dsimp only [stM, kstB] at F
        k_steps
        refine Stop.go ?_
        k_dflt (refine LCg.ListComp_U (F₀ := F) (by with_unfolding_all rfl) (by decide) (by rfl) (by decide) (by rfl) ?_)
        k_steps
        rename Fr _ _ _ _ => F
        rename News _ _ _ _ => N
        rename IsRange _ _ _ _ _ _ _ _ => hr
        refine Stop.go (LCg.CompSrc.range (n := cnt) rfl F N hr (rng_small (by omega) (by omega) (by omega) (by omega)) (rng_size (by omega)) (by rw [sizeLine_eq]; omega) ?_)
        intro g3
        clear F N hr
        refine comp_ints _ (fun j z => z = (rise * (1 + ((j + 1 : Nat) : Int))).fdiv run - (rise * (1 + (j : Int))).fdiv run) trivial ?turn7 ?fin7
        case turn7 =>
          intro k v I7 oI7 C7 oC7 D7 ys7 m7 h16 tk16 E7 hk hv hC hx F N off ne
          obtain ⟨tp7, rfl⟩ := hv
          clear off ne
          obtain ⟨ta, hta⟩ : ∃ t, tl[k]? = some t := ⟨tl[k]'(by omega), List.getElem?_eq_getElem _⟩
          obtain ⟨tb, htb⟩ : ∃ t, tl[k + 1]? = some t := ⟨tl[k + 1]'(by omega), List.getElem?_eq_getElem _⟩
          have ma : ta.ent ∈ tl.map Tp.ent := List.mem_map.mpr ⟨ta, List.mem_of_getElem? hta, rfl⟩
          have mb : tb.ent ∈ tl.map Tp.ent := List.mem_map.mpr ⟨tb, List.mem_of_getElem? htb, rfl⟩
          have e1 : (0 + (k : Int)).toNat = k := by omega
          have e2 : (0 + (k : Int) + 1).toNat = k + 1 := by omega
          k_steps
          refine Stop.go (item_told (News.isList N (n := _) (by k_mem)) (by omega) (by rw [e2]; exact htb) (by omega) ?_)
          k_steps
          refine Stop.go (item_pair (N.get (by repeat' (first | exact mb | refine List.Mem.tail _ ?_))) (by decide) (by decide) ?_)
          intro tx1
          k_steps
          refine Stop.go (item_told (News.isList N (n := _) (by k_mem)) (by omega) (by rw [e1]; exact hta) (by omega) ?_)
          k_steps
          refine Stop.go (item_pair (N.get (by repeat' (first | exact ma | refine List.Mem.tail _ ?_))) (by decide) (by decide) ?_)
          intro tx2
          k_steps
          refine Stop.go ⟨_, _, h16, _, rfl, rfl, F, N, ?_⟩
          show tb.q - ta.q = _
          rw [(hok _ tb htb).1, (hok _ ta hta).1]
        case fin7 =>
          intro yw zw Iw hwl hwok
          unfold LCg.FinE
          intro Dw h20 tk20 F N ow
          k_steps
          refine Stop.go ?_
          k_dflt (refine con_use0 (ovl_con _ Dw yw zw Iw (by omega) (by omega)) B F (by k_asm) T NS CA N rfl (by decide) (by decide) (News.isList N (n := yw.length) (by k_mem)) ?_)
          intro rt h21 tk21 K21 F21 N21 po
          obtain ⟨tb, ⟨Dt, vt, rfl, nDt, gDt, It9⟩, htb⟩ := po
          have N1 := trimH (news_new F N21 nDt gDt)
          have hteq := tables_eq hso hwl (by omega) hwok hHt htb hv5
          subst hteq
          clear F N N21 ow K21
          k_steps
          refine Stop.go ?_
          rename Fr _ _ _ _ => F
          rename News _ _ _ _ => N
          k_dflt (refine ListComp_NF F (by with_unfolding_all rfl) (by decide) (by rfl) (by decide) (by rfl) (by rfl) (by decide) (by decide) ?_)
          k_steps
          refine Stop.go (nest_src rfl F N (by k_mem) (fun t ht => .tail _ (.tail _ (.tail _ (.tail _ (.tail _ (.tail _ (List.mem_map_of_mem ht))))))) (by rw [sizeLine_eq]; omega) ?_)
          intro Dn h22 tk22 F N ln
          k_steps
          have fl := flat_len tl
          refine Stop.go ?_
          k_dflt (refine op_addI F N (News.isList N (n := 0) (by k_mem)) (News.isList N (n := (flatV tl).length) (by k_mem)) It9 (flat_ints tl) (by rw [sizeLine_eq, htb.1, fl.2]; omega) ?_)
          intro Da h23 F N la Ia
          k_steps
          refine Stop.go ?_
          rename Fr _ _ _ _ => F
          rename News _ _ _ _ => N
          k_dflt (refine LCt.ListComp_T (F₀ := F) (by with_unfolding_all rfl) (by decide) (by rfl) (by decide) (by rfl) ?_)
          k_steps
          rename Fr _ _ _ _ => F
          rename News _ _ _ _ => N
          refine Stop.go (LCt.CompSrcT.ledger (its := (vt ++ flatV tl).toArray) (k := 0) rfl F N (by k_mem) (by rw [sizeLine_eq, List.size_toArray, Ia.length, List.length_append, htb.1, fl.2]; omega) ?_)
          intro g9
          clear F la ln
          refine comp_test _ (fun _ => false) (fun _ => 0) (.inr ⟨_, List.Mem.head _, rfl, _, rfl⟩) ?turn8 ?fin8
          case turn8 =>
            clear N
            intro k v I8 oI8 C8 oC8 D8 ys8 m8 h26 tk26 E8 hk hv hC hx F N off ne
            obtain ⟨z8, t8, rfl⟩ := ints_at Ia hv
            clear off ne
            k_steps
            exact Stop.go ⟨h26, _, rfl, F, N, by trivial⟩
          case fin8 =>
            clear N
            intro ys8 I8
            obtain rfl := kept_none I8
            unfold LCg.FinE
            intro D8 h27 tk27 F N o8
            have N := trimI N
            clear o8
            k_steps
  )
end Mine
end
set_option maxRecDepth 100000 in
set_option maxHeartbeats 8000000 in
theorem PySem.Challenge.cw_re0060_01_holds : PySem.Challenge.rw_re0060_01.Holds := by
  exact Mine.law_walk
