import PyProof.Rows.All
import Wide.All
import OpenK.AllK
import Wide.FinOn
import PySem.Challenge.RW_ph0090_01
open PySem PySem.W PyProof.Rows
set_option Elab.async false
set_option compiler.extract_closed false
local macro_rules | `(tactic| walk_at $s:str) => `(tactic| k_extra $s)
local macro_rules | `(tactic| k_mem) => `(tactic| k_extra "k_mem")
local macro_rules | `(tactic| k_all) => `(tactic| k_extra "k_all")
local macro_rules | `(tactic| walk_at "s1") => `(tactic| (intro g' L' h' FG' F' N' B' X' T'; (try dsimp only); (try k_lift B'); (try k_fold)))
local macro_rules | `(tactic| walk_at "s2") => `(tactic| (intro r9 lt9 tl9 h9 tk9 F9 N9 ht9 hG9 hg9 hl9 ho9; obtain ⟨e9', t9, e9⟩ := ho9; subst e9 e9'; (try dsimp only); (try k_fold)))
local macro_rules | `(tactic| walk_at "s3") => `(tactic| (intro r9 tl9 h9 tk9 F9 N9 hl9 ho9; obtain ⟨e9', t9, e9⟩ := ho9; subst e9 e9'; (try dsimp only); (try k_fold)))
local macro_rules | `(tactic| walk_at "s4") => `(tactic| (intro r9 tl9 h9 tk9 F9 N9 hl9 ho9; obtain ⟨e9', b9, t9, e9, hb9⟩ := ho9; subst e9 e9'; (try dsimp only); (try k_fold)))
local macro_rules | `(tactic| walk_at "s5") => `(tactic| (intro D' h' F' N' l1; (try k_lt l1)))
local macro_rules | `(tactic| walk_at "s6") => `(tactic| ((rename Fr _ _ _ _ => lF'); (with_unfolding_all refine' For_invVF lF' ?k1 ?k2 ?_; (case k1 => exact rfl); (case k2 => exact rfl); k_whole)))
local macro_rules | `(tactic| walk_at "s7") => `(tactic| (intro t9 k9 hk9; (try dsimp only at hk9)))
local macro_rules | `(tactic| walk_at "s8") => `(tactic| ((rename Fr _ _ _ _ => F'); (rename News _ _ _ _ => N'); (with_unfolding_all refine range1_rows F' N' ?_; intro _ _ _ _ _ _ _ _ _)))
local macro_rules | `(tactic| walk_at "s9") => `(tactic| ((rename Fr _ _ _ _ => lF'); (with_unfolding_all refine' For_invVF lF' ?k1 ?k2 ?_ ?k3 ?k4; (case k1 => exact rfl); (case k2 => exact rfl); (case k3 => exact fun _ => rfl); (case k4 => assumption); k_whole)))
local macro_rules | `(tactic| walk_at "s10") => `(tactic| ((with_reducible rename Fr _ _ _ _ => F'); (with_reducible rename News _ _ _ _ => N'); (refine slice_strN_ns (hsz := ?hsz) (s := ⟨_, _, _, _, _⟩) F' N' ?_); (case hsz => assumption); intro _ _ _ _ _))
section
local macro_rules | `(tactic| walk_at "idle") => `(tactic| fail)
set_option maxRecDepth 100000
set_option maxHeartbeats 8000000
namespace Mine
open_top hd for PySem.Challenge.rw_ph0090_01
end Mine
end
section
namespace Mine
theorem p2pos (k : Nat) : (0 : Int) < 2 ^ k := kbt_pos k
theorem fdiv_p2 (x : Int) (k : Nat) : x.fdiv (2 ^ k) = x / 2 ^ k := Int.fdiv_eq_ediv_of_nonneg _ (Int.le_of_lt (p2pos k))
theorem and_zero : ∀ x : Int, Builtin.bitAnd x 0 = 0 := fun x => by
  have := kbt_mask x 0
  simpa using this
theorem and_shl (k : Nat) : ∀ q r : Int, 0 ≤ r → r < 2 ^ k → Builtin.bitAnd (q * 2 ^ k) r = 0 := by
  induction k with
  | zero => intro q r h0 h1; have : r = 0 := by (first | lia | omega)
            subst this; exact and_zero _
  | succ k ih =>
    intro q r h0 h1
    rw [kbt_halves]
    have e : (2 : Int) ^ (k + 1) = 2 ^ k * 2 := Int.pow_succ 2 k
    have e1 : q * 2 ^ (k + 1) / 2 = q * 2 ^ k := by rw [e, ← Int.mul_assoc]; exact Int.mul_ediv_cancel _ (by decide)
    have e2 : q * 2 ^ (k + 1) % 2 = 0 := by rw [e, ← Int.mul_assoc]; exact Int.mul_emod_left _ _
    rw [e1, e2, ih q (r / 2) (by (first | lia | omega)) (by (first | lia | omega))]
    simp
theorem or_add (x y : Int) : Builtin.bitOr x y = x + y - Builtin.bitAnd x y := by
  have := bitXor_and x y
  unfold Builtin.bitXor at this
  (first | lia | omega)
theorem or_shl (k : Nat) (q r : Int) (h0 : 0 ≤ r) (h1 : r < 2 ^ k) : Builtin.bitOr (q * 2 ^ k) r = q * 2 ^ k + r := by
  rw [or_add, and_shl k q r h0 h1]; (first | lia | omega)
theorem and_self (x : Int) : Builtin.bitAnd x x = x := by
  have h1 := bitXor_and x x
  have h2 := bitXor_self x
  (first | lia | omega)
theorem and_top (k : Nat) : ∀ q r : Int, 0 ≤ r → r < 2 ^ k → Builtin.bitAnd (q * 2 ^ k + r) (q * 2 ^ k) = q * 2 ^ k := by
  induction k with
  | zero => intro q r h0 h1; have : r = 0 := by (first | lia | omega)
            subst this; simp [and_self]
  | succ k ih =>
    intro q r h0 h1
    rw [kbt_halves]
    have e : (2 : Int) ^ (k + 1) = 2 ^ k * 2 := Int.pow_succ 2 k
    have e0 : q * 2 ^ (k + 1) = q * 2 ^ k * 2 := by rw [e, ← Int.mul_assoc]
    have e1 : (q * 2 ^ (k + 1) + r) / 2 = q * 2 ^ k + r / 2 := by rw [e0]; (first | lia | omega)
    have e3 : q * 2 ^ (k + 1) / 2 = q * 2 ^ k := by rw [e0]; (first | lia | omega)
    have e2 : q * 2 ^ (k + 1) % 2 = 0 := by rw [e0]; (first | lia | omega)
    rw [e1, e3, e2, ih q (r / 2) (by (first | lia | omega)) (by (first | lia | omega)), e0]
    simp [Int.mul_comm]
theorem xor_low (x : Int) (k : Nat) : Builtin.bitXor x (x.fdiv (2 ^ k) * 2 ^ k) = x % 2 ^ k := by
  rw [fdiv_p2, bitXor_and]
  have hp := p2pos k
  have hd := Int.mul_ediv_add_emod x (2 ^ k)
  have h0 := Int.emod_nonneg x (Int.ne_of_gt hp)
  have h1 := Int.emod_lt_of_pos x hp
  have h2 := and_top k (x / 2 ^ k) (x % 2 ^ k) h0 h1
  rw [Int.mul_comm] at hd
  rw [show x / 2 ^ k * 2 ^ k + x % 2 ^ k = x from hd] at h2
  rw [h2]; (first | lia | omega)
theorem bits_le {x : Int} {k : Nat} (h0 : 0 ≤ x) (h : x < 2 ^ k) : Builtin.Int.intBits x ≤ k := by
  rw [intBits_le_iff]
  have : (x.natAbs : Int) < ((2 ^ k : Nat) : Int) := by rw [kbt_cast]; (first | lia | omega)
  exact Int.ofNat_lt.mp this
theorem lt_bits {x : Int} {k : Nat} (h : Builtin.Int.intBits x ≤ k) : x < 2 ^ k := by
  rw [intBits_le_iff] at h
  have : (x.natAbs : Int) < ((2 ^ k : Nat) : Int) := Int.ofNat_lt.mpr h
  rw [kbt_cast] at this
  (first | lia | omega)
theorem bits_pos {x : Int} (h : 0 < x) : 0 < Builtin.Int.intBits x := by
  have := lt_bits (Nat.le_refl (Builtin.Int.intBits x))
  cases hk : Builtin.Int.intBits x with
  | zero => rw [hk] at this; simp at this; (first | lia | omega)
  | succ k => (first | lia | omega)
theorem bits_ge {x : Int} (h : 0 < x) : (2 : Int) ^ (Builtin.Int.intBits x - 1) ≤ x := by
  by_cases hc : x < 2 ^ (Builtin.Int.intBits x - 1)
  · have := bits_le (Int.le_of_lt h) hc
    have := bits_pos h
    (first | lia | omega)
  · (first | lia | omega)
end Mine
end
section
namespace Mine
noncomputable abbrev tupO (vs : List Value) (n : Nat) : Obj := { cls := .type "tuple", data := .seq vs.toArray n }
/-- a contract: the call of the top's def f with these arguments -/
noncomputable def Sp (w : World) (f : Addr) (args : List Value) (d u : Nat) (Post : List (Addr × Obj) → Value → Prop) : Prop :=
  ∀ (p : Program) (loose : List Str) (mean : ExcName → Option Value) (mg mb : Str → Option Value)
    (dp un : Nat) (gd : Option (List Code)) (cn : Str) (cs : Scope) (a : Addr) (ccd : Value) (cl : List (Str × Addr)) (outer : List Env) (A₀ : Around) (base h₀ : Heap) (L : Addr) (m : Str → Option Value) (news : List (Addr × Obj)) (s : Shared)
    (Q E : Value → Shared → Prop),
    Below A₀ base outer h₀ → Fr h₀ L s.heap m → (hd.heap_39 w.params).In h₀ → News h₀ L s.heap news → Top p loose mean mg mb h₀ → cs.kind = .function →
    dp + d < recursionLimit → un + u < cLine →
    (∀ r tl h' tk', Fr h₀ L h' m → News h₀ L h' (tl ++ news) → (∀ q ∈ news, ∀ p ∈ tl, q.1 < p.1) → Post tl r → Q r { s with heap := h', toks := tk' }) →
    wpAny (model Challenge.rw_ph0090_01.row.prog w) (ktrTop dp un gd cn cs L a ccd cl outer) (call (.ref f) args) Q E s
theorem Sp.use {w : World} {f : Addr} {args : List Value} {d u : Nat} {Post : List (Addr × Obj) → Value → Prop} {p : Program} {loose : List Str} {mean : ExcName → Option Value} {mg mb : Str → Option Value}
    {dp un : Nat} {gd : Option (List Code)} {cn : Str} {cs : Scope} {a : Addr} {ccd : Value} {cl : List (Str × Addr)} {outer : List Env} {A₀ : Around} {base h₀ : Heap} {L : Addr} {m : Str → Option Value} {news : List (Addr × Obj)} {s : Shared}
    {Q E : Value → Shared → Prop}
    (C : Sp w f args d u Post) (B : Below A₀ base outer h₀) (F : Fr h₀ L s.heap m) (X : (hd.heap_39 w.params).In h₀) (N : News h₀ L s.heap news) (T : Top p loose mean mg mb h₀) (hk : cs.kind = .function)
    (hd : dp + d < recursionLimit) (hu : un + u < cLine)
    (ret : ∀ r tl h' tk', Fr h₀ L h' m → News h₀ L h' (tl ++ news) → (∀ q ∈ news, ∀ p ∈ tl, q.1 < p.1) → Post tl r → Q r { s with heap := h', toks := tk' }) :
    wpAny (model Challenge.rw_ph0090_01.row.prog w) (ktrTop dp un gd cn cs L a ccd cl outer) (call (.ref f) args) Q E s :=
  C _ _ _ _ _ _ _ _ _ _ _ _ _ _ _ _ _ _ _ _ _ _ _ B F X N T hk hd hu ret
/-- the answer (q, r) of x by b -/
noncomputable def PostD (x b : Int) (tl : List (Addr × Obj)) (v : Value) : Prop :=
  ∃ (t : Addr) (q r : Int) (u1 u2 : Tok) (k : Nat), v = .ref t ∧ tl = [(t, tupO [.int q u1, .int r u2] k)] ∧ x = q * b + r ∧ 0 ≤ r ∧ r < b
noncomputable def C2 (w : World) (k : Nat) : Prop := ∀ (x b n : Int) (t1 t2 t3 : Tok), 0 < n → n ≤ 4000 * 2 ^ k → n ≤ 1000000 → (2 : Int) ^ (n.toNat - 1) ≤ b → b < 2 ^ n.toNat → 0 ≤ x → x < b * 2 ^ n.toNat →
  Sp w 38 [.int x t1, .int b t2, .int n t3] (2 * k + 1) (16 * k + 16) (PostD x b)
noncomputable def C3 (w : World) (k : Nat) : Prop := ∀ (a12 a3 b b1 b2 n : Int) (t1 t2 t3 t4 t5 t6 : Tok), 0 < n → n ≤ 4000 * 2 ^ k → n ≤ 1000000 → (2 : Int) ^ (n.toNat - 1) ≤ b1 → b1 < 2 ^ n.toNat → b = b1 * 2 ^ n.toNat + b2 → 0 ≤ b2 → b2 < 2 ^ n.toNat →
  0 ≤ a3 → a3 < 2 ^ n.toNat → 0 ≤ a12 → a12 < b →
  Sp w 45 [.int a12 t1, .int a3 t2, .int b t3, .int b1 t4, .int b2 t5, .int n t6] (2 * k + 2) (16 * k + 24) (PostD (a12 * 2 ^ n.toNat + a3) b)
end Mine
end
section
namespace Mine
theorem shl_ok {a n : Int} {m : Nat} (ha : Builtin.Int.intBits a ≤ m) (hm : m ≤ 100000000) (hn : n ≤ 30000000) : (Builtin.Int.intBits a : Int) + n ≤ 2 ^ 27 := by (first | lia | omega)
theorem p2_mono {a b : Nat} (h : a ≤ b) : (2 : Int) ^ a ≤ 2 ^ b := by
  rcases Nat.lt_or_eq_of_le h with h | h
  · exact Int.le_of_lt (Int.pow_lt_pow_of_lt (by decide) h)
  · rw [h]; exact Int.le_refl _
theorem bits_p2 {n : Int} {m : Nat} (h : n ≤ (m : Int)) : Builtin.Int.intBits ((2 : Int) ^ n.toNat) ≤ m + 1 := by
  refine bits_le (Int.le_of_lt (p2pos _)) ?_
  have h1 : n.toNat < m + 1 := by (first | lia | omega)
  exact Int.pow_lt_pow_of_lt (by decide) h1
theorem bits_lt_p2 {x n : Int} {m : Nat} (h0 : 0 ≤ x) (h : x < 2 ^ n.toNat) (hn : n ≤ (m : Int)) : Builtin.Int.intBits x ≤ m := by
  refine bits_le h0 (Int.lt_of_lt_of_le h ?_)
  exact p2_mono (by (first | lia | omega))
theorem pow_dbl (k : Nat) (h : 0 < k) : (2 : Int) ^ k = 2 * 2 ^ (k - 1) := by
  cases k with
  | zero => (first | lia | omega)
  | succ k => rw [Int.pow_succ]; simp; (first | lia | omega)
-- the quotient of a division stays under the power
theorem quot_lt {x b q r M : Int} (_hb : 0 < b) (e : x = q * b + r) (h0 : 0 ≤ r) (_h1 : r < b) (hx : x < b * M) : q < M := by
  by_cases h : M ≤ q
  · have := Int.mul_le_mul_of_nonneg_right h (Int.le_of_lt _hb)
    rw [Int.mul_comm b M] at hx
    (first | lia | omega)
  · (first | lia | omega)
theorem quot_nn {x b q r : Int} (hb : 0 < b) (e : x = q * b + r) (_h0 : 0 ≤ r) (h1 : r < b) (hx : 0 ≤ x) : 0 ≤ q := by
  by_cases h : q < 0
  · have h2 : q + 1 ≤ 0 := by (first | lia | omega)
    have h3 := Int.mul_le_mul_of_nonneg_right h2 (Int.le_of_lt hb)
    rw [Int.add_mul, Int.one_mul, Int.zero_mul] at h3
    (first | lia | omega)
  · (first | lia | omega)
-- _div3n2n, the branch by _div2n1n
theorem m3_eq {a12 a3 b b1 b2 M q r : Int} (hb : b = b1 * M + b2) (e : a12 = q * b1 + r) : q * b + (r * M + a3 - q * b2) = a12 * M + a3 := by
  subst hb e
  rw [Int.mul_add, Int.add_mul, Int.mul_assoc]; (first | lia | omega)
theorem m3_lt {a3 b b1 b2 M q r : Int} (hb : b = b1 * M + b2) (h1 : r < b1) (hM : 0 < M) (h3' : a3 < M) (hb2 : 0 ≤ b2) (hq : 0 ≤ q) : r * M + a3 - q * b2 < b := by
  have h4 : r + 1 ≤ b1 := by (first | lia | omega)
  have h5 := Int.mul_le_mul_of_nonneg_right h4 (Int.le_of_lt hM)
  rw [Int.add_mul, Int.one_mul] at h5
  have h6 := Int.mul_nonneg hq hb2
  (first | lia | omega)
-- _div3n2n, the branch of the greatest digit
theorem m3_eq0 {a12 a3 b b1 b2 M : Int} (hb : b = b1 * M + b2) : (1 * M - 1) * b + ((a12 - b1 * M + b1) * M + a3 - (1 * M - 1) * b2) = a12 * M + a3 := by
  subst hb
  simp only [Int.one_mul, Int.sub_mul, Int.mul_add, Int.add_mul]
  have : M * (b1 * M) = b1 * M * M := Int.mul_comm _ _
  (first | lia | omega)
theorem m3_lt0 {a12 a3 b b1 b2 M : Int} (hb : b = b1 * M + b2) (ha : a12 < b) (hM : 0 < M) (h3' : a3 < M) : (a12 - b1 * M + b1) * M + a3 - (1 * M - 1) * b2 < b := by
  have h1 : a12 - b1 * M + b1 ≤ b2 - 1 + b1 := by (first | lia | omega)
  have h2 := Int.mul_le_mul_of_nonneg_right h1 (Int.le_of_lt hM)
  simp only [Int.one_mul, Int.sub_mul, Int.add_mul] at h2 ⊢
  have : M * b2 = b2 * M := Int.mul_comm _ _
  (first | lia | omega)
theorem m3_pre {a12 b b1 b2 : Int} {k : Nat} (hne : ¬ a12.fdiv (2 ^ k) = b1) (hb : b = b1 * 2 ^ k + b2) (hb2' : b2 < 2 ^ k) (ha' : a12 < b) : a12 < b1 * 2 ^ k := by
  have hM := p2pos k
  rw [fdiv_p2] at hne
  have h1 : a12 / 2 ^ k < b1 + 1 := by
    refine Int.ediv_lt_of_lt_mul hM ?_
    rw [Int.add_mul, Int.one_mul]; (first | lia | omega)
  have h2 : a12 / 2 ^ k < b1 := by (first | lia | omega)
  exact Int.lt_mul_of_ediv_lt hM h2
theorem m3_start {a12 a3 b b1 b2 q r : Int} {k : Nat} (hb : b = b1 * 2 ^ k + b2) (hb2 : 0 ≤ b2) (h3 : 0 ≤ a3) (h3' : a3 < 2 ^ k) (e : a12 = q * b1 + r) (h1 : r < b1) (hq : 0 ≤ q) :
    q * b + (Builtin.bitOr (r * 2 ^ k) a3 - q * b2) = a12 * 2 ^ k + a3 ∧ Builtin.bitOr (r * 2 ^ k) a3 - q * b2 < b := by
  rw [or_shl k r a3 h3 h3']
  exact ⟨m3_eq hb e, m3_lt hb h1 (p2pos k) h3' hb2 hq⟩
theorem m3_start0 {a12 a3 b b1 b2 : Int} {k : Nat} (hb : b = b1 * 2 ^ k + b2) (ha : a12 < b) (h3 : 0 ≤ a3) (h3' : a3 < 2 ^ k) :
    (1 * 2 ^ k - 1) * b + (Builtin.bitOr ((a12 - b1 * 2 ^ k + b1) * 2 ^ k) a3 - (1 * 2 ^ k - 1) * b2) = a12 * 2 ^ k + a3 ∧ Builtin.bitOr ((a12 - b1 * 2 ^ k + b1) * 2 ^ k) a3 - (1 * 2 ^ k - 1) * b2 < b := by
  rw [or_shl k _ a3 h3 h3']
  exact ⟨m3_eq0 hb, m3_lt0 hb ha (p2pos k) h3'⟩
end Mine
end
section
namespace Mine
noncomputable def Held (P : Prop) : Prop := P
theorem held {P : Prop} (h : Held P) : P := h
theorem News.sub {h₀ h : Heap} {L : Addr} {l l' : List (Addr × Obj)} (N : News h₀ L h l) (k : ∀ p ∈ l', p ∈ l) : News h₀ L h l' := fun p hp => N p (k p hp)
theorem News.fin1 {h₀ h : Heap} {L : Addr} {x : Addr × Obj} {mid news : List (Addr × Obj)} (N : News h₀ L h (x :: (mid ++ news))) : News h₀ L h ([x] ++ news) :=
  News.sub N fun p hp => by
    rcases List.mem_append.mp hp with h | h
    · rw [List.mem_singleton.mp h]; exact .head _
    · exact .tail _ (List.mem_append_right _ h)
theorem lt_fin1 {D : Addr} {o : Obj} {mid news : List (Addr × Obj)} (l1 : ∀ p ∈ mid ++ news, p.1 < D) : ∀ q ∈ news, ∀ p ∈ [(D, o)], q.1 < p.1 := fun q hq p hp => by
  rw [List.mem_singleton.mp hp]; exact l1 q (List.mem_append_right _ hq)
theorem of_allLt {d : Addr} {l : List (Addr × Obj)} : AllLt d l → ∀ p ∈ l, p.1 < d := by
  induction l with
  | nil => intro _ p hp; cases hp
  | cons x r ih =>
    intro h p hp
    rcases List.mem_cons.mp hp with e | m
    · rw [e]; exact h.1
    · exact ih h.2 p m
theorem ne_of_allLt {d x : Nat} {l : List (Addr × Obj)} (h : AllLt d l) (hx : @LE.le Nat _ d x) : ∀ p ∈ l, p.1 ≠ x := fun p hp => Nat.ne_of_lt (Nat.lt_of_lt_of_le (of_allLt h p hp) hx)
theorem lt_one {D : Addr} {o : Obj} {news : List (Addr × Obj)} (h : ∀ q ∈ news, ∀ p ∈ [(D, o)], q.1 < p.1) : ∀ q ∈ news, q.1 < D := fun q hq => h q hq _ (.head _)
theorem lt_all {D : Addr} {o : Obj} {news : List (Addr × Obj)} (h : AllLt D news) : ∀ q ∈ news, ∀ p ∈ [(D, o)], q.1 < p.1 := fun q hq p hp => by
  rw [List.mem_singleton.mp hp]; exact of_allLt h q hq
theorem new_last {h₀ h : Heap} {L : Addr} {news : List (Addr × Obj)} {o : Obj} (N : News h₀ L h news) : ∀ q ∈ news, ∀ p ∈ [(h.objs.size, o)], q.1 < p.1 := fun q hq p hp => by
  rw [List.mem_singleton.mp hp]; exact Heap.lt_size (N q hq).1
theorem size_pos_of {α : Type} {a : Array α} (h : a.isEmpty = false) : 0 < (a.size : Int) := by
  simp only [Array.isEmpty_eq_false_iff] at h
  have := Array.size_pos_iff.mpr h
  (first | lia | omega)
theorem News.pickMiss {h₀ h : Heap} {L : Addr} {a b c d e f : Addr × Obj} {news : List (Addr × Obj)} (N : News h₀ L h (a :: b :: c :: d :: e :: f :: news)) : News h₀ L h ([f, b] ++ ([] ++ news)) :=
  News.sub N fun p hp => by
    simp only [List.cons_append, List.nil_append, List.mem_cons] at hp ⊢
    rcases hp with h | h | h <;> simp [h]
theorem News.pickHit {h₀ h : Heap} {L : Addr} {a b c d e f : Addr × Obj} {news : List (Addr × Obj)} (N : News h₀ L h (a :: b :: c :: d :: e :: f :: news)) : News h₀ L h ([e, f] ++ ([] ++ news)) :=
  News.sub N fun p hp => by
    simp only [List.cons_append, List.nil_append, List.mem_cons] at hp ⊢
    rcases hp with h | h | h <;> simp [h]
theorem ints_nil {vs : List Value} {ds : List Int} (h : IntsAre vs ds) (he : vs.toArray.isEmpty = true) : ds = [] := by
  have h1 := IntsAre.length h
  cases vs with
  | nil => exact List.eq_nil_of_length_eq_zero h1.symm
  | cons v r => simp at he
theorem ints_size {vs : List Value} {ds : List Int} (h : IntsAre vs ds) : ((vs.toArray.size : Nat) : Int) = (ds.length : Int) := by rw [List.size_toArray, IntsAre.length h]
section
variable {prog : Program} {w : World} {A : Around} {E : Value → Shared → Prop} {Q : Flow → Shared → Prop} {s : Shared} {env : Env} {h₀ : Heap} {L : Addr}
/-- a turn's end of a while over two ints -/
noncomputable def End2 (h₀ : Heap) (L : Addr) (s : Shared) (news : List (Addr × Obj)) (m₀ : Str → Option Value) (x1 x2 : Str) (P : Int → Int → Prop) (μ : Int → Int → Nat) (n : Nat) (f : Flow) (s₂ : Shared) : Prop :=
  f = .next ∧ ∃ (q r : Int) (tq tr : Tok) (h' : Heap) (tk : Nat) (m' : Str → Option Value), s₂ = { s with heap := h', toks := tk } ∧ Fr h₀ L h' m' ∧ News h₀ L h' news ∧ m' x1 = some (.int q tq) ∧ m' x2 = some (.int r tr) ∧ (∀ z, z ≠ x1 → z ≠ x2 → m' z = m₀ z) ∧ P q r ∧ μ q r < n
theorem End2.intro {s : Shared} {news : List (Addr × Obj)} {m₀ m' : Str → Option Value} {x1 x2 : Str} {P : Int → Int → Prop} {μ : Int → Int → Nat} {n : Nat} {q r : Int} {tq tr : Tok} {h' : Heap} {tk : Nat}
    (F : Fr h₀ L h' m') (N : News h₀ L h' news) (hq : m' x1 = some (.int q tq)) (hr : m' x2 = some (.int r tr)) (hz : ∀ z, z ≠ x1 → z ≠ x2 → m' z = m₀ z) (hP : P q r) (hμ : μ q r < n) :
    End2 h₀ L s news m₀ x1 x2 P μ n .next { s with heap := h', toks := tk } := ⟨rfl, q, r, tq, tr, h', tk, m', rfl, F, N, hq, hr, hz, hP, hμ⟩
theorem while2 {test : Expr} {body : List Stmt} {pos : Pos} {m₀ : Str → Option Value} {news : List (Addr × Obj)} (x1 x2 : Str) (P : Int → Int → Prop) (μ : Int → Int → Nat) {q₀ r₀ : Int} {tq₀ tr₀ : Tok}
    (F : Fr h₀ L s.heap m₀) (N : News h₀ L s.heap news) (hq : m₀ x1 = some (.int q₀ tq₀)) (hr : m₀ x2 = some (.int r₀ tr₀)) (hP : P q₀ r₀)
    (turn : ∀ (q r : Int) (tq tr : Tok) (h : Heap) (tk : Nat), P q r → Fr h₀ L h (fun z => if z = x1 then some (.int q tq) else if z = x2 then some (.int r tr) else m₀ z) → News h₀ L h news →
      wpAny (model prog w) A (isTrue test env (eval test env)) (fun b s₂ =>
        if b = true then wpAny (model prog w) A (execs body env) (End2 h₀ L s news m₀ x1 x2 P μ (μ q r)) E s₂ else Q .next s₂) E { s with heap := h, toks := tk })
    (hE : PassesOwn (model prog w) A env E := by passes_own) :
    wpAny (model prog w) A (exec (.While test body [] pos) env) Q E s := by
  refine While_inv (fun n m nx => nx = news ∧ ∃ (q r : Int) (tq tr : Tok), m x1 = some (.int q tq) ∧ m x2 = some (.int r tr) ∧ (∀ z, z ≠ x1 → z ≠ x2 → m z = m₀ z) ∧ P q r ∧ μ q r = n) F N ⟨rfl, q₀, r₀, tq₀, tr₀, hq, hr, fun _ _ _ => rfl, hP, rfl⟩ ?_ hE
  rintro n m₁ nx h tk F₁ N₁ ⟨rfl, q, r, tq, tr, h1, h2, h3, hP', rfl⟩
  have em : m₁ = fun z => if z = x1 then some (.int q tq) else if z = x2 then some (.int r tr) else m₀ z := by
    funext z
    by_cases e1 : z = x1
    · rw [if_pos e1, e1, h1]
    · rw [if_neg e1]
      by_cases e2 : z = x2
      · rw [if_pos e2, e2, h2]
      · rw [if_neg e2, h3 z e1 e2]
  rw [em] at F₁
  refine wpAny_mono (turn q r tq tr h tk hP' F₁ N₁) (fun b s₂ p => ?_) fun _ _ x => x
  cases b with
  | false => simpa using p
  | true =>
    simp only [if_true] at p ⊢
    refine wpAny_mono p (fun f s₃ q => ?_) fun _ _ x => x
    obtain ⟨rfl, q', r', tq', tr', h', tk', m', rfl, F', N', e1, e2, e3, hP'', hμ⟩ := q
    exact ⟨rfl, h', tk', m', _, _, rfl, F', N', hμ, rfl, q', r', tq', tr', e1, e2, e3, hP'', rfl⟩
end
end Mine
end
section
namespace Mine
theorem bits_lo {b : Int} {k : Nat} (h : (2 : Int) ^ k ≤ b) : k + 1 ≤ Builtin.Int.intBits b := by
  by_cases hc : Builtin.Int.intBits b ≤ k
  · have := lt_bits hc; (first | lia | omega)
  · (first | lia | omega)
theorem nopy {x b n : Int} (hn : 0 < n) (hb : (2 : Int) ^ (n.toNat - 1) ≤ b) (hx : (Builtin.Int.intBits x : Int) - n ≤ 4000) : Builtin.divisionGoesByPylong x b = false := by
  have h1 := bits_lo hb
  unfold Builtin.Int.intBits at h1 hx
  unfold Builtin.divisionGoesByPylong
  dsimp only
  have h2 := p2pos (n.toNat - 1)
  have hb0 : (b == 0) = false := by simp; (first | lia | omega)
  simp only [hb0, Bool.false_eq_true, if_false] at h1 ⊢
  by_cases hx0 : (x == 0) = true
  · simp [hx0]
  · have hx0' : (x == 0) = false := by simpa using hx0
    simp only [hx0', Bool.false_eq_true, if_false] at hx ⊢
    have : ¬ (x.natAbs.log2 / 30 + 1 > b.natAbs.log2 / 30 + 1 + 150) := by (first | lia | omega)
    simp [this]
theorem nopy' {x b n : Int} (hx : (Builtin.Int.intBits x : Int) - n ≤ 4000) (hn : 0 < n) (hb : (2 : Int) ^ (n.toNat - 1) ≤ b) : Builtin.divisionGoesByPylong x b = false := nopy hn hb hx
theorem divmod_post {x b : Int} (hb : 0 < b) : x = x.fdiv b * b + x.fmod b ∧ 0 ≤ x.fmod b ∧ x.fmod b < b := by
  rw [Int.fdiv_eq_ediv_of_nonneg _ (Int.le_of_lt hb), Int.fmod_eq_emod_of_nonneg _ (Int.le_of_lt hb)]
  have := Int.mul_ediv_add_emod x b
  rw [Int.mul_comm] at this
  exact ⟨this.symm, Int.emod_nonneg x (Int.ne_of_gt hb), Int.emod_lt_of_pos x hb⟩
theorem half_le {n h : Int} {k : Nat} (hnk : n ≤ 4000 * 2 ^ (k + 1)) (hh : n = 2 * h) : h ≤ 4000 * 2 ^ k := by
  rw [Int.pow_succ] at hnk; (first | lia | omega)
theorem half_le' {n h : Int} {k : Nat} (hnk : n ≤ 4000 * 2 ^ (k + 1)) (hh : n + 1 = 2 * h) : h ≤ 4000 * 2 ^ k := by
  rw [Int.pow_succ] at hnk; (first | lia | omega)
theorem quot_bits {x b q r : Int} {m : Nat} (e : x = q * b + r) (h0 : 0 ≤ r) (h1 : r < b) (hz : Builtin.Int.intBits x ≤ m) : Builtin.Int.intBits q ≤ m := by
  have hb : 0 < b := by (first | lia | omega)
  have := (kbt_unique (a := x) (b := b) (q := q) (r := r) hb (by rw [Int.mul_comm]; (first | lia | omega)) h0 h1).1
  rw [← this, ← Int.fdiv_eq_ediv_of_nonneg _ (Int.le_of_lt hb)]
  exact intBits_fdiv_le hz
theorem rest_bits {b r : Int} {m : Nat} (h0 : 0 ≤ r) (h1 : r < b) (hz : Builtin.Int.intBits b ≤ m) : Builtin.Int.intBits r ≤ m := intBits_le_of_natAbs (by (first | lia | omega)) hz
theorem bits_prod {x b n : Int} (hn : 0 < n) (h0 : 0 ≤ x) (hb' : b < 2 ^ n.toNat) (hx : x < b * 2 ^ n.toNat) : (Builtin.Int.intBits x : Int) ≤ 2 * n := by
  have hM := p2pos n.toNat
  have h1 : x < 2 ^ (n.toNat + n.toNat) := by
    rw [Int.pow_add]
    refine Int.lt_of_lt_of_le hx ?_
    exact Int.mul_le_mul_of_nonneg_right (Int.le_of_lt hb') (Int.le_of_lt hM)
  have := bits_le h0 h1
  (first | lia | omega)
theorem m2_base {x b n : Int} (hn : 0 < n) (hk : n ≤ 4000 * 2 ^ 0) (h0 : 0 ≤ x) (hb' : b < 2 ^ n.toNat) (hx : x < b * 2 ^ n.toNat) : (Builtin.Int.intBits x : Int) - n ≤ 4000 := by
  have := bits_prod hn h0 hb' hx
  (first | lia | omega)
-- the halves: n even, h = n / 2
structure Half (x b n h : Int) : Prop where
  hn : 0 < n
  h0 : 0 < h
  hh : n = 2 * h
  hb : (2 : Int) ^ (n.toNat - 1) ≤ b
  hb' : b < 2 ^ n.toNat
  hx0 : 0 ≤ x
  hx : x < b * 2 ^ n.toNat
theorem Half.pow {x b n h : Int} (H : Half x b n h) : (2 : Int) ^ n.toNat = 2 ^ h.toNat * 2 ^ h.toNat := by
  rw [← Int.pow_add]; congr 1; have := H.hh; have := H.h0; (first | lia | omega)
theorem Half.b1lo {x b n h : Int} (H : Half x b n h) : (2 : Int) ^ (h.toNat - 1) ≤ b.fdiv (2 ^ h.toNat) := by
  rw [fdiv_p2]
  refine Int.le_ediv_of_mul_le (p2pos _) ?_
  rw [← Int.pow_add]
  have h1 : h.toNat - 1 + h.toNat = n.toNat - 1 := by have := H.hh; have := H.h0; (first | lia | omega)
  rw [h1]; exact H.hb
theorem Half.b1hi {x b n h : Int} (H : Half x b n h) : b.fdiv (2 ^ h.toNat) < 2 ^ h.toNat := by
  rw [fdiv_p2]
  refine Int.ediv_lt_of_lt_mul (p2pos _) ?_
  rw [← H.pow]; exact H.hb'
theorem Half.beq {x b n h : Int} (_H : Half x b n h) : b = b.fdiv (2 ^ h.toNat) * 2 ^ h.toNat + Builtin.bitAnd b (1 * 2 ^ h.toNat - 1) := by
  rw [fdiv_p2, Int.one_mul, kbt_mask]
  have := Int.mul_ediv_add_emod b (2 ^ h.toNat)
  rw [Int.mul_comm] at this; (first | lia | omega)
theorem and_lo (x : Int) (k : Nat) : 0 ≤ Builtin.bitAnd x (1 * 2 ^ k - 1) ∧ Builtin.bitAnd x (1 * 2 ^ k - 1) < 2 ^ k := by
  rw [Int.one_mul, kbt_mask]
  have hp := p2pos k
  exact ⟨Int.emod_nonneg x (Int.ne_of_gt hp), Int.emod_lt_of_pos x hp⟩
theorem Half.a12lo {x b n h : Int} (H : Half x b n h) : 0 ≤ x.fdiv (2 ^ n.toNat) := by
  rw [fdiv_p2]; exact Int.ediv_nonneg H.hx0 (Int.le_of_lt (p2pos _))
theorem Half.a12hi {x b n h : Int} (H : Half x b n h) : x.fdiv (2 ^ n.toNat) < b := by
  rw [fdiv_p2]; exact Int.ediv_lt_of_lt_mul (p2pos _) H.hx
/-- the two steps are one -/
theorem Half.done {x b n h q1 r1 q2 r2 : Int} (H : Half x b n h)
    (e1 : x.fdiv (2 ^ n.toNat) * 2 ^ h.toNat + Builtin.bitAnd (x.fdiv (2 ^ h.toNat)) (1 * 2 ^ h.toNat - 1) = q1 * b + r1)
    (e2 : r1 * 2 ^ h.toNat + Builtin.bitAnd x (1 * 2 ^ h.toNat - 1) = q2 * b + r2) (h1 : 0 ≤ r1) (h1' : r1 < b) (h2 : 0 ≤ r2) (h2' : r2 < b) : x = Builtin.bitOr (q1 * 2 ^ h.toNat) q2 * b + r2 := by
  have hM := p2pos h.toNat
  have hl := and_lo x h.toNat
  have hb0 : 0 < b := by (first | lia | omega)
  have hx2 : r1 * 2 ^ h.toNat + Builtin.bitAnd x (1 * 2 ^ h.toNat - 1) < b * 2 ^ h.toNat := by
    have : r1 + 1 ≤ b := by (first | lia | omega)
    have := Int.mul_le_mul_of_nonneg_right this (Int.le_of_lt hM)
    rw [Int.add_mul, Int.one_mul] at this
    (first | lia | omega)
  have q2lo := quot_nn hb0 e2 h2 h2' (Int.add_nonneg (Int.mul_nonneg h1 (Int.le_of_lt hM)) hl.1)
  have q2hi := quot_lt hb0 e2 h2 h2' hx2
  rw [or_shl _ _ _ q2lo q2hi]
  rw [fdiv_p2, Int.one_mul, kbt_mask, fdiv_p2, H.pow] at e1
  rw [Int.one_mul, kbt_mask] at e2
  have k1 := Int.mul_ediv_add_emod x (2 ^ h.toNat)
  have k2 := Int.mul_ediv_add_emod (x / 2 ^ h.toNat) (2 ^ h.toNat)
  rw [Int.ediv_ediv_of_nonneg (Int.le_of_lt hM)] at k2
  generalize (2 : Int) ^ h.toNat = M at *
  generalize x / (M * M) = u at *
  generalize x / M % M = v at *
  have e3 : (u * M + v) * M = (q1 * b + r1) * M := by rw [e1]
  rw [Int.add_mul] at e3 ⊢
  rw [Int.add_mul] at e3
  have k3 : (M * u + v) * M = x / M * M := by rw [k2]
  rw [Int.add_mul] at k3
  have k4 : M * u * M = u * M * M := by rw [Int.mul_comm M u]
  have k5 : M * (x / M) = x / M * M := Int.mul_comm _ _
  have k6 : q1 * M * b = q1 * b * M := by rw [Int.mul_assoc, Int.mul_comm M b, Int.mul_assoc]
  (first | lia | omega)
/-- undo the padding -/
theorem unpad {x b q r : Int} (e : x * 2 ^ (1 : Int).toNat = q * (b * 2 ^ (1 : Int).toNat) + r) (h0 : 0 ≤ r) (h1 : r < b * 2 ^ (1 : Int).toNat) : x = q * b + r.fdiv (2 ^ (1 : Int).toNat) ∧ 0 ≤ r.fdiv (2 ^ (1 : Int).toNat) ∧ r.fdiv (2 ^ (1 : Int).toNat) < b := by
  rw [fdiv_p2]
  have e2 : (2 : Int) ^ (1 : Int).toNat = 2 := rfl
  have e' : x * 2 = q * b * 2 + r := by rw [Int.mul_assoc]; exact e
  have h1' : r < b * 2 := h1
  rw [e2]
  (first | lia | omega)
theorem half_odd {x b n : Int} (hn : 0 < n) (hp : n % 2 = 1) (hb : (2 : Int) ^ (n.toNat - 1) ≤ b) (hb' : b < 2 ^ n.toNat) (hx0 : 0 ≤ x) (hx : x < b * 2 ^ n.toNat) :
    Half (x * 2 ^ (1 : Int).toNat) (b * 2 ^ (1 : Int).toNat) (n + 1) ((n + 1).fdiv (2 ^ (1 : Int).toNat)) := by
  have e2 : (2 : Int) ^ (1 : Int).toNat = 2 := rfl
  have e3 : (n + 1).toNat = n.toNat + 1 := by (first | lia | omega)
  have e4 : (2 : Int) ^ (n + 1).toNat = 2 ^ n.toNat * 2 := by rw [e3, Int.pow_succ]
  have e5 : (2 : Int) ^ ((n + 1).toNat - 1) = 2 ^ n.toNat := by rw [e3]; rfl
  have e6 := pow_dbl n.toNat (by (first | lia | omega))
  have hM := p2pos n.toNat
  have hf : (n + 1).fdiv (2 ^ (1 : Int).toNat) = (n + 1) / 2 := by rw [fdiv_p2]; rfl
  refine ⟨by (first | lia | omega), by (first | lia | omega), by (first | lia | omega), ?_, ?_, by rw [e2]; (first | lia | omega), ?_⟩
  · rw [e5, e2, e6]; (first | lia | omega)
  · rw [e4, e2]; (first | lia | omega)
  · rw [e4, e2]
    have h1 : b * 2 * (2 ^ n.toNat * 2) = b * 2 ^ n.toNat * 2 * 2 := by
      rw [Int.mul_assoc b 2, Int.mul_left_comm 2 (2 ^ n.toNat) 2, ← Int.mul_assoc, ← Int.mul_assoc]
    have h2 := Int.mul_nonneg (a := b * 2 ^ n.toNat) (b := 2) (by (first | lia | omega)) (by decide)
    (first | lia | omega)
theorem half_even {x b n : Int} (hn : 0 < n) (hp : n % 2 = 0) (hb : (2 : Int) ^ (n.toNat - 1) ≤ b) (hb' : b < 2 ^ n.toNat) (hx0 : 0 ≤ x) (hx : x < b * 2 ^ n.toNat) :
    Half x b n (n.fdiv (2 ^ (1 : Int).toNat)) := by
  have hf : n.fdiv (2 ^ (1 : Int).toNat) = n / 2 := by rw [fdiv_p2]; rfl
  exact ⟨hn, by (first | lia | omega), by (first | lia | omega), hb, hb', hx0, hx⟩
end Mine
end
section
namespace Mine
noncomputable def TabP (P : Addr) (ln col : Nat) (qual : Str) (l : List (Addr × Obj)) : Prop :=
  l = [(P, tabObj #[])] ∨ ∃ (c : Addr) (oc : Obj) (vs : Array Value) (t : Tok), l = [(P, tabObj #[rawInt ln, rawInt col, .ref c]), (c, oc)] ∧ oc.data = .fields vs ∧ vs[1]? = some (.str qual t) ∧ 54 < c
noncomputable abbrev Tab54 := TabP 54 48 4 (Str.ofString "_digits2int.<locals>.inner")
noncomputable abbrev Tab47 := TabP 47 33 4 (Str.ofString "_int2digits.<locals>.inner")
/-- the tables' objects stay off the rest of the ledger -/
noncomputable def Grow (lt lt' news : List (Addr × Obj)) : Prop := ∀ q ∈ news, (∀ p ∈ lt, p.1 ≠ q.1) → ∀ p ∈ lt', p.1 ≠ q.1
theorem Grow.refl (lt news : List (Addr × Obj)) : Grow lt lt news := fun _ _ h => h
theorem Grow.trans {a b c n1 n2 : List (Addr × Obj)} (h1 : Grow a b n1) (h2 : Grow b c n2) (hs : ∀ p ∈ n1, p ∈ n2) : Grow a c n1 := fun q hq h => h2 q (hs q hq) (h1 q hq h)
theorem Grow.sub {a b n1 n2 : List (Addr × Obj)} (h : Grow a b n2) (hs : ∀ p ∈ n1, p ∈ n2) : Grow a b n1 := fun q hq => h q (hs q hq)
theorem Grow.same {P : Addr} {o o' : Obj} {c : Addr} {oc oc' : Obj} {news : List (Addr × Obj)} : Grow [(P, o), (c, oc)] [(P, o'), (c, oc')] news := fun q _ h p hp => by
  rcases List.mem_cons.mp hp with rfl | hp
  · exact h (P, o) (.head _)
  · rw [List.mem_singleton.mp hp]; exact h (c, oc) (.tail _ (.head _))
theorem Grow.made {P : Addr} {o o' : Obj} {c : Addr} {oc : Obj} {news : List (Addr × Obj)} (hc : ∀ q ∈ news, q.1 < c) : Grow [(P, o)] [(P, o'), (c, oc)] news := fun q hq h p hp => by
  rcases List.mem_cons.mp hp with rfl | hp
  · exact h (P, o) (.head _)
  · rw [List.mem_singleton.mp hp]; exact Nat.ne_of_gt (hc q hq)
theorem lt4c {a b c d : Prop} {D : Addr} {news : List (Addr × Obj)} (h : a ∧ b ∧ c ∧ d ∧ AllLt D news) : ∀ q ∈ news, q.1 < D := of_allLt h.2.2.2.2
theorem lt6c {a b c d e f : Prop} {D : Addr} {news : List (Addr × Obj)} (h : a ∧ b ∧ c ∧ d ∧ e ∧ f ∧ AllLt D news) : ∀ q ∈ news, q.1 < D := of_allLt h.2.2.2.2.2.2
noncomputable def TabsOk (l : List (Addr × Obj)) : Prop := ∃ l1 l2, l = l1 ++ l2 ∧ Tab54 l1 ∧ Tab47 l2
/-- a contract of a def that may fill the two tables of made codes -/
noncomputable def SpT (w : World) (f : Addr) (args : List Value) (d u : Nat) (Pre : List (Addr × Obj) → Prop) (Post : List (Addr × Obj) → Value → Prop) : Prop :=
  ∀ (p : Program) (loose : List Str) (mean : ExcName → Option Value) (mg mb : Str → Option Value)
    (dp un : Nat) (gd : Option (List Code)) (cn : Str) (cs : Scope) (a : Addr) (ccd : Value) (cl : List (Str × Addr)) (outer : List Env) (A₀ : Around) (base h₀ : Heap) (L : Addr) (m : Str → Option Value) (lt news : List (Addr × Obj)) (s : Shared)
    (Q E : Value → Shared → Prop),
    Below A₀ base outer h₀ → Fr h₀ L s.heap m → (hd.heap_39 w.params).In h₀ → News h₀ L s.heap (lt ++ news) → TabsOk lt → (∀ q ∈ news, 54 < q.1) → Top p loose mean mg mb h₀ → cs.kind = .function → Pre news →
    dp + d < recursionLimit → un + u < cLine →
    (∀ r lt' tl h' tk', Fr h₀ L h' m → News h₀ L h' (lt' ++ (tl ++ news)) → TabsOk lt' → Grow lt lt' news → (∀ p ∈ tl, 54 < p.1) → (∀ q ∈ news, ∀ p ∈ tl, q.1 < p.1) → Post tl r → Q r { s with heap := h', toks := tk' }) →
    wpAny (model Challenge.rw_ph0090_01.row.prog w) (ktrTop dp un gd cn cs L a ccd cl outer) (call (.ref f) args) Q E s
theorem SpT.use {w : World} {f : Addr} {args : List Value} {d u : Nat} {Pre : List (Addr × Obj) → Prop} {Post : List (Addr × Obj) → Value → Prop} {p : Program} {loose : List Str} {mean : ExcName → Option Value} {mg mb : Str → Option Value}
    {dp un : Nat} {gd : Option (List Code)} {cn : Str} {cs : Scope} {a : Addr} {ccd : Value} {cl : List (Str × Addr)} {outer : List Env} {A₀ : Around} {base h₀ : Heap} {L : Addr} {m : Str → Option Value} {lt news : List (Addr × Obj)} {s : Shared}
    {Q E : Value → Shared → Prop}
    (C : SpT w f args d u Pre Post) (B : Below A₀ base outer h₀) (F : Fr h₀ L s.heap m) (X : (hd.heap_39 w.params).In h₀) (N : News h₀ L s.heap (lt ++ news)) (ht : TabsOk lt) (ha : ∀ q ∈ news, 54 < q.1) (T : Top p loose mean mg mb h₀) (hk : cs.kind = .function) (hp : Pre news)
    (hd : dp + d < recursionLimit) (hu : un + u < cLine)
    (ret : ∀ r lt' tl h' tk', Fr h₀ L h' m → News h₀ L h' (lt' ++ (tl ++ news)) → TabsOk lt' → Grow lt lt' news → (∀ p ∈ tl, 54 < p.1) → (∀ q ∈ news, ∀ p ∈ tl, q.1 < p.1) → Post tl r → Q r { s with heap := h', toks := tk' }) :
    wpAny (model Challenge.rw_ph0090_01.row.prog w) (ktrTop dp un gd cn cs L a ccd cl outer) (call (.ref f) args) Q E s :=
  C _ _ _ _ _ _ _ _ _ _ _ _ _ _ _ _ _ _ _ _ _ _ _ _ B F X N ht ha T hk hp hd hu ret
/-- the same with one table ahead of the rest -/
noncomputable def SpX (w : World) (P f : Addr) (Tb : List (Addr × Obj) → Prop) (args : List Value) (d u : Nat) (Pre : List (Addr × Obj) → Prop) (Post : List (Addr × Obj) → Value → Prop) : Prop :=
  ∀ (p : Program) (loose : List Str) (mean : ExcName → Option Value) (mg mb : Str → Option Value)
    (dp un : Nat) (gd : Option (List Code)) (cn : Str) (cs : Scope) (a : Addr) (ccd : Value) (cl : List (Str × Addr)) (outer : List Env) (A₀ : Around) (base h₀ : Heap) (L : Addr) (m : Str → Option Value) (lt news : List (Addr × Obj)) (s : Shared)
    (Q E : Value → Shared → Prop),
    Below A₀ base outer h₀ → Fr h₀ L s.heap m → (hd.heap_39 w.params).In h₀ → News h₀ L s.heap (lt ++ news) → Tb lt → (∀ q ∈ news, q.1 ≠ P) → Top p loose mean mg mb h₀ → cs.kind = .function → Pre news →
    dp + d < recursionLimit → un + u < cLine →
    (∀ r lt' tl h' tk', Fr h₀ L h' m → News h₀ L h' (lt' ++ (tl ++ news)) → Tb lt' → Grow lt lt' news → (∀ p ∈ tl, 54 < p.1) → (∀ q ∈ news, ∀ p ∈ tl, q.1 < p.1) → Post tl r → Q r { s with heap := h', toks := tk' }) →
    wpAny (model Challenge.rw_ph0090_01.row.prog w) (ktrTop dp un gd cn cs L a ccd cl outer) (call (.ref f) args) Q E s
/-- the number of these digits, the lowest first -/
noncomputable def valOf (n : Nat) : List Int → Int
  | [] => 0
  | x :: r => x + 2 ^ n * valOf n r
noncomputable def CD (w : World) : Prop := ∀ (ds : List Int) (vs : List Value) (ld : Addr) (ep : Nat) (n : Int) (t : Tok), 0 < n → n ≤ 1000000 → ds.length ≤ 200000 → n * ds.length ≤ 20000000 → (∀ x ∈ ds, Builtin.Int.intBits x ≤ 20000000) → IntsAre vs ds →
  SpT w 59 [.ref ld, .int n t] 30 200 (fun news => (ld, listOf vs.toArray ep) ∈ news) (fun tl r => tl = [] ∧ ∃ t, r = .int (valOf n.toNat ds) t)
end Mine
end
section
namespace Mine
theorem valOf_append (n : Nat) : ∀ a b : List Int, valOf n (a ++ b) = valOf n a + 2 ^ (n * a.length) * valOf n b
  | [], b => by simp [valOf]
  | x :: a, b => by
    simp only [List.cons_append, valOf, List.length_cons, Nat.mul_succ]
    rw [valOf_append n a b, Int.mul_add, ← Int.mul_assoc, ← Int.pow_add, Nat.add_comm n]
    (first | lia | omega)
theorem valOf_abs (n B : Nat) (hn : 0 < n) : ∀ ds : List Int, (∀ x ∈ ds, Builtin.Int.intBits x ≤ B) → (valOf n ds).natAbs ≤ (2 ^ B - 1) * (2 ^ (n * ds.length) - 1)
  | [], _ => by simp [valOf]
  | x :: r, h => by
    have h1 := intBits_le_iff.mp (h x (.head _))
    have h2 := valOf_abs n B hn r (fun y hy => h y (.tail _ hy))
    simp only [valOf, List.length_cons, Nat.mul_succ]
    have h3 : (x + 2 ^ n * valOf n r).natAbs ≤ x.natAbs + 2 ^ n * (valOf n r).natAbs := by
      refine Nat.le_trans (Int.natAbs_add_le _ _) ?_
      rw [Int.natAbs_mul, Int.natAbs_pow]
      exact Nat.le_refl _
    refine Nat.le_trans h3 ?_
    have h4 : 2 ^ n * (valOf n r).natAbs ≤ 2 ^ n * ((2 ^ B - 1) * (2 ^ (n * r.length) - 1)) := Nat.mul_le_mul_left _ h2
    have h5 : x.natAbs ≤ 2 ^ B - 1 := by (first | lia | omega)
    have p1 : 0 < 2 ^ (n * r.length) := Nat.two_pow_pos _
    have p2 : 2 ≤ 2 ^ n := by
      have := Nat.pow_le_pow_right (n := 2) (by decide) hn
      simpa using this
    have h6 : 2 ^ n * ((2 ^ B - 1) * (2 ^ (n * r.length) - 1)) + (2 ^ B - 1) ≤ (2 ^ B - 1) * (2 ^ (n * r.length + n) - 1) := by
      rw [Nat.mul_left_comm, Nat.mul_sub, ← Nat.pow_add, Nat.add_comm n, Nat.mul_one]
      have h7 : (2 ^ B - 1) * (2 ^ (n * r.length + n) - 2 ^ n) + (2 ^ B - 1) = (2 ^ B - 1) * (2 ^ (n * r.length + n) - 2 ^ n + 1) := by rw [Nat.mul_succ]
      rw [h7]
      refine Nat.mul_le_mul_left _ ?_
      have h8 : 2 ^ n ≤ 2 ^ (n * r.length + n) := Nat.pow_le_pow_right (by decide) (by (first | lia | omega))
      (first | lia | omega)
    (first | lia | omega)
theorem valOf_bits {n B : Nat} (hn : 0 < n) {ds : List Int} (h : ∀ x ∈ ds, Builtin.Int.intBits x ≤ B) : Builtin.Int.intBits (valOf n ds) ≤ B + n * ds.length := by
  rw [intBits_le_iff]
  refine Nat.lt_of_le_of_lt (valOf_abs n B hn ds h) ?_
  rw [Nat.pow_add]
  have p1 : 0 < 2 ^ B := Nat.two_pow_pos _
  have p2 : 0 < 2 ^ (n * ds.length) := Nat.two_pow_pos _
  have h1 : (2 ^ B - 1) * (2 ^ (n * ds.length) - 1) ≤ (2 ^ B - 1) * 2 ^ (n * ds.length) := Nat.mul_le_mul_left _ (Nat.sub_le _ _)
  have h2 : (2 ^ B - 1) * 2 ^ (n * ds.length) + 2 ^ (n * ds.length) = 2 ^ B * 2 ^ (n * ds.length) := by
    rw [← Nat.succ_mul]; congr 1; (first | lia | omega)
  (first | lia | omega)
noncomputable def sl (ds : List Int) (l r : Int) : List Int := (ds.drop l.toNat).take (r - l).toNat
theorem sl_len {ds : List Int} {l r : Int} (h0 : 0 ≤ l) (h1 : l ≤ r) (h2 : r ≤ ds.length) : (sl ds l r).length = (r - l).toNat := by
  unfold sl
  rw [List.length_take, List.length_drop]; (first | lia | omega)
theorem sl_split {ds : List Int} {l m r : Int} (h0 : 0 ≤ l) (h1 : l ≤ m) (h2 : m ≤ r) (_h3 : r ≤ ds.length) : sl ds l r = sl ds l m ++ sl ds m r := by
  unfold sl
  have e1 : (r - l).toNat = (m - l).toNat + (r - m).toNat := by (first | lia | omega)
  rw [e1, List.take_add, List.drop_drop]
  congr 3; (first | lia | omega)
theorem sl_all (ds : List Int) : sl ds 0 ds.length = ds := by simp [sl]
theorem sl_mem {ds : List Int} {l r x : Int} (h : x ∈ sl ds l r) : x ∈ ds := List.mem_of_mem_drop (List.mem_of_mem_take h)
theorem sl_one {ds : List Int} {l : Int} {x : Int} (h0 : 0 ≤ l) (hx : ds[l.toNat]? = some x) : sl ds l (l + 1) = [x] := by
  unfold sl
  have e : (l + 1 - l).toNat = 1 := by (first | lia | omega)
  rw [e]
  obtain ⟨h1, h2⟩ := List.getElem?_eq_some_iff.mp hx
  rw [List.drop_eq_getElem_cons h1, h2]; rfl
theorem valOf_split {ds : List Int} {l m r : Int} {n : Int} (hn : 0 < n) (h0 : 0 ≤ l) (h1 : l ≤ m) (h2 : m ≤ r) (h3 : r ≤ ds.length) :
    valOf n.toNat (sl ds m r) * 2 ^ ((m - l) * n).toNat + valOf n.toNat (sl ds l m) = valOf n.toNat (sl ds l r) := by
  rw [sl_split h0 h1 h2 h3, valOf_append, sl_len h0 h1 (by (first | lia | omega))]
  have e : n.toNat * (m - l).toNat = ((m - l) * n).toNat := by
    have : ((n.toNat * (m - l).toNat : Nat) : Int) = (m - l) * n := by
      rw [Int.natCast_mul, Int.toNat_of_nonneg (by (first | lia | omega)), Int.toNat_of_nonneg (by (first | lia | omega)), Int.mul_comm]
    (first | lia | omega)
  rw [e, Int.mul_comm (2 ^ _)]; (first | lia | omega)
theorem val_sl_bits {ds : List Int} {n : Int} (hn : 0 < n) (hsz : n * ds.length ≤ 20000000) (hbits : ∀ x ∈ ds, Builtin.Int.intBits x ≤ 20000000) (l r : Int) : Builtin.Int.intBits (valOf n.toNat (sl ds l r)) ≤ 40000000 := by
  have h1 := valOf_bits (n := n.toNat) (B := 20000000) (by (first | lia | omega)) (ds := sl ds l r) (fun x hx => hbits x (sl_mem hx))
  have h2 : (sl ds l r).length ≤ ds.length := by unfold sl; rw [List.length_take, List.length_drop]; (first | lia | omega)
  have h3 : n.toNat * (sl ds l r).length ≤ n.toNat * ds.length := Nat.mul_le_mul_left _ h2
  have h4 : ((n.toNat * ds.length : Nat) : Int) ≤ 20000000 := by
    rw [Int.natCast_mul, Int.toNat_of_nonneg (by (first | lia | omega))]; exact hsz
  (first | lia | omega)
theorem mid_facts {l r : Int} {j : Nat} (_h0 : 0 ≤ l) (h1 : l + 1 < r) (hj : r - l ≤ 2 ^ (j + 1)) :
    l < (l + r).fdiv (2 ^ (1 : Int).toNat) ∧ (l + r).fdiv (2 ^ (1 : Int).toNat) < r ∧ (l + r).fdiv (2 ^ (1 : Int).toNat) - l ≤ 2 ^ j ∧ r - (l + r).fdiv (2 ^ (1 : Int).toNat) ≤ 2 ^ j := by
  rw [fdiv_p2]
  have e : (2 : Int) ^ (1 : Int).toNat = 2 := rfl
  rw [e]
  rw [Int.pow_succ] at hj
  (first | lia | omega)
theorem mid_mul {l m : Int} {n : Int} {k : Nat} (hn : 0 < n) (h1 : l < m) (h0 : 0 ≤ l) (h2 : m ≤ k) (hk : k ≤ 200000) (hsz : n * k ≤ 20000000) : IntMulOk (m - l) n ∧ 0 ≤ (m - l) * n ∧ (m - l) * n ≤ 30000000 := by
  refine ⟨.of_left ?_, Int.mul_nonneg (by (first | lia | omega)) (by (first | lia | omega)), ?_⟩
  · refine Nat.le_trans (bits_le (k := 18) (by (first | lia | omega)) ?_) (by decide)
    have : (2 : Int) ^ 18 = 262144 := rfl
    (first | lia | omega)
  · have : (m - l) * n ≤ k * n := Int.mul_le_mul_of_nonneg_right (by (first | lia | omega)) (by (first | lia | omega))
    rw [Int.mul_comm] at hsz
    (first | lia | omega)
end Mine
end
section
theorem Mine.idle1 : True := by
  w_top off
  k_with_none
  trivial
set_option maxRecDepth 100000
set_option maxHeartbeats 8000000
namespace Mine
/-- the one def that the def at f makes -/
noncomputable def innerOf (K : Frag) (f : Addr) : Option (Str × Arguments × List Stmt × Scope) := match K.lookup f with
  | some ⟨_, _, .func fd, _⟩ => (match fd.body with
    | .stmts l => l.findSome? fun st => match st with
      | .FunctionDef nm args body _ _ _ sc _ _ _ => some (nm, args, body, sc)
      | _ => none
    | _ => none)
  | _ => none
noncomputable def InnerD (w : World) (nm qual : Str) (params : Arguments) (body : List Stmt) (scope : Scope) (ds : List Int) (n : Int) (j : Nat) : Prop :=
  ∀ (vs : List Value) (ld fI cI cN cD cC : Addr) (ep : Nat) (doc pm ctv : Value) (oC oI oN oD : Obj) (vc : Array Value) (tc tn : Tok)
    (p : Program) (loose : List Str) (mean : ExcName → Option Value) (mg mb : Str → Option Value)
    (dp un : Nat) (gd : Option (List Code)) (cn : Str) (cs : Scope) (a : Addr) (ccd : Value) (cl : List (Str × Addr)) (outer : List Env) (A₀ : Around) (base h₀ : Heap) (L : Addr) (m : Str → Option Value) (news : List (Addr × Obj)) (s : Shared)
    (Q E : Value → Shared → Prop) (l r : Int) (t1 t2 : Tok),
    IntsAre vs ds →
    Below A₀ base outer h₀ → Fr h₀ L s.heap m → (hd.heap_39 w.params).In h₀ → News h₀ L s.heap news → Top p loose mean mg mb h₀ → cs.kind = .function →
    (fI, fnMade nm qual params body scope [(Str.ofString "n", cN), (Str.ofString "inner", cI), (Str.ofString "digits", cD)] doc pm cC ctv) ∈ news → (cC, oC) ∈ news → oC.data = .fields vc → vc[1]? = some (.str qual tc) →
    (cI, oI) ∈ news → oI.data = .cell (some (.ref fI)) → (cN, oN) ∈ news → oN.data = .cell (some (.int n tn)) → (cD, oD) ∈ news → oD.data = .cell (some (.ref ld)) → (ld, listOf vs.toArray ep) ∈ news →
    0 ≤ l → l < r → r ≤ ds.length → r - l ≤ 2 ^ j → dp + (j + 1) < recursionLimit → un + 8 * (j + 1) < cLine →
    (∀ h' tk' t', Fr h₀ L h' m → News h₀ L h' news → Q (.int (valOf n.toNat (sl ds l r)) t') { s with heap := h', toks := tk' }) →
    wpAny (model Challenge.rw_ph0090_01.row.prog w) (ktrTop dp un gd cn cs L a ccd cl outer) (call (.ref fI) [.int l t1, .int r t2]) Q E s
theorem ints_at : ∀ {vs : List Value} {ds : List Int}, IntsAre vs ds → ∀ {k : Nat}, k < ds.length → ∃ x t, vs[k]? = some (.int x t) ∧ ds[k]? = some x := fun {vs ds} h {k} hk => by
  have hl := IntsAre.length h
  have h1 : k < vs.length := by (first | lia | omega)
  obtain ⟨x, t, e1, e2⟩ := IntsAre.at h k vs[k] (List.getElem?_eq_getElem h1)
  exact ⟨x, t, by rw [List.getElem?_eq_getElem h1, e1], e2⟩
theorem run1 : True := by
  k_with "k_mem" => (assumption)
  k_with "enterN" => (refine' code_nest ?j1k1 ?j1k2 ?j1k3 ?j1k4 ?j1k5 ?j1kA ?j1kF ?j1kK ?j1k6 ?j1k7 ?j1k8 ?j1k9 ?j1kB ?_ ?j1c2 ?j1c3 ?j1c4 ?j1c5; (case j1kA => exact rfl); (case j1kF => exact rfl); (case j1kK => assumption); (case j1k1 => k_asm); (case j1k2 => k_asm); (case j1k3 => k_asm); (case j1k4 => k_asm); (case j1k5 => k_asm); (case j1k6 => k_mem); (case j1k7 => exact codeRec_news (by k_asm) (by k_mem) (by assumption) (by assumption)); (case j1k8 => ktr_room); (case j1k9 => exact BindsTo.of_eq rfl); (case j1c5 => decide); (case j1kB => exact locs rfl); (case j1c2 => exact rfl); (case j1c3 => exact rfl); (case j1c4 => exact rfl); k_whole; walk_at "s1")
  k_with "subscriptTail" => (refine item_litK (News.isList (by k_asm) (by k_mem)) (by assumption) (by (first | lia | omega)) (by assumption) ?_)
  k_with "ite" => (first | (refine ite_pos ?j3hc ?_; (case j3hc => (simp only [beq_iff_eq, bne_iff_ne, ne_eq, decide_eq_true_eq]; (first | lia | omega)))) | (refine ite_neg ?j3hc ?_; (case j3hc => (simp only [beq_iff_eq, bne_iff_ne, ne_eq, decide_eq_true_eq]; (first | lia | omega)))) | (refine ite_pos ?j3hc ?_; (case j3hc => (simp only [beq_iff_eq, bne_iff_ne, ne_eq, decide_eq_true_eq]; done))))
  k_with "binaryOp RShift int int" => (refine rshift_int (by decide) ?_)
  k_with "binaryOp Mult int int" => (refine mul_int ?_ (by assumption))
  k_with "binaryOp LShift int int" => (refine lshift_int (by assumption) (shl_ok (val_sl_bits (by assumption) (by assumption) (by assumption) _ _) (by decide) (by assumption)) ?_)
  trivial
theorem InnerD.use {w : World} {nm qual : Str} {params : Arguments} {body : List Stmt} {scope : Scope} {ds : List Int} {n : Int} {j : Nat} {vs : List Value} {ld fI cI cN cD cC : Addr} {ep : Nat} {doc pm ctv : Value} {oC oI oN oD : Obj} {vc : Array Value} {tc tn : Tok}
    {p : Program} {loose : List Str} {mean : ExcName → Option Value} {mg mb : Str → Option Value}
    {dp un : Nat} {gd : Option (List Code)} {cn : Str} {cs : Scope} {a : Addr} {ccd : Value} {cl : List (Str × Addr)} {outer : List Env} {A₀ : Around} {base h₀ : Heap} {L : Addr} {m : Str → Option Value} {news : List (Addr × Obj)} {s : Shared}
    {Q E : Value → Shared → Prop} {l r : Int} {t1 t2 : Tok} (C : InnerD w nm qual params body scope ds n j)
    (hvs : IntsAre vs ds) (B : Below A₀ base outer h₀) (F : Fr h₀ L s.heap m) (X : (hd.heap_39 w.params).In h₀) (N : News h₀ L s.heap news) (T : Top p loose mean mg mb h₀) (hk : cs.kind = .function)
    (m1 : (fI, fnMade nm qual params body scope [(Str.ofString "n", cN), (Str.ofString "inner", cI), (Str.ofString "digits", cD)] doc pm cC ctv) ∈ news) (m2 : (cC, oC) ∈ news) (d2 : oC.data = .fields vc) (d2' : vc[1]? = some (.str qual tc))
    (m3 : (cI, oI) ∈ news) (d3 : oI.data = .cell (some (.ref fI))) (m4 : (cN, oN) ∈ news) (d4 : oN.data = .cell (some (.int n tn))) (m5 : (cD, oD) ∈ news) (d5 : oD.data = .cell (some (.ref ld))) (m6 : (ld, listOf vs.toArray ep) ∈ news)
    (h0 : 0 ≤ l) (h1 : l < r) (h2 : r ≤ ds.length) (h3 : r - l ≤ 2 ^ j) (hdp : dp + (j + 1) < recursionLimit) (hu : un + 8 * (j + 1) < cLine)
    (ret : ∀ h' tk' t', Fr h₀ L h' m → News h₀ L h' news → Q (.int (valOf n.toNat (sl ds l r)) t') { s with heap := h', toks := tk' }) :
    wpAny (model Challenge.rw_ph0090_01.row.prog w) (ktrTop dp un gd cn cs L a ccd cl outer) (call (.ref fI) [.int l t1, .int r t2]) Q E s :=
  C _ _ _ _ _ _ _ _ _ _ _ _ _ _ _ _ _ _ _ _ _ _ _ _ _ _ _ _ _ _ _ _ _ _ _ _ _ _ _ _ _ _ _ _ _ hvs B F X N T hk m1 m2 d2 d2' m3 d3 m4 d4 m5 d5 m6 h0 h1 h2 h3 hdp hu ret
theorem run2 : True := by
  k_with "call ref" => (k_here; k_dflt (refine' InnerD.use ‹InnerD _ _ _ _ _ _ _ _ _› ?j7v ?j7B ?j7F ?j7X ?j7N ?j7T ?j7hk ?j7m1 ?j7m2 ?j7d2 ?j7d2' ?j7m3 ?j7d3 ?j7m4 ?j7d4 ?j7m5 ?j7d5 ?j7m6 ?j7h0 ?j7h1 ?j7h2 ?j7h3 ?j7hd ?j7hu ?_; (case j7v => assumption); (case j7B => k_asm); (case j7F => k_asm); (case j7X => k_asm); (case j7N => k_asm); (case j7T => k_asm); (case j7hk => first | exact rfl | assumption); (case j7m1 => assumption); (case j7m2 => assumption); (case j7d2 => assumption); (case j7d2' => assumption); (case j7m3 => assumption); (case j7d3 => assumption); (case j7m4 => assumption); (case j7d4 => assumption); (case j7m5 => assumption); (case j7d5 => assumption); (case j7m6 => assumption); (case j7h0 => (first | lia | omega)); (case j7h1 => assumption); (case j7h2 => (first | lia | omega)); (case j7h3 => assumption); (case j7hd => ktr_room); (case j7hu => ktr_units); intro _ _ _ _ _; (try dsimp only); (try k_fold)))
  trivial
theorem innerD (w : World) {nm qual : Str} {params : Arguments} {body : List Stmt} {scope : Scope} (hb : innerOf (hd.heap_39 w.params) 59 = some (nm, params, body, scope)) (ds : List Int) (n : Int)
    (hn : 0 < n) (hlen : ds.length ≤ 200000) (hsz : n * ds.length ≤ 20000000) (hbits : ∀ x ∈ ds, Builtin.Int.intBits x ≤ 20000000) : ∀ j, InnerD w nm qual params body scope ds n j := by
  have e : some (nm, params, body, scope) = some (_, _, _, _) := hb.symm.trans rfl
  simp only [Option.some.injEq, Prod.mk.injEq] at e
  obtain ⟨rfl, rfl, rfl, rfl⟩ := e
  clear hb
  intro j
  induction j with
  | zero =>
    unfold InnerD
    k_fill
    intro vs ld fI cI cN cD cC ep doc pm ctv oC oI oN oD vc tc tn p loose mean mg mb dp un gd cn cs a ccd cl outer A₀ base h₀ L m news s Q E l r t1 t2 hvs B F X N T hk m1 m2 d2 d2' m3 d3 m4 d4 m5 d5 m6 hl0 hlr hr hj hdp hu hret
    have hc54 := codeHd_of_K (c := 58) (P := 54) X (by kernel_rfl)
    have hvl := IntsAre.length hvs
    by_cases hr1 : r = l + 1
    ·
      subst hr1
      obtain ⟨x, tx, hx1, hx2⟩ := ints_at hvs (k := l.toNat) (by (first | lia | omega))
      refine wpAny_call ?_
      k_dflt walk_at "enterN"
      k_steps
      have ev : x = valOf n.toNat (sl ds l (l + 1)) := by rw [sl_one hl0 hx2]; simp [valOf]
      rw [ev]
      exact hret _ _ _ (by k_asm) (by k_asm)
    · simp at hj; (first | lia | omega)
  | succ j ih =>
    unfold InnerD
    k_fill
    intro vs ld fI cI cN cD cC ep doc pm ctv oC oI oN oD vc tc tn p loose mean mg mb dp un gd cn cs a ccd cl outer A₀ base h₀ L m news s Q E l r t1 t2 hvs B F X N T hk m1 m2 d2 d2' m3 d3 m4 d4 m5 d5 m6 hl0 hlr hr hj hdp hu hret
    have hc54 := codeHd_of_K (c := 58) (P := 54) X (by kernel_rfl)
    have hvl := IntsAre.length hvs
    by_cases hr1 : r = l + 1
    ·
      subst hr1
      obtain ⟨x, tx, hx1, hx2⟩ := ints_at hvs (k := l.toNat) (by (first | lia | omega))
      refine wpAny_call ?_
      k_dflt walk_at "enterN"
      k_steps
      have ev : x = valOf n.toNat (sl ds l (l + 1)) := by rw [sl_one hl0 hx2]; simp [valOf]
      rw [ev]
      exact hret _ _ _ (by k_asm) (by k_asm)
    · obtain ⟨hm1, hm2, hm3, hm4⟩ := mid_facts hl0 (by (first | lia | omega)) hj
      obtain ⟨hq1, hq2, hq3⟩ := mid_mul (k := ds.length) hn hm1 hl0 (by (first | lia | omega)) hlen hsz
      refine wpAny_call ?_
      k_dflt walk_at "enterN"
      k_steps
      rw [valOf_split hn hl0 (by (first | lia | omega)) (by (first | lia | omega)) hr]
      exact hret _ _ _ (by k_asm) (by k_asm)
end Mine
end
section
theorem Mine.idle2 : True := by
  w_top off
  k_with_none
  trivial
set_option maxRecDepth 100000
set_option maxHeartbeats 8000000
namespace Mine
theorem run3 : True := by
  k_with "k_mem" => (assumption)
  k_with "k_all" => (first | assumption | exact ne_of_allLt (by assumption) (by (first | lia | omega)))
  trivial
local macro_rules | `(tactic| walk_at "p1x1") => `(tactic| (intro g' L' h' tk' cells' FG' F' N' Y' B' X' T' l1; (try k_lt l1); (have hLn := And.right l1); k_cells Y'; (have hcg := codeHd_of_K (c := 58) (P := 54) X' (by kernel_rfl)); (try simp only [List.cons_append, List.nil_append] at N'); (try dsimp only); (try k_fold)))
theorem run4 : True := by
  k_with "enterC" => (refine' code_defC ?j8k1 ?j8k2 ?j8k3 ?j8k4 ?j8k5 ?j8kA ?j8kF ?j8kK ?j8k6 ?j8k7 ?j8k8 ?j8k9 ?j8kB ?j8kD ?_ ?j8c2 ?j8c3 ?j8c4; (case j8kA => exact rfl); (case j8kF => exact rfl); (case j8kK => assumption); (case j8k1 => k_asm); (case j8k2 => k_asm); (case j8k3 => k_asm); (case j8k4 => k_asm); (case j8k5 => k_asm); (case j8k6 => k_is); (case j8k7 => k_is); (case j8k8 => ktr_room); (case j8k9 => exact BindsTo.of_eq rfl); (case j8kB => exact rfl); (case j8kD => decide +kernel); (case j8c2 => exact rfl); (case j8c3 => exact rfl); (case j8c4 => exact rfl); k_whole; walk_at "p1x1")
  k_with "fit" => (simp only [List.size_toArray]; (first | lia | omega))
  k_with "truthy ref" => (refine wpAny_truthy_list (News.isList (by k_asm) (by k_mem)) (by walk_at "fit") ?_)
  k_with "call builtin:len" => (refine len_list (News.isList (by k_asm) (by k_mem)) (by walk_at "fit") ?_)
  k_with "ite" => (first | (refine ite_pos ?j12hc ?_; (case j12hc => (simp only [beq_iff_eq, bne_iff_ne, ne_eq, decide_eq_true_eq]; (first | lia | omega)))) | (refine ite_neg ?j12hc ?_; (case j12hc => (simp only [beq_iff_eq, bne_iff_ne, ne_eq, decide_eq_true_eq]; (first | lia | omega)))))
  k_with "call ref" => (k_here; k_dflt (refine' InnerD.use (innerD _ ?j13hb _ _ ?j13pn ?j13pl ?j13ps ?j13pb 18) ?j13v ?j13B ?j13F ?j13X ?j13N ?j13T ?j13hk ?j13m1 ?j13m2 ?j13d2 ?j13d2' ?j13m3 ?j13d3 ?j13m4 ?j13d4 ?j13m5 ?j13d5 ?j13m6 ?j13h0 ?j13h1 ?j13h2 ?j13h3 ?j13hd ?j13hu ?_; (case j13v => assumption); (case j13B => k_asm); (case j13F => k_asm); (case j13X => k_asm); (case j13N => k_asm); (case j13T => k_asm); (case j13hk => first | exact rfl | assumption); (case j13m1 => k_mem); (case j13hb => exact rfl); (case j13pn => assumption); (case j13pl => assumption); (case j13ps => assumption); (case j13pb => assumption); (case j13m2 => k_mem); (case j13d2 => assumption); (case j13d2' => assumption); (case j13m3 => k_mem); (case j13d3 => assumption); (case j13m4 => k_mem); (case j13d4 => assumption); (case j13m5 => k_mem); (case j13d5 => assumption); (case j13m6 => k_mem); (case j13h0 => (first | lia | omega)); (case j13h1 => exact size_pos_of (by assumption)); (case j13h2 => walk_at "fit"); (case j13h3 => walk_at "fit"); (case j13hd => ktr_room); (case j13hu => ktr_units); intro _ _ _ _ _; (try dsimp only); (try k_fold)))
  trivial
theorem cdx (w : World) (ds : List Int) (vs : List Value) (ld : Addr) (ep : Nat) (n : Int) (t : Tok) (hn : 0 < n) (hn6 : n ≤ 1000000) (hlen : ds.length ≤ 200000) (hsz : n * ds.length ≤ 20000000) (hbits : ∀ x ∈ ds, Builtin.Int.intBits x ≤ 20000000) (hvs : IntsAre vs ds) :
    SpX w 54 59 Tab54 [.ref ld, .int n t] 30 200 (fun news => (ld, listOf vs.toArray ep) ∈ news) (fun tl r => tl = [] ∧ ∃ t, r = .int (valOf n.toNat ds) t) := by
  unfold SpX
  k_fill
  intro p loose mean mg mb dp un gd cn cs a ccd cl outer A₀ base h₀ L m lt news s Q E B F X N h1 ha T hk hp hdp hu hret
  replace hp : (ld, listOf vs.toArray ep) ∈ news := hp
  have hvl := IntsAre.length hvs
  have hc54 := codeHd_of_K (c := 58) (P := 54) X (by kernel_rfl)
  rcases h1 with rfl | ⟨c, oc, vc, t', rfl, hoc, hvs1, hc⟩
  · simp only [List.cons_append, List.nil_append] at N
    refine wpAny_call ?_
    k_dflt walk_at "enterC"
    k_steps
    · refine hret _ [_, _] [] _ _ (by k_asm) (News.pickMiss (by k_asm)) (Or.inr ⟨_, _, _, _, rfl, by assumption, by assumption, ltN (by (first | lia | omega))⟩) (Grow.made (lt4c (by assumption))) (fun _ h => nomatch h) (fun _ _ _ h => nomatch h) ⟨rfl, _, by rw [ints_nil hvs (by assumption)]; rfl⟩
    · rw [ints_size hvs, sl_all]
      refine hret _ [_, _] [] _ _ (by k_asm) (News.pickMiss (by k_asm)) (Or.inr ⟨_, _, _, _, rfl, by assumption, by assumption, ltN (by (first | lia | omega))⟩) (Grow.made (lt4c (by assumption))) (fun _ h => nomatch h) (fun _ _ _ h => nomatch h) ⟨rfl, _, rfl⟩
  · simp only [List.cons_append, List.nil_append] at N
    refine wpAny_call ?_
    k_dflt walk_at "enterC"
    k_steps
    · refine hret _ [_, _] [] _ _ (by k_asm) (News.pickHit (by k_asm)) (Or.inr ⟨_, _, _, _, rfl, hoc, hvs1, hc⟩) Grow.same (fun _ h => nomatch h) (fun _ _ _ h => nomatch h) ⟨rfl, _, by rw [ints_nil hvs (by assumption)]; rfl⟩
    · rw [ints_size hvs, sl_all]
      refine hret _ [_, _] [] _ _ (by k_asm) (News.pickHit (by k_asm)) (Or.inr ⟨_, _, _, _, rfl, hoc, hvs1, hc⟩) Grow.same (fun _ h => nomatch h) (fun _ _ _ h => nomatch h) ⟨rfl, _, rfl⟩
end Mine
end
section
namespace Mine
theorem emod_mul_split (x : Int) {P R : Int} (hp : 0 < P) (hr : 0 < R) : x % (P * R) = P * (x / P % R) + x % P := by
  have h1 := Int.mul_ediv_add_emod x P
  have h2 := Int.mul_ediv_add_emod (x / P) R
  have a0 := Int.emod_nonneg x (Int.ne_of_gt hp)
  have a1 := Int.emod_lt_of_pos x hp
  have b0 := Int.emod_nonneg (x / P) (Int.ne_of_gt hr)
  have b1 := Int.emod_lt_of_pos (x / P) hr
  refine (kbt_unique (a := x) (b := P * R) (q := x / P / R) (Int.mul_pos hp hr) ?_ ?_ ?_).2
  · have h3 : P * (R * (x / P / R) + x / P % R) = P * (x / P) := by rw [h2]
    rw [Int.mul_add, ← Int.mul_assoc] at h3
    (first | lia | omega)
  · have := Int.mul_nonneg (Int.le_of_lt hp) b0
    (first | lia | omega)
  · have h4 : x / P % R + 1 ≤ R := by (first | lia | omega)
    have h5 := Int.mul_le_mul_of_nonneg_left h4 (Int.le_of_lt hp)
    rw [Int.mul_add, Int.mul_one] at h5
    (first | lia | omega)
theorem emod_mul_ediv (x : Int) {P R : Int} (hp : 0 < P) (hr : 0 < R) : x % (P * R) / P = x / P % R := by
  rw [emod_mul_split x hp hr]
  have a0 := Int.emod_nonneg x (Int.ne_of_gt hp)
  have a1 := Int.emod_lt_of_pos x hp
  exact (kbt_unique (q := x / P % R) (r := x % P) hp (by (first | lia | omega)) a0 a1).1
/-- k digits of x, the lowest first -/
noncomputable def digN (n : Nat) : Nat → Int → List Int
  | 0, _ => []
  | k + 1, x => x % 2 ^ n :: digN n k (x / 2 ^ n)
theorem digN_len (n : Nat) : ∀ (k : Nat) (x : Int), (digN n k x).length = k
  | 0, _ => rfl
  | k + 1, x => by simp [digN, digN_len n k]
theorem digN_split (n : Nat) : ∀ (a b : Nat) (x : Int), digN n (a + b) x = digN n a (x % 2 ^ (n * a)) ++ digN n b (x / 2 ^ (n * a))
  | 0, b, x => by simp [digN]
  | a + 1, b, x => by
    have e : a + 1 + b = (a + b) + 1 := by (first | lia | omega)
    rw [e]
    have hp := p2pos n
    have hq := p2pos (n * a)
    have e2 : (2 : Int) ^ (n * (a + 1)) = 2 ^ n * 2 ^ (n * a) := by rw [← Int.pow_add]; congr 1; rw [Nat.mul_succ]; (first | lia | omega)
    simp only [digN, List.cons_append]
    rw [digN_split n a b (x / 2 ^ n), e2]
    congr 1
    · rw [Int.emod_emod_of_dvd x (Int.dvd_mul_right _ _)]
    · congr 1
      · congr 1
        rw [emod_mul_ediv x hp hq]
      · rw [Int.ediv_ediv_of_nonneg (Int.le_of_lt hp)]
theorem digN_one {n : Nat} {x : Int} (h0 : 0 ≤ x) (h1 : x < 2 ^ n) : digN n 1 x = [x] := by
  simp only [digN]
  rw [Int.emod_eq_of_lt h0 h1]
/-- the places from l on are these -/
noncomputable def upd (ns : List Int) (l : Nat) (ds : List Int) : List Int := ns.take l ++ ds ++ ns.drop (l + ds.length)
theorem upd_len {ns ds : List Int} {l : Nat} (h : l + ds.length ≤ ns.length) : (upd ns l ds).length = ns.length := by
  simp only [upd, List.length_append, List.length_take, List.length_drop]; (first | lia | omega)
theorem upd_one {ns : List Int} {l : Nat} {x : Int} (h : l < ns.length) : upd ns l [x] = ns.set l x := by
  rw [upd, List.set_eq_take_append_cons_drop, if_pos h]; simp
theorem upd_upd {ns d1 d2 : List Int} {l : Nat} (h : l + d1.length + d2.length ≤ ns.length) : upd (upd ns l d1) (l + d1.length) d2 = upd ns l (d1 ++ d2) := by
  have e1 : (ns.take l ++ d1).length = l + d1.length := by simp only [List.length_append, List.length_take]; (first | lia | omega)
  unfold upd
  rw [List.take_append_of_le_length (by (first | lia | omega)), List.take_of_length_le (by (first | lia | omega))]
  congr 1
  · simp
  · rw [List.drop_append, List.drop_of_length_le (by (first | lia | omega)), List.nil_append, List.drop_drop, e1, List.length_append]
    congr 1; (first | lia | omega)
theorem upd_all {ns ds : List Int} (h : ds.length = ns.length) : upd ns 0 ds = ds := by
  simp [upd, h]
/-- the digits that _int2digits gives -/
noncomputable def digs (n : Nat) (a : Int) : List Int := digN n ((Builtin.Int.intBits a + n - 1) / n) a
end Mine
end
section
namespace Mine
theorem sh_eq {n d : Int} (hn : 0 < n) (hd : 0 ≤ d) : (d * n).toNat = n.toNat * d.toNat := by
  have : ((n.toNat * d.toNat : Nat) : Int) = d * n := by
    rw [Int.natCast_mul, Int.toNat_of_nonneg (by (first | lia | omega)), Int.toNat_of_nonneg hd, Int.mul_comm]
  (first | lia | omega)
theorem low_facts {x n l m : Int} (hn : 0 < n) (h1 : l ≤ m) :
    0 ≤ Builtin.bitXor x (x.fdiv (2 ^ ((m - l) * n).toNat) * 2 ^ ((m - l) * n).toNat) ∧ Builtin.bitXor x (x.fdiv (2 ^ ((m - l) * n).toNat) * 2 ^ ((m - l) * n).toNat) < 2 ^ (n.toNat * (m - l).toNat) := by
  rw [xor_low, sh_eq hn (by (first | lia | omega))]
  have hp := p2pos (n.toNat * (m - l).toNat)
  exact ⟨Int.emod_nonneg x (Int.ne_of_gt hp), Int.emod_lt_of_pos x hp⟩
theorem up_facts {x n l m r : Int} (hn : 0 < n) (h1 : l ≤ m) (h2 : m ≤ r) (hx0 : 0 ≤ x) (hx1 : x < 2 ^ (n.toNat * (r - l).toNat)) :
    0 ≤ x.fdiv (2 ^ ((m - l) * n).toNat) ∧ x.fdiv (2 ^ ((m - l) * n).toNat) < 2 ^ (n.toNat * (r - m).toNat) := by
  rw [sh_eq hn (by (first | lia | omega)), fdiv_p2]
  have hp := p2pos (n.toNat * (m - l).toNat)
  refine ⟨Int.ediv_nonneg hx0 (Int.le_of_lt hp), Int.ediv_lt_of_lt_mul hp ?_⟩
  rw [← Int.pow_add, ← Nat.mul_add]
  have e : (r - m).toNat + (m - l).toNat = (r - l).toNat := by (first | lia | omega)
  rw [e]; exact hx1
theorem bits_x {x n l r : Int} {k : Nat} (hn : 0 < n) (h0 : 0 ≤ l) (h1 : l ≤ r) (h2 : r ≤ k) (hsz : n * k ≤ 20000000) (hx0 : 0 ≤ x) (hx1 : x < 2 ^ (n.toNat * (r - l).toNat)) : Builtin.Int.intBits x ≤ 20000000 := by
  refine Nat.le_trans (bits_le hx0 hx1) ?_
  have h3 : n.toNat * (r - l).toNat ≤ n.toNat * k := Nat.mul_le_mul_left _ (by (first | lia | omega))
  have h4 : ((n.toNat * k : Nat) : Int) ≤ 20000000 := by rw [Int.natCast_mul, Int.toNat_of_nonneg (by (first | lia | omega))]; exact hsz
  (first | lia | omega)
theorem inner_join {ns : List Int} {x n l m r : Int} (hn : 0 < n) (h0 : 0 ≤ l) (h1 : l ≤ m) (h2 : m ≤ r) (h3 : r ≤ ns.length) :
    upd (upd ns l.toNat (digN n.toNat (m - l).toNat (Builtin.bitXor x (x.fdiv (2 ^ ((m - l) * n).toNat) * 2 ^ ((m - l) * n).toNat)))) m.toNat (digN n.toNat (r - m).toNat (x.fdiv (2 ^ ((m - l) * n).toNat)))
      = upd ns l.toNat (digN n.toNat (r - l).toNat x) := by
  rw [xor_low, sh_eq hn (by (first | lia | omega)), fdiv_p2]
  have e1 : m.toNat = l.toNat + (digN n.toNat (m - l).toNat (x % 2 ^ (n.toNat * (m - l).toNat))).length := by rw [digN_len]; (first | lia | omega)
  rw [e1, upd_upd (by rw [digN_len, digN_len]; (first | lia | omega))]
  have e2 : (r - l).toNat = (m - l).toNat + (r - m).toNat := by (first | lia | omega)
  rw [e2, digN_split]
theorem inner_base {ns : List Int} {x n l : Int} (h0 : 0 ≤ l) (h3 : l < ns.length) (hx0 : 0 ≤ x) (hx1 : x < 2 ^ (n.toNat * (l + 1 - l).toNat)) : ns.set l.toNat x = upd ns l.toNat (digN n.toNat (l + 1 - l).toNat x) := by
  have e : (l + 1 - l).toNat = 1 := by (first | lia | omega)
  rw [e] at hx1 ⊢
  rw [Nat.mul_one] at hx1
  rw [digN_one hx0 hx1, upd_one (by (first | lia | omega))]
end Mine
end
section
theorem Mine.idle3 : True := by
  w_top off
  k_with_none
  trivial
set_option maxRecDepth 100000
set_option maxHeartbeats 8000000
namespace Mine
noncomputable def InnerI (w : World) (nm qual : Str) (params : Arguments) (body : List Stmt) (scope : Scope) (n : Int) (j : Nat) : Prop :=
  ∀ (vs : List Value) (ns : List Int) (la fI cI cN cD cC : Addr) (ep : Nat) (doc pm ctv : Value) (oC oI oN oD : Obj) (vc : Array Value) (tc tn : Tok) (p : Program) (loose : List Str) (mean : ExcName → Option Value) (mg mb : Str → Option Value) (dp un : Nat) (gd : Option (List Code)) (cn : Str) (cs : Scope) (a : Addr) (ccd : Value) (cl : List (Str × Addr)) (outer : List Env) (A₀ : Around) (base h₀ : Heap) (L : Addr) (m : Str → Option Value) (news : List (Addr × Obj)) (s : Shared) (Q E : Value → Shared → Prop) (x l r : Int) (t0 t1 t2 : Tok),
    (IntsAre vs ns) →
    (Below A₀ base outer h₀) →
    (Fr h₀ L s.heap m) →
    ((hd.heap_39 w.params).In h₀) →
    (News h₀ L s.heap ((la, listOf vs.toArray ep) :: news)) →
    (∀ q ∈ news, q.1 ≠ la) →
    (Top p loose mean mg mb h₀) →
    (cs.kind = .function) →
    ((fI, fnMade nm qual params body scope [(Str.ofString "n", cN), (Str.ofString "inner", cI), (Str.ofString "a_digits", cD)] doc pm cC ctv) ∈ news) →
    ((cC, oC) ∈ news) →
    (oC.data = .fields vc) →
    (vc[1]? = some (.str qual tc)) →
    ((cI, oI) ∈ news) →
    (oI.data = .cell (some (.ref fI))) →
    ((cN, oN) ∈ news) →
    (oN.data = .cell (some (.int n tn))) →
    ((cD, oD) ∈ news) →
    (oD.data = .cell (some (.ref la))) →
    (0 ≤ l) →
    (l < r) →
    (r ≤ ns.length) →
    (ns.length ≤ 200000) →
    (n * ns.length ≤ 20000000) →
    (r - l ≤ 2 ^ j) →
    (0 ≤ x) →
    (x < 2 ^ (n.toNat * (r - l).toNat)) →
    (dp + (j + 1) < recursionLimit) →
    (un + 8 * (j + 1) < cLine) →
    (∀ vs' h' tk', Fr h₀ L h' m → News h₀ L h' ((la, listOf vs'.toArray ep) :: news) → IntsAre vs' (upd ns l.toNat (digN n.toNat (r - l).toNat x)) → Q .none { s with heap := h', toks := tk' }) →
    wpAny (model Challenge.rw_ph0090_01.row.prog w) (ktrTop dp un gd cn cs L a ccd cl outer) (call (.ref fI) [.int x t0, .int l t1, .int r t2]) Q E s
theorem InnerI.use {w : World} {nm qual : Str} {params : Arguments} {body : List Stmt} {scope : Scope} {n : Int} {j : Nat} {vs : List Value} {ns : List Int} {la fI cI cN cD cC : Addr} {ep : Nat} {doc pm ctv : Value} {oC oI oN oD : Obj} {vc : Array Value} {tc tn : Tok} {p : Program} {loose : List Str} {mean : ExcName → Option Value} {mg mb : Str → Option Value} {dp un : Nat} {gd : Option (List Code)} {cn : Str} {cs : Scope} {a : Addr} {ccd : Value} {cl : List (Str × Addr)} {outer : List Env} {A₀ : Around} {base h₀ : Heap} {L : Addr} {m : Str → Option Value} {news : List (Addr × Obj)} {s : Shared} {Q E : Value → Shared → Prop} {x l r : Int} {t0 t1 t2 : Tok} (C : InnerI w nm qual params body scope n j)
    (hvs : IntsAre vs ns) (B : Below A₀ base outer h₀) (F : Fr h₀ L s.heap m) (X : (hd.heap_39 w.params).In h₀) (N : News h₀ L s.heap ((la, listOf vs.toArray ep) :: news)) (hap : ∀ q ∈ news, q.1 ≠ la) (T : Top p loose mean mg mb h₀) (hk : cs.kind = .function) (m1 : (fI, fnMade nm qual params body scope [(Str.ofString "n", cN), (Str.ofString "inner", cI), (Str.ofString "a_digits", cD)] doc pm cC ctv) ∈ news) (m2 : (cC, oC) ∈ news) (d2 : oC.data = .fields vc) (d2' : vc[1]? = some (.str qual tc)) (m3 : (cI, oI) ∈ news) (d3 : oI.data = .cell (some (.ref fI))) (m4 : (cN, oN) ∈ news) (d4 : oN.data = .cell (some (.int n tn))) (m5 : (cD, oD) ∈ news) (d5 : oD.data = .cell (some (.ref la))) (h0 : 0 ≤ l) (h1 : l < r) (h2 : r ≤ ns.length) (hlen : ns.length ≤ 200000) (hsz : n * ns.length ≤ 20000000) (h3 : r - l ≤ 2 ^ j) (hx0 : 0 ≤ x) (hx1 : x < 2 ^ (n.toNat * (r - l).toNat)) (hdp : dp + (j + 1) < recursionLimit) (hu : un + 8 * (j + 1) < cLine) (hret : ∀ vs' h' tk', Fr h₀ L h' m → News h₀ L h' ((la, listOf vs'.toArray ep) :: news) → IntsAre vs' (upd ns l.toNat (digN n.toNat (r - l).toNat x)) → Q .none { s with heap := h', toks := tk' }) : wpAny (model Challenge.rw_ph0090_01.row.prog w) (ktrTop dp un gd cn cs L a ccd cl outer) (call (.ref fI) [.int x t0, .int l t1, .int r t2]) Q E s :=
  C _ _ _ _ _ _ _ _ _ _ _ _ _ _ _ _ _ _ _ _ _ _ _ _ _ _ _ _ _ _ _ _ _ _ _ _ _ _ _ _ _ _ _ _ _ _ _ _ hvs B F X N hap T hk m1 m2 d2 d2' m3 d3 m4 d4 m5 d5 h0 h1 h2 hlen hsz h3 hx0 hx1 hdp hu hret
theorem run5 : True := by
  k_with "k_mem" => (assumption)
  k_with "k_all" => (assumption)
  k_with "enterN" => (refine' code_nest ?j14k1 ?j14k2 ?j14k3 ?j14k4 ?j14k5 ?j14kA ?j14kF ?j14kK ?j14k6 ?j14k7 ?j14k8 ?j14k9 ?j14kB ?_ ?j14c2 ?j14c3 ?j14c4 ?j14c5; (case j14kA => exact rfl); (case j14kF => exact rfl); (case j14kK => assumption); (case j14k1 => k_asm); (case j14k2 => k_asm); (case j14k3 => k_asm); (case j14k4 => k_asm); (case j14k5 => k_asm); (case j14k6 => k_mem); (case j14k7 => exact codeRec_news (by k_asm) (by k_mem) (by assumption) (by assumption)); (case j14k8 => ktr_room); (case j14k9 => exact BindsTo.of_eq rfl); (case j14c5 => decide); (case j14kB => exact locs rfl); (case j14c2 => exact rfl); (case j14c3 => exact rfl); (case j14c4 => exact rfl); k_whole; walk_at "s1")
  k_with "ite" => (first | (refine ite_pos ?j15hc ?_; (case j15hc => (simp only [beq_iff_eq, bne_iff_ne, ne_eq, decide_eq_true_eq]; (first | lia | omega)))) | (refine ite_neg ?j15hc ?_; (case j15hc => (simp only [beq_iff_eq, bne_iff_ne, ne_eq, decide_eq_true_eq]; (first | lia | omega)))) | (refine ite_pos ?j15hc ?_; (case j15hc => (simp only [beq_iff_eq, bne_iff_ne, ne_eq, decide_eq_true_eq]; done))))
  k_with "binaryOp RShift int int" => (first | (refine rshift_int (by decide) ?_) | (refine rshift_int (by assumption) ?_))
  k_with "binaryOp Mult int int" => (refine mul_int ?_ (by assumption))
  k_with "binaryOp LShift int int" => (refine lshift_int (by assumption) (shl_ok (intBits_fdiv_le (by assumption)) (by decide) (by assumption)) ?_)
  k_with "len" => (first | assumption | (first | lia | omega) | (rw [upd_len (by rw [digN_len]; (first | lia | omega))]; first | assumption | (first | lia | omega)))
  k_with "call ref" => (k_here; k_dflt (refine' InnerI.use ‹InnerI _ _ _ _ _ _ _ _› ?j20hvs ?j20B ?j20F ?j20X ?j20N ?j20hap ?j20T ?j20hk ?j20m1 ?j20m2 ?j20d2 ?j20d2' ?j20m3 ?j20d3 ?j20m4 ?j20d4 ?j20m5 ?j20d5 ?j20h0 ?j20h1 ?j20h2 ?j20hlen ?j20hsz ?j20h3 ?j20hx0 ?j20hx1 ?j20hdp ?j20hu ?_; (case j20hvs => assumption); (case j20B => k_asm); (case j20F => k_asm); (case j20X => k_asm); (case j20N => k_asm); (case j20hap => assumption); (case j20T => k_asm); (case j20hk => first | exact rfl | assumption); (case j20m1 => assumption); (case j20m2 => assumption); (case j20d2 => assumption); (case j20d2' => assumption); (case j20m3 => assumption); (case j20d3 => assumption); (case j20m4 => assumption); (case j20d4 => assumption); (case j20m5 => assumption); (case j20d5 => assumption); (case j20h0 => (first | lia | omega)); (case j20h1 => assumption); (case j20h2 => walk_at "len"); (case j20hlen => walk_at "len"); (case j20hsz => walk_at "len"); (case j20h3 => assumption); (case j20hx0 => assumption); (case j20hx1 => assumption); (case j20hdp => ktr_room); (case j20hu => ktr_units); intro _ _ _ _ _ _; (try dsimp only); (try k_fold)))
  trivial
theorem innerI (w : World) {nm qual : Str} {params : Arguments} {body : List Stmt} {scope : Scope} (hb : innerOf (hd.heap_39 w.params) 52 = some (nm, params, body, scope)) (n : Int) (hn : 0 < n) : ∀ j, InnerI w nm qual params body scope n j := by
  have e : some (nm, params, body, scope) = some (_, _, _, _) := hb.symm.trans rfl
  simp only [Option.some.injEq, Prod.mk.injEq] at e
  obtain ⟨rfl, rfl, rfl, rfl⟩ := e
  clear hb
  intro j
  induction j with
  | zero =>
    unfold InnerI
    k_fill
    intro vs ns la fI cI cN cD cC ep doc pm ctv oC oI oN oD vc tc tn p loose mean mg mb dp un gd cn cs a ccd cl outer A₀ base h₀ L m news s Q E x l r t0 t1 t2 hvs B F X N hap T hk m1 m2 d2 d2' m3 d3 m4 d4 m5 d5 h0 h1 h2 hlen hsz h3 hx0 hx1 hdp hu hret
    have hc47 := codeHd_of_K (c := 51) (P := 47) X (by kernel_rfl)
    have hvl := IntsAre.length hvs
    by_cases hr1 : r = l + 1
    ·
      subst hr1
      refine wpAny_call ?_
      k_dflt walk_at "enterN"
      k_steps
      refine hret _ _ _ (by k_asm) (by k_asm) ?_
      rw [← inner_base h0 (by (first | lia | omega)) hx0 hx1]
      exact ints_set hvs _
    · simp at h3; (first | lia | omega)
  | succ j ih =>
    unfold InnerI
    k_fill
    intro vs ns la fI cI cN cD cC ep doc pm ctv oC oI oN oD vc tc tn p loose mean mg mb dp un gd cn cs a ccd cl outer A₀ base h₀ L m news s Q E x l r t0 t1 t2 hvs B F X N hap T hk m1 m2 d2 d2' m3 d3 m4 d4 m5 d5 h0 h1 h2 hlen hsz h3 hx0 hx1 hdp hu hret
    have hc47 := codeHd_of_K (c := 51) (P := 47) X (by kernel_rfl)
    have hvl := IntsAre.length hvs
    by_cases hr1 : r = l + 1
    ·
      subst hr1
      refine wpAny_call ?_
      k_dflt walk_at "enterN"
      k_steps
      refine hret _ _ _ (by k_asm) (by k_asm) ?_
      rw [← inner_base h0 (by (first | lia | omega)) hx0 hx1]
      exact ints_set hvs _
    · obtain ⟨hm1, hm2, hm3, hm4⟩ := mid_facts h0 (by (first | lia | omega)) h3
      obtain ⟨hq1, hq2, hq3⟩ := mid_mul (k := ns.length) hn hm1 h0 (by (first | lia | omega)) hlen hsz
      obtain ⟨hl1, hl2⟩ := low_facts (x := x) hn (Int.le_of_lt hm1)
      obtain ⟨hu1, hu2⟩ := up_facts hn (Int.le_of_lt hm1) (Int.le_of_lt hm2) hx0 hx1
      have hzx := bits_x hn h0 (Int.le_of_lt h1) h2 hsz hx0 hx1
      refine wpAny_call ?_
      k_dflt walk_at "enterN"
      k_steps
      refine hret _ _ _ (by k_asm) (by k_asm) ?_
      rw [← inner_join hn h0 (Int.le_of_lt hm1) (Int.le_of_lt hm2) h2]
      assumption
end Mine
end
section
namespace Mine
section
variable {prog : Program} {w : World} {A : Around} {E : Value → Shared → Prop} {s : Shared} {h₀ : Heap} {L : Addr} {m : Str → Option Value} {news : List (Addr × Obj)}
theorem mulK {l : Addr} {vs : List Value} {k : Nat} {x : Int} {u : Tok} {Q : Value → Shared → Prop} (F : Fr h₀ L s.heap m) (N : News h₀ L s.heap news) (hm : (l, listOf vs.toArray k) ∈ news)
    (hlo : -(2 ^ 63 : Int) ≤ x) (hhi : x < 2 ^ 63) (hsz : vs.length * x.toNat ≤ 2 ^ 24)
    (h : ∀ D h', Fr h₀ L h' m → News h₀ L h' ((D, listOf (List.replicate x.toNat vs).flatten.toArray 0) :: news) → (∀ p ∈ news, p.1 < D) → Q (.ref D) { s with heap := h' }) :
    wpAny (model prog w) A (binaryOp .Mult (.ref l) (.int x u)) Q E s :=
  mul_list F N (N.get hm) hlo hhi (by simpa using hsz) fun h' F' N' => by
    rw [listMul_foldl_if] at N'
    exact h _ _ F' N' fun p hp => Heap.lt_size (N p hp).1
end
theorem ints_rep {c : Int} {t : Tok} : ∀ k : Nat, IntsAre (List.replicate k [Value.int c t]).flatten (List.replicate k c)
  | 0 => .nil
  | k + 1 => by
    rw [List.replicate_succ, List.flatten_cons, List.replicate_succ]
    exact .cons _ _ (ints_rep k)
theorem rep_len {v : Value} (k : Nat) : (List.replicate k [v]).flatten.length = k := by simp
theorem digs_zero {n : Nat} (hn : 0 < n) : digs n 0 = [] := by
  have e : (Builtin.Int.intBits 0 + n - 1) / n = 0 := by
    have : Builtin.Int.intBits 0 = 0 := rfl
    rw [this]
    exact Nat.div_eq_of_lt (by (first | lia | omega))
  simp [digs, e, digN]
theorem News.front1 {h₀ h : Heap} {L : Addr} {a d : Addr × Obj} {r : List (Addr × Obj)} (N : News h₀ L h (a :: d :: r)) : News h₀ L h (d :: a :: r) :=
  News.sub N fun p hp => by
    simp only [List.mem_cons] at hp ⊢
    rcases hp with h | h | h <;> simp [h]
theorem News.front2 {h₀ h : Heap} {L : Addr} {a b d : Addr × Obj} {r : List (Addr × Obj)} (N : News h₀ L h (a :: b :: d :: r)) : News h₀ L h (d :: a :: b :: r) :=
  News.sub N fun p hp => by
    simp only [List.mem_cons] at hp ⊢
    rcases hp with h | h | h | h <;> simp [h]
theorem cnt_facts {x n : Int} (hn : 0 < n) (hb : Builtin.Int.intBits x ≤ 200000) (hx : 0 ≤ x) :
    0 ≤ ((Builtin.Int.intBits x : Int) + n - 1).fdiv n ∧ ((Builtin.Int.intBits x : Int) + n - 1).fdiv n ≤ 200000 ∧ (((Builtin.Int.intBits x : Int) + n - 1).fdiv n).toNat = (Builtin.Int.intBits x + n.toNat - 1) / n.toNat ∧ x < 2 ^ (n.toNat * (((Builtin.Int.intBits x : Int) + n - 1).fdiv n).toNat) ∧ n * (((Builtin.Int.intBits x : Int) + n - 1).fdiv n) ≤ 200000 + n := by
  rw [Int.fdiv_eq_ediv_of_nonneg _ (Int.le_of_lt hn)]
  generalize hB : Builtin.Int.intBits x = B at *
  have h1 := Int.mul_ediv_add_emod ((B : Int) + n - 1) n
  have h2 := Int.emod_nonneg ((B : Int) + n - 1) (Int.ne_of_gt hn)
  have h3 := Int.emod_lt_of_pos ((B : Int) + n - 1) hn
  have h0 : 0 ≤ ((B : Int) + n - 1) / n := Int.ediv_nonneg (by (first | lia | omega)) (Int.le_of_lt hn)
  have e : (((B : Int) + n - 1) / n).toNat = (B + n.toNat - 1) / n.toNat := by
    have : ((B + n.toNat - 1 : Nat) : Int) = (B : Int) + n - 1 := by (first | lia | omega)
    have h5 : (((B + n.toNat - 1) / n.toNat : Nat) : Int) = ((B : Int) + n - 1) / n := by
      rw [Int.natCast_ediv, this, Int.toNat_of_nonneg (Int.le_of_lt hn)]
    (first | lia | omega)
  generalize ((B : Int) + n - 1) / n = c at *
  have hc : n * c ≤ B + n - 1 := by (first | lia | omega)
  have hc' : (B : Int) ≤ n * c := by (first | lia | omega)
  refine ⟨h0, ?_, e, ?_, by (first | lia | omega)⟩
  · by_cases h : c ≤ 200000
    · exact h
    · have h6 : n * 200001 ≤ n * c := Int.mul_le_mul_of_nonneg_left (by (first | lia | omega)) (Int.le_of_lt hn)
      (first | lia | omega)
  · refine lt_bits ?_
    rw [hB]
    have : ((n.toNat * c.toNat : Nat) : Int) = n * c := by rw [Int.natCast_mul, Int.toNat_of_nonneg (Int.le_of_lt hn), Int.toNat_of_nonneg h0]
    (first | lia | omega)
theorem cnt_pos {x n : Int} (hn : 0 < n) : x = 0 ∨ 0 < ((Builtin.Int.intBits x : Int) + n - 1).fdiv n := by
  by_cases h : x = 0
  · exact .inl h
  · right
    rw [Int.fdiv_eq_ediv_of_nonneg _ (Int.le_of_lt hn)]
    have : 0 < Builtin.Int.intBits x := by
      unfold Builtin.Int.intBits
      have : (x == 0) = false := by simpa using h
      simp [this]
    have h1 : 1 ≤ ((Builtin.Int.intBits x : Int) + n - 1) / n := Int.le_ediv_of_mul_le hn (by (first | lia | omega))
    (first | lia | omega)
theorem News.pickI1 {h₀ h : Heap} {L : Addr} {c d f l t x y z : Addr × Obj} {news : List (Addr × Obj)} (N : News h₀ L h (d :: f :: c :: l :: x :: y :: z :: t :: news)) : News h₀ L h ([t, c] ++ ([d] ++ news)) :=
  News.sub N fun p hp => by
    simp only [List.cons_append, List.nil_append, List.mem_cons] at hp ⊢
    rcases hp with h | h | h | h <;> simp [h]
theorem News.pickI2 {h₀ h : Heap} {L : Addr} {c d f l t x y z : Addr × Obj} {news : List (Addr × Obj)} (N : News h₀ L h (f :: c :: d :: l :: x :: y :: z :: t :: news)) : News h₀ L h ([t, c] ++ ([d] ++ news)) :=
  News.sub N fun p hp => by
    simp only [List.cons_append, List.nil_append, List.mem_cons] at hp ⊢
    rcases hp with h | h | h | h <;> simp [h]
theorem News.pickI3 {h₀ h : Heap} {L : Addr} {c d f l t x y z : Addr × Obj} {news : List (Addr × Obj)} (N : News h₀ L h (d :: f :: l :: x :: y :: z :: t :: c :: news)) : News h₀ L h ([t, c] ++ ([d] ++ news)) :=
  News.sub N fun p hp => by
    simp only [List.cons_append, List.nil_append, List.mem_cons] at hp ⊢
    rcases hp with h | h | h | h <;> simp [h]
theorem News.pickI4 {h₀ h : Heap} {L : Addr} {c d f l t x y z : Addr × Obj} {news : List (Addr × Obj)} (N : News h₀ L h (f :: d :: l :: x :: y :: z :: t :: c :: news)) : News h₀ L h ([t, c] ++ ([d] ++ news)) :=
  News.sub N fun p hp => by
    simp only [List.cons_append, List.nil_append, List.mem_cons] at hp ⊢
    rcases hp with h | h | h | h <;> simp [h]
theorem lt_tail5 {D : Addr} {a b c d e : Addr × Obj} {news : List (Addr × Obj)} (h : ∀ p ∈ a :: b :: c :: d :: e :: news, p.1 < D) : ∀ q ∈ news, q.1 < D := fun q hq => h q (.tail _ (.tail _ (.tail _ (.tail _ (.tail _ hq)))))
theorem lt_tail6 {D : Addr} {a b c d e f : Addr × Obj} {news : List (Addr × Obj)} (h : ∀ p ∈ a :: b :: c :: d :: e :: f :: news, p.1 < D) : ∀ q ∈ news, q.1 < D := fun q hq => h q (.tail _ (.tail _ (.tail _ (.tail _ (.tail _ (.tail _ hq))))))
theorem one_lt {D : Addr} {o : Obj} {k : Nat} (h : k < D) : ∀ p ∈ [(D, o)], k < p.1 := fun p hp => by rw [List.mem_singleton.mp hp]; exact h
theorem one_lts {D : Addr} {o : Obj} {news : List (Addr × Obj)} (h : ∀ q ∈ news, q.1 < D) : ∀ q ∈ news, ∀ p ∈ [(D, o)], q.1 < p.1 := fun q hq p hp => by rw [List.mem_singleton.mp hp]; exact h q hq
theorem digs_fin {n : Nat} {x : Int} {k : Nat} (e : k = (Builtin.Int.intBits x + n - 1) / n) : upd (List.replicate k 0) 0 (digN n k x) = digs n x := by
  rw [upd_all (by rw [digN_len, List.length_replicate])]
  unfold digs; rw [e]
end Mine
end
section
theorem Mine.idle4 : True := by
  w_top off
  k_with_none
  trivial
set_option maxRecDepth 100000
set_option maxHeartbeats 8000000
namespace Mine
theorem run6 : True := by
  k_with "k_mem" => (assumption)
  k_with "k_all" => (first | assumption | exact ne_of_allLt (by assumption) (by (first | lia | omega)))
  trivial
local macro_rules | `(tactic| walk_at "p1x1") => `(tactic| (intro g' L' h' tk' cells' FG' F' N' Y' B' X' T' l1; (try k_lt l1); (first | (have hLn : AllLt _ _ := And.right (And.right l1)) | (have hLn : AllLt _ _ := And.right l1)); k_cells Y'; (have hcg := codeHd_of_K (c := 51) (P := 47) X' (by kernel_rfl)); (try simp only [List.cons_append, List.nil_append] at N'); (try dsimp only); (try k_fold)))
theorem run7 : True := by
  k_with "enterC" => (refine' code_defC ?j21k1 ?j21k2 ?j21k3 ?j21k4 ?j21k5 ?j21kA ?j21kF ?j21kK ?j21k6 ?j21k7 ?j21k8 ?j21k9 ?j21kB ?j21kD ?_ ?j21c2 ?j21c3 ?j21c4; (case j21kA => exact rfl); (case j21kF => exact rfl); (case j21kK => assumption); (case j21k1 => k_asm); (case j21k2 => k_asm); (case j21k3 => k_asm); (case j21k4 => k_asm); (case j21k5 => k_asm); (case j21k6 => k_is); (case j21k7 => k_is); (case j21k8 => ktr_room); (case j21k9 => exact BindsTo.of_eq rfl); (case j21kB => exact rfl); (case j21kD => decide +kernel); (case j21c2 => exact rfl); (case j21c3 => exact rfl); (case j21c4 => exact rfl); k_whole; walk_at "p1x1")
  k_with "fit" => (first | (simp only [List.size_toArray, rep_len]; (first | lia | omega)) | (simp only [List.size_toArray]; (first | lia | omega)))
  k_with "truthy ref" => (refine wpAny_truthy_list (News.isList (by k_asm) (by k_mem)) (by walk_at "fit") ?_)
  k_with "call builtin:len" => (refine len_list (News.isList (by k_asm) (by k_mem)) (by walk_at "fit") ?_)
  k_with "ite" => (first | (refine ite_pos ?j25hc ?_; (case j25hc => (simp only [beq_iff_eq, bne_iff_ne, ne_eq, decide_eq_true_eq]; (first | lia | omega)))) | (refine ite_neg ?j25hc ?_; (case j25hc => (simp only [beq_iff_eq, bne_iff_ne, ne_eq, decide_eq_true_eq]; (first | lia | omega)))))
  trivial
local macro_rules | `(tactic| walk_at "p2x1") => `(tactic| (intro D' h' F' N' l1; (have h54 := ltN (l1 (54, _) (by k_mem))); (dsimp only at h54); (first | (have hDn := lt_tail6 l1) | (have hDn := lt_tail5 l1)); (try k_lt l1)))
theorem run8 : True := by
  k_with "binaryOp Mult ref int" => (k_dflt (refine' mulK ?j26kF ?j26kN ?j26km ?j26klo ?j26khi ?j26ksz ?_; (case j26kF => k_asm); (case j26kN => k_asm); (case j26km => k_mem); (case j26klo => (first | lia | omega)); (case j26khi => (first | lia | omega)); (case j26ksz => (simp only [List.length_cons, List.length_nil]; (first | lia | omega))); k_whole); walk_at "p2x1")
  k_with "r pos" => (simp only [List.size_toArray, rep_len]; (first | lia | omega))
  k_with "call ref" => (k_here; k_dflt (refine' InnerI.use (innerI _ ?j28hb _ ?j28pn 18) ?j28hvs ?j28B ?j28F ?j28X ?j28N ?j28hap ?j28T ?j28hk ?j28m1 ?j28m2 ?j28d2 ?j28d2' ?j28m3 ?j28d3 ?j28m4 ?j28d4 ?j28m5 ?j28d5 ?j28h0 ?j28h1 ?j28h2 ?j28hlen ?j28hsz ?j28h3 ?j28hx0 ?j28hx1 ?j28hdp ?j28hu ?_; (case j28B => k_asm); (case j28F => k_asm); (case j28X => k_asm); (case j28N => first | exact News.front2 (d := (_, listOf (List.replicate _ _).flatten.toArray _)) (by k_asm) | exact News.front1 (d := (_, listOf (List.replicate _ _).flatten.toArray _)) (by k_asm)); (case j28hvs => exact ints_rep _); (case j28hap => k_all); (case j28T => k_asm); (case j28hk => first | exact rfl | assumption); (case j28m1 => k_mem); (case j28hb => exact rfl); (case j28pn => assumption); (case j28m2 => k_mem); (case j28d2 => assumption); (case j28d2' => assumption); (case j28m3 => k_mem); (case j28d3 => assumption); (case j28m4 => k_mem); (case j28d4 => assumption); (case j28m5 => k_mem); (case j28d5 => assumption); (case j28h0 => (first | lia | omega)); (case j28h1 => walk_at "r pos"); (case j28h2 => (simp only [List.size_toArray, rep_len, List.length_replicate]; (first | lia | omega))); (case j28hlen => (simp only [List.size_toArray, rep_len, List.length_replicate]; (first | lia | omega))); (case j28hsz => (simp only [List.length_replicate, Int.toNat_of_nonneg (by assumption)]; (first | lia | omega))); (case j28h3 => (simp only [List.size_toArray, rep_len, List.length_replicate]; (first | lia | omega))); (case j28hx0 => assumption); (case j28hx1 => (simp only [List.size_toArray, rep_len, Int.sub_zero, Int.toNat_natCast]; assumption)); (case j28hdp => ktr_room); (case j28hu => ktr_units); intro _ _ _ _ _ _; (try dsimp only); (try k_fold)))
  trivial
theorem cix (w : World) (x n : Int) (t0 t : Tok) (hn : 0 < n) (hx : 0 ≤ x) (hb : Builtin.Int.intBits x ≤ 200000) (hn6 : n ≤ 1000000) :
    SpX w 47 52 Tab47 [.int x t0, .int n t] 30 200 (fun news => ∃ o, (54, o) ∈ news) (fun tl r => ∃ la vs ep, r = .ref la ∧ tl = [(la, listOf vs.toArray ep)] ∧ IntsAre vs (digs n.toNat x)) := by
  unfold SpX
  k_fill
  intro p loose mean mg mb dp un gd cn cs a ccd cl outer A₀ base h₀ L m lt news s Q E B F X N h1 ha T hk hp hdp hu hret
  obtain ⟨o54, hp⟩ := hp
  have hc47 := codeHd_of_K (c := 51) (P := 47) X (by kernel_rfl)
  obtain ⟨hq0, hq1, hq2, hq3, hq4⟩ := cnt_facts hn hb hx
  have hqp := cnt_pos (x := x) hn
  rcases h1 with rfl | ⟨c, oc, vc, t', rfl, hoc, hvs1, hc⟩
  · simp only [List.cons_append, List.nil_append] at N
    refine wpAny_call ?_
    k_dflt walk_at "enterC"
    k_steps
    · refine hret _ [_, _] [_] _ _ (by k_asm) (News.pickI1 (by k_asm)) (Or.inr ⟨_, _, _, _, rfl, by assumption, by assumption, ltN (by (first | lia | omega))⟩) (Grow.made (lt6c (by assumption))) (one_lt (by assumption)) (one_lts (by assumption)) ⟨_, _, _, rfl, rfl, ?_⟩
      rename IntsAre _ (upd _ _ _) => hv
      simp only [List.size_toArray, rep_len, Int.sub_zero, Int.toNat_natCast, Int.toNat_zero] at hv
      rw [digs_fin hq2] at hv
      exact hv
    · refine hret _ [_, _] [_] _ _ (by k_asm) (News.pickI2 (by k_asm)) (Or.inr ⟨_, _, _, _, rfl, by assumption, by assumption, ltN (by (first | lia | omega))⟩) (Grow.made (lt6c (by assumption))) (one_lt (by assumption)) (one_lts (by assumption)) ⟨_, _, _, rfl, rfl, ?_⟩
      have h0 : x = 0 := by assumption
      have e0 : (((Builtin.Int.intBits x : Int) + n - 1).fdiv n).toNat = 0 := by
        rw [hq2, h0]; exact Nat.div_eq_of_lt (by have : Builtin.Int.intBits 0 = 0 := rfl; (first | lia | omega))
      rw [e0, h0, digs_zero (by (first | lia | omega))]
      exact .nil
  · simp only [List.cons_append, List.nil_append] at N
    refine wpAny_call ?_
    k_dflt walk_at "enterC"
    k_steps
    · refine hret _ [_, _] [_] _ _ (by k_asm) (News.pickI3 (by k_asm)) (Or.inr ⟨_, _, _, _, rfl, hoc, hvs1, hc⟩) Grow.same (one_lt (by assumption)) (one_lts (by assumption)) ⟨_, _, _, rfl, rfl, ?_⟩
      rename IntsAre _ (upd _ _ _) => hv
      simp only [List.size_toArray, rep_len, Int.sub_zero, Int.toNat_natCast, Int.toNat_zero] at hv
      rw [digs_fin hq2] at hv
      exact hv
    · refine hret _ [_, _] [_] _ _ (by k_asm) (News.pickI4 (by k_asm)) (Or.inr ⟨_, _, _, _, rfl, hoc, hvs1, hc⟩) Grow.same (one_lt (by assumption)) (one_lts (by assumption)) ⟨_, _, _, rfl, rfl, ?_⟩
      have h0 : x = 0 := by assumption
      have e0 : (((Builtin.Int.intBits x : Int) + n - 1).fdiv n).toNat = 0 := by
        rw [hq2, h0]; exact Nat.div_eq_of_lt (by have : Builtin.Int.intBits 0 = 0 := rfl; (first | lia | omega))
      rw [e0, h0, digs_zero (by (first | lia | omega))]
      exact .nil
end Mine
end
section
namespace Mine
theorem TabP.ge {P : Addr} {ln col : Nat} {q : Str} {l : List (Addr × Obj)} (h : TabP P ln col q l) : ∀ p ∈ l, p.1 = P ∨ 54 < p.1 := by
  rcases h with rfl | ⟨c, oc, vs, t, rfl, _, _, hc⟩
  · intro p hp; rw [List.mem_singleton.mp hp]; exact .inl rfl
  · intro p hp
    rcases List.mem_cons.mp hp with rfl | hp
    · exact .inl rfl
    · rw [List.mem_singleton.mp hp]; exact .inr hc
theorem TabP.has {P : Addr} {ln col : Nat} {q : Str} {l : List (Addr × Obj)} (h : TabP P ln col q l) : ∃ ps, (P, tabObj ps) ∈ l := by
  rcases h with rfl | ⟨c, oc, vs, t, rfl, _⟩
  · exact ⟨_, .head _⟩
  · exact ⟨_, .head _⟩
theorem mem_perm1 {l1 l2 tl news : List (Addr × Obj)} : ∀ p ∈ (l1 ++ l2) ++ (tl ++ news), p ∈ l1 ++ (tl ++ (l2 ++ news)) := fun p hp => by
  simp only [List.mem_append] at hp ⊢
  rcases hp with (h | h) | (h | h) <;> simp [h]
theorem mem_perm2 {l1 l2 tl news : List (Addr × Obj)} : ∀ p ∈ (l1 ++ l2) ++ (tl ++ news), p ∈ l2 ++ (tl ++ (l1 ++ news)) := fun p hp => by
  simp only [List.mem_append] at hp ⊢
  rcases hp with (h | h) | (h | h) <;> simp [h]
theorem mem_perm3 {l1 l2 news : List (Addr × Obj)} : ∀ p ∈ l2 ++ (l1 ++ news), p ∈ (l1 ++ l2) ++ news := fun p hp => by
  simp only [List.mem_append] at hp ⊢
  rcases hp with h | (h | h) <;> simp [h]
theorem grow_l {l1 l2 l1' news : List (Addr × Obj)} (h : Grow l1 l1' (l2 ++ news)) : Grow (l1 ++ l2) (l1' ++ l2) news := fun q hq k p hp => by
  rcases List.mem_append.mp hp with hp | hp
  · exact h q (List.mem_append_right _ hq) (fun p hp => k p (List.mem_append_left _ hp)) p hp
  · exact k p (List.mem_append_right _ hp)
theorem grow_r {l1 l2 l2' news : List (Addr × Obj)} (h : Grow l2 l2' (l1 ++ news)) : Grow (l1 ++ l2) (l1 ++ l2') news := fun q hq k p hp => by
  rcases List.mem_append.mp hp with hp | hp
  · exact k p (List.mem_append_left _ hp)
  · exact h q (List.mem_append_right _ hq) (fun p hp => k p (List.mem_append_right _ hp)) p hp
theorem cd (w : World) : CD w := by
  intro ds vs ld ep n t hn hn6 hlen hsz hbits hvs
  intro p loose mean mg mb dp un gd cn cs a ccd cl outer A₀ base h₀ L m lt news s Q E B F X N ht ha T hk hp hdp hu hret
  obtain ⟨l1, l2, rfl, h1, h2⟩ := ht
  rw [List.append_assoc] at N
  refine cdx w ds vs ld ep n t hn hn6 hlen hsz hbits hvs p loose mean mg mb dp un gd cn cs a ccd cl outer A₀ base h₀ L m l1 (l2 ++ news) s Q E B F X N h1 (fun q hq => ?_) T hk (List.mem_append_right _ hp) hdp hu (fun r lt' tl h' tk' F' N' ht' hG hg hl hpost => ?_)
  · rcases List.mem_append.mp hq with h | h
    · rcases h2.ge q h with e | e
      · rw [e]; decide
      · exact Nat.ne_of_gt e
    · exact Nat.ne_of_gt (ha q h)
  · exact hret r (lt' ++ l2) tl h' tk' F' (News.sub N' mem_perm1) ⟨lt', l2, rfl, ht', h2⟩ (grow_l hG) hg (fun q hq => hl q (List.mem_append_right _ hq)) hpost
/-- the contract of _int2digits -/
noncomputable def CI (w : World) : Prop := ∀ (x n : Int) (t0 t : Tok), 0 < n → 0 ≤ x → Builtin.Int.intBits x ≤ 200000 → n ≤ 1000000 →
  SpT w 52 [.int x t0, .int n t] 30 200 (fun _ => True) (fun tl r => ∃ la vs ep, r = .ref la ∧ tl = [(la, listOf vs.toArray ep)] ∧ IntsAre vs (digs n.toNat x))
theorem ci (w : World) : CI w := by
  intro x n t0 t hn hx hb hn6
  intro p loose mean mg mb dp un gd cn cs a ccd cl outer A₀ base h₀ L m lt news s Q E B F X N ht ha T hk _ hdp hu hret
  obtain ⟨l1, l2, rfl, h1, h2⟩ := ht
  obtain ⟨ps, hm⟩ := h1.has
  refine cix w x n t0 t hn hx hb hn6 p loose mean mg mb dp un gd cn cs a ccd cl outer A₀ base h₀ L m l2 (l1 ++ news) s Q E B F X (News.sub N mem_perm3) h2 (fun q hq => ?_) T hk ⟨_, List.mem_append_left _ hm⟩ hdp hu (fun r lt' tl h' tk' F' N' ht' hG hg hl hpost => ?_)
  · rcases List.mem_append.mp hq with h | h
    · rcases h1.ge q h with e | e
      · rw [e]; decide
      · exact Nat.ne_of_gt (Nat.lt_trans (by decide) e)
    · exact Nat.ne_of_gt (Nat.lt_trans (by decide) (ha q h))
  · exact hret r (l1 ++ lt') tl h' tk' F' (News.sub N' mem_perm2) ⟨l1, lt', rfl, h1, ht'⟩ (grow_r hG) hg (fun q hq => hl q (List.mem_append_right _ hq)) hpost
end Mine
end
section
namespace Mine
section
variable {prog : Program} {w : World} {A : Around} {E : Value → Shared → Prop} {s : Shared} {env : Env} {h₀ : Heap} {x : Str} {body : List Stmt} {Q : Flow → Shared → Prop}
theorem unr_mono {L : Addr} {s₁ : Shared} {I : Addr} {it : Obj} {R R' : (Str → Option Value) → List (Addr × Obj) → Prop} {f : Flow} {s₂ : Shared} (k : ∀ m n, R m n → R' m n) (h : UnrPost h₀ L s₁ I it R Q f s₂) : UnrPost h₀ L s₁ I it R' Q f s₂ := by
  cases f with
  | ret v => exact h
  | brk => exact h
  | next => obtain ⟨h', tk, m', n', e, F, N, o, r⟩ := h; exact ⟨h', tk, m', n', e, F, N, o, k _ _ r⟩
  | cont => obtain ⟨h', tk, m', n', e, F, N, o, r⟩ := h; exact ⟨h', tk, m', n', e, F, N, o, k _ _ r⟩
theorem revRest_ind {I : Addr} {lp : Addr × Obj} (Inv : List Value → (Str → Option Value) → List (Addr × Obj) → Prop)
    (zero : ∀ m news, Inv [] m news → ∀ h tk, Fr h₀ env.locals h m → News h₀ env.locals h news → Q .next { s with heap := h, toks := tk })
    (succ : ∀ v r m news, Inv (v :: r) m news → ∀ (it : Obj) h tk, it.cls = .type "list_reverseiterator" → Fr h₀ env.locals h (fun y => if y = x then some v else m y) → News h₀ env.locals h ((I, it) :: news) →
      wpAny (model prog w) A (execs body env) (UnrPost h₀ env.locals { s with heap := h, toks := tk } I it (fun m' n' => lp ∈ n' ∧ Inv r m' n') Q) E { s with heap := h, toks := tk }) :
    ∀ rem m news, Inv rem m news → RevRest prog w A E h₀ env x body Q s I lp rem m news := by
  intro rem
  induction rem with
  | nil => intro m news hI; exact RevRest.zero (zero m news hI)
  | cons v r ih =>
    intro m news hI
    refine RevRest.succ fun it h tk hc F N => ?_
    exact wpAny_mono (succ v r m news hI it h tk hc F N) (fun f s₂ p => unr_mono (fun m' n' q => ⟨q.1, ih m' n' q.2⟩) p) fun _ _ x => x
end
theorem map3 {m m0 : Str → Option Value} {x1 x2 x3 : Str} {v : Option Value} (h1 : m x1 = v) (h : ∀ y, y ≠ x1 → y ≠ x2 → y ≠ x3 → m y = m0 y) : m = fun y => if y = x1 then v else if y = x2 then m x2 else if y = x3 then m x3 else m0 y := by
  funext y
  by_cases e1 : y = x1
  · rw [if_pos e1, e1, h1]
  · rw [if_neg e1]
    by_cases e2 : y = x2
    · rw [if_pos e2, e2]
    · rw [if_neg e2]
      by_cases e3 : y = x3
      · rw [if_pos e3, e3]
      · rw [if_neg e3, h y e1 e2 e3]
theorem with_m {h₀ h : Heap} {L : Addr} {m : Str → Option Value} {G : Prop} (F : Fr h₀ L h m) (k : ∀ m', m' = m → Fr h₀ L h m' → G) : G := k m rfl F
theorem offI_of {I : Addr} {it : Obj} {l : List (Addr × Obj)} : (∀ p ∈ l, p.1 ≠ I) → OffI I it l := by
  induction l with
  | nil => intro _; trivial
  | cons a r ih => intro h; exact ⟨.inl (h a (.head _)), ih fun p hp => h p (.tail _ hp)⟩
end Mine
end
section
namespace Mine
theorem digN_range (n : Nat) : ∀ (k : Nat) (x : Int), ∀ d ∈ digN n k x, 0 ≤ d ∧ d < 2 ^ n
  | 0, _, d, h => by simp [digN] at h
  | k + 1, x, d, h => by
    simp only [digN, List.mem_cons] at h
    have hp := p2pos n
    rcases h with rfl | h
    · exact ⟨Int.emod_nonneg x (Int.ne_of_gt hp), Int.emod_lt_of_pos x hp⟩
    · exact digN_range n k _ d h
theorem valOf_digN (n : Nat) : ∀ (k : Nat) (x : Int), 0 ≤ x → x < 2 ^ (n * k) → valOf n (digN n k x) = x
  | 0, x, h0, h1 => by
    simp at h1
    have : x = 0 := by (first | lia | omega)
    simp [digN, valOf, this]
  | k + 1, x, h0, h1 => by
    have hp := p2pos n
    have h2 : x / 2 ^ n < 2 ^ (n * k) := by
      refine Int.ediv_lt_of_lt_mul hp ?_
      rw [← Int.pow_add, ← Nat.mul_succ]; exact h1
    simp only [digN, valOf]
    rw [valOf_digN n k _ (Int.ediv_nonneg h0 (Int.le_of_lt hp)) h2]
    have := Int.mul_ediv_add_emod x (2 ^ n)
    (first | lia | omega)
theorem valOf_digs {n : Nat} {x : Int} (hn : 0 < n) (h0 : 0 ≤ x) : valOf n (digs n x) = x := by
  refine valOf_digN n _ x h0 (Int.lt_of_lt_of_le (lt_bits (Nat.le_refl _)) (p2_mono ?_))
  have h1 := Nat.div_add_mod (Builtin.Int.intBits x + n - 1) n
  have h2 := Nat.mod_lt (Builtin.Int.intBits x + n - 1) hn
  (first | lia | omega)
theorem digs_len {n : Nat} {x : Int} (hn : 0 < n) : (digs n x).length ≤ Builtin.Int.intBits x ∧ n * (digs n x).length ≤ Builtin.Int.intBits x + n := by
  unfold digs
  rw [digN_len]
  have h1 := Nat.div_add_mod (Builtin.Int.intBits x + n - 1) n
  generalize hc : (Builtin.Int.intBits x + n - 1) / n = c at *
  have h3 : n * c ≤ Builtin.Int.intBits x + n - 1 := by (first | lia | omega)
  refine ⟨?_, by (first | lia | omega)⟩
  by_cases h : c ≤ Builtin.Int.intBits x
  · exact h
  · exfalso
    have h4 : n * (Builtin.Int.intBits x + 1) ≤ n * c := Nat.mul_le_mul_left _ (by (first | lia | omega))
    rw [Nat.mul_add, Nat.mul_one] at h4
    have h5 : Builtin.Int.intBits x ≤ n * Builtin.Int.intBits x := Nat.le_mul_of_pos_left _ hn
    (first | lia | omega)
theorem step_lt {b r d M : Int} (h1 : r < b) (hM : 0 < M) (hd : d < M) : r * M + d < b * M := by
  have : r + 1 ≤ b := by (first | lia | omega)
  have := Int.mul_le_mul_of_nonneg_right this (Int.le_of_lt hM)
  rw [Int.add_mul, Int.one_mul] at this
  (first | lia | omega)
theorem step_val {n : Nat} {b r d q r' : Int} {dn qs : List Int} (h : valOf n dn = valOf n qs.reverse * b + r) (e : r * 2 ^ n + d = q * b + r') : valOf n (d :: dn) = valOf n (qs ++ [q]).reverse * b + r' := by
  rw [List.reverse_append, List.reverse_cons, List.reverse_nil, List.nil_append, List.cons_append, List.nil_append]
  simp only [valOf]
  rw [h, Int.mul_add, Int.add_mul]
  have e1 : 2 ^ n * (valOf n qs.reverse * b) = 2 ^ n * valOf n qs.reverse * b := (Int.mul_assoc ..).symm
  have e2 : (2 : Int) ^ n * r = r * 2 ^ n := Int.mul_comm ..
  (first | lia | omega)
theorem digs_range {n : Nat} {x : Int} : ∀ d ∈ digs n x, 0 ≤ d ∧ d < 2 ^ n := digN_range n _ x
theorem rev_arr (l : List Value) : l.toArray.toList.reverse = l.reverse := by simp
end Mine
end
section
theorem Mine.idle5 : True := by
  w_top off
  k_with_none
  trivial
set_option maxRecDepth 100000
set_option maxHeartbeats 8000000
namespace Mine
theorem run9 : True := by
  k_with "bits" => (first
  | assumption
  | exact bits_p2 (m := 1000000) (by (first | lia | omega))
  | exact intBits_mul_le (by walk_at "bits") (by walk_at "bits")
  | exact intBits_add_le (by walk_at "bits") (by walk_at "bits")
  | exact intBits_sub_le (by walk_at "bits") (by walk_at "bits")
  | exact intBits_fdiv_le (by walk_at "bits")
  | exact (show Builtin.Int.intBits 1 ≤ 1 by decide)
  | fail "bits")
  k_with "binaryOp LShift int int" => (refine lshift_int (by (first | lia | omega)) (shl_ok (by walk_at "bits") (by decide) (by (first | lia | omega))) ?_)
  k_with "binaryOp Mult int int" => (refine mul_int ?_ (IntMulOk.of_le (by walk_at "bits") (by walk_at "bits") (by decide)))
  trivial
local macro_rules | `(tactic| walk_at "p1x1") => `(tactic| (intro r9 tl9 h9 tk9 F9 N9 hl9 ho9; obtain ⟨t9, q9, r9', u9, v9, k9, e9, e9', e9'', g9, g9'⟩ := ho9; subst e9 e9'; (try simp only [List.cons_append, List.nil_append] at N9); (have hl8 := lt_one hl9); clear hl9; (try k_lt hl8); (have gq := quot_nn (by (first | lia | omega)) e9'' g9 g9' (by assumption)); (have gq' := quot_lt (by (first | lia | omega)) e9'' g9 g9' (m3_pre (by assumption) (by assumption) (by assumption) (by assumption))); (have zq := bits_lt_p2 (m := 1000000) gq gq' (by assumption)); (have zr := bits_lt_p2 (m := 1000000) g9 (Int.lt_trans g9' (by assumption)) (by assumption)); (try dsimp only); (try k_fold)))
theorem run10 : True := by
  k_with "call ref" => (k_here; k_dflt (refine' Sp.use (‹C2 _ _› _ _ _ _ _ _ ?j32p1 ?j32p2 ?j32p3 ?j32p4 ?j32p5 ?j32p6 ?j32p7) ?j32B ?j32F ?j32X ?j32N ?j32T ?j32hk ?j32hd ?j32hu ?_; (case j32p1 => assumption); (case j32p2 => assumption); (case j32p3 => assumption); (case j32p4 => assumption); (case j32p5 => assumption); (case j32p6 => assumption); (case j32p7 => walk_at "c3 pre"); (case j32B => k_asm); (case j32F => k_asm); (case j32X => k_asm); (case j32N => k_asm); (case j32T => k_asm); (case j32hk => first | exact rfl | assumption); (case j32hd => ktr_room); (case j32hu => ktr_units); walk_at "p1x1"))
  k_with "c3 pre" => (exact m3_pre (by assumption) (by assumption) (by assumption) (by assumption))
  k_with "c3 start" => (dsimp only; first | exact m3_start0 (by assumption) (by assumption) (by assumption) (by assumption) | exact m3_start (by assumption) (by assumption) (by assumption) (by assumption) (by assumption) (by assumption) (by assumption))
  k_with "exec While" => (refine held ?_)
  trivial
theorem c3 (w : World) (k : Nat) (ih : C2 w k) : C3 w k := by
  intro a12 a3 b b1 b2 n t1 t2 t3 t4 t5 t6 hn hnk hn6 hb1 hb1' hb hb2 hb2' ha3 ha3' ha ha'
  unfold Sp
  k_fill
  intro p loose mean mg mb dp un gd cn cs a ccd cl outer A₀ base h₀ L m news s Q E B F X N T hk hdp hu hret
  have hM : (0 : Int) < 2 ^ n.toNat := p2pos _
  have z2 := bits_lt_p2 (m := 1000000) ha3 ha3' hn6
  have z4 := bits_lt_p2 (m := 1000000) (x := b1) (by have := p2pos (n.toNat - 1); (first | lia | omega)) hb1' hn6
  have z5 := bits_lt_p2 (m := 1000000) hb2 hb2' hn6
  have z3 : Builtin.Int.intBits b ≤ 2000002 := by
    rw [hb]
    refine Nat.le_trans (intBits_add_le (intBits_mul_le z4 (bits_p2 (m := 1000000) hn6)) z5) (by decide)
  have z1 : Builtin.Int.intBits a12 ≤ 2000002 := intBits_le_of_natAbs (by (first | lia | omega)) z3
  refine wpAny_call ?_
  k_dflt ktr_enter
  k_steps
  · unfold Held
    k_dflt (refine' while2 (Str.ofString "q") (Str.ofString "r") (fun q r => q * b + r = a12 * 2 ^ n.toNat + a3 ∧ r < b) (fun q r => (-r).toNat) ?wF1 ?wN1 ?wq1 ?wr1 ?wp1 ?wt1)
    case wF1 => k_asm
    case wN1 => k_asm
    case wq1 => exact rfl
    case wr1 => exact rfl
    case wp1 => exact m3_start0 (by assumption) (by assumption) (by assumption) (by assumption)
    case wt1 =>
      intro q r tq tr hh tt hP F' N'; obtain ⟨hP1, hP2⟩ := hP; (try k_fold)
      k_steps
      · refine End2.intro (by k_asm) (by k_asm) rfl rfl (fun z h1 h2 => ?_) ⟨?_, ?_⟩ ?_
        · simp only [if_neg h1, if_neg h2]
        · rw [← hP1, Int.sub_mul]; (first | lia | omega)
        · (first | lia | omega)
        · (first | lia | omega)
      · refine hret _ [_] _ _ (by k_asm) (News.fin1 (mid := [_]) (by k_asm)) ?_ ⟨_, _, _, _, _, _, rfl, rfl, ?_, ?_, ?_⟩
        · first | exact lt_all (And.right (by assumption)) | exact lt_fin1 (mid := []) (by assumption)
        · exact hP1.symm
        · (first | lia | omega)
        · exact hP2
  · unfold Held
    k_dflt (refine' while2 (Str.ofString "q") (Str.ofString "r") (fun q r => q * b + r = a12 * 2 ^ n.toNat + a3 ∧ r < b) (fun q r => (-r).toNat) ?wF2 ?wN2 ?wq2 ?wr2 ?wp2 ?wt2)
    case wF2 => k_asm
    case wN2 => k_asm
    case wq2 => exact rfl
    case wr2 => exact rfl
    case wp2 => exact m3_start (by assumption) (by assumption) (by assumption) (by assumption) (by assumption) (by assumption) (by assumption)
    case wt2 =>
      intro q r tq tr hh tt hP F' N'; obtain ⟨hP1, hP2⟩ := hP; (try k_fold)
      k_steps
      · refine End2.intro (by k_asm) (by k_asm) rfl rfl (fun z h1 h2 => ?_) ⟨?_, ?_⟩ ?_
        · simp only [if_neg h1, if_neg h2]
        · rw [← hP1, Int.sub_mul]; (first | lia | omega)
        · (first | lia | omega)
        · (first | lia | omega)
      · refine hret _ [_] _ _ (by k_asm) (News.fin1 (mid := [_]) (by k_asm)) ?_ ⟨_, _, _, _, _, _, rfl, rfl, ?_, ?_, ?_⟩
        · first | exact lt_all (And.right (by assumption)) | exact lt_fin1 (mid := []) (by assumption)
        · exact hP1.symm
        · (first | lia | omega)
        · exact hP2
end Mine
end
section
theorem Mine.idle6 : True := by
  w_top off
  k_with_none
  trivial
local macro_rules | `(tactic| walk_at "idle") => `(tactic| fail)
set_option maxRecDepth 100000
set_option maxHeartbeats 8000000
namespace Mine
theorem run11 : True := by
  k_with "bits" => (first
  | assumption
  | exact bits_p2 (m := 1000002) (by (first | lia | omega))
  | exact bits_lt_p2 (m := 1000002) (and_lo _ _).1 (and_lo _ _).2 (by (first | lia | omega))
  | exact intBits_mul_le (by walk_at "bits") (by walk_at "bits")
  | exact intBits_add_le (by walk_at "bits") (by walk_at "bits")
  | exact intBits_sub_le (by walk_at "bits") (by walk_at "bits")
  | exact intBits_fdiv_le (by walk_at "bits")
  | exact (show Builtin.Int.intBits 1 ≤ 1 by decide)
  | exact (show Builtin.Int.intBits (2 ^ (1 : Int).toNat) ≤ 2 by decide)
  | fail "bits")
  k_with "binaryOp LShift int int" => (refine lshift_int (by (first | lia | omega)) (shl_ok (by walk_at "bits") (by decide) (by (first | lia | omega))) ?_)
  k_with "binaryOp RShift int int" => (refine rshift_int (by first | decide | (first | lia | omega)) ?_)
  k_with "inplaceOp LShift int int" => (refine ilshift_int (by first | decide | (first | lia | omega)) (shl_ok (by walk_at "bits") (by decide) (by first | decide | (first | lia | omega))) ?_)
  k_with "inplaceOp RShift int int" => (refine irshift_int (by first | decide | (first | lia | omega)) ?_)
  k_with "call builtin:divmod" => (k_dflt (refine' divmod_N ?j41kF ?j41kN ?j41kb ?_ ?j41kp; (case j41kF => k_asm); (case j41kN => k_asm); (case j41kb => (first | lia | omega)); (case j41kp => exact Or.inl (nopy' (by assumption) (by assumption) (by assumption))); k_whole); intro _ _ _)
  trivial
local macro_rules | `(tactic| walk_at "p1x1") => `(tactic| (intro r9 tl9 h9 tk9 F9 N9 hl9 ho9; obtain ⟨t9, q9, r9', u9, v9, k9, e9, e9', e9'', g9, g9'⟩ := ho9; subst e9 e9'; (try simp only [List.cons_append, List.nil_append] at N9); (have hl8 := lt_one hl9); clear hl9; (try k_lt hl8); (have zr := rest_bits g9 g9' (by walk_at "bits")); (have zq := quot_bits e9'' g9 g9' (by walk_at "bits")); (try dsimp only); (try k_fold)))
theorem run12 : True := by
  k_with "call ref" => (k_here; k_dflt (refine' Sp.use (‹C3 _ _› _ _ _ _ _ _ _ _ _ _ _ _ ?j42p1 ?j42p2 ?j42p3 ?j42p4 ?j42p5 ?j42p6 ?j42p7 ?j42p8 ?j42p9 ?j42p10 ?j42p11 ?j42p12) ?j42B ?j42F ?j42X ?j42N ?j42T ?j42hk ?j42hd ?j42hu ?_; (case j42p1 => assumption); (case j42p2 => assumption); (case j42p3 => assumption); (case j42p4 => exact Half.b1lo ‹Half _ _ _ _›); (case j42p5 => exact Half.b1hi ‹Half _ _ _ _›); (case j42p6 => exact Half.beq ‹Half _ _ _ _›); (case j42p7 => exact (and_lo _ _).1); (case j42p8 => exact (and_lo _ _).2); (case j42p9 => exact (and_lo _ _).1); (case j42p10 => exact (and_lo _ _).2); (case j42p11 => first | assumption | exact Half.a12lo ‹Half _ _ _ _›); (case j42p12 => first | assumption | exact Half.a12hi ‹Half _ _ _ _›); (case j42B => k_asm); (case j42F => k_asm); (case j42X => k_asm); (case j42N => k_asm); (case j42T => k_asm); (case j42hk => first | exact rfl | assumption); (case j42hd => ktr_room); (case j42hu => ktr_units); walk_at "p1x1"))
  k_with "ite" => (first | (refine ite_pos ?j43hc ?_; (case j43hc => (simp only [beq_iff_eq, bne_iff_ne, ne_eq, decide_eq_true_eq]; (first | lia | omega)))) | (refine ite_neg ?j43hc ?_; (case j43hc => (simp only [beq_iff_eq, bne_iff_ne, ne_eq, decide_eq_true_eq]; (first | lia | omega)))) | (refine ite_pos ?j43hc ?_; (case j43hc => (simp only [beq_iff_eq, bne_iff_ne, ne_eq, decide_eq_true_eq]; done))))
  trivial
theorem c2_zero (w : World) : C2 w 0 := by
  intro x b n t1 t2 t3 hn hnk hn6 hb hb' hx0 hx
  unfold Sp
  k_fill
  intro p loose mean mg mb dp un gd cn cs a ccd cl outer A₀ base h₀ L m news s Q E B F X N T hk hdp hu hret
  have hbase := m2_base hn hnk hx0 hb' hx
  have hb0 : 0 < b := by have := p2pos (n.toNat - 1); (first | lia | omega)
  refine wpAny_call ?_
  k_dflt ktr_enter
  k_steps
  refine hret _ [_] _ _ (by k_asm) (News.fin1 (mid := []) (by k_asm)) (new_last (by assumption)) ⟨_, _, _, _, _, _, rfl, rfl, divmod_post hb0⟩
theorem c2_succ (w : World) (k : Nat) (ih : C3 w k) : C2 w (k + 1) := by
  intro x b n t1 t2 t3 hn hnk hn6 hb hb' hx0 hx
  unfold Sp
  k_fill
  intro p loose mean mg mb dp un gd cn cs a ccd cl outer A₀ base h₀ L m news s Q E B F X N T hk hdp hu hret
  have hb0 : 0 < b := by have := p2pos (n.toNat - 1); (first | lia | omega)
  have hbz := bits_prod hn hx0 hb' hx
  have z1 : Builtin.Int.intBits x ≤ 2000000 := by (first | lia | omega)
  have z2 : Builtin.Int.intBits b ≤ 1000000 := bits_lt_p2 (m := 1000000) (by (first | lia | omega)) hb' hn6
  have hand := bitAnd_m1 n
  rcases Int.emod_two_eq n with hp | hp
  · have H := half_even hn hp hb hb' hx0 hx
    rw [hp] at hand
    have hh1 := H.hh
    have hh2 := H.h0
    have hh3 := half_le hnk hh1
    have hh4 : n.fdiv (2 ^ (1 : Int).toNat) ≤ 1000000 := by (first | lia | omega)
    refine wpAny_call ?_
    k_dflt ktr_enter
    k_steps
    · refine hret _ [_] _ _ (by k_asm) (News.fin1 (mid := []) (by k_asm)) (new_last (by assumption)) ⟨_, _, _, _, _, _, rfl, rfl, divmod_post hb0⟩
    · refine hret _ [_] _ _ (by k_asm) (News.fin1 (mid := [_, _, _]) (by k_asm)) (lt_all (And.right (And.right (And.right (by assumption))))) ⟨_, _, _, _, _, _, rfl, rfl, H.done (by assumption) (by assumption) (by assumption) (by assumption) (by assumption) (by assumption), by assumption, by assumption⟩
  · have H := half_odd hn hp hb hb' hx0 hx
    rw [hp] at hand
    have hh1 := H.hh
    have hh2 := H.h0
    have hh3 := half_le' hnk hh1
    have hh4 : (n + 1).fdiv (2 ^ (1 : Int).toNat) ≤ 1000000 := by (first | lia | omega)
    refine wpAny_call ?_
    k_dflt ktr_enter
    k_steps
    · refine hret _ [_] _ _ (by k_asm) (News.fin1 (mid := []) (by k_asm)) (new_last (by assumption)) ⟨_, _, _, _, _, _, rfl, rfl, divmod_post hb0⟩
    · refine hret _ [_] _ _ (by k_asm) (News.fin1 (mid := [_, _, _]) (by k_asm)) (lt_all (And.right (And.right (And.right (by assumption))))) ⟨_, _, _, _, _, _, rfl, rfl, unpad (H.done (by assumption) (by assumption) (by assumption) (by assumption) (by assumption) (by assumption)) (by assumption) (by assumption)⟩
theorem c2 (w : World) : ∀ k, C2 w k
  | 0 => c2_zero w
  | k + 1 => c2_succ w k (c3 w k (c2 w k))
end Mine
end
section
theorem Mine.idle7 : True := by
  w_top off
  k_with_none
  trivial
local macro_rules | `(tactic| walk_at "idle") => `(tactic| fail)
set_option maxRecDepth 100000
set_option maxHeartbeats 8000000
namespace Mine
noncomputable def CP (w : World) : Prop := ∀ (x b : Int) (t1 t2 : Tok), 0 ≤ x → 0 < b → Builtin.Int.intBits x ≤ 200000 → Builtin.Int.intBits b ≤ 200000 → SpT w 66 [.int x t1, .int b t2] 34 260 (fun _ => True) (PostD x b)
theorem News.ins1 {h₀ h : Heap} {L : Addr} {x : Addr × Obj} {lt news : List (Addr × Obj)} (N : News h₀ L h (lt ++ ([x] ++ news))) : News h₀ L h (x :: (lt ++ news)) :=
  News.sub N fun p hp => by
    simp only [List.mem_append, List.mem_cons] at hp ⊢
    rcases hp with h | h | h <;> simp [h]
theorem run13 : True := by
  k_with "k_all" => (first | assumption | exact ne_of_allLt (by assumption) (by (first | lia | omega)))
  k_with "ite" => (first | (refine ite_pos ?j44hc ?_; (case j44hc => (simp only [beq_iff_eq, bne_iff_ne, ne_eq, decide_eq_true_eq]; (first | lia | omega)))) | (refine ite_neg ?j44hc ?_; (case j44hc => (simp only [beq_iff_eq, bne_iff_ne, ne_eq, decide_eq_true_eq]; (first | lia | omega)))))
  k_with "pyIter ref" => (refine held ?_)
  trivial
local macro_rules | `(tactic| walk_at "p1x1") => `(tactic| (intro r9 lt9 tl9 h9 tk9 F9 N9 ht9 hG9 hg9 hl9 ho9; obtain ⟨la, vs, ep, e9, e9', hv9⟩ := ho9; subst e9 e9'; (replace N9 := News.ins1 N9); (try dsimp only); (try k_fold)))
theorem run14 : True := by
  k_with "call ref" => (k_here; k_dflt (refine' SpT.use (ci _ _ _ _ _ ?j46p1 ?j46p2 ?j46p3 ?j46p4) ?j46B ?j46F ?j46X ?j46N ?j46ht ?j46ha ?j46T ?j46hk ?j46pp ?j46hd ?j46hu ?_; (case j46p1 => (first | lia | omega)); (case j46p2 => assumption); (case j46p3 => assumption); (case j46p4 => (first | lia | omega)); (case j46B => k_asm); (case j46F => k_asm); (case j46X => k_asm); (case j46N => k_asm); (case j46ht => assumption); (case j46ha => assumption); (case j46T => k_asm); (case j46hk => first | exact rfl | assumption); (case j46pp => exact trivial); (case j46hd => ktr_room); (case j46hu => ktr_units); walk_at "p1x1"))
  trivial
local macro_rules | `(tactic| walk_at "p2x1") => `(tactic| (intro r9 tl9 h9 tk9 F9 N9 hl9 ho9; obtain ⟨t9, q9, r9', u9, v9, k9, e9, e9', e9'', g9, g9'⟩ := ho9; subst e9 e9'; (try simp only [List.cons_append, List.nil_append] at N9); (have hl8 := lt_one hl9); clear hl9; (try k_lt hl8); (have gq := quot_nn (by assumption) e9'' g9 g9' (by assumption)); (have gq' := quot_lt (by assumption) e9'' g9 g9' (by assumption)); (try dsimp only); (try k_fold)))
theorem run15 : True := by
  k_with "call ref" => (k_here; k_dflt (refine' Sp.use (c2 _ 6 _ _ _ _ _ _ ?j47p1 ?j47p2 ?j47p3 ?j47p4 ?j47p5 ?j47p6 ?j47p7) ?j47B ?j47F ?j47X ?j47N ?j47T ?j47hk ?j47hd ?j47hu ?_; (case j47p1 => assumption); (case j47p2 => (first | lia | omega)); (case j47p3 => (first | lia | omega)); (case j47p4 => assumption); (case j47p5 => assumption); (case j47p6 => assumption); (case j47p7 => assumption); (case j47B => k_asm); (case j47F => k_asm); (case j47X => k_asm); (case j47N => k_asm); (case j47T => k_asm); (case j47hk => first | exact rfl | assumption); (case j47hd => ktr_room); (case j47hu => ktr_units); walk_at "p2x1"))
  k_with "binaryOp LShift int int" => (refine lshift_int (by (first | lia | omega)) (shl_ok (rest_bits (by assumption) (by assumption) (by assumption)) (by decide) (by (first | lia | omega))) ?_)
  k_with "call builtin:list.append" => (k_dflt (refine' append_K ?j49k1 ?j49k2 ?j49k3 ?_ ?j49z; (case j49k1 => k_asm); (case j49k2 => k_asm); (case j49k3 => k_upd); (case j49z => (simp only [List.size_toArray, sizeLine]; (first | lia | omega))); k_whole); intro _ _ _; (try k_sweep))
  trivial
theorem News.perm2 {h₀ h : Heap} {L : Addr} {x y : Addr × Obj} {lt news : List (Addr × Obj)} (N : News h₀ L h (x :: y :: (lt ++ news))) : News h₀ L h (lt ++ (x :: y :: news)) :=
  News.sub N fun p hp => by
    simp only [List.mem_append, List.mem_cons] at hp ⊢
    rcases hp with h | h | h | h <;> simp [h]
theorem News.perm3 {h₀ h : Heap} {L : Addr} {t x y : Addr × Obj} {lt news : List (Addr × Obj)} (N : News h₀ L h (t :: (lt ++ ([] ++ (x :: y :: news))))) : News h₀ L h (lt ++ ([t] ++ news)) :=
  News.sub N fun p hp => by
    simp only [List.mem_append, List.mem_cons, List.nil_append] at hp ⊢
    rcases hp with h | (h | h) | h <;> simp_all
theorem run16 : True := by
  k_with "call builtin:list.reverse" => (dsimp only; k_dflt (refine' kl_reverse ?j50kF ?j50kN ?j50ke ?j50kU ?j50kz ?_; (case j50kF => k_asm); (case j50kN => k_asm); (case j50kU => k_upd); (case j50ke => exact rev_arr _); (case j50kz => (simp only [sizeLine, List.toList_toArray]; (first | lia | omega))); k_whole); intro _ _ _; (try k_sweep))
  k_with "call ref" => (k_here; k_dflt (refine' SpT.use (cd _ _ _ _ _ _ _ ?j51p1 ?j51p2 ?j51p3 ?j51p4 ?j51p5 ?j51p6) ?j51B ?j51F ?j51X ?j51N ?j51ht ?j51ha ?j51T ?j51hk ?j51pp ?j51hd ?j51hu ?_; (case j51B => k_asm); (case j51F => k_asm); (case j51X => k_asm); (case j51N => exact News.perm2 (by k_asm)); (case j51p6 => assumption); (case j51p1 => assumption); (case j51p2 => (first | lia | omega)); (case j51p3 => assumption); (case j51p4 => assumption); (case j51p5 => assumption); (case j51ht => assumption); (case j51ha => assumption); (case j51T => k_asm); (case j51hk => first | exact rfl | assumption); (case j51pp => exact List.Mem.head _); (case j51hd => ktr_room); (case j51hu => ktr_units); walk_at "s2"))
  trivial
structure PInv (x b : Int) (n : Nat) (lq : Addr) (news : List (Addr × Obj)) (m0 : Str → Option Value) (rem : List Value) (m1 : Str → Option Value) (nws : List (Addr × Obj)) (ri dn : List Int) (qvs : List Value) (qs : List Int) (kq : Nat) (r : Int) (tr : Tok) (u1 u2 : Option Value) : Prop where
  c1 : IntsAre rem ri
  c2 : ri.reverse ++ dn = digs n x
  c3 : IntsAre qvs qs
  c4 : qs.length + ri.length = (digs n x).length
  c5 : ∀ q ∈ qs, 0 ≤ q ∧ q < 2 ^ n
  c6 : valOf n dn = valOf n qs.reverse * b + r
  c7 : 0 ≤ r
  c8 : r < b
  c9 : m1 = (fun y => if y = Str.ofString "r" then some (Value.int r tr) else if y = Str.ofString "a_digit" then u1 else if y = Str.ofString "q_digit" then u2 else m0 y)
  c10 : nws = (lq, listOf qvs.toArray kq) :: news
theorem cp (w : World) : CP w := by
  intro x b t1 t2 hx hb hzx hzb
  unfold SpT
  k_fill
  intro p loose mean mg mb dp un gd cn cs a ccd cl outer A₀ base h₀ L m lt news s Q E B F X N ht ha T hk hp hdp hu hret
  have hbp := bits_pos hb
  refine wpAny_call ?_
  k_dflt ktr_enter
  k_steps
  rename_i lt9 h9 tk9 ht9 hG9 la vs ep hv9 hg9 hl9 h4 tk3 h3 lq h2 lA h1 D hD FF NN lB
  unfold Held
  generalize hnn : (Builtin.Int.intBits b : Int) = n at *
  have hn : 0 < n := by (first | lia | omega)
  have hn2 : n ≤ 200000 := by (first | lia | omega)
  have hb1 : (2 : Int) ^ (n.toNat - 1) ≤ b := by rw [← hnn]; exact bits_ge hb
  have hb2 : b < 2 ^ n.toNat := by rw [← hnn]; exact lt_bits (Nat.le_refl _)
  have hM := p2pos n.toNat
  obtain ⟨hdl, hdl2⟩ := digs_len (n := n.toNat) (x := x) (by (first | lia | omega))
  have hvl := IntsAre.length hv9
  have hAll : AllLt lq (lt9 ++ news) := lA.2
  have hAllD : AllLt D (lt9 ++ news) := lB.2.2
  refine with_m FF fun m0 hm0 FF0 => ?_
  refine iter_revUnr (n := ep) rfl FF0 NN (offI_of ?off) (.tail _ (.head _)) rfl rfl (revRest_ind (fun rem m1 nws => ∃ (ri dn : List Int) (qvs : List Value) (qs : List Int) (kq : Nat) (r : Int) (tr : Tok) (u1 u2 : Option Value), PInv x b n.toNat lq ((la, listOf vs.toArray ep) :: (lt9 ++ news)) m0 rem m1 nws ri dn qvs qs kq r tr u1 u2) ?zero ?succ _ _ _ ?init)
  case off =>
    k_all
  case init =>
    obtain ⟨tr0, hr0⟩ : ∃ tr0, m0 (Str.ofString "r") = some (Value.int 0 tr0) := ⟨_, by rw [hm0]; rfl⟩
    exact ⟨(digs n.toNat x).reverse, [], [], [], 0, 0, tr0, m0 (Str.ofString "a_digit"), m0 (Str.ofString "q_digit"), hv9.reverse, by simp, .nil, by simp, by simp, by simp [valOf], by (first | lia | omega), hb, map3 hr0 fun _ _ _ _ => rfl, rfl⟩
  case zero =>
    rintro m1 nws ⟨ri, dn, qvs, qs, kq, r, tr, u1, u2, hri, hdn, hqv, hql, hqr, hval, hr0, hr1, rfl, rfl⟩ h tk F1 N1
    subst hm0
    (try k_fold)
    have hri0 : ri = [] := by cases hri; rfl
    subst hri0
    have hq6 : IntsAre qvs.reverse qs.reverse := hqv.reverse
    have hq3 : qs.reverse.length ≤ 200000 := by rw [List.length_reverse]; simp at hql; (first | lia | omega)
    have hq4 : n * (qs.reverse.length : Nat) ≤ 20000000 := by
      rw [List.length_reverse]
      simp at hql
      rw [← hql] at hdl2
      have : ((n.toNat * qs.length : Nat) : Int) = n * (qs.length : Nat) := by rw [Int.natCast_mul, Int.toNat_of_nonneg (by (first | lia | omega))]
      (first | lia | omega)
    have hq5 : ∀ q ∈ qs.reverse, Builtin.Int.intBits q ≤ 20000000 := fun q hq => by
      have := hqr q (List.mem_reverse.mp hq)
      have := bits_lt_p2 (m := 200000) this.1 this.2 hn2
      (first | lia | omega)
    have hqvl := IntsAre.length hqv
    have hq7 : qvs.length ≤ 200000 := by rw [List.length_reverse] at hq3; (first | lia | omega)
    have hla : 54 < la := hg9 _ (.head _)
    have hlq : 54 < lq := Nat.lt_trans hla lA.1
    have hpa : ∀ q ∈ (lq, listOf qvs.reverse.toArray kq) :: (la, listOf vs.toArray ep) :: news, 54 < q.1 := List.forall_mem_cons.mpr ⟨hlq, List.forall_mem_cons.mpr ⟨hla, ha⟩⟩
    k_steps
    rename_i lt8 h8 tk8 ht8 hG8 t8 hg8 hl8 hA D8 hB F8 N8 l8 kF8 kN8 T8 X8
    have hmem : ∀ q ∈ news, q.1 < D8 := fun q hq => l8 q (List.mem_append_right _ (List.mem_append_right _ (.tail _ (.tail _ hq))))
    have h54 : 54 < D8 := Nat.lt_trans hlq (l8 _ (List.mem_append_right _ (List.mem_append_right _ (.head _))))
    have hfin : x = valOf n.toNat qs.reverse * b + r := by
      rw [← hval]
      have e : dn = digs n.toNat x := by rw [← hdn]; rfl
      rw [e, valOf_digs (by (first | lia | omega)) hx]
    exact hret _ lt8 [_] _ _ kF8 (News.perm3 kN8) ht8 (Grow.trans hG9 hG8 fun p hp => .tail _ (.tail _ hp)) (one_lt h54) (one_lts hmem) ⟨_, _, _, _, _, _, rfl, rfl, hfin, hr0, hr1⟩
  case succ =>
    rintro v rem m1 nws ⟨ri, dn, qvs, qs, kq, r, tr, u1, u2, hri, hdn, hqv, hql, hqr, hval, hr0, hr1, rfl, rfl⟩ it h tk hit F1 N1
    cases hri with
    | cons d td hri' =>
      rename_i ri'
      subst hm0
      have hdr : 0 ≤ d ∧ d < 2 ^ n.toNat := by
        refine digs_range (n := n.toNat) (x := x) d ?_
        rw [← hdn]; simp
      have hx0 : 0 ≤ r * 2 ^ n.toNat + d := Int.add_nonneg (Int.mul_nonneg hr0 (Int.le_of_lt hM)) hdr.1
      have hx1 : r * 2 ^ n.toNat + d < b * 2 ^ n.toNat := step_lt hr1 hM hdr.2
      have hqvl := IntsAre.length hqv
      (try k_fold)
      k_steps
      rename_i hz tz t9 q9 r9 u9 v9 k9 e9 g9 g9' hl8 gq gq' hA hB hC tkx hE F' N'
      rw [List.push_toArray] at N'
      refine UnrEnd.intro F' N' ((lq, listOf (qvs ++ [Value.int q9 u9]).toArray (kq + 1)) :: (la, listOf vs.toArray ep) :: (lt9 ++ news)) (fun p hp => .tail _ hp) ?_ ⟨.tail _ (.head _), ?_⟩
      · exact List.forall_mem_cons.mpr ⟨Nat.ne_of_lt lB.1, List.forall_mem_cons.mpr ⟨Nat.ne_of_lt lB.2.1, ne_of_allLt hAllD (Nat.le_refl _)⟩⟩
      · refine ⟨ri', d :: dn, qvs ++ [Value.int q9 u9], qs ++ [q9], kq + 1, r9, v9, _, _, hri', ?_, hqv.append (.cons _ _ .nil), ?_, ?_, step_val hval e9, g9, g9', map3 rfl ?_, rfl⟩
        · rw [← hdn]; simp
        · simp at hql ⊢; (first | lia | omega)
        · intro q hq
          rcases List.mem_append.mp hq with h | h
          · exact hqr q h
          · rw [List.mem_singleton.mp h]; exact ⟨gq, gq'⟩
        · intro y h1 h2 h3
          simp only [if_neg h1, if_neg h2, if_neg h3]
end Mine
end
section
theorem Mine.idle8 : True := by
  w_top off
  k_with_none
  trivial
set_option maxRecDepth 100000
set_option maxHeartbeats 8000000
namespace Mine
noncomputable def PostM (x b : Int) (tl : List (Addr × Obj)) (v : Value) : Prop :=
  ∃ (t : Addr) (q r : Int) (u1 u2 : Tok) (k : Nat), v = .ref t ∧ tl = [(t, tupO [.int q u1, .int r u2] k)] ∧ x = q * b + r ∧ ((0 ≤ r ∧ r < b) ∨ (b < r ∧ r ≤ 0))
noncomputable def CM0 (w : World) : Prop := ∀ (x b : Int) (t1 t2 : Tok), 0 ≤ x → 0 < b → Builtin.Int.intBits x ≤ 150000 → Builtin.Int.intBits b ≤ 150000 → SpT w 73 [.int x t1, .int b t2] 36 270 (fun _ => True) (PostM x b)
noncomputable def CM1 (w : World) : Prop := ∀ (x b : Int) (t1 t2 : Tok), 0 < b → Builtin.Int.intBits x ≤ 150000 → Builtin.Int.intBits b ≤ 150000 → SpT w 73 [.int x t1, .int b t2] 38 290 (fun _ => True) (PostM x b)
noncomputable def CM (w : World) : Prop := ∀ (x b : Int) (t1 t2 : Tok), b ≠ 0 → Builtin.Int.intBits x ≤ 150000 → Builtin.Int.intBits b ≤ 150000 → SpT w 73 [.int x t1, .int b t2] 40 310 (fun _ => True) (PostM x b)
theorem run17 : True := by
  k_with "ite" => (first | (refine ite_pos ?j52hc ?_; (case j52hc => (simp only [beq_iff_eq, bne_iff_ne, ne_eq, decide_eq_true_eq]; (first | lia | omega)))) | (refine ite_neg ?j52hc ?_; (case j52hc => (simp only [beq_iff_eq, bne_iff_ne, ne_eq, decide_eq_true_eq]; (first | lia | omega)))))
  k_with "call ref" => (k_here; k_dflt (refine' SpT.use (cp _ _ _ _ _ ?j53p1 ?j53p2 ?j53p3 ?j53p4) ?j53B ?j53F ?j53X ?j53N ?j53ht ?j53ha ?j53T ?j53hk ?j53pp ?j53hd ?j53hu ?_; (case j53p1 => assumption); (case j53p2 => assumption); (case j53p3 => (first | lia | omega)); (case j53p4 => (first | lia | omega)); (case j53B => k_asm); (case j53F => k_asm); (case j53X => k_asm); (case j53N => k_asm); (case j53ht => assumption); (case j53ha => assumption); (case j53T => k_asm); (case j53hk => first | exact rfl | assumption); (case j53pp => exact trivial); (case j53hd => ktr_room); (case j53hu => ktr_units); intro _ _ _ _ _ _ _ _ _ _ _ _; (try dsimp only); (try k_fold)))
  trivial
theorem SpT.mono {w : World} {f : Addr} {args : List Value} {d d' u u' : Nat} {Pre : List (Addr × Obj) → Prop} {Post : List (Addr × Obj) → Value → Prop} (h : SpT w f args d u Pre Post) (hd : d ≤ d') (hu : u ≤ u') : SpT w f args d' u' Pre Post :=
  fun p loose mean mg mb dp un gd cn cs a ccd cl outer A₀ base h₀ L m lt news s Q E B F X N ht ha T hk hp hdp hun hret => h p loose mean mg mb dp un gd cn cs a ccd cl outer A₀ base h₀ L m lt news s Q E B F X N ht ha T hk hp (by (first | lia | omega)) (by (first | lia | omega)) hret
theorem bits_not {x : Int} {m : Nat} (h : x < 0) (hz : Builtin.Int.intBits x ≤ m) : Builtin.Int.intBits (Builtin.bitNot x) ≤ m := by
  refine intBits_le_of_natAbs ?_ hz
  unfold Builtin.bitNot; (first | lia | omega)
theorem neg_post {x b q r : Int} (e : Builtin.bitNot x = q * b + r) (h : (0 ≤ r ∧ r < b) ∨ (b < r ∧ r ≤ 0)) (hb : 0 < b) : x = Builtin.bitNot q * b + (b + Builtin.bitNot r) ∧ ((0 ≤ b + Builtin.bitNot r ∧ b + Builtin.bitNot r < b) ∨ (b < b + Builtin.bitNot r ∧ b + Builtin.bitNot r ≤ 0)) := by
  unfold Builtin.bitNot at *
  have e1 : (-q - 1) * b = -(q * b) - b := by rw [Int.sub_mul, Int.neg_mul, Int.one_mul]
  rw [e1]; (first | lia | omega)
theorem neg_post2 {x b q r : Int} (e : -x = q * -b + r) (h : (0 ≤ r ∧ r < -b) ∨ (-b < r ∧ r ≤ 0)) (hb : b < 0) : x = q * b + -r ∧ ((0 ≤ -r ∧ -r < b) ∨ (b < -r ∧ -r ≤ 0)) := by
  rw [Int.mul_neg] at e; (first | lia | omega)
theorem News.permR {h₀ h : Heap} {L : Addr} {x y : Addr × Obj} {lt news : List (Addr × Obj)} (N : News h₀ L h (x :: y :: (lt ++ news))) : News h₀ L h (lt ++ ([x] ++ news)) :=
  News.sub N fun p hp => by
    simp only [List.mem_append, List.mem_cons] at hp ⊢
    rcases hp with h | (h | h) | h <;> simp_all
theorem cm0 (w : World) : CM0 w := by
  intro x b t1 t2 hx hb hzx hzb
  · unfold SpT
    k_fill
    intro p loose mean mg mb dp un gd cn cs a ccd cl outer A₀ base h₀ L m lt news s Q E B F X N ht ha T hk hp hdp hu hret
    refine wpAny_call ?_
    k_dflt ktr_enter
    k_steps
    rename PostD _ _ _ _ => ho
    obtain ⟨t, q, r, u1, u2, k, e1, e2, e3, e4, e5⟩ := ho
    exact hret _ _ _ _ _ (by k_asm) (by k_asm) (by assumption) (by assumption) (by assumption) (by assumption) ⟨t, q, r, u1, u2, k, e1, e2, e3, .inl ⟨e4, e5⟩⟩
local macro_rules | `(tactic| walk_at "p1x2") => `(tactic| (intro r9 lt9 tl9 h9 tk9 F9 N9 ht9 hG9 hg9 hl9 ho9; obtain ⟨t9, q9, r9', u9, v9, k9, e9, e9', e9'', g9⟩ := ho9; subst e9 e9'; (replace N9 := News.ins1 N9); (have h54 := hg9 _ (List.Mem.head _)); (have hl8 := lt_one hl9); (try dsimp only); (try k_fold)))
theorem run18 : True := by
  k_with "call ref" => (k_here; k_dflt (refine' SpT.use (cm0 _ _ _ _ _ ?j54p1 ?j54p2 ?j54p3 ?j54p4) ?j54B ?j54F ?j54X ?j54N ?j54ht ?j54ha ?j54T ?j54hk ?j54pp ?j54hd ?j54hu ?_; (case j54p1 => (unfold Builtin.bitNot; (first | lia | omega))); (case j54p2 => assumption); (case j54p3 => exact bits_not (by (first | lia | omega)) (by assumption)); (case j54p4 => assumption); (case j54B => k_asm); (case j54F => k_asm); (case j54X => k_asm); (case j54N => k_asm); (case j54ht => assumption); (case j54ha => assumption); (case j54T => k_asm); (case j54hk => first | exact rfl | assumption); (case j54pp => exact trivial); (case j54hd => ktr_room); (case j54hu => ktr_units); walk_at "p1x2"))
  trivial
theorem cm1 (w : World) : CM1 w := by
  intro x b t1 t2 hb hzx hzb
  by_cases hx : 0 ≤ x
  · exact (cm0 w x b t1 t2 hx hb hzx hzb).mono (by decide) (by decide)
  · unfold SpT
    k_fill
    intro p loose mean mg mb dp un gd cn cs a ccd cl outer A₀ base h₀ L m lt news s Q E B F X N ht ha T hk hp hdp hu hret
    refine wpAny_call ?_
    k_dflt ktr_enter
    k_steps
    rename_i D8 hB F8 N8 l8 kF8 kN8 T8 X8
    exact hret _ _ [_] _ _ kF8 (News.permR kN8) (by assumption) (by assumption) (one_lt (Nat.lt_trans (by assumption) l8.1)) (one_lts fun q hq => of_allLt l8.2 q (List.mem_append_right _ hq)) ⟨_, _, _, _, _, _, rfl, rfl, neg_post (by assumption) (by assumption) hb⟩
theorem run19 : True := by
  k_with "call ref" => (k_here; k_dflt (refine' SpT.use (cm1 _ _ _ _ _ ?j55p2 ?j55p3 ?j55p4) ?j55B ?j55F ?j55X ?j55N ?j55ht ?j55ha ?j55T ?j55hk ?j55pp ?j55hd ?j55hu ?_; (case j55p2 => (first | lia | omega)); (case j55p3 => exact intBits_neg_le (by assumption)); (case j55p4 => exact intBits_neg_le (by assumption)); (case j55B => k_asm); (case j55F => k_asm); (case j55X => k_asm); (case j55N => k_asm); (case j55ht => assumption); (case j55ha => assumption); (case j55T => k_asm); (case j55hk => first | exact rfl | assumption); (case j55pp => exact trivial); (case j55hd => ktr_room); (case j55hu => ktr_units); walk_at "p1x2"))
  trivial
theorem cm (w : World) : CM w := by
  intro x b t1 t2 hb hzx hzb
  by_cases hb0 : 0 < b
  · exact (cm1 w x b t1 t2 hb0 hzx hzb).mono (by decide) (by decide)
  · unfold SpT
    k_fill
    intro p loose mean mg mb dp un gd cn cs a ccd cl outer A₀ base h₀ L m lt news s Q E B F X N ht ha T hk hp hdp hu hret
    refine wpAny_call ?_
    k_dflt ktr_enter
    k_steps
    rename_i D8 hB F8 N8 l8 kF8 kN8 T8 X8
    exact hret _ _ [_] _ _ kF8 (News.permR kN8) (by assumption) (by assumption) (one_lt (Nat.lt_trans (by assumption) l8.1)) (one_lts fun q hq => of_allLt l8.2 q (List.mem_append_right _ hq)) ⟨_, _, _, _, _, _, rfl, rfl, neg_post2 (by assumption) (by assumption) (by (first | lia | omega))⟩
end Mine
end
section
set_option maxRecDepth 100000
namespace Mine
theorem slot_sub : Slot "re.Pattern" "sub" "re.Pattern.sub" :=
  .of (owner := "re.Pattern") (n := "sub") (by rw [typeLookup_type, builtinLookup_eq_fast]; kernel_rfl) (by decide +kernel) (by decide +kernel) (by decide +kernel)
    (by first | exact .inl (by decide +kernel) | exact .inr (by decide +kernel)) (by rw [isSubtype_type]; kernel_rfl)
theorem type_sub : typeOf (.builtin "re.Pattern.sub") = pure (.type "method_descriptor") := by show builtinType _ = _; rw [builtinType_eq_fast]; kernel_rfl
theorem entry_sub : entryFor table "re.Pattern.sub" = some Builtin.«re.Pattern.sub» := entryFor_of_tree (by kernel_rfl)
theorem entry_loop : entryFor table "re.Pattern.sub.loop" = some Builtin.«re.Pattern.sub.loop» := entryFor_of_tree (by kernel_rfl)
theorem args_sub (a b c : Value) : argsOk "re.Pattern.sub" ⟨[a, b, c], []⟩ := by unfold argsOk; kernel_rfl
theorem ga_pat : typeLookup (.type "re.Pattern") "__getattribute__" = pure (some (.builtin "object.__getattribute__")) := by rw [typeLookup_type, builtinLookup_eq_fast]; kernel_rfl
theorem noga_pat : typeLookup (.type "re.Pattern") "__getattr__" = pure none := by rw [typeLookup_type, builtinLookup_eq_fast]; kernel_rfl
theorem pat_plain : PlainAttrs "re.Pattern" := ⟨⟨_, ga_pat, by decide +kernel⟩, noga_pat⟩
end Mine
end
section
open PySem.Sre
namespace Mine
theorem runFor_add (a : Nat) : ∀ (b : Nat) (m : M), M.runFor (a + b) m = M.runFor b (M.runFor a m) := by
  induction a with
  | zero => intro b m; rw [Nat.zero_add]; rfl
  | succ a ih =>
    intro b m
    rw [Nat.succ_add]
    simp only [M.runFor]
    by_cases h : m.outcome.isSome = true
    · simp only [h, if_true]
      cases b with
      | zero => rfl
      | succ b => simp only [M.runFor, h, if_true]
    · simp only [h]
      exact ih b m.step
theorem runFor_done (n : Nat) {m : M} (h : m.outcome.isSome = true) : M.runFor n m = m := by
  cases n with
  | zero => rfl
  | succ n => simp only [M.runFor, h, if_true]
theorem runFor_step {n : Nat} {m : M} (h : m.outcome = none) : M.runFor (n + 1) m = M.runFor n m.step := by
  simp only [M.runFor, h]; rfl
/-- m comes to an outcome within n steps, and P holds of the end -/
noncomputable def Ends (P : M → Prop) (n : Nat) (m : M) : Prop := ∃ k, k ≤ n ∧ (M.runFor k m).outcome.isSome = true ∧ P (M.runFor k m)
theorem Ends.now {P : M → Prop} {n : Nat} {m : M} (h : m.outcome.isSome = true) (p : P m) : Ends P n m := ⟨0, Nat.zero_le _, h, p⟩
theorem Ends.step {P : M → Prop} {n : Nat} {m m' : M} (e : m.step = m') (h : Ends P n m') : Ends P (n + 1) m := by
  obtain ⟨k, hk, h1, h2⟩ := h
  by_cases ho : m.outcome = none
  · refine ⟨k + 1, by (first | lia | omega), ?_, ?_⟩
    · rw [runFor_step ho, e]; exact h1
    · rw [runFor_step ho, e]; exact h2
  · have hs : m.outcome.isSome = true := by
      cases h : m.outcome with
      | none => exact absurd h ho
      | some x => rfl
    have em : m' = m := by rw [← e]; unfold M.step; rw [if_pos hs]
    rw [em] at h1 h2
    exact ⟨k, by (first | lia | omega), h1, h2⟩
theorem Ends.mono {P : M → Prop} {n n' : Nat} {m : M} (h : Ends P n m) (k : n ≤ n') : Ends P n' m := by
  obtain ⟨j, hj, r⟩ := h
  exact ⟨j, by (first | lia | omega), r⟩
theorem Ends.imp {P P' : M → Prop} {n : Nat} {m : M} (h : Ends P n m) (k : ∀ m, P m → P' m) : Ends P' n m := by
  obtain ⟨j, hj, r, p⟩ := h
  exact ⟨j, hj, r, k _ p⟩
/-- what a search ends with: a match from b to e, or none -/
noncomputable def Found (r : Option (Nat × Nat)) (m : M) : Prop := match r with
  | some (b, e) => m.outcome = some .matched ∧ m.start = b ∧ m.handed = e
  | none => m.outcome = some .failed
noncomputable abbrev codeD : Array Nat := #[14, 4, 0, 1, 1, 6, 1, 16, 46, 1]
noncomputable abbrev frS (c : Nat) (first : Bool) (s : Nat) : Sre.Frame := { wait := .nextStart, pc := c, pos := s, outermost := first }
/-- a state of a machine without marks and loops -/
noncomputable def stM (code text : Array Nat) (ls : Nat) (first : Bool) (seen : Sre.Seen) (s pc pos handed : Nat) (om : Bool) (fr : List Sre.Frame) (wt : Nat) (ans : Option Bool) (out : Option Sre.Outcome) : M :=
  { code := code, text, lim := text.size, start := s, lastStart := ls, wholeText := false, mustAdvance := false, pc, pos, handed, outermost := om, marks := #[],
    frames := fr, weight := wt, answer := ans, seen, outcome := out }
section D
variable {text : Array Nat} {first : Bool} {s : Nat}
noncomputable abbrev atD (text : Array Nat) (first : Bool) (seen : Sre.Seen) (s : Nat) : M := stM codeD text text.size first seen s 5 s s first [frS 5 first s] 1 none none
noncomputable abbrev BolAt (text : Array Nat) (s : Nat) : Prop := s = 0 ∨ text.getD (s - 1) 0 = 10
theorem stepD_at {seen : Sre.Seen} (h : BolAt text s) :
    ∃ seen', (atD text first seen s).step = stM codeD text text.size first seen' s 7 s s first [frS 5 first s] 1 none none := by
  apply Exists.intro
  show (if (s == 0 || text.getD (s - 1) 0 == 10) = true then _ else _) = _
  rw [if_pos (by simpa [BolAt] using h)]
  rfl
theorem stepD_at_no {seen : Sre.Seen} (h : ¬ BolAt text s) :
    ∃ seen', (atD text first seen s).step = stM codeD text text.size first seen' s 5 s s first [frS 5 first s] 1 (some false) none := by
  apply Exists.intro
  show (if (s == 0 || text.getD (s - 1) 0 == 10) = true then _ else _) = _
  rw [if_neg (by simpa [BolAt] using h)]
  rfl
theorem stepD_lit {seen : Sre.Seen} (hs : s < text.size) (h : text.getD s 0 = 46) :
    ∃ seen', (stM codeD text text.size first seen s 7 s s first [frS 5 first s] 1 none none).step = stM codeD text text.size first seen' s 9 (s + 1) s first [frS 5 first s] 1 none none := by
  apply Exists.intro
  show (if s ≥ text.size then _ else (match (Except.ok (text.getD s 0 == 46, _) : Except String (Bool × Sre.Seen)) with | .error why => _ | .ok (false, seen) => _ | .ok (true, seen) => _ : M)) = _
  rw [if_neg (by (first | lia | omega)), h]
  rfl
theorem stepD_lit_no {seen : Sre.Seen} (h : ¬ (s < text.size ∧ text.getD s 0 = 46)) :
    ∃ seen', (stM codeD text text.size first seen s 7 s s first [frS 5 first s] 1 none none).step = stM codeD text text.size first seen' s 7 s s first [frS 5 first s] 1 (some false) none := by
  by_cases hs : s ≥ text.size
  · apply Exists.intro
    show (if s ≥ text.size then _ else _) = _
    rw [if_pos hs]
    rfl
  · have h' : (text.getD s 0 == 46) = false := by
      rw [beq_eq_false_iff_ne]; intro e; exact h ⟨by (first | lia | omega), e⟩
    apply Exists.intro
    show (if s ≥ text.size then _ else (match (Except.ok (text.getD s 0 == 46, _) : Except String (Bool × Sre.Seen)) with | .error why => _ | .ok (false, seen) => _ | .ok (true, seen) => _ : M)) = _
    rw [if_neg hs, h']
    rfl
theorem stepD_ok {seen : Sre.Seen} : ∃ seen', (stM codeD text text.size first seen s 9 (s + 1) s first [frS 5 first s] 1 none none).step = stM codeD text text.size first seen' s 9 (s + 1) (s + 1) first [frS 5 first s] 1 (some true) none := by
  apply Exists.intro
  show (if (first && ((false && (s + 1 != text.size)) || (false && (s + 1 == s)))) = true then _ else _) = _
  rw [if_neg (by simp)]
  rfl
theorem stepD_yes {seen : Sre.Seen} {pos : Nat} : (stM codeD text text.size first seen s 9 pos (s + 1) first [frS 5 first s] 1 (some true) none).step = stM codeD text text.size first seen s 5 s (s + 1) first [] 0 (some true) none := rfl
theorem stepD_end {seen : Sre.Seen} : (stM codeD text text.size first seen s 5 s (s + 1) first [] 0 (some true) none).step = stM codeD text text.size first seen s 5 s (s + 1) first [] 0 (some true) (some .matched) := rfl
theorem stepD_next {seen : Sre.Seen} {pc pos : Nat} (h : s < text.size) : (stM codeD text text.size first seen s pc pos s first [frS 5 first s] 1 (some false) none).step = atD text false seen (s + 1) := by
  show (if s < text.size then _ else _) = _
  rw [if_pos h]; rfl
theorem stepD_over {seen : Sre.Seen} {pc pos : Nat} (h : ¬ s < text.size) : (stM codeD text text.size first seen s pc pos s first [frS 5 first s] 1 (some false) none).step = stM codeD text text.size first seen s 5 s s first [] 0 (some false) none := by
  show (if s < text.size then _ else _) = _
  rw [if_neg h]; rfl
theorem stepD_fail {seen : Sre.Seen} : (stM codeD text text.size first seen s 5 s s first [] 0 (some false) none).step = stM codeD text text.size first seen s 5 s s first [] 0 (some false) (some .failed) := rfl
/-- the first dot at the head of a row, from s on -/
noncomputable def findD (text : Array Nat) : Nat → Nat → Option (Nat × Nat)
  | 0, _ => none
  | k + 1, s => if BolAt text s ∧ s < text.size ∧ text.getD s 0 = 46 then some (s, s + 1) else findD text k (s + 1)
theorem runD (text : Array Nat) : ∀ (k s : Nat) (first : Bool) (seen : Sre.Seen), s + k = text.size + 1 → 0 < k → Ends (Found (findD text k s)) (3 * k + 4) (atD text first seen s)
  | 0, s, first, seen, h, h0 => absurd h0 (by (first | lia | omega))
  | k + 1, s, first, seen, h, _ => by
    unfold findD
    by_cases hd : BolAt text s ∧ s < text.size ∧ text.getD s 0 = 46
    · rw [if_pos hd]
      obtain ⟨s1, e1⟩ := stepD_at (first := first) (seen := seen) hd.1
      obtain ⟨s2, e2⟩ := stepD_lit (first := first) (seen := s1) hd.2.1 hd.2.2
      obtain ⟨s3, e3⟩ := stepD_ok (text := text) (first := first) (seen := s2) (s := s)
      refine ((Ends.step e1 (.step e2 (.step e3 (.step stepD_yes (.step stepD_end (n := 0) (.now rfl ⟨rfl, rfl, rfl⟩)))))).mono (by (first | lia | omega)))
    · rw [if_neg hd]
      have nx : ∀ (seen : Sre.Seen) (pc : Nat), Ends (Found (findD text k (s + 1))) (3 * k + 5) (stM codeD text text.size first seen s pc s s first [frS 5 first s] 1 (some false) none) := fun seen pc => by
        by_cases hs : s < text.size
        · exact .step (stepD_next hs) (runD text k (s + 1) false seen (by (first | lia | omega)) (by (first | lia | omega)))
        · have hk : k = 0 := by (first | lia | omega)
          subst hk
          exact Ends.mono (n := 2) (.step (stepD_over hs) (.step stepD_fail (.now rfl rfl))) (by (first | lia | omega))
      by_cases hb : BolAt text s
      · obtain ⟨s1, e1⟩ := stepD_at (first := first) (seen := seen) hb
        obtain ⟨s2, e2⟩ := stepD_lit_no (text := text) (first := first) (seen := s1) (s := s) fun h => hd ⟨hb, h⟩
        exact (Ends.step e1 (.step e2 (nx s2 7))).mono (by (first | lia | omega))
      · obtain ⟨s1, e1⟩ := stepD_at_no (first := first) (seen := seen) hb
        exact (Ends.step e1 (nx s1 5)).mono (by (first | lia | omega))
theorem searchD (text : Array Nat) (s : Nat) (h : s ≤ text.size) : Ends (Found (findD text (text.size + 1 - s) s)) (3 * text.size + 10) (forSearch codeD text 0 s text.size false) := by
  by_cases hs : s = text.size
  · subst hs
    have e : findD text (text.size + 1 - text.size) text.size = none := by
      rw [show text.size + 1 - text.size = 0 + 1 from by (first | lia | omega)]
      unfold findD
      rw [if_neg (fun h => absurd h.2.1 (by (first | lia | omega)))]; rfl
    have e2 : (decide (text.size > text.size) || decide (text.size - text.size < 1)) = true := by simp
    have e3 : forSearch codeD text 0 text.size text.size false = stM codeD text 0 true (({} : Sre.Seen).add 14) text.size 5 text.size text.size true [] 0 (some false) none := by
      show (if (decide (text.size > text.size) || decide (text.size - text.size < 1)) = true then _ else _) = _
      rw [if_pos e2]; rfl
    rw [e, e3]
    exact Ends.mono (n := 1) (.step (m' := stM codeD text 0 true (({} : Sre.Seen).add 14) text.size 5 text.size text.size true [] 0 (some false) (some .failed)) rfl (.now rfl rfl)) (by (first | lia | omega))
  · have e2 : ¬ (decide (s > text.size) || decide (text.size - s < 1)) = true := by simp; (first | lia | omega)
    have e : forSearch codeD text 0 s text.size false = atD text true (({} : Sre.Seen).add 14) s := by
      show (if (decide (s > text.size) || decide (text.size - s < 1)) = true then _ else _) = _
      rw [if_neg e2]; rfl
    rw [e]
    exact (runD text _ s true _ (by (first | lia | omega)) (by (first | lia | omega))).mono (by (first | lia | omega))
end D
noncomputable abbrev codeE : Array Nat := #[14, 9, 4, 1, 2, 16, 10, 16, 13, 0, 7, 7, 16, 13, 16, 10, 15, 18, 5, 16, 10, 15, 13, 11, 16, 13, 5, 5, 0, 16, 10, 1, 15, 2, 0, 1]
noncomputable abbrev frB (c : Nat) (first : Bool) (s : Nat) : Sre.Frame := { wait := .nextBranch, pc := c, pos := s, outermost := first }
noncomputable abbrev frN (first : Bool) (s : Nat) : Sre.Frame := { wait := .lookNot, pc := 26, pos := s, outermost := first }
section E
variable {text : Array Nat} {first : Bool} {s : Nat}
noncomputable abbrev atE (text : Array Nat) (first : Bool) (seen : Sre.Seen) (s : Nat) : M := stM codeE text text.size first seen s 10 s s first [frS 10 first s] 1 none none
/-- a literal that fits | does not fit -/
theorem stepE_lit {fr : List Sre.Frame} {wt : Nat} {om : Bool} {p h : Nat} {seen : Sre.Seen} (pc c : Nat) (hpc : pc < codeE.size) (hc : Sre.ops[codeE.getD pc 0]? = some .LITERAL) (hc1 : codeE.getD (pc + 1) 0 = c) (hs : p < text.size) (e : text.getD p 0 = c) :
    ∃ seen', (stM codeE text text.size first seen s pc p h om fr wt none none).step = stM codeE text text.size first seen' s (pc + 2) (p + 1) h om fr wt none none := by
  apply Exists.intro
  unfold M.step
  rw [if_neg (by show ¬ (false = true); decide)]
  show (if pc < codeE.size then _ else _) = _
  rw [if_pos hpc]
  unfold M.exec
  show (match Sre.ops[codeE.getD pc 0]? with | none => _ | some op => _) = _
  rw [hc]
  show (if p ≥ text.size then _ else (match accepts codeE pc (text.getD p 0) _ with | .error why => _ | .ok (false, seen) => _ | .ok (true, seen) => _ : M)) = _
  rw [if_neg (by (first | lia | omega))]
  unfold accepts
  rw [hc]
  show (match (Except.ok (text.getD p 0 == codeE.getD (pc + 1) 0, _) : Except String (Bool × Sre.Seen)) with | .error why => _ | .ok (false, seen) => _ | .ok (true, seen) => _ : M) = _
  rw [hc1, e, beq_self_eq_true]
  have hw : itemWidth codeE pc = 2 := by unfold itemWidth; rw [hc]
  show stM codeE text text.size first _ s (pc + itemWidth codeE pc) (p + 1) h om fr wt none none = _
  rw [hw]
theorem stepE_lit_no {fr : List Sre.Frame} {wt : Nat} {om : Bool} {p h : Nat} {seen : Sre.Seen} (pc c : Nat) (hpc : pc < codeE.size) (hc : Sre.ops[codeE.getD pc 0]? = some .LITERAL) (hc1 : codeE.getD (pc + 1) 0 = c) (e : ¬ (p < text.size ∧ text.getD p 0 = c)) :
    ∃ seen', (stM codeE text text.size first seen s pc p h om fr wt none none).step = stM codeE text text.size first seen' s pc p h om fr wt (some false) none := by
  by_cases hs : p ≥ text.size
  · apply Exists.intro
    unfold M.step
    rw [if_neg (by show ¬ (false = true); decide)]
    show (if pc < codeE.size then _ else _) = _
    rw [if_pos hpc]
    unfold M.exec
    show (match Sre.ops[codeE.getD pc 0]? with | none => _ | some op => _) = _
    rw [hc]
    show (if p ≥ text.size then _ else _) = _
    rw [if_pos hs]
    rfl
  · apply Exists.intro
    unfold M.step
    rw [if_neg (by show ¬ (false = true); decide)]
    show (if pc < codeE.size then _ else _) = _
    rw [if_pos hpc]
    unfold M.exec
    show (match Sre.ops[codeE.getD pc 0]? with | none => _ | some op => _) = _
    rw [hc]
    show (if p ≥ text.size then _ else (match accepts codeE pc (text.getD p 0) _ with | .error why => _ | .ok (false, seen) => _ | .ok (true, seen) => _ : M)) = _
    rw [if_neg hs]
    unfold accepts
    rw [hc]
    show (match (Except.ok (text.getD p 0 == codeE.getD (pc + 1) 0, _) : Except String (Bool × Sre.Seen)) with | .error why => _ | .ok (false, seen) => _ | .ok (true, seen) => _ : M) = _
    have : (text.getD p 0 == codeE.getD (pc + 1) 0) = false := by
      rw [beq_eq_false_iff_ne, hc1]; intro e'; exact e ⟨by (first | lia | omega), e'⟩
    rw [this]
    rfl
theorem stepE_branch {seen : Sre.Seen} : ∃ seen', (atE text first seen s).step = stM codeE text text.size first seen' s 12 s s first [frB 11 first s, frS 10 first s] 2 none none := ⟨_, rfl⟩
theorem stepE_alt2 {seen : Sre.Seen} {pc p h : Nat} {om : Bool} : (stM codeE text text.size first seen s pc p h om [frB 11 first s, frS 10 first s] 2 (some false) none).step = stM codeE text text.size first seen s 19 s s first [frB 18 first s, frS 10 first s] 2 none none := rfl
theorem stepE_alt3 {seen : Sre.Seen} {pc p h : Nat} {om : Bool} : (stM codeE text text.size first seen s pc p h om [frB 18 first s, frS 10 first s] 2 (some false) none).step = stM codeE text text.size first seen s 24 s s first [frB 23 first s, frS 10 first s] 2 none none := rfl
theorem stepE_jump1 {seen : Sre.Seen} {p h : Nat} {om : Bool} {fr : List Sre.Frame} {wt : Nat} : ∃ seen', (stM codeE text text.size first seen s 16 p h om fr wt none none).step = stM codeE text text.size first seen' s 35 p h om fr wt none none := ⟨_, rfl⟩
theorem stepE_jump2 {seen : Sre.Seen} {p h : Nat} {om : Bool} {fr : List Sre.Frame} {wt : Nat} : ∃ seen', (stM codeE text text.size first seen s 21 p h om fr wt none none).step = stM codeE text text.size first seen' s 35 p h om fr wt none none := ⟨_, rfl⟩
theorem stepE_jump3 {seen : Sre.Seen} {p h : Nat} {om : Bool} {fr : List Sre.Frame} {wt : Nat} : ∃ seen', (stM codeE text text.size first seen s 32 p h om fr wt none none).step = stM codeE text text.size first seen' s 35 p h om fr wt none none := ⟨_, rfl⟩
theorem stepE_not {seen : Sre.Seen} {p h : Nat} : ∃ seen', (stM codeE text text.size first seen s 26 p h first [frB 23 first s, frS 10 first s] 2 none none).step = stM codeE text text.size first seen' s 29 p p false [frN first p, frB 23 first s, frS 10 first s] 3 none none := ⟨_, rfl⟩
theorem stepE_notno {seen : Sre.Seen} {pc q p h : Nat} {om : Bool} : (stM codeE text text.size first seen s pc q h om [frN first p, frB 23 first s, frS 10 first s] 3 (some false) none).step = stM codeE text text.size first seen s 32 p h first [frB 23 first s, frS 10 first s] 2 none none := rfl
theorem stepE_ok {seen : Sre.Seen} {p h : Nat} {b : Nat} : ∃ seen', (stM codeE text text.size first seen s 35 p h first [frB b first s, frS 10 first s] 2 none none).step = stM codeE text text.size first seen' s 35 p p first [frB b first s, frS 10 first s] 2 (some true) none := by
  apply Exists.intro
  show (if (first && ((false && (p != text.size)) || (false && (p == s)))) = true then _ else _) = _
  rw [if_neg (by simp)]
  rfl
theorem stepE_yes {seen : Sre.Seen} {p h b : Nat} : (stM codeE text text.size first seen s 35 p h first [frB b first s, frS 10 first s] 2 (some true) none).step = stM codeE text text.size first seen s b s h first [frS 10 first s] 1 (some true) none := rfl
theorem stepE_yes2 {seen : Sre.Seen} {h b : Nat} : (stM codeE text text.size first seen s b s h first [frS 10 first s] 1 (some true) none).step = stM codeE text text.size first seen s 10 s h first [] 0 (some true) none := rfl
theorem stepE_end {seen : Sre.Seen} {h : Nat} : (stM codeE text text.size first seen s 10 s h first [] 0 (some true) none).step = stM codeE text text.size first seen s 10 s h first [] 0 (some true) (some .matched) := rfl
theorem finE {seen : Sre.Seen} {p h b : Nat} : Ends (Found (some (s, p))) 4 (stM codeE text text.size first seen s 35 p h first [frB b first s, frS 10 first s] 2 none none) := by
  obtain ⟨s1, e1⟩ := stepE_ok (text := text) (first := first) (s := s) (seen := seen) (p := p) (h := h) (b := b)
  exact .step e1 (.step stepE_yes (.step stepE_yes2 (.step stepE_end (.now rfl ⟨rfl, rfl, rfl⟩))))
/-- the end of the row's end that begins at s -/
noncomputable def endE (text : Array Nat) (s : Nat) : Nat := if text.getD s 0 = 13 ∧ s + 1 < text.size ∧ text.getD (s + 1) 0 = 10 then s + 2 else s + 1
theorem runE {seen : Sre.Seen} (hs : s < text.size) (h : text.getD s 0 = 10 ∨ text.getD s 0 = 13) : Ends (Found (some (s, endE text s))) 20 (atE text first seen s) := by
  obtain ⟨s1, e1⟩ := stepE_branch (text := text) (first := first) (seen := seen) (s := s)
  by_cases hc : text.getD s 0 = 13
  · obtain ⟨s2, e2⟩ := stepE_lit (text := text) (first := first) (seen := s1) (s := s) (p := s) (h := s) (om := first) (fr := [frB 11 first s, frS 10 first s]) (wt := 2) 12 13 (by decide) rfl rfl hs hc
    by_cases hn : s + 1 < text.size ∧ text.getD (s + 1) 0 = 10
    · obtain ⟨s3, e3⟩ := stepE_lit (text := text) (first := first) (seen := s2) (s := s) (p := s + 1) (h := s) (om := first) (fr := [frB 11 first s, frS 10 first s]) (wt := 2) 14 10 (by decide) rfl rfl hn.1 hn.2
      obtain ⟨s4, e4⟩ := stepE_jump1 (text := text) (first := first) (seen := s3) (s := s) (p := s + 2) (h := s) (om := first) (fr := [frB 11 first s, frS 10 first s]) (wt := 2)
      have : endE text s = s + 2 := if_pos ⟨hc, hn⟩
      rw [this]
      exact Ends.mono (.step e1 (.step e2 (.step e3 (.step e4 finE)))) (by (first | lia | omega))
    · obtain ⟨s3, e3⟩ := stepE_lit_no (text := text) (first := first) (seen := s2) (s := s) (p := s + 1) (h := s) (om := first) (fr := [frB 11 first s, frS 10 first s]) (wt := 2) 14 10 (by decide) rfl rfl hn
      obtain ⟨s4, e4⟩ := stepE_lit_no (text := text) (first := first) (seen := s3) (s := s) (p := s) (h := s) (om := first) (fr := [frB 18 first s, frS 10 first s]) (wt := 2) 19 10 (by decide) rfl rfl (fun h => by rw [hc] at h; exact absurd h.2 (by decide))
      obtain ⟨s5, e5⟩ := stepE_lit (text := text) (first := first) (seen := s4) (s := s) (p := s) (h := s) (om := first) (fr := [frB 23 first s, frS 10 first s]) (wt := 2) 24 13 (by decide) rfl rfl hs hc
      obtain ⟨s6, e6⟩ := stepE_not (text := text) (first := first) (seen := s5) (s := s) (p := s + 1) (h := s)
      obtain ⟨s7, e7⟩ := stepE_lit_no (text := text) (first := first) (seen := s6) (s := s) (p := s + 1) (h := s + 1) (om := false) (fr := [frN first (s + 1), frB 23 first s, frS 10 first s]) (wt := 3) 29 10 (by decide) rfl rfl hn
      obtain ⟨s8, e8⟩ := stepE_jump3 (text := text) (first := first) (seen := s7) (s := s) (p := s + 1) (h := s + 1) (om := first) (fr := [frB 23 first s, frS 10 first s]) (wt := 2)
      have : endE text s = s + 1 := if_neg fun h => hn h.2
      rw [this]
      exact Ends.mono (.step e1 (.step e2 (.step e3 (.step stepE_alt2 (.step e4 (.step stepE_alt3 (.step e5 (.step e6 (.step e7 (.step stepE_notno (.step e8 finE))))))))))) (by (first | lia | omega))
  · have hc' : text.getD s 0 = 10 := h.resolve_right hc
    obtain ⟨s2, e2⟩ := stepE_lit_no (text := text) (first := first) (seen := s1) (s := s) (p := s) (h := s) (om := first) (fr := [frB 11 first s, frS 10 first s]) (wt := 2) 12 13 (by decide) rfl rfl (fun h => hc h.2)
    obtain ⟨s3, e3⟩ := stepE_lit (text := text) (first := first) (seen := s2) (s := s) (p := s) (h := s) (om := first) (fr := [frB 18 first s, frS 10 first s]) (wt := 2) 19 10 (by decide) rfl rfl hs hc'
    obtain ⟨s4, e4⟩ := stepE_jump2 (text := text) (first := first) (seen := s3) (s := s) (p := s + 1) (h := s) (om := first) (fr := [frB 18 first s, frS 10 first s]) (wt := 2)
    have : endE text s = s + 1 := if_neg fun h => hc h.1
    rw [this]
    exact Ends.mono (.step e1 (.step e2 (.step stepE_alt2 (.step e3 (.step e4 finE))))) (by (first | lia | omega))
/-- the first row's end from s on -/
noncomputable def findE (text : Array Nat) : Nat → Nat → Option (Nat × Nat)
  | 0, _ => none
  | k + 1, s => if s < text.size then (if text.getD s 0 = 10 ∨ text.getD s 0 = 13 then some (s, endE text s) else findE text k (s + 1)) else none
theorem inSetE (c : Nat) (seen : Sre.Seen) : ∃ seen', inSet codeE c codeE.size 5 true seen = .ok (decide (c = 10 ∨ c = 13), seen') := by
  by_cases h1 : c = 10
  · subst h1; exact ⟨_, rfl⟩
  · by_cases h2 : c = 13
    · subst h2; exact ⟨_, rfl⟩
    · have e1 : (c == 10) = false := by simpa using h1
      have e2 : (c == 13) = false := by simpa using h2
      rw [decide_eq_false (by (first | lia | omega))]
      apply Exists.intro
      show (if (c == 10) = true then _ else (if (c == 13) = true then _ else _)) = _
      rw [e1, if_neg (by decide), e2, if_neg (by decide)]
      rfl
theorem admittedE (m : M) (hm : m.code = codeE) (ht : m.text = text) (hl : m.lim = text.size) : ∀ (k s : Nat) (seen : Sre.Seen), ∃ seen', M.admitted m k s seen = .ok ((findE text k s).map (·.1), seen')
  | 0, s, seen => ⟨seen, rfl⟩
  | k + 1, s, seen => by
    unfold M.admitted findE
    rw [hl, hm, ht]
    by_cases hs : s < text.size
    · rw [if_neg (by (first | lia | omega)), if_pos hs]
      obtain ⟨s1, e1⟩ := inSetE (text.getD s 0) seen
      rw [e1]
      by_cases hc : text.getD s 0 = 10 ∨ text.getD s 0 = 13
      · rw [if_pos hc, decide_eq_true hc]; exact ⟨s1, rfl⟩
      · rw [if_neg hc, decide_eq_false hc]
        exact admittedE m hm ht hl k (s + 1) s1
    · rw [if_pos (by (first | lia | omega)), if_neg hs]; exact ⟨seen, rfl⟩
theorem findE_some {text : Array Nat} : ∀ {k s b e : Nat}, findE text k s = some (b, e) → s ≤ b ∧ b < text.size ∧ (text.getD b 0 = 10 ∨ text.getD b 0 = 13) ∧ e = endE text b
  | 0, s, b, e, h => by simp [findE] at h
  | k + 1, s, b, e, h => by
    unfold findE at h
    by_cases hs : s < text.size
    · rw [if_pos hs] at h
      by_cases hc : text.getD s 0 = 10 ∨ text.getD s 0 = 13
      · rw [if_pos hc] at h
        injection h with h; injection h with h1 h2
        subst h1
        exact ⟨Nat.le_refl _, hs, hc, h2.symm⟩
      · rw [if_neg hc] at h
        have := findE_some h
        exact ⟨by (first | lia | omega), this.2⟩
    · rw [if_neg hs] at h; cases h
theorem searchE (text : Array Nat) (s : Nat) (h : s ≤ text.size) : Ends (Found (findE text (text.size + 1 - s) s)) (3 * text.size + 30) (forSearch codeE text 0 s text.size false) := by
  by_cases hs : s = text.size
  · subst hs
    have e : findE text (text.size + 1 - text.size) text.size = none := by
      rw [show text.size + 1 - text.size = 0 + 1 from by (first | lia | omega)]
      unfold findE
      rw [if_neg (by (first | lia | omega))]
    have e2 : (decide (text.size > text.size) || decide (text.size - text.size < 1)) = true := by simp
    have e3 : forSearch codeE text 0 text.size text.size false = stM codeE text 0 true (({} : Sre.Seen).add 14) text.size 10 text.size text.size true [] 0 (some false) none := by
      show (if (decide (text.size > text.size) || decide (text.size - text.size < 1)) = true then _ else _) = _
      rw [if_pos e2]; rfl
    rw [e, e3]
    exact Ends.mono (n := 1) (.step (m' := stM codeE text 0 true (({} : Sre.Seen).add 14) text.size 10 text.size text.size true [] 0 (some false) (some .failed)) rfl (.now rfl rfl)) (by (first | lia | omega))
  · have e2 : ¬ (decide (s > text.size) || decide (text.size - s < 1)) = true := by simp; (first | lia | omega)
    have e : forSearch codeE text 0 s text.size false = M.attemptFrom (stM codeE text text.size true (({} : Sre.Seen).add 14) s 10 s s true [] 0 none none) s true := by
      show (if (decide (s > text.size) || decide (text.size - s < 1)) = true then _ else _) = _
      rw [if_neg e2]; rfl
    rw [e]
    unfold M.attemptFrom
    rw [if_neg (by show ¬ (false = true); decide)]
    obtain ⟨s1, e1⟩ := admittedE (text := text) (stM codeE text text.size true (({} : Sre.Seen).add 14) s 10 s s true [] 0 none none) rfl rfl rfl (text.size + 1 - s) s (({} : Sre.Seen).add 14)
    have e1' : M.admitted (stM codeE text text.size true (({} : Sre.Seen).add 14) s 10 s s true [] 0 none none) ((stM codeE text text.size true (({} : Sre.Seen).add 14) s 10 s s true [] 0 none none).lim + 1 - s) s (stM codeE text text.size true (({} : Sre.Seen).add 14) s 10 s s true [] 0 none none).seen = _ := e1
    rw [e1']
    cases hf : findE text (text.size + 1 - s) s with
    | none => exact Ends.mono (n := 1) (.step (m' := stM codeE text text.size true s1 s 10 s s true [] 0 (some false) (some .failed)) rfl (.now rfl rfl)) (by (first | lia | omega))
    | some be =>
      obtain ⟨b, e⟩ := be
      obtain ⟨h1, h2, h3, h4⟩ := findE_some hf
      rw [h4]
      exact Ends.mono (runE (text := text) (first := true) (seen := s1) h2 h3) (by (first | lia | omega))
end E
end Mine
end
section
open PySem.Builtin PySem.Builtin.Re
set_option maxRecDepth 100000
namespace Mine
section
variable {Md : Model} {A : Around} {E : Value → Shared → Prop} {s : Shared}
theorem wp_drive {P : Sre.M → Prop} {Q : Sre.M → Shared → Prop} : ∀ (turns n : Nat) (m : Sre.M), Ends P n m → n < 4 * turns → (∀ m', m'.outcome.isSome = true → P m' → Q m' s) → wpAny Md A (reDrive turns m) Q E s
  | 0, n, m, h, hn, k => absurd hn (by (first | lia | omega))
  | t + 1, n, m, h, hn, k => by
    obtain ⟨j, hj, h1, h2⟩ := h
    unfold reDrive
    show wpAny Md A (if (m.runFor 4).outcome.isSome = true then pure (m.runFor 4) else (rule "sre.turn" >>= fun _ => reDrive t (m.runFor 4))) Q E s
    by_cases ho : (m.runFor 4).outcome.isSome = true
    · rw [if_pos ho]
      refine wpAny_pure (k _ ho ?_)
      by_cases hj4 : j ≤ 4
      · have e : Sre.M.runFor 4 m = Sre.M.runFor j m := by
          rw [show (4 : Nat) = j + (4 - j) from by (first | lia | omega), runFor_add, runFor_done _ h1]
        rw [e]; exact h2
      · have e : Sre.M.runFor j m = Sre.M.runFor 4 m := by
          rw [show j = 4 + (j - 4) from by (first | lia | omega), runFor_add, runFor_done _ ho]
        rw [← e]; exact h2
    · rw [if_neg ho]
      refine wpAny_bind (wpAny_rule ?_)
      have hj4 : ¬ j ≤ 4 := fun hj4 => ho (by
        have e : Sre.M.runFor 4 m = Sre.M.runFor j m := by
          rw [show (4 : Nat) = j + (4 - j) from by (first | lia | omega), runFor_add, runFor_done _ h1]
        rw [e]; exact h1)
      have e : Sre.M.runFor j m = Sre.M.runFor (j - 4) (Sre.M.runFor 4 m) := by
        rw [← runFor_add]; congr 1; (first | lia | omega)
      exact wp_drive t (n - 4) _ ⟨j - 4, by (first | lia | omega), by rw [← e]; exact h1, by rw [← e]; exact h2⟩ (by (first | lia | omega)) k
/-- what a search hands on -/
noncomputable def FoundQ (r : Option (Nat × Nat)) (Q : Option Sre.M → Shared → Prop) (s : Shared) : Prop := match r with
  | some (b, e) => ∀ m' : Sre.M, m'.start = b → m'.handed = e → Q (some m') s
  | none => Q none s
theorem wp_runToEnd {r : Option (Nat × Nat)} {n : Nat} {m : Sre.M} {Q : Option Sre.M → Shared → Prop} (h : Ends (Found r) n m) (hn : n < 4 * 2 ^ 64) (hQ : FoundQ r Q s) : wpAny Md A (reRunToEnd m) Q E s := by
  unfold reRunToEnd
  refine wpAny_bind (wp_drive _ n m h hn fun m' ho hf => ?_)
  refine wpAny_bind (wpAny_forIn_list _ (fun _ _ s' => s' = s) _ ?_ ?_ _ _ rfl)
  · rintro x rest b s' rfl
    refine wpAny_ite ?_
    split
    · exact wpAny_bind (wpAny_rule (wpAny_pure rfl))
    · exact wpAny_pure rfl
  · rintro b s' rfl
    cases r with
    | none =>
      have e : m'.outcome = some .failed := hf
      rw [e]
      exact wpAny_pure hQ
    | some be =>
      obtain ⟨b, e⟩ := be
      obtain ⟨h1, h2, h3⟩ : m'.outcome = some .matched ∧ m'.start = b ∧ m'.handed = e := hf
      rw [h1]
      exact wpAny_pure (hQ m' h2 h3)
end
/-- a pattern object -/
noncomputable def PatAt (h : Heap) (P : Addr) (kind : Nat) (code : Array Nat) : Prop :=
  ∃ (o : Obj) (C : Addr) (oc : Obj) (cv : Array Value) (k : Nat) (fs : Array Value), h.get? P = some o ∧ o.data = .fields fs ∧ reRawNat (fs.getD 6 .none) = kind ∧ reRawNat (fs.getD 2 .none) = 0 ∧ fs.getD 5 .none = .ref C ∧
    h.get? C = some oc ∧ oc.data = .seq cv k ∧ (cv.map reRawOf).map (·.toNat) = code
theorem PatAt.keeps {h h' : Heap} {P : Addr} {kind : Nat} {code : Array Nat} (x : PatAt h P kind code) (k : ∀ b o, h.get? b = some o → h'.get? b = some o) : PatAt h' P kind code := by
  obtain ⟨o, C, oc, cv, n, fs, h1, h2, h3, h4, h5, h6, h7, h8⟩ := x
  exact ⟨o, C, oc, cv, n, fs, k _ _ h1, h2, h3, h4, h5, k _ _ h6, h7, h8⟩
/-- a str's or bytes' signs -/
noncomputable def ValIs (kind : Nat) (v : Value) (c : List Nat) : Prop := (kind = 0 ∧ ∃ t, v = .str ⟨c.toArray⟩ t) ∨ (kind = 1 ∧ ∃ b t, v = .bytes b t ∧ b.toList.map (·.toNat) = c)
section
variable {Md : Model} {A : Around} {E : Value → Shared → Prop} {s : Shared}
theorem wp_target {P : Addr} {kind : Nat} {code : Array Nat} {v : Value} {c : List Nat} {Q : ReTarget → Shared → Prop} (hP : PatAt s.heap P kind code) (hv : ValIs kind v c)
    (hQ : Q { pattern := .ref P, string := v, code, text := c.toArray, kind, groups := 0, pos := 0, lim := c.length } s) : wpAny Md A (reWholeTarget (.ref P) v) Q E s := by
  obtain ⟨o, C, oc, cv, k, fs, h1, h2, h3, h4, h5, h6, h7, h8⟩ := hP
  unfold reWholeTarget
  refine wpAny_bind (wpAny_fieldsOf h1 h2 ?_)
  have tx : ∀ {Q : Array Nat × Nat → Shared → Prop}, Q (c.toArray, kind) s → wpAny Md A (reTextOf v) Q E s := by
    intro Q hq
    rcases hv with ⟨rfl, t, rfl⟩ | ⟨rfl, b, t, rfl, hb⟩
    · exact wpAny_of_eq rfl hq
    · unfold reTextOf
      refine wpAny_bind (wpAny_of_eq (a := none) rfl ?_)
      refine wpAny_bind (wpAny_of_eq KBy.quiet_eq ?_)
      refine wpAny_pure ?_
      have : b.map (·.toNat) = c.toArray := by
        rw [← hb]; apply Array.ext'; simp
      rw [this]; exact hq
  refine wpAny_bind (tx ?_)
  have col : ∀ {Q : PUnit → Shared → Prop}, Q ⟨⟩ s → wpAny Md A (reNoCollectionInside v kind) Q E s := by
    intro Q hq
    rcases hv with ⟨rfl, t, rfl⟩ | ⟨rfl, b, t, rfl, hb⟩
    · exact wpAny_of_eq rfl hq
    · unfold reNoCollectionInside
      simp only [beq_self_eq_true, if_true]
      refine wpAny_bind (wpAny_of_eq KBy.isInstance_eq ?_)
      exact wpAny_of_eq rfl hq
  have hk : kind = 0 ∨ kind = 1 := by
    rcases hv with ⟨h, _⟩ | ⟨h, _⟩
    · exact .inl h
    · exact .inr h
  have e1 : (reRawNat (fs.getD 6 .none) == 0 && kind == 1) = false := by rw [h3]; rcases hk with rfl | rfl <;> rfl
  have e2 : (reRawNat (fs.getD 6 .none) == 1 && kind == 0) = false := by rw [h3]; rcases hk with rfl | rfl <;> rfl
  dsimp only
  rw [if_neg (by rw [e1]; decide), if_neg (by rw [e2]; decide)]
  refine wpAny_bind (col ?_)
  unfold reRawItems
  rw [h5]
  refine wpAny_bind ?_
  refine wpAny_bind ?_
  refine wpAny_bind (wpAny_load h6 ?_)
  rw [h7]
  refine wpAny_pure ?_
  refine wpAny_pure ?_
  refine wpAny_pure ?_
  have e3 : Array.map (fun x => x.toNat) (Array.map reRawOf cv) = code := h8
  simp only [Option.getD_some, e3, h4, List.size_toArray]
  exact hQ
theorem wp_slice {kind : Nat} {v : Value} {c : List Nat} {b e : Nat} {Q : Value → Shared → Prop} (hv : ValIs kind v c) (hsz : c.length ≤ 1000000)
    (hQ : ∀ v' tk, ValIs kind v' ((c.take e).drop b) → Q v' { s with toks := tk }) : wpAny Md A (reSlice c.toArray kind b e) Q E s := by
  have ex : c.toArray.extract b e = ((c.take e).drop b).toArray := by simp [List.drop_take]
  have hl : ((c.take e).drop b).length ≤ 1000000 := by rw [List.length_drop, List.length_take]; (first | lia | omega)
  unfold reSlice
  rcases hv with ⟨rfl, t, rfl⟩ | ⟨rfl, bs, t, rfl, hb⟩
  · simp only [beq_self_eq_true, if_true]
    rw [ex]
    refine wpAny_mkStr (hQ _ _ (.inl ⟨rfl, _, rfl⟩)) ?_
    show Array.size _ ≤ _
    rw [sizeLine_eq, List.size_toArray]; (first | lia | omega)
  · rw [if_neg (show ¬ (1 == 0) = true by decide), ex]
    refine wpAny_mkBytes (hQ _ _ (.inr ⟨rfl, _, _, rfl, ?_⟩)) ?_
    · rw [← hb]
      have : ((fun x => x.toNat) ∘ (fun x => UInt8.ofNat x) ∘ fun x => x.toNat : UInt8 → Nat) = fun x => x.toNat := by funext x; simp
      simp [this]
    · rw [sizeLine_eq]; simp; (first | lia | omega)
end
end Mine
end
section
open PySem.Builtin PySem.Builtin.Re
set_option maxRecDepth 100000
namespace Mine
theorem slot_bjoin : Slot "bytes" "join" "bytes.join" :=
  .of (owner := "bytes") (n := "join") (by rw [typeLookup_type, builtinLookup_eq_fast]; kernel_rfl) (by decide +kernel) (by decide +kernel) (by decide +kernel)
    (by first | exact .inl (by decide +kernel) | exact .inr (by decide +kernel)) (by rw [isSubtype_type]; kernel_rfl)
theorem entry_bjoin : entryFor table "bytes.join" = some Builtin.«bytes.join» := entryFor_of_tree (by kernel_rfl)
theorem args_bjoin (a b : Value) : argsOk "bytes.join" ⟨[a, b], []⟩ := by unfold argsOk; kernel_rfl
noncomputable def bvals (l : List (Array UInt8 × Tok)) : List Value := l.map fun p => .bytes p.1 p.2
noncomputable def bcat (l : List (Array UInt8 × Tok)) : Array UInt8 := (l.map fun p => p.1.toList).flatten.toArray
theorem take_eq {id : String} {b : Array UInt8} {t : Tok} : Bytes.takeBuffer? id (.bytes b t) 0 = pure (some (b, none)) := by
  unfold Bytes.takeBuffer?
  have e : ((0 : Int) == Bytes.fullReadOnly) = false := by decide +kernel
  rw [KBy.special_eq KBy.look_buffer, KBy.own_buffer, e, KBy.buffer_eq]
  kernel_rfl
theorem takeQ_eq {id : String} {b : Array UInt8} {t : Tok} : Bytes.takeBufferQuiet? id (.bytes b t) 0 = pure (some (b, none)) := by
  unfold Bytes.takeBufferQuiet?
  rw [take_eq]
  rfl
theorem bfold_size : ∀ (l : List (Array UInt8)) (k : Nat), l.foldl (fun x1 x2 => x1 + x2.size) k = k + (l.map fun p => p.toList).flatten.length
  | [], k => rfl
  | a :: r, k => by
    rw [List.foldl_cons, bfold_size r]
    simp only [List.map_cons, List.flatten_cons, List.length_append, Array.length_toList]
    (first | lia | omega)
theorem joined_nil (parts : List (Array UInt8)) : Bytes.joined #[] parts = (parts.map fun p => p.toList).flatten.toArray := by
  have key : ∀ (l : List (Array UInt8)) (i : Nat) (acc : Array UInt8), (l.zipIdx i).foldl (fun out (p : Array UInt8 × Nat) => (if p.2 > 0 then out ++ #[] else out) ++ p.1) acc = acc ++ (l.map fun p => p.toList).flatten.toArray := by
    intro l
    induction l with
    | nil => intro i acc; simp
    | cons a r ih =>
      intro i acc
      rw [List.zipIdx_cons, List.foldl_cons, ih]
      apply Array.ext'
      by_cases hi : i > 0 <;> simp [hi]
  have := key parts 0 #[]
  unfold Bytes.joined
  rw [show (#[] : Array UInt8) ++ (parts.map fun p => p.toList).flatten.toArray = (parts.map fun p => p.toList).flatten.toArray from by simp] at this
  exact this
section
variable {Md : Model} {A : Around} {E : Value → Shared → Prop} {s : Shared}
theorem wp_joinLetGo : ∀ (taken : List (Value × Option Value)) (keep : List Value) {Q : Unit → Shared → Prop}, (∀ p ∈ taken, p.2 = none) → Q () s → wpAny Md A (Bytes.joinLetGo taken keep) Q E s
  | [], keep, Q, _, hq => wpAny_pure hq
  | (x, w) :: r, keep, Q, hn, hq => by
    have hw : w = none := hn (x, w) (.head _)
    subst hw
    unfold Bytes.joinLetGo
    dsimp only
    refine wpAny_bind (wpAny_letGo ?_)
    exact wp_joinLetGo r keep (fun p hp => hn p (.tail _ hp)) hq
end
theorem match_one {R : Sort u} (l : List Value) (f : Value → R) (g : Array Value → R) (h : l.length ≠ 1) : (Bytes.joinM.match_1 (fun _ => R) l.toArray f g) = g l.toArray := by
  match l, h with
  | [], _ => rfl
  | [a], h => exact absurd rfl h
  | a :: b :: r, _ => rfl
theorem meets_bjoin (t : Tok) (D : Addr) (l : List (Array UInt8 × Tok)) : Meets (Builtin.«bytes.join» ⟨[.bytes #[] t, .ref D], []⟩)
    (fun _ R s => s.heap.IsList D (bvals l).toArray ∧ (bcat l).size ≤ 1000000 ∧ ∀ t' k, R (.ok (.ret (.bytes (bcat l) t'))) { s with toks := k }) := by
  with_reducible refine .of_wp fun prog w A R s hS => ?_
  obtain ⟨hL, hsz, h⟩ := hS
  obtain ⟨o, ho, hc, n, hd⟩ := hL
  have it : ∀ {Q : Option (Array Value) → Shared → Prop} {E : Value → Shared → Prop}, Q (some (bvals l).toArray) s → wpAny (model prog w) A.in1 (seqItems? (.ref D)) Q E s := fun hq => by
    unfold seqItems?
    refine wpAny_bind (wpAny_load ho ?_)
    rw [hd]
    exact wpAny_pure hq
  have hT : s.TypeIs (.ref D) "list" := ⟨o, ho, hc⟩
  show wpAny _ _ (Bytes.joinM .bytes _) _ _ s
  unfold Bytes.joinM
  refine wpAny_bind (wpAny_of_eq (a := (.bytes #[] t, .ref D)) rfl ?_)
  have ek : (Bytes.Kind.bytes == Bytes.Kind.bytes) = true := by decide
  have items : ∀ {Q : Value → Shared → Prop} {E : Value → Shared → Prop}, Q (.ref D) s → wpAny (model prog w) A.in1 (Bytes.joinItems (.ref D)) Q E s := fun hq => by
    unfold Bytes.joinItems
    refine wpAny_bind (wpAny_typeOf hT ?_)
    simp only [beq_self_eq_true, Bool.true_or, if_true]
    exact wpAny_pure hq
  refine wpAny_bind (items ?_)
  refine wpAny_bind (it ?_)
  show wpAny _ _ (if (Bytes.Kind.bytes == Bytes.Kind.bytes) = true then _ else _) _ _ _
  rw [if_pos ek]
  by_cases h1 : l.length = 1
  · obtain ⟨p, rfl⟩ : ∃ p, l = [p] := by
      match l, h1 with
      | [p], _ => exact ⟨p, rfl⟩
    show wpAny _ _ (typeOf (.bytes p.1 p.2) >>= fun _ => _) _ _ _
    refine wpAny_bind (wpAny_typeOf (typeIs_bytes s _ _) ?_)
    simp only [beq_self_eq_true, if_true]
    refine wpAny_bind (wpAny_rule ?_)
    refine wpAny_pure ⟨_, rfl, ?_⟩
    have := h p.2 s.toks
    rw [show bcat [p] = p.1 from by simp [bcat]] at this
    exact this
  · rw [match_one _ _ _ (by unfold bvals; rw [List.length_map]; exact h1)]
    simp only [Std.Legacy.Range.forIn_eq_forIn_range', Std.Legacy.Range.size, Nat.sub_zero, Nat.add_sub_cancel, Nat.div_one]
    refine wpAny_bind (wpAny_forIn_list _ (fun rest b s' => s' = s ∧ ∃ l1 l2, l = l1 ++ l2 ∧ rest = List.range' l1.length l2.length ∧ b = ((l1.map (·.1)).toArray, (bvals l1).map fun v => (v, none))) _ ?_ ?_ _ _ ⟨rfl, [], l, rfl, ?_, rfl⟩)
    · rintro x rest b s' ⟨rfl, l1, l2, rfl, hr, rfl⟩
      cases l2 with
      | nil => simp [List.range'] at hr
      | cons p r2 =>
        rw [List.length_cons, List.range'_succ] at hr
        injection hr with hx hr
        subst hx
        subst hr
        refine wpAny_bind (it ?_)
        dsimp only
        have eg : (bvals (l1 ++ p :: r2)).toArray.getD l1.length Value.none = .bytes p.1 p.2 := by
          simp [bvals, List.getD_eq_getElem?_getD]
        rw [eg]
        have eh : (Bytes.Kind.bytes == Bytes.Kind.bytearray || (List.map (fun v => (v, (none : Option Value))) (bvals l1)).any fun x => x.1.onHeap) = false := by
          have h1 : (Bytes.Kind.bytes == Bytes.Kind.bytearray) = false := by decide
          rw [h1, Bool.false_or]
          simp only [bvals, List.map_map, List.any_map, List.any_eq_false]
          intro q _
          simp [Function.comp, Value.onHeap]
        rw [if_neg (by rw [eh]; exact Bool.false_ne_true)]
        refine wpAny_bind (wpAny_holding (wpAny_of_eq takeQ_eq ?_))
        refine wpAny_bind (it ?_)
        dsimp only
        rw [if_neg (by simp)]
        refine wpAny_pure ⟨rfl, l1 ++ [p], r2, by simp, by simp, ?_⟩
        simp [bvals]
    · rintro b s' ⟨rfl, l1, l2, rfl, hr, rfl⟩
      have : l2 = [] := by
        cases l2 with
        | nil => rfl
        | cons a r => simp [List.range'] at hr
      subst this
      rw [List.append_nil] at *
      dsimp only
      refine wpAny_bind (wpAny_of_eq (a := #[]) rfl ?_)
      have ej : Bytes.joined #[] (List.map (fun x => x.1) l1).toArray.toList = bcat l1 := by
        rw [joined_nil]; simp [bcat, Function.comp_def]
      have ef : Bytes.tooLong (Array.foldl (fun x1 x2 => x1 + x2.size) ((#[] : Array UInt8).size * ((List.map (fun x => x.1) l1).toArray.size - 1)) (List.map (fun x => x.1) l1).toArray) = false := by
        rw [List.foldl_toArray, bfold_size]
        have e2 : (List.map (fun p => p.toList) (List.map (fun x => x.1) l1)).flatten.length = (bcat l1).size := by simp [bcat, Function.comp_def]
        rw [e2]
        refine KBy.tooLong_not ?_
        simp; (first | lia | omega)
      rw [if_neg (by rw [ef]; exact Bool.false_ne_true)]
      rw [ej]
      show wpAny _ _ (mkBytes (bcat l1) >>= fun _ => _) _ _ _
      refine wpAny_bind (wpAny_mkBytes ?_ (by rw [sizeLine_eq]; (first | lia | omega)))
      refine wpAny_bind (wpAny_holding (wpAny_point ?_))
      refine wpAny_bind (wp_joinLetGo _ _ ?_ ?_)
      · intro p hp
        obtain ⟨v, _, rfl⟩ := List.mem_map.mp hp
        rfl
      · exact wpAny_pure ⟨_, rfl, h _ _⟩
    · simp [bvals]
theorem call_bjoin {prog : Program} {w : World} {A : Around} {E : Value → Shared → Prop} {s : Shared} {t : Tok} {D : Addr} {l : List (Array UInt8 × Tok)} {Q : Value → Shared → Prop} (hL : s.heap.IsList D (bvals l).toArray) (hsz : (bcat l).size ≤ 1000000)
    (h : ∀ t' k, Q (.bytes (bcat l) t') { s with toks := k }) : wpAny (model prog w) A (call (.builtin "bytes.join") [.bytes #[] t, .ref D]) Q E s :=
  call_meets slot_bjoin (typeIs_bytes _ _ _) entry_bjoin (args_bjoin _ _) (meets_bjoin t D l) ⟨hL, hsz, h⟩
end Mine
end
section
open PySem.Builtin PySem.Builtin.Re
set_option maxRecDepth 100000
namespace Mine
/-- the pieces and what they hold -/
inductive Vals (kind : Nat) : List Value → List (List Nat) → Prop
  | nil : Vals kind [] []
  | cons {v c vs cs} : ValIs kind v c → Vals kind vs cs → Vals kind (v :: vs) (c :: cs)
theorem Vals.append {kind : Nat} {vs ws : List Value} {cs ds : List (List Nat)} (h : Vals kind vs cs) (k : Vals kind ws ds) : Vals kind (vs ++ ws) (cs ++ ds) := by
  induction h with
  | nil => exact k
  | cons a _ ih => exact .cons a ih
theorem Vals.length {kind : Nat} {vs : List Value} {cs : List (List Nat)} (h : Vals kind vs cs) : vs.length = cs.length := by
  induction h with
  | nil => rfl
  | cons a _ ih => simp [ih]
theorem Vals.strs {vs : List Value} {cs : List (List Nat)} (h : Vals 0 vs cs) : ∃ l : List (Str × Tok), vs = strValues l ∧ l.map (fun p => p.1.cps.toList) = cs := by
  induction h with
  | nil => exact ⟨[], rfl, rfl⟩
  | cons a _ ih =>
    obtain ⟨l, rfl, rfl⟩ := ih
    rcases a with ⟨_, t, rfl⟩ | ⟨h, _⟩
    · exact ⟨(_, t) :: l, rfl, by simp⟩
    · cases h
theorem Vals.bytes {vs : List Value} {cs : List (List Nat)} (h : Vals 1 vs cs) : ∃ l : List (Array UInt8 × Tok), vs = bvals l ∧ l.map (fun p => p.1.toList.map (·.toNat)) = cs := by
  induction h with
  | nil => exact ⟨[], rfl, rfl⟩
  | cons a _ ih =>
    obtain ⟨l, rfl, rfl⟩ := ih
    rcases a with ⟨h, _⟩ | ⟨_, b, t, rfl, rfl⟩
    · cases h
    · exact ⟨(b, t) :: l, rfl, by simp⟩
theorem join_empty (l : List Str) : Txt.join Str.empty l = ⟨(l.map fun p => p.cps.toList).flatten.toArray⟩ := by
  show Builtin.Str.glued Str.empty l = _
  unfold Builtin.Str.glued
  cases l with
  | nil => rfl
  | cons a r =>
    have key : ∀ (r : List Str) (acc : Array Nat), r.foldl (fun acc (p : Str) => acc ++ Str.empty.cps ++ p.cps) acc = acc ++ (r.map fun p => p.cps.toList).flatten.toArray := by
      intro r
      induction r with
      | nil => intro acc; simp
      | cons a r ih => intro acc; rw [List.foldl_cons, ih]; apply Array.ext'; simp [Str.empty]
    show Str.mk (List.foldl _ _ _) = _
    rw [List.drop_one, List.tail_cons, List.headD_cons, key]
    congr 1
    apply Array.ext'; simp
theorem call_join {prog : Program} {w : World} {A : Around} {E : Value → Shared → Prop} {s : Shared} {D : Addr} {kind : Nat} {j : Value} {vs : List Value} {cs : List (List Nat)} {Q : Value → Shared → Prop}
    (hj : ValIs kind j []) (hv : Vals kind vs cs) (hL : s.heap.IsList D vs.toArray) (hsz : cs.flatten.length ≤ 1000000) (hQ : ∀ v tk, ValIs kind v cs.flatten → Q v { s with toks := tk }) :
    wpAny (model prog w) A (call (.builtin (if (kind == 0) = true then "str.join" else "bytes.join")) [j, .ref D]) Q E s := by
  rcases hj with ⟨rfl, t, rfl⟩ | ⟨rfl, b, t, rfl, hb⟩
  · obtain ⟨l, rfl, rfl⟩ := hv.strs
    simp only [beq_self_eq_true, if_true]
    have hjn : Txt.join Str.empty (l.map (·.1)) = ⟨(l.map fun p => p.1.cps.toList).flatten.toArray⟩ := by
      rw [join_empty, List.map_map]; rfl
    refine SC.join (x := Str.empty) hL rfl ?_ fun t' k => hQ _ k (.inl ⟨rfl, t', ?_⟩)
    · unfold JoinOk
      rw [Bool.not_eq_true']
      have e : ∀ (l : List Str) (k : Nat), l.foldl (fun (x1 : Nat) (x2 : Str) => x1 + x2.length + Str.empty.length) k = k + (l.map fun p => p.cps.toList).flatten.length := by
        intro l
        induction l with
        | nil => intro k; rfl
        | cons a r ih =>
          intro k
          rw [List.foldl_cons, ih]
          simp only [List.map_cons, List.flatten_cons, List.length_append, Array.length_toList, Str.length, Str.empty]
          simp; (first | lia | omega)
      rw [List.foldl_toArray, e]
      have e2 : (List.map (fun p : Str => p.cps.toList) (l.map (·.1))).flatten.length = (l.map fun p => p.1.cps.toList).flatten.length := by rw [List.map_map]; rfl
      rw [e2]
      unfold Builtin.Str.tooLong
      rw [sizeLine_eq]
      exact decide_eq_false (by (first | lia | omega))
    · rw [hjn]
  · obtain ⟨l, rfl, rfl⟩ := hv.bytes
    rw [if_neg (show ¬ ((1 == 0) = true) by decide)]
    have hb0 : b = #[] := by
      apply Array.ext'
      have := congrArg List.length hb
      simp at this
      rw [this]
    subst hb0
    have hc : (bcat l).toList.map (·.toNat) = (l.map fun p => p.1.toList.map (·.toNat)).flatten := by
      unfold bcat
      simp [List.map_flatten, Function.comp_def]
    have hsz' : (bcat l).size ≤ 1000000 := by
      have := congrArg List.length hc
      rw [List.length_map, Array.length_toList] at this
      (first | lia | omega)
    exact call_bjoin hL hsz' fun t' k => hQ _ k (.inr ⟨rfl, _, t', rfl, hc⟩)
end Mine
end
section
open PySem.Builtin PySem.Builtin.Re
set_option maxRecDepth 100000
namespace Mine
noncomputable abbrev lsO (vs : List Value) (k : Nat) : Obj := { cls := .type "list", data := .seq vs.toArray k }
theorem ValIs.notNone {kind : Nat} {v : Value} {c : List Nat} (h : ValIs kind v c) : (v != Value.none) = true := by
  rcases h with ⟨_, t, rfl⟩ | ⟨_, b, t, rfl, _⟩ <;> rfl
theorem wp_lit {Md : Model} {A : Around} {E : Value → Shared → Prop} {s : Shared} {kind : Nat} {v : Value} {c : List Nat} {Q : PUnit → Shared → Prop} (h : ValIs kind v c) (hq : Q ⟨⟩ s) : wpAny Md A (reLiteralCannotBeTurned v) Q E s := by
  unfold reLiteralCannotBeTurned
  rcases h with ⟨_, t, rfl⟩ | ⟨_, b, t, rfl, _⟩
  · exact wpAny_of_eq rfl hq
  · refine wpAny_bind (wpAny_of_eq (a := none) rfl ?_)
    rw [if_pos (by decide)]
    refine wpAny_bind (wpAny_of_eq KBy.isInstance_eq ?_)
    exact wpAny_of_eq rfl hq
theorem upd_keep {h₀ h : Heap} {S : Addr} {f : Obj → Obj} (hS0 : h₀.get? S = none) (keep : ∀ b o, h₀.get? b = some o → h.get? b = some o) : ∀ b o, h₀.get? b = some o → (h.update S f).get? b = some o := fun b o e => by
  have hb : S ≠ b := fun hh => by rw [hh, e] at hS0; cases hS0
  exact (Heap.get?_update_other _ _ hb).trans (keep b o e)
theorem wp_push {Md : Model} {A : Around} {E : Value → Shared → Prop} {s : Shared} {h₀ : Heap} {S : Addr} {vs : List Value} {k : Nat} {v : Value} {Q : Unit → Shared → Prop} (hS : s.heap.get? S = some (lsO vs k)) (hS0 : h₀.get? S = none) (keep : ∀ b o, h₀.get? b = some o → s.heap.get? b = some o) (hl : vs.length ≤ 1000000)
    (hQ : ∀ h' k', (∀ b o, h₀.get? b = some o → h'.get? b = some o) → h'.get? S = some (lsO (vs ++ [v]) k') → Q () { s with heap := h' }) : wpAny Md A (updateSeq S fun x => x.push v) Q E s := by
  refine wpAny_updateSeq hS rfl (hQ _ (k + 1) (upd_keep hS0 keep) ?_) ?_ ?_
  · have := Heap.get?_update_self (Obj.mapSeq fun x => x.push v) hS rfl
    rw [this]
    simp [Obj.mapSeq, lsO]
  · rw [sizeLine_eq, List.size_toArray]; (first | lia | omega)
  · rw [sizeLine_eq, Array.size_push, List.size_toArray]; (first | lia | omega)
/-- what is left of c from d on, with rp for each find -/
inductive Subs (find : Nat → Option (Nat × Nat)) (rp c : List Nat) : Nat → List Nat → Prop
  | fin {d : Nat} : find d = none → Subs find rp c d (c.drop d)
  | hit {d b e : Nat} {r : List Nat} : find d = some (b, e) → d ≤ b → b < e → e ≤ c.length → Subs find rp c e r → Subs find rp c d ((c.take b).drop d ++ rp ++ r)
theorem plain_loop : plainId "re.Pattern.sub.loop" = true := by decide +kernel
theorem loop_sub {prog : Program} {w : World} {A : Around} {kind : Nat} {code : Array Nat} {find : Nat → Option (Nat × Nat)} {rp c : List Nat} {P : Addr} {string repl : Value} {N : Nat} {h₀ : Heap} {S : Addr}
    (srch : ∀ s, s ≤ c.length → Ends (Found (find s)) N (Sre.forSearch code c.toArray 0 s c.length false)) (hN : N < 4 * 2 ^ 64)
    (hP : PatAt h₀ P kind code) (hstr : ValIs kind string c) (hrp : ValIs kind repl rp) (hrpl : rp.length = 2) (hS0 : h₀.get? S = none) (hc : c.length ≤ 100000) :
    ∀ (d : Nat) (r : List Nat), Subs find rp c d r → d ≤ c.length → ∀ (s : Shared) (vs : List Value) (cs : List (List Nat)) (k n : Nat) (R : Result → Shared → Prop),
      (∀ b o, h₀.get? b = some o → s.heap.get? b = some o) → s.heap.get? S = some (lsO vs k) → Vals kind vs cs → vs.length + 2 * (c.length - d) ≤ 200000 → cs.flatten.length + 3 * (c.length - d) ≤ 300000 →
      (∀ v h' tk, (∀ b o, h₀.get? b = some o → h'.get? b = some o) → ValIs kind v (cs.flatten ++ r) → R (.ok (.ret v)) { s with heap := h', toks := tk }) →
      codeAny (model prog w) A (.builtin "re.Pattern.sub.loop" ⟨[.ref P, string, repl, rawInt 0, rawInt 0, rawInt n, rawInt d, rawInt d, .bool false, .ref S, .bool false], []⟩) R s := by
  intro d r hr
  induction hr with
  | @fin d hf =>
    intro hd s vs cs k n R keep hS hv hl1 hl2 hR
    refine codeAny_builtin entry_loop ?_
    rw [Around.under_plainId plain_loop _]
    show wpAny _ A.in1 (reWholeTarget (.ref P) string >>= _) _ _ s
    refine wpAny_bind (wp_target (hP.keeps keep) hstr ?_)
    dsimp only
    rw [if_pos (by decide)]
    refine wpAny_bind (wp_lit hrp ?_)
    refine wpAny_bind ?_
    rw [if_neg (by simp), Int.toNat_natCast]
    unfold reNextFound
    refine wp_runToEnd (srch d hd) hN ?_
    rw [hf]
    show wpAny _ _ _ _ _ _
    dsimp only
    have fin : ∀ (vs : List Value) (cs : List (List Nat)) (k : Nat) (h' : Heap) (tk : Nat), (∀ b o, h₀.get? b = some o → h'.get? b = some o) → h'.get? S = some (lsO vs k) → Vals kind vs cs → cs.flatten.length ≤ 1000000 →
        (∀ v h' tk, (∀ b o, h₀.get? b = some o → h'.get? b = some o) → ValIs kind v cs.flatten → R (.ok (.ret v)) { s with heap := h', toks := tk }) →
        wpAny (model prog w) A.in1 (do
            let joiner ← reSlice c.toArray kind 0 0
            let __do_lift ← seqItems? (Value.ref S)
            if (__do_lift.getD #[]).isEmpty = true then do
                let text ← pure joiner
                if false = true then do
                    let __do_lift ←
                      holding [text] do
                          let __do_lift ← mkInt ↑n
                          newTuple [text, __do_lift]
                    ret __do_lift
                  else ret text
              else do
                let text ←
                  call (Value.builtin (if (kind == 0) = true then "str.join" else "bytes.join")) [joiner, Value.ref S]
                if false = true then do
                    let __do_lift ←
                      holding [text] do
                          let __do_lift ← mkInt ↑n
                          newTuple [text, __do_lift]
                    ret __do_lift
                  else ret text)
          (fun fin s' => match fin with | Fin.done f => R (Except.ok f) s' | Fin.again c' => c'.quiet = true ∧ codeAny (model prog w) A c' R s') (fun e s' => R (Except.error e) s') { s with heap := h', toks := tk } := by
      intro vs cs k h' tk keep hS hv hl hR
      refine wpAny_bind (wp_slice hstr (by (first | lia | omega)) fun j tk' hj => ?_)
      rw [List.take_zero, List.drop_zero] at hj
      refine wpAny_bind ?_
      unfold seqItems?
      refine wpAny_bind (wpAny_load hS (wpAny_pure ?_))
      rw [Option.getD_some]
      by_cases he : vs.toArray.isEmpty = true
      · rw [if_pos he]
        refine wpAny_bind (wpAny_pure ?_)
        rw [if_neg Bool.false_ne_true]
        refine wpAny_pure (hR _ _ _ keep ?_)
        have : vs = [] := by simpa using he
        subst this
        cases hv
        exact hj
      · rw [if_neg he]
        refine wpAny_bind (call_join hj hv ⟨_, hS, rfl, _, rfl⟩ hl fun v tk hv => ?_)
        rw [if_neg Bool.false_ne_true]
        exact wpAny_pure (hR _ _ _ keep hv)
    by_cases hlt : d < c.length
    · rw [if_pos hlt]
      refine wpAny_bind (wp_slice hstr (by (first | lia | omega)) fun v tk hv' => ?_)
      rw [List.take_length] at hv'
      refine wpAny_bind (wp_push (h₀ := h₀) hS hS0 keep (by (first | lia | omega)) fun h' k' keep' hS' => ?_)
      have ef : (cs ++ [c.drop d]).flatten = cs.flatten ++ c.drop d := by simp
      refine fin (vs ++ [v]) (cs ++ [c.drop d]) k' h' tk keep' hS' (hv.append (.cons hv' .nil)) ?_ ?_
      · rw [ef, List.length_append, List.length_drop]; (first | lia | omega)
      · intro v h' tk k1 k2
        rw [ef] at k2
        exact hR v h' tk k1 k2
    · rw [if_neg hlt]
      have e0 : c.drop d = [] := List.drop_eq_nil_of_le (by (first | lia | omega))
      rw [e0, List.append_nil] at hR
      exact fin vs cs k s.heap s.toks keep hS hv (by (first | lia | omega)) hR
  | @hit d b e r hf hdb hbe hec hr ih =>
    intro hd s vs cs k n R keep hS hv hl1 hl2 hR
    refine codeAny_builtin entry_loop ?_
    rw [Around.under_plainId plain_loop _]
    show wpAny _ A.in1 (reWholeTarget (.ref P) string >>= _) _ _ s
    refine wpAny_bind (wp_target (hP.keeps keep) hstr ?_)
    dsimp only
    rw [if_pos (by decide)]
    refine wpAny_bind (wp_lit hrp ?_)
    refine wpAny_bind ?_
    rw [if_neg (by simp), Int.toNat_natCast]
    unfold reNextFound
    refine wp_runToEnd (srch d hd) hN ?_
    rw [hf]
    rintro m rfl rfl
    dsimp only
    have hfl : (cs ++ [(c.take m.start).drop d]).flatten = cs.flatten ++ (c.take m.start).drop d := by simp
    have hmust : (m.handed == m.start) = false := by
      rw [beq_eq_false_iff_ne]; (first | lia | omega)
    have rest : ∀ (vs : List Value) (cs' : List (List Nat)) (k : Nat) (h' : Heap) (tk : Nat), (∀ b o, h₀.get? b = some o → h'.get? b = some o) → h'.get? S = some (lsO vs k) → Vals kind vs cs' → cs'.flatten = cs.flatten ++ (c.take m.start).drop d → vs.length + 2 * (c.length - d) ≤ 200001 →
        wpAny (model prog w) A.in1 (do
                let item ← pure repl
                if (item != Value.none) = true then do
                    updateSeq S fun x => x.push item
                    again
                        (Code.builtin "re.Pattern.sub.loop"
                          {
                            pos :=
                              [Value.ref P, string, repl, rawInt 0, rawInt 0, rawInt (↑n + 1), rawInt ↑m.handed,
                                rawInt ↑m.handed, Value.bool (m.handed == m.start), Value.ref S, Value.bool false] })
                  else
                    again
                      (Code.builtin "re.Pattern.sub.loop"
                        {
                          pos :=
                            [Value.ref P, string, repl, rawInt 0, rawInt 0, rawInt (↑n + 1), rawInt ↑m.handed,
                              rawInt ↑m.handed, Value.bool (m.handed == m.start), Value.ref S, Value.bool false] }))
          (fun fin s' => match fin with | Fin.done f => R (Except.ok f) s' | Fin.again c' => c'.quiet = true ∧ codeAny (model prog w) A c' R s') (fun e s' => R (Except.error e) s') { s with heap := h', toks := tk } := by
      intro vs' cs' k h' tk keep hS hv' hfl hl
      refine wpAny_bind (wpAny_pure ?_)
      rw [if_pos hrp.notNone, hmust]
      refine wpAny_bind (wp_push (h₀ := h₀) hS hS0 keep (by (first | lia | omega)) fun h' k' keep' hS' => ?_)
      have hlen : ((c.take m.start).drop d).length = m.start - d := by
        rw [List.length_drop, List.length_take]; (first | lia | omega)
      have ef : (cs' ++ [rp]).flatten = cs.flatten ++ (c.take m.start).drop d ++ rp := by simp [hfl]
      refine wpAny_pure ⟨plainId_quiet plain_loop _, ih hec _ (vs' ++ [repl]) (cs' ++ [rp]) k' (n + 1) R keep' hS' (hv'.append (.cons hrp .nil)) ?_ ?_ ?_⟩
      · rw [List.length_append]; simp; (first | lia | omega)
      · rw [ef, List.length_append, List.length_append, hlen, hrpl]; (first | lia | omega)
      · intro v h' tk k1 k2
        rw [ef] at k2
        refine hR v h' tk k1 ?_
        simpa using k2
    by_cases hlt : d < m.start
    · rw [if_pos hlt]
      refine wpAny_bind (wp_slice hstr (by (first | lia | omega)) fun v tk hv' => ?_)
      refine wpAny_bind (wp_push (h₀ := h₀) hS hS0 keep (by (first | lia | omega)) fun h' k' keep' hS' => ?_)
      rw [if_pos (by decide)]
      refine rest (vs ++ [v]) (cs ++ [(c.take m.start).drop d]) k' h' tk keep' hS' (hv.append (.cons hv' .nil)) (by simp) ?_
      rw [List.length_append]; simp; (first | lia | omega)
    · rw [if_neg hlt, if_pos (by decide)]
      have e0 : (c.take m.start).drop d = [] := List.drop_eq_nil_of_le (by rw [List.length_take]; (first | lia | omega))
      refine rest vs cs k s.heap s.toks keep hS hv (by rw [e0, List.append_nil]) (by (first | lia | omega))
end Mine
end
section
open PySem.Builtin PySem.Builtin.Re
set_option maxRecDepth 100000
namespace Mine
theorem no_call_str : typeLookup (.type "str") "__call__" = pure none := by rw [typeLookup_type, builtinLookup_eq_fast]; kernel_rfl
theorem no_call_bytes : typeLookup (.type "bytes") "__call__" = pure none := by rw [typeLookup_type, builtinLookup_eq_fast]; kernel_rfl
theorem named_sub (a b : Value) : reNamed "re.Pattern.sub" "sub" ["repl", "string", "count"] 2 [a, b] [] = pure [some a, some b, none] := by kernel_rfl
theorem meets_sub {kind : Nat} {code : Array Nat} {find : Nat → Option (Nat × Nat)} {rp c r : List Nat} {P : Addr} {string repl : Value} {N : Nat}
    (srch : ∀ s, s ≤ c.length → Ends (Found (find s)) N (Sre.forSearch code c.toArray 0 s c.length false)) (hN : N < 4 * 2 ^ 64)
    (hstr : ValIs kind string c) (hrp : ValIs kind repl rp) (hrpl : rp.length = 2) (h92 : 92 ∉ rp) (hc : c.length ≤ 100000) (hr : Subs find rp c 0 r) :
    Meets (Builtin.«re.Pattern.sub» ⟨[.ref P, repl, string], []⟩) (fun _ R s => PatAt s.heap P kind code ∧
      ∀ v h' tk, (∀ b o, s.heap.get? b = some o → h'.get? b = some o) → ValIs kind v r → R (.ok (.ret v)) { s with heap := h', toks := tk }) := by
  intro prog w A R s hS
  obtain ⟨hP, hR⟩ := hS
  show wpAny _ _ (reSubstitute "re.Pattern.sub" "sub" false _) _ _ s
  unfold reSubstitute
  dsimp only
  refine wpAny_bind (wpAny_of_eq (named_sub _ _) ?_)
  dsimp only
  refine wpAny_bind (wpAny_pure ?_)
  have call : ∀ {Q : Option Value → Shared → Prop} {E : Value → Shared → Prop}, Q none s → wpAny (model prog w) A.in1 (specialOf repl "__call__") Q E s := fun hq => by
    rcases hrp with ⟨_, t, rfl⟩ | ⟨_, b, t, rfl, _⟩
    · exact wpAny_specialOf (typeIs_str _ _ _) no_call_str hq
    · exact wpAny_specialOf (typeIs_bytes _ _ _) no_call_bytes hq
  refine wpAny_bind (call ?_)
  dsimp only [Option.isSome]
  rw [if_neg Bool.false_ne_true]
  have hrp' := hrp
  rcases hrp with ⟨_, t, rfl⟩ | ⟨_, b, t, rfl, hb⟩
  · refine wpAny_bind (wpAny_of_eq (a := some _) rfl ?_)
    refine wpAny_bind (wpAny_pure ?_)
    have hl : (!Array.contains rp.toArray 92) = true := by simpa using h92
    rw [if_neg Bool.false_ne_true, if_pos hl]
    refine wpAny_bind (wpAny_pure ?_)
    dsimp only
    refine wpAny_bind (wpAny_holding (wp_target hP hstr ?_))
    rw [if_neg (by decide)]
    refine wpAny_bind (wpAny_newObj_type ?_)
    refine wpAny_pure ⟨plainId_quiet plain_loop _, ?_⟩
    have hnew := Heap.get?_push_size (o := lsO [] 0) s.heap rfl
    exact loop_sub (h₀ := s.heap) srch hN hP hstr hrp' hrpl (Heap.get?_none_of_le (Nat.le_refl _)) hc 0 r hr (Nat.zero_le _) _ [] [] 0 0 _ (fun b o e => Heap.get?_push_of_some _ e) hnew .nil (by simp; (first | lia | omega)) (by simp; (first | lia | omega)) fun v h' tk k1 k2 => hR v h' tk k1 k2
  · refine wpAny_bind (wpAny_of_eq (a := none) rfl ?_)
    refine wpAny_bind (wpAny_of_eq KBy.quiet_eq ?_)
    refine wpAny_bind (wpAny_pure ?_)
    have hl : (!Array.contains b 92) = true := by
      have : ¬ (92 : UInt8) ∈ b := fun h => h92 (by
        rw [← hb]
        exact List.mem_map.mpr ⟨92, by simpa using h, rfl⟩)
      simpa using this
    rw [if_neg Bool.false_ne_true, if_pos hl]
    refine wpAny_bind (wpAny_pure ?_)
    dsimp only
    refine wpAny_bind (wpAny_holding (wp_target hP hstr ?_))
    rw [if_neg (by decide)]
    refine wpAny_bind (wpAny_newObj_type ?_)
    refine wpAny_pure ⟨plainId_quiet plain_loop _, ?_⟩
    have hnew := Heap.get?_push_size (o := lsO [] 0) s.heap rfl
    exact loop_sub (h₀ := s.heap) srch hN hP hstr hrp' hrpl (Heap.get?_none_of_le (Nat.le_refl _)) hc 0 r hr (Nat.zero_le _) _ [] [] 0 0 _ (fun b o e => Heap.get?_push_of_some _ e) hnew .nil (by simp; (first | lia | omega)) (by simp; (first | lia | omega)) fun v h' tk k1 k2 => hR v h' tk k1 k2
theorem call_sub {prog : Program} {w : World} {A : Around} {E : Value → Shared → Prop} {s : Shared} {Q : Value → Shared → Prop} {kind : Nat} {code : Array Nat} {find : Nat → Option (Nat × Nat)} {rp c r : List Nat} {P : Addr} {string repl : Value} {N : Nat}
    (srch : ∀ s, s ≤ c.length → Ends (Found (find s)) N (Sre.forSearch code c.toArray 0 s c.length false)) (hN : N < 4 * 2 ^ 64)
    (hstr : ValIs kind string c) (hrp : ValIs kind repl rp) (hrpl : rp.length = 2) (h92 : 92 ∉ rp) (hc : c.length ≤ 100000) (hr : Subs find rp c 0 r) (hP : PatAt s.heap P kind code) (hT : s.TypeIs (.ref P) "re.Pattern")
    (hQ : ∀ v h' tk, (∀ b o, s.heap.get? b = some o → h'.get? b = some o) → ValIs kind v r → Q v { s with heap := h', toks := tk }) :
    wpAny (model prog w) A (call (.builtin "re.Pattern.sub") [.ref P, repl, string]) Q E s :=
  call_meets slot_sub hT entry_sub (args_sub _ _ _) (meets_sub srch hN hstr hrp hrpl h92 hc hr) ⟨hP, hQ⟩
end Mine
end
section
set_option maxRecDepth 100000
namespace Mine
/-- each row's end as feed behind return; b: a return stands just ahead -/
noncomputable def eolF : Bool → List Nat → List Nat
  | _, [] => []
  | b, c :: r => if c = 10 then (if b then eolF false r else 13 :: 10 :: eolF false r) else if c = 13 then 13 :: 10 :: eolF true r else c :: eolF false r
/-- a dot more for each row that begins with one; b: here a row begins -/
noncomputable def quoteF : Bool → List Nat → List Nat
  | _, [] => []
  | b, c :: r => if b = true ∧ c = 46 then 46 :: 46 :: quoteF false r else c :: quoteF (decide (c = 10)) r
theorem eolF_cons (b : Bool) (c : Nat) (r : List Nat) : eolF b (c :: r) = if c = 10 then (if b then eolF false r else 13 :: 10 :: eolF false r) else if c = 13 then 13 :: 10 :: eolF true r else c :: eolF false r := rfl
theorem quoteF_cons (b : Bool) (c : Nat) (r : List Nat) : quoteF b (c :: r) = if b = true ∧ c = 46 then 46 :: 46 :: quoteF false r else c :: quoteF (decide (c = 10)) r := rfl
theorem eolF_plain : ∀ (p q : List Nat), (∀ x ∈ p, x ≠ 10 ∧ x ≠ 13) → ∀ b, (p ≠ [] ∨ b = false) → eolF b (p ++ q) = p ++ eolF false q
  | [], q, _, b, hb => by rw [hb.resolve_left (fun h => h rfl)]; rfl
  | c :: p, q, h, b, _ => by
    have hc := h c (.head _)
    rw [List.cons_append]
    rw [eolF_cons, if_neg hc.1, if_neg hc.2, eolF_plain p q (fun x hx => h x (.tail _ hx)) false (.inr rfl)]
    rfl
theorem getD_toArray (c : List Nat) (j : Nat) : c.toArray.getD j 0 = c.getD j 0 := by
  simp [List.getD_eq_getElem?_getD]
theorem drop_cons {c : List Nat} {d : Nat} (h : d < c.length) : c.drop d = c.getD d 0 :: c.drop (d + 1) := by
  rw [List.drop_eq_getElem_cons h]
  congr 1
  rw [List.getD_eq_getElem?_getD, List.getElem?_eq_getElem h]; rfl
theorem drop_mid (c : List Nat) {d b : Nat} (h : d ≤ b) : c.drop d = (c.take b).drop d ++ c.drop b := by
  by_cases hb : b ≤ c.length
  · have h1 := List.take_append_drop b c
    have e : (c.take b ++ c.drop b).drop d = (c.take b).drop d ++ c.drop b := by
      rw [List.drop_append_of_le_length (by rw [List.length_take]; (first | lia | omega))]
    rw [h1] at e; exact e
  · rw [List.take_of_length_le (by (first | lia | omega)), List.drop_eq_nil_of_le (as := c) (i := b) (by (first | lia | omega)), List.append_nil]
theorem mid_mem {c : List Nat} {d b x : Nat} (hx : x ∈ (c.take b).drop d) : ∃ j, d ≤ j ∧ j < b ∧ j < c.length ∧ c.getD j 0 = x := by
  obtain ⟨i, hi, e⟩ := List.mem_iff_getElem.mp hx
  rw [List.length_drop, List.length_take] at hi
  refine ⟨d + i, by (first | lia | omega), by (first | lia | omega), by (first | lia | omega), ?_⟩
  rw [List.getElem_drop, List.getElem_take] at e
  rw [← e, List.getD_eq_getElem?_getD, List.getElem?_eq_getElem (by (first | lia | omega))]; rfl
theorem findE_none {text : Array Nat} : ∀ {k s : Nat}, findE text k s = none → text.size ≤ s + k → ∀ j, s ≤ j → j < text.size → ¬ (text.getD j 0 = 10 ∨ text.getD j 0 = 13)
  | 0, s, _, hk, j, h1, h2 => by (first | lia | omega)
  | k + 1, s, h, hk, j, h1, h2 => by
    unfold findE at h
    rw [if_pos (by (first | lia | omega))] at h
    by_cases hc : text.getD s 0 = 10 ∨ text.getD s 0 = 13
    · rw [if_pos hc] at h; cases h
    · rw [if_neg hc] at h
      by_cases hj : j = s
      · rw [hj]; exact hc
      · exact findE_none h (by (first | lia | omega)) j (by (first | lia | omega)) h2
theorem findE_first {text : Array Nat} : ∀ {k s b e : Nat}, findE text k s = some (b, e) → ∀ j, s ≤ j → j < b → ¬ (text.getD j 0 = 10 ∨ text.getD j 0 = 13)
  | 0, s, b, e, h, j, _, _ => by simp [findE] at h
  | k + 1, s, b, e, h, j, h1, h2 => by
    unfold findE at h
    by_cases hs : s < text.size
    · rw [if_pos hs] at h
      by_cases hc : text.getD s 0 = 10 ∨ text.getD s 0 = 13
      · rw [if_pos hc] at h
        injection h with h; injection h with h3 h4
        (first | lia | omega)
      · rw [if_neg hc] at h
        by_cases hj : j = s
        · rw [hj]; exact hc
        · exact findE_first h j (by (first | lia | omega)) h2
    · rw [if_neg hs] at h; cases h
theorem eolF_true {x : List Nat} (h : x.getD 0 0 ≠ 10) : eolF true x = eolF false x := by
  cases x with
  | nil => rfl
  | cons c r =>
    have : c ≠ 10 := h
    unfold eolF
    rw [if_neg this, if_neg this]
theorem subsE (c : List Nat) : ∀ (n d : Nat), c.length - d ≤ n → d ≤ c.length → Subs (fun s => findE c.toArray (c.length + 1 - s) s) [13, 10] c d (eolF false (c.drop d)) := by
  intro n
  induction n with
  | zero =>
    intro d hn hd
    have e : d = c.length := by (first | lia | omega)
    subst e
    have hf : (fun s => findE c.toArray (c.length + 1 - s) s) c.length = none := by
      show findE c.toArray (c.length + 1 - c.length) c.length = none
      rw [show c.length + 1 - c.length = 0 + 1 by (first | lia | omega)]
      unfold findE
      rw [if_neg (by simp)]
    have := Subs.fin (find := fun s => findE c.toArray (c.length + 1 - s) s) (rp := [13, 10]) (c := c) hf
    rw [List.drop_length] at this ⊢
    exact this
  | succ n ih =>
    intro d hn hd
    cases hf : findE c.toArray (c.length + 1 - d) d with
    | none =>
      have hno := findE_none hf (by simp; (first | lia | omega))
      have e : eolF false (c.drop d) = c.drop d := by
        have := eolF_plain (c.drop d) [] (fun x hx => by
          have hx' : x ∈ (c.take c.length).drop d := by rw [List.take_length]; exact hx
          obtain ⟨j, h1, h2, h3, h4⟩ := mid_mem hx'
          have := hno j h1 (by simpa using h3)
          rw [getD_toArray, h4] at this
          (first | lia | omega)) false (.inr rfl)
        rw [List.append_nil] at this
        rw [this]; simp [eolF]
      rw [e]
      exact Subs.fin hf
    | some be =>
      obtain ⟨b, e⟩ := be
      obtain ⟨h1, h2, h3, h4⟩ := findE_some hf
      have hno := findE_first hf
      have h2' : b < c.length := by simpa using h2
      rw [getD_toArray] at h3
      have ee : e = if c.getD b 0 = 13 ∧ b + 1 < c.length ∧ c.getD (b + 1) 0 = 10 then b + 2 else b + 1 := by
        rw [h4]; unfold endE; rw [getD_toArray, getD_toArray]; simp
      have hee : b < e ∧ e ≤ c.length := by rw [ee]; split <;> (first | lia | omega)
      have key : eolF false (c.drop d) = (c.take b).drop d ++ [13, 10] ++ eolF false (c.drop e) := by
        rw [drop_mid c h1, eolF_plain _ _ (fun x hx => by
          obtain ⟨j, k1, k2, k3, k4⟩ := mid_mem hx
          have := hno j k1 k2
          rw [getD_toArray, k4] at this
          (first | lia | omega)) false (.inr rfl), List.append_assoc]
        congr 1
        rw [drop_cons h2']
        rcases h3 with h3 | h3
        · rw [h3] at ee ⊢
          rw [if_neg (by (first | lia | omega))] at ee
          rw [ee]; simp [eolF]
        · rw [h3] at ee ⊢
          by_cases hn : b + 1 < c.length ∧ c.getD (b + 1) 0 = 10
          · rw [if_pos ⟨rfl, hn⟩] at ee
            rw [ee, drop_cons hn.1, hn.2]; simp [eolF]
          · rw [if_neg fun h => hn h.2] at ee
            rw [ee]
            have : eolF true (c.drop (b + 1)) = eolF false (c.drop (b + 1)) := by
              by_cases hl : b + 1 < c.length
              · exact eolF_true (by rw [drop_cons hl]; exact fun h => hn ⟨hl, h⟩)
              · rw [List.drop_eq_nil_of_le (by (first | lia | omega))]; rfl
            rw [show eolF false (13 :: c.drop (b + 1)) = 13 :: 10 :: eolF true (c.drop (b + 1)) from by simp [eolF], this]
            rfl
      rw [key]
      exact Subs.hit hf h1 hee.1 hee.2 (ih e (by (first | lia | omega)) hee.2)
theorem findD_none {text : Array Nat} : ∀ {k s : Nat}, findD text k s = none → text.size ≤ s + k → ∀ j, s ≤ j → j < text.size → ¬ (BolAt text j ∧ text.getD j 0 = 46)
  | 0, s, _, hk, j, h1, h2 => by (first | lia | omega)
  | k + 1, s, h, hk, j, h1, h2 => by
    unfold findD at h
    by_cases hc : BolAt text s ∧ s < text.size ∧ text.getD s 0 = 46
    · rw [if_pos hc] at h; cases h
    · rw [if_neg hc] at h
      by_cases hj : j = s
      · rw [hj]; exact fun h => hc ⟨h.1, by (first | lia | omega), h.2⟩
      · exact findD_none h (by (first | lia | omega)) j (by (first | lia | omega)) h2
theorem findD_some {text : Array Nat} : ∀ {k s b e : Nat}, findD text k s = some (b, e) → s ≤ b ∧ b < text.size ∧ BolAt text b ∧ text.getD b 0 = 46 ∧ e = b + 1 ∧ ∀ j, s ≤ j → j < b → ¬ (BolAt text j ∧ text.getD j 0 = 46)
  | 0, s, b, e, h => by simp [findD] at h
  | k + 1, s, b, e, h => by
    unfold findD at h
    by_cases hc : BolAt text s ∧ s < text.size ∧ text.getD s 0 = 46
    · rw [if_pos hc] at h
      injection h with h; injection h with h3 h4
      subst h3 h4
      exact ⟨Nat.le_refl _, hc.2.1, hc.1, hc.2.2, rfl, fun j h1 h2 => by (first | lia | omega)⟩
    · rw [if_neg hc] at h
      obtain ⟨h1, h2, h3, h4, h5, h6⟩ := findD_some h
      refine ⟨by (first | lia | omega), h2, h3, h4, h5, fun j k1 k2 => ?_⟩
      by_cases hj : j = s
      · rw [hj]; exact fun h => hc ⟨h.1, by (first | lia | omega), h.2⟩
      · exact h6 j (by (first | lia | omega)) k2
/-- here a row begins -/
noncomputable def bol (c : List Nat) (d : Nat) : Bool := decide (d = 0 ∨ c.getD (d - 1) 0 = 10)
theorem bol_iff {c : List Nat} {d : Nat} : BolAt c.toArray d ↔ bol c d = true := by
  unfold BolAt bol; rw [getD_toArray]; simp
theorem bol_succ (c : List Nat) (d : Nat) : bol c (d + 1) = decide (c.getD d 0 = 10) := by
  unfold bol; simp
theorem quoteF_mid (c : List Nat) : ∀ (n d b : Nat), b - d = n → d ≤ b → b ≤ c.length → (∀ j, d ≤ j → j < b → ¬ (bol c j = true ∧ c.getD j 0 = 46)) → quoteF (bol c d) (c.drop d) = (c.take b).drop d ++ quoteF (bol c b) (c.drop b) := by
  intro n
  induction n with
  | zero =>
    intro d b hn hd hb _
    have : d = b := by (first | lia | omega)
    subst this
    rw [List.drop_eq_nil_of_le (as := c.take d) (by rw [List.length_take]; (first | lia | omega))]; rfl
  | succ n ih =>
    intro d b hn hd hb hno
    have hdl : d < c.length := by (first | lia | omega)
    have e1 : (c.take b).drop d = c.getD d 0 :: (c.take b).drop (d + 1) := by
      rw [drop_cons (c := c.take b) (by rw [List.length_take]; (first | lia | omega))]
      congr 1
      rw [List.getD_eq_getElem?_getD, List.getD_eq_getElem?_getD, List.getElem?_take, if_pos (by (first | lia | omega))]
    rw [drop_cons hdl, e1]
    rw [quoteF_cons, if_neg (hno d (Nat.le_refl _) (by (first | lia | omega))), ← bol_succ, ih (d + 1) b (by (first | lia | omega)) (by (first | lia | omega)) hb (fun j h1 h2 => hno j (by (first | lia | omega)) h2)]
    rfl
theorem subsD (c : List Nat) : ∀ (n d : Nat), c.length - d ≤ n → d ≤ c.length → Subs (fun s => findD c.toArray (c.length + 1 - s) s) [46, 46] c d (quoteF (bol c d) (c.drop d)) := by
  intro n
  induction n with
  | zero =>
    intro d hn hd
    have e : d = c.length := by (first | lia | omega)
    subst e
    have hf : (fun s => findD c.toArray (c.length + 1 - s) s) c.length = none := by
      show findD c.toArray (c.length + 1 - c.length) c.length = none
      rw [show c.length + 1 - c.length = 0 + 1 by (first | lia | omega)]
      unfold findD
      rw [if_neg (by simp)]
      rfl
    have := Subs.fin (find := fun s => findD c.toArray (c.length + 1 - s) s) (rp := [46, 46]) (c := c) hf
    rw [List.drop_length] at this ⊢
    exact this
  | succ n ih =>
    intro d hn hd
    cases hf : findD c.toArray (c.length + 1 - d) d with
    | none =>
      have hno := findD_none hf (by simp; (first | lia | omega))
      have e := quoteF_mid c (c.length - d) d c.length rfl hd (Nat.le_refl _) (fun j h1 h2 => by
        have := hno j h1 (by simpa using h2)
        rw [bol_iff, getD_toArray] at this; exact this)
      rw [List.take_length, List.drop_length] at e
      rw [e]
      have : quoteF (bol c c.length) [] = [] := rfl
      rw [this, List.append_nil]
      exact Subs.fin hf
    | some be =>
      obtain ⟨b, e⟩ := be
      obtain ⟨h1, h2, h3, h4, h5, h6⟩ := findD_some hf
      have h2' : b < c.length := by simpa using h2
      rw [getD_toArray] at h4
      rw [bol_iff] at h3
      subst h5
      have key : quoteF (bol c d) (c.drop d) = (c.take b).drop d ++ [46, 46] ++ quoteF (bol c (b + 1)) (c.drop (b + 1)) := by
        rw [quoteF_mid c (b - d) d b rfl h1 (by (first | lia | omega)) (fun j k1 k2 => by
          have := h6 j k1 k2
          rw [bol_iff, getD_toArray] at this; exact this), drop_cons h2', h4, bol_succ, h4, h3, List.append_assoc]
        rfl
      rw [key]
      exact Subs.hit hf h1 (by (first | lia | omega)) (by (first | lia | omega)) (ih (b + 1) (by (first | lia | omega)) (by (first | lia | omega)))
end Mine
end
section
set_option maxRecDepth 100000
set_option maxHeartbeats 8000000
namespace Mine
noncomputable abbrev patO (p : Value) (fl : Int) (t : Tok) (C : Addr) (kind : Int) : Obj := { cls := .type "re.Pattern", data := .fields #[p, .int fl t, .int 0 0, .none, .none, .ref C, .int kind 0] }
noncomputable abbrev codeO (l : List Int) : Obj := { cls := .type "tuple", data := .seq (l.map fun i => Value.int i 0).toArray }
section
variable {w : World} {h : Heap} (X : (hd.heap_39 w.params).In h)
include X
theorem in78 : h.get? 78 = some (patO (.str (Str.ofString "(?m)^\\.") 367) 40 380 77 0) := X 78 _ rfl
theorem in77 : h.get? 77 = some (codeO [14, 4, 0, 1, 1, 6, 1, 16, 46, 1]) := X 77 _ rfl
theorem in83 : h.get? 83 = some (patO (.bytes #[40, 63, 109, 41, 94, 92, 46] 383) 8 396 82 1) := X 83 _ rfl
theorem in82 : h.get? 82 = some (codeO [14, 4, 0, 1, 1, 6, 1, 16, 46, 1]) := X 82 _ rfl
theorem in88 : h.get? 88 = some (patO (.str (Str.ofString "(?:\\r\\n|\\n|\\r(?!\\n))") 399) 32 438 87 0) := X 88 _ rfl
theorem in87 : h.get? 87 = some (codeO [14, 9, 4, 1, 2, 16, 10, 16, 13, 0, 7, 7, 16, 13, 16, 10, 15, 18, 5, 16, 10, 15, 13, 11, 16, 13, 5, 5, 0, 16, 10, 1, 15, 2, 0, 1]) := X 87 _ rfl
theorem pat78 : PatAt h 78 0 codeD := ⟨_, 77, _, _, _, _, in78 X, rfl, rfl, rfl, rfl, in77 X, rfl, by decide +kernel⟩
theorem pat83 : PatAt h 83 1 codeD := ⟨_, 82, _, _, _, _, in83 X, rfl, rfl, rfl, rfl, in82 X, rfl, by decide +kernel⟩
theorem pat88 : PatAt h 88 0 codeE := ⟨_, 87, _, _, _, _, in88 X, rfl, rfl, rfl, rfl, in87 X, rfl, by decide +kernel⟩
theorem is78 (s : Shared) (e : s.heap = h) : s.TypeIs (.ref 78) "re.Pattern" := by subst e; exact ⟨_, in78 X, rfl⟩
theorem is83 (s : Shared) (e : s.heap = h) : s.TypeIs (.ref 83) "re.Pattern" := by subst e; exact ⟨_, in83 X, rfl⟩
theorem is88 (s : Shared) (e : s.heap = h) : s.TypeIs (.ref 88) "re.Pattern" := by subst e; exact ⟨_, in88 X, rfl⟩
end
/-- a text with each row's end as feed behind return | with a dot more where a row begins with one -/
noncomputable def fixS (S : Str) : Str := ⟨(eolF false S.cps.toList).toArray⟩
noncomputable def quoteS (S : Str) : Str := ⟨(quoteF true S.cps.toList).toArray⟩
theorem srchD (c : List Nat) : ∀ s, s ≤ c.length → Ends (Found ((fun s => findD c.toArray (c.length + 1 - s) s) s)) (3 * c.length + 10) (Sre.forSearch codeD c.toArray 0 s c.length false) := fun s hs => by
  have := searchD c.toArray s (by simpa using hs)
  simpa using this
theorem srchE (c : List Nat) : ∀ s, s ≤ c.length → Ends (Found ((fun s => findE c.toArray (c.length + 1 - s) s) s)) (3 * c.length + 30) (Sre.forSearch codeE c.toArray 0 s c.length false) := fun s hs => by
  have := searchE c.toArray s (by simpa using hs)
  simpa using this
theorem dots_is {u : Tok} : ValIs 0 (.str (Str.ofString "..") u) [46, 46] := .inl ⟨rfl, u, by congr 1⟩
theorem crlf_is {u : Tok} : ValIs 0 (.str (Str.ofString "\r\n") u) [13, 10] := .inl ⟨rfl, u, by congr 1⟩
theorem bdots_is {u : Tok} : ValIs 1 (.bytes #[46, 46] u) [46, 46] := .inr ⟨rfl, _, u, rfl, rfl⟩
section
variable {prog : Program} {w w' : World} {A : Around} {E : Value → Shared → Prop} {s : Shared} {h₀ : Heap} {L : Addr} {m : Str → Option Value} {news : List (Addr × Obj)} {Q : Value → Shared → Prop}
theorem sub88 {S : Str} {t u : Tok} (F : Fr h₀ L s.heap m) (X : (hd.heap_39 w'.params).In h₀) (N : News h₀ L s.heap news) (hl : S.length ≤ 100000)
    (h : ∀ t' h' tk, Fr h₀ L h' m → News h₀ L h' news → Q (.str (fixS S) t') { s with heap := h', toks := tk }) :
    wpAny (model prog w) A (call (.builtin "re.Pattern.sub") [.ref 88, .str (Str.ofString "\r\n") u, .str S t]) Q E s := by
  have hX := X.keeps F.keep
  have hS := subsE S.cps.toList _ 0 (Nat.le_refl _) (Nat.zero_le _)
  rw [List.drop_zero] at hS
  refine call_sub (srchE S.cps.toList) (by have : S.cps.size ≤ 100000 := hl; simp; (first | lia | omega)) (.inl ⟨rfl, t, rfl⟩) crlf_is rfl (by decide) (by rw [Array.length_toList]; exact hl) hS (pat88 hX) (is88 hX s rfl) fun v h' tk k1 k2 => ?_
  rcases k2 with ⟨_, t', rfl⟩ | ⟨k, _⟩
  · exact h t' h' tk (F.kept k1) (N.grown k1)
  · cases k
theorem sub78 {S : Str} {t u : Tok} (F : Fr h₀ L s.heap m) (X : (hd.heap_39 w'.params).In h₀) (N : News h₀ L s.heap news) (hl : S.length ≤ 100000)
    (h : ∀ t' h' tk, Fr h₀ L h' m → News h₀ L h' news → Q (.str (quoteS S) t') { s with heap := h', toks := tk }) :
    wpAny (model prog w) A (call (.builtin "re.Pattern.sub") [.ref 78, .str (Str.ofString "..") u, .str S t]) Q E s := by
  have hX := X.keeps F.keep
  have hS := subsD S.cps.toList _ 0 (Nat.le_refl _) (Nat.zero_le _)
  rw [List.drop_zero] at hS
  refine call_sub (srchD S.cps.toList) (by have : S.cps.size ≤ 100000 := hl; simp; (first | lia | omega)) (.inl ⟨rfl, t, rfl⟩) dots_is rfl (by decide) (by rw [Array.length_toList]; exact hl) hS (pat78 hX) (is78 hX s rfl) fun v h' tk k1 k2 => ?_
  rcases k2 with ⟨_, t', rfl⟩ | ⟨k, _⟩
  · exact h t' h' tk (F.kept k1) (N.grown k1)
  · cases k
theorem sub83 {b : Array UInt8} {t u : Tok} (F : Fr h₀ L s.heap m) (X : (hd.heap_39 w'.params).In h₀) (N : News h₀ L s.heap news) (hl : b.size ≤ 100000)
    (h : ∀ b' t' h' tk, b'.toList.map (·.toNat) = quoteF true (b.toList.map (·.toNat)) → Fr h₀ L h' m → News h₀ L h' news → Q (.bytes b' t') { s with heap := h', toks := tk }) :
    wpAny (model prog w) A (call (.builtin "re.Pattern.sub") [.ref 83, .bytes #[46, 46] u, .bytes b t]) Q E s := by
  have hX := X.keeps F.keep
  have hS := subsD (b.toList.map (·.toNat)) _ 0 (Nat.le_refl _) (Nat.zero_le _)
  rw [List.drop_zero] at hS
  refine call_sub (srchD (b.toList.map (·.toNat))) (by simp; (first | lia | omega)) (.inr ⟨rfl, b, t, rfl, rfl⟩) bdots_is rfl (by decide) (by simpa using hl) hS (pat83 hX) (is83 hX s rfl) fun v h' tk k1 k2 => ?_
  rcases k2 with ⟨k, _⟩ | ⟨_, b', t', rfl, hb⟩
  · cases k
  · exact h b' t' h' tk hb (F.kept k1) (N.grown k1)
theorem meth78 {Q : Value × List Value → Shared → Prop} {pl : Sem Bool} (F : Fr h₀ L s.heap m) (X : (hd.heap_39 w'.params).In h₀) (h : Q (.builtin "re.Pattern.sub", [.ref 78]) s) : wpAny (model prog w) A (getMethod (.ref 78) (Str.ofString "sub") pl) Q E s := by
  have hX := X.keeps F.keep
  exact getMethod_builtin (is78 hX s rfl) pat_plain slot_sub type_sub (fun a e => by cases e; exact ⟨_, in78 hX, rfl⟩) h
theorem meth83 {Q : Value × List Value → Shared → Prop} {pl : Sem Bool} (F : Fr h₀ L s.heap m) (X : (hd.heap_39 w'.params).In h₀) (h : Q (.builtin "re.Pattern.sub", [.ref 83]) s) : wpAny (model prog w) A (getMethod (.ref 83) (Str.ofString "sub") pl) Q E s := by
  have hX := X.keeps F.keep
  exact getMethod_builtin (is83 hX s rfl) pat_plain slot_sub type_sub (fun a e => by cases e; exact ⟨_, in83 hX, rfl⟩) h
theorem meth88 {Q : Value × List Value → Shared → Prop} {pl : Sem Bool} (F : Fr h₀ L s.heap m) (X : (hd.heap_39 w'.params).In h₀) (h : Q (.builtin "re.Pattern.sub", [.ref 88]) s) : wpAny (model prog w) A (getMethod (.ref 88) (Str.ofString "sub") pl) Q E s := by
  have hX := X.keeps F.keep
  exact getMethod_builtin (is88 hX s rfl) pat_plain slot_sub type_sub (fun a e => by cases e; exact ⟨_, in88 hX, rfl⟩) h
end
end Mine
end
section
theorem Mine.idle9 : True := by
  w_top off
  k_with_none
  trivial
set_option maxRecDepth 100000
set_option maxHeartbeats 8000000
namespace Mine
noncomputable def CF (w : World) : Prop := ∀ (S : Str) (t : Tok), S.length ≤ 50000 → Sp w 109 [.str S t] 2 20 (fun tl r => tl = [] ∧ ∃ t, r = .str (fixS S) t)
noncomputable def CQ (w : World) : Prop := ∀ (S : Str) (t : Tok), S.length ≤ 50000 → Sp w 95 [.str S t] 2 20 (fun tl r => tl = [] ∧ ∃ t, r = .str (quoteS (fixS S)) t)
noncomputable def CB (w : World) : Prop := ∀ (b : Array UInt8) (t : Tok), b.size ≤ 100000 → Sp w 102 [.bytes b t] 2 20 (fun tl r => tl = [] ∧ ∃ b' t', r = .bytes b' t' ∧ b'.toList.map (·.toNat) = quoteF true (b.toList.map (·.toNat)))
theorem eolF_len : ∀ (b : Bool) (l : List Nat), (eolF b l).length ≤ 2 * l.length
  | _, [] => by simp [eolF]
  | b, c :: r => by
    rw [eolF_cons]
    have h1 := eolF_len false r
    have h2 := eolF_len true r
    split
    · split <;> simp <;> (first | lia | omega)
    · split <;> simp <;> (first | lia | omega)
theorem fixS_len {S : Str} (h : S.length ≤ 50000) : (fixS S).length ≤ 100000 := by
  have := eolF_len false S.cps.toList
  show (eolF false S.cps.toList).toArray.size ≤ 100000
  have h' : S.cps.size ≤ 50000 := h
  have e : S.cps.toList.length = S.cps.size := Array.length_toList
  have e2 : (eolF false S.cps.toList).toArray.size = (eolF false S.cps.toList).length := List.size_toArray
  (first | lia | omega)
theorem run20 : True := by
  k_with "getMethod ref" => (k_here; (with_reducible show wpAny _ _ (getMethod (Value.ref _) (PySem.Str.ofString "sub") _) _ _ _); k_dflt (first | (refine' meth88 ?j56F ?j56X ?_; (case j56F => k_asm); (case j56X => assumption)) | (refine' meth78 ?j56F ?j56X ?_; (case j56F => k_asm); (case j56X => assumption)) | (refine' meth83 ?j56F ?j56X ?_; (case j56F => k_asm); (case j56X => assumption))))
  k_with "call builtin:re.Pattern.sub" => (k_here; k_dflt (first | (refine' sub88 ?j57F ?j57X ?j57N ?j57l ?_; (case j57F => k_asm); (case j57X => assumption); (case j57N => k_asm); (case j57l => (first | lia | omega))) | (refine' sub78 ?j57F ?j57X ?j57N ?j57l ?_; (case j57F => k_asm); (case j57X => assumption); (case j57N => k_asm); (case j57l => exact fixS_len (by assumption)))); intro _ _ _ _ _)
  trivial
theorem cf (w : World) : CF w := by
  intro S t hl
  unfold Sp
  k_fill
  intro p loose mean mg mb dp un gd cn cs a ccd cl outer A₀ base h₀ L m news s Q E B F X N T hk hdp hu hret
  refine wpAny_call ?_
  k_dflt ktr_enter
  k_steps
  exact hret _ [] _ _ (by k_asm) (by k_asm) (fun _ _ _ hp => nomatch hp) ⟨rfl, _, rfl⟩
theorem cq (w : World) : CQ w := by
  intro S t hl
  unfold Sp
  k_fill
  intro p loose mean mg mb dp un gd cn cs a ccd cl outer A₀ base h₀ L m news s Q E B F X N T hk hdp hu hret
  refine wpAny_call ?_
  k_dflt ktr_enter
  k_steps
  exact hret _ [] _ _ (by k_asm) (by k_asm) (fun _ _ _ hp => nomatch hp) ⟨rfl, _, rfl⟩
theorem run21 : True := by
  k_with "call builtin:re.Pattern.sub" => (k_here; k_dflt (refine' sub83 ?j58F ?j58X ?j58N ?j58l ?_; (case j58F => k_asm); (case j58X => assumption); (case j58N => k_asm); (case j58l => assumption)); intro _ _ _ _ _ _ _)
  trivial
theorem cb (w : World) : CB w := by
  intro b t hl
  unfold Sp
  k_fill
  intro p loose mean mg mb dp un gd cn cs a ccd cl outer A₀ base h₀ L m news s Q E B F X N T hk hdp hu hret
  refine wpAny_call ?_
  k_dflt ktr_enter
  k_steps
  exact hret _ [] _ _ (by k_asm) (by k_asm) (fun _ _ _ hp => nomatch hp) ⟨rfl, _, _, rfl, by assumption⟩
end Mine
end
section
open PySem.Builtin
set_option maxRecDepth 100000
namespace Mine
theorem entry_encode (S : Str) (t u : Tok) : Builtin.«str.encode» ⟨[.str S t, .str (Str.ofString "ascii") u], []⟩ = (_codecs.encodeRoad "str.encode" (.str S t) S (Str.ofString "ascii") none >>= fun v => ret v) := by kernel_rfl
theorem eroad (S : Str) (v : Value) : _codecs.encodeRoad "str.encode" v S (Str.ofString "ascii") none = (_codecs.encodeNarrow "str.encode" _codecs.asciiCodec none v S >>= fun b => mkBytes b) := by kernel_rfl
theorem entry_decode (c : UInt8) (cs : List UInt8) (t u : Tok) : Builtin.«bytes.decode» ⟨[.bytes (c :: cs).toArray t, .str (Str.ofString "ascii") u], []⟩ = (mkStr (Str.ofString "utf-8") >>= fun _ => mkStr (Str.ofString "ascii") >>= fun e => mkStr (Str.ofString "bytes.decode") >>= fun d =>
    call (.builtin "_codecs.decode.text") [.bytes (c :: cs).toArray t, e, .none, d] >>= fun v => ret v) := by kernel_rfl
theorem droad {id : String} {b : Array UInt8} : _codecs.decodeRoad id b (Str.ofString "ascii") none [] = (_codecs.runDecoder id _codecs.asciiDecoder none true b 0 [] >>= fun r => mkStr ⟨r.1⟩) := by kernel_rfl
section
variable {Md : Model} {A : Around} {E : Value → Shared → Prop} {s : Shared}
theorem wp_narrow {S : Str} {v : Value} {Q : Array UInt8 → Shared → Prop} (h : ∀ x ∈ S.cps, x < 128) (hl : S.length ≤ 1000000) (hQ : Q (S.cps.map (·.toUInt8)) s) : wpAny Md A (_codecs.encodeNarrow "str.encode" _codecs.asciiCodec none v S) Q E s := by
  have hl' : S.cps.size ≤ 1000000 := hl
  unfold _codecs.encodeNarrow
  simp only [Std.Legacy.Range.forIn_eq_forIn_range', Std.Legacy.Range.size, Nat.sub_zero, Nat.add_sub_cancel, Nat.div_one]
  refine wpAny_bind (wpAny_forIn_list _ (fun rest b s' => s' = s ∧ ((rest = List.range' 0 S.length ∧ b.1 = 0 ∧ b.2.1 = #[]) ∨ (b.1 = S.cps.size ∧ b.2.1 = S.cps.map (·.toUInt8)))) _ ?_ ?_ _ _ ⟨rfl, .inl ⟨rfl, rfl, rfl⟩⟩)
  · intro x rest c s' hc
    obtain ⟨i, out, st⟩ := c
    obtain ⟨rfl, hI⟩ := hc
    dsimp only at hI
    rcases hI with ⟨hr, rfl, rfl⟩ | ⟨rfl, rfl⟩
    · have h0 : 0 < S.cps.size := by
        have := congrArg List.length hr
        rw [List.length_range', List.length_cons] at this
        have e : S.length = S.cps.size := rfl
        (first | lia | omega)
      rw [if_neg (by rw [sizeLine_eq]; simp)]
      have e0 : S.cps[0]? = some S.cps[0] := Array.getElem?_eq_getElem h0
      rw [e0]
      dsimp only
      have hb : ∀ x ∈ S.cps, _codecs.asciiCodec.bad x = false := fun x hx => by
        have := h x hx
        show decide (x ≥ 128) = false
        exact decide_eq_false (by (first | lia | omega))
      have hb0 := hb S.cps[0] (Array.getElem_mem h0)
      rw [if_pos (by rw [hb0]; rfl)]
      have ef : Array.findIdx? _codecs.asciiCodec.bad (S.cps.extract 0) = none := by
        rw [Array.findIdx?_eq_none_iff]
        intro x hx
        rw [hb x (by simpa using hx)]
      rw [ef]
      refine wpAny_pure ⟨rfl, .inr ⟨by simp, ?_⟩⟩
      dsimp only
      have key : ∀ (l : List Nat) (acc : Array UInt8), l.foldl (fun acc y => acc ++ (_codecs.asciiCodec.bytesOf y).toArray) acc = acc ++ (l.map (·.toUInt8)).toArray := by
        intro l
        induction l with
        | nil => intro acc; simp
        | cons a r ih =>
          intro acc
          rw [List.foldl_cons, ih]
          have : (_codecs.asciiCodec.bytesOf a).toArray = #[a.toUInt8] := rfl
          rw [this]
          apply Array.ext'; simp
      rw [← Array.foldl_toList, key]
      apply Array.ext'
      simp
    · rw [if_neg (by rw [sizeLine_eq, Array.size_map]; (first | lia | omega))]
      have e0 : S.cps[S.cps.size]? = none := by simp
      rw [e0]
      exact wpAny_pure (wpAny_pure hQ)
  · rintro ⟨i, out, st⟩ s' ⟨rfl, hI⟩
    dsimp only at hI ⊢
    rcases hI with ⟨hr, rfl, rfl⟩ | ⟨rfl, rfl⟩
    · have h0 : S.cps.size = 0 := by
        have := congrArg List.length hr
        rw [List.length_range', List.length_nil] at this
        have e : S.length = S.cps.size := rfl
        (first | lia | omega)
      have : S.cps = #[] := Array.eq_empty_of_size_eq_zero h0
      rw [this, Array.map_empty] at hQ
      exact wpAny_pure hQ
    · exact wpAny_pure hQ
theorem wp_dec {id : String} {b : Array UInt8} {Q : Array Nat × Nat → Shared → Prop} (h : ∀ x ∈ b, x.toNat < 128) (hl : b.size ≤ 1000000) (hQ : Q (b.map (·.toNat), b.size) s) : wpAny Md A (_codecs.runDecoder id _codecs.asciiDecoder none true b 0 []) Q E s := by
  unfold _codecs.runDecoder
  simp only [Std.Legacy.Range.forIn_eq_forIn_range', Std.Legacy.Range.size, Nat.sub_zero, Nat.add_sub_cancel, Nat.div_one]
  refine wpAny_bind (wpAny_forIn_list _ (fun rest c s' => s' = s ∧ ∃ l1 l2, b.toList = l1 ++ l2 ∧ rest.length = l2.length ∧ c.1 = l1.length ∧ c.2.1 = (l1.map (·.toNat)).toArray) _ ?_ ?_ _ _ ⟨rfl, [], b.toList, rfl, by simp, rfl, rfl⟩)
  · rintro x rest ⟨p, out, st⟩ s' ⟨rfl, l1, l2, hb, hr, rfl, rfl⟩
    have hsz : b.size = l1.length + l2.length := by rw [← Array.length_toList, hb, List.length_append]
    cases l2 with
    | nil => simp at hr
    | cons y r2 =>
      dsimp only
      rw [List.length_cons] at hsz
      rw [if_neg (by rw [sizeLine_eq]; simp; (first | lia | omega)), if_neg (by (first | lia | omega))]
      have ey : b.getD l1.length 0 = y := by
        have : b = (l1 ++ y :: r2).toArray := by rw [← hb]
        rw [this]; simp
      have hy : y.toNat < 128 := h y (by
        have : y ∈ b.toList := by rw [hb]; simp
        simpa using this)
      have ef : _codecs.asciiDecoder.find true b l1.length = .text [y.toNat] (l1.length + 1) := by
        show (if (b.getD l1.length 0).toNat < 128 then _ else _) = _
        rw [ey, if_pos hy]; rfl
      rw [ef]
      refine wpAny_pure ⟨rfl, l1 ++ [y], r2, by simpa using hb, by simpa using hr, by simp, ?_⟩
      dsimp only
      apply Array.ext'; simp
  · rintro ⟨p, out, st⟩ s' ⟨rfl, l1, l2, hb, hr, rfl, rfl⟩
    have : l2 = [] := List.eq_nil_of_length_eq_zero hr.symm
    subst this
    rw [List.append_nil] at hb
    have e1 : (l1.map (·.toNat)).toArray = b.map (·.toNat) := by rw [← hb]; apply Array.ext'; simp
    have e2 : l1.length = b.size := by rw [← hb, Array.length_toList]
    refine wpAny_pure ?_
    dsimp only
    rw [e1, e2]; exact hQ
end
theorem slot_enc : Slot "str" "encode" "str.encode" :=
  .of (owner := "str") (n := "encode") (by rw [typeLookup_type, builtinLookup_eq_fast]; kernel_rfl) (by decide +kernel) (by decide +kernel) (by decide +kernel)
    (by first | exact .inl (by decide +kernel) | exact .inr (by decide +kernel)) (by rw [isSubtype_type]; kernel_rfl)
theorem type_enc : typeOf (.builtin "str.encode") = pure (.type "method_descriptor") := by show builtinType _ = _; rw [builtinType_eq_fast]; kernel_rfl
theorem ent_enc : entryFor table "str.encode" = some Builtin.«str.encode» := entryFor_of_tree (by kernel_rfl)
theorem args_enc (a b : Value) : argsOk "str.encode" ⟨[a, b], []⟩ := by unfold argsOk; kernel_rfl
theorem args_dec (a b : Value) : argsOk "bytes.decode" ⟨[a, b], []⟩ := by unfold argsOk; kernel_rfl
theorem meets_encode (S : Str) (t u : Tok) (hA : ∀ x ∈ S.cps, x < 128) (hl : S.length ≤ 1000000) : Meets (Builtin.«str.encode» ⟨[.str S t, .str (Str.ofString "ascii") u], []⟩)
    (fun _ R s => ∀ t' k, R (.ok (.ret (.bytes (S.cps.map (·.toUInt8)) t'))) { s with toks := k }) := by
  refine .of_wp fun prog w A R s hS => ?_
  rw [entry_encode, eroad]
  have hl' : S.cps.size ≤ 1000000 := hl
  refine wpAny_bind (wpAny_bind (wp_narrow hA hl ?_))
  exact wpAny_mkBytes (wpAny_pure ⟨_, rfl, hS _ _⟩) (by rw [sizeLine_eq, Array.size_map]; (first | lia | omega))
theorem meets_dtext {b : Array UInt8} {t t1 t2 : Tok} {d : PySem.Str} (h : ∀ x ∈ b, x.toNat < 128) (hl : b.size ≤ 1000000) :
    Meets («_codecs.decode.text» ⟨[.bytes b t, .str (PySem.Str.ofString "ascii") t1, .none, .str d t2], []⟩) (fun _ R s => R (.ok (.ret (.str ⟨b.map (·.toNat)⟩ s.toks))) { s with toks := s.toks + 1 }) := by
  refine .of_wp fun prog w A R s hS => ?_
  show wpAny _ _ (Bytes.bytesLike _ (.bytes b t) >>= fun r => _) _ _ s
  refine wpAny_bind (wpAny_of_eq KBd.like_eq ?_)
  refine wpAny_bind (wpAny_of_eq KBd.held_eq ?_)
  show wpAny _ _ (_codecs.decodeRoad _ b (PySem.Str.ofString "ascii") none [] >>= fun v => _) _ _ s
  rw [droad]
  refine wpAny_bind (wpAny_bind (wp_dec h hl ?_))
  exact wpAny_mkStr (wpAny_pure ⟨_, rfl, hS⟩) (by show Array.size _ ≤ _; rw [sizeLine_eq, Array.size_map]; (first | lia | omega))
theorem meets_decA (c : UInt8) (cs : List UInt8) (t u : Tok) (h : ∀ x ∈ (c :: cs).toArray, x.toNat < 128) (hl : (c :: cs).toArray.size ≤ 1000000) :
    Meets (Builtin.«bytes.decode» ⟨[.bytes (c :: cs).toArray t, .str (Str.ofString "ascii") u], []⟩) (fun _ R s => ∀ t' k, R (.ok (.ret (.str ⟨(c :: cs).toArray.map (·.toNat)⟩ t'))) { s with toks := k }) := by
  refine .of_wp fun prog w A R s hS => ?_
  rw [entry_decode]
  refine wpAny_bind (wpAny_mkStr ?_ (by decide))
  refine wpAny_bind (wpAny_mkStr ?_ (by decide))
  refine wpAny_bind (wpAny_mkStr ?_ (by decide))
  exact wpAny_bind (call_function_meets KBd.kind_text KBd.plain_text KBd.entry_text (KBd.args_text _ _ _ _) (meets_dtext h hl) (wpAny_pure ⟨_, rfl, hS _ _⟩))
section
variable {prog : Program} {w : World} {A : Around} {E : Value → Shared → Prop} {s : Shared}
theorem call_encA {S : Str} {t u : Tok} {Q : Value → Shared → Prop} (hA : ∀ x ∈ S.cps, x < 128) (hl : S.length ≤ 1000000) (h : ∀ t' k, Q (.bytes (S.cps.map (·.toUInt8)) t') { s with toks := k }) :
    wpAny (model prog w) A (call (.builtin "str.encode") [.str S t, .str (Str.ofString "ascii") u]) Q E s :=
  call_meets slot_enc (typeIs_str _ _ _) ent_enc (args_enc _ _) (meets_encode S t u hA hl) h
theorem call_decA {b : Array UInt8} {t u : Tok} {Q : Value → Shared → Prop} (hn : b ≠ #[]) (h : ∀ x ∈ b, x.toNat < 128) (hl : b.size ≤ 1000000) (hQ : ∀ t' k, Q (.str ⟨b.map (·.toNat)⟩ t') { s with toks := k }) :
    wpAny (model prog w) A (call (.builtin "bytes.decode") [.bytes b t, .str (Str.ofString "ascii") u]) Q E s := by
  obtain ⟨l⟩ := b
  cases l with
  | nil => exact absurd rfl hn
  | cons c cs => exact call_meets FB.slot_bytes_decode (typeIs_bytes _ _ _) FB.entry_bytes_decode (args_dec _ _) (meets_decA c cs t u h hl) hQ
theorem meth_enc {M : Model} {S : Str} {t : Tok} {pl : Sem Bool} {Q : Value × List Value → Shared → Prop} (h : Q (.builtin "str.encode", [.str S t]) s) : wpAny M A (getMethod (.str S t) "encode" pl) Q E s :=
  getMethod_builtin (typeIs_str _ _ _) F.plainAttrs_str slot_enc type_enc (fun a e => nomatch e) h
end
end Mine
end
section
theorem Mine.idle10 : True := by
  w_top off
  k_with_none
  trivial
local macro_rules | `(tactic| walk_at "idle") => `(tactic| fail)
set_option maxRecDepth 100000
set_option maxHeartbeats 8000000
namespace Mine
theorem eolF_mem : ∀ {b : Bool} {l : List Nat} {x : Nat}, x ∈ eolF b l → x ∈ l ∨ x = 13 ∨ x = 10
  | _, [], x, h => by simp [eolF] at h
  | b, c :: r, x, h => by
    rw [eolF_cons] at h
    split at h
    · split at h
      · rcases eolF_mem h with h | h
        · exact .inl (.tail _ h)
        · exact .inr h
      · simp only [List.mem_cons] at h
        rcases h with h | h | h
        · exact .inr (.inl h)
        · exact .inr (.inr h)
        · rcases eolF_mem h with h | h
          · exact .inl (.tail _ h)
          · exact .inr h
    · split at h
      · simp only [List.mem_cons] at h
        rcases h with h | h | h
        · exact .inr (.inl h)
        · exact .inr (.inr h)
        · rcases eolF_mem h with h | h
          · exact .inl (.tail _ h)
          · exact .inr h
      · rcases List.mem_cons.mp h with h | h
        · exact .inl (h ▸ .head _)
        · rcases eolF_mem h with h | h
          · exact .inl (.tail _ h)
          · exact .inr h
theorem quoteF_mem : ∀ {b : Bool} {l : List Nat} {x : Nat}, x ∈ quoteF b l → x ∈ l ∨ x = 46
  | _, [], x, h => by simp [quoteF] at h
  | b, c :: r, x, h => by
    rw [quoteF_cons] at h
    split at h
    · simp only [List.mem_cons] at h
      rcases h with h | h | h
      · exact .inr h
      · exact .inr h
      · rcases quoteF_mem h with h | h
        · exact .inl (.tail _ h)
        · exact .inr h
    · rcases List.mem_cons.mp h with h | h
      · exact .inl (h ▸ .head _)
      · rcases quoteF_mem h with h | h
        · exact .inl (.tail _ h)
        · exact .inr h
noncomputable def Asc (S : Str) : Prop := ∀ x ∈ S.cps, x < 128
theorem fixS_asc {S : Str} (h : Asc S) : Asc (fixS S) := fun x hx => by
  have : x ∈ eolF false S.cps.toList := by simpa [fixS] using hx
  rcases eolF_mem this with h' | rfl | rfl
  · exact h x (by simpa using h')
  · decide
  · decide
theorem back_bytes {l : List Nat} (h : ∀ x ∈ l, x < 128) : (l.map (·.toUInt8)).map (·.toNat) = l := by
  rw [List.map_map]
  conv => rhs; rw [← List.map_id l]
  apply List.map_congr_left
  intro x hx
  have := h x hx
  show (x.toUInt8).toNat = x
  simp; (first | lia | omega)
theorem sent_bytes {S : Str} {b' : Array UInt8} (h : Asc S) (hb : b'.toList.map (·.toNat) = quoteF true (((fixS S).cps.map (·.toUInt8)).toList.map (·.toNat))) : b'.toList.map (·.toNat) = (quoteS (fixS S)).cps.toList := by
  rw [hb, Array.toList_map, back_bytes (fun x hx => fixS_asc h x (by simpa using hx))]; rfl
theorem quoteS_asc {S : Str} (h : Asc S) : Asc (quoteS S) := fun x hx => by
  have : x ∈ quoteF true S.cps.toList := by simpa [quoteS] using hx
  rcases quoteF_mem this with h' | rfl
  · exact h x (by simpa using h')
  · decide
theorem sent_asc {S : Str} {b' : Array UInt8} (h : Asc S) (hb : b'.toList.map (·.toNat) = quoteF true (((fixS S).cps.map (·.toUInt8)).toList.map (·.toNat))) : ∀ x ∈ b', x.toNat < 128 := fun x hx => by
  have e := sent_bytes h hb
  have : x.toNat ∈ (quoteS (fixS S)).cps.toList := by rw [← e]; exact List.mem_map_of_mem (by simpa using hx)
  exact quoteS_asc (fixS_asc h) _ (by simpa using this)
theorem quoteF_len : ∀ (b : Bool) (l : List Nat), l.length ≤ (quoteF b l).length ∧ (quoteF b l).length ≤ 2 * l.length
  | _, [] => by simp [quoteF]
  | b, c :: r => by
    rw [quoteF_cons]
    have h1 := quoteF_len false r
    have h2 := quoteF_len (decide (c = 10)) r
    split <;> simp <;> (first | lia | omega)
theorem eolF_ne {S : Str} (h : S.cps ≠ #[]) : (fixS S).cps.toList ≠ [] := by
  show eolF false S.cps.toList ≠ []
  cases hl : S.cps.toList with
  | nil => exact absurd (Array.toList_eq_nil_iff.mp hl) h
  | cons c r =>
    rw [eolF_cons]
    split
    · simp
    · split <;> simp
theorem sent_ne {S : Str} {b' : Array UInt8} (h : Asc S) (hn : S.cps ≠ #[]) (hb : b'.toList.map (·.toNat) = quoteF true (((fixS S).cps.map (·.toUInt8)).toList.map (·.toNat))) : b' ≠ #[] := fun e => by
  have e1 := sent_bytes h hb
  rw [e] at e1
  have h1 := (quoteF_len true (fixS S).cps.toList).1
  have h2 : (quoteF true (fixS S).cps.toList).length = 0 := by
    have := congrArg List.length e1
    simpa [quoteS] using this.symm
  have h3 := List.eq_nil_of_length_eq_zero (Nat.le_zero.mp (h2 ▸ h1))
  exact eolF_ne hn h3
theorem sent_len {S : Str} {b' : Array UInt8} (h : Asc S) (hl : S.length ≤ 50000) (hb : b'.toList.map (·.toNat) = quoteF true (((fixS S).cps.map (·.toUInt8)).toList.map (·.toNat))) : b'.size ≤ 1000000 := by
  have e1 := congrArg List.length (sent_bytes h hb)
  have h1 := (quoteF_len true (fixS S).cps.toList).2
  have h2 := fixS_len hl
  have h3 : (fixS S).cps.toList.length = (fixS S).length := Array.length_toList
  have h4 : (quoteS (fixS S)).cps.toList.length = (quoteF true (fixS S).cps.toList).length := rfl
  rw [List.length_map, Array.length_toList] at e1
  (first | lia | omega)
theorem sent_eq {S : Str} {b' : Array UInt8} (h : Asc S) (hb : b'.toList.map (·.toNat) = quoteF true (((fixS S).cps.map (·.toUInt8)).toList.map (·.toNat))) : (⟨b'.map (·.toNat)⟩ : Str) = quoteS (fixS S) := by
  have e := sent_bytes h hb
  apply Str.ext'
  apply Array.ext'
  rw [← e, Array.toList_map]
noncomputable def CS (w : World) : Prop := ∀ (S : Str) (o : Int) (t u : Tok), S.length ≤ 50000 → Asc S → S.cps ≠ #[] → Sp w 128 [.str S t, .int o u] 4 60 (fun tl r => tl = [] ∧ ∃ t, r = .str (quoteS (fixS S)) t)
theorem run22 : True := by
  k_with "call ref" => (k_here; k_dflt (refine' Sp.use (cf _ _ _ ?j59p1) ?j59B ?j59F ?j59X ?j59N ?j59T ?j59hk ?j59hd ?j59hu ?_; (case j59p1 => assumption); (case j59B => k_asm); (case j59F => k_asm); (case j59X => k_asm); (case j59N => k_asm); (case j59T => k_asm); (case j59hk => first | exact rfl | assumption); (case j59hd => ktr_room); (case j59hu => ktr_units); walk_at "s3"))
  k_with "call ref" => (k_here; k_dflt (refine' Sp.use (cq _ _ _ ?j60p1) ?j60B ?j60F ?j60X ?j60N ?j60T ?j60hk ?j60hd ?j60hu ?_; (case j60p1 => assumption); (case j60B => k_asm); (case j60F => k_asm); (case j60X => k_asm); (case j60N => k_asm); (case j60T => k_asm); (case j60hk => first | exact rfl | assumption); (case j60hd => ktr_room); (case j60hu => ktr_units); walk_at "s3"))
  k_with "call ref" => (k_here; k_dflt (refine' Sp.use (cb _ _ _ ?j61p1) ?j61B ?j61F ?j61X ?j61N ?j61T ?j61hk ?j61hd ?j61hu ?_; (case j61p1 => assumption); (case j61B => k_asm); (case j61F => k_asm); (case j61X => k_asm); (case j61N => k_asm); (case j61T => k_asm); (case j61hk => first | exact rfl | assumption); (case j61hd => ktr_room); (case j61hu => ktr_units); walk_at "s4"))
  k_with "getMethod str" => (k_here; (with_reducible show wpAny _ _ (getMethod (Value.str _ _) (PySem.Str.ofString "encode") _) _ _ _); refine meth_enc ?_)
  k_with "call builtin:str.encode" => (k_here; refine' call_encA ?j63p1 ?j63p2 ?_; (case j63p1 => exact fixS_asc (by assumption)); (case j63p2 => (first | lia | omega)); intro _ _)
  k_with "call builtin:bytes.decode" => (k_here; refine' call_decA ?j64p1 ?j64p2 ?j64p3 ?_; (case j64p1 => exact sent_ne (by assumption) (by assumption) (by assumption)); (case j64p2 => exact sent_asc (by assumption) (by assumption)); (case j64p3 => exact sent_len (by assumption) (by assumption) (by assumption)); intro _ _)
  trivial
theorem cs (w : World) : CS w := by
  intro S o t u hl hA hn
  have hf := fixS_len hl
  have hb : ((fixS S).cps.map (·.toUInt8)).size ≤ 100000 := by rw [Array.size_map]; exact hf
  unfold Sp
  k_fill
  intro p loose mean mg mb dp un gd cn cs a ccd cl outer A₀ base h₀ L m news s Q E B F X N T hk hdp hun hret
  refine wpAny_call ?_
  k_dflt ktr_enter
  k_steps
  · exact hret _ [] _ _ (by k_asm) (by k_asm) (fun _ _ _ hp => nomatch hp) ⟨rfl, _, by rw [sent_eq (by assumption) (by assumption)]⟩
  · exact hret _ [] _ _ (by k_asm) (by k_asm) (fun _ _ _ hp => nomatch hp) ⟨rfl, _, rfl⟩
end Mine
end
section
namespace Mine
/-- a contract of a def that reads the ledger and fills no table -/
noncomputable def SpP (w : World) (f : Addr) (args : List Value) (d u : Nat) (Pre : List (Addr × Obj) → Prop) (Post : List (Addr × Obj) → Value → Prop) : Prop :=
  ∀ (p : Program) (loose : List Str) (mean : ExcName → Option Value) (mg mb : Str → Option Value)
    (dp un : Nat) (gd : Option (List Code)) (cn : Str) (cs : Scope) (a : Addr) (ccd : Value) (cl : List (Str × Addr)) (outer : List Env) (A₀ : Around) (base h₀ : Heap) (L : Addr) (m : Str → Option Value) (news : List (Addr × Obj)) (s : Shared)
    (Q E : Value → Shared → Prop),
    Below A₀ base outer h₀ → Fr h₀ L s.heap m → (hd.heap_39 w.params).In h₀ → News h₀ L s.heap news → Top p loose mean mg mb h₀ → cs.kind = .function → Pre news →
    dp + d < recursionLimit → un + u < cLine →
    (∀ r tl h' tk', Fr h₀ L h' m → News h₀ L h' (tl ++ news) → (∀ q ∈ news, ∀ p ∈ tl, q.1 < p.1) → Post tl r → Q r { s with heap := h', toks := tk' }) →
    wpAny (model Challenge.rw_ph0090_01.row.prog w) (ktrTop dp un gd cn cs L a ccd cl outer) (call (.ref f) args) Q E s
theorem SpP.use {w : World} {f : Addr} {args : List Value} {d u : Nat} {Pre : List (Addr × Obj) → Prop} {Post : List (Addr × Obj) → Value → Prop} {p : Program} {loose : List Str} {mean : ExcName → Option Value} {mg mb : Str → Option Value}
    {dp un : Nat} {gd : Option (List Code)} {cn : Str} {cs : Scope} {a : Addr} {ccd : Value} {cl : List (Str × Addr)} {outer : List Env} {A₀ : Around} {base h₀ : Heap} {L : Addr} {m : Str → Option Value} {news : List (Addr × Obj)} {s : Shared}
    {Q E : Value → Shared → Prop}
    (C : SpP w f args d u Pre Post) (B : Below A₀ base outer h₀) (F : Fr h₀ L s.heap m) (X : (hd.heap_39 w.params).In h₀) (N : News h₀ L s.heap news) (T : Top p loose mean mg mb h₀) (hk : cs.kind = .function) (hp : Pre news)
    (hd : dp + d < recursionLimit) (hu : un + u < cLine)
    (ret : ∀ r tl h' tk', Fr h₀ L h' m → News h₀ L h' (tl ++ news) → (∀ q ∈ news, ∀ p ∈ tl, q.1 < p.1) → Post tl r → Q r { s with heap := h', toks := tk' }) :
    wpAny (model Challenge.rw_ph0090_01.row.prog w) (ktrTop dp un gd cn cs L a ccd cl outer) (call (.ref f) args) Q E s :=
  C _ _ _ _ _ _ _ _ _ _ _ _ _ _ _ _ _ _ _ _ _ _ _ B F X N T hk hp hd hu ret
end Mine
end
section
set_option maxRecDepth 100000
namespace Mine
open PySem PySem.W PySem.Calls PyProof.Rows PyProof.V PySem.Spec PyProof.Rows.LCg
section
variable {prog : Program} {w : World} {A : Around} {E : Value → Shared → Prop} {s : Shared} {env : Env}
/-- what the zip in a comprehension's head hands on -/
noncomputable def ZipSrc (s : Shared) (l1 l2 : Addr) (xv : Value) (s₁ : Shared) : Prop :=
  ∃ (h' : Heap) (tk : Nat), s₁ = { s with heap := h', toks := tk } ∧ xv = .ref (s.heap.objs.size + 4) ∧ IsZip h' (s.heap.objs.size + 4) (s.heap.objs.size + 2) (s.heap.objs.size + 3) .none ∧ IsPair h' (s.heap.objs.size + 2) (.ref s.heap.objs.size) (.ref (s.heap.objs.size + 1)) ∧
      IsPair h' (s.heap.objs.size + 3) .none .none ∧ h'.IsListIter s.heap.objs.size l1 0 ∧ h'.IsListIter (s.heap.objs.size + 1) l2 0 ∧ h'.objs.size = s.heap.objs.size + 5 ∧
      (∀ c o, s.heap.get? c = some o → h'.get? c = some o)
theorem zipSrc_call {l1 l2 : Addr} {xs ys : Array Value} {s₀ : Shared} (e : ∃ tk, s = { s₀ with toks := tk }) (hl1 : s.heap.IsList l1 xs) (hl2 : s.heap.IsList l2 ys) : wpAny (model prog w) A (call (.type "zip") [.ref l1, .ref l2]) (ZipSrc s₀ l1 l2) E s := by
  obtain ⟨tk, rfl⟩ := e
  exact call_zip_2 hl1 hl2 fun h' a1 a2 a3 a4 a5 a6 a7 => ⟨h', tk, rfl, rfl, a1, a2, a3, a4, a5, a6, a7⟩
theorem zip_apart {n l1 l2 : Nat} (h1 : l1 < n) (h2 : l2 < n) : ZipApart (n + 4 : Nat) (n + 2 : Nat) (n + 3 : Nat) (n : Nat) (n + 1 : Nat) l1 l2 := by
  constructor <;> (show (@Ne Nat _ _)) <;> (first | lia | omega)
theorem comp_zip {elt iter : PySem.Expr} {a b : Str} {pa pb tp : Pos} {kk : Nat} {scope : Scope} {cl : List (Str × Addr)} {pos : Pos} {Q : Value → Shared → Prop} {l1 l2 : Addr} {xs ys : Array Value} (P : Nat → Value → Prop)
    (hh : A.handled = none) (hsz : min xs.size ys.size ≤ sizeLine) (hl1 : s.heap.IsList l1 xs) (hl2 : s.heap.IsList l2 ys)
    (hclos : closureFor scope env = pure cl) (hcell : ∀ y ∈ scope.names, y.2 ≠ .cell) (hkind : scope.kind = .function)
    (hnames : ∀ y ∈ scope.names, y.2 = .local → scope.names.lookup y.1 = some .local) (hxa : scope.names.lookup a = some .local) (hxb : scope.names.lookup b = some .local) (hab : ¬ a = b)
    (elem : ∀ (i : Nat) (x y : Value) (C : Addr) (m₂ : Str → Option Value) (s' : Shared) (E' : Value → Shared → Prop), xs[i]? = some x → ys[i]? = some y → s'.heap.Ns C m₂ → m₂ a = some x → m₂ b = some y →
      wpAny (model prog w) A (eval elt (compEnvC scope cl C env)) (fun v s₄ => P i v ∧ ∃ tk, s₄ = { s' with toks := tk }) E' s')
    (hQ : ∀ (D : Addr) (h' : Heap) (tk : Nat) (zs : List Value), s.heap.objs.size ≤ D → zs.length = min xs.size ys.size → (∀ i v, zs[i]? = some v → P i v) → h'.get? D = some (lst zs) → (∀ c o, s.heap.get? c = some o → h'.get? c = some o) → Q (.ref D) { s with heap := h', toks := tk })
    (h : wpAny (model prog w) A (eval iter env) (ZipSrc s l1 l2) E s)
    (hs : ∀ x, foldedSetIterable iter env x = pure x := by intro _; rfl) :
    wpAny (model prog w) A (eval (.ListComp elt [⟨.Tuple [.Name a pa, .Name b pb] kk tp, iter, [], 0⟩] scope pos) env) Q E s := by
  rw [eval_ListComp]
  refine wpAny_comprehension_free (use := none) rfl hs hclos hkind hnames (wpAny_mono h (fun xv s₁ h₁ => ?_) fun _ _ e => e)
  obtain ⟨hz, tkz, rfl, rfl, zz, zTI, zTO, zi1, zi2, zsz, zold⟩ := h₁
  have lt1 : l1 < s.heap.objs.size := by obtain ⟨_, e, _⟩ := hl1; exact Heap.lt_size e
  have lt2 : l2 < s.heap.objs.size := by obtain ⟨_, e, _⟩ := hl2; exact Heap.lt_size e
  refine wpAny_pyIter_zip zz ?_
  generalize hn : s.heap.objs.size = n at *
  have W := (WalksT.zip2 (prog := prog) (w := w) hh (n + 4) (n + 2) (n + 3) n (n + 1) l1 l2 (zip_apart lt1 lt2) xs ys).toU
  refine wpAny_newObj_type (wpAny_newFunctionEnv hcell (by intro y hy; simp at hy) (fun h₁ hns₁ hsb₁ => ?_) hkind)
  dsimp only at hns₁ hsb₁ ⊢
  generalize hH2 : hz.push { cls := .type "list", dict := none, data := .seq ([] : List Value).toArray } = H2 at hns₁ hsb₁ ⊢
  have hD : hz.objs.size = n + 5 := zsz
  have hC : H2.objs.size = n + 6 := by rw [← hH2, Heap.size_push, hD]
  rw [hD]
  rw [hC] at hns₁ hsb₁ ⊢
  have nlt : ∀ {k b : Nat}, b < n → (@Ne Nat b (n + k)) := fun {k b} h => Nat.ne_of_lt (Nat.lt_of_lt_of_le h (Nat.le_add_right _ _))
  have fresh : ∀ k : Nat, s.heap.get? (n + k : Nat) = none := fun k => Heap.get?_none_of_le (by rw [hn]; exact Nat.le_add_right _ _)
  have zlt : ∀ {c : Addr} {o : Obj}, hz.get? c = some o → (show Nat from c) < n + 5 := fun e => by have := Heap.lt_size e; rw [hD] at this; exact this
  have old : ∀ c o, hz.get? c = some o → h₁.get? c = some o := fun c o e => hsb₁.extBut c o (Nat.ne_of_lt (Nat.lt_of_lt_of_le (zlt e) (Nat.le_add_right _ 1))) (Heap.get?_push_of_some _ (hH2 ▸ Heap.get?_push_of_some _ e))
  have hDC : (n + 5 : Nat) ≠ (n + 6 : Nat) := by (first | lia | omega)
  have hacc : h₁.get? (n + 5 : Nat) = some (lst []) := by
    refine hsb₁.extBut _ _ hDC (Heap.get?_push_of_some _ (hH2 ▸ ?_))
    have := Heap.get?_push_size (o := lst []) hz rfl
    rw [hD] at this; exact this
  have old₁ : ∀ c o, s.heap.get? c = some o → h₁.get? c = some o := fun c o e => old c o (zold c o e)
  have lt1' : @LT.lt Nat _ l1 n := lt1
  have lt2' : @LT.lt Nat _ l2 n := lt2
  have far : ∀ k : Nat, (n + k : Nat) ≠ l1 ∧ (n + k : Nat) ≠ l2 := fun k => ⟨by (first | lia | omega), by (first | lia | omega)⟩
  have wrf : ∀ c ∈ ([n + 4, n + 3, n, n + 1] : List Nat), s.heap.get? c = none := fun c hc => by
    simp at hc
    rcases hc with rfl | rfl | rfl | rfl
    · exact fresh 4
    · exact fresh 3
    · exact fresh 0
    · exact fresh 1
  have loop : ∀ s₃ : Shared, (∃ tk, s₃ = { s with heap := h₁, toks := tk }) →
      codeAny (model prog w) A (.compLoop (.ListComp elt [⟨.Tuple [.Name a pa, .Name b pb] kk tp, iter, [], 0⟩] scope pos) 0 (.ref (n + 4 : Nat)) (.ref (n + 5 : Nat)) (compEnvC scope cl (n + 6 : Nat) env))
        (compPost (model prog w) A E none Q (.ref (n + 5 : Nat)) (n + 6 : Nat)) s₃ := by
    rintro s₃ ⟨tk₀, rfl⟩
    refine kcp_loop
      (fun k s' => ∃ h' tk i ys' m', s' = { s with heap := h', toks := tk } ∧ i ≤ min xs.size ys.size ∧ k = min xs.size ys.size + 1 - i ∧ ys'.length = i ∧ (∀ j v, ys'[j]? = some v → P j v) ∧
        (IsZip h' (n + 4) (n + 2) (n + 3) .none ∧ IsPair h' (n + 2) (.ref n) (.ref (n + 1)) ∧ (∃ a b, IsPair h' (n + 3) a b) ∧ h'.IsListIter n l1 i ∧ h'.IsListIter (n + 1) l2 i ∧ h'.IsList l1 xs ∧ h'.IsList l2 ys) ∧
        h'.Ns (n + 6 : Nat) m' ∧ h'.get? (n + 5 : Nat) = some (lst ys') ∧ (∀ c o, s.heap.get? c = some o → h'.get? c = some o)) ?_ (min xs.size ys.size + 1)
      ⟨h₁, _, 0, [], _, rfl, Nat.zero_le _, rfl, rfl, fun j v h => by simp at h, ?_, hns₁, hacc, old₁⟩
    · rintro k s' ⟨h', tk, i, ys', m', rfl, hi, rfl, hyl, hP, hst, hn', hDD, hold⟩
      by_cases hlt : i < min xs.size ys.size
      · refine W.item i _ _ _ hlt hst fun T vals h₂ tk₂ hPt hT hMid hk₂ => ?_
        refine W.go _ _ _ i T _ _ _ hMid fun h₃ hst₃ hk₃ => ?_
        obtain ⟨x, y, hx, hy, rfl⟩ := hPt
        have hT₃ : h₃.IsTuple T #[x, y] := hT.at fun o e => hk₃ T o (W.apart i T _ hMid) e
        have up : ∀ c o, c ∉ ([n + 4, n + 3, n, n + 1] : List Nat) → h'.get? c = some o → h₃.get? c = some o := fun c o hc e => hk₃ c o hc (hk₂ c o hc e)
        have c6 : (n + 6 : Nat) ∉ ([n + 4, n + 3, n, n + 1] : List Nat) := by simp
        have c5 : (n + 5 : Nat) ∉ ([n + 4, n + 3, n, n + 1] : List Nat) := by simp
        refine kcp_assign (env := compEnvC scope cl (n + 6 : Nat) env) hh hT₃ (lookup_relabel_local hxa) (lookup_relabel_local hxb) (by simp [compEnvC, relabel, hkind]) (hn'.at' fun o e => up _ o c6 e) fun h₄ tk₄ hn₄ hs₄ => ?_
        have hst₄ := W.frame (i + 1) h₃ h₄ hst₃ fun c hc o e => hs₄ c o (fun q => by
          have q' : c = (n + 6 : Nat) := q
          rw [q'] at hc
          simp at hc
          rcases hc with h | h
          · exact (far 6).1 h
          · exact (far 6).2 h) e
        refine wpAny_mono (elem i x y (n + 6 : Nat) _ _ _ hx hy hn₄ (by simp [hab]) (by simp)) (fun v s₄ hv => ?_) fun _ _ e => e
        obtain ⟨hPv, tk₅, rfl⟩ := hv
        have hD₄ : h₄.get? (n + 5 : Nat) = some (lst ys') := hs₄ _ _ hDC (up _ _ c5 hDD)
        refine append_at (hsz := by show ys'.toArray.size ≤ sizeLine; rw [List.size_toArray, hyl]; exact Nat.le_trans hi hsz) hD₄ fun h₆ hs₆ hD₆ => ?_
        refine ⟨min xs.size ys.size + 1 - (i + 1), by (first | lia | omega), h₆, tk₅, i + 1, ys' ++ [v], _, rfl, hlt, rfl, by rw [List.length_append, List.length_singleton, hyl], ?_, W.frame (i + 1) h₄ h₆ hst₄ fun c hc o e => hs₆.extBut c o (fun q => ?_) e, hn₄.sameBut hs₆ (Ne.symm hDC), hD₆.trans (congrArg some (lst_snoc ys' v)), ?_⟩
        · intro j u hj
          by_cases hj' : j < ys'.length
          · rw [List.getElem?_append_left hj'] at hj; exact hP j u hj
          · rw [List.getElem?_append_right (by (first | lia | omega))] at hj
            have : j = i := by
              cases hjj : j - ys'.length with
              | zero => (first | lia | omega)
              | succ q => rw [hjj] at hj; simp at hj
            subst this
            rw [hyl, Nat.sub_self] at hj
            simp at hj
            subst hj; exact hPv
        · have q' : c = (n + 5 : Nat) := q
          rw [q'] at hc
          simp at hc
          rcases hc with h | h
          · exact (far 5).1 h
          · exact (far 5).2 h
        · intro c o e
          have hc1 : c ∉ ([n + 4, n + 3, n, n + 1] : List Nat) := fun hc => by rw [wrf c hc] at e; cases e
          have hc2 : c ≠ (n + 6 : Nat) := fun q => by rw [q, fresh 6] at e; cases e
          have hc3 : c ≠ (n + 5 : Nat) := fun q => by rw [q, fresh 5] at e; cases e
          exact hs₆.extBut c o hc3 (hs₄ c o hc2 (up c o hc1 (hold c o e)))
      · have hin : i = min xs.size ys.size := Nat.le_antisymm hi (Nat.not_lt.mp hlt)
        subst hin
        refine W.done _ _ _ hst fun h₂ tk₂ hk₂ => ?_
        have c6 : (n + 6 : Nat) ∉ ([n + 4, n + 3, n, n + 1] : List Nat) := by simp
        have c5 : (n + 5 : Nat) ∉ ([n + 4, n + 3, n, n + 1] : List Nat) := by simp
        refine ⟨m', hn'.at' fun o e => hk₂ _ o c6 e, fun h'' hs'' => hQ (n + 5 : Nat) h'' tk₂ ys' (Nat.le_add_right _ _) hyl hP (hs''.extBut _ _ hDC (hk₂ _ _ c5 hDD)) fun c o e => ?_⟩
        have hc1 : c ∉ ([n + 4, n + 3, n, n + 1] : List Nat) := fun hc => by rw [wrf c hc] at e; cases e
        have hc2 : c ≠ (n + 6 : Nat) := fun q => by rw [q, fresh 6] at e; cases e
        exact hs''.extBut c o hc2 (hk₂ c o hc1 (hold c o e))
    · exact ⟨old _ _ zz, old _ _ zTI, ⟨_, _, old _ _ zTO⟩, zi1.at fun o e => old _ o e, zi2.at fun o e => old _ o e, hl1.at fun o e => old₁ _ o e, hl2.at fun o e => old₁ _ o e⟩
  have zz₁ : IsZip h₁ (n + 4) (n + 2) (n + 3) .none := old _ _ zz
  exact codeAny_compStart_list (loop _ ⟨_, rfl⟩) (wpAny_pyIter_zip zz₁ (loop _ ⟨_, rfl⟩))
end
end Mine
end
section
theorem Mine.idle11 : True := by
  w_top off
  k_with_none
  trivial
set_option maxRecDepth 100000
set_option maxHeartbeats 2000000
namespace Mine
/-- a letter's signs: the row's end e for 1, and the dot -/
noncomputable def letterS (e : Str) (n : Int) : Str := Txt.mul e n ++ Str.ofString "."
noncomputable def mailS (front : Str) (ns : List Int) (es : List Str) : Str := front ++ ⟨(List.zipWith (fun n e => (letterS e n).cps.toList) ns es).flatten.toArray⟩
theorem letterS_len {e : Str} {n : Int} (hn : n = 0 ∨ n = 1) (he : e.length ≤ 2) : (letterS e n).length ≤ 3 := by
  unfold letterS
  rw [Str.length_append]
  have h1 : (Str.ofString ".").length = 1 := by decide
  rcases hn with rfl | rfl
  · have : Txt.mul e 0 = Str.empty := rfl
    rw [this, h1]; decide
  · have : Txt.mul e 1 = e := rfl
    rw [this, h1]; (first | lia | omega)
theorem mulOk01 {e : Str} {n : Int} (hn : n = 0 ∨ n = 1) : MulOk e n := by
  rcases hn with rfl | rfl
  · exact ⟨by decide, fun h => absurd (by decide) h, fun h => absurd (by decide) h⟩
  · exact ⟨by decide, fun _ h => by simp at h, fun _ h => by simp at h⟩
section
variable {prog : Program} {w : World} {A : Around} {E : Value → Shared → Prop} {s : Shared} {env : Env}
theorem elem_mail {scope : Scope} {cl : List (Str × Addr)} {C : Addr} {m₂ : Str → Option Value} {n : Int} {e : Str} {t u : Tok} {p1 p2 p3 p4 p5 : Pos} {kc : Nat} {Q : Value → Shared → Prop} (hn : n = 0 ∨ n = 1) (he : e.length ≤ 2) (hns : s.heap.Ns C m₂) (h1 : m₂ (Str.ofString "letter") = some (.int n t)) (h2 : m₂ (Str.ofString "end") = some (.str e u))
    (hkind : scope.kind = .function) (hx1 : scope.names.lookup (Str.ofString "letter") = some .local) (hx2 : scope.names.lookup (Str.ofString "end") = some .local)
    (hQ : ∀ t' tk, Q (.str (letterS e n) t') { s with toks := tk }) :
    wpAny (model prog w) A (eval (.BinOp (.BinOp (.Name (Str.ofString "end") p1) .Mult (.Name (Str.ofString "letter") p2) p3) .Add (.Constant (.str (Str.ofString ".")) kc p4) p5) (PySem.compEnvC scope cl C env)) Q E s := by
  have hk : (PySem.compEnvC scope cl C env).scope.kind = .function := by simp [compEnvC, relabel, hkind]
  refine wpAny_BinOp (wpAny_BinOp ?_)
  refine wpAny_Name (wpAny_loadName_local hk (lookup_relabel_local hx2) hns h2 ?_)
  refine wpAny_Name (wpAny_loadName_local hk (lookup_relabel_local hx1) hns h1 ?_)
  refine SB.mul (mulOk01 hn) fun t' k => ?_
  refine Calls.Constant_str ?_
  refine SB.add (fun t'' k' => hQ t'' k') ?_
  have := letterS_len hn he
  unfold letterS at this
  rw [Str.length_append] at this
  rw [sizeLine_eq]; (first | lia | omega)
end
theorem zs_vals {ns : List Int} {ws es : List Value} {els : List Str} (hw : IntsAre ws ns) (he : StrsAre es els) {zs : List Value} (hl : zs.length = min ws.toArray.size es.toArray.size)
    (hP : ∀ (i : Nat) (v : Value), zs[i]? = some v → ∃ n t e u t', ws[i]? = some (Value.int n t) ∧ es[i]? = some (Value.str e u) ∧ v = Value.str (letterS e n) t') : Vals 0 zs (List.zipWith (fun n e => (letterS e n).cps.toList) ns els) := by
  simp only [List.size_toArray] at hl
  induction hw generalizing es els zs with
  | nil =>
    simp at hl
    subst hl
    exact .nil
  | cons n t hw ih =>
    cases he with
    | nil => simp at hl; subst hl; exact .nil
    | cons e u he =>
      cases zs with
      | nil => simp at hl
      | cons z zs =>
        obtain ⟨n', t0, e', u', t', h1, h2, h3⟩ := hP 0 z (by simp)
        simp at h1 h2
        obtain ⟨rfl, rfl⟩ := h1
        obtain ⟨rfl, rfl⟩ := h2
        rw [List.zipWith_cons_cons]
        refine .cons (.inl ⟨rfl, t', by rw [h3]⟩) (ih he ?_ ?_)
        · intro i v hv
          have := hP (i + 1) v (by simpa using hv)
          simpa using this
        · simp at hl; (first | lia | omega)
theorem zip_flat_len {ns : List Int} {els : List Str} (h1 : ∀ n ∈ ns, n = 0 ∨ n = 1) (h2 : ∀ e ∈ els, e.length ≤ 2) : (List.zipWith (fun n e => (letterS e n).cps.toList) ns els).flatten.length ≤ 3 * ns.length := by
  induction ns generalizing els with
  | nil => simp
  | cons n ns ih =>
    cases els with
    | nil => simp
    | cons e els =>
      rw [List.zipWith_cons_cons, List.flatten_cons, List.length_append, List.length_cons]
      have a := ih (els := els) (fun n hn => h1 n (.tail _ hn)) fun e he => h2 e (.tail _ he)
      have b : (letterS e n).cps.toList.length ≤ 3 := letterS_len (h1 n (.head _)) (h2 e (.head _))
      (first | lia | omega)
theorem call_join0 {prog : Program} {w : World} {A : Around} {E : Value → Shared → Prop} {s : Shared} {D : Addr} {vs : List Value} {cs : List (List Nat)} {t : Tok} {Q : Value → Shared → Prop}
    (hv : Vals 0 vs cs) (hL : s.heap.IsList D vs.toArray) (hsz : cs.flatten.length ≤ 1000000) (hQ : ∀ t tk, Q (.str ⟨cs.flatten.toArray⟩ t) { s with toks := tk }) :
    wpAny (model prog w) A (call (.builtin "str.join") [.str (Str.ofString "") t, .ref D]) Q E s := by
  refine call_join (kind := 0) (j := .str (Str.ofString "") t) (.inl ⟨rfl, t, rfl⟩) hv hL hsz fun v tk h => ?_
  rcases h with ⟨_, t', rfl⟩ | ⟨h, _⟩
  · exact hQ t' tk
  · cases h
theorem strs_at {es : List Value} {els : List Str} (h : StrsAre es els) : ∀ {i : Nat} {v : Value}, es[i]? = some v → ∃ e u, v = .str e u ∧ e ∈ els := by
  induction h with
  | nil => intro i v h; simp at h
  | cons e u _ ih =>
    intro i v h
    cases i with
    | zero => simp at h; exact ⟨e, u, h.symm, .head _⟩
    | succ i =>
      obtain ⟨e', u', h1, h2⟩ := ih (i := i) (by simpa using h)
      exact ⟨e', u', h1, .tail _ h2⟩
noncomputable def CMl (w : World) : Prop := ∀ (front : Str) (t : Tok) (la le : Addr) (ws es : List Value) (k1 k2 : Nat) (ns : List Int) (els : List Str), IntsAre ws ns → StrsAre es els → (∀ n ∈ ns, n = 0 ∨ n = 1) → (∀ e ∈ els, e.length ≤ 2) → ns.length ≤ 1000 → front.length ≤ 10000 →
  SpP w 114 [.str front t, .ref la, .ref le] 4 60 (fun news => (la, listOf ws.toArray k1) ∈ news ∧ (le, listOf es.toArray k2) ∈ news) (fun tl r => tl = [] ∧ ∃ t, r = .str (mailS front ns els) t)
theorem run23 : True := by
  k_with "eval ListComp" => (refine held ?_)
  trivial
theorem News.addAt {h₀ h h' : Heap} {L D : Addr} {m : Str → Option Value} {news : List (Addr × Obj)} {o : Obj} (F : Fr h₀ L h m) (N : News h₀ L h news) (hD : h.objs.size ≤ D) (e : h'.get? D = some o) (k : ∀ b o, h.get? b = some o → h'.get? b = some o) :
    News h₀ L h' ((D, o) :: news) := fun p hp => by
  rcases List.mem_cons.mp hp with rfl | hp
  · refine ⟨e, fun q => ?_, ?_⟩
    · have q' : D = L := q
      rw [q'] at hD
      exact Nat.lt_irrefl _ (Nat.lt_of_lt_of_le F.ns.lt hD)
    · cases hq : h₀.get? D with
      | none => rfl
      | some o' => exact absurd (Heap.lt_size (F.keep _ _ hq)) (Nat.not_lt.mpr hD)
  · exact N.grown k p hp
theorem run24 : True := by
  k_with "call type:zip" => (exact zipSrc_call ⟨_, rfl⟩ (by assumption) (by assumption))
  k_with "call builtin:str.join" => (refine' call_join0 (by assumption) ?j67hL (Nat.le_trans (zip_flat_len (by assumption) (by assumption)) (by (first | lia | omega))) ?_; (case j67hL => exact News.isList (by k_asm) (List.Mem.head _)); intro _ _)
  trivial
theorem mail_size {front : Str} {ns : List Int} {els : List Str} (h1 : ∀ n ∈ ns, n = 0 ∨ n = 1) (h2 : ∀ e ∈ els, e.length ≤ 2) (hl : ns.length ≤ 1000) (hf : front.length ≤ 10000) :
    front.length + Str.length ⟨(List.zipWith (fun n e => (letterS e n).cps.toList) ns els).flatten.toArray⟩ ≤ sizeLine := by
  have := zip_flat_len h1 h2
  have e : Str.length ⟨(List.zipWith (fun n e => (letterS e n).cps.toList) ns els).flatten.toArray⟩ = (List.zipWith (fun n e => (letterS e n).cps.toList) ns els).flatten.length := List.size_toArray
  rw [e, sizeLine_eq]; (first | lia | omega)
theorem run25 : True := by
  k_with "binaryOp Add str str" => (refine SB.add (fun _ _ => ?_) (mail_size (by assumption) (by assumption) (by assumption) (by assumption)))
  trivial
theorem cml (w : World) : CMl w := by
  intro front t la le ws es k1 k2 ns els hw he h01 h2 hl hfr
  unfold SpP
  k_fill
  intro p loose mean mg mb dp un gd cn cs a ccd cl outer A₀ base h₀ L m news s Q E B F X N T hk hp hdp hun hret
  obtain ⟨hp1, hp2⟩ := hp
  refine wpAny_call ?_
  k_dflt ktr_enter
  k_steps
  unfold Held
  rename Fr _ _ _ _ => F1
  rename News _ _ _ _ => N1
  have g1 := News.isList N1 (by k_mem : (la, listOf ws.toArray k1) ∈ _)
  have g2 := News.isList N1 (by k_mem : (le, listOf es.toArray k2) ∈ _)
  have hwl := IntsAre.length hw
  refine comp_zip (fun i v => ∃ n t e u t', ws[i]? = some (Value.int n t) ∧ es[i]? = some (Value.str e u) ∧ v = Value.str (letterS e n) t') rfl (by rw [sizeLine_eq, List.size_toArray]; (first | lia | omega)) g1 g2 (by with_unfolding_all rfl) (by decide) (by rfl) (by decide) (by rfl) (by rfl) (by decide) ?_ ?_ ?_
  · intro i x y C m₂ s' E' hx hy hns hma hmb
    obtain ⟨n, t1, rfl, hn⟩ : ∃ n t1, x = .int n t1 ∧ n ∈ ns := by
      obtain ⟨k, t, e, hk⟩ := IntsAre.at hw i x (by simpa using hx)
      exact ⟨k, t, e, List.mem_of_getElem? hk⟩
    obtain ⟨e, u1, rfl, he1⟩ := strs_at he (i := i) (v := y) (by simpa using hy)
    exact elem_mail (h01 n hn) (h2 e he1) hns hma hmb rfl (by rfl) (by rfl) fun t' tk => ⟨⟨n, t1, e, u1, t', by simpa using hx, by simpa using hy, rfl⟩, tk, rfl⟩
  · intro D h' tk zs hD hlen hP hget hold
    have F2 := F1.kept hold
    have N2 := News.addAt F1 N1 hD hget hold
    have hvz := zs_vals hw he (by rw [hlen]) hP
    clear F1 N1
    k_steps
    exact hret _ [] _ _ (by k_asm) (News.tail' (by k_asm)) (fun _ _ _ hp => nomatch hp) ⟨rfl, _, rfl⟩
  · k_steps
end Mine
end
section
open PySem.Builtin.Str PySem.StrLaws
set_option maxRecDepth 100000
namespace Mine
/-- rows with return and feed between -/
noncomputable def joinL : List (List Nat) → List Nat
  | [] => []
  | r :: rs => match rs with
    | [] => r
    | _ :: _ => r ++ 13 :: 10 :: joinL rs
theorem joinL_one (r : List Nat) : joinL [r] = r := rfl
theorem joinL_two (r q : List Nat) (rs : List (List Nat)) : joinL (r :: q :: rs) = r ++ 13 :: 10 :: joinL (q :: rs) := rfl
noncomputable abbrev crlfS : Str := ⟨#[13, 10]⟩
theorem at_iff (x : Str) (k : Nat) : At x crlfS x.length k ↔ ∃ t, x.cps.toList.drop k = 13 :: 10 :: t := by
  have hl : x.length = x.cps.toList.length := by simp [Str.length]
  unfold At
  rw [subAt_eq, beq_iff_eq]
  have h2 : crlfS.length = 2 := rfl
  have h3 : crlfS.cps.toList = [13, 10] := rfl
  rw [h2, h3, hl]
  constructor
  · rintro ⟨h, e⟩
    refine ⟨(x.cps.toList.drop k).drop 2, ?_⟩
    have := List.take_append_drop 2 (x.cps.toList.drop k)
    rw [e] at this
    exact this.symm
  · rintro ⟨t, e⟩
    have hlen := congrArg List.length e
    rw [List.length_drop, List.length_cons, List.length_cons] at hlen
    exact ⟨by (first | lia | omega), by rw [e]; rfl⟩
theorem sub_drop (x : Str) (a : Nat) : strSub x a x.length = ⟨(x.cps.toList.drop a).toArray⟩ := by
  apply Str.ext'
  apply Array.toList_inj.mp
  rw [strSub_toList]
  exact List.take_of_length_le (by simp [Str.length])
theorem split_chain (x : Str) : ∀ (rows : List (List Nat)) (a : Nat) (cuts : List Nat) (f : Nat), rows ≠ [] → (∀ r ∈ rows, 13 ∉ r) → x.cps.toList.drop a = joinL rows → ChainG x crlfS x.length a cuts f → (∀ k, f ≤ k → ¬ At x crlfS x.length k) →
    partsFrom x 2 a cuts = rows.map fun r => (⟨r.toArray⟩ : Str)
  | [], _, _, _, h, _, _, _, _ => absurd rfl h
  | [r], a, cuts, f, _, h13, e, hG, hT => by
    rw [joinL_one] at e
    have no : ∀ k, a ≤ k → ¬ At x crlfS x.length k := fun k hk hA => by
      obtain ⟨t, et⟩ := (at_iff x k).mp hA
      have : x.cps.toList.drop k = r.drop (k - a) := by rw [← e, List.drop_drop]; congr 1; (first | lia | omega)
      rw [this] at et
      exact h13 r (.head _) (List.mem_of_mem_drop (i := k - a) (by rw [et]; exact .head _))
    cases cuts with
    | nil =>
      show [strSub x a x.length] = _
      rw [sub_drop, e]; rfl
    | cons c cr => exact absurd hG.2.1 (no c hG.1)
  | r :: q :: rs, a, cuts, f, _, h13, e, hG, hT => by
    rw [joinL_two] at e
    have hat : At x crlfS x.length (a + r.length) := by
      rw [at_iff]
      refine ⟨joinL (q :: rs), ?_⟩
      rw [← List.drop_drop, e, List.drop_left]
    have no : ∀ k, a ≤ k → k < a + r.length → ¬ At x crlfS x.length k := fun k hk hk2 hA => by
      obtain ⟨t, et⟩ := (at_iff x k).mp hA
      have : x.cps.toList.drop k = (r ++ 13 :: 10 :: joinL (q :: rs)).drop (k - a) := by rw [← e, List.drop_drop]; congr 1; (first | lia | omega)
      rw [this, List.drop_append_of_le_length (by (first | lia | omega))] at et
      cases hd : r.drop (k - a) with
      | nil =>
        have := congrArg List.length hd
        rw [List.length_drop, List.length_nil] at this
        (first | lia | omega)
      | cons y ys =>
        rw [hd] at et
        injection et with e1 e2
        exact h13 r (.head _) (List.mem_of_mem_drop (i := k - a) (by rw [hd, e1]; exact .head _))
    cases cuts with
    | nil =>
      have : f = a := hG
      exact absurd hat (hT _ (by (first | lia | omega)))
    | cons c cr =>
      obtain ⟨g1, g2, g3, g4⟩ := hG
      have hc : c = a + r.length := by
        by_cases h1 : c < a + r.length
        · exact absurd g2 (no c g1 h1)
        · by_cases h2 : a + r.length < c
          · exact absurd hat (g3 _ (by (first | lia | omega)) h2)
          · (first | lia | omega)
      subst hc
      have hd : x.cps.toList.drop (a + r.length + 2) = joinL (q :: rs) := by
        rw [← List.drop_drop, ← List.drop_drop, e, List.drop_left]; rfl
      show strSub x a (a + r.length) :: partsFrom x 2 (a + r.length + 2) cr = _
      rw [split_chain x (q :: rs) (a + r.length + 2) cr f (by simp) (fun p hp => h13 p (.tail _ hp)) hd g4 hT]
      have : strSub x a (a + r.length) = ⟨r.toArray⟩ := by
        apply Str.ext'
        apply Array.toList_inj.mp
        rw [strSub_toList, e]
        have : a + r.length - a = r.length := by (first | lia | omega)
        rw [this]; simp
      rw [this]; rfl
theorem split_rows (rows : List (List Nat)) (hne : rows ≠ []) (h13 : ∀ r ∈ rows, 13 ∉ r) : Txt.split ⟨(joinL rows).toArray⟩ crlfS = rows.map fun r => (⟨r.toArray⟩ : Str) := by
  generalize hx : (⟨(joinL rows).toArray⟩ : Str) = x
  obtain ⟨f, hG, hT⟩ := occ_tight x crlfS (by decide)
  have e : x.cps.toList.drop 0 = joinL rows := by rw [← hx]; simp
  have key := split_chain x rows 0 _ f hne h13 e hG hT
  unfold Txt.split
  have hk : Builtin.Str.strKind crlfS = 1 := by decide +kernel
  have hk2 : 1 ≤ Builtin.Str.strKind x := by
    unfold Builtin.Str.strKind
    split
    · decide
    · split <;> decide
  by_cases hs : x.length < 2
  · rw [if_pos (by simp; left; exact hs)]
    cases rows with
    | nil => exact absurd rfl hne
    | cons r rs =>
      cases rs with
      | nil => rw [← hx]; rfl
      | cons q rs =>
        rw [joinL_two] at e
        have := congrArg List.length e
        simp [Str.length] at this hs
        (first | lia | omega)
  · rw [if_neg (by rw [hk]; simp; exact ⟨by have : crlfS.length = 2 := rfl; (first | lia | omega), by (first | lia | omega)⟩)]
    by_cases ho : (occurrences x crlfS 0 x.length (x.length + 1)).isEmpty = true
    · rw [if_pos ho]
      rw [List.isEmpty_iff] at ho
      rw [ho] at key
      rw [← key]
      show [x] = [strSub x 0 x.length]
      rw [sub_whole]
    · rw [if_neg ho, partsBetween_eq]; exact key
end Mine
end
section
namespace Mine
section
variable {prog : Program} {w : World} {A : Around} {E : Value → Shared → Prop} {s : Shared} {h₀ : Heap} {L : Addr} {m : Str → Option Value} {news : List (Addr × Obj)}
theorem addK {la lb : Addr} {vs ws : List Value} {k1 k2 : Nat} {Q : Value → Shared → Prop} (F : Fr h₀ L s.heap m) (N : News h₀ L s.heap news) (ha : (la, listOf vs.toArray k1) ∈ news) (hb : (lb, listOf ws.toArray k2) ∈ news)
    (hsz : vs.length + ws.length ≤ 2 ^ 24) (h : ∀ D h', Fr h₀ L h' m → News h₀ L h' ((D, listOf (vs ++ ws).toArray 0) :: news) → (∀ p ∈ news, p.1 < D) → Q (.ref D) { s with heap := h' }) :
    wpAny (model prog w) A (binaryOp .Add (.ref la) (.ref lb)) Q E s :=
  add_lists F N (News.isList N ha) (News.isList N hb) (fun h' F' N' => h _ h' F' N' fun p hp => Heap.lt_size (N p hp).1) (by rw [sizeLine_eq]; (first | lia | omega))
theorem lenS {x : Str} {t : Tok} {Q : Value → Shared → Prop} (hl : x.length ≤ 1000000) (h : ∀ t tk, Q (.int x.length t) { s with toks := tk }) : wpAny (model prog w) A (call (.builtin "len") [.str x t]) Q E s :=
  SBL.len (by (first | lia | omega)) (h _ _)
end
theorem not_long {b : Bool} {n : Nat} (h : n ≤ 16777216) : ¬ ((b && Builtin.List.listTooLong n) = true) := by
  have : Builtin.List.listTooLong n = false := by
    unfold Builtin.List.listTooLong
    exact decide_eq_false (by rw [sizeLine_eq]; (first | lia | omega))
  rw [this, Bool.and_false]; exact Bool.false_ne_true
end Mine
end
section
theorem Mine.idle12 : True := by
  w_top off
  k_with_none
  trivial
set_option maxRecDepth 100000
set_option maxHeartbeats 2000000
namespace Mine
section
variable {prog : Program} {w : World} {A : Around} {E : Value → Shared → Prop} {s : Shared} {env : Env} {h₀ : Heap} {x : Str} {body : List Stmt} {Q : Flow → Shared → Prop}
theorem listRest_ind {I : Addr} {lp : Addr × Obj} (Inv : List Value → (Str → Option Value) → List (Addr × Obj) → Prop)
    (zero : ∀ m news, Inv [] m news → ∀ h tk, Fr h₀ env.locals h m → News h₀ env.locals h news → Q .next { s with heap := h, toks := tk })
    (succ : ∀ v r m news, Inv (v :: r) m news → ∀ (it : Obj) h tk, it.cls = .type "list_iterator" → Fr h₀ env.locals h (fun y => if y = x then some v else m y) → News h₀ env.locals h ((I, it) :: news) →
      wpAny (model prog w) A (execs body env) (UnrPost h₀ env.locals { s with heap := h, toks := tk } I it (fun m' n' => lp ∈ n' ∧ Inv r m' n') Q) E { s with heap := h, toks := tk }) :
    ∀ rem m news, Inv rem m news → ListRest prog w A E h₀ env x body Q s I lp rem m news := by
  intro rem
  induction rem with
  | nil => intro m news hI; exact ListRest.zero (zero m news hI)
  | cons v r ih =>
    intro m news hI
    refine ListRest.succ fun it h tk hc F N => ?_
    exact wpAny_mono (succ v r m news hI it h tk hc F N) (fun f s₂ p => unr_mono (fun m' n' q => ⟨q.1, ih m' n' q.2⟩) p) fun _ _ x => x
theorem rangeRest_ind {I : Addr} {a : Int} {n : Nat} (Inv : Nat → (Str → Option Value) → List (Addr × Obj) → Prop)
    (zero : ∀ m news, Inv n m news → ∀ h tk, Fr h₀ env.locals h m → News h₀ env.locals h news → Q .next { s with heap := h, toks := tk })
    (succ : ∀ i m news, i < n → Inv i m news → ∀ t h tk, Fr h₀ env.locals h (fun y => if y = x then some (.int (a + (i : Int)) t) else m y) → News h₀ env.locals h ((I, itR (a + ((i + 1 : Nat) : Int)) ((n : Int) - ((i + 1 : Nat) : Int))) :: news) →
      wpAny (model prog w) A (execs body env) (UnrPost h₀ env.locals { s with heap := h, toks := tk } I (itR (a + ((i + 1 : Nat) : Int)) ((n : Int) - ((i + 1 : Nat) : Int))) (Inv (i + 1)) Q) E { s with heap := h, toks := tk }) :
    ∀ k i m news, i + k = n → Inv i m news → RangeRest prog w A E h₀ env x body Q s I a n k i m news := by
  intro k
  induction k with
  | zero => intro i m news hi hI; rw [Nat.add_zero] at hi; subst hi; exact RangeRest.zero (zero m news hI)
  | succ k ih =>
    intro i m news hi hI
    refine RangeRest.succ fun t h tk F N => ?_
    exact wpAny_mono (succ i m news (by (first | lia | omega)) hI t h tk F N) (fun f s₂ p => unr_mono (fun m' n' q => ih (i + 1) m' n' (by (first | lia | omega)) q) p) fun _ _ x => x
end
theorem crlf_eq : Str.ofString "\r\n" = crlfS := by decide +kernel
/-- the word that the rows tell -/
noncomputable def tailW (rs : List (List Nat)) : List Int := rs.flatMap fun r => 1 :: List.replicate (r.length - 1) 0
noncomputable def wordW (k : Nat) (r0 : List Nat) (rs : List (List Nat)) : List Int := List.replicate (r0.length - k) 0 ++ tailW rs
noncomputable def CW (w : World) : Prop := ∀ (front : Str) (r0 : List Nat) (rs : List (List Nat)) (t u : Tok), (∀ r ∈ r0 :: rs, 13 ∉ r) → (∀ r ∈ rs, 1 ≤ r.length) → front.length ≤ r0.length → (joinL (r0 :: rs)).length ≤ 10000 →
  Sp w 121 [.str front t, .str ⟨(joinL (r0 :: rs)).toArray⟩ u] 4 60 (fun tl r => ∃ la vs ep, r = .ref la ∧ tl = [(la, listOf vs.toArray ep)] ∧ IntsAre vs (wordW front.length r0 rs))
theorem strs_of {l : List (Str × Tok)} {rows : List (List Nat)} (e : l.map (·.1) = rows.map fun r => (⟨r.toArray⟩ : Str)) : StrsAre (strValues l) (rows.map fun r => (⟨r.toArray⟩ : Str)) := by
  rw [← e]; exact strsAre_of_values l
local macro_rules | `(tactic| walk_at "p1x4") => `(tactic| (intro D' l' h' k' e' a' F' N' l1; (try k_lt l1); rw [crlf_eq, split_rows _ (by simp) (by assumption)] at e'; (have ha := strs_of e'); (generalize strValues l' = rv at *); clear a' e'; cases ha; rename_i t0 rv ha))
theorem run26 : True := by
  k_with "call builtin:str.split" => (k_here; (refine' KSpl.split1 ?j69F ?j69N (by decide) ?_ ?j69sz; (case j69F => k_asm); (case j69N => k_asm); (case j69sz => (rw [sizeLine_eq]; (simp only [Str.length, List.size_toArray]); (first | lia | omega)))); walk_at "p1x4")
  k_with "call builtin:len" => (k_here; refine' lenS ?j70l ?_; (case j70l => (try simp only [Str.length, List.size_toArray]); (first | lia | omega)); intro _ _)
  k_with "binaryOp Mult ref int" => (k_here; k_dflt (refine' mulK ?j71F ?j71N ?j71m ?j71lo ?j71hi ?j71z ?_; (case j71F => k_asm); (case j71N => k_asm); (case j71m => k_mem); (case j71lo => ((try simp only [Str.length, List.size_toArray] at *); (first | lia | omega))); (case j71hi => ((try simp only [Str.length, List.size_toArray] at *); (first | lia | omega))); (case j71z => ((try simp only [Str.length, List.size_toArray, List.length_cons, List.length_nil] at *); (first | lia | omega)))); walk_at "s5")
  k_with "binaryOp Add ref ref" => (k_here; k_dflt (refine' addK ?j72F ?j72N ?j72m ?j72mm ?j72z ?_; (case j72F => k_asm); (case j72N => k_asm); (case j72m => k_mem); (case j72mm => k_mem); (case j72z => ((simp only [rep_len, List.length_cons, List.length_nil, Str.length, List.size_toArray] at *); (first | lia | omega)))); walk_at "s5")
  trivial
theorem slice_one {v : Value} {rv : List Value} : (slicePick (v :: rv).toArray (some 1) none none).toList = rv := by
  have := slicePick_from (v :: rv).toArray 1 (by simp)
  rw [show ((1 : Nat) : Int) = (1 : Int) from rfl] at this
  rw [this]; simp
theorem run27 : True := by
  k_with "subscriptTail Name Slice ref ref" => (k_here; k_dflt (refine' kmk_slice_lit ?j73F ?j73N ?j73l ?j73pl ?j73pu slice_one ?_ ?j73hs ?j73ht ?j73z; (case j73F => k_asm); (case j73N => k_asm); (case j73l => exact News.isList (by k_asm) (by k_mem)); (case j73pl => exact .int _ _); (case j73pu => exact .none); (case j73hs => with_unfolding_all rfl); (case j73ht => (intro _; with_unfolding_all rfl)); (case j73z => (rw [sizeLine_eq, List.size_toArray, List.length_cons, StrsAre.length (by assumption), List.length_map]; (first | lia | omega)))); walk_at "s5")
  k_with "exec For Name Subscript cons nil" => (k_here; walk_at "s6")
  k_with "pyIter ref" => (refine held ?_)
  trivial
theorem joinL_mem_len : ∀ {rows : List (List Nat)} {r : List Nat}, r ∈ rows → r.length ≤ (joinL rows).length
  | [q], r, h => by rw [List.mem_singleton.mp h]; exact Nat.le_refl _
  | q :: p :: rs, r, h => by
    rw [joinL_two, List.length_append]
    rcases List.mem_cons.mp h with rfl | h
    · (first | lia | omega)
    · have := joinL_mem_len h
      simp only [List.length_cons]; (first | lia | omega)
theorem joinL_count : ∀ (rows : List (List Nat)), rows.length ≤ (joinL rows).length + 1
  | [] => by simp
  | [q] => by simp
  | q :: p :: rs => by
    rw [joinL_two, List.length_append]
    have := joinL_count (p :: rs)
    simp only [List.length_cons] at this ⊢; (first | lia | omega)
theorem tailW_len : ∀ (rs : List (List Nat)) (r0 : List Nat), (∀ r ∈ rs, 1 ≤ r.length) → (tailW rs).length + r0.length ≤ (joinL (r0 :: rs)).length
  | [], r0, _ => by simp [tailW, joinL_one]
  | q :: rs, r0, h => by
    rw [joinL_two, List.length_append]
    have := tailW_len rs q fun r hr => h r (.tail _ hr)
    have h1 := h q (.head _)
    have e : (tailW (q :: rs)).length = q.length + (tailW rs).length := by
      simp only [tailW, List.flatMap_cons, List.length_append, List.length_cons, List.length_replicate]; (first | lia | omega)
    rw [e]
    simp only [List.length_cons]; (first | lia | omega)
theorem tailW_append (a b : List (List Nat)) : tailW (a ++ b) = tailW a ++ tailW b := by simp [tailW]
theorem tailW_one (r : List Nat) : tailW [r] = 1 :: List.replicate (r.length - 1) 0 := by simp [tailW]
theorem map1 {m m0 : Str → Option Value} {x1 : Str} (h : ∀ y, y ≠ x1 → m y = m0 y) : m = fun y => if y = x1 then m x1 else m0 y := by
  funext y
  by_cases e1 : y = x1
  · rw [if_pos e1, e1]
  · rw [if_neg e1, h y e1]
theorem run28 : True := by
  k_with "call builtin:list.extend" => (k_here; (with_reducible show wpAny _ _ (call (Value.builtin _) [Value.ref _, Value.ref _]) _ _ _); k_dflt (refine' kl_extend ?j76F ?j76N ?j76b ?j76e ?j76ne ?j76U ?j76d ?j76z ?j76y ?_; (case j76F => k_asm); (case j76N => k_asm); (case j76b => exact List.Mem.head _); (case j76U => k_upd); (case j76e => exact rfl); (case j76ne => exact Nat.succ_ne_zero _); (case j76d => (refine not_long ?_; (try dsimp only); simp only [List.size_toArray, List.length_append, List.length_cons, List.length_nil, rep_len, Str.length]; (first | lia | omega))); (case j76z => (rw [sizeLine_eq]; simp only [List.toList_toArray]; (first | lia | omega))); (case j76y => (rw [sizeLine_eq]; (try dsimp only); simp only [List.size_toArray, List.length_append, List.length_cons, List.length_nil, rep_len, Str.length]; (first | lia | omega)))); intro _ _ _; (try k_sweep))
  trivial
theorem allLt_of {d : Addr} {l : List (Addr × Obj)} (h : ∀ p ∈ l, p.1 < d) : AllLt d l := by
  induction l with
  | nil => trivial
  | cons x r ih => exact ⟨h x (.head _), ih fun p hp => h p (.tail _ hp)⟩
structure WInv (rs : List (List Nat)) (z : List Int) (DW : Addr) (m0 : Str → Option Value) (news : List (Addr × Obj)) (rem : List Value) (m1 : Str → Option Value) (nws : List (Addr × Obj)) (dn rd : List (List Nat)) (vs : List Value) (k : Nat) (u1 : Option Value) : Prop where
  c1 : StrsAre rem (rd.map fun r => (⟨r.toArray⟩ : Str))
  c2 : rs = dn ++ rd
  c3 : IntsAre vs (z ++ tailW dn)
  c4 : m1 = (fun y => if y = Str.ofString "row" then u1 else m0 y)
  c5 : nws = (DW, listOf vs.toArray k) :: news
theorem cw (w : World) : CW w := by
  intro front r0 rs t u h13 hrs1 hfr hl
  have hr0 : r0.length ≤ 10000 := Nat.le_trans (joinL_mem_len (.head _)) hl
  have hrs : ∀ r ∈ rs, r.length ≤ 10000 := fun r hr => Nat.le_trans (joinL_mem_len (.tail _ hr)) hl
  have hcnt : rs.length ≤ 10000 := by
    have := joinL_count (r0 :: rs)
    rw [List.length_cons] at this; (first | lia | omega)
  have hfl : front.cps.size ≤ r0.length := hfr
  unfold Sp
  k_fill
  intro p loose mean mg mb dp un gd cn cs a ccd cl outer A₀ base h₀ L m news s Q E B F X N T hk hdp hun hret
  refine wpAny_call ?_
  k_dflt ktr_enter
  k_steps
  rename_i DR lR hR kR lA t0 rv ha h4 tk4 dI h3 lB ta ka tb kb DW h2 lC h1 F1 N1 DS hS FF NN lD
  unfold Held
  have hrl := StrsAre.length ha
  rw [List.length_map] at hrl
  have hT := tailW_len rs r0 hrs1
  generalize hz : (List.replicate ((Str.length ⟨r0.toArray⟩ : Int) - (front.length : Int)).toNat [Value.int 0 tk4]).flatten = z0 at *
  have hzi : IntsAre z0 (List.replicate (r0.length - front.length) 0) := by
    rw [← hz]
    have e : ((Str.length ⟨r0.toArray⟩ : Int) - (front.length : Int)).toNat = r0.length - front.length := by
      have : Str.length ⟨r0.toArray⟩ = r0.length := List.size_toArray
      rw [this]; (first | lia | omega)
    rw [e]; exact ints_rep _
  have NN' : News _ _ hS ((DW, listOf z0.toArray 0) :: (DS, listOf rv.toArray 0) :: news) := News.sub NN fun p hp => by
    simp only [List.mem_cons] at hp ⊢
    rcases hp with h | h | h <;> simp [h]
  clear NN N1
  obtain ⟨lD1, lD2, lD3, lD4⟩ := lD
  have hAll : ∀ p ∈ news, p.1 < DW := of_allLt lC.2.2
  refine with_m FF fun m0 hm0 FF0 => ?_
  refine iter_listUnr (n := 0) rfl FF0 NN' (.tail _ (.head _)) rfl rfl fun I hI => listRest_ind (fun rem m1 nws => ∃ (dn rd : List (List Nat)) (vs : List Value) (k : Nat) (u1 : Option Value), WInv rs (List.replicate (r0.length - front.length) 0) DW m0 ((DS, listOf rv.toArray 0) :: news) rem m1 nws dn rd vs k u1) ?zero ?succ _ _ _ ?init
  case init =>
    exact ⟨[], rs, z0, 0, m0 (Str.ofString "row"), ha, rfl, by simpa [tailW] using hzi, map1 fun _ _ => rfl, rfl⟩
  case zero =>
    rintro m1 nws ⟨dn, rd, vs, k, u1, hrem, rfl, hvs, rfl, rfl⟩ h tk F1 N1
    subst hm0
    have : rd = [] := by
      cases hrem' : rd with
      | nil => rfl
      | cons q qs => rw [hrem'] at hrem; cases hrem
    subst this
    rw [List.append_nil] at *
    (try k_fold)
    k_steps
    exact hret _ [_] _ _ (by k_asm) (News.fin1 (mid := [_]) (by k_asm)) (one_lts hAll) ⟨DW, vs, k, rfl, rfl, hvs⟩
  case succ =>
    rintro v rem m1 nws ⟨dn, rd, vs, k, u1, hrem, rfl, hvs, rfl, rfl⟩ it h tk hit F1 N1
    cases rd with
    | nil => cases hrem
    | cons q rd' =>
      cases hrem with
      | cons _ tq hrem' =>
        subst hm0
        have hI1 : @LT.lt Nat _ DW I := hI _ (.head _)
        have hI2 : @LT.lt Nat _ DS I := hI _ (.tail _ (.head _))
        have hI' : ∀ p ∈ (DW, listOf vs.toArray k) :: (DS, listOf rv.toArray 0) :: news, p.1 < I := fun p hp => by
          rcases List.mem_cons.mp hp with rfl | hp
          · exact hI1
          · exact hI p (.tail _ hp)
        have hI3 : AllLt I news := allLt_of fun p hp => hI p (.tail _ (.tail _ hp))
        have hq1 := hrs1 q (by simp)
        have hq2 := hrs q (by simp)
        have hvl := IntsAre.length hvs
        rw [List.length_append, List.length_replicate] at hvl
        rw [tailW_append, List.length_append] at hT
        (try k_fold)
        k_steps
        rename Fr _ _ _ _ => FZ
        rename News _ _ _ _ => NZ
        refine UnrEnd.intro FZ NZ ((DW, listOf _ (k + 1)) :: (DS, listOf rv.toArray 0) :: news) (fun p hp => .tail _ (.tail _ (.tail _ (.tail _ hp)))) (fun p hp => by
          rcases List.mem_cons.mp hp with rfl | hp
          · exact Nat.ne_of_lt hI1
          · exact Nat.ne_of_lt (hI p (.tail _ hp))) ⟨.tail _ (.head _), dn ++ [q], rd', _, k + 1, _, hrem', by simp, ?_, map1 ?_, rfl⟩
        · have el : ((Str.length ⟨q.toArray⟩ : Int) - 1).toNat = q.length - 1 := by
            have : Str.length ⟨q.toArray⟩ = q.length := List.size_toArray
            rw [this]; (first | lia | omega)
          have ew : List.replicate (r0.length - front.length) 0 ++ tailW (dn ++ [q]) = (List.replicate (r0.length - front.length) 0 ++ tailW dn) ++ (1 :: List.replicate (q.length - 1) 0) := by
            rw [tailW_append, tailW_one, List.append_assoc]
          rw [ew]
          refine IntsAre.append hvs ?_
          refine IntsAre.cons 1 _ ?_
          rw [← el]
          exact ints_rep _
        · intro y hy
          simp only [if_neg hy]
end Mine
end
section
theorem Mine.idle13 : True := by
  w_top off
  k_with_none
  trivial
set_option maxRecDepth 100000
set_option maxHeartbeats 2000000
namespace Mine
noncomputable def toldL (near far count : Nat) : List Int := List.replicate near 0 ++ (List.replicate (count - 1) (1 :: List.replicate (far - 1) 0)).flatten ++ [1]
theorem ints_repL {vs : List Value} {ns : List Int} (h : IntsAre vs ns) : ∀ k : Nat, IntsAre (List.replicate k vs).flatten (List.replicate k ns).flatten
  | 0 => .nil
  | k + 1 => by
    rw [List.replicate_succ, List.flatten_cons, List.replicate_succ, List.flatten_cons]
    exact h.append (ints_repL h k)
noncomputable def CT (w : World) : Prop := ∀ (near far count : Nat) (t1 t2 t3 : Tok), near ≤ 10000 → 1 ≤ far → far ≤ 10000 → 1 ≤ count → count ≤ 3 →
  Sp w 135 [.int near t1, .int far t2, .int count t3] 4 60 (fun tl r => ∃ la vs ep, r = .ref la ∧ tl = [(la, listOf vs.toArray ep)] ∧ IntsAre vs (toldL near far count))
theorem mul_size {a b : Nat} (ha : a ≤ 10001) (hb : b ≤ 3) : a * b ≤ 2 ^ 24 := Nat.le_trans (Nat.mul_le_mul ha hb) (by decide)
theorem repL_len {v : List Value} {k : Nat} (hv : v.length ≤ 10001) (hk : k ≤ 3) : (List.replicate k v).flatten.length ≤ 30003 := by
  rw [List.length_flatten, List.map_replicate, List.sum_replicate_nat]
  exact Nat.le_trans (Nat.mul_le_mul hk hv) (by decide)
theorem tot_len0 {k1 k2 k3 : Nat} {a b c : Value} (h1 : k1 ≤ 10000) (h2 : k2 ≤ 10000) (h3 : k3 ≤ 3) : (List.replicate k1 [a]).flatten.length + (List.replicate k3 ([b] ++ (List.replicate k2 [c]).flatten)).flatten.length ≤ 2 ^ 24 := by
  rw [rep_len]
  have := repL_len (v := [b] ++ (List.replicate k2 [c]).flatten) (k := k3) (by simp only [List.length_cons, List.length_nil, List.length_append, rep_len]; (first | lia | omega)) h3
  have : (2 : Nat) ^ 24 = 16777216 := by decide
  (first | lia | omega)
theorem tot_len {k1 k2 k3 : Nat} {a b c d : Value} (h1 : k1 ≤ 10000) (h2 : k2 ≤ 10000) (h3 : k3 ≤ 3) : ((List.replicate k1 [a]).flatten ++ (List.replicate k3 ([b] ++ (List.replicate k2 [c]).flatten)).flatten).length + [d].length ≤ 2 ^ 24 := by
  rw [List.length_append, rep_len]
  have := repL_len (v := [b] ++ (List.replicate k2 [c]).flatten) (k := k3) (by simp only [List.length_cons, List.length_nil, List.length_append, rep_len]; (first | lia | omega)) h3
  simp only [List.length_cons, List.length_nil]
  have : (2 : Nat) ^ 24 = 16777216 := by decide
  (first | lia | omega)
theorem run29 : True := by
  k_with "binaryOp Mult ref int" => (k_here; k_dflt (refine' mulK ?j77F ?j77N ?j77m ?j77lo ?j77hi ?j77z ?_; (case j77F => k_asm); (case j77N => k_asm); (case j77m => k_mem); (case j77lo => (first | lia | omega)); (case j77hi => (first | lia | omega)); (case j77z => first | ((simp only [List.length_cons, List.length_nil]; (first | lia | omega))) | exact mul_size (by (simp only [List.length_cons, List.length_nil, List.length_append, rep_len]; (first | lia | omega))) (by (first | lia | omega)))); walk_at "s5")
  k_with "binaryOp Add ref ref" => (k_here; k_dflt (refine' addK ?j78F ?j78N ?j78m ?j78mm ?j78z ?_; (case j78F => k_asm); (case j78N => k_asm); (case j78m => k_mem); (case j78mm => k_mem); (case j78z => first | ((try simp only [rep_len, List.length_append, List.length_cons, List.length_nil]); (first | lia | omega)) | exact tot_len0 (by (first | lia | omega)) (by (first | lia | omega)) (by (first | lia | omega)) | exact tot_len (by (first | lia | omega)) (by (first | lia | omega)) (by (first | lia | omega)))); walk_at "s5")
  trivial
theorem ct (w : World) : CT w := by
  intro near far count t1 t2 t3 hn hf hf2 hc hc2
  unfold Sp
  k_fill
  intro p loose mean mg mb dp un gd cn cs a ccd cl outer A₀ base h₀ L m news s Q E B F X N T hk hdp hun hret
  refine wpAny_call ?_
  k_dflt ktr_enter
  k_steps
  rename Fr _ _ _ _ => FZ
  rename News _ _ _ _ => NZ
  have lz := ‹_ < _ ∧ _ < _ ∧ _ < _ ∧ _ < _ ∧ _ < _ ∧ _ < _ ∧ _ < _ ∧ _ < _ ∧ _ < _ ∧ AllLt _ news›
  refine hret _ [_] _ _ FZ (News.fin1 (mid := [_, _, _, _, _, _, _, _, _]) NZ) ?_ ⟨_, _, _, rfl, rfl, ?_⟩
  · exact one_lts (of_allLt lz.2.2.2.2.2.2.2.2.2)
  · unfold toldL
    have e1 : (near : Int).toNat = near := by (first | lia | omega)
    have e2 : ((far : Int) - 1).toNat = far - 1 := by (first | lia | omega)
    have e3 : ((count : Int) - 1).toNat = count - 1 := by (first | lia | omega)
    refine IntsAre.append (IntsAre.append ?_ ?_) (.cons 1 _ .nil)
    · rw [e1]; exact ints_rep _
    · rw [e3, e2]
      exact ints_repL (.cons 1 _ (ints_rep _)) _
end Mine
end
section
set_option maxRecDepth 100000
set_option maxHeartbeats 400000
namespace Mine
/-- the def at f: its name, its body, its scope -/
noncomputable def defOf (K : Frag) (f : Addr) : Option (List Stmt) := match K.lookup f with
  | some ⟨_, _, .func fd, _⟩ => (match fd.body with
    | .stmts l => some l
    | _ => none)
  | _ => none
noncomputable def scopeOf (K : Frag) (f : Addr) : Option Scope := match K.lookup f with
  | some ⟨_, _, .func fd, _⟩ => some fd.scope
  | _ => none
noncomputable abbrev lawCl (cL cH cK : Addr) : List (Str × Addr) := [(Str.ofString "low", cL), (Str.ofString "high", cH), (Str.ofString "kind", cK)]
noncomputable abbrev tabs0 : List (Addr × Obj) := [(54, tabObj #[]), (47, tabObj #[])]
theorem slice_any (l : List Value) (n : Nat) : (slicePick l.toArray (some (n : Int)) none none).toList = l.drop n := by
  by_cases h : n ≤ l.length
  · rw [slicePick_from l.toArray n (by simpa using h)]
  · have e : sliceBounds (some (n : Int)) none none l.toArray.size = sliceBounds (some (l.length : Int)) none none l.toArray.size := by
      simp only [sliceBounds, Option.getD_none, List.size_toArray]
      have h1 : ¬ ((n : Int) < 0) := by (first | lia | omega)
      have h2 : ¬ ((l.length : Int) < 0) := by (first | lia | omega)
      simp only [h1, h2, if_false, show (1 : Int) > 0 by decide, if_true]
      congr 1
      (first | lia | omega)
    have : slicePick l.toArray (some (n : Int)) none none = slicePick l.toArray (some (l.length : Int)) none none := by
      unfold slicePick; rw [e]
    rw [this, slicePick_from l.toArray l.length (by simp)]
    simp; (first | lia | omega)
end Mine
end
section
set_option maxRecDepth 100000
set_option maxHeartbeats 400000
namespace Mine
section
variable {prog : Program} {w : World} {A : Around} {E : Value → Shared → Prop} {s : Shared} {h₀ : Heap} {L : Addr} {m : Str → Option Value} {news : List (Addr × Obj)}
theorem menuS {value slice : PySem.Expr} {D : Addr} {vs : List Value} {els : List Str} {n : Nat} {i : Int} {u : Tok} {Q : Value → Shared → Prop} (N : News h₀ L s.heap news) (hm : (D, tupO vs n) ∈ news) (hv : StrsAre vs els) (h0 : 0 ≤ i) (h1 : i < els.length) (h100 : els.length ≤ 100)
    (h : ∀ S t, S ∈ els → Q (.str S t) s)
    (hs : subscripted slice false (.ref D) (.int i u) = operate [.ref D, .int i u] (getItem (.ref D) (.int i u)) := by with_unfolding_all rfl) :
    wpAny (model prog w) A (subscriptTail value slice (.ref D) (.int i u)) Q E s := by
  have hl := StrsAre.length hv
  have hi : i.toNat < vs.length := by (first | lia | omega)
  obtain ⟨S, t, e, hS⟩ := strs_at hv (List.getElem?_eq_getElem hi)
  exact item_tupleT (News.isTup N hm) (by (first | lia | omega)) (by (first | lia | omega)) (seqIndex_of h0 (by (first | lia | omega))) (List.getElem?_eq_getElem hi) (by rw [e]; exact h S t hS) hs
theorem dot_mul {n : Int} {t u : Tok} {Q : Value → Shared → Prop} (hn : n = 0 ∨ n = 1) (h : ∀ S t tk, (S = Str.empty ∨ S = Str.ofString ".") → Q (.str S t) { s with toks := tk }) : wpAny (model prog w) A (binaryOp .Mult (.str (Str.ofString ".") t) (.int n u)) Q E s := by
  refine SB.mul (mulOk01 hn) fun t' k => h _ t' k ?_
  rcases hn with rfl | rfl
  · exact .inl rfl
  · exact .inr rfl
end
noncomputable abbrev menuF : List Str := [Str.ofString "\x0b.", Str.ofString " .", Str.ofString "a", Str.ofString "-\x0c."]
noncomputable abbrev menuTl : List Str := [Str.ofString "\n\ra\r\r\n", Str.ofString "", Str.ofString "\r\n\n .\r\t."]
theorem menuF_len {S : Str} (h : S ∈ menuF) : S.length ≤ 3 := by
  have : ∀ S ∈ menuF, S.length ≤ 3 := by decide +kernel
  exact this S h
theorem menuTl_len {S : Str} (h : S ∈ menuTl) : S.length ≤ 9 := by
  have : ∀ S ∈ menuTl, S.length ≤ 9 := by decide +kernel
  exact this S h
/-- the tail with return and feed for each end -/
noncomputable def lastOf (tail : Str) : Str := Txt.replace (Txt.replace (Txt.replace tail (Str.ofString "\r\n") (Str.ofString "\n")) (Str.ofString "\r") (Str.ofString "\n")) (Str.ofString "\n") (Str.ofString "\r\n")
theorem dot_len {S : Str} (h : S = Str.empty ∨ S = Str.ofString ".") : S.length ≤ 1 := by
  rcases h with rfl | rfl <;> decide +kernel
theorem fmod_rng (x : Int) {n : Int} (h : 0 < n) : 0 ≤ x.fmod n ∧ x.fmod n < n := ⟨Int.fmod_nonneg_of_pos x h, Int.fmod_lt_of_pos x h⟩
theorem one_sub2 (x : Int) : 1 - x.fmod 2 = 0 ∨ 1 - x.fmod 2 = 1 := by
  have := fmod_rng x (n := 2) (by decide)
  (first | lia | omega)
theorem run30 : True := by
  k_with "binaryOp Mult str int" => (k_here; refine dot_mul (one_sub2 _) ?_; intro _ _ _ _)
  k_with "subscriptTail Tuple cons BinOp ref int" => (k_here; k_dflt (refine' menuS ?j80N ?j80m ?j80v ?j80h0 ?j80h1 ?j80hh ?_ ?j80hs; (case j80N => k_asm); (case j80m => k_mem); (case j80v => first | exact .cons _ _ (.cons _ _ (.cons _ _ (.cons _ _ .nil))) | exact .cons _ _ (.cons _ _ (.cons _ _ .nil))); (case j80h0 => exact (fmod_rng _ (by decide)).1); (case j80h1 => exact (fmod_rng _ (by decide)).2); (case j80hh => decide); (case j80hs => with_unfolding_all rfl)); intro _ _ _)
  k_with "exec For" => (refine held ?_)
  trivial
open PySem.Builtin PySem.Builtin.Str in
/-- replace, and the tokens do not fall -/
theorem repK {prog : Program} {w : World} {A : Around} {E : Value → Shared → Prop} {s : Shared} {x y z : Str} {t u v : Tok} {Q : Value → Shared → Prop} (hu : u ≠ 0) (hv : v ≠ 0) (huv : u ≠ v) (hyz : (y == z) = false) (hx : x.length ≤ 1048576) (hz : z.length ≤ 14)
    (hq : ∀ t' k, s.toks ≤ k → Q (.str (Txt.replace x y z) t') { s with toks := k }) : wpAny (model prog w) A (call (.builtin "str.replace") [.str x t, .str y u, .str z v]) Q E s := by
  have m1 := StrLaws.occ_length_le x y 0 x.length (x.length + 1)
  have m2 : (occurrences x y 0 x.length (x.length + 1)).length * z.length ≤ (x.length + 1) * z.length := Nat.mul_le_mul_right _ m1
  have m3 : (x.length + 1) * z.length ≤ (x.length + 1) * 14 := Nat.mul_le_mul_left _ hz
  have hl : tooLong (x.length + (occurrences x y 0 x.length (x.length + 1)).length * z.length) = false := by
    unfold tooLong
    rw [sizeLine_eq]
    exact decide_eq_false (by (first | lia | omega))
  have g := gives_str_replace x y z t u v fun _ => ⟨by simp [hu, hv], by simp [huv], hyz, hl⟩
  refine call_gives PySem.F.slot_str_replace (typeIs_str _ _ _) PySem.F.entry_str_replace (PySem.F.args_str_replace_3 _ _ _) g ?_
  by_cases hc : ((occurrences x y 0 x.length (x.length + 1)).isEmpty || (y.length == 0 && z.length == 0)) = true
  · rw [if_pos hc]
    have := hq t s.toks (Nat.le_refl _)
    unfold Txt.replace at this
    rw [if_pos hc] at this
    exact this
  · rw [if_neg hc]
    have := hq s.toks (s.toks + 1) (Nat.le_succ _)
    unfold Txt.replace at this
    rw [if_neg hc] at this
    have e24 : (2 : Nat) ^ 24 = 16777216 := by decide
    exact ⟨fits_replaced y (by (first | lia | omega)), this⟩
theorem gen_toks {M : Model} {A : Around} {α : Type} {t : Sem α} {Q : α → Shared → Prop} {E : Value → Shared → Prop} {h : Heap} {g : Array GenState} {d : Drawn} {X : Nat} {o : OsState} (k : ∀ tk, 0 < tk → wpAny M A t Q E { heap := h, gens := g, drawn := d, toks := tk, os := o }) (hX : 0 < X) :
    wpAny M A t Q E { heap := h, gens := g, drawn := d, toks := X, os := o } := k X hX
theorem front_size {S T : Str} (h1 : S = Str.empty ∨ S = Str.ofString ".") (h2 : T ∈ menuF) : S.length + T.length ≤ sizeLine := by
  have := dot_len h1
  have := menuF_len h2
  rw [sizeLine_eq]; (first | lia | omega)
theorem rep1_len {S : Str} (h : S ∈ menuTl) : S.length ≤ 1048576 := by
  have := menuTl_len h
  (first | lia | omega)
theorem rep2_len {S : Str} (h : S ∈ menuTl) : (Txt.replace S (Str.ofString "\r\n") (Str.ofString "\n")).length ≤ 1048576 := by
  have : ∀ S ∈ menuTl, (Txt.replace S (Str.ofString "\r\n") (Str.ofString "\n")).length ≤ 1048576 := by decide +kernel
  exact this S h
theorem rep3_len {S : Str} (h : S ∈ menuTl) : (Txt.replace (Txt.replace S (Str.ofString "\r\n") (Str.ofString "\n")) (Str.ofString "\r") (Str.ofString "\n")).length ≤ 1048576 := by
  have : ∀ S ∈ menuTl, (Txt.replace (Txt.replace S (Str.ofString "\r\n") (Str.ofString "\n")) (Str.ofString "\r") (Str.ofString "\n")).length ≤ 1048576 := by decide +kernel
  exact this S h
theorem run31 : True := by
  k_with "binaryOp Add str str" => (k_here; refine SB.add (fun _ _ => ?_) (front_size (by assumption) (by assumption)))
  k_with "call builtin:str.replace" => (k_here; refine' repK ?j83u ?j83v ?j83uv ?j83yz ?j83hx ?j83hz ?_; (case j83yz => decide +kernel); (case j83hz => decide +kernel); (case j83hx => with_reducible first | exact rep3_len (by assumption) | exact rep2_len (by assumption) | exact rep1_len (by assumption)); (case j83u => exact Nat.ne_of_gt (by (first | lia | omega))); (case j83v => exact Nat.ne_of_gt (by (first | lia | omega))); (case j83uv => exact Nat.ne_of_lt (by (first | lia | omega))); walk_at "s7")
  k_with "execs cons" => (k_here; refine gen_toks (fun _ _ => ?_) (Nat.add_one_pos _))
  trivial
end Mine
end
section
set_option maxRecDepth 100000
namespace Mine
noncomputable def dots (k : Nat) : List Nat := List.replicate k 46
/-- the letters' signs behind t sendings -/
noncomputable def XT (t : Nat) (ns : List Int) : List Nat := ns.flatMap fun n => if n = 1 then 13 :: 10 :: dots (t + 1) else [46]
/-- the word behind a round with c sendings -/
noncomputable def expW (c : Nat) (ns : List Int) : List Int := ns.flatMap fun n => if n = 1 then 1 :: List.replicate c 0 else [0]
theorem XT_cons (t : Nat) (n : Int) (ns : List Int) : XT t (n :: ns) = (if n = 1 then 13 :: 10 :: dots (t + 1) else [46]) ++ XT t ns := rfl
theorem expW_cons (c : Nat) (n : Int) (ns : List Int) : expW c (n :: ns) = (if n = 1 then 1 :: List.replicate c 0 else [0]) ++ expW c ns := rfl
theorem dots_succ (k : Nat) : dots (k + 1) = 46 :: dots k := rfl
theorem eolF_dots (k : Nat) (r : List Nat) : eolF false (dots k ++ r) = dots k ++ eolF false r := eolF_plain _ _ (fun x hx => by rw [List.eq_of_mem_replicate hx]; decide) false (.inr rfl)
theorem quoteF_dots (k : Nat) (r : List Nat) : quoteF false (dots k ++ r) = dots k ++ quoteF false r := by
  induction k with
  | zero => rfl
  | succ k ih => rw [dots_succ, List.cons_append, quoteF_cons, if_neg (by simp), show decide ((46 : Nat) = 10) = false from rfl, ih]; rfl
/-- an end of a row -/
noncomputable def endsL : List (List Nat) := [[10], [13], [13, 10]]
theorem eolF_end {e : List Nat} (he : e ∈ endsL) (r : List Nat) : eolF false (e ++ 46 :: r) = 13 :: 10 :: 46 :: eolF false r := by
  simp only [endsL, List.mem_cons, List.not_mem_nil, or_false] at he
  rcases he with rfl | rfl | rfl
  · simp [eolF]
  · simp [eolF]
  · simp [eolF]
/-- the letters' signs as first laid -/
noncomputable def rawL (ns : List Int) (es : List (List Nat)) : List Nat := (List.zipWith (fun n e => if n = 1 then e ++ [46] else [46]) ns es).flatten
theorem eolF_raw : ∀ (ns : List Int) (es : List (List Nat)) (r : List Nat), ns.length = es.length → (∀ e ∈ es, e ∈ endsL) → eolF false (rawL ns es ++ r) = XT 0 ns ++ eolF false r
  | [], _, r, _, _ => rfl
  | n :: ns, [], r, h, _ => by simp at h
  | n :: ns, e :: es, r, h, he => by
    have ih := eolF_raw ns es r (by simpa using h) fun e he' => he e (.tail _ he')
    have e1 : rawL (n :: ns) (e :: es) = (if n = 1 then e ++ [46] else [46]) ++ rawL ns es := rfl
    rw [e1, XT_cons]
    by_cases hn : n = 1
    · rw [if_pos hn, if_pos hn, List.append_assoc, List.append_assoc, List.cons_append, List.nil_append, eolF_end (he e (.head _)), ih]; rfl
    · rw [if_neg hn, if_neg hn, List.cons_append, List.nil_append, List.cons_append, eolF_cons, if_neg (by decide), if_neg (by decide), ih]; rfl
theorem eolF_XT (t : Nat) : ∀ (ns : List Int) (r : List Nat), eolF false (XT t ns ++ r) = XT t ns ++ eolF false r
  | [], _ => rfl
  | n :: ns, r => by
    rw [XT_cons]
    by_cases hn : n = 1
    · rw [if_pos hn, List.append_assoc]
      have : eolF false (13 :: 10 :: dots (t + 1) ++ (XT t ns ++ r)) = 13 :: 10 :: eolF false (dots (t + 1) ++ (XT t ns ++ r)) := by
        rw [List.cons_append, List.cons_append, eolF_cons, if_neg (by decide), if_pos rfl, eolF_cons, if_pos rfl, if_pos rfl]
      rw [this, eolF_dots, eolF_XT t ns r]; simp
    · rw [if_neg hn, List.append_assoc, List.cons_append, List.nil_append, eolF_cons, if_neg (by decide), if_neg (by decide), eolF_XT t ns r]; rfl
theorem quoteF_XT (t : Nat) : ∀ (ns : List Int) (r : List Nat), quoteF false (XT t ns ++ r) = XT (t + 1) ns ++ quoteF false r
  | [], _ => rfl
  | n :: ns, r => by
    rw [XT_cons, XT_cons]
    by_cases hn : n = 1
    · rw [if_pos hn, if_pos hn, List.append_assoc]
      have : quoteF false (13 :: 10 :: dots (t + 1) ++ (XT t ns ++ r)) = 13 :: 10 :: 46 :: 46 :: quoteF false (dots t ++ (XT t ns ++ r)) := by
        rw [dots_succ, List.cons_append, List.cons_append, List.cons_append, quoteF_cons, if_neg (by simp), quoteF_cons, if_neg (by simp), quoteF_cons, if_pos (by simp)]
      rw [this, quoteF_dots, quoteF_XT t ns r, dots_succ, dots_succ]; simp
    · rw [if_neg hn, if_neg hn, List.append_assoc, List.cons_append, List.nil_append, quoteF_cons, if_neg (by simp), show decide ((46 : Nat) = 10) = false from rfl, quoteF_XT t ns r]; rfl
/-- the mail's front: no sign of a row's end; a dot first just where dot is one -/
structure FrOk (dot fr : List Nat) : Prop where
  plain : ∀ x ∈ fr, x ≠ 10 ∧ x ≠ 13
  asc : ∀ x ∈ fr, x < 128
  ne : fr ≠ []
  dt : (dot = [46] ∧ fr.head? = some 46) ∨ (dot = [] ∧ fr.head? ≠ some 46)
theorem FrOk.more {dot fr : List Nat} (h : FrOk dot fr) : FrOk dot (dot ++ fr) := by
  rcases h.dt with ⟨rfl, hh⟩ | ⟨rfl, hh⟩
  · refine ⟨fun x hx => ?_, fun x hx => ?_, by simp, .inl ⟨rfl, rfl⟩⟩
    · rcases List.mem_append.mp hx with hx | hx
      · rw [List.mem_singleton.mp hx]; decide
      · exact h.plain x hx
    · rcases List.mem_append.mp hx with hx | hx
      · rw [List.mem_singleton.mp hx]; decide
      · exact h.asc x hx
  · exact h
theorem quoteF_plain : ∀ (p q : List Nat), (∀ x ∈ p, x ≠ 10) → p ≠ [] → quoteF false (p ++ q) = p ++ quoteF false q
  | [c], q, h, _ => by
    rw [List.cons_append, quoteF_cons, if_neg (by simp), decide_eq_false (h c (.head _))]; rfl
  | c :: d :: p, q, h, _ => by
    rw [List.cons_append, quoteF_cons, if_neg (by simp), decide_eq_false (h c (.head _)), quoteF_plain (d :: p) q (fun x hx => h x (.tail _ hx)) (by simp)]; rfl
theorem quoteF_front {dot fr : List Nat} (h : FrOk dot fr) (r : List Nat) : quoteF true (fr ++ r) = dot ++ fr ++ quoteF false r := by
  obtain ⟨c, p, rfl⟩ : ∃ c p, fr = c :: p := by
    cases hf : fr with
    | nil => exact absurd hf h.ne
    | cons c p => exact ⟨c, p, rfl⟩
  have hc := (h.plain c (.head _)).1
  have hp : ∀ x ∈ p, x ≠ 10 := fun x hx => (h.plain x (.tail _ hx)).1
  have key : quoteF false (p ++ r) = p ++ quoteF false r := by
    cases p with
    | nil => rfl
    | cons d p => exact quoteF_plain _ _ hp (by simp)
  rcases h.dt with ⟨rfl, hh⟩ | ⟨rfl, hh⟩
  · have : c = 46 := by simpa using hh
    subst this
    rw [List.cons_append, quoteF_cons, if_pos (by simp), key]; rfl
  · have : c ≠ 46 := by simpa using hh
    rw [List.cons_append, quoteF_cons, if_neg (by simp [this]), decide_eq_false hc, key]; rfl
/-- the tails and what they are with return and feed alone -/
structure TlOk (tl ls : List Nat) : Prop where
  fix : eolF false tl = ls
  fix2 : eolF false ls = ls
  quote : quoteF false ls = ls
  asc : ∀ x ∈ tl, x < 128
  asc2 : ∀ x ∈ ls, x < 128
  len : tl.length ≤ 20
  len2 : ls.length ≤ 20
/-- the mail behind t sendings in all of this round, when it is fixed -/
noncomputable def mailF (fr : List Nat) (t : Nat) (ns : List Int) (ls : List Nat) : List Nat := fr ++ XT t ns ++ ls
theorem fix_raw {dot fr tl ls : List Nat} {ns : List Int} {es : List (List Nat)} (h : FrOk dot fr) (ht : TlOk tl ls) (hl : ns.length = es.length) (he : ∀ e ∈ es, e ∈ endsL) :
    eolF false (fr ++ rawL ns es ++ tl) = mailF fr 0 ns ls := by
  unfold mailF
  rw [List.append_assoc, eolF_plain fr _ h.plain false (.inr rfl), eolF_raw ns es tl hl he, ht.fix, List.append_assoc]
theorem fix_mailF {dot fr tl ls : List Nat} {t : Nat} {ns : List Int} (h : FrOk dot fr) (ht : TlOk tl ls) : eolF false (mailF fr t ns ls) = mailF fr t ns ls := by
  unfold mailF
  rw [List.append_assoc, eolF_plain fr _ h.plain false (.inr rfl), eolF_XT, ht.fix2]
theorem quote_mailF {dot fr tl ls : List Nat} {t : Nat} {ns : List Int} (h : FrOk dot fr) (ht : TlOk tl ls) : quoteF true (mailF fr t ns ls) = mailF (dot ++ fr) (t + 1) ns ls := by
  unfold mailF
  rw [List.append_assoc, quoteF_front h, quoteF_XT, ht.quote]; simp
/-- the mail's rows -/
noncomputable def rowsOf (c : Nat) : List Nat → List Int → List (List Nat)
  | acc, [] => [acc]
  | acc, n :: ns => if n = 1 then acc :: rowsOf c (dots (c + 1)) ns else rowsOf c (acc ++ [46]) ns
theorem rowsOf_ne (c : Nat) : ∀ (ns : List Int) (acc : List Nat), ∃ r rs, rowsOf c acc ns = r :: rs
  | [], acc => ⟨acc, [], rfl⟩
  | n :: ns, acc => by
    unfold rowsOf
    by_cases hn : n = 1
    · rw [if_pos hn]; exact ⟨_, _, rfl⟩
    · rw [if_neg hn]; exact rowsOf_ne c ns _
theorem joinL_rowsOf (c : Nat) : ∀ (ns : List Int) (acc : List Nat), joinL (rowsOf c acc ns) = acc ++ XT c ns
  | [], acc => by simp [rowsOf, joinL, XT]
  | n :: ns, acc => by
    unfold rowsOf
    rw [XT_cons]
    by_cases hn : n = 1
    · rw [if_pos hn, if_pos hn]
      obtain ⟨r, rs, e⟩ := rowsOf_ne c ns (dots (c + 1))
      rw [e, joinL_two, ← e, joinL_rowsOf c ns]; simp
    · rw [if_neg hn, if_neg hn, joinL_rowsOf c ns]; simp
theorem rowsOf_13 (c : Nat) : ∀ (ns : List Int) (acc : List Nat), 13 ∉ acc → ∀ r ∈ rowsOf c acc ns, 13 ∉ r
  | [], acc, h, r, hr => by rw [List.mem_singleton.mp hr]; exact h
  | n :: ns, acc, h, r, hr => by
    unfold rowsOf at hr
    by_cases hn : n = 1
    · rw [if_pos hn] at hr
      rcases List.mem_cons.mp hr with rfl | hr
      · exact h
      · exact rowsOf_13 c ns _ (fun h => by have := List.eq_of_mem_replicate h; (first | lia | omega)) r hr
    · rw [if_neg hn] at hr
      exact rowsOf_13 c ns _ (fun h' => by
        rcases List.mem_append.mp h' with h' | h'
        · exact h h'
        · have := List.mem_singleton.mp h'; (first | lia | omega)) r hr
theorem wordW_rowsOf (c k : Nat) : ∀ (ns : List Int) (acc : List Nat) (r0 : List Nat) (rs : List (List Nat)), rowsOf c acc ns = r0 :: rs → k ≤ acc.length → k ≤ r0.length ∧ (∀ r ∈ rs, 1 ≤ r.length) ∧ wordW k r0 rs = List.replicate (acc.length - k) 0 ++ expW c ns := by
  intro ns
  induction ns generalizing k with
  | nil =>
    intro acc r0 rs e hk
    unfold rowsOf at e
    injection e with e1 e2
    subst e1 e2
    exact ⟨hk, (fun r hr => nomatch hr), (by simp [wordW, tailW, expW])⟩
  | cons n ns ih =>
    intro acc r0 rs e hk
    unfold rowsOf at e
    by_cases hn : n = 1
    · rw [if_pos hn] at e
      injection e with e1 e2
      subst e1
      obtain ⟨r1, rs1, e3⟩ := rowsOf_ne c ns (dots (c + 1))
      obtain ⟨h1, h2, h3⟩ := ih 1 (dots (c + 1)) r1 rs1 e3 (by simp [dots])
      rw [e3] at e2
      subst e2
      refine ⟨hk, List.forall_mem_cons.mpr ⟨h1, h2⟩, ?_⟩
      have e4 : tailW (r1 :: rs1) = 1 :: wordW 1 r1 rs1 := by simp [tailW, wordW]
      show List.replicate (acc.length - k) 0 ++ tailW (r1 :: rs1) = _
      rw [e4, h3, expW_cons, if_pos hn]
      simp [dots]
    · rw [if_neg hn] at e
      obtain ⟨h1, h2, h3⟩ := ih k (acc ++ [46]) r0 rs e (by simp; (first | lia | omega))
      refine ⟨h1, h2, ?_⟩
      rw [h3, expW_cons, if_neg hn]
      have : (acc ++ [46]).length - k = (acc.length - k) + 1 := by simp; (first | lia | omega)
      rw [this, List.replicate_succ', List.append_assoc]
/-- the same mail as first laid from the new word -/
theorem raw_expW (c : Nat) : ∀ (ns : List Int), (∀ n ∈ ns, n = 0 ∨ n = 1) → rawL (expW c ns) (List.replicate (expW c ns).length [13, 10]) = XT c ns
  | [], _ => rfl
  | n :: ns, h => by
    have ih := raw_expW c ns fun n hn => h n (.tail _ hn)
    have ap : ∀ (a b : List Int), rawL (a ++ b) (List.replicate (a ++ b).length [13, 10]) = rawL a (List.replicate a.length [13, 10]) ++ rawL b (List.replicate b.length [13, 10]) := by
      intro a b
      induction a with
      | nil => rfl
      | cons x a ih =>
        have e1 : ∀ (y : Int) (l : List Int), rawL (y :: l) (List.replicate (y :: l).length [13, 10]) = (if y = 1 then [13, 10] ++ [46] else [46]) ++ rawL l (List.replicate l.length [13, 10]) := fun _ _ => rfl
        rw [List.cons_append, e1, e1, ih, List.append_assoc]
    have z : ∀ k : Nat, rawL (List.replicate k 0) (List.replicate (List.replicate k (0 : Int)).length [13, 10]) = dots k := by
      intro k
      induction k with
      | zero => rfl
      | succ k ih =>
        have e1 : rawL (0 :: List.replicate k 0) (List.replicate (0 :: List.replicate k (0 : Int)).length [13, 10]) = [46] ++ rawL (List.replicate k 0) (List.replicate (List.replicate k (0 : Int)).length [13, 10]) := rfl
        rw [List.replicate_succ, e1, ih]; rfl
    rw [expW_cons, ap, ih, XT_cons]
    congr 1
    by_cases hn : n = 1
    · rw [if_pos hn, if_pos hn]
      have e1 : rawL (1 :: List.replicate c 0) (List.replicate (1 :: List.replicate c (0 : Int)).length [13, 10]) = [13, 10, 46] ++ rawL (List.replicate c 0) (List.replicate (List.replicate c (0 : Int)).length [13, 10]) := rfl
      rw [e1, z]; rfl
    · rw [if_neg hn, if_neg hn]; rfl
theorem expW_01 {c : Nat} {ns : List Int} : ∀ n ∈ expW c ns, n = 0 ∨ n = 1 := by
  intro n hn
  obtain ⟨m, _, h⟩ := List.mem_flatMap.mp hn
  by_cases hm : m = 1
  · rw [if_pos hm] at h
    rcases List.mem_cons.mp h with h | h
    · exact .inr h
    · exact .inl (List.eq_of_mem_replicate h)
  · rw [if_neg hm] at h
    exact .inl (List.mem_singleton.mp h)
theorem expW_len (c : Nat) : ∀ ns : List Int, (expW c ns).length ≤ (c + 1) * ns.length
  | [] => by simp [expW]
  | n :: ns => by
    rw [expW_cons, List.length_append, List.length_cons, Nat.mul_succ]
    have := expW_len c ns
    split <;> simp <;> (first | lia | omega)
theorem XT_len (t : Nat) : ∀ ns : List Int, (XT t ns).length ≤ (t + 3) * ns.length
  | [] => by simp [XT]
  | n :: ns => by
    rw [XT_cons, List.length_append, List.length_cons, Nat.mul_succ]
    have := XT_len t ns
    split <;> simp [dots] <;> (first | lia | omega)
end Mine
end
section
theorem Mine.idle14 : True := by
  w_top off
  k_with_none
  trivial
local macro_rules | `(tactic| walk_at "idle") => `(tactic| fail)
set_option maxRecDepth 100000
set_option maxHeartbeats 1000000
namespace Mine
/-- the nested statements -/
noncomputable def forBody : Stmt → List Stmt
  | .For _ _ b _ _ => b
  | _ => []
noncomputable def ifBody : Stmt → List Stmt
  | .If _ b _ _ => b
  | _ => []
noncomputable def outerFor (K : Frag) : Option Stmt := (defOf K 140).bind (·[8]?)
noncomputable def outerIf (K : Frag) : Option (List Stmt) := (outerFor K).bind fun st => (forBody st)[0]?.map ifBody
noncomputable def innerFor (K : Frag) : Option Stmt := (outerIf K).bind (·[4]?)
/-- a frame's map with some names written out -/
noncomputable def frM (l : List (Str × Value)) (m : Str → Option Value) : Str → Option Value := fun y => match l.lookup y with
  | some v => some v
  | none => m y
theorem frM_eq {m : Str → Option Value} : ∀ {l : List (Str × Value)}, (∀ q ∈ l, m q.1 = some q.2) → frM l m = m
  | [], _ => rfl
  | q :: l, h => by
    have ih := frM_eq (m := m) (l := l) fun r hr => h r (.tail _ hr)
    funext y
    unfold frM
    rw [List.lookup_cons]
    by_cases e : y = q.1
    · subst e
      simp only [beq_self_eq_true]
      exact (h q (.head _)).symm
    · have : (y == q.1) = false := by simpa using e
      rw [this]
      exact congrFun ih y
theorem frM_to {h₀ h : Heap} {L : Addr} {m : Str → Option Value} (l : List (Str × Value)) (F : Fr h₀ L h m) (k : ∀ q ∈ l, m q.1 = some q.2) : Fr h₀ L h (frM l m) := by rw [frM_eq k]; exact F
noncomputable def dotsOf (dot fr : List Nat) : Nat → List Nat
  | 0 => fr
  | k + 1 => dot ++ dotsOf dot fr k
theorem dotsOf_ok {dot fr : List Nat} (h : FrOk dot fr) : ∀ k, FrOk dot (dotsOf dot fr k)
  | 0 => h
  | k + 1 => (dotsOf_ok h k).more
theorem dotsOf_len {dot fr : List Nat} (h : FrOk dot fr) : ∀ k, (dotsOf dot fr k).length ≤ k + fr.length
  | 0 => by simp [dotsOf]
  | k + 1 => by
    have := dotsOf_len h k
    have hd : dot.length ≤ 1 := by rcases h.dt with ⟨rfl, _⟩ | ⟨rfl, _⟩ <;> simp
    simp only [dotsOf, List.length_append]; (first | lia | omega)
/-- what holds of the mail behind t sendings -/
structure MlOk (dot fr ls : List Nat) (ns : List Int) (M : Str) (t : Nat) : Prop where
  fix : eolF false M.cps.toList = mailF (dotsOf dot fr t) t ns ls
  fin : 0 < t → M.cps.toList = mailF (dotsOf dot fr t) t ns ls
  asc : Asc M
  len : M.length ≤ 50000
  ne : M.cps ≠ #[]
theorem MlOk.sent {dot fr tl ls : List Nat} {ns : List Int} {M : Str} {t : Nat} (hf : FrOk dot fr) (ht : TlOk tl ls) (hn : ns.length ≤ 1000) (hfr : fr.length ≤ 1000) (ht3 : t ≤ 10) (h : MlOk dot fr ls ns M t) : MlOk dot fr ls ns (quoteS (fixS M)) (t + 1) := by
  have e1 : (quoteS (fixS M)).cps.toList = mailF (dotsOf dot fr (t + 1)) (t + 1) ns ls := by
    show quoteF true (eolF false M.cps.toList) = _
    rw [h.fix, quote_mailF (dotsOf_ok hf t) ht]; rfl
  have hlen : (mailF (dotsOf dot fr (t + 1)) (t + 1) ns ls).length ≤ 50000 := by
    unfold mailF
    rw [List.length_append, List.length_append]
    have a1 := dotsOf_len hf (t + 1)
    have a2 := XT_len (t + 1) ns
    have a3 := ht.len2
    have a4 : (t + 1 + 3) * ns.length ≤ 14 * 1000 := Nat.mul_le_mul (by (first | lia | omega)) hn
    (first | lia | omega)
  refine ⟨?_, fun _ => e1, quoteS_asc (fixS_asc h.asc), ?_, ?_⟩
  · rw [e1, fix_mailF (dotsOf_ok hf (t + 1)) ht]
  · have : (quoteS (fixS M)).length = (quoteS (fixS M)).cps.toList.length := Array.length_toList.symm
    rw [this, e1]; exact hlen
  · intro e
    have : (quoteS (fixS M)).cps.toList = [] := by rw [e]
    rw [e1] at this
    unfold mailF at this
    have := (List.append_eq_nil_iff.mp (List.append_eq_nil_iff.mp this).1).1
    exact (dotsOf_ok hf (t + 1)).ne this
theorem run32 : True := by
  k_with "k_mem" => (assumption)
  k_with "pyIter ref" => (refine held ?_)
  k_with "call type:range" => (k_here; walk_at "s8")
  k_with "exec For Name Call cons nil" => (k_here; walk_at "s9")
  k_with "call ref" => (k_here; k_dflt (refine' Sp.use (cs _ _ _ _ _ ?j88p1 ?j88p2 ?j88p3) ?j88B ?j88F ?j88X ?j88N ?j88T ?j88hk ?j88hd ?j88hu ?_; (case j88p1 => assumption); (case j88p2 => assumption); (case j88p3 => assumption); (case j88B => k_asm); (case j88F => k_asm); (case j88X => k_asm); (case j88N => k_asm); (case j88T => k_asm); (case j88hk => first | exact rfl | assumption); (case j88hd => ktr_room); (case j88hu => ktr_units); walk_at "s3"))
  k_with "call builtin:len" => (refine len_list (News.isList (by k_asm) (by k_mem)) (by (simp only [List.size_toArray]; (first | lia | omega))) ?_)
  k_with "binaryOp Add str str" => (k_here; refine SB.add (fun _ _ => ?_) (by (rw [sizeLine_eq]; (first | lia | omega))))
  trivial
theorem loopIn (w : World) {st : Stmt} {scope : Scope} (hb : innerFor (hd.heap_39 w.params) = some st) (hsc : scopeOf (hd.heap_39 w.params) 140 = some scope)
    (p : Program) (loose : List Str) (mean : ExcName → Option Value) (mg mb : Str → Option Value)
    (dp un : Nat) (gd : Option (List Code)) (a : Addr) (ccd : Value) (cL cH cK : Addr) (outer : List Env) (A₀ : Around) (base h₀ : Heap) (L : Addr) (m0 : Str → Option Value) (s : Shared) (Q : Flow → Shared → Prop) (E : Value → Shared → Prop)
    (oK : Obj) (kind d : Int) (tk td tm tf tD : Tok) (DC : Addr) (cv : List Value) (kC : Nat) (news : List (Addr × Obj)) (M Fs Ds : Str) (dot fr tl ls : List Nat) (ns : List Int)
    (B : Below A₀ base outer h₀) (X : (hd.heap_39 w.params).In h₀) (T : Top p loose mean mg mb h₀) (hdp : dp + 200 < recursionLimit) (hun : un + 1000 < cLine)
    (hE : PassesOwn (model Challenge.rw_ph0090_01.row.prog w) (ktrTop dp un gd (Str.ofString "law") scope L a ccd (lawCl cL cH cK) outer) (envX (Str.ofString "law") scope L a ccd (lawCl cL cH cK)) E)
    (F : Fr h₀ L s.heap m0) (N : News h₀ L s.heap news) (hm1 : (cK, oK) ∈ news) (hoK : oK.data = .cell (some (.int kind tk))) (hm2 : (DC, listOf cv.toArray kC) ∈ news) (hcv : cv.length ≤ 100)
    (v1 : m0 (Str.ofString "mail") = some (.str M tm)) (v2 : m0 (Str.ofString "front") = some (.str Fs tf)) (v3 : m0 (Str.ofString "draw") = some (.int d td)) (v4 : m0 (Str.ofString "counts") = some (.ref DC)) (v5 : m0 (Str.ofString "dot") = some (.str Ds tD))
    (hD : Ds.cps.toList = dot) (hF : Fs.cps.toList = fr) (hfo : FrOk dot fr) (hto : TlOk tl ls) (hn : ns.length ≤ 1000) (hfl : fr.length ≤ 900) (hM : MlOk dot fr ls ns M 0)
    (hQ : ∀ (M' Fs' : Str) (tm' tf' : Tok) (u1 : Option Value) (h' : Heap) (tk' : Nat), MlOk dot fr ls ns M' (1 + d.fmod 3).toNat → Fs'.cps.toList = dotsOf dot fr (1 + d.fmod 3).toNat →
      Fr h₀ L h' (fun y => if y = Str.ofString "turn" then u1 else if y = Str.ofString "mail" then some (.str M' tm') else if y = Str.ofString "front" then some (.str Fs' tf') else m0 y) → News h₀ L h' news → Q .next { s with heap := h', toks := tk' }) :
    wpAny (model Challenge.rw_ph0090_01.row.prog w) (ktrTop dp un gd (Str.ofString "law") scope L a ccd (lawCl cL cH cK) outer) (exec st (envX (Str.ofString "law") scope L a ccd (lawCl cL cH cK))) Q E s := by
  have e1 : some st = some _ := hb.symm.trans rfl
  have e2 : some scope = some _ := hsc.symm.trans rfl
  simp only [Option.some.injEq] at e1 e2
  subst e1 e2
  clear hb hsc
  revert X
  k_fill
  intro X
  have kv : ∀ q ∈ [(Str.ofString "mail", Value.str M tm), (Str.ofString "front", Value.str Fs tf), (Str.ofString "draw", Value.int d td), (Str.ofString "counts", Value.ref DC), (Str.ofString "dot", Value.str Ds tD)], m0 q.1 = some q.2 :=
    List.forall_mem_cons.mpr ⟨v1, List.forall_mem_cons.mpr ⟨v2, List.forall_mem_cons.mpr ⟨v3, List.forall_mem_cons.mpr ⟨v4, List.forall_mem_cons.mpr ⟨v5, fun _ h => nomatch h⟩⟩⟩⟩⟩
  have em := frM_eq kv
  replace F := frM_to _ F kv
  k_steps
  rename_i hR tkR tA uA vA IR FR NR kR
  unfold Held
  have hr := fmod_rng d (n := 3) (by decide)
  have hDl : Ds.length ≤ 1 := by
    have : Ds.length = dot.length := by rw [← hD]; exact Array.length_toList.symm
    rw [this]
    rcases hfo.dt with ⟨rfl, _⟩ | ⟨rfl, _⟩ <;> simp
  refine with_m FR fun mF hmF FR' => ?_
  refine iter_rangeUnr (n := (1 + d.fmod 3).toNat) rfl IR (small_one (by decide) (by decide) (by (first | lia | omega)) (by (first | lia | omega))) (by rw [rangeSize_nat]; congr 1; (first | lia | omega)) FR' NR fun I hI => rangeRest_ind (fun i m1 nws => ∃ (M' Fs' : Str) (tm' tf' : Tok) (u1 : Option Value), nws = news ∧ MlOk dot fr ls ns M' i ∧ Fs'.cps.toList = dotsOf dot fr i ∧
    m1 = (fun y => if y = Str.ofString "turn" then u1 else if y = Str.ofString "mail" then some (.str M' tm') else if y = Str.ofString "front" then some (.str Fs' tf') else mF y)) ?zero ?succ _ 0 _ _ (by (first | lia | omega)) ?init
  case init =>
    exact ⟨M, Fs, tm, tf, m0 (Str.ofString "turn"), rfl, hM, hF, by rw [hmF, em]; exact (map3 (x1 := Str.ofString "turn") (x2 := Str.ofString "mail") (x3 := Str.ofString "front") (m := m0) (m0 := m0) rfl fun _ _ _ _ => rfl).trans (by rw [v1, v2])⟩
  case zero =>
    rintro m1 nws ⟨M', Fs', tm', tf', u1, rfl, hM', hF', rfl⟩ h tk F1 N1
    rw [hmF, em] at F1
    exact hQ M' Fs' tm' tf' u1 h tk hM' hF' F1 N1
  case succ =>
    rintro i m1 nws hi ⟨M', Fs', tm', tf', u1, rfl, hM', hF', rfl⟩ t h tk F1 N1
    subst hmF
    have hp1 := hM'.len
    have hp2 := hM'.asc
    have hp3 := hM'.ne
    have hFl : Fs'.length ≤ 1000 := by
      have e : Fs'.length = (dotsOf dot fr i).length := by rw [← hF']; exact Array.length_toList.symm
      have := dotsOf_len hfo i
      (first | lia | omega)
    (try k_fold)
    k_steps
    rename Fr _ _ _ _ => FZ
    rename News _ _ _ _ => NZ
    refine UnrEnd.intro FZ NZ nws (fun p hp => hp) (fun p hp => Nat.ne_of_lt (hI p hp)) ⟨quoteS (fixS M'), Ds ++ Fs', _, _, _, rfl, hM'.sent hfo hto hn (by (first | lia | omega)) (by (first | lia | omega)), ?_, map3 rfl ?_⟩
    · rw [Str.cps_append, Array.toList_append, hD, hF']; rfl
    · intro y h1 h2 h3
      simp only [if_neg h1, if_neg h2, if_neg h3]
end Mine
end
section
set_option maxRecDepth 100000
namespace Mine
open PySem PySem.W PySem.Calls PyProof.Rows PyProof.V PySem.Spec PyProof.Rows.LCg
section
variable {prog : Program} {w : World} {A : Around} {E : Value → Shared → Prop} {s : Shared} {env : Env} {h₀ : Heap} {L : Addr} {m : Str → Option Value} {news : List (Addr × Obj)} {elt : PySem.Expr} {x : Str} {scope : Scope} {cl : List (Str × Addr)}
/-- an element's run: a value of which Pv holds, and all that stood stands -/
noncomputable def Elem (Pv : Value → Prop) (s' : Shared) (h₀ : Heap) (L : Addr) (m : Str → Option Value) (all : List (Addr × Obj)) (y : Value) (s₄ : Shared) : Prop := Pv y ∧ ∃ h' tk, s₄ = { s' with heap := h', toks := tk } ∧ Fr h₀ L h' m ∧ News h₀ L h' all
theorem comp_rest {S : List (Addr × Obj) → Prop} {P : Nat → Value → Prop} {Fin : List Value → List (Addr × Obj) → Prop} {n : Nat} (Pv : Nat → Value → Prop) (hS : S news)
    (elem : ∀ (i : Nat) (v : Value) (C : Addr) (oC : Obj) (m₂ : Str → Option Value) (s' : Shared) (E' : Value → Shared → Prop) (all : List (Addr × Obj)), i < n → P i v → NsObj oC m₂ → m₂ x = some v → Fr h₀ L s'.heap m → (C, oC) ∈ all → (∀ p ∈ news, p ∈ all) → News h₀ L s'.heap all →
      wpAny (model prog w) A (eval elt (PySem.compEnvC scope cl C env)) (Elem (Pv i) s' h₀ L m all) E' s')
    (fin : ∀ ys : List Value, ys.length = n → (∀ i y, ys[i]? = some y → Pv i y) → Fin ys news) : CompRest prog w A h₀ L m env elt x scope cl s S P Fin n 0 [] news := by
  have key : ∀ (j i : Nat) (ys : List Value), i + j = n → ys.length = i → (∀ k y, ys[k]? = some y → Pv k y) → CompRest prog w A h₀ L m env elt x scope cl s S P Fin j i ys news := by
    intro j
    induction j with
    | zero => intro i ys hi hl hP; exact CompRest.zero (fin ys (by (first | lia | omega)) hP)
    | succ j ih =>
      intro i ys hi hl hP
      refine CompRest.succ ?_
      intro v I oI C oC D m₂ h tk E' hv hC hx F N off ne
      refine wpAny_mono (elem i v C oC m₂ { s with heap := h, toks := tk } E' _ (by (first | lia | omega)) hv hC hx F (.tail _ (.head _)) (fun p hp => .tail _ (.tail _ (.tail _ hp))) N) (fun y s₂ hq => ?_) fun _ _ e => e
      obtain ⟨hy, h', tk', rfl, F', N'⟩ := hq
      refine ⟨h', tk', news, rfl, F', N', off, hS, ih (i + 1) (ys ++ [y]) (by (first | lia | omega)) (by simp [hl]) fun k z hz => ?_⟩
      by_cases hk' : k < ys.length
      · rw [List.getElem?_append_left hk'] at hz; exact hP k z hz
      · rw [List.getElem?_append_right (by (first | lia | omega))] at hz
        have : k = i := by
          cases hkk : k - ys.length with
          | zero => (first | lia | omega)
          | succ q => rw [hkk] at hz; simp at hz
        subst this
        rw [hl, Nat.sub_self] at hz
        simp at hz
        subst hz; exact hy
  exact key n 0 [] (by (first | lia | omega)) rfl fun k y h => by simp at h
theorem off1_mem {D : Addr} : ∀ {l : List (Addr × Obj)}, Off1 D l → ∀ p ∈ l, p.1 ≠ D
  | [], _, _, h => nomatch h
  | _ :: _, x, p, h => by
    rcases List.mem_cons.mp h with rfl | h
    · exact x.1
    · exact off1_mem x.2 p h
/-- ints of a made list -/
theorem ints_of {ns : List Int} {g : Int → Int} : ∀ {ys : List Value}, ys.length = ns.length → (∀ (i : Nat) y, ys[i]? = some y → ∃ k t, ns[i]? = some k ∧ y = Value.int (g k) t) → IntsAre ys (ns.map g) := by
  induction ns with
  | nil => intro ys h _; rw [List.eq_nil_of_length_eq_zero h]; exact .nil
  | cons n ns ih =>
    intro ys h hP
    cases ys with
    | nil => simp at h
    | cons y ys =>
      obtain ⟨k, t, h1, h2⟩ := hP 0 y (by simp)
      simp at h1
      subst h1
      rw [List.map_cons, h2]
      refine .cons _ t (ih (by simpa using h) fun i z hz => ?_)
      have := hP (i + 1) z (by simpa using hz)
      simpa using this
end
section
variable {prog : Program} {w : World} {A : Around} {E : Value → Shared → Prop} {s : Shared} {h₀ : Heap} {L a : Addr} {ccd : Value} {cn : Str} {sc : Scope} {cls cl : List (Str × Addr)} {m : Str → Option Value} {news : List (Addr × Obj)} {elt : PySem.Expr} {x : Str} {scope : Scope}
/-- a comprehension over a made list of ints, stored to a name -/
theorem comp_assign {src y : Str} {px py p1 : Pos} {pos spos : Pos} {Q : Flow → Shared → Prop} {ax : Addr} {vs : List Value} {ns : List Int} {k : Nat} (g : Int → Int)
    (hh : A.handled = none) (F : Fr h₀ L s.heap m) (N : News h₀ L s.heap news) (hm : (ax, listOf vs.toArray k) ∈ news) (hv : IntsAre vs ns) (hl : ns.length ≤ 1000)
    (hsw : swapsWith (.ListComp elt [⟨.Name x px, .Name src p1, [], 0⟩] scope pos) (some (.Name y py)) spos.line (envX cn sc L a ccd cls) = pure true)
    (hclos : closureFor scope (envX cn sc L a ccd cls) = pure cl) (hcell : ∀ z ∈ scope.names, z.2 ≠ .cell) (hkind : scope.kind = .function)
    (hnames : ∀ z ∈ scope.names, z.2 = .local → scope.names.lookup z.1 = some .local) (hx : scope.names.lookup x = some .local)
    (hy : (envX cn sc L a ccd cls).kindOf y = some .local) (hp : (sc.kind == .class || (sc.kind == .module && L != mainGlobals)) = false)
    (hk : sc.kind = .function) (hks : (envX cn sc L a ccd cls).kindOf src = some .local) (hvs : m src = some (.ref ax)) (hdb : (src == ("__debug__" : Str)) = false)
    (elem : ∀ (n : Int) (t : Tok) (C : Addr) (oC : Obj) (m₂ : Str → Option Value) (s' : Shared) (E' : Value → Shared → Prop) (all : List (Addr × Obj)), n ∈ ns → NsObj oC m₂ → m₂ x = some (.int n t) → Fr h₀ L s'.heap m → (C, oC) ∈ all → (∀ p ∈ news, p ∈ all) → News h₀ L s'.heap all →
      wpAny (model prog w) A (eval elt (PySem.compEnvC scope cl C (envX cn sc L a ccd cls))) (Elem (fun v => ∃ t, v = .int (g n) t) s' h₀ L m all) E' s')
    (hQ : ∀ D ys h tk, IntsAre ys (ns.map g) → Fr h₀ L h (fun z => if z = y then some (.ref D) else m z) → News h₀ L h ((D, listOf ys.toArray ys.length) :: news) → (∀ p ∈ news, p.1 ≠ D) → Q .next { s with heap := h, toks := tk })
    (hs : ∀ x, foldedSetIterable (.Name src p1) (envX cn sc L a ccd cls) x = pure x := by intro _; rfl) :
    wpAny (model prog w) A (exec (.Assign [.Name y py] (.ListComp elt [⟨.Name x px, .Name src p1, [], 0⟩] scope pos) spos) (envX cn sc L a ccd cls)) Q E s := by
  have hlen := IntsAre.length hv
  refine Assign_ListComp_U F rfl hsw hclos hcell hkind hnames hx hy hp ?_ hs
  refine nameX_L F hvs ?_ hk hks hdb
  refine CompSrc.ledger hh F N hm (by rw [sizeLine_eq, List.size_toArray]; (first | lia | omega)) fun gh => ?_
  have e : vs.toArray.size = vs.length := List.size_toArray
  rw [e]
  refine comp_rest (fun i v => ∃ n t, ns[i]? = some n ∧ v = .int (g n) t) (.inr ⟨_, hm, rfl, _, rfl⟩) (fun i v C oC m₂ s' E' all hi hP hns hxv F' hCm hsub N' => ?_) fun ys hyl hys D h tk F' N' off => ?_
  · obtain ⟨n, t, rfl, hn⟩ := IntsAre.at hv i v (by simpa using hP)
    refine wpAny_mono (elem n t C oC m₂ s' E' all (List.mem_of_getElem? hn) hns hxv F' hCm hsub N') (fun y s₄ hq => ?_) fun _ _ e => e
    obtain ⟨⟨t', rfl⟩, r⟩ := hq
    exact ⟨⟨n, t', hn, rfl⟩, r⟩
  · exact hQ D ys h tk (ints_of (by (first | lia | omega)) hys) F' N' (off1_mem off)
end
end Mine
end
section
set_option maxRecDepth 100000
set_option maxHeartbeats 400000
namespace Mine
noncomputable def flipSt (K : Frag) : Option Stmt := (outerIf K).bind (·[0]?)
noncomputable def endsSt (K : Frag) : Option Stmt := (outerIf K).bind (·[1]?)
section
variable {prog : Program} {w : World} {A : Around} {E : Value → Shared → Prop} {s : Shared} {env : Env}
theorem elem_flip {scope : Scope} {cl : List (Str × Addr)} {C : Addr} {oC : Obj} {m₂ : Str → Option Value} {h₀ : Heap} {L : Addr} {m : Str → Option Value} {all : List (Addr × Obj)} {n : Int} {t : Tok} {p1 p2 p3 : Pos} {kc : Nat} (hC : PyProof.Rows.LCg.NsObj oC m₂) (F : Fr h₀ L s.heap m) (hm : (C, oC) ∈ all) (N : News h₀ L s.heap all) (h1 : m₂ (Str.ofString "letter") = some (.int n t))
    (hkind : scope.kind = .function) (hx1 : scope.names.lookup (Str.ofString "letter") = some .local) :
    wpAny (model prog w) A (eval (.BinOp (.Constant (.int 1) kc p1) .Sub (.Name (Str.ofString "letter") p2) p3) (PySem.compEnvC scope cl C env)) (Elem (fun v => ∃ t, v = .int (1 - n) t) s h₀ L m all) E s := by
  have hk : (PySem.compEnvC scope cl C env).scope.kind = .function := by simp [compEnvC, relabel, hkind]
  have hns := hC.ns (N _ hm).1
  refine wpAny_BinOp ?_
  refine wpAny_Constant_int ?_
  refine wpAny_Name (wpAny_loadName_local hk (lookup_relabel_local hx1) hns h1 ?_)
  refine sub_int ?_
  exact ⟨⟨_, rfl⟩, s.heap, _, rfl, F, N⟩
end
theorem flip (w : World) {st : Stmt} {scope : Scope} (hb : flipSt (hd.heap_39 w.params) = some st) (hsc : scopeOf (hd.heap_39 w.params) 140 = some scope)
    {A : Around} {h₀ : Heap} {L a : Addr} {ccd : Value} {cL cH cK : Addr} {m : Str → Option Value} {news : List (Addr × Obj)} {s : Shared} {Q : Flow → Shared → Prop} {E : Value → Shared → Prop} {ax : Addr} {vs : List Value} {ns : List Int} {k : Nat}
    (hh : A.handled = none) (F : Fr h₀ L s.heap m) (N : News h₀ L s.heap news) (hm : (ax, listOf vs.toArray k) ∈ news) (hv : IntsAre vs ns) (hl : ns.length ≤ 1000) (hvs : m (Str.ofString "word") = some (.ref ax))
    (hQ : ∀ D ys h tk, IntsAre ys (ns.map fun n => 1 - n) → Fr h₀ L h (fun z => if z = Str.ofString "word" then some (.ref D) else m z) → News h₀ L h ((D, listOf ys.toArray ys.length) :: news) → (∀ p ∈ news, p.1 ≠ D) → Q .next { s with heap := h, toks := tk }) :
    wpAny (model Challenge.rw_ph0090_01.row.prog w) A (exec st (envX (Str.ofString "law") scope L a ccd (lawCl cL cH cK))) Q E s := by
  have e1 : some st = some _ := hb.symm.trans rfl
  have e2 : some scope = some _ := hsc.symm.trans rfl
  simp only [Option.some.injEq] at e1 e2
  subst e1 e2
  exact comp_assign (fun n => 1 - n) hh F N hm hv hl (by with_unfolding_all rfl) (by with_unfolding_all rfl) (by decide) rfl (by decide) rfl rfl rfl rfl rfl hvs (by decide)
    (fun n t C oC m₂ s' E' all hn hC hx F' hCm hsub N' => elem_flip hC F' hCm N' hx rfl rfl) hQ
end Mine
end
section
theorem Mine.idle15 : True := by
  w_top off
  k_with_none
  trivial
set_option maxRecDepth 100000
set_option maxHeartbeats 400000
namespace Mine
noncomputable abbrev menuE : List Str := [Str.ofString "\n", Str.ofString "\r", Str.ofString "\r\n"]
section
variable {prog : Program} {w : World} {A : Around} {E : Value → Shared → Prop} {s : Shared}
theorem powK {a b : Int} {t u : Tok} {Q : Value → Shared → Prop} (ha : 2 ≤ a) (h0 : 0 ≤ b) (hz : ((Builtin.Int.intBits a : Nat) : Int) * b ≤ 100000) (h : ∀ t tk, Q (.int (a ^ b.toNat) t) { s with toks := tk }) : wpAny (model prog w) A (binaryOp .Pow (.int a t) (.int b u)) Q E s := by
  by_cases hb : b = 0
  · subst hb
    refine AutoIntOps.pow_0 (by decide) (by decide) ?_
    have := h s.toks (s.toks + 1)
    rw [show a ^ Int.toNat 0 = 1 from Int.pow_zero a] at this
    exact this
  · refine AutoIntOps.pow_4 h0 (by simpa using hb) (by simp; (first | lia | omega)) (by simp; (first | lia | omega)) ?_ ?_
    · unfold Builtin.Int.intTooBig
      have hB : 100000 ≤ (bitsLine : Int) := by decide +kernel
      simp
      (first | lia | omega)
    · exact h _ _
theorem pow3 {b : Int} {t u : Tok} {Q : Value → Shared → Prop} (h0 : 0 ≤ b) (h1 : b ≤ 100) (h : ∀ t tk, Q (.int (3 ^ b.toNat) t) { s with toks := tk }) : wpAny (model prog w) A (binaryOp .Pow (.int 3 t) (.int b u)) Q E s :=
  powK (by decide) h0 (by have : Builtin.Int.intBits 3 = 2 := by decide +kernel
                          rw [this]; (first | lia | omega)) h
end
theorem p3_pos {b : Int} (h0 : 0 ≤ b) (h1 : b ≤ 18) : 0 < (3 : Int) ^ b.toNat ∧ (3 : Int) ^ b.toNat < 1073741824 := by
  have hb : b.toNat ≤ 18 := by (first | lia | omega)
  have e : ((3 ^ b.toNat : Nat) : Int) = (3 : Int) ^ b.toNat := by simp
  have h2 : 0 < 3 ^ b.toNat := Nat.pow_pos (by decide)
  have h3 : 3 ^ b.toNat ≤ 3 ^ 18 := Nat.pow_le_pow_right (by decide) hb
  have h4 : (3 : Nat) ^ 18 < 1073741824 := by decide
  (first | lia | omega)
theorem run33 : True := by
  k_with "k_mem" => (assumption)
  k_with "binaryOp Pow int int" => (k_here; refine pow3 (by (first | lia | omega)) (by (first | lia | omega)) fun _ _ => ?_)
  trivial
theorem elem_ends (w : World) {A : Around} {E : Value → Shared → Prop} {s : Shared} {env : Env} {scope : Scope} {C cK : Addr} {oC oK : Obj} {m m₂ : Str → Option Value} {h₀ : Heap} {L : Addr} {all : List (Addr × Obj)} {n kind : Int} {t tk : Tok} {kc : Nat}
    {p1 p2 p3 p4 p5 p6 p7 p8 p9 p10 p11 p12 p13 p14 p15 p16 : Pos} {k1 k2 k3 k4 k5 k6 : Nat}
    (X : (hd.heap_39 w.params).In h₀)
    (hC : PyProof.Rows.LCg.NsObj oC m₂) (F : Fr h₀ L s.heap m) (hCm : (C, oC) ∈ all) (N : News h₀ L s.heap all) (h1 : m₂ (Str.ofString "place") = some (.int n t)) (hn0 : 0 ≤ n) (hn1 : n ≤ 13) (hmK : (cK, oK) ∈ all) (hoK : oK.data = .cell (some (.int kind tk)))
    (hk : (PySem.compEnvC scope [(Str.ofString "kind", cK)] C env).scope.kind = .function) (hkk : (PySem.compEnvC scope [(Str.ofString "kind", cK)] C env).kindOf (Str.ofString "kind") = some .cell) (hkp : (PySem.compEnvC scope [(Str.ofString "kind", cK)] C env).kindOf (Str.ofString "place") = some .local) :
    wpAny (model Challenge.rw_ph0090_01.row.prog w) A (eval (.Subscript (.Tuple [.Constant (.str (Str.ofString "\n")) k1 p1, .Constant (.str (Str.ofString "\r")) k2 p2, .Constant (.str (Str.ofString "\r\n")) k3 p3] kc p4)
      (.BinOp (.BinOp (.BinOp (.BinOp (.Name (Str.ofString "kind") p5) .FloorDiv (.Constant (.int 96) k4 p6) p7) .FloorDiv (.BinOp (.Constant (.int 3) k5 p8) .Pow (.Name (Str.ofString "place") p9) p10) p11) .Add (.Name (Str.ofString "place") p12) p13) .Mod (.Constant (.int 3) k6 p14) p15) p16)
      (PySem.compEnvC scope [(Str.ofString "kind", cK)] C env)) (Elem (fun v => ∃ S t, v = .str S t ∧ S ∈ menuE) s h₀ L m all) E s := by
  obtain ⟨hp1, hp2⟩ := p3_pos hn0 (by (first | lia | omega) : n ≤ 18)
  revert X
  k_fill
  intro X
  iterate 14 walk1
  rename News _ _ _ _ => N2
  have N1 := N2.tail'
  have hns := hC.ns (N1 _ hCm).1
  have hNs : ∀ {s' : Shared} (e : s'.heap = _), s'.heap.Ns C m₂ := fun {s'} e => e ▸ hns
  refine PySem.W.lcf_cell N2 (x := Str.ofString "kind") rfl (.tail _ hmK) hoK ?_ hk hkk
  refine wpAny_Constant_int ?_
  refine floordiv_int (by decide) ?_ (Or.inl (PyProof.noPylong_of_log2 (by decide +kernel)))
  refine wpAny_BinOp (wpAny_Constant_int (wpAny_Name (wpAny_loadName_local hk hkp (hNs rfl) h1 ?_)))
  refine pow3 hn0 (by (first | lia | omega)) fun t9 k9 => ?_
  refine floordiv_int (by (first | lia | omega)) ?_ (Or.inl (PyProof.noPylong_small (by (first | lia | omega))))
  refine wpAny_Name (wpAny_loadName_local hk hkp (hNs rfl) h1 ?_)
  refine add_int ?_
  refine wpAny_Constant_int ?_
  refine mod_int (by decide) ?_
  have hfr := fmod_rng (((kind.fdiv 96).fdiv (3 ^ n.toNat)) + n) (n := 3) (by decide)
  refine menuS (els := menuE) (n := 0) N2 (.head _) (.cons _ _ (.cons _ _ (.cons _ _ .nil))) hfr.1 hfr.2 (by decide) (fun S t hS => ?_) (by with_unfolding_all rfl)
  rename Fr _ _ _ _ => F2
  exact ⟨⟨S, t, rfl, hS⟩, _, _, rfl, F2, N1⟩
end Mine
end
section
set_option maxRecDepth 100000
namespace Mine
theorem letterS_one {e : Str} : (letterS e 1).cps.toList = e.cps.toList ++ [46] := by
  unfold letterS
  rw [Str.cps_append, Array.toList_append]
  have : (Txt.mul e 1).cps.toList = e.cps.toList := by unfold Txt.mul; simp
  rw [this]; rfl
theorem letterS_zero {e : Str} : (letterS e 0).cps.toList = [46] := by
  unfold letterS
  rw [Str.cps_append, Array.toList_append]
  have : (Txt.mul e 0).cps.toList = [] := by unfold Txt.mul; simp; rfl
  rw [this]; rfl
theorem raw_mail : ∀ {ns : List Int} {els : List Str}, (∀ n ∈ ns, n = 0 ∨ n = 1) → (List.zipWith (fun n e => (letterS e n).cps.toList) ns els).flatten = rawL ns (els.map fun e => e.cps.toList)
  | [], _, _ => rfl
  | n :: ns, [], _ => rfl
  | n :: ns, e :: els, h => by
    have ih := raw_mail (ns := ns) (els := els) fun n hn => h n (.tail _ hn)
    have e1 : rawL (n :: ns) ((e :: els).map fun e => e.cps.toList) = (if n = 1 then e.cps.toList ++ [46] else [46]) ++ rawL ns (els.map fun e => e.cps.toList) := rfl
    have e2 : (List.zipWith (fun n e => (letterS e n).cps.toList) (n :: ns) (e :: els)).flatten = (letterS e n).cps.toList ++ (List.zipWith (fun n e => (letterS e n).cps.toList) ns els).flatten := rfl
    rw [e1, e2, ih]
    congr 1
    rcases h n (.head _) with rfl | rfl
    · rw [letterS_zero]; rfl
    · rw [letterS_one]; rfl
theorem mailS_cps {front : Str} {ns : List Int} {els : List Str} (h : ∀ n ∈ ns, n = 0 ∨ n = 1) : (mailS front ns els).cps.toList = front.cps.toList ++ rawL ns (els.map fun e => e.cps.toList) := by
  unfold mailS
  rw [Str.cps_append, Array.toList_append, ← raw_mail h]
theorem menuE_ends {e : Str} (h : e ∈ menuE) : e.cps.toList ∈ endsL := by
  have : ∀ e ∈ menuE, e.cps.toList ∈ endsL := by decide +kernel
  exact this e h
theorem menuE_len {e : Str} (h : e ∈ menuE) : e.length ≤ 2 := by
  have : ∀ e ∈ menuE, e.length ≤ 2 := by decide +kernel
  exact this e h
theorem menuTl_ok {S : Str} (h : S ∈ menuTl) : TlOk S.cps.toList (lastOf S).cps.toList := by
  have h1 : ∀ S ∈ menuTl, eolF false S.cps.toList = (lastOf S).cps.toList := by decide +kernel
  have h2 : ∀ S ∈ menuTl, eolF false (lastOf S).cps.toList = (lastOf S).cps.toList := by decide +kernel
  have h3 : ∀ S ∈ menuTl, quoteF false (lastOf S).cps.toList = (lastOf S).cps.toList := by decide +kernel
  have h4 : ∀ S ∈ menuTl, ∀ x ∈ S.cps.toList, x < 128 := by decide +kernel
  have h5 : ∀ S ∈ menuTl, ∀ x ∈ (lastOf S).cps.toList, x < 128 := by decide +kernel
  have h6 : ∀ S ∈ menuTl, S.cps.toList.length ≤ 20 := by decide +kernel
  have h7 : ∀ S ∈ menuTl, (lastOf S).cps.toList.length ≤ 20 := by decide +kernel
  exact ⟨h1 S h, h2 S h, h3 S h, h4 S h, h5 S h, h6 S h, h7 S h⟩
theorem menuF_ok {D S : Str} (hD : D = Str.empty ∨ D = Str.ofString ".") (h : S ∈ menuF) : FrOk D.cps.toList (D ++ S).cps.toList := by
  have h1 : ∀ S ∈ menuF, ∀ x ∈ S.cps.toList, x ≠ 10 ∧ x ≠ 13 := by decide +kernel
  have h2 : ∀ S ∈ menuF, ∀ x ∈ S.cps.toList, x < 128 := by decide +kernel
  have h3 : ∀ S ∈ menuF, S.cps.toList ≠ [] ∧ S.cps.toList.head? ≠ some 46 := by decide +kernel
  rw [Str.cps_append, Array.toList_append]
  rcases hD with rfl | rfl
  · exact ⟨h1 S h, h2 S h, (h3 S h).1, .inr ⟨rfl, (h3 S h).2⟩⟩
  · have e : (Str.ofString ".").cps.toList = [46] := by decide +kernel
    rw [e]
    refine ⟨fun x hx => ?_, fun x hx => ?_, by simp, .inl ⟨rfl, rfl⟩⟩
    · rcases List.mem_append.mp hx with hx | hx
      · rw [List.mem_singleton.mp hx]; decide
      · exact h1 S h x hx
    · rcases List.mem_append.mp hx with hx | hx
      · rw [List.mem_singleton.mp hx]; decide
      · exact h2 S h x hx
theorem endsL_small {e : List Nat} (h : e ∈ endsL) : (∀ x ∈ e, x < 128) ∧ e.length ≤ 2 := by
  have : ∀ e ∈ endsL, (∀ x ∈ e, x < 128) ∧ e.length ≤ 2 := by decide
  exact this e h
theorem rawL_small : ∀ {ns : List Int} {es : List (List Nat)}, (∀ e ∈ es, e ∈ endsL) → (∀ x ∈ rawL ns es, x < 128) ∧ (rawL ns es).length ≤ 3 * ns.length
  | [], _, _ => ⟨(fun _ h => nomatch h), Nat.zero_le _⟩
  | n :: ns, [], _ => ⟨(fun _ h => nomatch h), Nat.zero_le _⟩
  | n :: ns, e :: es, h => by
    have ih := rawL_small (ns := ns) (es := es) fun e he => h e (.tail _ he)
    have e1 : rawL (n :: ns) (e :: es) = (if n = 1 then e ++ [46] else [46]) ++ rawL ns es := rfl
    have hs := endsL_small (h e (.head _))
    rw [e1]
    refine ⟨fun x hx => ?_, ?_⟩
    · rcases List.mem_append.mp hx with hx | hx
      · split at hx
        · rcases List.mem_append.mp hx with hx | hx
          · exact hs.1 x hx
          · rw [List.mem_singleton.mp hx]; decide
        · rw [List.mem_singleton.mp hx]; decide
      · exact ih.1 x hx
    · rw [List.length_append, List.length_cons]
      have := ih.2
      have := hs.2
      split <;> simp <;> (first | lia | omega)
/-- the mail as first laid -/
theorem MlOk.first {dot : List Nat} {Fs TS : Str} {ns : List Int} {els : List Str} (hf : FrOk dot Fs.cps.toList) (hT : TS ∈ menuTl) (hfl : Fs.cps.toList.length ≤ 900) (hn : ns.length ≤ 1000) (h01 : ∀ n ∈ ns, n = 0 ∨ n = 1) (hl : els.length = ns.length) (he : ∀ e ∈ els, e ∈ menuE) :
    MlOk dot Fs.cps.toList (lastOf TS).cps.toList ns (mailS Fs ns els ++ TS) 0 := by
  have e1 : (mailS Fs ns els ++ TS).cps.toList = Fs.cps.toList ++ rawL ns (els.map fun e => e.cps.toList) ++ TS.cps.toList := by
    rw [Str.cps_append, Array.toList_append, mailS_cps h01]
  have he' : ∀ e ∈ els.map (fun e : Str => e.cps.toList), e ∈ endsL := fun e h => by
    obtain ⟨e', h1, rfl⟩ := List.mem_map.mp h
    exact menuE_ends (he e' h1)
  have ht := menuTl_ok hT
  have hs := rawL_small (ns := ns) he'
  refine ⟨?_, fun h => absurd h (by decide), fun x hx => ?_, ?_, fun e => ?_⟩
  · rw [e1]
    exact fix_raw hf ht (by simp [hl]) he'
  · have hx : x ∈ (mailS Fs ns els ++ TS).cps.toList := by simpa using hx
    rw [e1] at hx
    rcases List.mem_append.mp hx with hx | hx
    · rcases List.mem_append.mp hx with hx | hx
      · exact hf.asc x hx
      · exact hs.1 x hx
    · exact ht.asc x hx
  · have : (mailS Fs ns els ++ TS).length = (mailS Fs ns els ++ TS).cps.toList.length := Array.length_toList.symm
    rw [this, e1, List.length_append, List.length_append]
    have := hs.2
    have := ht.len
    (first | lia | omega)
  · have : (mailS Fs ns els ++ TS).cps.toList = [] := by rw [e]
    rw [e1] at this
    exact hf.ne (List.append_eq_nil_iff.mp (List.append_eq_nil_iff.mp this).1).1
/-- the mail without its tail -/
theorem cut_mail {M LS : Str} {fr : List Nat} {t : Nat} {ns : List Int} (hM : M.cps.toList = mailF fr t ns LS.cps.toList) : Txt.slice M none (some ((M.length : Int) - (LS.length : Int))) = ⟨(joinL (rowsOf t fr ns)).toArray⟩ := by
  have h1 : M.length = (mailF fr t ns LS.cps.toList).length := by rw [← hM]; exact Array.length_toList.symm
  have h2 : LS.length = LS.cps.toList.length := Array.length_toList.symm
  have h3 : (mailF fr t ns LS.cps.toList).length = (fr ++ XT t ns).length + LS.cps.toList.length := by unfold mailF; rw [List.length_append]
  have h4 : M.cps.toList.length = (mailF fr t ns LS.cps.toList).length := by rw [hM]
  have e : Txt.slice M none (some ((M.length : Int) - (LS.length : Int))) = StrLaws.sliceText M none (some ((M.length : Int) - (LS.length : Int))) := rfl
  rw [e, StrLaws.sliceText_to (by (first | lia | omega)), joinL_rowsOf]
  congr 2
  rw [hM, List.drop_zero]
  have : ((M.length : Int) - (LS.length : Int) - 0).toNat = (fr ++ XT t ns).length := by (first | lia | omega)
  rw [this]
  unfold mailF
  exact List.take_left
/-- the mail laid anew from the word -/
theorem again_mail {M Fs LS : Str} {t : Nat} {ns : List Int} {k : Nat} (h01 : ∀ n ∈ ns, n = 0 ∨ n = 1) (hk : k = (expW t ns).length) (hM : M.cps.toList = mailF Fs.cps.toList t ns LS.cps.toList) : mailS Fs (expW t ns) (List.replicate k (Str.ofString "\r\n")) ++ LS = M := by
  subst hk
  apply Str.ext'
  apply Array.ext'
  rw [hM, Str.cps_append, Array.toList_append, mailS_cps expW_01]
  have e : (Str.ofString "\r\n").cps.toList = [13, 10] := by decide +kernel
  rw [List.map_replicate, e, raw_expW t ns h01]
  rfl
noncomputable def wordOf (cs : List Int) : List Int := cs.foldl (fun W c => expW c.toNat (W.map fun n => 1 - n)) [0]
theorem wordOf_snoc (cs : List Int) (c : Int) : wordOf (cs ++ [c]) = expW c.toNat ((wordOf cs).map fun n => 1 - n) := by unfold wordOf; rw [List.foldl_append]; rfl
theorem flip01 {ns : List Int} (h : ∀ n ∈ ns, n = 0 ∨ n = 1) : ∀ n ∈ ns.map (fun n => 1 - n), n = 0 ∨ n = 1 := fun n hn => by
  obtain ⟨k, hk, rfl⟩ := List.mem_map.mp hn
  rcases h k hk with rfl | rfl
  · exact .inr rfl
  · exact .inl rfl
theorem wordOf_01 (cs : List Int) : ∀ n ∈ wordOf cs, n = 0 ∨ n = 1 := by
  rcases List.eq_nil_or_concat cs with rfl | ⟨cs', c, e⟩
  · intro n hn
    exact .inl (List.mem_singleton.mp hn)
  · rw [e, List.concat_eq_append, wordOf_snoc]; exact expW_01
end Mine
end
section
theorem Mine.idle16 : True := by
  w_top off
  k_with_none
  trivial
local macro_rules | `(tactic| walk_at "idle") => `(tactic| fail)
set_option maxRecDepth 100000
set_option maxHeartbeats 400000
namespace Mine
theorem run34 : True := by
  k_with "k_mem" => (assumption)
  k_with "call builtin:len" => (refine len_list (News.isList (by k_asm) (by k_mem)) (by (simp only [List.size_toArray]; (first | lia | omega))) ?_)
  k_with "call type:range" => (k_here; walk_at "s8")
  k_with "CompSrc" => (refine held ?_)
  trivial
theorem strs_of_menu {n : Nat} : ∀ {ys : List Value}, ys.length = n → (∀ (i : Nat) y, ys[i]? = some y → ∃ S t, y = Value.str S t ∧ S ∈ menuE) → ∃ els : List Str, StrsAre ys els ∧ els.length = n ∧ ∀ e ∈ els, e ∈ menuE := by
  induction n with
  | zero => intro ys h _; rw [List.eq_nil_of_length_eq_zero h]; exact ⟨[], .nil, rfl, fun _ h => nomatch h⟩
  | succ n ih =>
    intro ys h hP
    cases ys with
    | nil => simp at h
    | cons y ys =>
      obtain ⟨S, t, rfl, hS⟩ := hP 0 y (by simp)
      obtain ⟨els, h1, h2, h3⟩ := ih (ys := ys) (by simpa using h) fun i z hz => hP (i + 1) z (by simpa using hz)
      exact ⟨S :: els, .cons S t h1, by simp [h2], List.forall_mem_cons.mpr ⟨hS, h3⟩⟩
theorem ends (w : World) {st : Stmt} {scope : Scope} (hb : endsSt (hd.heap_39 w.params) = some st) (hsc : scopeOf (hd.heap_39 w.params) 140 = some scope)
    {A : Around} {h₀ : Heap} {L a : Addr} {ccd : Value} {cL cH cK : Addr} {m0 : Str → Option Value} {news : List (Addr × Obj)} {s : Shared} {Q : Flow → Shared → Prop} {E : Value → Shared → Prop} {ax : Addr} {vs : List Value} {ns : List Int} {k : Nat} {oK : Obj} {kind : Int} {tk : Tok}
    {p : Program} {loose : List Str} {mean : ExcName → Option Value} {mg mb : Str → Option Value}
    (hh : A.handled = none) (X : (hd.heap_39 w.params).In h₀) (T : Top p loose mean mg mb h₀) (F : Fr h₀ L s.heap m0) (N : News h₀ L s.heap news) (hm : (ax, listOf vs.toArray k) ∈ news) (hv : IntsAre vs ns) (hl : ns.length ≤ 13) (hvs : m0 (Str.ofString "word") = some (.ref ax))
    (hmK : (cK, oK) ∈ news) (hoK : oK.data = .cell (some (.int kind tk)))
    (hQ : ∀ D ys els h tk, StrsAre ys els → els.length = ns.length → (∀ e ∈ els, e ∈ menuE) → Fr h₀ L h (fun z => if z = Str.ofString "ends" then some (.ref D) else m0 z) → News h₀ L h ((D, listOf ys.toArray ys.length) :: news) → (∀ p ∈ news, p.1 ≠ D) → Q .next { s with heap := h, toks := tk }) :
    wpAny (model Challenge.rw_ph0090_01.row.prog w) A (exec st (envX (Str.ofString "law") scope L a ccd (lawCl cL cH cK))) Q E s := by
  have e1 : some st = some _ := hb.symm.trans rfl
  have e2 : some scope = some _ := hsc.symm.trans rfl
  simp only [Option.some.injEq] at e1 e2
  subst e1 e2
  have hlen := IntsAre.length hv
  have kv : ∀ q ∈ [(Str.ofString "word", Value.ref ax)], m0 q.1 = some q.2 := List.forall_mem_cons.mpr ⟨hvs, fun _ h => nomatch h⟩
  have em := frM_eq kv
  have F' := frM_to _ F kv
  refine PyProof.Rows.LCg.Assign_ListComp_U F rfl (by with_unfolding_all rfl) (by with_unfolding_all rfl) (by decide) rfl (by decide) rfl rfl rfl ?_
  revert X
  k_fill
  intro X
  clear F
  k_steps
  rename_i hR tkR tA uA vA IR FR NR kR
  unfold Held
  rw [em] at FR
  have hsz : vs.toArray.size = vs.length := List.size_toArray
  rw [hsz] at IR
  refine PyProof.Rows.LCg.CompSrc.range (n := vs.length) hh FR NR IR (small_one (by decide) (by decide) (by (first | lia | omega)) (by (first | lia | omega))) (by rw [rangeSize_nat]; (first | lia | omega)) (by rw [sizeLine_eq]; (first | lia | omega)) fun g => comp_rest (fun i v => ∃ S t, v = .str S t ∧ S ∈ menuE) trivial (fun i v C oC m₂ s' E' all hi hP hC hx F3 hCm hsub N3 => ?_) fun ys hyl hys D h tk2 F3 N3 off => ?_
  · obtain ⟨t, rfl⟩ := hP
    exact elem_ends w X hC F3 hCm N3 hx (by (first | lia | omega)) (by (first | lia | omega)) (hsub _ hmK) hoK rfl rfl rfl
  · obtain ⟨els, h1, h2, h3⟩ := strs_of_menu hyl hys
    exact hQ D ys els h tk2 h1 (by (first | lia | omega)) h3 F3 N3 (off1_mem off)
end Mine
end
section
theorem Mine.idle17 : True := by
  w_top off
  k_with_none
  trivial
set_option maxRecDepth 100000
set_option maxHeartbeats 1000000
namespace Mine
theorem strs_rep {c : Str} {t : Tok} : ∀ k : Nat, StrsAre (List.replicate k [Value.str c t]).flatten (List.replicate k c)
  | 0 => .nil
  | k + 1 => by
    rw [List.replicate_succ, List.flatten_cons, List.replicate_succ]
    exact .cons _ _ (strs_rep k)
theorem ne_same {prog : Program} {w : World} {A : Around} {E : Value → Shared → Prop} {s : Shared} {x y : Str} {t u : Tok} {Q : Value → Shared → Prop} (e : x = y) (h : Q (.bool false) s) : wpAny (model prog w) A (compareOp .NotEq (.str x t) (.str y u)) Q E s := by
  subst e
  refine ne_str ?_
  rw [bne_self_eq_false]
  exact h
theorem pick_conc {h₀ h : Heap} {L DC : Addr} {news : List (Addr × Obj)} {cv : List Value} {x : Int} {tC : Tok} {kC : Nat} (_ : News h₀ L h news) (hm : (DC, listOf (cv.concat (.int x tC)).toArray kC) ∈ news) : ∃ tC kC, (DC, listOf (cv.concat (.int x tC)).toArray kC) ∈ news := ⟨_, _, hm⟩
theorem str_add_len {x y z : Str} (h : x ++ y = z) : x.length + y.length = z.length := by
  subst h
  show x.cps.size + y.cps.size = (x ++ y).cps.size
  rw [Str.cps_append]; exact Array.size_append.symm
theorem run35 : True := by
  k_with "k_mem" => (assumption)
  k_with "binaryOp Add str str" => (k_here; refine SB.add (fun _ _ => ?_) (by assumption))
  k_with "binaryOp Mult ref int" => (k_here; k_dflt (refine' mulK ?j96F ?j96N ?j96m ?j96lo ?j96hi ?j96z ?_; (case j96F => k_asm); (case j96N => k_asm); (case j96m => k_mem); (case j96lo => ((try simp only [List.size_toArray]); (first | lia | omega))); (case j96hi => ((try simp only [List.size_toArray]); (first | lia | omega))); (case j96z => ((try simp only [List.size_toArray, List.length_cons, List.length_nil]); (first | lia | omega)))); walk_at "s5")
  k_with "compareOp NotEq str str" => (k_here; refine ne_same (by assumption) ?_)
  k_with "pyIter ref" => (refine held ?_)
  k_with "exec For Name Subscript cons nil" => (k_here; walk_at "s9")
  k_with "subscriptTail Name Slice ref ref" => (k_here; k_dflt (refine' kmk_slice_lit ?j100F ?j100N ?j100l ?j100pl ?j100pu (congrArg Array.toList (PySem.V.slicePick_upto' _ 6)) ?_ ?j100hs ?j100ht ?j100z; (case j100F => k_asm); (case j100N => k_asm); (case j100l => exact News.isList (by k_asm) (by k_mem)); (case j100pl => exact .none); (case j100pu => exact .int _ _); (case j100hs => with_unfolding_all rfl); (case j100ht => (intro _; with_unfolding_all rfl)); (case j100z => (rw [sizeLine_eq, List.size_toArray]; (first | lia | omega)))); walk_at "s5")
  k_with "call builtin:len" => (refine len_list (News.isList (by k_asm) (by k_mem)) (by (simp only [List.size_toArray]; (first | lia | omega))) ?_)
  k_with "exec Assign cons ListComp" => (refine held ?_)
  k_with "call ref" => (refine held ?_)
  k_with "exec For Name Call cons nil" => (refine held ?_)
  k_with "subscriptTail Name Slice str ref" => (k_here; walk_at "s10")
  k_with "call builtin:len" => (k_here; refine' lenS ?j106l ?_; (case j106l => (first | lia | omega)); intro _ _)
  trivial
structure OInv (Ds : Str) (mF : Str → Option Value) (I DC D : Addr) (oD : Obj) (news : List (Addr × Obj)) (rem : List Value) (m1 : Str → Option Value) (nws : List (Addr × Obj)) (rd cs : List Int) (W1 : Addr) (wv cv : List Value) (k2 k3 : Nat) (F1 : Str) (tf1 : Tok) : Prop where
  c1 : IntsAre rem rd
  c2 : IntsAre wv (wordOf cs)
  c3 : IntsAre cv cs
  c4 : (wordOf cs).length ≤ 52
  c5 : cs = [] → rem ≠ []
  c6 : cs.length + rem.length ≤ 6
  c7 : ∀ c ∈ cs, 1 ≤ c ∧ c ≤ 3
  c8 : FrOk Ds.cps.toList F1.cps.toList
  c9 : F1.cps.toList.length ≤ 4 + 3 * cs.length
  c10 : m1 (Str.ofString "word") = some (.ref W1)
  c11 : m1 (Str.ofString "front") = some (.str F1 tf1)
  c12 : ∀ y, y ≠ Str.ofString "draw" → y ≠ Str.ofString "word" → y ≠ Str.ofString "ends" → y ≠ Str.ofString "mail" → y ≠ Str.ofString "turn" → y ≠ Str.ofString "front" → m1 y = mF y
  c13 : nws = (D, oD) :: (DC, listOf cv.toArray k2) :: (W1, listOf wv.toArray k3) :: news
  c14 : ¬ @Eq Nat W1 I
  c15 : ¬ @Eq Nat W1 DC
  c16 : AllLt W1 news
theorem loopOut (w : World) {st : Stmt} {scope : Scope} (hb : outerFor (hd.heap_39 w.params) = some st) (hsc : scopeOf (hd.heap_39 w.params) 140 = some scope)
    (p : Program) (loose : List Str) (mean : ExcName → Option Value) (mg mb : Str → Option Value)
    (dp un : Nat) (gd : Option (List Code)) (a : Addr) (ccd : Value) (cL cH cK : Addr) (outer : List Env) (A₀ : Around) (base h₀ : Heap) (L : Addr) (m0 : Str → Option Value) (s : Shared) (Q : Flow → Shared → Prop) (E : Value → Shared → Prop)
    (oK : Obj) (kind : Int) (tk tl tl2 tf tD : Tok) (DA DC DW : Addr) (dv : List Value) (ds : List Int) (kD k0 k1 : Nat) (t0 : Tok) (news : List (Addr × Obj)) (Fs Ds TS : Str)
    (B : Below A₀ base outer h₀) (X : (hd.heap_39 w.params).In h₀) (T : Top p loose mean mg mb h₀) (hdp : dp + 200 < recursionLimit) (hun : un + 1000 < cLine)
    (hE : PassesOwn (model Challenge.rw_ph0090_01.row.prog w) (ktrTop dp un gd (Str.ofString "law") scope L a ccd (lawCl cL cH cK) outer) (envX (Str.ofString "law") scope L a ccd (lawCl cL cH cK)) E)
    (F : Fr h₀ L s.heap m0) (N : News h₀ L s.heap ((DC, listOf #[] k0) :: (DW, listOf #[.int 0 t0] k1) :: news)) (hm1 : (cK, oK) ∈ news) (hoK : oK.data = .cell (some (.int kind tk))) (hm2 : (DA, listOf dv.toArray kD) ∈ news) (hdv : IntsAre dv ds) (hds : ds.length = 10)
    (hDC : @LT.lt Nat _ DW DC) (hDC2 : AllLt DC news) (hDW : AllLt DW news)
    (v1 : m0 (Str.ofString "draws") = some (.ref DA)) (v2 : m0 (Str.ofString "front") = some (.str Fs tf)) (v3 : m0 (Str.ofString "word") = some (.ref DW)) (v4 : m0 (Str.ofString "counts") = some (.ref DC)) (v5 : m0 (Str.ofString "dot") = some (.str Ds tD)) (v6 : m0 (Str.ofString "tail") = some (.str TS tl)) (v7 : m0 (Str.ofString "last") = some (.str (lastOf TS) tl2))
    (hFo : FrOk Ds.cps.toList Fs.cps.toList) (hFl : Fs.cps.toList.length ≤ 4) (hTS : TS ∈ menuTl)
    (hQ : ∀ (m1 : Str → Option Value) (W1 : Addr) (wv cv : List Value) (cs : List Int) (k2 k3 : Nat) (h' : Heap) (tk' : Nat), IntsAre wv (wordOf cs) → (wordOf cs).length ≤ 52 → IntsAre cv cs → cs ≠ [] → cs.length ≤ 6 → (∀ c ∈ cs, 1 ≤ c ∧ c ≤ 3) →
      m1 (Str.ofString "word") = some (.ref W1) → m1 (Str.ofString "counts") = some (.ref DC) → m1 (Str.ofString "draws") = some (.ref DA) → AllLt W1 news → (¬ @Eq Nat W1 DC) → Fr h₀ L h' m1 → News h₀ L h' ((DC, listOf cv.toArray k2) :: (W1, listOf wv.toArray k3) :: news) → Q .next { s with heap := h', toks := tk' }) :
    wpAny (model Challenge.rw_ph0090_01.row.prog w) (ktrTop dp un gd (Str.ofString "law") scope L a ccd (lawCl cL cH cK) outer) (exec st (envX (Str.ofString "law") scope L a ccd (lawCl cL cH cK))) Q E s := by
  have e1 : some st = some _ := hb.symm.trans rfl
  have e2 : some scope = some _ := hsc.symm.trans rfl
  simp only [Option.some.injEq] at e1 e2
  subst e1 e2
  clear hb hsc
  have kv : ∀ q ∈ [(Str.ofString "draws", Value.ref DA), (Str.ofString "front", Value.str Fs tf), (Str.ofString "word", Value.ref DW), (Str.ofString "counts", Value.ref DC), (Str.ofString "dot", Value.str Ds tD), (Str.ofString "tail", Value.str TS tl), (Str.ofString "last", Value.str (lastOf TS) tl2)], m0 q.1 = some q.2 :=
    List.forall_mem_cons.mpr ⟨v1, List.forall_mem_cons.mpr ⟨v2, List.forall_mem_cons.mpr ⟨v3, List.forall_mem_cons.mpr ⟨v4, List.forall_mem_cons.mpr ⟨v5, List.forall_mem_cons.mpr ⟨v6, List.forall_mem_cons.mpr ⟨v7, fun _ h => nomatch h⟩⟩⟩⟩⟩⟩⟩
  have em := frM_eq kv
  replace F := frM_to _ F kv
  have hdl := IntsAre.length hdv
  have hm2' := List.Mem.tail (DC, listOf #[] k0) (List.Mem.tail (DW, listOf #[.int 0 t0] k1) hm2)
  revert X
  k_fill
  intro X
  k_steps
  rename_i D hv hR FR NR hIv hCv hLv l1
  unfold Held
  obtain ⟨lD1, lD2, lD3⟩ := l1
  have hAll : ∀ p ∈ (D, listOf hv.toArray 0) :: (DC, listOf #[] k0) :: (DW, listOf #[.int 0 t0] k1) :: news, True := fun _ _ => trivial
  rw [em] at FR
  refine with_m FR fun mF hmF FR' => ?_
  refine iter_listUnr (n := 0) rfl FR' NR (.head _) rfl rfl fun I hI => listRest_ind (fun rem m1 nws => ∃ (rd cs : List Int) (W1 : Addr) (wv cv : List Value) (k2 k3 : Nat) (F1 : Str) (tf1 : Tok), OInv Ds mF I DC D (listOf hv.toArray 0) news rem m1 nws rd cs W1 wv cv k2 k3 F1 tf1) ?zero ?succ _ _ _ ?init
  case init =>
    have hl2 := IntsAre.length hIv
    subst hmF
    exact ⟨_, [], DW, [.int 0 t0], [], k0, k1, Fs, tf, hIv, .cons 0 _ .nil, .nil, by decide, (fun _ e => by rw [e] at hl2; simp at hl2; (first | lia | omega)), by simp; (first | lia | omega), (fun _ h => nomatch h), hFo, by simpa using hFl, v3, v2, fun _ _ _ _ _ _ _ => rfl, rfl, Nat.ne_of_lt (hI _ (.tail _ (.tail _ (.head _)))), Nat.ne_of_lt hDC, hDW⟩
  case zero =>
    rintro m1 nws ⟨rd, cs, W1, wv, cv, k2, k3, F1, tf1, hrem, hwv, hcv, hwl, hne, hcl, hc13, hf1, hf2, hm1, hm2, hm3, rfl, hW1, hW2, hW3⟩ h tk FF NN
    subst hmF
    refine hQ m1 W1 wv cv cs k2 k3 h tk hwv hwl hcv (fun e => hne e rfl) (by simpa using hcl) hc13 hm1 ?_ ?_ hW3 hW2 FF (News.sub NN fun p hp => .tail _ hp)
    · exact (hm3 _ (by decide) (by decide) (by decide) (by decide) (by decide) (by decide)).trans v4
    · exact (hm3 _ (by decide) (by decide) (by decide) (by decide) (by decide) (by decide)).trans v1
  case succ =>
    rintro v rem m1 nws ⟨rd, cs, W1, wv, cv, k2, k3, F1, tf1, hrem, hwv, hcv, hwl, hne, hcl, hc13, hf1, hf2, hm1, hm2, hm3, rfl, hW1, hW2, hW3⟩ it h tk hit FF NN
    subst hmF
    cases hrem with
    | cons d td hrem' =>
    have hI1 : @LT.lt Nat _ D I := hI _ (.head _)
    have hI2 : @LT.lt Nat _ DC I := hI _ (.tail _ (.head _))
    have hI3 : AllLt I news := allLt_of fun p hp => hI p (.tail _ (.tail _ (.tail _ hp)))
    have h6 : ∀ {y : Str} {z : Value}, mF y = some z → y ≠ Str.ofString "draw" → y ≠ Str.ofString "word" → y ≠ Str.ofString "ends" → y ≠ Str.ofString "mail" → y ≠ Str.ofString "turn" → y ≠ Str.ofString "front" → m1 y = some z := fun hz a1 a2 a3 a4 a5 a6 => (hm3 _ a1 a2 a3 a4 a5 a6).trans hz
    have g4 := h6 v4 (by decide) (by decide) (by decide) (by decide) (by decide) (by decide)
    have g5 := h6 v5 (by decide) (by decide) (by decide) (by decide) (by decide) (by decide)
    have g6 := h6 v6 (by decide) (by decide) (by decide) (by decide) (by decide) (by decide)
    have g7 := h6 v7 (by decide) (by decide) (by decide) (by decide) (by decide) (by decide)
    obtain ⟨mG, hmG⟩ : ∃ mG : Str → Option Value, mG = fun y => if y = Str.ofString "draw" then some (Value.int d td) else m1 y := ⟨_, rfl⟩
    rw [← hmG] at FF
    have h7 : ∀ {y : Str} {z : Value}, m1 y = some z → y ≠ Str.ofString "draw" → mG y = some z := fun hz a1 => by rw [hmG]; exact (if_neg a1).trans hz
    have h8 : mG (Str.ofString "draw") = some (Value.int d td) := by rw [hmG]; exact if_pos rfl
    have b1 := h7 hm2 (by decide)
    have b2 := h7 hm1 (by decide)
    have b4 := h7 g4 (by decide)
    have b5 := h7 g5 (by decide)
    have b6 := h7 g6 (by decide)
    have b7 := h7 g7 (by decide)
    have kv2 : ∀ q ∈ [(Str.ofString "draw", Value.int d td), (Str.ofString "front", Value.str F1 tf1), (Str.ofString "word", Value.ref W1), (Str.ofString "counts", Value.ref DC), (Str.ofString "dot", Value.str Ds tD), (Str.ofString "tail", Value.str TS tl), (Str.ofString "last", Value.str (lastOf TS) tl2)], mG q.1 = some q.2 :=
      List.forall_mem_cons.mpr ⟨h8, List.forall_mem_cons.mpr ⟨b1, List.forall_mem_cons.mpr ⟨b2, List.forall_mem_cons.mpr ⟨b4, List.forall_mem_cons.mpr ⟨b5, List.forall_mem_cons.mpr ⟨b6, List.forall_mem_cons.mpr ⟨b7, fun _ h => nomatch h⟩⟩⟩⟩⟩⟩⟩
    have em2 := frM_eq kv2
    replace FF := frM_to _ FF kv2
    have hwl2 := IntsAre.length hwv
    (try k_fold)
    k_steps
    · unfold Held
      rename Fr _ _ _ _ => FA
      rename News _ _ _ _ => NA
      refine flip w rfl rfl rfl FA NA (.tail _ (.tail _ (.tail _ (.head _)))) hwv (by (first | lia | omega)) rfl fun D1 y1 h1 tk1 hy1 FB NB off1 => ?_
      have hn1 : ¬ @Eq Nat D1 DC := fun e => off1 _ (.tail _ (.tail _ (.head _))) e.symm
      have hn1' : ¬ @Eq Nat I D1 := fun e => off1 _ (.head _) e
      have hlf : ((wordOf cs).map fun n => 1 - n).length = (wordOf cs).length := List.length_map _
      have hW14 : (wordOf cs).length ≤ 13 := by (first | lia | omega)
      obtain ⟨V, hV⟩ : ∃ V, V = (wordOf cs).map fun n => 1 - n := ⟨_, rfl⟩
      have hV01 : ∀ n ∈ V, n = 0 ∨ n = 1 := by rw [hV]; exact flip01 (wordOf_01 cs)
      rw [← hV] at hy1 hlf
      have hy1l := IntsAre.length hy1
      have hF1l : F1.length = F1.cps.toList.length := Array.length_toList.symm
      (try k_fold)
      k_steps
      unfold Held
      refine ends w rfl rfl rfl X T FB NB (.head _) hy1 (by (first | lia | omega)) rfl (by k_mem) hoK fun D2 y2 els h2 tk2 hy2 he1 he2 FC NC off2 => ?_
      have hn2 : ¬ @Eq Nat D2 DC := fun e => off2 _ (.tail _ (.tail _ (.tail _ (.head _)))) e.symm
      have hn2' : ¬ @Eq Nat I D2 := fun e => off2 _ (.tail _ (.head _)) e
      (try k_fold)
      k_steps
      unfold Held
      have hMl0 := MlOk.first hf1 hTS (by (first | lia | omega)) (by (first | lia | omega) : V.length ≤ 1000) hV01 he1 he2
      refine SpP.use (cml w F1 tf1 D1 D2 y1 y2 _ _ V els hy1 hy2 hV01 (fun e he => menuE_len (he2 e he)) (by (first | lia | omega)) (by (first | lia | omega))) B FC X NC T rfl ⟨.tail _ (.head _), .head _⟩ (by (first | lia | omega)) (by (first | lia | omega)) fun r tl9 h9 tk9 F9 N9 hl9 ho9 => ?_
      obtain ⟨rfl, t9, rfl⟩ := ho9
      have hz1 : (mailS F1 V els).length + TS.length ≤ sizeLine := by
        have := hMl0.len
        have e : (mailS F1 V els ++ TS).length = (mailS F1 V els).length + TS.length := by
          show (mailS F1 V els ++ TS).cps.size = _
          rw [Str.cps_append]; exact Array.size_append
        rw [sizeLine_eq]; (first | lia | omega)
      have hcvl := IntsAre.length hcv
      (try dsimp only)
      (try k_fold)
      k_steps
      unfold Held
      rename Fr _ _ _ _ => FD
      rename News _ _ _ _ => ND
      have hr := fmod_rng d (n := 3) (by decide)
      refine loopIn w rfl rfl p loose mean mg mb dp un gd a ccd cL cH cK outer A₀ base h₀ L _ _ _ _ oK kind d _ td _ tf1 tD DC _ _ _ (mailS F1 V els ++ TS) F1 Ds Ds.cps.toList F1.cps.toList TS.cps.toList (lastOf TS).cps.toList V B X T hdp hun hE FD ND (by k_mem) hoK (.tail _ (.tail _ (.tail _ (.tail _ (.head _))))) (by rw [List.length_concat]; show cv.length + 1 ≤ 100; (first | lia | omega)) rfl rfl rfl rfl rfl rfl rfl hf1 (menuTl_ok hTS) (by (first | lia | omega)) (by (first | lia | omega)) hMl0 ?_
      intro M2 F2 tm2 tf2 u1 h3 tk3 hM2 hF2 FE NE
      obtain ⟨t, ht⟩ : ∃ t, t = (1 + d.fmod 3).toNat := ⟨_, rfl⟩
      rw [← ht] at hM2 hF2
      have hMe : M2.cps.toList = mailF F2.cps.toList t V (lastOf TS).cps.toList := by rw [hF2]; exact hM2.fin (by (first | lia | omega))
      have hf2' : FrOk Ds.cps.toList F2.cps.toList := by rw [hF2]; exact dotsOf_ok hf1 t
      have hF2l : F2.cps.toList.length ≤ t + F1.cps.toList.length := by rw [hF2]; exact dotsOf_len hf1 t
      have hF2l' : F2.length = F2.cps.toList.length := Array.length_toList.symm
      have hM2l := hM2.len
      have hLl : (lastOf TS).length ≤ 20 := by
        have := (menuTl_ok hTS).len2
        have e : (lastOf TS).length = (lastOf TS).cps.toList.length := Array.length_toList.symm
        (first | lia | omega)
      have hz2 : M2.length ≤ sizeLine := by rw [sizeLine_eq]; (first | lia | omega)
      (try dsimp only)
      (try k_fold)
      k_steps
      unfold Held
      rename Fr _ _ _ _ => FG
      rename News _ _ _ _ => NG
      rw [cut_mail hMe]
      obtain ⟨r0, rs, er⟩ := rowsOf_ne t V F2.cps.toList
      rw [er]
      have h13 := rowsOf_13 t V F2.cps.toList (fun h => (hf2'.plain 13 h).2 rfl)
      rw [er] at h13
      obtain ⟨w1, w2, w3⟩ := wordW_rowsOf t F2.length V F2.cps.toList r0 rs er (Nat.le_of_eq hF2l')
      have hXl := XT_len t V
      have hXl2 : (t + 3) * V.length ≤ 6 * 13 := Nat.mul_le_mul (by (first | lia | omega)) (by (first | lia | omega))
      have hjl : (joinL (r0 :: rs)).length ≤ 10000 := by
        rw [← er, joinL_rowsOf, List.length_append]; (first | lia | omega)
      refine Sp.use (cw w F2 r0 rs _ _ h13 w2 w1 hjl) B FG X NG T rfl (by (first | lia | omega)) (by (first | lia | omega)) fun r tl9 h9 tk9 F9 N9 hl9 ho9 => ?_
      obtain ⟨W2, wv2, ep, rfl, rfl, hw2⟩ := ho9
      have hw3 : IntsAre wv2 (expW t V) := by
        rw [w3, hF2l', Nat.sub_self] at hw2
        exact hw2
      have hn3 : @LT.lt Nat _ DC W2 := hl9 _ (.tail _ (.tail _ (.tail _ (.tail _ (.head _))))) _ (.head _)
      have hl9' : ∀ p ∈ news, p.1 < W2 := fun p hp => hl9 p (.tail _ (.tail _ (.tail _ (.tail _ (.tail _ (.tail _ hp)))))) _ (.head _)
      have hn3' : @LT.lt Nat _ I W2 := hl9 _ (.tail _ (.tail _ (.head _))) _ (.head _)
      have hWl := expW_len t V
      have hWl2 : (t + 1) * V.length ≤ 4 * 13 := Nat.mul_le_mul (by (first | lia | omega)) (by (first | lia | omega))
      have hwv2 := IntsAre.length hw3
      (try dsimp only)
      (try k_fold)
      k_steps
      unfold Held
      rename Fr _ _ _ _ => FH
      rename News _ _ _ _ => NH
      refine SpP.use (cml w F2 tf2 W2 _ wv2 _ _ _ (expW t V) _ hw3 (strs_rep _) expW_01 (fun e he => by rw [List.eq_of_mem_replicate he]; decide +kernel) (by (first | lia | omega)) (by (first | lia | omega))) B FH X NH T rfl ⟨.tail _ (.tail _ (.head _)), .head _⟩ (by (first | lia | omega)) (by (first | lia | omega)) fun r tl9 h9 tk9 F9 N9 hl9 ho9 => ?_
      obtain ⟨rfl, t9, rfl⟩ := ho9
      have hag := again_mail (k := (((expW t V).length : Nat) : Int).toNat) hV01 (by (first | lia | omega)) hMe
      have hz3 := str_add_len hag
      have hz4 : (mailS F2 (expW t V) (List.replicate (((expW t V).length : Nat) : Int).toNat (Str.ofString "\r\n"))).length + (lastOf TS).length ≤ sizeLine := by rw [hz3]; exact hz2
      (try dsimp only)
      (try k_fold)
      k_steps
      rename Fr _ _ _ _ => FZ
      rename News _ _ _ _ => NZ
      obtain ⟨tC, kC, hmC⟩ := pick_conc (cv := cv) (x := 1 + d.fmod 3) NZ (.tail _ (.tail _ (.tail _ (.tail _ (.tail _ (.tail _ (.tail _ (.head _))))))))
      have hfin := hm3
      refine UnrEnd.intro FZ NZ ((D, listOf hv.toArray 0) :: (DC, listOf (cv.concat (Value.int (1 + d.fmod 3) tC)).toArray kC) :: (W2, listOf wv2.toArray ep) :: news) (fun p hp => ?_) (fun p hp => ?_) ⟨.head _, _, cs ++ [1 + d.fmod 3], W2, wv2, _, _, _, F2, tf2, hrem', ?_, ?_, ?_, ?_, ?_, ?_, hf2', ?_, rfl, rfl, ?_, rfl, ?_, ?_, ?_⟩
      · rcases List.mem_cons.mp hp with rfl | hp
        · exact .tail _ (.tail _ (.tail _ (.tail _ (.tail _ (.head _)))))
        · rcases List.mem_cons.mp hp with rfl | hp
          · exact .tail _ (.tail _ (.tail _ (.tail _ (.tail _ (.tail _ (.head _))))))
          · rcases List.mem_cons.mp hp with rfl | hp
            · exact hmC
            · rcases List.mem_cons.mp hp with rfl | hp
              · exact .tail _ (.tail _ (.head _))
              · exact .tail _ (.tail _ (.tail _ (.tail _ (.tail _ (.tail _ (.tail _ (.tail _ (.tail _ hp))))))))
      · rcases List.mem_cons.mp hp with rfl | hp
        · exact Nat.ne_of_lt hI1
        · rcases List.mem_cons.mp hp with rfl | hp
          · exact Nat.ne_of_lt hI2
          · rcases List.mem_cons.mp hp with rfl | hp
            · exact Nat.ne_of_gt hn3'
            · exact Nat.ne_of_lt (of_allLt hI3 p hp)
      · rw [wordOf_snoc, ← hV, ← ht]; exact hw3
      · rw [List.concat_eq_append]; exact IntsAre.append hcv (.cons _ _ .nil)
      · rw [wordOf_snoc, ← hV, ← ht]; (first | lia | omega)
      · exact fun e => absurd e (by simp)
      · rw [List.length_append, List.length_cons, List.length_nil]
        rw [List.length_cons] at hcl
        (first | lia | omega)
      · intro c hc
        rcases List.mem_append.mp hc with hc | hc
        · exact hc13 c hc
        · rw [List.mem_singleton.mp hc]; (first | lia | omega)
      · rw [List.length_append, List.length_cons, List.length_nil]; (first | lia | omega)
      · intro y n1 n2 n3 n4 n5 n6
        simp only [if_neg n2, if_neg n3, if_neg n4, if_neg n5, if_neg n6]
        rw [em2, hmG]
        simp only [if_neg n1]
        exact hm3 y n1 n2 n3 n4 n5 n6
      · exact Nat.ne_of_gt hn3'
      · exact Nat.ne_of_gt hn3
      · exact allLt_of fun p hp => hl9' p hp
    · rename Fr _ _ _ _ => FZ
      rename News _ _ _ _ => NZ
      rw [em2] at FZ
      refine UnrEnd.intro FZ NZ ((D, listOf hv.toArray 0) :: (DC, listOf cv.toArray k2) :: (W1, listOf wv.toArray k3) :: news) (fun p hp => hp) (fun p hp => ?_) ⟨.head _, _, cs, W1, wv, cv, k2, k3, F1, tf1, hrem', hwv, hcv, hwl, ?_, ?_, hc13, hf1, hf2, b2, b1, ?_, rfl, hW1, hW2, hW3⟩
      · rcases List.mem_cons.mp hp with rfl | hp
        · exact Nat.ne_of_lt hI1
        · rcases List.mem_cons.mp hp with rfl | hp
          · exact Nat.ne_of_lt hI2
          · rcases List.mem_cons.mp hp with rfl | hp
            · exact hW1
            · exact Nat.ne_of_lt (of_allLt hI3 p hp)
      · intro e
        subst e
        simp [wordOf] at *
      · rw [List.length_cons] at hcl
        (first | lia | omega)
      · intro y n1 n2 n3 n4 n5 n6
        rw [hmG]
        simp only [if_neg n1]
        exact hm3 y n1 n2 n3 n4 n5 n6
end Mine
end
section
theorem Mine.idle18 : True := by
  w_top off
  k_with_none
  trivial
local macro_rules | `(tactic| walk_at "idle") => `(tactic| fail)
set_option maxRecDepth 100000
set_option maxHeartbeats 1000000
namespace Mine
theorem run36 : True := by
  k_with "binaryOp Mult str int" => (k_here; refine dot_mul (one_sub2 _) ?_; intro _ _ _ _)
  k_with "subscriptTail Tuple cons BinOp ref int" => (k_here; k_dflt (refine' menuS ?j108N ?j108m ?j108v ?j108h0 ?j108h1 ?j108hh ?_ ?j108hs; (case j108N => k_asm); (case j108m => k_mem); (case j108v => first | exact .cons _ _ (.cons _ _ (.cons _ _ (.cons _ _ .nil))) | exact .cons _ _ (.cons _ _ (.cons _ _ .nil))); (case j108h0 => exact (fmod_rng _ (by decide)).1); (case j108h1 => exact (fmod_rng _ (by decide)).2); (case j108hh => decide); (case j108hs => with_unfolding_all rfl)); intro _ _ _)
  k_with "exec For" => (refine held ?_)
  k_with "binaryOp Add str str" => (k_here; refine SB.add (fun _ _ => ?_) (front_size (by assumption) (by assumption)))
  k_with "call builtin:str.replace" => (k_here; refine' repK ?j111u ?j111v ?j111uv ?j111yz ?j111hx ?j111hz ?_; (case j111yz => decide +kernel); (case j111hz => decide +kernel); (case j111hx => with_reducible first | exact rep3_len (by assumption) | exact rep2_len (by assumption) | exact rep1_len (by assumption)); (case j111u => exact Nat.ne_of_gt (by (first | lia | omega))); (case j111v => exact Nat.ne_of_gt (by (first | lia | omega))); (case j111uv => exact Nat.ne_of_lt (by (first | lia | omega))); walk_at "s7")
  k_with "execs cons" => (k_here; refine gen_toks (fun _ _ => ?_) (Nat.add_one_pos _))
  trivial
theorem seg1b (w : World) {body : List Stmt} {scope : Scope} (hb : defOf (hd.heap_39 w.params) 140 = some body) (hsc : scopeOf (hd.heap_39 w.params) 140 = some scope)
    (p : Program) (loose : List Str) (mean : ExcName → Option Value) (mg mb : Str → Option Value)
    (dp un : Nat) (gd : Option (List Code)) (a : Addr) (ccd : Value) (cL cH cK : Addr) (outer : List Env) (A₀ : Around) (base h₀ : Heap) (L : Addr) (m0 : Str → Option Value) (s : Shared) (Q : Flow → Shared → Prop) (E : Value → Shared → Prop)
    (oL oH oK : Obj) (DA : Addr) (kD : Nat) (d0 d1 d2 d3 d4 d5 d6 d7 d8 d9 : Int) (t0 t1 t2 t3 t4 t5 t6 t7 t8 t9 : Tok)
    (B : Below A₀ base outer h₀) (X : (hd.heap_39 w.params).In h₀) (T : Top p loose mean mg mb h₀) (hdp : dp + 200 < recursionLimit) (hun : un + 1000 < cLine)
    (F : Fr h₀ L s.heap (fun y => if y = Str.ofString "draws" then some (.ref DA) else m0 y))
    (N : News h₀ L s.heap ((DA, listOf [.int d0 t0, .int d1 t1, .int d2 t2, .int d3 t3, .int d4 t4, .int d5 t5, .int d6 t6, .int d7 t7, .int d8 t8, .int d9 t9].toArray kD) :: (cL, oL) :: (cH, oH) :: (cK, oK) :: tabs0))
    (l0 : @LT.lt Nat _ cL DA ∧ @LT.lt Nat _ cH DA ∧ @LT.lt Nat _ cK DA ∧ @LT.lt Nat _ 54 DA ∧ @LT.lt Nat _ 47 DA) (l1 : @LT.lt Nat _ cH cL ∧ @LT.lt Nat _ cK cL ∧ @LT.lt Nat _ 54 cL ∧ @LT.lt Nat _ 47 cL) (l2 : @LT.lt Nat _ cK cH ∧ @LT.lt Nat _ 54 cH ∧ @LT.lt Nat _ 47 cH) (l3 : @LT.lt Nat _ 54 cK ∧ @LT.lt Nat _ 47 cK) (hoL : oL.data = .cell none) (hoH : oH.data = .cell none) (hoK : oK.data = .cell none)
    (hE : PassesOwn (model Challenge.rw_ph0090_01.row.prog w) (ktrTop dp un gd (Str.ofString "law") scope L a ccd (lawCl cL cH cK) outer) (envX (Str.ofString "law") scope L a ccd (lawCl cL cH cK)) E)
    (hQ : ∀ (m1 : Str → Option Value) (DC W1 : Addr) (wv cv : List Value) (cs : List Int) (k2 k3 : Nat) (oK' : Obj) (tkk : Tok) (h' : Heap) (tk' : Nat), IntsAre wv (wordOf cs) → (wordOf cs).length ≤ 52 → IntsAre cv cs → cs ≠ [] → cs.length ≤ 6 → (∀ c ∈ cs, 1 ≤ c ∧ c ≤ 3) →
      m1 (Str.ofString "word") = some (.ref W1) → m1 (Str.ofString "counts") = some (.ref DC) → m1 (Str.ofString "draws") = some (.ref DA) → oK'.data = .cell (some (.int d9 tkk)) →
      (@LT.lt Nat _ DA DC ∧ @LT.lt Nat _ cL DC ∧ @LT.lt Nat _ cH DC ∧ @LT.lt Nat _ cK DC ∧ @LT.lt Nat _ 54 DC ∧ @LT.lt Nat _ 47 DC) → (@LT.lt Nat _ DA W1 ∧ @LT.lt Nat _ cL W1 ∧ @LT.lt Nat _ cH W1 ∧ @LT.lt Nat _ cK W1 ∧ @LT.lt Nat _ 54 W1 ∧ @LT.lt Nat _ 47 W1) → (¬ @Eq Nat W1 DC) →
      Fr h₀ L h' m1 → News h₀ L h' ((DC, listOf cv.toArray k2) :: (W1, listOf wv.toArray k3) :: (DA, listOf [.int d0 t0, .int d1 t1, .int d2 t2, .int d3 t3, .int d4 t4, .int d5 t5, .int d6 t6, .int d7 t7, .int d8 t8, .int d9 t9].toArray kD) :: (cL, oL) :: (cH, oH) :: (cK, oK') :: tabs0) →
      wpAny (model Challenge.rw_ph0090_01.row.prog w) (ktrTop dp un gd (Str.ofString "law") scope L a ccd (lawCl cL cH cK) outer) (execs (body.drop 9) (envX (Str.ofString "law") scope L a ccd (lawCl cL cH cK))) Q E { s with heap := h', toks := tk' }) :
    wpAny (model Challenge.rw_ph0090_01.row.prog w) (ktrTop dp un gd (Str.ofString "law") scope L a ccd (lawCl cL cH cK) outer) (execs (body.drop 1) (envX (Str.ofString "law") scope L a ccd (lawCl cL cH cK))) Q E s := by
  have e1 : some body = some _ := hb.symm.trans rfl
  have e2 : some scope = some _ := hsc.symm.trans rfl
  simp only [Option.some.injEq] at e1 e2
  subst e1 e2
  clear hb hsc
  revert X
  k_fill
  intro X
  dsimp only [List.drop]
  k_steps
  unfold Held
  rename Fr _ _ _ _ => FR
  rename News _ _ _ _ => NR
  rename_i tK hK oK' hoK' tk6 htk6 Sd ts6 ks6 hSd h9 tk5 htk5 D1 h8 lD1 Sf ts5 hSf ts4 ks3 h7 tk4 htk4 D2 h6 lD2 St ts3 hSt h5 tk3 htk3 ts2 ks2 hks2 ts1 ks1 hks1 ts0 ks0 hks0 h4 tk2 htk2 DW h3 lW h2 tk1 htk1 DC h1 lC h0 tk0 htk0
  refine loopOut w rfl rfl p loose mean mg mb dp un gd a ccd cL cH cK outer A₀ base h₀ L _ _ _ _ oK' d9 _ _ _ _ _ DA _ _ [.int d0 t0, .int d1 t1, .int d2 t2, .int d3 t3, .int d4 t4, .int d5 t5, .int d6 t6, .int d7 t7, .int d8 t8, .int d9 t9] [d0, d1, d2, d3, d4, d5, d6, d7, d8, d9] kD _ _ _ _ _ _ _ B X T hdp hun hE FR NR (.tail _ (.tail _ (.tail _ (.tail _ (.tail _ (.head _)))))) hoK' (.tail _ (.tail _ (.head _)))
    (.cons _ _ (.cons _ _ (.cons _ _ (.cons _ _ (.cons _ _ (.cons _ _ (.cons _ _ (.cons _ _ (.cons _ _ (.cons _ _ .nil)))))))))) rfl lC.1 ?l2 ?l3 rfl rfl rfl rfl rfl rfl rfl (menuF_ok hSd hSf) ?fl hSt ?hq
  case l2 => exact allLt_of (List.forall_mem_cons.mpr ⟨lC.2.1, List.forall_mem_cons.mpr ⟨lC.2.2.1, List.forall_mem_cons.mpr ⟨lC.2.2.2.1, List.forall_mem_cons.mpr ⟨lC.2.2.2.2.1, List.forall_mem_cons.mpr ⟨lC.2.2.2.2.2.1, List.forall_mem_cons.mpr ⟨lC.2.2.2.2.2.2.1, List.forall_mem_cons.mpr ⟨lC.2.2.2.2.2.2.2.1, List.forall_mem_cons.mpr ⟨lC.2.2.2.2.2.2.2.2, fun _ h => nomatch h⟩⟩⟩⟩⟩⟩⟩⟩)
  case l3 => exact allLt_of (List.forall_mem_cons.mpr ⟨lW.1, List.forall_mem_cons.mpr ⟨lW.2.1, List.forall_mem_cons.mpr ⟨lW.2.2.1, List.forall_mem_cons.mpr ⟨lW.2.2.2.1, List.forall_mem_cons.mpr ⟨lW.2.2.2.2.1, List.forall_mem_cons.mpr ⟨lW.2.2.2.2.2.1, List.forall_mem_cons.mpr ⟨lW.2.2.2.2.2.2.1, List.forall_mem_cons.mpr ⟨lW.2.2.2.2.2.2.2, fun _ h => nomatch h⟩⟩⟩⟩⟩⟩⟩⟩)
  case fl =>
    have e1 := dot_len hSd
    have e2 := menuF_len hSf
    have e3 := str_add_len (x := Sd) (y := Sf) rfl
    have e4 : (Sd ++ Sf).length = (Sd ++ Sf).cps.toList.length := Array.length_toList.symm
    (first | lia | omega)
  case hq =>
    intro m1 W1 wv cv cs k2 k3 h' tk' hwv hwl hcv hne hcl hc13 hw hc hd hlW hW1 FZ NZ
    obtain ⟨-, -, q1, q2, q3, q4, q5, q6, -⟩ := hlW
    exact hQ m1 DC W1 wv cv cs k2 k3 oK' _ h' tk' hwv hwl hcv hne hcl hc13 hw hc hd hoK' ⟨lC.2.2.2.1, lC.2.2.2.2.1, lC.2.2.2.2.2.1, lC.2.2.2.2.2.2.1, lC.2.2.2.2.2.2.2.1, lC.2.2.2.2.2.2.2.2⟩ ⟨q1, q2, q3, q4, q5, q6⟩ hW1 FZ (News.sub NZ fun p hp => by
      rcases List.mem_cons.mp hp with rfl | hp
      · exact .head _
      · rcases List.mem_cons.mp hp with rfl | hp
        · exact .tail _ (.head _)
        · exact .tail _ (.tail _ (.tail _ (.tail _ hp))))
end Mine
end
section
set_option maxRecDepth 100000
namespace Mine
/-- a word's number: a0 for a letter 0, a1 for a letter 1, at lengths l0, l1 -/
noncomputable def G (B : Int) (l0 l1 : Nat) (a0 a1 : Int) : List Int → Int
  | [] => 0
  | x :: r => (if x = 1 then a1 else a0) + B ^ (if x = 1 then l1 else l0) * G B l0 l1 a0 a1 r
/-- c zeros, l0 apart -/
noncomputable def R (B : Int) (l0 : Nat) : Nat → Int
  | 0 => 0
  | c + 1 => 1 + B ^ l0 * R B l0 c
theorem G_zeros (B : Int) (l0 l1 : Nat) (a0 a1 : Int) (r : List Int) : ∀ c : Nat, G B l0 l1 a0 a1 (List.replicate c 0 ++ r) = a0 * R B l0 c + B ^ (c * l0) * G B l0 l1 a0 a1 r
  | 0 => by simp [R]
  | c + 1 => by
    rw [List.replicate_succ, List.cons_append]
    show (if (0 : Int) = 1 then a1 else a0) + B ^ (if (0 : Int) = 1 then l1 else l0) * _ = _
    rw [if_neg (by decide), if_neg (by decide), G_zeros B l0 l1 a0 a1 r c]
    show _ = a0 * (1 + B ^ l0 * R B l0 c) + _
    have e : (c + 1) * l0 = l0 + c * l0 := by rw [Nat.succ_mul, Nat.add_comm]
    rw [e, Int.pow_add]
    grind
theorem G_exp (B : Int) (l0 l1 c : Nat) (a0 a1 : Int) : ∀ v : List Int, (∀ n ∈ v, n = 0 ∨ n = 1) → G B l0 l1 a0 a1 (expW c (v.map fun n => 1 - n)) = G B (l1 + c * l0) l0 (a1 + a0 * (B ^ l1 * R B l0 c)) a0 v
  | [], _ => rfl
  | x :: v, h => by
    have ih := G_exp B l0 l1 c a0 a1 v fun n hn => h n (.tail _ hn)
    rw [List.map_cons, expW_cons]
    rcases h x (.head _) with rfl | rfl
    · rw [if_pos (by decide), List.cons_append]
      show (if (1 : Int) = 1 then a1 else a0) + B ^ (if (1 : Int) = 1 then l1 else l0) * G B l0 l1 a0 a1 (List.replicate c 0 ++ _) = (if (0 : Int) = 1 then a0 else a1 + a0 * (B ^ l1 * R B l0 c)) + B ^ (if (0 : Int) = 1 then l0 else l1 + c * l0) * G B (l1 + c * l0) l0 (a1 + a0 * (B ^ l1 * R B l0 c)) a0 v
      rw [if_pos rfl, if_pos rfl, if_neg (by decide), if_neg (by decide), G_zeros, ih, Int.pow_add]
      grind
    · rw [if_neg (by decide), List.cons_append, List.nil_append]
      show (if (1 : Int) - 1 = 1 then a1 else a0) + B ^ (if (1 : Int) - 1 = 1 then l1 else l0) * G B l0 l1 a0 a1 _ = (if (1 : Int) = 1 then a0 else a1 + a0 * (B ^ l1 * R B l0 c)) + B ^ (if (1 : Int) = 1 then l0 else l1 + c * l0) * G B (l1 + c * l0) l0 (a1 + a0 * (B ^ l1 * R B l0 c)) a0 v
      rw [if_neg (by decide), if_neg (by decide), if_pos rfl, if_pos rfl, ih]
theorem G_lin (B : Int) (l0 l1 : Nat) (a0 a1 b0 b1 k j : Int) : ∀ v : List Int, G B l0 l1 (k * a0 + j * b0) (k * a1 + j * b1) v = k * G B l0 l1 a0 a1 v + j * G B l0 l1 b0 b1 v
  | [] => by simp [G]
  | x :: v => by
    have ih := G_lin B l0 l1 a0 a1 b0 b1 k j v
    simp only [G]
    rw [ih]
    split <;> grind
/-- ends with a letter 0 -/
noncomputable def Last0 (v : List Int) : Prop := v.getLast? = some 0
theorem pow_ge {B : Int} (hB : 2 ≤ B) {l : Nat} (hl : 1 ≤ l) : 2 ≤ B ^ l := by
  have h1 : (B ^ l : Int) = B * B ^ (l - 1) := by
    rw [show l = (l - 1) + 1 by (first | lia | omega), Int.pow_succ, Nat.add_sub_cancel, Int.mul_comm]
  have h2 : 0 < B ^ (l - 1) := Int.pow_pos (by (first | lia | omega))
  rw [h1]
  calc (2 : Int) ≤ B * 1 := by (first | lia | omega)
    _ ≤ B * B ^ (l - 1) := Int.mul_le_mul_of_nonneg_left (by (first | lia | omega)) (by (first | lia | omega))
theorem G_nonneg {B : Int} (hB : 2 ≤ B) {l0 l1 : Nat} {a0 a1 : Int} (h0 : 0 ≤ a0) (h1 : 0 ≤ a1) : ∀ v : List Int, 0 ≤ G B l0 l1 a0 a1 v
  | [] => by simp [G]
  | x :: v => by
    have ih := G_nonneg hB (l0 := l0) (l1 := l1) h0 h1 v
    simp only [G]
    have hp : ∀ k : Nat, 0 ≤ B ^ k * G B l0 l1 a0 a1 v := fun k => Int.mul_nonneg (Int.le_of_lt (Int.pow_pos (by (first | lia | omega)))) ih
    by_cases hx : x = 1
    · simp only [if_pos hx]; have := hp l1; (first | lia | omega)
    · simp only [if_neg hx]; have := hp l0; (first | lia | omega)
theorem G_top {B : Int} (hB : 2 ≤ B) {l0 l1 : Nat} (h0 : 1 ≤ l0) (h1 : 1 ≤ l1) : ∀ v : List Int, Last0 v → 1 ≤ G B l0 l1 1 (-1) v
  | [], h => by simp [Last0] at h
  | [x], h => by
    have : x = 0 := by simpa [Last0] using h
    subst this
    simp [G]
  | x :: y :: v, h => by
    have ih := G_top hB h0 h1 (y :: v) (by simpa [Last0] using h)
    rw [G]
    have h2 : ∀ l : Nat, 1 ≤ l → 2 * 1 ≤ B ^ l * G B l0 l1 1 (-1) (y :: v) := fun l hl => by
      have hp := pow_ge hB hl
      exact Int.mul_le_mul hp ih (by decide) (by (first | lia | omega))
    by_cases hx : x = 1
    · simp only [if_pos hx]; have := h2 l1 h1; (first | lia | omega)
    · simp only [if_neg hx]; have := h2 l0 h0; (first | lia | omega)
theorem G_lt {B : Int} (hB : 2 ≤ B) {l0 l1 : Nat} (h0 : 1 ≤ l0) (h1 : 1 ≤ l1) {v : List Int} (h : Last0 v) : G B l0 l1 0 1 v < G B l0 l1 1 0 v := by
  have a := G_top hB h0 h1 v h
  have b := G_lin B l0 l1 1 0 0 1 1 (-1) v
  have e1 : (1 : Int) * 1 + -1 * 0 = 1 := by decide
  have e2 : (1 : Int) * 0 + -1 * 1 = -1 := by decide
  rw [e1, e2] at b
  (first | lia | omega)
theorem expW_last {c : Nat} (hc : 1 ≤ c) : ∀ v : List Int, v ≠ [] → Last0 (expW c v)
  | [], h => absurd rfl h
  | [x], _ => by
    obtain ⟨k, rfl⟩ : ∃ k, c = k + 1 := ⟨c - 1, by (first | lia | omega)⟩
    unfold Last0
    simp only [expW, List.flatMap_cons, List.flatMap_nil, List.append_nil]
    by_cases hx : x = 1
    · rw [if_pos hx, List.replicate_succ', ← List.cons_append, List.getLast?_append]; rfl
    · rw [if_neg hx]; rfl
  | x :: y :: v, _ => by
    have ih := expW_last hc (y :: v) (by simp)
    rw [expW_cons]
    unfold Last0 at ih ⊢
    rw [List.getLast?_append, ih]; rfl
theorem Last0.ne {v : List Int} (h : Last0 v) : v ≠ [] := fun e => by subst e; simp [Last0] at h
theorem wordOf_last {cs : List Int} (h : ∀ c ∈ cs, 1 ≤ c) : Last0 (wordOf cs) := by
  have key : ∀ (cs : List Int) (W : List Int), (∀ c ∈ cs, 1 ≤ c) → Last0 W → Last0 (cs.foldl (fun W c => expW c.toNat (W.map fun n => 1 - n)) W) := by
    intro cs
    induction cs with
    | nil => intro W _ h; exact h
    | cons c cs ih =>
      intro W h hW
      refine ih _ (fun c hc => h c (.tail _ hc)) (expW_last (by have := h c (.head _); (first | lia | omega)) _ fun e => hW.ne (List.map_eq_nil_iff.mp e))
  exact key cs _ h rfl
/-- uniqueness of the quotient and the rest -/
theorem div_unique {x b q r q' r' : Int} (e : x = q * b + r) (h : (0 ≤ r ∧ r < b) ∨ (b < r ∧ r ≤ 0)) (e' : x = q' * b + r') (h' : (0 ≤ r' ∧ r' < b) ∨ (b < r' ∧ r' ≤ 0)) : q = q' ∧ r = r' := by
  have e3 : (q - q') * b = r' - r := by rw [Int.sub_mul]; (first | lia | omega)
  have hq : q - q' = 0 := by
    rcases Int.lt_trichotomy (q - q') 0 with hl | hl | hl
    · rcases h with h | h <;> rcases h' with h' | h' <;> try (first | lia | omega)
      · have : (q - q') * b ≤ -1 * b := Int.mul_le_mul_of_nonneg_right (by (first | lia | omega)) (by (first | lia | omega))
        (first | lia | omega)
      · have : -1 * b ≤ (q - q') * b := Int.mul_le_mul_of_nonpos_right (by (first | lia | omega)) (by (first | lia | omega))
        (first | lia | omega)
    · exact hl
    · rcases h with h | h <;> rcases h' with h' | h' <;> try (first | lia | omega)
      · have : 1 * b ≤ (q - q') * b := Int.mul_le_mul_of_nonneg_right (by (first | lia | omega)) (by (first | lia | omega))
        (first | lia | omega)
      · have : (q - q') * b ≤ 1 * b := Int.mul_le_mul_of_nonpos_right (by (first | lia | omega)) (by (first | lia | omega))
        (first | lia | omega)
  rw [hq, Int.zero_mul] at e3
  (first | lia | omega)
theorem valOf_G (n : Nat) (a0 a1 : Int) : ∀ v : List Int, valOf n (v.map fun l => if l = 1 then a1 else a0) = G (2 ^ n) 1 1 a0 a1 v
  | [] => rfl
  | x :: v => by
    rw [List.map_cons]
    show _ + 2 ^ n * valOf n _ = _
    rw [valOf_G n a0 a1 v, G]
    by_cases hx : x = 1
    · simp only [if_pos hx, Int.pow_succ, Int.pow_zero, Int.one_mul]
    · simp only [if_neg hx, Int.pow_succ, Int.pow_zero, Int.one_mul]
theorem digN_val {n : Nat} : ∀ {ds : List Int}, (∀ d ∈ ds, 0 ≤ d ∧ d < 2 ^ n) → digN n ds.length (valOf n ds) = ds
  | [], _ => rfl
  | d :: ds, h => by
    have hd := h d (.head _)
    have hp : (0 : Int) < 2 ^ n := Int.pow_pos (by decide)
    show (valOf n (d :: ds)) % 2 ^ n :: digN n ds.length ((valOf n (d :: ds)) / 2 ^ n) = _
    have e : valOf n (d :: ds) = d + 2 ^ n * valOf n ds := rfl
    rw [e, Int.add_mul_emod_self_left, Int.emod_eq_of_lt hd.1 hd.2, Int.add_mul_ediv_left _ _ (Int.ne_of_gt hp), Int.ediv_eq_zero_of_lt hd.1 hd.2, Int.zero_add, digN_val fun d hd => h d (.tail _ hd)]
theorem digs_val {n : Nat} {ds : List Int} (hn : 0 < n) (h : ∀ d ∈ ds, 0 ≤ d ∧ d < 2 ^ n) (hl : 0 < valOf n (ds.drop (ds.length - 1))) : digs n (valOf n ds) = ds := by
  have hne : 0 < ds.length := by
    cases ds with
    | nil => simp [valOf] at hl
    | cons => simp
  have hp : ∀ k : Nat, (0 : Int) < 2 ^ k := fun k => Int.pow_pos (by decide)
  have hnn : ∀ l : List Int, (∀ d ∈ l, 0 ≤ d ∧ d < 2 ^ n) → 0 ≤ valOf n l ∧ valOf n l < 2 ^ (n * l.length) := by
    intro l
    induction l with
    | nil => intro _; exact ⟨Int.le_refl 0, by simp [valOf]⟩
    | cons d l ih =>
      intro h
      have i := ih fun d hd => h d (.tail _ hd)
      have hd := h d (.head _)
      have e : valOf n (d :: l) = d + 2 ^ n * valOf n l := rfl
      have e2 : (2 : Int) ^ (n * (d :: l).length) = 2 ^ n * 2 ^ (n * l.length) := by rw [List.length_cons, Nat.mul_succ, Nat.add_comm, Int.pow_add]
      have m1 : 0 ≤ 2 ^ n * valOf n l := Int.mul_nonneg (Int.le_of_lt (hp n)) i.1
      have m2 : 2 ^ n * (valOf n l + 1) ≤ 2 ^ n * 2 ^ (n * l.length) := Int.mul_le_mul_of_nonneg_left (by (first | lia | omega)) (Int.le_of_lt (hp n))
      rw [Int.mul_add, Int.mul_one] at m2
      rw [e, e2]
      (first | lia | omega)
  have hb := (hnn ds h).2
  have h0 := (hnn ds h).1
  have hs : valOf n ds = valOf n (ds.take (ds.length - 1)) + 2 ^ (n * (ds.length - 1)) * valOf n (ds.drop (ds.length - 1)) := by
    have := valOf_append n (ds.take (ds.length - 1)) (ds.drop (ds.length - 1))
    rw [List.take_append_drop, List.length_take, Nat.min_eq_left (by (first | lia | omega))] at this
    exact this
  have ht := (hnn (ds.take (ds.length - 1)) fun d hd => h d (List.mem_of_mem_take hd)).1
  have hge : (2 : Int) ^ (n * (ds.length - 1)) ≤ valOf n ds := by
    have m := Int.mul_le_mul_of_nonneg_left (show (1 : Int) ≤ valOf n (ds.drop (ds.length - 1)) by (first | lia | omega)) (Int.le_of_lt (hp (n * (ds.length - 1))))
    rw [Int.mul_one] at m
    (first | lia | omega)
  have b1 := bits_lo hge
  have b2 := bits_le h0 hb
  unfold digs
  have hk : (Builtin.Int.intBits (valOf n ds) + n - 1) / n = ds.length := by
    have e : n * ds.length = n * (ds.length - 1) + n := by
      rw [← Nat.mul_succ]; congr 1; (first | lia | omega)
    refine Nat.div_eq_of_lt_le ?_ ?_
    · rw [Nat.mul_comm]; (first | lia | omega)
    · rw [Nat.mul_comm, Nat.mul_succ]; (first | lia | omega)
  rw [hk, digN_val h]
theorem valOf_zeros (n : Nat) : ∀ k : Nat, valOf n (List.replicate k 0) = 0
  | 0 => rfl
  | k + 1 => by
    rw [List.replicate_succ]
    show 0 + 2 ^ n * valOf n _ = 0
    rw [valOf_zeros n k]; simp
/-- the told number -/
theorem valOf_told (n near far : Nat) (hf : 1 ≤ far) : ∀ c : Nat, valOf n (toldL near far (c + 1)) = (2 ^ n) ^ near * R (2 ^ n) far (c + 1) := by
  intro c
  have key : ∀ c : Nat, valOf n ((List.replicate c (1 :: List.replicate (far - 1) 0)).flatten ++ [1]) = R (2 ^ n) far (c + 1) := by
    intro c
    induction c with
    | zero => simp [valOf, R]
    | succ c ih =>
      rw [List.replicate_succ, List.flatten_cons, List.append_assoc, valOf_append, ih]
      have e : valOf n (1 :: List.replicate (far - 1) 0) = 1 := by
        show 1 + 2 ^ n * valOf n _ = 1
        rw [valOf_zeros]; simp
      rw [e, List.length_cons, List.length_replicate, show far - 1 + 1 = far by (first | lia | omega), Int.pow_mul]
      rfl
  unfold toldL
  rw [List.append_assoc, valOf_append, valOf_zeros, List.length_replicate, Nat.add_sub_cancel, key, Int.pow_mul]
  (first | lia | omega)
theorem told_digs {n near far c : Nat} (hn : 0 < n) (hf : 1 ≤ far) (hc : 1 ≤ c) : digs n ((2 ^ n) ^ near * R (2 ^ n) far c) = toldL near far c := by
  obtain ⟨c, rfl⟩ : ∃ k, c = k + 1 := ⟨c - 1, by (first | lia | omega)⟩
  rw [← valOf_told n near far hf c]
  have h2 : (2 : Int) ≤ 2 ^ n := pow_ge (by decide) hn
  refine digs_val hn (fun d hd => ?_) ?_
  · have : d = 0 ∨ d = 1 := by
      unfold toldL at hd
      rcases List.mem_append.mp hd with hd | hd
      · rcases List.mem_append.mp hd with hd | hd
        · exact .inl (List.eq_of_mem_replicate hd)
        · obtain ⟨l, hl, hd⟩ := List.mem_flatten.mp hd
          rw [List.eq_of_mem_replicate hl] at hd
          rcases List.mem_cons.mp hd with hd | hd
          · exact .inr hd
          · exact .inl (List.eq_of_mem_replicate hd)
      · exact .inr (List.mem_singleton.mp hd)
    (first | lia | omega)
  · unfold toldL
    rw [List.length_append, List.length_singleton, Nat.add_sub_cancel, List.drop_left]
    show (0 : Int) < 1 + 2 ^ n * 0
    (first | lia | omega)
end Mine
end
section
theorem Mine.idle19 : True := by
  w_top off
  k_with_none
  trivial
set_option maxRecDepth 100000
set_option maxHeartbeats 1000000
namespace Mine
section
variable {prog : Program} {w : World} {A : Around} {E : Value → Shared → Prop} {s : Shared}
theorem powX {a b : Int} {t u : Tok} {Q : Value → Shared → Prop} (ha : 2 ≤ a) (h0 : 0 ≤ b) (hz : ((Builtin.Int.intBits a : Nat) : Int) * b ≤ 100000) (h : ∀ v t tk, Q (.int v t) { s with toks := tk }) : wpAny (model prog w) A (binaryOp .Pow (.int a t) (.int b u)) Q E s :=
  powK ha h0 hz fun t tk => h _ t tk
theorem pow2 {b : Int} {t u : Tok} {Q : Value → Shared → Prop} (h0 : 0 ≤ b) (h1 : b ≤ 10000) (h : ∀ v t tk, v = 2 ^ b.toNat → 0 < v → Q (.int v t) { s with toks := tk }) : wpAny (model prog w) A (binaryOp .Pow (.int 2 t) (.int b u)) Q E s :=
  powK (by decide) h0 (by have : Builtin.Int.intBits 2 = 2 := by decide +kernel
                          rw [this]; omega) fun t tk => h _ t tk rfl (Int.pow_pos (by decide))
end
theorem bits3 : ((Builtin.Int.intBits 3 : Nat) : Int) * 4000 ≤ 100000 := by
  have : Builtin.Int.intBits 3 = 2 := by decide +kernel
  rw [this]; decide
theorem bits7 : ((Builtin.Int.intBits 7 : Nat) : Int) * 2500 ≤ 100000 := by
  have : Builtin.Int.intBits 7 = 3 := by decide +kernel
  rw [this]; decide
theorem width_rng (x : Int) : 1 ≤ 1 + x.fmod 1400 ∧ 1 + x.fmod 1400 ≤ 1400 := by
  have := fmod_rng x (n := 1400) (by decide)
  omega
theorem fm_bits {x v k : Int} (hv : v = 2 ^ k.toNat) (hk : k ≤ ((5600 : Nat) : Int)) : 0 ≤ x.fmod v ∧ Builtin.Int.intBits (x.fmod v) ≤ 5600 := by
  have hp : 0 < v := by rw [hv]; exact Int.pow_pos (by decide)
  have := fmod_rng x hp
  exact ⟨this.1, bits_lt_p2 this.1 (by rw [← hv]; exact this.2) hk⟩
theorem bits_neg {x : Int} {m : Nat} (h : Builtin.Int.intBits x ≤ m) : Builtin.Int.intBits (-x) ≤ m := intBits_le_of_natAbs (by omega) h
theorem bits_succ {x : Int} {m : Nat} (h0 : 0 ≤ x) (h : Builtin.Int.intBits x ≤ m) : Builtin.Int.intBits (1 + x) ≤ m + 1 := by
  have h1 := lt_bits h
  have h2 : (2 : Int) ^ (m + 1) = 2 ^ m * 2 := Int.pow_succ _ _
  have h3 : (0 : Int) < 2 ^ m := Int.pow_pos (by decide)
  exact bits_le (by omega) (by omega)
theorem run37 : True := by
  k_with "k_mem" => (assumption)
  k_with "binaryOp Pow int int" => (k_here; first
  | (refine powX (by decide) (by decide) bits3 ?_; intro _ _ _)
  | (refine powX (by decide) (by decide) bits7 ?_; intro _ _ _)
  | (refine pow2 (by omega) (by omega) ?_; intro _ _ _ _ _))
  k_with "binaryOp Mod int int" => (k_here; first | refine mod_int (by decide) ?_ | refine mod_int (by omega) ?_)
  k_with "execs cons" => ((with_reducible show wpAny _ _ (execs (Stmt.Assign [Expr.Name (PySem.Str.ofString "big") _] _ _ :: _) _) _ _ _); refine held ?_)
  trivial
theorem seg3a (w : World) {body : List Stmt} {scope : Scope} (hb : defOf (hd.heap_39 w.params) 140 = some body) (hsc : scopeOf (hd.heap_39 w.params) 140 = some scope)
    (p : Program) (loose : List Str) (mean : ExcName → Option Value) (mg mb : Str → Option Value)
    (dp un : Nat) (gd : Option (List Code)) (a : Addr) (ccd : Value) (cL cH cK : Addr) (outer : List Env) (A₀ : Around) (base h₀ : Heap) (L : Addr) (m1 : Str → Option Value) (s : Shared) (Q : Flow → Shared → Prop) (E : Value → Shared → Prop)
    (oL oH oK : Obj) (DA DC W1 : Addr) (kD k2 k3 : Nat) (d0 d1 d2 d3 d4 d5 d6 d7 d8 d9 : Int) (t0 t1 t2 t3 t4 t5 t6 t7 t8 t9 tkk : Tok) (wv cv : List Value) (cs : List Int)
    (B : Below A₀ base outer h₀) (X : (hd.heap_39 w.params).In h₀) (T : Top p loose mean mg mb h₀) (hdp : dp + 200 < recursionLimit) (hun : un + 1000 < cLine)
    (hE : PassesOwn (model Challenge.rw_ph0090_01.row.prog w) (ktrTop dp un gd (Str.ofString "law") scope L a ccd (lawCl cL cH cK) outer) (envX (Str.ofString "law") scope L a ccd (lawCl cL cH cK)) E)
    (hwv : IntsAre wv (wordOf cs)) (hwl : (wordOf cs).length ≤ 52) (hcv : IntsAre cv cs) (hne : cs ≠ []) (hcl : cs.length ≤ 6) (hc13 : ∀ c ∈ cs, 1 ≤ c ∧ c ≤ 3)
    (v1 : m1 (Str.ofString "word") = some (.ref W1)) (v2 : m1 (Str.ofString "counts") = some (.ref DC)) (v3 : m1 (Str.ofString "draws") = some (.ref DA)) (hoK : oK.data = .cell (some (.int d9 tkk)))
    (lC : @LT.lt Nat _ DA DC ∧ @LT.lt Nat _ cL DC ∧ @LT.lt Nat _ cH DC ∧ @LT.lt Nat _ cK DC ∧ @LT.lt Nat _ 54 DC ∧ @LT.lt Nat _ 47 DC) (lW : @LT.lt Nat _ DA W1 ∧ @LT.lt Nat _ cL W1 ∧ @LT.lt Nat _ cH W1 ∧ @LT.lt Nat _ cK W1 ∧ @LT.lt Nat _ 54 W1 ∧ @LT.lt Nat _ 47 W1) (hWC : ¬ @Eq Nat W1 DC)
    (l0 : @LT.lt Nat _ cL DA ∧ @LT.lt Nat _ cH DA ∧ @LT.lt Nat _ cK DA ∧ @LT.lt Nat _ 54 DA ∧ @LT.lt Nat _ 47 DA) (l1 : @LT.lt Nat _ cH cL ∧ @LT.lt Nat _ cK cL ∧ @LT.lt Nat _ 54 cL ∧ @LT.lt Nat _ 47 cL) (l2 : @LT.lt Nat _ cK cH ∧ @LT.lt Nat _ 54 cH ∧ @LT.lt Nat _ 47 cH) (l3 : @LT.lt Nat _ 54 cK ∧ @LT.lt Nat _ 47 cK) (hoL : oL.data = .cell none) (hoH : oH.data = .cell none)
    (F : Fr h₀ L s.heap m1) (N : News h₀ L s.heap ((DC, listOf cv.toArray k2) :: (W1, listOf wv.toArray k3) :: (DA, listOf [.int d0 t0, .int d1 t1, .int d2 t2, .int d3 t3, .int d4 t4, .int d5 t5, .int d6 t6, .int d7 t7, .int d8 t8, .int d9 t9].toArray kD) :: (cL, oL) :: (cH, oH) :: (cK, oK) :: tabs0))
    (hQ : ∀ (m2 : Str → Option Value) (H Lw sg wd : Int) (tH tL tS tW : Tok) (oL' oH' : Obj) (h' : Heap) (tk' : Nat), oL'.data = .cell (some (.int Lw tL)) → oH'.data = .cell (some (.int H tH)) → 1 ≤ wd → wd ≤ 1400 → (sg = 1 ∨ sg = -1) → Builtin.Int.intBits H ≤ 5600 → 1 ≤ Lw → Builtin.Int.intBits Lw ≤ 5601 →
      m2 (Str.ofString "word") = some (.ref W1) → m2 (Str.ofString "counts") = some (.ref DC) → m2 (Str.ofString "sign") = some (.int sg tS) → m2 (Str.ofString "width") = some (.int wd tW) →
      Fr h₀ L h' m2 → News h₀ L h' ((DC, listOf cv.toArray k2) :: (W1, listOf wv.toArray k3) :: (DA, listOf [.int d0 t0, .int d1 t1, .int d2 t2, .int d3 t3, .int d4 t4, .int d5 t5, .int d6 t6, .int d7 t7, .int d8 t8, .int d9 t9].toArray kD) :: (cL, oL') :: (cH, oH') :: (cK, oK) :: tabs0) →
      wpAny (model Challenge.rw_ph0090_01.row.prog w) (ktrTop dp un gd (Str.ofString "law") scope L a ccd (lawCl cL cH cK) outer) (execs (body.drop 14) (envX (Str.ofString "law") scope L a ccd (lawCl cL cH cK))) Q E { s with heap := h', toks := tk' }) :
    wpAny (model Challenge.rw_ph0090_01.row.prog w) (ktrTop dp un gd (Str.ofString "law") scope L a ccd (lawCl cL cH cK) outer) (execs (body.drop 9) (envX (Str.ofString "law") scope L a ccd (lawCl cL cH cK))) Q E s := by
  have e1 : some body = some _ := hb.symm.trans rfl
  have e2 : some scope = some _ := hsc.symm.trans rfl
  simp only [Option.some.injEq] at e1 e2
  subst e1 e2
  clear hb hsc
  have kv : ∀ q ∈ [(Str.ofString "draws", Value.ref DA), (Str.ofString "word", Value.ref W1), (Str.ofString "counts", Value.ref DC)], m1 q.1 = some q.2 :=
    List.forall_mem_cons.mpr ⟨v3, List.forall_mem_cons.mpr ⟨v1, List.forall_mem_cons.mpr ⟨v2, fun _ h => nomatch h⟩⟩⟩
  have em := frM_eq kv
  replace F := frM_to _ F kv
  obtain ⟨lC1, lC2, lC3, lC4, lC5, lC6⟩ := lC
  obtain ⟨lW1, lW2, lW3, lW4, lW5, lW6⟩ := lW
  obtain ⟨l01, l02, l03, l04, l05⟩ := l0
  obtain ⟨l11, l12, l13, l14⟩ := l1
  obtain ⟨l21, l22, l23⟩ := l2
  obtain ⟨l31, l32⟩ := l3
  have hwr := width_rng d6
  revert X
  k_fill
  intro X
  dsimp only [List.drop]
  k_steps
  · unfold Held
    rename Fr _ _ _ _ => FZ
    rename News _ _ _ _ => NZ
    rename_i oL2 dL2 a2 h3 oH2 dH2 h2
    refine hQ _ _ _ _ _ _ _ _ _ _ _ _ _ dL2 dH2 hwr.1 hwr.2 ?_ ?_ ?_ ?_ rfl rfl rfl rfl FZ NZ
    · have := fmod_rng (d9.fdiv 2) (n := 2) (by decide)
      omega
    · exact bits_neg (fm_bits rfl (by omega)).2
    · exact Int.le_add_of_nonneg_right (fm_bits (by assumption) (by omega)).1
    · exact bits_succ (fm_bits (by assumption) (by omega)).1 (fm_bits (by assumption) (by omega)).2
  · unfold Held
    rename Fr _ _ _ _ => FZ
    rename News _ _ _ _ => NZ
    rename_i oH2 dH2 v1 t1 k1 t' v9 t9' k9 hv9 hp9 h1 oL2 dL2 a2 h2
    refine hQ _ _ _ _ _ _ _ _ _ _ _ _ _ dL2 dH2 hwr.1 hwr.2 ?_ ?_ ?_ ?_ rfl rfl rfl rfl FZ NZ
    · have := fmod_rng (d9.fdiv 2) (n := 2) (by decide)
      omega
    · exact (fm_bits rfl (by omega)).2
    · exact Int.le_add_of_nonneg_right (fm_bits (by assumption) (by omega)).1
    · exact bits_succ (fm_bits (by assumption) (by omega)).1 (fm_bits (by assumption) (by omega)).2
end Mine
end
section
set_option maxRecDepth 100000
set_option maxHeartbeats 400000
namespace Mine
open PySem PySem.W PySem.Calls PyProof.Rows PyProof.V PySem.Spec PyProof.Rows.LCg
section
variable {prog : Program} {w : World} {A : Around} {E : Value → Shared → Prop} {s : Shared} {h₀ : Heap} {L a : Addr} {ccd : Value} {cn : Str} {sc : Scope} {cls cl : List (Str × Addr)} {m : Str → Option Value} {news : List (Addr × Obj)} {elt : PySem.Expr} {x : Str} {scope : Scope}
theorem newList_at {M : Model} {F : Value → Shared → Prop} (h : wpAny M A (newList []) F E s) : wpAny M A (newList []) (fun acc s₃ => acc = .ref s.heap.objs.size ∧ F acc s₃) E s := fun Γ p hΓ => by
  have := h Γ p hΓ
  exact ⟨rfl, this⟩
/-- a comprehension over a made list of ints: the list made lies behind all that stood -/
theorem comp_evalD {src : Str} {px p1 : Pos} {pos : Pos} {Q : Value → Shared → Prop} {ax : Addr} {vs : List Value} {ns : List Int} {k : Nat} (g : Int → Int)
    (hh : A.handled = none) (F : Fr h₀ L s.heap m) (N : News h₀ L s.heap news) (hm : (ax, listOf vs.toArray k) ∈ news) (hv : IntsAre vs ns) (hl : ns.length ≤ 1000)
    (hclos : closureFor scope (envX cn sc L a ccd cls) = pure cl) (hcell : ∀ z ∈ scope.names, z.2 ≠ .cell) (hkind : scope.kind = .function)
    (hnames : ∀ z ∈ scope.names, z.2 = .local → scope.names.lookup z.1 = some .local) (hx : scope.names.lookup x = some .local)
    (hk : sc.kind = .function) (hks : (envX cn sc L a ccd cls).kindOf src = some .local) (hvs : m src = some (.ref ax)) (hdb : (src == ("__debug__" : Str)) = false)
    (elem : ∀ (n : Int) (t : Tok) (C : Addr) (oC : Obj) (m₂ : Str → Option Value) (s' : Shared) (E' : Value → Shared → Prop) (all : List (Addr × Obj)), n ∈ ns → NsObj oC m₂ → m₂ x = some (.int n t) → Fr h₀ L s'.heap m → (C, oC) ∈ all → (∀ p ∈ news, p ∈ all) → News h₀ L s'.heap all →
      wpAny (model prog w) A (eval elt (PySem.compEnvC scope cl C (envX cn sc L a ccd cls))) (Elem (fun v => ∃ t, v = .int (g n) t) s' h₀ L m all) E' s')
    (hQ : ∀ D ys h tk, IntsAre ys (ns.map g) → Fr h₀ L h m → News h₀ L h ((D, listOf ys.toArray ys.length) :: news) → (∀ p ∈ news, @LT.lt Nat _ p.1 D) → Q (.ref D) { s with heap := h, toks := tk })
    (hs : ∀ x, foldedSetIterable (.Name src p1) (envX cn sc L a ccd cls) x = pure x := by intro _; rfl) :
    wpAny (model prog w) A (eval (.ListComp elt [⟨.Name x px, .Name src p1, [], 0⟩] scope pos) (envX cn sc L a ccd cls)) Q E s := by
  have hlen := IntsAre.length hv
  rw [eval_ListComp]
  refine wpAny_comprehension_free (use := none) rfl hs hclos hkind hnames ?_
  refine nameX_L F hvs ?_ hk hks hdb
  have S : SrcAt h₀ ax vs.toArray news := .inr ⟨_, hm, rfl, _, rfl⟩
  have hl' := S.list F.keep N
  have hlt : ax < s.heap.objs.size := by obtain ⟨_, e, _⟩ := hl'; exact Heap.lt_size e
  refine wpAny_pyIter_list hl' ?_
  have up : ∀ b o, s.heap.get? b = some o → (s.heap.push { cls := .type "list_iterator", data := .fields #[.ref ax, .int 0 0] }).get? b = some o := fun b o e => Heap.get?_push_of_some _ e
  have e : vs.toArray.size = vs.length := List.size_toArray
  have hsz : vs.toArray.size ≤ sizeLine := by rw [sizeLine_eq, e]; (first | lia | omega)
  have hsize : (s.heap.push { cls := .type "list_iterator", data := .fields #[.ref ax, .int 0 0] }).objs.size = s.heap.objs.size + 1 := Heap.size_push _ _
  have blk := block_U (prog := prog) (w := w) (A := A) (E := E) (env := envX cn sc L a ccd cls) (elt := elt) (iter := .Name src p1) (px := px) (scope := scope) (cl := cl) (pos := pos) (L := L) (m := m) (h₀ := h₀)
    (s₂ := { s with heap := s.heap.push { cls := .type "list_iterator", data := .fields #[.ref ax, .int 0 0] } })
    (RR := fun acc C r s' => acc = .ref (s.heap.objs.size + 1) → compPost (model prog w) A E none Q acc C r s')
    (Fin := fun ys news' => news' = news ∧ ys.length = ns.length ∧ ∀ (i : Nat) y, ys[i]? = some y → ∃ n t, ns[i]? = some n ∧ y = Value.int (g n) t)
    (Walks.list hh s.heap.objs.size ax (Nat.ne_of_lt hlt) vs.toArray) hsz (fun i h st => by obtain ⟨o, e, _⟩ := st.1; exact ⟨o, e⟩) list_st hcell hkind hx ⟨⟨_, Heap.get?_push_size _ rfl, rfl, rfl⟩, hl'.push _⟩ (fun b hb => by
      show b < (s.heap.push _).objs.size
      rw [Heap.size_push]
      rcases List.mem_cons.mp hb with rfl | hb
      · exact Nat.lt_succ_self _
      · rw [List.mem_singleton.mp hb]; exact Nat.lt_succ_of_lt hlt)
      (F.keeps up) (N.grown up) (Nat.ne_of_lt F.ns.lt) (next_is_new F) (fun p hp => Nat.ne_of_lt (Heap.lt_size (N p hp).1)) S ?rest ?fin
  case rest =>
    rw [e]
    refine comp_rest (fun i v => ∃ n t, ns[i]? = some n ∧ v = .int (g n) t) S (fun i v C oC m₂ s' E' all hi hP hns hxv F' hCm hsub N' => ?_) fun ys hyl hys => ⟨rfl, by (first | lia | omega), hys⟩
    obtain ⟨n, t, rfl, hn⟩ := IntsAre.at hv i v (by simpa using hP)
    refine wpAny_mono (elem n t C oC m₂ s' E' all (List.mem_of_getElem? hn) hns hxv F' hCm hsub N') (fun y s₄ hq => ?_) fun _ _ e => e
    obtain ⟨⟨t', rfl⟩, r⟩ := hq
    exact ⟨⟨n, t', hn, rfl⟩, r⟩
  case fin =>
    intro D C h tk m' ys news' F' N' o1 hn hC₀ hD₀ hCL hDL hCD offC fin hacc
    obtain ⟨rfl, hyl, hys⟩ := fin
    have hD : D = s.heap.objs.size + 1 := by injection hacc
    refine ⟨m', hn, fun h'' hs'' => hQ D ys h'' tk (ints_of hyl hys) (F'.change hs'' hCL hC₀) (fun p hp => ⟨hs''.extBut _ _ ?_ (N' p hp).1, (N' p hp).2⟩) fun p hp => ?_⟩
    · rcases List.mem_cons.mp hp with rfl | hp
      · exact Ne.symm hCD
      · exact offC p hp
    · rw [hD]
      exact Nat.lt_succ_of_lt (Heap.lt_size (N p hp).1)
  have blk' := newList_at blk
  refine wpAny_mono blk' (fun acc s₃ h₃ => ?_) fun _ _ e => e
  obtain ⟨e3, h₃⟩ := h₃
  have e4 : acc = .ref (s.heap.objs.size + 1) := e3.trans (congrArg Value.ref hsize)
  exact wpAny_mono h₃ (fun cenv s₄ h₄ => codeAny_mono h₄ fun r s' hr => hr e4) fun _ _ e => e
end
end Mine
end
section
set_option maxRecDepth 100000
set_option maxHeartbeats 400000
namespace Mine
section
variable {prog : Program} {w : World} {A : Around} {E : Value → Shared → Prop} {s : Shared} {env : Env} {scope : Scope} {cl : List (Str × Addr)} {C cH cL : Addr} {oC oH oL : Obj} {m m₂ : Str → Option Value} {h₀ : Heap} {L : Addr} {all : List (Addr × Obj)} {n H Lw : Int} {t tH tL : Tok} {k1 k2 : Nat}
  {p1 p2 p3 p4 p5 p6 p7 p8 p9 p10 : Pos}
theorem test_one {body orelse : PySem.Expr} {Q : Value → Shared → Prop} (hns : s.heap.Ns C m₂) (h1 : m₂ (Str.ofString "letter") = some (.int n t))
    (hk : (PySem.compEnvC scope cl C env).scope.kind = .function) (hkl : (PySem.compEnvC scope cl C env).kindOf (Str.ofString "letter") = some .local)
    (ha : ∀ tk, n = 1 → wpAny (model prog w) A (eval body (PySem.compEnvC scope cl C env)) Q E { s with toks := tk })
    (hb : ∀ tk, n ≠ 1 → wpAny (model prog w) A (eval orelse (PySem.compEnvC scope cl C env)) Q E { s with toks := tk }) :
    wpAny (model prog w) A (eval (.IfExp (.Compare (.Name (Str.ofString "letter") p1) [.Eq] [.Constant (.int 1) k1 p2] p3) body orelse p10) (PySem.compEnvC scope cl C env)) Q E s := by
  refine wpAny_IfExp ?_
  refine wpAny_isTrue_Compare1 ?_
  refine wpAny_Name (wpAny_loadName_local hk hkl hns h1 ?_)
  refine wpAny_Constant_int ?_
  refine PyProof.Rows.eq_int ?_
  refine wpAny_truthy_bool ?_
  by_cases e : n = 1
  · rw [if_pos (by simpa using e)]; exact ha _ e
  · rw [if_neg (by simpa using e)]; exact hb _ e
theorem elem_big (hC : PyProof.Rows.LCg.NsObj oC m₂) (F : Fr h₀ L s.heap m) (hCm : (C, oC) ∈ all) (N : News h₀ L s.heap all) (h1 : m₂ (Str.ofString "letter") = some (.int n t))
    (hcH : cl.lookup (Str.ofString "high") = some cH) (hcL : cl.lookup (Str.ofString "low") = some cL) (hmH : (cH, oH) ∈ all) (hmL : (cL, oL) ∈ all) (hoH : oH.data = .cell (some (.int H tH))) (hoL : oL.data = .cell (some (.int Lw tL))) (hok : IntMulOk H Lw)
    (hk : (PySem.compEnvC scope cl C env).scope.kind = .function) (hkl : (PySem.compEnvC scope cl C env).kindOf (Str.ofString "letter") = some .local) (hkH : (PySem.compEnvC scope cl C env).kindOf (Str.ofString "high") = some .cell) (hkL : (PySem.compEnvC scope cl C env).kindOf (Str.ofString "low") = some .cell) :
    wpAny (model prog w) A (eval (.IfExp (.Compare (.Name (Str.ofString "letter") p1) [.Eq] [.Constant (.int 1) k1 p2] p3) (.Name (Str.ofString "high") p4) (.BinOp (.BinOp (.Name (Str.ofString "high") p5) .Mult (.Name (Str.ofString "low") p6) p7) .Add (.Constant (.int 1) k2 p8) p9) p10) (PySem.compEnvC scope cl C env))
      (Elem (fun v => ∃ t, v = .int ((fun l => if l = 1 then H else H * Lw + 1) n) t) s h₀ L m all) E s := by
  refine test_one (hC.ns (N _ hCm).1) h1 hk hkl (fun tk e => ?_) fun tk e => ?_
  · refine PySem.W.lcf_cell N hcH hmH hoH ?_ hk hkH
    exact ⟨⟨_, congrArg (fun z => Value.int z _) (if_pos e).symm⟩, s.heap, _, rfl, F, N⟩
  · refine wpAny_BinOp (wpAny_BinOp ?_)
    refine PySem.W.lcf_cell N hcH hmH hoH ?_ hk hkH
    refine PySem.W.lcf_cell N hcL hmL hoL ?_ hk hkL
    refine PyProof.Rows.mul_int ?_ hok
    refine wpAny_Constant_int ?_
    refine PyProof.Rows.add_int ?_
    exact ⟨⟨_, congrArg (fun z => Value.int z _) (if_neg e).symm⟩, s.heap, _, rfl, F, N⟩
theorem elem_small (hC : PyProof.Rows.LCg.NsObj oC m₂) (F : Fr h₀ L s.heap m) (hCm : (C, oC) ∈ all) (N : News h₀ L s.heap all) (h1 : m₂ (Str.ofString "letter") = some (.int n t))
    (hcL : cl.lookup (Str.ofString "low") = some cL) (hmL : (cL, oL) ∈ all) (hoL : oL.data = .cell (some (.int Lw tL)))
    (hk : (PySem.compEnvC scope cl C env).scope.kind = .function) (hkl : (PySem.compEnvC scope cl C env).kindOf (Str.ofString "letter") = some .local) (hkL : (PySem.compEnvC scope cl C env).kindOf (Str.ofString "low") = some .cell) :
    wpAny (model prog w) A (eval (.IfExp (.Compare (.Name (Str.ofString "letter") p1) [.Eq] [.Constant (.int 1) k1 p2] p3) (.Constant (.int 1) k2 p4) (.Name (Str.ofString "low") p6) p10) (PySem.compEnvC scope cl C env))
      (Elem (fun v => ∃ t, v = .int ((fun l => if l = 1 then 1 else Lw) n) t) s h₀ L m all) E s := by
  refine test_one (hC.ns (N _ hCm).1) h1 hk hkl (fun tk e => ?_) fun tk e => ?_
  · refine wpAny_Constant_int ?_
    exact ⟨⟨_, congrArg (fun z => Value.int z _) (if_pos e).symm⟩, s.heap, _, rfl, F, N⟩
  · refine PySem.W.lcf_cell N hcL hmL hoL ?_ hk hkL
    exact ⟨⟨_, congrArg (fun z => Value.int z _) (if_neg e).symm⟩, s.heap, _, rfl, F, N⟩
end
end Mine
end
section
theorem Mine.idle20 : True := by
  w_top off
  k_with_none
  trivial
local macro_rules | `(tactic| walk_at "idle") => `(tactic| fail)
set_option maxRecDepth 100000
set_option maxHeartbeats 1000000
namespace Mine
theorem run38 : True := by
  k_with "k_mem" => (assumption)
  k_with "eval ListComp" => (refine held ?_)
  k_with "call ref" => (refine held ?_)
  k_with "execs cons" => ((with_reducible show wpAny _ _ (execs (Stmt.For _ _ _ _ _ :: _) _) _ _ _); refine held ?_)
  trivial
theorem bits_mul1 {x y : Int} {m k : Nat} (hx : Builtin.Int.intBits x ≤ m) (hy : Builtin.Int.intBits y ≤ k) : Builtin.Int.intBits (x * y + 1) ≤ m + k + 1 := by
  rw [intBits_le_iff] at *
  have h1 : (x * y + 1).natAbs ≤ x.natAbs * y.natAbs + 1 := by
    rw [← Int.natAbs_mul]; (first | lia | omega)
  have h2 : x.natAbs * y.natAbs ≤ 2 ^ m * 2 ^ k := Nat.mul_le_mul (Nat.le_of_lt hx) (Nat.le_of_lt hy)
  have h3 : (2 : Nat) ^ (m + k + 1) = 2 ^ m * 2 ^ k * 2 := by rw [Nat.pow_succ, Nat.pow_add]
  have h4 : x.natAbs * y.natAbs + 1 < 2 ^ m * 2 ^ k * 2 := by
    have p1 : 0 < 2 ^ m := Nat.pow_pos (by decide)
    have p2 : 0 < 2 ^ k := Nat.pow_pos (by decide)
    have h5 : x.natAbs * y.natAbs ≤ (2 ^ m - 1) * 2 ^ k := Nat.mul_le_mul (by (first | lia | omega)) (Nat.le_of_lt hy)
    have h6 : (2 ^ m - 1) * 2 ^ k + 2 ^ k = 2 ^ m * 2 ^ k := by
      rw [← Nat.succ_mul]; congr 1; (first | lia | omega)
    have h7 : 1 ≤ 2 ^ m * 2 ^ k := Nat.mul_pos p1 p2
    (first | lia | omega)
  (first | lia | omega)
theorem bits_sg {x sg : Int} {m : Nat} (h : sg = 1 ∨ sg = -1) (hx : Builtin.Int.intBits x ≤ m) : Builtin.Int.intBits (sg * x) ≤ m := by
  refine intBits_le_of_natAbs ?_ hx
  rcases h with rfl | rfl <;> simp
theorem sg_ok {x sg : Int} (h : sg = 1 ∨ sg = -1) : IntMulOk sg x := by
  refine IntMulOk.of_left ?_
  rcases h with rfl | rfl <;> decide +kernel
theorem News.rot {h₀ h : Heap} {L : Addr} (l1 : List (Addr × Obj)) {l2 : List (Addr × Obj)} (N : News h₀ L h (l1 ++ l2)) : News h₀ L h (l2 ++ l1) := News.sub N fun p hp => by
  rcases List.mem_append.mp hp with h | h
  · exact List.mem_append.mpr (.inr h)
  · exact List.mem_append.mpr (.inl h)
theorem map_bits {ns : List Int} {g : Int → Int} {m : Nat} (h : ∀ n, Builtin.Int.intBits (g n) ≤ m) : ∀ x ∈ ns.map g, Builtin.Int.intBits x ≤ m := fun x hx => by
  obtain ⟨n, _, rfl⟩ := List.mem_map.mp hx
  exact h n
theorem run39 : True := by
  k_with "binaryOp Mult int int" => (k_here; refine PyProof.Rows.mul_int ?_ (sg_ok (by assumption)))
  trivial
theorem seg3b (w : World) {body : List Stmt} {scope : Scope} (hb : defOf (hd.heap_39 w.params) 140 = some body) (hsc : scopeOf (hd.heap_39 w.params) 140 = some scope)
    (p : Program) (loose : List Str) (mean : ExcName → Option Value) (mg mb : Str → Option Value)
    (dp un : Nat) (gd : Option (List Code)) (a : Addr) (ccd : Value) (cL cH cK : Addr) (outer : List Env) (A₀ : Around) (base h₀ : Heap) (L : Addr) (m1 : Str → Option Value) (s : Shared) (Q : Flow → Shared → Prop) (E : Value → Shared → Prop)
    (oL oH oK : Obj) (DA DC W1 : Addr) (oD : Obj) (lt : List (Addr × Obj)) (k2 k3 : Nat) (wv cv : List Value) (cs : List Int) (H Lw sg wd : Int) (tH tL tS tW : Tok)
    (B : Below A₀ base outer h₀) (X : (hd.heap_39 w.params).In h₀) (T : Top p loose mean mg mb h₀) (hdp : dp + 200 < recursionLimit) (hun : un + 1000 < cLine)
    (hE : PassesOwn (model Challenge.rw_ph0090_01.row.prog w) (ktrTop dp un gd (Str.ofString "law") scope L a ccd (lawCl cL cH cK) outer) (envX (Str.ofString "law") scope L a ccd (lawCl cL cH cK)) E)
    (hwv : IntsAre wv (wordOf cs)) (hwl : (wordOf cs).length ≤ 52) (hcv : IntsAre cv cs) (hne : cs ≠ []) (hcl : cs.length ≤ 6) (hc13 : ∀ c ∈ cs, 1 ≤ c ∧ c ≤ 3)
    (hoL : oL.data = .cell (some (.int Lw tL))) (hoH : oH.data = .cell (some (.int H tH))) (hw1 : 1 ≤ wd) (hw2 : wd ≤ 1400) (hsg : sg = 1 ∨ sg = -1) (hHb : Builtin.Int.intBits H ≤ 5600) (hL1 : 1 ≤ Lw) (hLb : Builtin.Int.intBits Lw ≤ 5601)
    (v1 : m1 (Str.ofString "word") = some (.ref W1)) (v2 : m1 (Str.ofString "counts") = some (.ref DC)) (v3 : m1 (Str.ofString "sign") = some (.int sg tS)) (v4 : m1 (Str.ofString "width") = some (.int wd tW))
    (lC : @LT.lt Nat _ DA DC ∧ @LT.lt Nat _ cL DC ∧ @LT.lt Nat _ cH DC ∧ @LT.lt Nat _ cK DC ∧ @LT.lt Nat _ 54 DC ∧ @LT.lt Nat _ 47 DC) (lW : @LT.lt Nat _ DA W1 ∧ @LT.lt Nat _ cL W1 ∧ @LT.lt Nat _ cH W1 ∧ @LT.lt Nat _ cK W1 ∧ @LT.lt Nat _ 54 W1 ∧ @LT.lt Nat _ 47 W1)
    (l0 : @LT.lt Nat _ 54 DA) (l1 : @LT.lt Nat _ 54 cL) (l2 : @LT.lt Nat _ 54 cH) (l3 : @LT.lt Nat _ 54 cK)
    (F : Fr h₀ L s.heap m1) (N : News h₀ L s.heap ((DC, listOf cv.toArray k2) :: (W1, listOf wv.toArray k3) :: (DA, oD) :: (cL, oL) :: (cH, oH) :: (cK, oK) :: lt)) (hlt : TabsOk lt)
    (hQ : ∀ (m2 : Str → Option Value) (tB tSm : Tok) (h' : Heap) (tk' : Nat) (lt' : List (Addr × Obj)), TabsOk lt' →
      m2 (Str.ofString "big") = some (.int (sg * valOf wd.toNat ((wordOf cs).map fun l => if l = 1 then H else H * Lw + 1)) tB) → m2 (Str.ofString "small") = some (.int (sg * valOf wd.toNat ((wordOf cs).map fun l => if l = 1 then 1 else Lw)) tSm) →
      m2 (Str.ofString "word") = some (.ref W1) → m2 (Str.ofString "counts") = some (.ref DC) → m2 (Str.ofString "sign") = some (.int sg tS) → m2 (Str.ofString "width") = some (.int wd tW) →
      Fr h₀ L h' m2 → News h₀ L h' ((DC, listOf cv.toArray k2) :: (W1, listOf wv.toArray k3) :: (DA, oD) :: (cL, oL) :: (cH, oH) :: (cK, oK) :: lt') →
      wpAny (model Challenge.rw_ph0090_01.row.prog w) (ktrTop dp un gd (Str.ofString "law") scope L a ccd (lawCl cL cH cK) outer) (execs (body.drop 16) (envX (Str.ofString "law") scope L a ccd (lawCl cL cH cK))) Q E { s with heap := h', toks := tk' }) :
    wpAny (model Challenge.rw_ph0090_01.row.prog w) (ktrTop dp un gd (Str.ofString "law") scope L a ccd (lawCl cL cH cK) outer) (execs (body.drop 14) (envX (Str.ofString "law") scope L a ccd (lawCl cL cH cK))) Q E s := by
  have e1 : some body = some _ := hb.symm.trans rfl
  have e2 : some scope = some _ := hsc.symm.trans rfl
  simp only [Option.some.injEq] at e1 e2
  subst e1 e2
  clear hb hsc
  have kv : ∀ q ∈ [(Str.ofString "word", Value.ref W1), (Str.ofString "counts", Value.ref DC), (Str.ofString "sign", Value.int sg tS), (Str.ofString "width", Value.int wd tW)], m1 q.1 = some q.2 :=
    List.forall_mem_cons.mpr ⟨v1, List.forall_mem_cons.mpr ⟨v2, List.forall_mem_cons.mpr ⟨v3, List.forall_mem_cons.mpr ⟨v4, fun _ h => nomatch h⟩⟩⟩⟩
  have em := frM_eq kv
  replace F := frM_to _ F kv
  obtain ⟨lC1, lC2, lC3, lC4, lC5, lC6⟩ := lC
  obtain ⟨lW1, lW2, lW3, lW4, lW5, lW6⟩ := lW
  revert X
  k_fill
  intro X
  dsimp only [List.drop]
  k_steps
  unfold Held
  rename Fr _ _ _ _ => FA
  rename News _ _ _ _ => NA
  have hbig : ∀ n : Int, Builtin.Int.intBits ((fun l : Int => if l = 1 then H else H * Lw + 1) n) ≤ 12000 := fun n => by
    dsimp only
    split
    · (first | lia | omega)
    · have := bits_mul1 hHb hLb; (first | lia | omega)
  have hsmall : ∀ n : Int, Builtin.Int.intBits ((fun l : Int => if l = 1 then 1 else Lw) n) ≤ 12000 := fun n => by
    dsimp only
    split
    · exact Nat.le_trans (Nat.le_of_eq (by decide +kernel : Builtin.Int.intBits 1 = 1)) (by decide)
    · (first | lia | omega)
  have hwl2 : wd * (((wordOf cs).length : Nat) : Int) ≤ 1400 * 52 := Int.mul_le_mul hw2 (by (first | lia | omega)) (by (first | lia | omega)) (by decide)
  refine comp_evalD (fun l => if l = 1 then H else H * Lw + 1) rfl FA NA (.tail _ (.head _)) hwv (by (first | lia | omega)) (by with_unfolding_all rfl) (by decide) rfl (by decide) rfl rfl rfl rfl (by decide) (fun n t C oC m₂ s' E' all hn hC hx F' hCm hsub N' => elem_big hC F' hCm N' hx rfl rfl (hsub _ (.tail _ (.tail _ (.tail _ (.tail _ (.head _)))))) (hsub _ (.tail _ (.tail _ (.tail _ (.head _))))) hoH hoL (IntMulOk.of_bits (Nat.le_trans hHb (by decide)) (Nat.le_trans hLb (by decide))) rfl rfl rfl rfl) fun D1 y1 h1 tk1 hy1 F1 N1 l1' => ?_
  have hD1 : @LT.lt Nat _ 54 D1 := Nat.lt_trans lC5 (l1' _ (.head _))
  (try k_fold)
  k_steps
  unfold Held
  have ha1 : ∀ q ∈ [(D1, listOf y1.toArray y1.length), (DC, listOf cv.toArray k2), (W1, listOf wv.toArray k3), (DA, oD), (cL, oL), (cH, oH), (cK, oK)], 54 < q.1 := List.forall_mem_cons.mpr ⟨hD1, List.forall_mem_cons.mpr ⟨lC5, List.forall_mem_cons.mpr ⟨lW5, List.forall_mem_cons.mpr ⟨l0, List.forall_mem_cons.mpr ⟨l1, List.forall_mem_cons.mpr ⟨l2, List.forall_mem_cons.mpr ⟨l3, fun _ h => nomatch h⟩⟩⟩⟩⟩⟩⟩
  refine SpT.use (cd w _ y1 D1 _ wd _ (by (first | lia | omega)) (by (first | lia | omega)) (by rw [List.length_map]; (first | lia | omega)) (by rw [List.length_map]; (first | lia | omega)) (fun x hx => Nat.le_trans (map_bits hbig x hx) (by decide)) hy1) B F1 X (News.rot [(D1, listOf y1.toArray y1.length), (DC, listOf cv.toArray k2), (W1, listOf wv.toArray k3), (DA, oD), (cL, oL), (cH, oH), (cK, oK)] N1) hlt ha1 T rfl (.head _) (by (first | lia | omega)) (by (first | lia | omega)) fun r lt2 tl2 h2 tk2 F2 N2 hlt2 hG2 ha2 hl2 ho2 => ?_
  obtain ⟨rfl, t2, rfl⟩ := ho2
  replace N2 := News.rot lt2 N2
  rw [List.nil_append] at N2
  (try dsimp only)
  (try k_fold)
  k_steps
  unfold Held
  rename Fr _ _ _ _ => FB
  rename News _ _ _ _ => NB0
  have NB : News h₀ L _ ((DC, listOf cv.toArray k2) :: (W1, listOf wv.toArray k3) :: (DA, oD) :: (cL, oL) :: (cH, oH) :: (cK, oK) :: lt2) := News.sub NB0 fun p hp => .tail _ hp
  clear NB0
  refine comp_evalD (fun l => if l = 1 then 1 else Lw) rfl FB NB (.tail _ (.head _)) hwv (by (first | lia | omega)) (by with_unfolding_all rfl) (by decide) rfl (by decide) rfl rfl rfl rfl (by decide) (fun n t C oC m₂ s' E' all hn hC hx F' hCm hsub N' => elem_small hC F' hCm N' hx rfl (hsub _ (.tail _ (.tail _ (.tail _ (.head _))))) hoL rfl rfl rfl) fun D3 y3 h3 tk3 hy3 F3 N3 l3' => ?_
  have hD3 : @LT.lt Nat _ 54 D3 := Nat.lt_trans lC5 (l3' _ (.head _))
  (try k_fold)
  k_steps
  unfold Held
  have ha3 : ∀ q ∈ [(D3, listOf y3.toArray y3.length), (DC, listOf cv.toArray k2), (W1, listOf wv.toArray k3), (DA, oD), (cL, oL), (cH, oH), (cK, oK)], 54 < q.1 := List.forall_mem_cons.mpr ⟨hD3, List.forall_mem_cons.mpr ⟨lC5, List.forall_mem_cons.mpr ⟨lW5, List.forall_mem_cons.mpr ⟨l0, List.forall_mem_cons.mpr ⟨l1, List.forall_mem_cons.mpr ⟨l2, List.forall_mem_cons.mpr ⟨l3, fun _ h => nomatch h⟩⟩⟩⟩⟩⟩⟩
  refine SpT.use (cd w _ y3 D3 _ wd _ (by (first | lia | omega)) (by (first | lia | omega)) (by rw [List.length_map]; (first | lia | omega)) (by rw [List.length_map]; (first | lia | omega)) (fun x hx => Nat.le_trans (map_bits hsmall x hx) (by decide)) hy3) B F3 X (News.rot [(D3, listOf y3.toArray y3.length), (DC, listOf cv.toArray k2), (W1, listOf wv.toArray k3), (DA, oD), (cL, oL), (cH, oH), (cK, oK)] N3) hlt2 ha3 T rfl (.head _) (by (first | lia | omega)) (by (first | lia | omega)) fun r lt4 tl4 h4 tk4 F4 N4 hlt4 hG4 ha4 hl4 ho4 => ?_
  obtain ⟨rfl, t4, rfl⟩ := ho4
  replace N4 := News.rot lt4 N4
  rw [List.nil_append] at N4
  (try dsimp only)
  (try k_fold)
  k_steps
  unfold Held
  rename Fr _ _ _ _ => FC
  rename News _ _ _ _ => NC0
  have NC : News h₀ L _ ((DC, listOf cv.toArray k2) :: (W1, listOf wv.toArray k3) :: (DA, oD) :: (cL, oL) :: (cH, oH) :: (cK, oK) :: lt4) := News.sub NC0 fun p hp => .tail _ hp
  clear NC0
  refine hQ _ _ _ _ _ lt4 hlt4 rfl rfl rfl rfl rfl rfl FC NC
end Mine
end
section
theorem Mine.idle21 : True := by
  w_top off
  k_with_none
  trivial
set_option maxRecDepth 100000
set_option maxHeartbeats 1000000
namespace Mine
noncomputable def dueBody (K : Frag) : Option (List Stmt) := ((defOf K 140).bind (·[16]?)).map forBody
theorem run40 : True := by
  k_with "k_mem" => (assumption)
  k_with "call ref" => (refine held ?_)
  trivial
theorem dueTurn (w : World) {body : List Stmt} {scope : Scope} (hb : dueBody (hd.heap_39 w.params) = some body) (hsc : scopeOf (hd.heap_39 w.params) 140 = some scope)
    (p : Program) (loose : List Str) (mean : ExcName → Option Value) (mg mb : Str → Option Value)
    (dp un : Nat) (gd : Option (List Code)) (a : Addr) (ccd : Value) (cL cH cK : Addr) (outer : List Env) (A₀ : Around) (base h₀ : Heap) (L : Addr) (m0 : Str → Option Value) (s : Shared) (Q : Flow → Shared → Prop) (E : Value → Shared → Prop)
    (b d q r : Int) (tb td tq : Tok) (l1 lt : List (Addr × Obj))
    (B : Below A₀ base outer h₀) (X : (hd.heap_39 w.params).In h₀) (T : Top p loose mean mg mb h₀) (hdp : dp + 200 < recursionLimit) (hun : un + 1000 < cLine)
    (hE : PassesOwn (model Challenge.rw_ph0090_01.row.prog w) (ktrTop dp un gd (Str.ofString "law") scope L a ccd (lawCl cL cH cK) outer) (envX (Str.ofString "law") scope L a ccd (lawCl cL cH cK)) E)
    (hd0 : d ≠ 0) (hbb : Builtin.Int.intBits b ≤ 140000) (hdb : Builtin.Int.intBits d ≤ 140000) (hqd : b = q * d + r) (hr : (0 ≤ r ∧ r < d) ∨ (d < r ∧ r ≤ 0)) (hbr : Builtin.Int.intBits (b - r) ≤ 150000)
    (v1 : m0 (Str.ofString "big") = some (.int b tb)) (v2 : m0 (Str.ofString "small") = some (.int d td)) (v3 : m0 (Str.ofString "due") = some (.int q tq))
    (F : Fr h₀ L s.heap m0) (N : News h₀ L s.heap (l1 ++ lt)) (hlt : TabsOk lt) (hl1 : ∀ z ∈ l1, 54 < z.1)
    (hQ : ∀ (m' : Str → Option Value) (t1 t2 : Tok) (h' : Heap) (tk' : Nat) (lt' : List (Addr × Obj)), TabsOk lt' → Grow lt lt' l1 → m' (Str.ofString "big") = some (.int d t1) → m' (Str.ofString "small") = some (.int r t2) →
      (∀ y, y ≠ Str.ofString "quotient" → y ≠ Str.ofString "rest" → y ≠ Str.ofString "big" → y ≠ Str.ofString "small" → m' y = m0 y) → Fr h₀ L h' m' → News h₀ L h' (l1 ++ lt') → Q .next { s with heap := h', toks := tk' }) :
    wpAny (model Challenge.rw_ph0090_01.row.prog w) (ktrTop dp un gd (Str.ofString "law") scope L a ccd (lawCl cL cH cK) outer) (execs body (envX (Str.ofString "law") scope L a ccd (lawCl cL cH cK))) Q E s := by
  have e1 : some body = some _ := hb.symm.trans rfl
  have e2 : some scope = some _ := hsc.symm.trans rfl
  simp only [Option.some.injEq] at e1 e2
  subst e1 e2
  clear hb hsc
  have kv : ∀ z ∈ [(Str.ofString "big", Value.int b tb), (Str.ofString "small", Value.int d td), (Str.ofString "due", Value.int q tq)], m0 z.1 = some z.2 :=
    List.forall_mem_cons.mpr ⟨v1, List.forall_mem_cons.mpr ⟨v2, List.forall_mem_cons.mpr ⟨v3, fun _ h => nomatch h⟩⟩⟩
  have em := frM_eq kv
  replace F := frM_to _ F kv
  revert X
  k_fill
  intro X
  dsimp only [forBody]
  k_steps
  unfold Held
  refine SpT.use (cm w b d _ _ hd0 (by (first | lia | omega)) (by (first | lia | omega))) B F X (News.rot l1 N) hlt hl1 T rfl trivial (by (first | lia | omega)) (by (first | lia | omega)) fun r1 lt1 tl1 h1 tk1 F1 N1 hlt1 hG1 ha1 hl1' ho1 => ?_
  obtain ⟨D1, q1, r1, u1, u2, k1, rfl, rfl, hqr, hrr⟩ := ho1
  obtain ⟨rfl, rfl⟩ := div_unique hqr hrr hqd hr
  replace N1 := News.rot lt1 N1
  have hl1t : ∀ z ∈ l1, z.1 < D1 := fun z hz => hl1' z hz _ (.head _)
  (try dsimp only)
  (try k_fold)
  k_steps
  · rename_i hne
    exact absurd rfl hne
  · unfold Held
    rename Fr _ _ _ _ => FA
    rename News _ _ _ _ => NA0
    have NA : News h₀ L _ (l1 ++ lt1) := News.sub NA0 fun z hz => by
      rcases List.mem_append.mp hz with h | h
      · exact List.mem_append.mpr (.inl (.tail _ h))
      · exact List.mem_append.mpr (.inr h)
    clear NA0
    refine SpT.use (cm w (b - r1) d _ _ hd0 hbr (by (first | lia | omega))) B FA X (News.rot l1 NA) hlt1 hl1 T rfl trivial (by (first | lia | omega)) (by (first | lia | omega)) fun r2 lt2 tl2 h2 tk2 F2 N2 hlt2 hG2 ha2 hl2' ho2 => ?_
    obtain ⟨D2, q2, r2, u3, u4, k2, rfl, rfl, hqr2, hrr2⟩ := ho2
    obtain ⟨rfl, rfl⟩ := div_unique hqr2 hrr2 (by (first | lia | omega) : b - r1 = q1 * d + 0) (by (first | lia | omega))
    replace N2 := News.rot lt2 N2
    have hl2t : ∀ z ∈ l1, z.1 < D2 := fun z hz => hl2' z hz _ (.head _)
    (try dsimp only)
    (try k_fold)
    k_steps
    rename Fr _ _ _ _ => FZ
    rename News _ _ _ _ => NZ
    refine hQ _ _ _ _ _ lt2 hlt2 (Grow.trans hG1 hG2 fun _ h => h) rfl rfl (fun y n1 n2 n3 n4 => ?_) FZ (News.sub NZ fun z hz => ?_)
    · simp only [if_neg n1, if_neg n2, if_neg n3, if_neg n4]
      rw [em]
    · rcases List.mem_append.mp hz with h | h
      · exact .tail _ (.tail _ (List.mem_append.mpr (.inl (.tail _ h))))
      · exact .tail _ (.tail _ (List.mem_append.mpr (.inr h)))
end Mine
end
section
theorem Mine.idle22 : True := by
  w_top off
  k_with_none
  trivial
local macro_rules | `(tactic| walk_at "idle") => `(tactic| fail)
set_option maxRecDepth 100000
set_option maxHeartbeats 1000000
namespace Mine
noncomputable def dueFor (K : Frag) : Option Stmt := (defOf K 140).bind (·[16]?)
theorem run41 : True := by
  k_with "k_mem" => (assumption)
  k_with "pyIter ref" => (refine held ?_)
  k_with "execs cons" => (refine held ?_)
  trivial
theorem dueLoop (w : World) {st : Stmt} {scope : Scope} (hb : dueFor (hd.heap_39 w.params) = some st) (hsc : scopeOf (hd.heap_39 w.params) 140 = some scope)
    (p : Program) (loose : List Str) (mean : ExcName → Option Value) (mg mb : Str → Option Value)
    (dp un : Nat) (gd : Option (List Code)) (a : Addr) (ccd : Value) (cL cH cK : Addr) (outer : List Env) (A₀ : Around) (base h₀ : Heap) (L : Addr) (m0 : Str → Option Value) (s : Shared) (Q : Flow → Shared → Prop) (E : Value → Shared → Prop)
    (b d H Lw r1 r2 : Int) (tb td tH tL : Tok) (oL oH oK oD oC oW : Obj) (DA DC W1 : Addr) (lt : List (Addr × Obj))
    (B : Below A₀ base outer h₀) (X : (hd.heap_39 w.params).In h₀) (T : Top p loose mean mg mb h₀) (hdp : dp + 200 < recursionLimit) (hun : un + 1000 < cLine)
    (hE : PassesOwn (model Challenge.rw_ph0090_01.row.prog w) (ktrTop dp un gd (Str.ofString "law") scope L a ccd (lawCl cL cH cK) outer) (envX (Str.ofString "law") scope L a ccd (lawCl cL cH cK)) E)
    (hoL : oL.data = .cell (some (.int Lw tL))) (hoH : oH.data = .cell (some (.int H tH)))
    (hd0 : d ≠ 0) (hr0 : r1 ≠ 0) (hbb : Builtin.Int.intBits b ≤ 140000) (hdb : Builtin.Int.intBits d ≤ 140000) (hrb : Builtin.Int.intBits r1 ≤ 140000) (hqd : b = H * d + r1) (hr : (0 ≤ r1 ∧ r1 < d) ∨ (d < r1 ∧ r1 ≤ 0)) (hbr : Builtin.Int.intBits (b - r1) ≤ 150000)
    (hqd2 : d = Lw * r1 + r2) (hr2 : (0 ≤ r2 ∧ r2 < r1) ∨ (r1 < r2 ∧ r2 ≤ 0)) (hbr2 : Builtin.Int.intBits (d - r2) ≤ 150000)
    (v1 : m0 (Str.ofString "big") = some (.int b tb)) (v2 : m0 (Str.ofString "small") = some (.int d td))
    (lC : @LT.lt Nat _ 54 DC) (lW : @LT.lt Nat _ 54 W1) (l0 : @LT.lt Nat _ 54 DA) (l1 : @LT.lt Nat _ 54 cL) (l2 : @LT.lt Nat _ 54 cH) (l3 : @LT.lt Nat _ 54 cK)
    (F : Fr h₀ L s.heap m0) (N : News h₀ L s.heap ((DC, oC) :: (W1, oW) :: (DA, oD) :: (cL, oL) :: (cH, oH) :: (cK, oK) :: lt)) (hlt : TabsOk lt)
    (hQ : ∀ (m' : Str → Option Value) (t1 t2 : Tok) (h' : Heap) (tk' : Nat) (lt' : List (Addr × Obj)), TabsOk lt' → m' (Str.ofString "big") = some (.int r1 t1) → m' (Str.ofString "small") = some (.int r2 t2) →
      (∀ y, y ≠ Str.ofString "due" → y ≠ Str.ofString "quotient" → y ≠ Str.ofString "rest" → y ≠ Str.ofString "big" → y ≠ Str.ofString "small" → m' y = m0 y) → Fr h₀ L h' m' → News h₀ L h' ((DC, oC) :: (W1, oW) :: (DA, oD) :: (cL, oL) :: (cH, oH) :: (cK, oK) :: lt') → Q .next { s with heap := h', toks := tk' }) :
    wpAny (model Challenge.rw_ph0090_01.row.prog w) (ktrTop dp un gd (Str.ofString "law") scope L a ccd (lawCl cL cH cK) outer) (exec st (envX (Str.ofString "law") scope L a ccd (lawCl cL cH cK))) Q E s := by
  have e1 : some st = some _ := hb.symm.trans rfl
  have e2 : some scope = some _ := hsc.symm.trans rfl
  simp only [Option.some.injEq] at e1 e2
  subst e1 e2
  clear hb hsc
  revert X
  k_fill
  intro X
  k_steps
  rename Fr _ _ _ _ => FT
  rename News _ _ _ _ => NT
  rename_i D' h1' l1'
  try unfold Held
  have hD54 : 54 < D' := Nat.lt_trans lC l1'.1
  refine iter_tupTurns (vs := [.int H tH, .int Lw tL]) (n := _) rfl FT NT (.head _) rfl rfl fun I hI => ?_
  have hI54 : 54 < I := Nat.lt_trans hD54 (hI _ (.head _))
  have hoff : ∀ lt' : List (Addr × Obj), (∀ p ∈ lt', p.1 ≠ I) → ∀ o1 : Obj, ∀ p ∈ (D', tupO [.int H tH, .int Lw tL] 0) :: (DC, oC) :: (W1, oW) :: (DA, oD) :: (cL, oL) :: (cH, oH) :: (cK, oK) :: lt', ∀ q ∈ [(I, o1)], p.1 ≠ q.1 := by
    intro lt' hlt' o1 p hp q hq
    rw [List.mem_singleton.mp hq]
    rcases List.mem_append.mp (show p ∈ [(D', tupO [.int H tH, .int Lw tL] 0), (DC, oC), (W1, oW), (DA, oD), (cL, oL), (cH, oH), (cK, oK)] ++ lt' from hp) with h | h
    · refine Nat.ne_of_lt (hI p ?_)
      exact List.mem_append_left lt h
    · exact hlt' p h
  have hG0 : ∀ p ∈ lt, p.1 ≠ I := fun p hp => Nat.ne_of_lt (hI p (.tail _ (.tail _ (.tail _ (.tail _ (.tail _ (.tail _ (.tail _ hp))))))))
  have h54 : ∀ o1 : Obj, ∀ z ∈ [(I, o1), (D', tupO [.int H tH, .int Lw tL] 0), (DC, oC), (W1, oW), (DA, oD), (cL, oL), (cH, oH), (cK, oK)], 54 < z.1 := fun o1 => List.forall_mem_cons.mpr ⟨hI54, List.forall_mem_cons.mpr ⟨hD54, List.forall_mem_cons.mpr ⟨lC, List.forall_mem_cons.mpr ⟨lW, List.forall_mem_cons.mpr ⟨l0, List.forall_mem_cons.mpr ⟨l1, List.forall_mem_cons.mpr ⟨l2, List.forall_mem_cons.mpr ⟨l3, fun _ h => nomatch h⟩⟩⟩⟩⟩⟩⟩⟩
  refine ItemsRest.val fun h2 tk2 F2 o1 hc1 N2 => ?_
  k_steps
  unfold Held
  rename Fr _ _ _ _ => F3
  rename News _ _ _ _ => N3
  refine dueTurn w rfl rfl p loose mean mg mb dp un gd a ccd cL cH cK outer A₀ base h₀ L _ _ _ _ b d H r1 _ _ _ [(I, o1), (D', tupO [.int H tH, .int Lw tL] 0), (DC, oC), (W1, oW), (DA, oD), (cL, oL), (cH, oH), (cK, oK)] lt B X T hdp hun hE hd0 hbb hdb hqd hr hbr ((if_neg (by decide)).trans v1) ((if_neg (by decide)).trans v2) (if_pos rfl) F3 N3 hlt (h54 o1) ?_
  intro m' t1 t2 h' tk' lt' hlt' hG vb vs hrest FZ NZ
  have hG1 : ∀ p ∈ lt', p.1 ≠ I := hG (I, o1) (.head _) hG0
  refine ⟨h', tk', m', (D', tupO [.int H tH, .int Lw tL] 0) :: (DC, oC) :: (W1, oW) :: (DA, oD) :: (cL, oL) :: (cH, oH) :: (cK, oK) :: lt', rfl, FZ, NZ, hoff lt' hG1 o1, ⟨.head _, trivial⟩, ?_⟩
  refine ItemsRest.val fun h3 tk3 F4 o2 hc2 N4 => ?_
  k_steps
  unfold Held
  rename Fr _ _ _ _ => F5
  rename News _ _ _ _ => N5
  refine dueTurn w rfl rfl p loose mean mg mb dp un gd a ccd cL cH cK outer A₀ base h₀ L _ _ _ _ d r1 Lw r2 _ _ _ [(I, o2), (D', tupO [.int H tH, .int Lw tL] 0), (DC, oC), (W1, oW), (DA, oD), (cL, oL), (cH, oH), (cK, oK)] lt' B X T hdp hun hE hr0 hdb hrb hqd2 hr2 hbr2 ((if_neg (by decide)).trans vb) ((if_neg (by decide)).trans vs) (if_pos rfl) F5 N5 hlt' (h54 o2) ?_
  intro m2 t3 t4 h4 tk4 lt2 hlt2 hG2 vb2 vs2 hrest2 FY NY
  have hG3 : ∀ p ∈ lt2, p.1 ≠ I := hG2 (I, o2) (.head _) hG1
  refine ⟨h4, tk4, m2, (D', tupO [.int H tH, .int Lw tL] 0) :: (DC, oC) :: (W1, oW) :: (DA, oD) :: (cL, oL) :: (cH, oH) :: (cK, oK) :: lt2, rfl, FY, NY, hoff lt2 hG3 o2, ⟨.head _, trivial⟩, ?_⟩
  refine ItemsRest.zero fun h5 tk5 F6 N6 => ?_
  refine hQ m2 t3 t4 h5 tk5 lt2 hlt2 vb2 vs2 (fun y n1 n2 n3 n4 n5 => ?_) F6 (News.sub N6 fun z hz => .tail _ hz)
  rw [hrest2 y n2 n3 n4 n5, if_neg n1, hrest y n2 n3 n4 n5, if_neg n1]
end Mine
end
section
theorem Mine.idle23 : True := by
  w_top off
  k_with_none
  trivial
set_option maxRecDepth 100000
set_option maxHeartbeats 1000000
namespace Mine
noncomputable def countBody (K : Frag) : Option (List Stmt) := ((defOf K 140).bind (·[18]?)).map forBody
theorem run42 : True := by
  k_with "k_mem" => (assumption)
  k_with "call ref" => (refine held ?_)
  k_with "compareOp NotEq ref ref" => (refine held ?_)
  trivial
theorem countTurn (w : World) {body : List Stmt} {scope : Scope} (hb : countBody (hd.heap_39 w.params) = some body) (hsc : scopeOf (hd.heap_39 w.params) 140 = some scope)
    (p : Program) (loose : List Str) (mean : ExcName → Option Value) (mg mb : Str → Option Value)
    (dp un : Nat) (gd : Option (List Code)) (a : Addr) (ccd : Value) (cL cH cK : Addr) (outer : List Env) (A₀ : Around) (base h₀ : Heap) (L : Addr) (m0 : Str → Option Value) (s : Shared) (Q : Flow → Shared → Prop) (E : Value → Shared → Prop)
    (b d q r wd : Int) (near far c : Nat) (tb td tc tn tf tw : Tok) (l1 lt : List (Addr × Obj))
    (B : Below A₀ base outer h₀) (X : (hd.heap_39 w.params).In h₀) (T : Top p loose mean mg mb h₀) (hdp : dp + 200 < recursionLimit) (hun : un + 1000 < cLine)
    (hE : PassesOwn (model Challenge.rw_ph0090_01.row.prog w) (ktrTop dp un gd (Str.ofString "law") scope L a ccd (lawCl cL cH cK) outer) (envX (Str.ofString "law") scope L a ccd (lawCl cL cH cK)) E)
    (hd0 : d ≠ 0) (hbb : Builtin.Int.intBits b ≤ 140000) (hdb : Builtin.Int.intBits d ≤ 140000) (hqd : b = q * d + r) (hr : (0 ≤ r ∧ r < d) ∨ (d < r ∧ r ≤ 0)) (hq0 : 0 ≤ q) (hqb : Builtin.Int.intBits q ≤ 150000) (hw1 : 1 ≤ wd) (hw2 : wd ≤ 1400) (hn : near ≤ 10000) (hf : 1 ≤ far) (hf2 : far ≤ 10000) (hc1 : 1 ≤ c) (hc2 : c ≤ 3) (hdg : digs wd.toNat q = toldL near far c)
    (v1 : m0 (Str.ofString "big") = some (.int b tb)) (v2 : m0 (Str.ofString "small") = some (.int d td)) (v3 : m0 (Str.ofString "count") = some (.int (c : Int) tc)) (v4 : m0 (Str.ofString "near") = some (.int (near : Int) tn)) (v5 : m0 (Str.ofString "far") = some (.int (far : Int) tf)) (v6 : m0 (Str.ofString "width") = some (.int wd tw))
    (F : Fr h₀ L s.heap m0) (N : News h₀ L s.heap (l1 ++ lt)) (hlt : TabsOk lt) (hl1 : ∀ z ∈ l1, 54 < z.1)
    (hQ : ∀ (m' : Str → Option Value) (t1 t2 t3 t4 : Tok) (h' : Heap) (tk' : Nat) (lt' : List (Addr × Obj)), TabsOk lt' → Grow lt lt' l1 → m' (Str.ofString "big") = some (.int d t1) → m' (Str.ofString "small") = some (.int r t2) → m' (Str.ofString "near") = some (.int (far : Int) t3) → m' (Str.ofString "far") = some (.int ((near : Int) + (c : Int) * (far : Int)) t4) →
      (∀ y, y ≠ Str.ofString "quotient" → y ≠ Str.ofString "rest" → y ≠ Str.ofString "big" → y ≠ Str.ofString "small" → y ≠ Str.ofString "near" → y ≠ Str.ofString "far" → m' y = m0 y) → Fr h₀ L h' m' → News h₀ L h' (l1 ++ lt') → Q .next { s with heap := h', toks := tk' }) :
    wpAny (model Challenge.rw_ph0090_01.row.prog w) (ktrTop dp un gd (Str.ofString "law") scope L a ccd (lawCl cL cH cK) outer) (execs body (envX (Str.ofString "law") scope L a ccd (lawCl cL cH cK))) Q E s := by
  have e1 : some body = some _ := hb.symm.trans rfl
  have e2 : some scope = some _ := hsc.symm.trans rfl
  simp only [Option.some.injEq] at e1 e2
  subst e1 e2
  clear hb hsc
  have kv : ∀ z ∈ [(Str.ofString "big", Value.int b tb), (Str.ofString "small", Value.int d td), (Str.ofString "count", Value.int (c : Int) tc), (Str.ofString "near", Value.int (near : Int) tn), (Str.ofString "far", Value.int (far : Int) tf), (Str.ofString "width", Value.int wd tw)], m0 z.1 = some z.2 :=
    List.forall_mem_cons.mpr ⟨v1, List.forall_mem_cons.mpr ⟨v2, List.forall_mem_cons.mpr ⟨v3, List.forall_mem_cons.mpr ⟨v4, List.forall_mem_cons.mpr ⟨v5, List.forall_mem_cons.mpr ⟨v6, fun _ h => nomatch h⟩⟩⟩⟩⟩⟩
  have em := frM_eq kv
  replace F := frM_to _ F kv
  revert X
  k_fill
  intro X
  dsimp only [forBody]
  k_steps
  unfold Held
  refine SpT.use (cm w b d _ _ hd0 (by (first | lia | omega)) (by (first | lia | omega))) B F X (News.rot l1 N) hlt hl1 T rfl trivial (by (first | lia | omega)) (by (first | lia | omega)) fun r1 lt1 tl1 h1 tk1 F1 N1 hlt1 hG1 ha1 hl1' ho1 => ?_
  obtain ⟨D1, q1, r1, u1, u2, k1, rfl, rfl, hqr, hrr⟩ := ho1
  obtain ⟨rfl, rfl⟩ := div_unique hqr hrr hqd hr
  replace N1 := News.rot lt1 N1
  have hl1t : ∀ z ∈ l1, z.1 < D1 := fun z hz => hl1' z hz _ (.head _)
  (try dsimp only)
  (try k_fold)
  k_steps
  unfold Held
  rename Fr _ _ _ _ => FA
  rename News _ _ _ _ => NA0
  have NA : News h₀ L _ (l1 ++ lt1) := News.sub NA0 fun z hz => by
    rcases List.mem_append.mp hz with h | h
    · exact List.mem_append.mpr (.inl (.tail _ h))
    · exact List.mem_append.mpr (.inr h)
  clear NA0
  refine SpT.use (ci w q1 wd _ _ (by (first | lia | omega)) hq0 (by (first | lia | omega)) (by (first | lia | omega))) B FA X (News.rot l1 NA) hlt1 hl1 T rfl trivial (by (first | lia | omega)) (by (first | lia | omega)) fun r2 lt2 tl2 h2 tk2 F2 N2 hlt2 hG2 ha2 hl2' ho2 => ?_
  obtain ⟨D2, y2, k2, rfl, rfl, hy2⟩ := ho2
  rw [hdg] at hy2
  replace N2 := News.rot lt2 N2
  (try dsimp only)
  (try k_fold)
  k_steps
  unfold Held
  refine Sp.use (ct w near far c _ _ _ hn hf hf2 hc1 hc2) B F2 X N2 T rfl (by (first | lia | omega)) (by (first | lia | omega)) fun r3 tl3 h3 tk3 F3 N3 hl3 ho3 => ?_
  obtain ⟨D3, y3, k3, rfl, rfl, hy3⟩ := ho3
  (try dsimp only)
  (try k_fold)
  k_steps
  unfold Held
  refine ne_intsK (News.isList N3 (.tail _ (.head _))) hy2 (News.isList N3 (.head _)) hy3 (show un + 64 < cLine by (first | lia | omega)) ?_
  have hbF : (!decide (toldL near far c = toldL near far c)) = false := by simp
  rw [hbF]
  (try dsimp only)
  (try k_fold)
  k_steps
  rename Fr _ _ _ _ => FZ
  rename News _ _ _ _ => NZ
  refine hQ _ _ _ _ _ _ _ lt2 hlt2 (Grow.trans hG1 hG2 fun _ h => h) rfl rfl rfl rfl (fun y n1 n2 n3 n4 n5 n6 => ?_) FZ (News.sub NZ fun z hz => ?_)
  · simp only [if_neg n1, if_neg n2, if_neg n3, if_neg n4, if_neg n5, if_neg n6]
    rw [em]
  · rcases List.mem_append.mp hz with h | h
    · exact .tail _ (.tail _ (List.mem_append.mpr (.inr (List.mem_append.mpr (.inl (.tail _ h))))))
    · exact .tail _ (.tail _ (List.mem_append.mpr (.inr (List.mem_append.mpr (.inr h)))))
end Mine
end
section
namespace Mine
theorem pick_rev : ∀ cv : List Value, cv.length ≤ 6 → PySem.slicePick cv.toArray none (some 0) (some (-1)) = (cv.drop 1).reverse.toArray
  | [], _ => by with_unfolding_all rfl
  | [a], _ => by with_unfolding_all rfl
  | [a, b], _ => by with_unfolding_all rfl
  | [a, b, c], _ => by with_unfolding_all rfl
  | [a, b, c, d], _ => by with_unfolding_all rfl
  | [a, b, c, d, e], _ => by with_unfolding_all rfl
  | [a, b, c, d, e, f], _ => by with_unfolding_all rfl
  | _ :: _ :: _ :: _ :: _ :: _ :: _ :: _, h => by simp at h
end Mine
end
section
set_option maxRecDepth 100000
namespace Mine
theorem step_E (B : Int) (l0 l1 : Nat) (ds : List Int) (c : Int) : G B l0 l1 0 1 (wordOf (ds ++ [c])) = G B (l1 + c.toNat * l0) l0 1 0 (wordOf ds) := by
  rw [wordOf_snoc, G_exp B l0 l1 c.toNat 0 1 _ (wordOf_01 ds), Int.zero_mul, Int.add_zero]
theorem step_P (B : Int) (l0 l1 : Nat) (ds : List Int) (c : Int) : G B l0 l1 1 0 (wordOf (ds ++ [c])) = (B ^ l1 * R B l0 c.toNat) * G B (l1 + c.toNat * l0) l0 1 0 (wordOf ds) + G B (l1 + c.toNat * l0) l0 0 1 (wordOf ds) := by
  rw [wordOf_snoc, G_exp B l0 l1 c.toNat 1 0 _ (wordOf_01 ds), Int.one_mul, Int.zero_add]
  have h := G_lin B (l1 + c.toNat * l0) l0 1 0 0 1 (B ^ l1 * R B l0 c.toNat) 1 (wordOf ds)
  rw [Int.mul_one, Int.one_mul, Int.mul_zero, Int.one_mul, Int.add_zero, Int.zero_add, Int.one_mul] at h
  exact h
/-- the quotient and the rest of one turn -/
theorem turn_div {B sg : Int} (hB : 2 ≤ B) (hsg : sg = 1 ∨ sg = -1) {l0 l1 : Nat} (h0 : 1 ≤ l0) (h1 : 1 ≤ l1) {ds : List Int} (hd : ∀ c ∈ ds, 1 ≤ c) {c : Int} (hc : 1 ≤ c) :
    sg * G B l0 l1 1 0 (wordOf (ds ++ [c])) = (B ^ l1 * R B l0 c.toNat) * (sg * G B l0 l1 0 1 (wordOf (ds ++ [c]))) + sg * G B (l1 + c.toNat * l0) l0 0 1 (wordOf ds) ∧
    ((0 ≤ sg * G B (l1 + c.toNat * l0) l0 0 1 (wordOf ds) ∧ sg * G B (l1 + c.toNat * l0) l0 0 1 (wordOf ds) < sg * G B l0 l1 0 1 (wordOf (ds ++ [c]))) ∨ (sg * G B l0 l1 0 1 (wordOf (ds ++ [c])) < sg * G B (l1 + c.toNat * l0) l0 0 1 (wordOf ds) ∧ sg * G B (l1 + c.toNat * l0) l0 0 1 (wordOf ds) ≤ 0)) := by
  have hlt := G_lt hB (l0 := l1 + c.toNat * l0) (l1 := l0) (by (first | lia | omega)) h0 (wordOf_last hd)
  have hnn := G_nonneg hB (l0 := l1 + c.toNat * l0) (l1 := l0) (a0 := 0) (a1 := 1) (by decide) (by decide) (wordOf ds)
  rw [step_E, step_P]
  refine ⟨?_, ?_⟩
  · rcases hsg with rfl | rfl
    · grind
    · grind
  · rcases hsg with rfl | rfl
    · left; (first | lia | omega)
    · right; (first | lia | omega)
theorem last_E (B : Int) (l0 l1 : Nat) (c : Int) : G B l0 l1 0 1 (wordOf [c]) = 1 := by
  rw [← List.nil_append [c], step_E]
  show (1 : Int) + B ^ _ * 0 = 1
  rw [Int.mul_zero, Int.add_zero]
theorem last_P (B : Int) (l0 l1 : Nat) (c : Int) : G B l0 l1 1 0 (wordOf [c]) = B ^ l1 * R B l0 c.toNat := by
  rw [← List.nil_append [c], step_P]
  have e1 : G B (l1 + c.toNat * l0) l0 1 0 (wordOf []) = 1 := by
    show (1 : Int) + B ^ _ * 0 = 1
    rw [Int.mul_zero, Int.add_zero]
  have e2 : G B (l1 + c.toNat * l0) l0 0 1 (wordOf []) = 0 := by
    show (0 : Int) + B ^ _ * 0 = 0
    rw [Int.mul_zero, Int.add_zero]
  rw [e1, e2, Int.mul_one, Int.add_zero]
theorem R_pos {B : Int} (hB : 2 ≤ B) (l0 : Nat) : ∀ c : Nat, 0 ≤ R B l0 c
  | 0 => Int.le_refl 0
  | c + 1 => by
    have h := Int.mul_nonneg (Int.le_of_lt (Int.pow_pos (show 0 < B by (first | lia | omega)) : 0 < B ^ l0)) (R_pos hB l0 c)
    show 0 ≤ 1 + B ^ l0 * R B l0 c
    (first | lia | omega)
/-- the first two divisions -/
theorem first_div {n : Nat} (hn : 1 ≤ n) {sg H Lw : Int} (hsg : sg = 1 ∨ sg = -1) (hL : 1 ≤ Lw) {cs : List Int} (hc : ∀ c ∈ cs, 1 ≤ c) (hne : cs ≠ []) :
    sg * valOf n ((wordOf cs).map fun l => if l = 1 then H else H * Lw + 1) = H * (sg * valOf n ((wordOf cs).map fun l => if l = 1 then 1 else Lw)) + sg * G (2 ^ n) 1 1 1 0 (wordOf cs) ∧
    sg * valOf n ((wordOf cs).map fun l => if l = 1 then 1 else Lw) = Lw * (sg * G (2 ^ n) 1 1 1 0 (wordOf cs)) + sg * G (2 ^ n) 1 1 0 1 (wordOf cs) ∧
    0 < G (2 ^ n) 1 1 0 1 (wordOf cs) ∧ G (2 ^ n) 1 1 0 1 (wordOf cs) < G (2 ^ n) 1 1 1 0 (wordOf cs) ∧ G (2 ^ n) 1 1 1 0 (wordOf cs) < valOf n ((wordOf cs).map fun l => if l = 1 then 1 else Lw) := by
  have hB : (2 : Int) ≤ 2 ^ n := pow_ge (by decide) hn
  obtain ⟨ds, c, rfl⟩ : ∃ ds c, cs = ds ++ [c] := by
    rcases List.eq_nil_or_concat cs with h | ⟨ds, c, h⟩
    · exact absurd h hne
    · exact ⟨ds, c, by rw [h, List.concat_eq_append]⟩
  have hlt := G_lt hB (l0 := 1) (l1 := 1) (by decide) (by decide) (wordOf_last hc)
  have hEp : 0 < G (2 ^ n) 1 1 0 1 (wordOf (ds ++ [c])) := by
    rw [step_E]
    have hd : ∀ x ∈ ds, 1 ≤ x := fun x hx => hc x (List.mem_append_left _ hx)
    have h1 := G_lt hB (l0 := 1 + c.toNat * 1) (l1 := 1) (by (first | lia | omega)) (by decide) (wordOf_last hd)
    have h2 := G_nonneg hB (l0 := 1 + c.toNat * 1) (l1 := 1) (a0 := 0) (a1 := 1) (by decide) (by decide) (wordOf ds)
    (first | lia | omega)
  have e1 := valOf_G n (H * Lw + 1) H (wordOf (ds ++ [c]))
  have e2 := valOf_G n Lw 1 (wordOf (ds ++ [c]))
  have g1 := G_lin (2 ^ n) 1 1 1 0 0 1 (H * Lw + 1) H (wordOf (ds ++ [c]))
  have g2 := G_lin (2 ^ n) 1 1 1 0 0 1 Lw 1 (wordOf (ds ++ [c]))
  simp only [Int.mul_one, Int.mul_zero, Int.add_zero, Int.zero_add, Int.one_mul] at g1 g2
  rw [e1, e2, g1, g2]
  refine ⟨by grind, by grind, hEp, hlt, ?_⟩
  have h3 : 1 * G (2 ^ n) 1 1 1 0 (wordOf (ds ++ [c])) ≤ Lw * G (2 ^ n) 1 1 1 0 (wordOf (ds ++ [c])) := Int.mul_le_mul_of_nonneg_right hL (by (first | lia | omega))
  (first | lia | omega)
end Mine
end
section
set_option maxRecDepth 100000
namespace Mine
theorem intBits_mono {x y : Int} {m : Nat} (h0 : 0 ≤ x) (h : x ≤ y) (hy : Builtin.Int.intBits y ≤ m) : Builtin.Int.intBits x ≤ m :=
  intBits_le_of_natAbs (by (first | lia | omega)) hy
theorem bits_sgn {x sg : Int} {m : Nat} (h : sg = 1 ∨ sg = -1) (hx : Builtin.Int.intBits x ≤ m) : Builtin.Int.intBits (sg * x) ≤ m := by
  refine intBits_le_of_natAbs ?_ hx
  rcases h with rfl | rfl <;> simp
/-- what one turn asks -/
theorem turn_facts {B sg : Int} (hB : 2 ≤ B) (hsg : sg = 1 ∨ sg = -1) {l0 l1 : Nat} (h0 : 1 ≤ l0) (h1 : 1 ≤ l1) {ds : List Int} (hd : ∀ c ∈ ds, 1 ≤ c) {c : Int} (hc : 1 ≤ c) {m : Nat}
    (hP : Builtin.Int.intBits (G B l0 l1 1 0 (wordOf (ds ++ [c]))) ≤ m) :
    sg * G B l0 l1 0 1 (wordOf (ds ++ [c])) ≠ 0 ∧ Builtin.Int.intBits (sg * G B l0 l1 1 0 (wordOf (ds ++ [c]))) ≤ m ∧ Builtin.Int.intBits (sg * G B l0 l1 0 1 (wordOf (ds ++ [c]))) ≤ m ∧
    0 ≤ B ^ l1 * R B l0 c.toNat ∧ Builtin.Int.intBits (B ^ l1 * R B l0 c.toNat) ≤ m ∧ Builtin.Int.intBits (G B (l1 + c.toNat * l0) l0 1 0 (wordOf ds)) ≤ m := by
  have hlt := G_lt hB (l0 := l1 + c.toNat * l0) (l1 := l0) (by (first | lia | omega)) h0 (wordOf_last hd)
  have hnn := G_nonneg hB (l0 := l1 + c.toNat * l0) (l1 := l0) (a0 := 0) (a1 := 1) (by decide) (by decide) (wordOf ds)
  have hq : 0 ≤ B ^ l1 * R B l0 c.toNat := Int.mul_nonneg (Int.le_of_lt (Int.pow_pos (by (first | lia | omega)))) (R_pos hB _ _)
  have hP2 := hP
  rw [step_P] at hP2
  rw [step_E]
  have hm : (B ^ l1 * R B l0 c.toNat) * 1 ≤ (B ^ l1 * R B l0 c.toNat) * G B (l1 + c.toNat * l0) l0 1 0 (wordOf ds) := Int.mul_le_mul_of_nonneg_left (by (first | lia | omega)) hq
  have hlt2 : G B (l1 + c.toNat * l0) l0 1 0 (wordOf ds) ≤ G B l0 l1 1 0 (wordOf (ds ++ [c])) := by
    rw [← step_E]
    exact Int.le_of_lt (G_lt hB h0 h1 (wordOf_last fun x hx => by
      rcases List.mem_append.mp hx with h | h
      · exact hd x h
      · rw [List.mem_singleton.mp h]; exact hc))
  have b1 := intBits_mono (by (first | lia | omega)) hlt2 hP
  refine ⟨?_, bits_sgn hsg hP, bits_sgn hsg b1, hq, intBits_mono hq (by (first | lia | omega)) hP2, b1⟩
  rcases hsg with rfl | rfl <;> (first | lia | omega)
end Mine
end
section
set_option maxRecDepth 100000
set_option maxHeartbeats 1000000
namespace Mine
theorem run43 : True := by
  k_with "k_mem" => (assumption)
  trivial
structure CInv (sg wd : Int) (cs : List Int) (m0 : Str → Option Value) (I : Addr) (fx : List (Addr × Obj)) (rem : List Value) (m1 : Str → Option Value) (nws : List (Addr × Obj)) (ds dn : List Int) (near far : Nat) (lt' : List (Addr × Obj)) (t1 t2 t3 t4 : Tok) : Prop where
  c1 : cs = ds ++ dn
  c2 : ds ≠ []
  c3 : IntsAre rem (ds.drop 1).reverse
  c4 : 1 ≤ near
  c5 : 1 ≤ far
  c6 : near ≤ 4 ^ dn.length
  c7 : far ≤ 4 ^ dn.length
  c8 : m1 (Str.ofString "big") = some (.int (sg * G (2 ^ wd.toNat) far near 1 0 (wordOf ds)) t1)
  c9 : m1 (Str.ofString "small") = some (.int (sg * G (2 ^ wd.toNat) far near 0 1 (wordOf ds)) t2)
  c10 : m1 (Str.ofString "near") = some (.int (near : Int) t3)
  c11 : m1 (Str.ofString "far") = some (.int (far : Int) t4)
  c12 : Builtin.Int.intBits (G (2 ^ wd.toNat) far near 1 0 (wordOf ds)) ≤ 140000
  c13 : ∀ y, y ≠ Str.ofString "count" → y ≠ Str.ofString "quotient" → y ≠ Str.ofString "rest" → y ≠ Str.ofString "big" → y ≠ Str.ofString "small" → y ≠ Str.ofString "near" → y ≠ Str.ofString "far" → m1 y = m0 y
  c14 : TabsOk lt'
  c15 : ∀ z ∈ lt', z.1 ≠ I
  c16 : nws = fx ++ lt'
theorem cntIter (w : World) {body : List Stmt} {scope : Scope} (hb : countBody (hd.heap_39 w.params) = some body) (hsc : scopeOf (hd.heap_39 w.params) 140 = some scope)
    (p : Program) (loose : List Str) (mean : ExcName → Option Value) (mg mb : Str → Option Value)
    (dp un : Nat) (gd : Option (List Code)) (a : Addr) (ccd : Value) (cL cH cK : Addr) (outer : List Env) (A₀ : Around) (base h₀ : Heap) (L : Addr) (m0 : Str → Option Value) (s : Shared) (Q : Flow → Shared → Prop) (E : Value → Shared → Prop)
    (sg wd : Int) (tb td tn tf tw : Tok) (oL oH oK oD oW oC : Obj) (DA DC W1 DS : Addr) (k2 kS : Nat) (cv : List Value) (cs : List Int) (lt : List (Addr × Obj))
    (B : Below A₀ base outer h₀) (X : (hd.heap_39 w.params).In h₀) (T : Top p loose mean mg mb h₀) (hdp : dp + 200 < recursionLimit) (hun : un + 1000 < cLine)
    (hE : PassesOwn (model Challenge.rw_ph0090_01.row.prog w) (ktrTop dp un gd (Str.ofString "law") scope L a ccd (lawCl cL cH cK) outer) (envX (Str.ofString "law") scope L a ccd (lawCl cL cH cK)) E)
    (hcv : IntsAre cv cs) (hcl : cs.length ≤ 6) (hne : cs ≠ []) (hc13 : ∀ c ∈ cs, 1 ≤ c ∧ c ≤ 3) (hw1 : 1 ≤ wd) (hw2 : wd ≤ 1400) (hsg : sg = 1 ∨ sg = -1) (hP : Builtin.Int.intBits (G (2 ^ wd.toNat) 1 1 1 0 (wordOf cs)) ≤ 140000)
    (v2 : m0 (Str.ofString "big") = some (.int (sg * G (2 ^ wd.toNat) 1 1 1 0 (wordOf cs)) tb)) (v3 : m0 (Str.ofString "small") = some (.int (sg * G (2 ^ wd.toNat) 1 1 0 1 (wordOf cs)) td)) (v4 : m0 (Str.ofString "near") = some (.int 1 tn)) (v5 : m0 (Str.ofString "far") = some (.int 1 tf)) (v6 : m0 (Str.ofString "width") = some (.int wd tw))
    (lS : @LT.lt Nat _ 54 DS) (lC : @LT.lt Nat _ 54 DC) (lW : @LT.lt Nat _ 54 W1) (l0 : @LT.lt Nat _ 54 DA) (l1 : @LT.lt Nat _ 54 cL) (l2 : @LT.lt Nat _ 54 cH) (l3 : @LT.lt Nat _ 54 cK)
    (F : Fr h₀ L s.heap m0) (N : News h₀ L s.heap ((DS, listOf (cv.drop 1).reverse.toArray kS) :: (DC, oC) :: (W1, oW) :: (DA, oD) :: (cL, oL) :: (cH, oH) :: (cK, oK) :: lt)) (hlt : TabsOk lt)
    (hQ : ∀ (m' : Str → Option Value) (c : Int) (near far : Nat) (t1 t2 t3 t4 : Tok) (h' : Heap) (tk' : Nat) (lt' : List (Addr × Obj)), cs.head? = some c → TabsOk lt' → 1 ≤ near → 1 ≤ far → near ≤ 4096 → far ≤ 4096 → m' (Str.ofString "big") = some (.int (sg * G (2 ^ wd.toNat) far near 1 0 (wordOf [c])) t1) → m' (Str.ofString "small") = some (.int (sg * G (2 ^ wd.toNat) far near 0 1 (wordOf [c])) t2) → m' (Str.ofString "near") = some (.int (near : Int) t3) → m' (Str.ofString "far") = some (.int (far : Int) t4) → Builtin.Int.intBits (G (2 ^ wd.toNat) far near 1 0 (wordOf [c])) ≤ 140000 →
      (∀ y, y ≠ Str.ofString "count" → y ≠ Str.ofString "quotient" → y ≠ Str.ofString "rest" → y ≠ Str.ofString "big" → y ≠ Str.ofString "small" → y ≠ Str.ofString "near" → y ≠ Str.ofString "far" → m' y = m0 y) → Fr h₀ L h' m' → News h₀ L h' ((DC, oC) :: (W1, oW) :: (DA, oD) :: (cL, oL) :: (cH, oH) :: (cK, oK) :: lt') → Q .next { s with heap := h', toks := tk' }) :
    wpAny (model Challenge.rw_ph0090_01.row.prog w) (ktrTop dp un gd (Str.ofString "law") scope L a ccd (lawCl cL cH cK) outer) (pyIter (.ref DS)) (fun it s₂ => LoopAtV Challenge.rw_ph0090_01.row.prog w (ktrTop dp un gd (Str.ofString "law") scope L a ccd (lawCl cL cH cK) outer) h₀ (envX (Str.ofString "law") scope L a ccd (lawCl cL cH cK)) (Str.ofString "count") body Q E it s₂) E s := by
  have hcvl := IntsAre.length hcv
  refine iter_listUnr (n := kS) rfl F N (.head _) rfl rfl fun I hI => listRest_ind (fun rem m1 nws => ∃ (ds dn : List Int) (near far : Nat) (lt' : List (Addr × Obj)) (t1 t2 t3 t4 : Tok), CInv sg wd cs m0 I [(DS, listOf (cv.drop 1).reverse.toArray kS), (DC, oC), (W1, oW), (DA, oD), (cL, oL), (cH, oH), (cK, oK)] rem m1 nws ds dn near far lt' t1 t2 t3 t4) ?zero ?succ _ _ _ ?init
  case init =>
    exact ⟨cs, [], 1, 1, lt, tb, td, tn, tf, (List.append_nil cs).symm, hne, (by cases hcv with
      | nil => exact .nil
      | cons _ _ h => exact h.reverse), by decide, by decide, by decide, by decide, v2, v3, v4, v5, hP, fun _ _ _ _ _ _ _ _ => rfl, hlt, fun z hz => Nat.ne_of_lt (hI z (.tail _ (.tail _ (.tail _ (.tail _ (.tail _ (.tail _ (.tail _ hz)))))))), rfl⟩
  case zero =>
    rintro m1 nws ⟨ds, dn, near, far, lt', t1, t2, t3, t4, hcs, hds, hrem, hn1, hf1, hn2, hf2, u1, u2, u3, u4, hPb, hoth, hlt', hIlt, rfl⟩ h tk F1 N1
    obtain ⟨c, rfl⟩ : ∃ c, ds = [c] := by
      cases ds with
      | nil => exact absurd rfl hds
      | cons c r =>
        have h1 := IntsAre.length hrem
        simp at h1
        exact ⟨c, by rw [List.eq_nil_of_length_eq_zero h1.symm]⟩
    have h4 : 4 ^ dn.length ≤ 4096 := Nat.le_trans (Nat.pow_le_pow_right (by decide) (show dn.length ≤ 6 by rw [hcs, List.length_append] at hcl; (first | lia | omega))) (by decide)
    exact hQ m1 c near far t1 t2 t3 t4 h tk lt' (by rw [hcs]; rfl) hlt' hn1 hf1 (by (first | lia | omega)) (by (first | lia | omega)) u1 u2 u3 u4 hPb hoth F1 (News.sub N1 fun z hz => .tail _ hz)
  case succ =>
    rintro v rem m1 nws ⟨ds, dn, near, far, lt', t1, t2, t3, t4, hcs, hds, hrem, hn1, hf1, hn2, hf2, u1, u2, u3, u4, hPb, hoth, hlt', hIlt, rfl⟩ it h tk hit F1 N1
    obtain ⟨ds', c, rfl⟩ : ∃ ds' c, ds = ds' ++ [c] := by
      rcases List.eq_nil_or_concat ds with h | ⟨a, b, h⟩
      · exact absurd h hds
      · exact ⟨a, b, by rw [h, List.concat_eq_append]⟩
    have hds' : ds' ≠ [] := by
      rintro rfl
      have := IntsAre.length hrem
      simp at this
    have erev : (List.drop 1 (ds' ++ [c])).reverse = c :: (List.drop 1 ds').reverse := by
      cases ds' with
      | nil => exact absurd rfl hds'
      | cons x r => simp
    rw [erev] at hrem
    cases hrem with
    | cons _ tc hrem' =>
    have hc := hc13 c (by rw [hcs]; simp)
    have hdm : ∀ x ∈ ds', 1 ≤ x := fun x hx => (hc13 x (by rw [hcs]; simp [hx])).1
    have hB : (2 : Int) ≤ 2 ^ wd.toNat := pow_ge (by decide) (by (first | lia | omega))
    obtain ⟨hdiv, hrng⟩ := turn_div hB hsg hf1 hn1 hdm hc.1
    have hI54 : 54 < I := Nat.lt_trans lS (hI _ (.head _))
    have h54 : ∀ z ∈ [(I, it), (DS, listOf (cv.drop 1).reverse.toArray kS), (DC, oC), (W1, oW), (DA, oD), (cL, oL), (cH, oH), (cK, oK)], 54 < z.1 := List.forall_mem_cons.mpr ⟨hI54, List.forall_mem_cons.mpr ⟨lS, List.forall_mem_cons.mpr ⟨lC, List.forall_mem_cons.mpr ⟨lW, List.forall_mem_cons.mpr ⟨l0, List.forall_mem_cons.mpr ⟨l1, List.forall_mem_cons.mpr ⟨l2, List.forall_mem_cons.mpr ⟨l3, fun _ h => nomatch h⟩⟩⟩⟩⟩⟩⟩⟩
    have h4 : 4 ^ dn.length ≤ 4096 := Nat.le_trans (Nat.pow_le_pow_right (by decide) (show dn.length ≤ 6 by rw [hcs, List.length_append] at hcl; (first | lia | omega))) (by decide)
    have hcn : ((c.toNat : Nat) : Int) = c := Int.toNat_of_nonneg (by (first | lia | omega))
    obtain ⟨g1, g2, g3, g4, g5, g6⟩ := turn_facts hB hsg hf1 hn1 hdm hc.1 hPb
    have h4s : 4 ^ (c :: dn).length = 4 ^ dn.length * 4 := by rw [List.length_cons, Nat.pow_succ]
    have hcm : c.toNat * far ≤ 3 * far := Nat.mul_le_mul_right _ (by (first | lia | omega))
    refine countTurn w hb hsc p loose mean mg mb dp un gd a ccd cL cH cK outer A₀ base h₀ L _ _ _ _ (sg * G (2 ^ wd.toNat) far near 1 0 (wordOf (ds' ++ [c]))) (sg * G (2 ^ wd.toNat) far near 0 1 (wordOf (ds' ++ [c]))) ((2 ^ wd.toNat) ^ near * R (2 ^ wd.toNat) far c.toNat) (sg * G (2 ^ wd.toNat) (near + c.toNat * far) far 0 1 (wordOf ds')) wd near far c.toNat _ _ tc _ _ _ [(I, it), (DS, listOf (cv.drop 1).reverse.toArray kS), (DC, oC), (W1, oW), (DA, oD), (cL, oL), (cH, oH), (cK, oK)] lt' B X T hdp hun hE g1 g2 g3 hdiv hrng g4 (Nat.le_trans g5 (by decide)) hw1 hw2 (by (first | lia | omega)) hf1 (by (first | lia | omega)) (by (first | lia | omega)) (by (first | lia | omega)) (told_digs (by (first | lia | omega)) hf1 (by (first | lia | omega))) ((if_neg (by decide)).trans u1) ((if_neg (by decide)).trans u2) (by rw [hcn]; exact if_pos rfl) ((if_neg (by decide)).trans u3) ((if_neg (by decide)).trans u4) ((if_neg (by decide)).trans ((hoth _ (by decide) (by decide) (by decide) (by decide) (by decide) (by decide) (by decide)).trans v6)) F1 N1 hlt' h54 ?post
    case post =>
      intro m' t1 t2 t3 t4 h' tk' lt2 hlt2 hG vb vs vn vf hrest FZ NZ
      have hI2 : ∀ z ∈ lt2, z.1 ≠ I := hG (I, it) (.head _) hIlt
      refine ⟨h', tk', m', (DS, listOf (cv.drop 1).reverse.toArray kS) :: (DC, oC) :: (W1, oW) :: (DA, oD) :: (cL, oL) :: (cH, oH) :: (cK, oK) :: lt2, rfl, FZ, NZ, ?off, .head _, ds', c :: dn, far, near + c.toNat * far, lt2, t1, t2, t3, t4, by rw [hcs, List.append_assoc]; rfl, hds', hrem', hf1, by (first | lia | omega), by (first | lia | omega), by (first | lia | omega), by rw [vb, step_E], vs, vn, by rw [vf, Int.natCast_add, Int.natCast_mul], g6, ?oth, hlt2, hI2, rfl⟩
      case off =>
        intro p hp
        rcases List.mem_append.mp (show p ∈ [(DS, listOf (cv.drop 1).reverse.toArray kS), (DC, oC), (W1, oW), (DA, oD), (cL, oL), (cH, oH), (cK, oK)] ++ lt2 from hp) with h | h
        · exact Nat.ne_of_lt (hI p (List.mem_append_left lt h))
        · exact hI2 p h
      case oth =>
        intro y n1 n2 n3 n4 n5 n6 n7
        rw [hrest y n2 n3 n4 n5 n6 n7, if_neg n1]
        exact hoth y n1 n2 n3 n4 n5 n6 n7
end Mine
end
section
theorem Mine.idle24 : True := by
  w_top off
  k_with_none
  trivial
local macro_rules | `(tactic| walk_at "idle") => `(tactic| fail)
set_option maxRecDepth 100000
set_option maxHeartbeats 1000000
namespace Mine
noncomputable def countFor (K : Frag) : Option Stmt := (defOf K 140).bind (·[18]?)
theorem run44 : True := by
  k_with "k_mem" => (assumption)
  k_with "pyIter ref" => (refine held ?_)
  k_with "execs cons" => (refine held ?_)
  k_with "exec For Name Subscript cons nil" => (k_here; walk_at "s9")
  trivial
theorem cntLoop (w : World) {st : Stmt} {scope : Scope} (hb : countFor (hd.heap_39 w.params) = some st) (hsc : scopeOf (hd.heap_39 w.params) 140 = some scope)
    (p : Program) (loose : List Str) (mean : ExcName → Option Value) (mg mb : Str → Option Value)
    (dp un : Nat) (gd : Option (List Code)) (a : Addr) (ccd : Value) (cL cH cK : Addr) (outer : List Env) (A₀ : Around) (base h₀ : Heap) (L : Addr) (m0 : Str → Option Value) (s : Shared) (Q : Flow → Shared → Prop) (E : Value → Shared → Prop)
    (sg wd : Int) (tb td tn tf tw : Tok) (oL oH oK oD oW : Obj) (DA DC W1 : Addr) (k2 : Nat) (cv : List Value) (cs : List Int) (lt : List (Addr × Obj))
    (B : Below A₀ base outer h₀) (X : (hd.heap_39 w.params).In h₀) (T : Top p loose mean mg mb h₀) (hdp : dp + 200 < recursionLimit) (hun : un + 1000 < cLine)
    (hE : PassesOwn (model Challenge.rw_ph0090_01.row.prog w) (ktrTop dp un gd (Str.ofString "law") scope L a ccd (lawCl cL cH cK) outer) (envX (Str.ofString "law") scope L a ccd (lawCl cL cH cK)) E)
    (hcv : IntsAre cv cs) (hcl : cs.length ≤ 6) (hne : cs ≠ []) (hc13 : ∀ c ∈ cs, 1 ≤ c ∧ c ≤ 3) (hw1 : 1 ≤ wd) (hw2 : wd ≤ 1400) (hsg : sg = 1 ∨ sg = -1) (hP : Builtin.Int.intBits (G (2 ^ wd.toNat) 1 1 1 0 (wordOf cs)) ≤ 140000)
    (v1 : m0 (Str.ofString "counts") = some (.ref DC)) (v2 : m0 (Str.ofString "big") = some (.int (sg * G (2 ^ wd.toNat) 1 1 1 0 (wordOf cs)) tb)) (v3 : m0 (Str.ofString "small") = some (.int (sg * G (2 ^ wd.toNat) 1 1 0 1 (wordOf cs)) td)) (v4 : m0 (Str.ofString "near") = some (.int 1 tn)) (v5 : m0 (Str.ofString "far") = some (.int 1 tf)) (v6 : m0 (Str.ofString "width") = some (.int wd tw))
    (lC : @LT.lt Nat _ 54 DC) (lW : @LT.lt Nat _ 54 W1) (l0 : @LT.lt Nat _ 54 DA) (l1 : @LT.lt Nat _ 54 cL) (l2 : @LT.lt Nat _ 54 cH) (l3 : @LT.lt Nat _ 54 cK)
    (F : Fr h₀ L s.heap m0) (N : News h₀ L s.heap ((DC, listOf cv.toArray k2) :: (W1, oW) :: (DA, oD) :: (cL, oL) :: (cH, oH) :: (cK, oK) :: lt)) (hlt : TabsOk lt)
    (hQ : ∀ (m' : Str → Option Value) (c : Int) (near far : Nat) (t1 t2 t3 t4 : Tok) (h' : Heap) (tk' : Nat) (lt' : List (Addr × Obj)), cs.head? = some c → TabsOk lt' → 1 ≤ near → 1 ≤ far → near ≤ 4096 → far ≤ 4096 → m' (Str.ofString "big") = some (.int (sg * G (2 ^ wd.toNat) far near 1 0 (wordOf [c])) t1) → m' (Str.ofString "small") = some (.int (sg * G (2 ^ wd.toNat) far near 0 1 (wordOf [c])) t2) → m' (Str.ofString "near") = some (.int (near : Int) t3) → m' (Str.ofString "far") = some (.int (far : Int) t4) → Builtin.Int.intBits (G (2 ^ wd.toNat) far near 1 0 (wordOf [c])) ≤ 140000 →
      (∀ y, y ≠ Str.ofString "count" → y ≠ Str.ofString "quotient" → y ≠ Str.ofString "rest" → y ≠ Str.ofString "big" → y ≠ Str.ofString "small" → y ≠ Str.ofString "near" → y ≠ Str.ofString "far" → m' y = m0 y) → Fr h₀ L h' m' → News h₀ L h' ((DC, listOf cv.toArray k2) :: (W1, oW) :: (DA, oD) :: (cL, oL) :: (cH, oH) :: (cK, oK) :: lt') → Q .next { s with heap := h', toks := tk' }) :
    wpAny (model Challenge.rw_ph0090_01.row.prog w) (ktrTop dp un gd (Str.ofString "law") scope L a ccd (lawCl cL cH cK) outer) (exec st (envX (Str.ofString "law") scope L a ccd (lawCl cL cH cK))) Q E s := by
  have e1 : some st = some _ := hb.symm.trans rfl
  have e2 : some scope = some _ := hsc.symm.trans rfl
  simp only [Option.some.injEq] at e1 e2
  subst e1 e2
  clear hb hsc
  have kv : ∀ z ∈ [(Str.ofString "counts", Value.ref DC)], m0 z.1 = some z.2 := List.forall_mem_cons.mpr ⟨v1, fun _ h => nomatch h⟩
  have em := frM_eq kv
  replace F := frM_to _ F kv
  have hcvl := IntsAre.length hcv
  revert X
  k_fill
  intro X
  k_steps
  unfold Held
  rename Fr _ _ _ _ => FR
  rename News _ _ _ _ => NR
  rw [pick_rev cv (by (first | lia | omega))] at NR
  rw [em] at FR
  have hDC : @LT.lt Nat _ DC s.heap.objs.size := Heap.lt_size (N _ (.head _)).1
  refine cntIter w rfl rfl p loose mean mg mb dp un gd a ccd cL cH cK outer A₀ base h₀ L _ _ _ _ sg wd tb td tn tf tw oL oH oK oD oW _ DA DC W1 _ k2 _ cv cs lt B X T hdp hun hE hcv hcl hne hc13 hw1 hw2 hsg hP v2 v3 v4 v5 v6 (Nat.lt_trans lC (Nat.lt_succ_of_lt hDC)) lC lW l0 l1 l2 l3 FR NR hlt ?_
  intro m' c near far t1 t2 t3 t4 h' tk' lt' g1 g2 g3 g4 g5 g6 g7 g8 g9 g10 g11 g12 g13 g14
  exact hQ m' c near far t1 t2 t3 t4 h' tk' lt' g1 g2 g3 g4 g5 g6 g7 g8 g9 g10 g11 g12 g13 g14
end Mine
end
section
set_option maxRecDepth 100000
namespace Mine
/-- what the first two divisions ask -/
theorem due_facts {wd sg H Lw : Int} {cs : List Int} (hw1 : 1 ≤ wd) (hw2 : wd ≤ 1400) (hsg : sg = 1 ∨ sg = -1) (hHb : Builtin.Int.intBits H ≤ 5600) (hL1 : 1 ≤ Lw) (hLb : Builtin.Int.intBits Lw ≤ 5601)
    (hwl : (wordOf cs).length ≤ 52) (hc : ∀ c ∈ cs, 1 ≤ c) (hne : cs ≠ []) {b d r1 r2 : Int}
    (eb : b = sg * valOf wd.toNat ((wordOf cs).map fun l => if l = 1 then H else H * Lw + 1)) (ed : d = sg * valOf wd.toNat ((wordOf cs).map fun l => if l = 1 then 1 else Lw))
    (e1 : r1 = sg * G (2 ^ wd.toNat) 1 1 1 0 (wordOf cs)) (e2 : r2 = sg * G (2 ^ wd.toNat) 1 1 0 1 (wordOf cs)) :
    d ≠ 0 ∧ r1 ≠ 0 ∧ Builtin.Int.intBits b ≤ 140000 ∧ Builtin.Int.intBits d ≤ 140000 ∧ Builtin.Int.intBits r1 ≤ 140000 ∧ b = H * d + r1 ∧ ((0 ≤ r1 ∧ r1 < d) ∨ (d < r1 ∧ r1 ≤ 0)) ∧ Builtin.Int.intBits (b - r1) ≤ 150000 ∧
    d = Lw * r1 + r2 ∧ ((0 ≤ r2 ∧ r2 < r1) ∨ (r1 < r2 ∧ r2 ≤ 0)) ∧ Builtin.Int.intBits (d - r2) ≤ 150000 ∧ Builtin.Int.intBits (G (2 ^ wd.toNat) 1 1 1 0 (wordOf cs)) ≤ 140000 := by
  obtain ⟨f1, f2, f3, f4, f5⟩ := first_div (n := wd.toNat) (H := H) (by (first | lia | omega)) hsg hL1 hc hne
  have hbig : ∀ n : Int, Builtin.Int.intBits ((fun l : Int => if l = 1 then H else H * Lw + 1) n) ≤ 12000 := fun n => by
    dsimp only
    split
    · (first | lia | omega)
    · have := bits_mul1 hHb hLb; (first | lia | omega)
  have hsmall : ∀ n : Int, Builtin.Int.intBits ((fun l : Int => if l = 1 then 1 else Lw) n) ≤ 12000 := fun n => by
    dsimp only
    split
    · exact Nat.le_trans (Nat.le_of_eq (by decide +kernel : Builtin.Int.intBits 1 = 1)) (by decide)
    · (first | lia | omega)
  have hm : wd.toNat * (wordOf cs).length ≤ 1400 * 52 := Nat.mul_le_mul (by (first | lia | omega)) hwl
  have b1 := valOf_bits (n := wd.toNat) (by (first | lia | omega)) (map_bits (ns := wordOf cs) hbig)
  have b2 := valOf_bits (n := wd.toNat) (by (first | lia | omega)) (map_bits (ns := wordOf cs) hsmall)
  rw [List.length_map] at b1 b2
  rw [← eb, ← ed, ← e1] at f1
  rw [← ed, ← e1, ← e2] at f2
  have b3 : Builtin.Int.intBits b ≤ 84800 := by rw [eb]; exact bits_sgn hsg (by (first | lia | omega))
  have b4 : Builtin.Int.intBits d ≤ 84800 := by rw [ed]; exact bits_sgn hsg (by (first | lia | omega))
  have b5 : Builtin.Int.intBits (G (2 ^ wd.toNat) 1 1 1 0 (wordOf cs)) ≤ 84800 := intBits_mono (by (first | lia | omega)) (Int.le_of_lt f5) (by (first | lia | omega))
  have b6 : Builtin.Int.intBits r1 ≤ 84800 := by rw [e1]; exact bits_sgn hsg b5
  have b7 : Builtin.Int.intBits (b - r1) ≤ 150000 := by
    rw [f1, Int.add_sub_cancel]
    exact Nat.le_trans (intBits_mul_le hHb b4) (by decide)
  have b8 : Builtin.Int.intBits (d - r2) ≤ 150000 := by
    rw [f2, Int.add_sub_cancel]
    exact Nat.le_trans (intBits_mul_le hLb b6) (by decide)
  refine ⟨?_, ?_, by (first | lia | omega), by (first | lia | omega), by (first | lia | omega), f1, ?_, b7, f2, ?_, b8, by (first | lia | omega)⟩
  · rw [ed]; rcases hsg with rfl | rfl <;> (first | lia | omega)
  · rw [e1]; rcases hsg with rfl | rfl <;> (first | lia | omega)
  · rw [ed, e1]; rcases hsg with rfl | rfl <;> (first | lia | omega)
  · rw [e2, e1]; rcases hsg with rfl | rfl <;> (first | lia | omega)
/-- the end -/
theorem end_facts {B sg : Int} (hsg : sg = 1 ∨ sg = -1) (far near : Nat) (c : Int) :
    sg * G B far near 0 1 (wordOf [c]) = sg ∧ sg * (sg * G B far near 1 0 (wordOf [c])) = B ^ near * R B far c.toNat := by
  rw [last_E, last_P]
  refine ⟨Int.mul_one _, ?_⟩
  rcases hsg with rfl | rfl <;> (first | lia | omega)
end Mine
end
section
theorem Mine.idle25 : True := by
  w_top off
  k_with_none
  trivial
set_option maxRecDepth 100000
set_option maxHeartbeats 1000000
namespace Mine
theorem run45 : True := by
  k_with "k_mem" => (assumption)
  k_with "exec For Name Tuple cons nil" => (refine held ?_)
  k_with "exec For Name Subscript cons nil" => (refine held ?_)
  k_with "call ref" => (refine held ?_)
  k_with "compareOp Eq ref ref" => (refine held ?_)
  trivial
theorem seg4 (w : World) {body : List Stmt} {scope : Scope} (hb : defOf (hd.heap_39 w.params) 140 = some body) (hsc : scopeOf (hd.heap_39 w.params) 140 = some scope)
    (p : Program) (loose : List Str) (mean : ExcName → Option Value) (mg mb : Str → Option Value)
    (dp un : Nat) (gd : Option (List Code)) (a : Addr) (ccd : Value) (cL cH cK : Addr) (outer : List Env) (A₀ : Around) (base h₀ : Heap) (L : Addr) (m1 : Str → Option Value) (s : Shared) (Q : Flow → Shared → Prop) (E : Value → Shared → Prop)
    (oL oH oK : Obj) (DA DC W1 : Addr) (oD oW : Obj) (lt : List (Addr × Obj)) (k2 : Nat) (cv : List Value) (cs : List Int) (H Lw sg wd : Int) (tH tL tS tW tB tSm : Tok)
    (B : Below A₀ base outer h₀) (X : (hd.heap_39 w.params).In h₀) (T : Top p loose mean mg mb h₀) (hdp : dp + 200 < recursionLimit) (hun : un + 1000 < cLine)
    (hE : PassesOwn (model Challenge.rw_ph0090_01.row.prog w) (ktrTop dp un gd (Str.ofString "law") scope L a ccd (lawCl cL cH cK) outer) (envX (Str.ofString "law") scope L a ccd (lawCl cL cH cK)) E)
    (hwl : (wordOf cs).length ≤ 52) (hcv : IntsAre cv cs) (hne : cs ≠ []) (hcl : cs.length ≤ 6) (hc13 : ∀ c ∈ cs, 1 ≤ c ∧ c ≤ 3)
    (hoL : oL.data = .cell (some (.int Lw tL))) (hoH : oH.data = .cell (some (.int H tH))) (hw1 : 1 ≤ wd) (hw2 : wd ≤ 1400) (hsg : sg = 1 ∨ sg = -1) (hHb : Builtin.Int.intBits H ≤ 5600) (hL1 : 1 ≤ Lw) (hLb : Builtin.Int.intBits Lw ≤ 5601)
    (v1 : m1 (Str.ofString "big") = some (.int (sg * valOf wd.toNat ((wordOf cs).map fun l => if l = 1 then H else H * Lw + 1)) tB)) (v2 : m1 (Str.ofString "counts") = some (.ref DC)) (v3 : m1 (Str.ofString "sign") = some (.int sg tS)) (v4 : m1 (Str.ofString "width") = some (.int wd tW))
    (v5 : m1 (Str.ofString "small") = some (.int (sg * valOf wd.toNat ((wordOf cs).map fun l => if l = 1 then 1 else Lw)) tSm))
    (lC : @LT.lt Nat _ 54 DC) (lW : @LT.lt Nat _ 54 W1)
    (l0 : @LT.lt Nat _ 54 DA) (l1 : @LT.lt Nat _ 54 cL) (l2 : @LT.lt Nat _ 54 cH) (l3 : @LT.lt Nat _ 54 cK)
    (F : Fr h₀ L s.heap m1) (N : News h₀ L s.heap ((DC, listOf cv.toArray k2) :: (W1, oW) :: (DA, oD) :: (cL, oL) :: (cH, oH) :: (cK, oK) :: lt)) (hlt : TabsOk lt)
    (hQ : ∀ (m2 : Str → Option Value) (h' : Heap) (tk' : Nat) (news lt' : List (Addr × Obj)), TabsOk lt' → Fr h₀ L h' m2 → News h₀ L h' (news ++ lt') → Q (.ret (.bool true)) { s with heap := h', toks := tk' }) :
    wpAny (model Challenge.rw_ph0090_01.row.prog w) (ktrTop dp un gd (Str.ofString "law") scope L a ccd (lawCl cL cH cK) outer) (execs (body.drop 16) (envX (Str.ofString "law") scope L a ccd (lawCl cL cH cK))) Q E s := by
  have e1 : some body = some _ := hb.symm.trans rfl
  have e2 : some scope = some _ := hsc.symm.trans rfl
  simp only [Option.some.injEq] at e1 e2
  subst e1 e2
  clear hb hsc
  have kv : ∀ q ∈ [(Str.ofString "big", Value.int (sg * valOf wd.toNat ((wordOf cs).map fun l => if l = 1 then H else H * Lw + 1)) tB), (Str.ofString "counts", Value.ref DC), (Str.ofString "sign", Value.int sg tS), (Str.ofString "width", Value.int wd tW), (Str.ofString "small", Value.int (sg * valOf wd.toNat ((wordOf cs).map fun l => if l = 1 then 1 else Lw)) tSm)], m1 q.1 = some q.2 :=
    List.forall_mem_cons.mpr ⟨v1, List.forall_mem_cons.mpr ⟨v2, List.forall_mem_cons.mpr ⟨v3, List.forall_mem_cons.mpr ⟨v4, List.forall_mem_cons.mpr ⟨v5, fun _ h => nomatch h⟩⟩⟩⟩⟩
  have em := frM_eq kv
  revert X
  k_fill
  intro X
  dsimp only [List.drop]
  k_steps
  unfold Held
  obtain ⟨g1, g2, g3, g4, g5, g6, g7, g8, g9, g10, g11, g12⟩ := due_facts hw1 hw2 hsg hHb hL1 hLb hwl (fun c hc => (hc13 c hc).1) hne rfl rfl rfl rfl
  refine dueLoop w rfl rfl p loose mean mg mb dp un gd a ccd cL cH cK outer A₀ base h₀ L _ _ _ _ _ _ H Lw _ _ tB tSm tH tL oL oH oK oD _ oW DA DC W1 lt B X T hdp hun hE hoL hoH g1 g2 g3 g4 g5 g6 g7 g8 g9 g10 g11 v1 v5 lC lW l0 l1 l2 l3 F N hlt ?_
  intro m2 t1 t2 h2 tk2 lt2 hlt2 vb vs hrest F2 N2
  have q2 := (hrest _ (by decide) (by decide) (by decide) (by decide) (by decide)).trans v2
  have q3 := (hrest _ (by decide) (by decide) (by decide) (by decide) (by decide)).trans v3
  have q4 := (hrest _ (by decide) (by decide) (by decide) (by decide) (by decide)).trans v4
  k_steps
  unfold Held
  rename Fr _ _ _ _ => F3
  rename News _ _ _ _ => N3
  have N4 := News.sub N3 fun z hz => List.Mem.tail _ hz
  refine cntLoop w rfl rfl p loose mean mg mb dp un gd a ccd cL cH cK outer A₀ base h₀ L _ _ _ _ sg wd t1 t2 _ _ tW oL oH oK oD oW DA DC W1 k2 cv cs lt2 B X T hdp hun hE hcv hcl hne hc13 hw1 hw2 hsg g12 ((if_neg (by decide)).trans ((if_neg (by decide)).trans q2)) ((if_neg (by decide)).trans ((if_neg (by decide)).trans vb)) ((if_neg (by decide)).trans ((if_neg (by decide)).trans vs)) ((if_neg (by decide)).trans (if_pos rfl)) (if_pos rfl) ((if_neg (by decide)).trans ((if_neg (by decide)).trans q4)) lC lW l0 l1 l2 l3 F3 N4 hlt2 ?_
  intro m3 c near far t3 t4 t5 t6 h4 tk4 lt4 hc hlt4 hn1 hf1 hn2 hf2 ub us unr ufr hbits hrest2 F5 N5
  have r2 := (hrest2 _ (by decide) (by decide) (by decide) (by decide) (by decide) (by decide) (by decide)).trans ((if_neg (by decide)).trans ((if_neg (by decide)).trans q2))
  have r3 := (hrest2 _ (by decide) (by decide) (by decide) (by decide) (by decide) (by decide) (by decide)).trans ((if_neg (by decide)).trans ((if_neg (by decide)).trans q3))
  have r4 := (hrest2 _ (by decide) (by decide) (by decide) (by decide) (by decide) (by decide) (by decide)).trans ((if_neg (by decide)).trans ((if_neg (by decide)).trans q4))
  obtain ⟨x1, x2⟩ := end_facts (B := 2 ^ wd.toNat) hsg far near c
  rw [x1] at us
  have hB : (2 : Int) ≤ 2 ^ wd.toNat := pow_ge (by decide) (by (first | lia | omega))
  have hcc := hc13 c (by cases cs with
    | nil => cases hc
    | cons x r => cases hc; exact .head _)
  have kv2 : ∀ q ∈ [(Str.ofString "big", Value.int (sg * G (2 ^ wd.toNat) far near 1 0 (wordOf [c])) t3), (Str.ofString "small", Value.int sg t4), (Str.ofString "near", Value.int (near : Int) t5), (Str.ofString "far", Value.int (far : Int) t6), (Str.ofString "counts", Value.ref DC), (Str.ofString "sign", Value.int sg tS), (Str.ofString "width", Value.int wd tW)], m3 q.1 = some q.2 :=
    List.forall_mem_cons.mpr ⟨ub, List.forall_mem_cons.mpr ⟨us, List.forall_mem_cons.mpr ⟨unr, List.forall_mem_cons.mpr ⟨ufr, List.forall_mem_cons.mpr ⟨r2, List.forall_mem_cons.mpr ⟨r3, List.forall_mem_cons.mpr ⟨r4, fun _ h => nomatch h⟩⟩⟩⟩⟩⟩⟩
  have F6 := frM_to _ F5 kv2
  clear F5 F3 N3 N4
  obtain ⟨cv', tc, rfl⟩ : ∃ cv' tc, cv = .int c tc :: cv' := by
    cases hcv with
    | nil => cases hc
    | cons x t h => cases hc; exact ⟨_, _, rfl⟩
  obtain ⟨-, -, -, y1, y2, -⟩ := turn_facts (ds := []) hB hsg hf1 hn1 (fun _ h => nomatch h) hcc.1 hbits
  have hcn : ((c.toNat : Nat) : Int) = c := Int.toNat_of_nonneg (by (first | lia | omega))
  have h54 : ∀ z ∈ [(DC, listOf (Value.int c tc :: cv').toArray k2), (W1, oW), (DA, oD), (cL, oL), (cH, oH), (cK, oK)], 54 < z.1 := List.forall_mem_cons.mpr ⟨lC, List.forall_mem_cons.mpr ⟨lW, List.forall_mem_cons.mpr ⟨l0, List.forall_mem_cons.mpr ⟨l1, List.forall_mem_cons.mpr ⟨l2, List.forall_mem_cons.mpr ⟨l3, fun _ h => nomatch h⟩⟩⟩⟩⟩⟩
  have hcv6 : cv'.length ≤ 5 := by
    have := IntsAre.length hcv
    rw [List.length_cons] at this
    (first | lia | omega)
  k_steps
  · unfold Held
    rw [x2]
    refine SpT.use (ci w _ wd _ _ (by (first | lia | omega)) y1 (by (first | lia | omega)) (by (first | lia | omega))) B F6 X (News.rot [(DC, listOf (Value.int c tc :: cv').toArray k2), (W1, oW), (DA, oD), (cL, oL), (cH, oH), (cK, oK)] N5) hlt4 h54 T rfl trivial (by (first | lia | omega)) (by (first | lia | omega)) fun r2 lt2 tl2 h2 tk2 F2 N2 hlt2 hG2 ha2 hl2' ho2 => ?_
    obtain ⟨D2, y2, k2, rfl, rfl, hy2⟩ := ho2
    rw [told_digs (by (first | lia | omega)) hf1 (by (first | lia | omega))] at hy2
    replace N2 := News.rot lt2 N2
    (try dsimp only)
    (try k_fold)
    k_steps
    unfold Held
    rw [← hcn]
    refine Sp.use (ct w near far c.toNat _ _ _ (by (first | lia | omega)) hf1 (by (first | lia | omega)) (by (first | lia | omega)) (by (first | lia | omega))) B F2 X N2 T rfl (by (first | lia | omega)) (by (first | lia | omega)) fun r3 tl3 h3 tk3 F3 N3 hl3 ho3 => ?_
    obtain ⟨D3, y3, k3, rfl, rfl, hy3⟩ := ho3
    (try dsimp only)
    (try k_fold)
    k_steps
    unfold Held
    refine eq_intsK (News.isList N3 (.tail _ (.head _))) hy2 (News.isList N3 (.head _)) hy3 (show un + 64 < cLine by (first | lia | omega)) ?_
    rw [decide_eq_true (rfl : toldL near far c.toNat = toldL near far c.toNat)]
    rw [← List.append_assoc] at N3
    exact hQ _ _ _ _ _ hlt2 F3 N3
  · rename_i hne
    exact absurd rfl hne
end Mine
end
section
theorem Mine.idle26 : True := by
  w_top off
  k_with_none
  trivial
local macro_rules | `(tactic| walk_at "idle") => `(tactic| fail)
set_option maxRecDepth 100000
set_option maxHeartbeats 400000
namespace Mine
theorem run46 : True := by
  k_with "subscriptTail List cons Slice ref ref" => (k_here; refine kba_turn (value' := PySem.Expr.Name (Str.ofString "x") default) (fun _ => rfl) ?_; k_dflt (refine' kmk_slice_lit ?j132F ?j132N ?j132l ?j132pl ?j132pu (slice_any _ _) ?_ ?j132hs ?j132ht ?j132z; (case j132F => k_asm); (case j132N => k_asm); (case j132l => exact News.isList (by k_asm) (by k_mem)); (case j132pl => exact .int _ _); (case j132pu => exact .none); (case j132hs => with_unfolding_all rfl); (case j132ht => (intro _; with_unfolding_all rfl)); (case j132z => exact Nat.le_of_ble_eq_true rfl)); walk_at "s5")
  k_with "binaryOp Add ref ref" => (k_here; k_dflt (refine' addK ?j133F ?j133N ?j133m ?j133mm ?j133z ?_; (case j133F => k_asm); (case j133N => k_asm); (case j133m => k_mem); (case j133mm => k_mem); (case j133z => (rw [IntsAre.length (by assumption), List.length_take, List.length_drop]; simp only [List.length_cons, List.length_nil]; (first | lia | omega)))); walk_at "s5")
  k_with "execs cons" => ((with_reducible show wpAny _ _ (execs (Stmt.Assign [Expr.Name (PySem.Str.ofString "kind") _] _ _ :: _) _) _ _ _); refine held ?_)
  trivial
theorem ints_succ {ws : List Value} {ds : List Int} {n : Nat} (h : IntsAre ws ds) (hl : ds.length = n + 1) : ∃ (d : Int) (t : Tok) (ws' : List Value) (ds' : List Int), ws = .int d t :: ws' ∧ IntsAre ws' ds' ∧ ds'.length = n := by
  cases h with
  | nil => exact absurd hl (Nat.succ_ne_zero _).symm
  | cons d t h => exact ⟨d, t, _, _, rfl, h, Nat.succ.inj hl⟩
theorem ten_of {ws : List Value} {ds : List Int} {P : Prop} (h : IntsAre ws ds) (hl : ds.length = 10) (k : ∀ (d0 d1 d2 d3 d4 d5 d6 d7 d8 d9 : Int) (t0 t1 t2 t3 t4 t5 t6 t7 t8 t9 : Tok), ws = [Value.int d0 t0, Value.int d1 t1, Value.int d2 t2, Value.int d3 t3, Value.int d4 t4, Value.int d5 t5, Value.int d6 t6, Value.int d7 t7, Value.int d8 t8, Value.int d9 t9] → P) : P := by
  obtain ⟨d0, t0, w1, s1, e0, h1, l1⟩ := ints_succ h hl
  obtain ⟨d1, t1, w2, s2, e1, h2, l2⟩ := ints_succ h1 l1
  obtain ⟨d2, t2, w3, s3, e2, h3, l3⟩ := ints_succ h2 l2
  obtain ⟨d3, t3, w4, s4, e3, h4, l4⟩ := ints_succ h3 l3
  obtain ⟨d4, t4, w5, s5, e4, h5, l5⟩ := ints_succ h4 l4
  obtain ⟨d5, t5, w6, s6, e5, h6, l6⟩ := ints_succ h5 l5
  obtain ⟨d6, t6, w7, s7, e6, h7, l7⟩ := ints_succ h6 l6
  obtain ⟨d7, t7, w8, s8, e7, h8, l8⟩ := ints_succ h7 l7
  obtain ⟨d8, t8, w9, s9, e8, h9, l9⟩ := ints_succ h8 l8
  obtain ⟨d9, t9, w10, s10, e9, h10, l10⟩ := ints_succ h9 l9
  have e10 : w10 = [] := List.eq_nil_of_length_eq_zero ((IntsAre.length h10).trans l10)
  exact k d0 d1 d2 d3 d4 d5 d6 d7 d8 d9 t0 t1 t2 t3 t4 t5 t6 t7 t8 t9 (by rw [e0, e1, e2, e3, e4, e5, e6, e7, e8, e9, e10])
theorem news_ten {P : Prop} {h₀ h : Heap} {L D : Addr} {k : Nat} {ws : List Value} {ns : List Int} {rest : List (Addr × Obj)} {t0 t1 t2 t3 t4 t5 t6 t7 t8 t9 : Tok} (hI : IntsAre ws (ns.take 10))
    (N : News h₀ L h ((D, listOf (ws ++ List.drop ns.length [Value.int 1 t0, Value.int 0 t1, Value.int 2 t2, Value.int 0 t3, Value.int 0 t4, Value.int 0 t5, Value.int 1399 t6, Value.int 0 t7, Value.int 0 t8, Value.int 3 t9]).toArray k) :: rest))
    (hP : ∀ (d0 d1 d2 d3 d4 d5 d6 d7 d8 d9 : Int) (t0 t1 t2 t3 t4 t5 t6 t7 t8 t9 : Tok), News h₀ L h ((D, listOf [Value.int d0 t0, Value.int d1 t1, Value.int d2 t2, Value.int d3 t3, Value.int d4 t4, Value.int d5 t5, Value.int d6 t6, Value.int d7 t7, Value.int d8 t8, Value.int d9 t9].toArray k) :: rest) → P) : P := by
  have h10 := hI.append (IntsAre.drop (.cons 1 t0 (.cons 0 t1 (.cons 2 t2 (.cons 0 t3 (.cons 0 t4 (.cons 0 t5 (.cons 1399 t6 (.cons 0 t7 (.cons 0 t8 (.cons 3 t9 .nil)))))))))) ns.length)
  refine ten_of h10 (by rw [List.length_append, List.length_take, List.length_drop]; simp only [List.length_cons, List.length_nil]; (first | lia | omega)) fun d0 d1 d2 d3 d4 d5 d6 d7 d8 d9 u0 u1 u2 u3 u4 u5 u6 u7 u8 u9 e => ?_
  rw [e] at N
  exact hP d0 d1 d2 d3 d4 d5 d6 d7 d8 d9 u0 u1 u2 u3 u4 u5 u6 u7 u8 u9 N
theorem seg1z (w : World) {body : List Stmt} {scope : Scope} (hb : defOf (hd.heap_39 w.params) 140 = some body) (hsc : scopeOf (hd.heap_39 w.params) 140 = some scope)
    (p : Program) (loose : List Str) (mean : ExcName → Option Value) (mg mb : Str → Option Value)
    (dp un : Nat) (gd : Option (List Code)) (a : Addr) (ccd : Value) (cL cH cK : Addr) (outer : List Env) (A₀ : Around) (base h₀ : Heap) (L : Addr) (m0 : Str → Option Value) (s : Shared) (Q : Flow → Shared → Prop) (E : Value → Shared → Prop)
    (oL oH oK : Obj) (ls : Addr) (vs : List Value) (ns : List Int)
    (B : Below A₀ base outer h₀) (X : (hd.heap_39 w.params).In h₀) (T : Top p loose mean mg mb h₀) (hdp : dp + 200 < recursionLimit) (hun : un + 1000 < cLine)
    (F : Fr h₀ L s.heap (fun y => if y = Str.ofString "script" then some (.ref ls) else m0 y)) (N : News h₀ L s.heap ((cL, oL) :: (cH, oH) :: (cK, oK) :: tabs0))
    (l1 : cH < cL ∧ cK < cL ∧ 54 < cL ∧ 47 < cL) (l2 : cK < cH ∧ 54 < cH ∧ 47 < cH) (l3 : 54 < cK ∧ 47 < cK) (hoL : oL.data = .cell none) (hoH : oH.data = .cell none) (hoK : oK.data = .cell none)
    (hls : h₀.IsList ls vs.toArray) (hI : IntsAre vs ns) (hlen : ns.length ≤ 63)
    (hQ : ∀ (DA : Addr) (kD : Nat) (d0 d1 d2 d3 d4 d5 d6 d7 d8 d9 : Int) (t0 t1 t2 t3 t4 t5 t6 t7 t8 t9 : Tok) (h' : Heap) (tk' : Nat),
      Fr h₀ L h' (fun y => if y = Str.ofString "draws" then some (.ref DA) else if y = Str.ofString "script" then some (.ref ls) else m0 y) →
      News h₀ L h' ((DA, listOf [.int d0 t0, .int d1 t1, .int d2 t2, .int d3 t3, .int d4 t4, .int d5 t5, .int d6 t6, .int d7 t7, .int d8 t8, .int d9 t9].toArray kD) :: (cL, oL) :: (cH, oH) :: (cK, oK) :: tabs0) →
      (@LT.lt Nat _ cL DA ∧ @LT.lt Nat _ cH DA ∧ @LT.lt Nat _ cK DA ∧ @LT.lt Nat _ 54 DA ∧ @LT.lt Nat _ 47 DA) →
      wpAny (model Challenge.rw_ph0090_01.row.prog w) (ktrTop dp un gd (Str.ofString "law") scope L a ccd (lawCl cL cH cK) outer) (execs (body.drop 1) (envX (Str.ofString "law") scope L a ccd (lawCl cL cH cK))) Q E { s with heap := h', toks := tk' }) :
    wpAny (model Challenge.rw_ph0090_01.row.prog w) (ktrTop dp un gd (Str.ofString "law") scope L a ccd (lawCl cL cH cK) outer) (execs body (envX (Str.ofString "law") scope L a ccd (lawCl cL cH cK))) Q E s := by
  have e1 : some body = some _ := hb.symm.trans rfl
  have e2 : some scope = some _ := hsc.symm.trans rfl
  simp only [Option.some.injEq] at e1 e2
  subst e1 e2
  clear hb hsc
  revert X
  k_fill
  intro X
  k_steps
  unfold Held
  rename Fr _ _ _ _ => FZ
  rename News _ _ _ _ => NZ
  rename_i ws hIw hCw hLw l13 DL hL3 l12 D1 h2 l11 DA h1 l10 h0
  refine news_ten hIw NZ fun d0 d1 d2 d3 d4 d5 d6 d7 d8 d9 t0 t1 t2 t3 t4 t5 t6 t7 t8 t9 NY => ?_
  obtain ⟨-, -, -, q1, q2, q3, q4, q5⟩ := l10
  exact hQ DA _ d0 d1 d2 d3 d4 d5 d6 d7 d8 d9 t0 t1 t2 t3 t4 t5 t6 t7 t8 t9 _ _ FZ (News.sub NY fun z hz => by
    rcases List.mem_cons.mp hz with rfl | hz
    · exact .head _
    · exact .tail _ (.tail _ (.tail _ (.tail _ hz)))) ⟨q1, q2, q3, q4, q5⟩
end Mine
end
section
set_option maxRecDepth 100000
set_option maxHeartbeats 1000000
namespace Mine
theorem tabs0_ok : TabsOk tabs0 := ⟨[(54, tabObj #[])], [(47, tabObj #[])], rfl, .inl rfl, .inl rfl⟩
theorem lawAll (w : World) {body : List Stmt} {scope : Scope} (hb : defOf (hd.heap_39 w.params) 140 = some body) (hsc : scopeOf (hd.heap_39 w.params) 140 = some scope)
    (p : Program) (loose : List Str) (mean : ExcName → Option Value) (mg mb : Str → Option Value)
    (dp un : Nat) (gd : Option (List Code)) (a : Addr) (ccd : Value) (cL cH cK : Addr) (outer : List Env) (A₀ : Around) (base h₀ : Heap) (L : Addr) (m0 : Str → Option Value) (s : Shared) (Q : Flow → Shared → Prop) (E : Value → Shared → Prop)
    (oL oH oK : Obj) (ls : Addr) (vs : List Value) (ns : List Int)
    (B : Below A₀ base outer h₀) (X : (hd.heap_39 w.params).In h₀) (T : Top p loose mean mg mb h₀) (hdp : dp + 200 < recursionLimit) (hun : un + 1000 < cLine)
    (hE : PassesOwn (model Challenge.rw_ph0090_01.row.prog w) (ktrTop dp un gd (Str.ofString "law") scope L a ccd (lawCl cL cH cK) outer) (envX (Str.ofString "law") scope L a ccd (lawCl cL cH cK)) E)
    (F : Fr h₀ L s.heap (fun y => if y = Str.ofString "script" then some (.ref ls) else m0 y)) (N : News h₀ L s.heap ((cL, oL) :: (cH, oH) :: (cK, oK) :: tabs0))
    (l1 : @LT.lt Nat _ cH cL ∧ @LT.lt Nat _ cK cL ∧ @LT.lt Nat _ 54 cL ∧ @LT.lt Nat _ 47 cL) (l2 : @LT.lt Nat _ cK cH ∧ @LT.lt Nat _ 54 cH ∧ @LT.lt Nat _ 47 cH) (l3 : @LT.lt Nat _ 54 cK ∧ @LT.lt Nat _ 47 cK) (hoL : oL.data = .cell none) (hoH : oH.data = .cell none) (hoK : oK.data = .cell none)
    (hls : h₀.IsList ls vs.toArray) (hI : IntsAre vs ns) (hlen : ns.length ≤ 63)
    (hQ : ∀ (m2 : Str → Option Value) (h' : Heap) (tk' : Nat) (news lt' : List (Addr × Obj)), TabsOk lt' → Fr h₀ L h' m2 → News h₀ L h' (news ++ lt') → Q (.ret (.bool true)) { s with heap := h', toks := tk' }) :
    wpAny (model Challenge.rw_ph0090_01.row.prog w) (ktrTop dp un gd (Str.ofString "law") scope L a ccd (lawCl cL cH cK) outer) (execs body (envX (Str.ofString "law") scope L a ccd (lawCl cL cH cK))) Q E s := by
  refine seg1z w hb hsc p loose mean mg mb dp un gd a ccd cL cH cK outer A₀ base h₀ L m0 s Q E oL oH oK ls vs ns B X T hdp hun F N l1 l2 l3 hoL hoH hoK hls hI hlen ?_
  intro DA kD d0 d1 d2 d3 d4 d5 d6 d7 d8 d9 t0 t1 t2 t3 t4 t5 t6 t7 t8 t9 h1 tk1 F1 N1 lD
  refine seg1b w hb hsc p loose mean mg mb dp un gd a ccd cL cH cK outer A₀ base h₀ L _ _ Q E oL oH oK DA kD d0 d1 d2 d3 d4 d5 d6 d7 d8 d9 t0 t1 t2 t3 t4 t5 t6 t7 t8 t9 B X T hdp hun F1 N1 lD l1 l2 l3 hoL hoH hoK hE ?_
  intro m1 DC W1 wv cv cs k2 k3 oK' tkk h2 tk2 hwv hwl hcv hne hcl hc13 b1 b2 b3 hoK' lC lW hWC F2 N2
  refine seg3a w hb hsc p loose mean mg mb dp un gd a ccd cL cH cK outer A₀ base h₀ L m1 _ Q E oL oH oK' DA DC W1 kD k2 k3 d0 d1 d2 d3 d4 d5 d6 d7 d8 d9 t0 t1 t2 t3 t4 t5 t6 t7 t8 t9 tkk wv cv cs B X T hdp hun hE hwv hwl hcv hne hcl hc13 b1 b2 b3 hoK' lC lW hWC lD l1 l2 l3 hoL hoH F2 N2 ?_
  intro m2 H Lw sg wd tH tL tS tW oL' oH' h3 tk3 hoL' hoH' hw1 hw2 hsg hHb hL1 hLb e1 e2 e3 e4 F3 N3
  refine seg3b w hb hsc p loose mean mg mb dp un gd a ccd cL cH cK outer A₀ base h₀ L m2 _ Q E oL' oH' oK' DA DC W1 _ tabs0 k2 k3 wv cv cs H Lw sg wd tH tL tS tW B X T hdp hun hE hwv hwl hcv hne hcl hc13 hoL' hoH' hw1 hw2 hsg hHb hL1 hLb e1 e2 e3 e4 lC lW lD.2.2.2.1 l1.2.2.1 l2.2.1 l3.1 F3 N3 tabs0_ok ?_
  intro m3 tB tSm h4 tk4 lt' hlt' f1 f2 f3 f4 f5 f6 F4 N4
  exact seg4 w hb hsc p loose mean mg mb dp un gd a ccd cL cH cK outer A₀ base h₀ L m3 _ Q E oL' oH' oK' DA DC W1 _ _ lt' k2 cv cs H Lw sg wd tH tL tS tW tB tSm B X T hdp hun hE hwl hcv hne hcl hc13 hoL' hoH' hw1 hw2 hsg hHb hL1 hLb f1 f4 f5 f6 f2 lC.2.2.2.2.1 lW.2.2.2.2.1 lD.2.2.2.1 l1.2.2.1 l2.2.1 l3.1 F4 N4 hlt' fun m5 h5 tk5 news lt5 g1 g2 g3 => hQ m5 h5 tk5 news lt5 g1 g2 g3
end Mine
end
set_option maxRecDepth 100000 in
set_option maxHeartbeats 8000000 in
theorem PySem.Challenge.cw_ph0090_01_holds : PySem.Challenge.rw_ph0090_01.Holds :=
  Mine.hd (by
  k_with_none
  k_go0
  rename Fr _ _ _ _ => FZ
  rename News _ _ _ _ => NZ
  rename Below _ _ _ _ => BZ
  rename Top _ _ _ _ _ _ => TZ
  rename Frag.In _ _ => XZ
  rename IntsAre _ _ => hI
  rename ¬ _ => hlen
  rename_i oL oH oK hoL hoH hoK X0 c0 l0
  refine Mine.lawAll _ rfl rfl _ _ _ _ _ _ _ _ _ _ _ _ _ [] callerA _ _ _ (fun _ => none) _ _ _ oL oH oK _ _ _ BZ XZ TZ ?hdp ?hun ?hE FZ NZ ?l1 ?l2 ?l3 hoL hoH hoK lifted hI ?hlen ?hQ
  case hdp => decide
  case hun => decide
  case hE => passes_own
  case l1 => exact ⟨Nat.lt_succ_self _, Nat.lt_succ_of_lt (Nat.lt_succ_self _), Nat.lt_succ_of_lt (Nat.lt_succ_of_lt (Nat.lt_succ_of_lt l0.1)), Nat.lt_succ_of_lt (Nat.lt_succ_of_lt (Nat.lt_succ_of_lt l0.2))⟩
  case l2 => exact ⟨Nat.lt_succ_self _, Nat.lt_succ_of_lt (Nat.lt_succ_of_lt l0.1), Nat.lt_succ_of_lt (Nat.lt_succ_of_lt l0.2)⟩
  case l3 => exact ⟨Nat.lt_succ_of_lt l0.1, Nat.lt_succ_of_lt l0.2⟩
  case hlen => omega
  case hQ =>
    intro m2 h' tk' news lt' hlt' FF NN
    refine ⟨?good, ?grown⟩
    case grown =>
      obtain ⟨t1, t2, rfl, g1, g2⟩ := hlt'
      obtain ⟨p1, q1⟩ := g1.has
      obtain ⟨p2, q2⟩ := g2.has
      exact ⟨GrownAt.of NN (List.mem_append_right _ (List.mem_append_left _ q1)), GrownAt.of NN (List.mem_append_right _ (List.mem_append_right _ q2)), trivial⟩
    case good => k_steps)
