import PyProof.Rows.All
import Wide.All
import OpenK.AllK
import Wide.FinOn
import PySem.Challenge.RW_ph0156_02
set_option Elab.async false
set_option compiler.extract_closed false
local macro_rules | `(tactic| omega) => `(tactic| lia)
section
open PySem PySem.W PyProof.Rows
set_option maxRecDepth 100000
set_option maxHeartbeats 8000000
namespace Mine
open_top hd2 for PySem.Challenge.rw_ph0156_02
end Mine
end
section
open PySem PySem.W PySem.Spec PySem.Calls PyProof.Rows
set_option maxRecDepth 100000
set_option maxHeartbeats 8000000
namespace Mine

/-- A contract: in any frame of a def's, over any ledger, the call ends, the frame and the ground stand, the ledger and the value are as told. -/
def Ctr (prog : Program) (w : World) (K : Frag) (p : Program) (loose : List Str) (mean : ExcName → Option Value) (mg mb : Str → Option Value) (G : Heap → Prop) (f : Value) (d u : Nat) (news : List (Addr × Obj)) (vs : List Value) (post : Value → List (Addr × Obj) → Prop) : Prop :=
  ∀ (dp un : Nat) (gd : Option (List Code)) (cn : Str) (cs : Scope) (a : Addr) (ccd : Value) (cl : List (Str × Addr)) (outer : List Env) (A₀ : Around) (base h₀ : Heap) (L : Addr) (m : Str → Option Value) (s : Shared)
    (Q E : Value → Shared → Prop),
    Below A₀ base outer h₀ → Fr h₀ L s.heap m → K.In h₀ → News h₀ L s.heap news → Top p loose mean mg mb h₀ → cs.kind = .function → G base → dp + d < recursionLimit → un + u < cLine →
    (∀ v news' h' tk', Fr h₀ L h' m → News h₀ L h' news' → post v news' → Q v { s with heap := h', toks := tk' }) →
    wpAny (model prog w) (ktrTop dp un gd cn cs L a ccd cl outer) (call f vs) Q E s

theorem ctr_use {prog : Program} {w : World} {K : Frag} {p : Program} {loose : List Str} {mean : ExcName → Option Value} {mg mb : Str → Option Value} {G : Heap → Prop} {f : Value} {d u : Nat} {news : List (Addr × Obj)} {vs : List Value} {post : Value → List (Addr × Obj) → Prop}
    {dp un : Nat} {gd : Option (List Code)} {cn : Str} {cs : Scope} {a : Addr} {ccd : Value} {cl : List (Str × Addr)} {outer : List Env} {A₀ : Around} {base h₀ h : Heap} {L : Addr} {m : Str → Option Value} {gs : Array GenState} {dn} {os} {t : Nat} {Q E : Value → Shared → Prop}
    (B : Below A₀ base outer h₀) (F : Fr h₀ L h m) (X : K.In h₀) (N : News h₀ L h news) (T : Top p loose mean mg mb h₀) (hk : cs.kind = .function) (hG : G base)
    (C : Ctr prog w K p loose mean mg mb G f d u news vs post) (hd : dp + d < recursionLimit) (hu : un + u < cLine)
    (ret : ∀ v news' h' tk', Fr h₀ L h' m → News h₀ L h' news' → post v news' → Q v ⟨h', gs, dn, tk', os⟩) :
    wpAny (model prog w) (ktrTop dp un gd cn cs L a ccd cl outer) (call f vs) Q E ⟨h, gs, dn, t, os⟩ := C _ _ _ _ _ _ _ _ _ _ _ _ _ _ _ _ _ B F X N T hk hG hd hu ret

theorem room2 {d b c k a : Nat} (h : d + OfNat.ofNat a < k) (e : Nat.ble (b + c) a = true) : d + b + c < k := by
  have := Nat.le_of_ble_eq_true e
  have : d + a < k := h
  omega
theorem room3 {d b c f k a : Nat} (h : d + OfNat.ofNat a < k) (e : Nat.ble (b + c + f) a = true) : d + b + c + f < k := by
  have := Nat.le_of_ble_eq_true e
  have : d + a < k := h
  omega
/-- a fact laid by, that no arithmetic looks at it -/
structure Held (p : Prop) : Prop where
  down : p
/-- a local's store, its state laid flat -/
theorem storeX_Lf {M : Model} {A : Around} {E : Value → Shared → Prop} {h₀ h : Heap} {gs : Array GenState} {dn} {os} {t : Nat} {L a : Addr} {m : Str → Option Value} {cn : Str} {cs : Scope} {ccd : Value} {cl : List (Str × Addr)} {x : Str} {v : Value} {Q : Unit → Shared → Prop} {news : List (Addr × Obj)} (F : Fr h₀ L h m) (N : News h₀ L h news)
    (k : ∀ h' tk', Fr h₀ L h' (fun y => if y = x then some v else m y) → News h₀ L h' news → Q () ⟨h', gs, dn, tk', os⟩)
    (hk : cs.kind = .function := by rfl) (hx : (envX cn cs L a ccd cl).kindOf x = some .local := by rfl) : wpAny M A (storeName (envX cn cs L a ccd cl) x v) Q E ⟨h, gs, dn, t, os⟩ :=
  storeX_L F N (fun h' F' N' => k h' _ F' N') hk hx
def Stop (P : Prop) : Prop := P
theorem stop {P : Prop} (h : Stop P) : P := h

theorem while_inv {prog : Program} {w : World} {A : Around} {env : Env} {test : PySem.Expr} {body orelse : List Stmt} {Q : Flow → Shared → Prop} {E : Value → Shared → Prop} {pos : Pos} (hE : PassesOwn (model prog w) A env E) (I : Nat → Shared → Prop)
    (turn : ∀ n s, I n s → wpAny (model prog w) A (isTrue test env (eval test env)) (fun b s₂ => (if b = true then (wpAny (model prog w) A (execs body env) (fun f s₃ => match f with
      | .next => Stop (∃ k, k < n ∧ I k s₃) | .cont => Stop (∃ k, k < n ∧ I k s₃) | .brk => Q .next s₃ | .ret v => Q (.ret v) s₃) E s₂) else (wpAny (model prog w) A (execs orelse env) Q E s₂))) E s) :
    ∀ n s, I n s → wpAny (model prog w) A (exec (.While test body orelse pos) env) Q E s := by
  have key : ∀ n s, I n s → WhlRest prog w A E env test body orelse Q 0 s := by
    intro n
    induction n using Nat.strongRecOn with
    | ind n ih =>
      intro s hI
      refine whl_turn (k := 0) hE (wpAny_mono (turn n s hI) (fun b s₂ h => ?_) fun _ _ e => e)
      cases b with
      | false =>
        refine WhlIf.no rfl ?_
        rw [if_neg (by decide)] at h
        exact h
      | true =>
        refine WhlIf.yes rfl ?_
        have h' := h
        rw [if_pos rfl] at h'
        refine wpAny_mono h' (fun f s₃ h₃ => ?_) fun _ _ e => e
        cases f with
        | next => obtain ⟨k, hk, hI'⟩ := h₃; exact ih k hk s₃ hI'
        | cont => obtain ⟨k, hk, hI'⟩ := h₃; exact ih k hk s₃ hI'
        | brk => exact h₃
        | ret v => exact h₃
  exact fun n s hI => whl_start 0 (key n s hI)

theorem fr_congr {h₀ h : Heap} {L : Addr} {m m' : Str → Option Value} (F : Fr h₀ L h m) (e : ∀ y, m y = m' y) : Fr h₀ L h m' := by
  have : m = m' := funext e
  exact this ▸ F

theorem news_sub {h₀ h : Heap} {L : Addr} {news news' : List (Addr × Obj)} (N : News h₀ L h news) (hs : ∀ p ∈ news', p ∈ news) : News h₀ L h news' := fun p hp => N p (hs p hp)

theorem canon1 {m m' : Str → Option Value} {x1 : Str} {v1 : Option Value} (h1 : m' x1 = v1) (hr : ∀ y, y ≠ x1 → m' y = m y) : ∀ y, m' y = if y = x1 then v1 else m y := fun y => by
  by_cases e1 : y = x1
  · rw [if_pos e1, e1]; exact h1
  · rw [if_neg e1]; exact hr y e1
theorem canon2 {m m' : Str → Option Value} {x1 x2 : Str} {v1 v2 : Option Value} (h1 : m' x1 = v1) (h2 : m' x2 = v2) (hr : ∀ y, y ≠ x1 → y ≠ x2 → m' y = m y) : ∀ y, m' y = if y = x1 then v1 else if y = x2 then v2 else m y := fun y => by
  by_cases e1 : y = x1
  · rw [if_pos e1, e1]; exact h1
  · rw [if_neg e1]
    by_cases e2 : y = x2
    · rw [if_pos e2, e2]; exact h2
    · rw [if_neg e2]; exact hr y e1 e2
theorem canon3 {m m' : Str → Option Value} {x1 x2 x3 : Str} {v1 v2 v3 : Option Value} (h1 : m' x1 = v1) (h2 : m' x2 = v2) (h3 : m' x3 = v3) (hr : ∀ y, y ≠ x1 → y ≠ x2 → y ≠ x3 → m' y = m y) : ∀ y, m' y = if y = x1 then v1 else if y = x2 then v2 else if y = x3 then v3 else m y := fun y => by
  by_cases e1 : y = x1
  · rw [if_pos e1, e1]; exact h1
  · rw [if_neg e1]
    by_cases e2 : y = x2
    · rw [if_pos e2, e2]; exact h2
    · rw [if_neg e2]
      by_cases e3 : y = x3
      · rw [if_pos e3, e3]; exact h3
      · rw [if_neg e3]; exact hr y e1 e2 e3

/-- where a while's turn ends: a state of the loop's kind, its measure less -/
def WEnd {σ : Type} (h₀ : Heap) (L : Addr) (s : Shared) (mk : σ → Str → Option Value) (led : σ → List (Addr × Obj)) (J : Nat → σ → Prop) (n : Nat) (s₃ : Shared) : Prop :=
  ∃ k c h' tk', s₃ = { s with heap := h', toks := tk' } ∧ Fr h₀ L h' (mk c) ∧ News h₀ L h' (led c) ∧ k < n ∧ J k c

theorem while_st {σ : Type} {prog : Program} {w : World} {A : Around} {env : Env} {test : PySem.Expr} {body orelse : List Stmt} {Q : Flow → Shared → Prop} {E : Value → Shared → Prop} {pos : Pos} {h₀ : Heap} {L : Addr} {s : Shared} {m : Str → Option Value} {c₀ : σ} {n₀ : Nat} {news : List (Addr × Obj)}
    (F : Fr h₀ L s.heap m) (N : News h₀ L s.heap news) (mk : (Str → Option Value) → σ → Str → Option Value) (led : List (Addr × Obj) → σ → List (Addr × Obj)) (J : Nat → σ → Prop) (hE : PassesOwn (model prog w) A env E)
    (hm : ∀ y, m y = mk m c₀ y) (hl : led news c₀ = news) (hJ : J n₀ c₀)
    (turn : ∀ n c h tk, J n c → Fr h₀ L h (mk m c) → News h₀ L h (led news c) → wpAny (model prog w) A (isTrue test env (eval test env)) (fun b s₂ => (if b = true then (wpAny (model prog w) A (execs body env) (fun f s₃ => match f with
      | .next => WEnd h₀ L s (mk m) (led news) J n s₃ | .cont => WEnd h₀ L s (mk m) (led news) J n s₃ | .brk => Q .next s₃ | .ret v => Q (.ret v) s₃) E s₂) else (wpAny (model prog w) A (execs orelse env) Q E s₂))) E { s with heap := h, toks := tk }) :
    wpAny (model prog w) A (exec (.While test body orelse pos) env) Q E s := by
  refine while_inv hE (fun n s' => ∃ c h tk, s' = { s with heap := h, toks := tk } ∧ Fr h₀ L h (mk m c) ∧ News h₀ L h (led news c) ∧ J n c) ?_ n₀ s ⟨c₀, s.heap, s.toks, rfl, fr_congr F hm, hl.symm ▸ N, hJ⟩
  rintro n s' ⟨c, h, tk, rfl, F', N', hJ'⟩
  refine wpAny_mono (turn n c h tk hJ' F' N') (fun b s₂ h₂ => ?_) fun _ _ e => e
  cases b with
  | false => exact h₂
  | true =>
    rw [if_pos rfl] at h₂ ⊢
    refine wpAny_mono h₂ (fun f s₃ h₃ => ?_) fun _ _ e => e
    cases f with
    | next => obtain ⟨k, c, h', tk', e, F, N, hk, hJ⟩ := h₃; exact ⟨k, hk, c, h', tk', e, F, N, hJ⟩
    | cont => obtain ⟨k, c, h', tk', e, F, N, hk, hJ⟩ := h₃; exact ⟨k, hk, c, h', tk', e, F, N, hJ⟩
    | brk => exact h₃
    | ret v => exact h₃

theorem while_stR {σ : Type} {prog : Program} {w : World} {A : Around} {env : Env} {test : PySem.Expr} {body orelse : List Stmt} {Q : Flow → Shared → Prop} {E : Value → Shared → Prop} {pos : Pos} {h₀ : Heap} {L : Addr} {s : Shared} {m : Str → Option Value} {c₀ : σ} {n₀ : Nat} {news : List (Addr × Obj)}
    (F : Fr h₀ L s.heap m) (N : News h₀ L s.heap news) (mk : (Str → Option Value) → σ → Str → Option Value) (led : List (Addr × Obj) → σ → List (Addr × Obj)) (J : Nat → σ → Prop) (hE : PassesOwn (model prog w) A env E)
    (hm : ∀ y, m y = mk m c₀ y) (hl : led news c₀ = news) (hJ : J n₀ c₀)
    (turn : ∀ n c h tk (R : Flow → Shared → Prop), J n c → Fr h₀ L h (mk m c) → News h₀ L h (led news c) → (∀ s₃, WEnd h₀ L s (mk m) (led news) J n s₃ → R .next s₃) → (∀ s₃, WEnd h₀ L s (mk m) (led news) J n s₃ → R .cont s₃) → (∀ s₃, Q .next s₃ → R .brk s₃) → (∀ v s₃, Q (.ret v) s₃ → R (.ret v) s₃) → wpAny (model prog w) A (isTrue test env (eval test env)) (fun b s₂ => (if b = true then (wpAny (model prog w) A (execs body env) R E s₂) else (wpAny (model prog w) A (execs orelse env) Q E s₂))) E { s with heap := h, toks := tk }) :
    wpAny (model prog w) A (exec (.While test body orelse pos) env) Q E s :=
  while_st F N mk led J hE hm hl hJ fun n c h tk hJ F N => turn n c h tk _ hJ F N (fun _ x => x) (fun _ x => x) (fun _ x => x) fun _ _ x => x

theorem news_head {h₀ h : Heap} {L : Addr} {p : Addr × Obj} {news rest : List (Addr × Obj)} (N : News h₀ L h (p :: rest)) (hs : ∀ q ∈ news, q ∈ rest) : News h₀ L h (p :: news) := fun q hq => by
  rcases List.mem_cons.mp hq with rfl | hq
  · exact N _ (.head _)
  · exact N q (.tail _ (hs q hq))

abbrev tup2 (q r : Int) (t u : Tok) : Obj := { cls := .type "tuple", data := .seq #[.int q t, .int r u] }

/-! plain arithmetic -/
theorem fdiv_pos (a : Int) {b : Int} (hb : 0 < b) : a.fdiv b = a / b := Int.fdiv_eq_ediv_of_nonneg a (Int.le_of_lt hb)
theorem fmod_pos (a : Int) {b : Int} (hb : 0 < b) : a.fmod b = a % b := Int.fmod_eq_emod_of_nonneg a (Int.le_of_lt hb)
theorem two_pow_pos (n : Nat) : (0 : Int) < 2 ^ n := Int.pow_pos (by decide)
theorem two_pow_cast (n : Nat) : ((2 ^ n : Nat) : Int) = 2 ^ n := by rw [Int.natCast_pow]; rfl

theorem bitOr_disj {x a : Int} {n : Nat} (hx : 0 ≤ x) (ha : 0 ≤ a) (hlt : a < 2 ^ n) : Builtin.bitOr (x * 2 ^ n) a = x * 2 ^ n + a := by
  have hx' : 0 ≤ x * 2 ^ n := Int.mul_nonneg hx (Int.le_of_lt (two_pow_pos n))
  rw [bitOr_and, bitAnd_pp hx' ha]
  have e : (x * 2 ^ n).toNat &&& a.toNat = 0 := by
    obtain ⟨k, rfl⟩ := Int.eq_ofNat_of_zero_le hx
    obtain ⟨j, rfl⟩ := Int.eq_ofNat_of_zero_le ha
    have hj : j < 2 ^ n := by rw [← two_pow_cast] at hlt; exact Int.ofNat_lt.mp hlt
    have e1 : ((k : Int) * 2 ^ n).toNat = 2 ^ n * k := by rw [← two_pow_cast, ← Int.natCast_mul, Int.toNat_natCast, Nat.mul_comm]
    rw [e1, Int.toNat_natCast]
    have h1 := Nat.two_pow_add_eq_or_of_lt (i := n) hj k
    have h2 := nat_or_add_and (2 ^ n * k) j
    omega
  rw [e]; simp

theorem bitAnd_mask {x : Int} {n : Nat} (hx : 0 ≤ x) : Builtin.bitAnd x (2 ^ n - 1) = x % 2 ^ n := by
  have hp := two_pow_pos n
  have hm : (0 : Int) ≤ 2 ^ n - 1 := by omega
  rw [bitAnd_pp hx hm]
  obtain ⟨k, rfl⟩ := Int.eq_ofNat_of_zero_le hx
  have e1 : ((2 : Int) ^ n - 1).toNat = 2 ^ n - 1 := by rw [← two_pow_cast]; omega
  rw [e1, Int.toNat_natCast, Nat.and_two_pow_sub_one_eq_mod, Int.natCast_emod, two_pow_cast]

theorem bitXor_high {x : Int} {n : Nat} (hx : 0 ≤ x) : Builtin.bitXor x (x / 2 ^ n * 2 ^ n) = x % 2 ^ n := by
  have hp := two_pow_pos n
  have hq : 0 ≤ x / 2 ^ n := Int.ediv_nonneg hx (Int.le_of_lt hp)
  have hr : 0 ≤ x % 2 ^ n := Int.emod_nonneg _ (by omega)
  have hr2 : x % 2 ^ n < 2 ^ n := Int.emod_lt_of_pos _ hp
  have hor := bitOr_disj hq hr hr2
  have hdec : x / 2 ^ n * 2 ^ n + x % 2 ^ n = x := Int.mul_comm (2 ^ n) (x / 2 ^ n) ▸ Int.mul_ediv_add_emod x (2 ^ n)
  rw [hdec] at hor
  rw [bitXor_and]
  have h0 : 0 ≤ x / 2 ^ n * 2 ^ n := Int.mul_nonneg hq (Int.le_of_lt hp)
  have key : Builtin.bitAnd x (x / 2 ^ n * 2 ^ n) = x / 2 ^ n * 2 ^ n := by
    rw [bitAnd_pp hx h0]
    obtain ⟨k, rfl⟩ := Int.eq_ofNat_of_zero_le hx
    have e1 : ((k : Int) / 2 ^ n * 2 ^ n).toNat = 2 ^ n * (k / 2 ^ n) := by
      rw [← two_pow_cast, ← Int.natCast_ediv, ← Int.natCast_mul, Int.toNat_natCast, Nat.mul_comm]
    rw [e1, Int.toNat_natCast]
    have e2 : k &&& 2 ^ n * (k / 2 ^ n) = 2 ^ n * (k / 2 ^ n) := by
      apply Nat.eq_of_testBit_eq
      intro i
      rw [Nat.testBit_and, Nat.testBit_two_pow_mul]
      by_cases hi : n ≤ i
      · simp only [ge_iff_le, hi, decide_true, Bool.true_and]
        rw [Nat.testBit_div_two_pow, Nat.sub_add_cancel hi, Bool.and_self]
      · simp [hi]
    rw [e2, ← two_pow_cast, ← Int.natCast_ediv, ← Int.natCast_mul, Nat.mul_comm]
  rw [key]
  omega

theorem ediv_emod_of {a b q r : Int} (hr : 0 ≤ r) (hlt : r < b) (h : a = q * b + r) : q = a / b ∧ r = a % b := by
  have hb : 0 < b := Int.lt_of_le_of_lt hr hlt
  have := (Int.ediv_emod_unique (a := a) (r := r) (q := q) hb).mpr ⟨by rw [h, Int.mul_comm b q]; omega, hr, hlt⟩
  exact ⟨this.1.symm, this.2.symm⟩
end Mine
end
section
open PySem PySem.W PySem.Spec PySem.Calls PyProof.Rows
set_option maxRecDepth 100000
set_option maxHeartbeats 8000000
namespace Mine
section
variable {prog : Program} {w : World} {A : Around} {E : Value → Shared → Prop} {s : Shared} {h₀ : Heap} {L : Addr} {m : Str → Option Value} {news : List (Addr × Obj)}

theorem foldl_rep (v : Value) : ∀ (k : Nat) (acc : Array Value), (List.foldl (fun x1 x2 => x1 ++ x2) acc (List.replicate k #[v])) = acc ++ (List.replicate k v).toArray
  | 0, acc => by simp
  | k + 1, acc => by
    rw [List.replicate_succ, List.foldl_cons, foldl_rep v k, List.replicate_succ]
    apply Array.toList_inj.mp
    simp

theorem mul_list1 {l : Addr} {v : Value} {e : Nat} {x : Int} {u : Tok} {Q : Value → Shared → Prop} (F : Fr h₀ L s.heap m) (N : News h₀ L s.heap news) (hm : (l, W.listOf [v].toArray e) ∈ news) (h0 : 0 ≤ x) (h1 : x ≤ 2 ^ 24)
    (h : ∀ D h', Fr h₀ L h' m → News h₀ L h' ((D, W.listOf (List.replicate x.toNat v).toArray 0) :: news) → (∀ p ∈ news, p.1 < D) → Q (.ref D) { s with heap := h' }) :
    wpAny (model prog w) A (binaryOp .Mult (.ref l) (.int x u)) Q E s := by
  refine mul_list (items := #[v]) F N (N _ hm).1 (by omega) (by omega) (by simp; omega) fun h' F' N' => ?_
  have e : (if (#[v] : Array Value).isEmpty = true then 0 else x.toNat) = x.toNat := by simp
  rw [e, foldl_rep] at N'
  simp only [Array.empty_append] at N'
  exact h _ h' F' (by simpa using N') fun p hp => Heap.lt_size (N p hp).1

theorem len_at {l : Addr} {vs : List Value} {e : Nat} {Q : Value → Shared → Prop} (N : News h₀ L s.heap news) (hm : (l, W.listOf vs.toArray e) ∈ news) (hfit : vs.length < 2 ^ 62) (h : Q (.int (vs.length : Int) (s.toks + 1)) { s with toks := s.toks + 1 + 1 }) :
    wpAny (model prog w) A (call (.builtin "len") [.ref l]) Q E s :=
  len_list (items := vs.toArray) ⟨_, (N _ hm).1, rfl, e, rfl⟩ (by simp only [List.size_toArray]; omega) (by simpa using h)
theorem truthy_at {l : Addr} {vs : List Value} {e : Nat} {Q : Bool → Shared → Prop} (N : News h₀ L s.heap news) (hm : (l, W.listOf vs.toArray e) ∈ news) (hfit : vs.length < 2 ^ 62) (h : Q (!vs.isEmpty) { s with toks := s.toks + 1 + 1 }) :
    wpAny (model prog w) A (truthy (.ref l)) Q E s :=
  wpAny_truthy_list (items := vs.toArray) ⟨_, (N _ hm).1, rfl, e, rfl⟩ (by simp only [List.size_toArray]; omega) (by simpa using h)

theorem ints_replicate (x : Int) (t : Tok) : ∀ k : Nat, IntsAre (List.replicate k (Value.int x t)) (List.replicate k x)
  | 0 => .nil
  | k + 1 => .cons x t (ints_replicate x t k)

theorem mem1_of {α : Type} {p : α} {r l : List α} (h : l = p :: r) : p ∈ l := h ▸ List.mem_cons_self
theorem mem2_of {α : Type} {a p : α} {r l : List α} (h : l = a :: p :: r) : p ∈ l := h ▸ List.mem_cons_of_mem _ List.mem_cons_self
theorem mem3_of {α : Type} {a b p : α} {r l : List α} (h : l = a :: b :: p :: r) : p ∈ l := by rw [h]; simp
theorem mem4_of {α : Type} {a b c p : α} {r l : List α} (h : l = a :: b :: c :: p :: r) : p ∈ l := by rw [h]; simp
theorem mem5_of {α : Type} {a b c d p : α} {r l : List α} (h : l = a :: b :: c :: d :: p :: r) : p ∈ l := by rw [h]; simp
theorem mem6_of {α : Type} {a b c d e p : α} {r l : List α} (h : l = a :: b :: c :: d :: e :: p :: r) : p ∈ l := by rw [h]; simp

/-- all of the caller's ledger lies below the frame -/
def LowAll (d : Addr) (l : List (Addr × Obj)) : Prop := ∀ p ∈ l, @LT.lt Nat _ p.1 d
theorem LowAll.ne {d e : Addr} {l : List (Addr × Obj)} (h : LowAll d l) (hde : @LE.le Nat _ d e) : ∀ p ∈ l, p.1 ≠ e := fun p hp => Nat.ne_of_lt (Nat.lt_of_lt_of_le (h p hp) hde)
theorem LowAll.of {d : Addr} {l l' : List (Addr × Obj)} (h : ∀ p ∈ l', p.1 < d) (hs : ∀ p ∈ l, p ∈ l') : LowAll d l := fun p hp => h p (hs p hp)
/-- a code's table: its places in triples; each code object that it holds is known, by its qualified name -/
def TabOk (ps : Array Value) (qual : Str) (cs : List (Addr × Obj)) : Prop :=
  TriplesOk ps.toList ∧ ∀ pos cv, codeAmong pos ps.toList = some cv → ∃ c oc vs t, cv = .ref c ∧ (c, oc) ∈ cs ∧ oc.data = .fields vs ∧ vs[1]? = some (.str qual t)
theorem TabOk.nil {qual : Str} {cs : List (Addr × Obj)} : TabOk #[] qual cs := ⟨trivial, fun _ _ h => by simp [codeAmong] at h⟩
theorem TabOk.mono {ps : Array Value} {qual : Str} {cs cs' : List (Addr × Obj)} (h : TabOk ps qual cs) (hs : ∀ p ∈ cs, p ∈ cs') : TabOk ps qual cs' :=
  ⟨h.1, fun pos cv e => let ⟨c, oc, vs, t, a, b, r⟩ := h.2 pos cv e; ⟨c, oc, vs, t, a, hs _ b, r⟩⟩
theorem codeAmong_snoc_inv {pos : Pos} {x y : Int} {c cv : Value} (l : List Value) (h : TriplesOk l) (e : codeAmong pos (l ++ [rawInt x, rawInt y, c]) = some cv) : codeAmong pos l = some cv ∨ cv = c := by
  fun_induction TriplesOk l with
  | case1 =>
    simp only [List.nil_append, codeAmong, rawInt] at e
    split at e
    · exact .inr (Option.some.inj e).symm
    · cases e
  | case2 a t b u x rest ih =>
    simp only [List.cons_append, codeAmong] at e ⊢
    split at e
    · rename_i h1
      rw [if_pos h1]
      exact .inl e
    · rename_i h1
      rw [if_neg h1]
      exact ih h e
  | case3 l h1 h2 => exact h.elim
theorem TabOk.push {ps : Array Value} {qual : Str} {cs : List (Addr × Obj)} {x y : Int} {c : Addr} {oc : Obj} {vs : Array Value} {t : Tok} (h : TabOk ps qual cs) (hd : oc.data = .fields vs) (hv : vs[1]? = some (.str qual t)) :
    TabOk (ps ++ #[rawInt x, rawInt y, .ref c]) qual ((c, oc) :: cs) := by
  have el : (ps ++ #[rawInt x, rawInt y, .ref c]).toList = ps.toList ++ [rawInt x, rawInt y, .ref c] := by simp
  refine ⟨by rw [el]; exact TriplesOk_snoc _ _ _ _ h.1, fun pos cv e => ?_⟩
  rw [el] at e
  rcases codeAmong_snoc_inv _ h.1 e with e | e
  · obtain ⟨c₁, oc₁, vs₁, t₁, a, b, r⟩ := h.2 pos cv e
    exact ⟨c₁, oc₁, vs₁, t₁, a, .tail _ b, r⟩
  · exact ⟨c, oc, vs, t, e, .head _, hd, hv⟩

def OffL (e : Addr) (R : List (Addr × Obj)) : Prop := ∀ p ∈ R, p.1 ≠ e
/-- R' is R and, perhaps, what lies above all of l -/
def GrowL (l R R' : List (Addr × Obj)) : Prop := (∀ p ∈ R, p ∈ R') ∧ ∀ p ∈ R', p ∈ R ∨ ∀ q ∈ l, @LT.lt Nat _ q.1 p.1
theorem GrowL.refl {l R : List (Addr × Obj)} : GrowL l R R := ⟨fun _ h => h, fun _ h => .inl h⟩
theorem OffL.grow {l R R' : List (Addr × Obj)} {e : Addr} (h : OffL e R) (g : GrowL l R R') (he : e ∈ l.map (·.1)) : OffL e R' := fun p hp => by
  rcases g.2 p hp with h1 | h1
  · exact h p h1
  · obtain ⟨q, hq, rfl⟩ := List.mem_map.mp he
    exact Nat.ne_of_gt (h1 q hq)
theorem updF_app {d : Addr} {o : Obj} {l R : List (Addr × Obj)} {g : Obj → List (Addr × Obj)} (U : UpdF d o l g) (h : OffL d R) : UpdF d o (l ++ R) (fun o' => g o' ++ R) := by
  induction U with
  | head h1 => exact .head fun p hp => (List.mem_append.mp hp).elim (h1 p) (h p)
  | tail h1 _ ih => exact .tail h1 ih

section
variable {cn : Str} {cs₀ : Scope} {ccd : Value} {cl : List (Str × Addr)} {a c P : Addr} {mg mb : Str → Option Value} {p : Program} {loose : List Str} {mean : ExcName → Option Value} {name qual : Str} {params : Arguments} {scope : Scope} {ps : Array Value} {pos : Pos} {firstLine : Nat} {clos : List (Str × Addr)}
  {pre R cs : List (Addr × Obj)} {g : Obj → List (Addr × Obj)}
theorem nest_any {body : List Stmt} {Q : Value → Shared → Prop} (F : Fr h₀ L s.heap m) (N : News h₀ L s.heap (pre ++ R)) (T : Top p loose mean mg mb h₀) (C : CodeHd h₀ c P) (hcd : ccd = .ref c) (U : UpdF P (tabObj ps) pre g) (hR : OffL P R) (hT : TabOk ps qual cs) (hcs : ∀ p ∈ cs, p ∈ R)
    (hcl : closureFor scope (envX cn cs₀ L a ccd cl) = pure clos)
    (h : ∀ f c' oc vs t ctv doc h' tk ps' cs' R', Fr h₀ L h' m → News h₀ L h' ((f, fnMade name qual params body scope clos doc ((mg "__name__").getD .none) c' ctv) :: (g (tabObj ps') ++ R')) →
      (c', oc) ∈ cs' → oc.data = .fields vs → vs[1]? = some (.str qual t) → TabOk ps' qual cs' → (∀ p ∈ cs', p ∈ R') → (∀ p ∈ cs, p ∈ cs') → GrowL (pre ++ R) R R' → (∀ p ∈ cs', p ∈ cs ∨ ∀ q ∈ pre ++ R, @LT.lt Nat _ q.1 p.1) → (∀ q ∈ pre, @LT.lt Nat _ q.1 f) → LowAll f R' → Q (.ref f) { s with heap := h', toks := tk }) :
    wpAny (model prog w) A (makeFunction name qual params (.stmts body) scope (envX cn cs₀ L a ccd cl) [] [] [] pos firstLine) Q E s := by
  have hP : (P, tabObj ps) ∈ pre ++ R := by
    obtain ⟨u, v, rfl, _⟩ := U.split
    simp
  cases hf : codeAmong pos ps.toList with
  | none =>
    refine nest_K F N T C hcd (updF_app U hR) hT.1 hf hcl fun f c' oc vs t ctv doc h' tk F' N' d1 d2 l1 l2 => ?_
    refine h f c' oc vs t ctv doc h' tk (ps ++ #[rawInt pos.line, rawInt pos.col, .ref c']) ((c', oc) :: cs) ((c', oc) :: R) F' (fun q hq => N' q ?_) (.head _) d1 d2 (hT.push d1 d2) (fun q hq => ?_) (fun q hq => .tail _ hq) ⟨fun q hq => .tail _ hq, fun q hq => ?_⟩ (fun q hq => ?_) (fun q hq => Nat.lt_trans (l1 q (List.mem_append_left _ hq)) l2) (fun q hq => ?_)
    · simp only [List.mem_cons, List.mem_append] at hq ⊢
      rcases hq with h1 | h1 | h1 | h1 <;> simp [h1]
    · rcases List.mem_cons.mp hq with rfl | hq
      · exact .head _
      · exact .tail _ (hcs q hq)
    · rcases List.mem_cons.mp hq with rfl | hq
      · exact .inr l1
      · exact .inl hq
    · rcases List.mem_cons.mp hq with rfl | hq
      · exact .inr l1
      · exact .inl hq
    · rcases List.mem_cons.mp hq with rfl | hq
      · exact l2
      · exact Nat.lt_trans (l1 q (List.mem_append_right _ hq)) l2
  | some cv =>
    obtain ⟨c', oc, vs, t, rfl, hm, d1, d2⟩ := hT.2 pos cv hf
    refine nestHit_K F N T C hcd hP hT.1 hf hcl fun f ctv doc h' tk F' N' l1 => ?_
    have eg : g (tabObj ps) = pre := by
      obtain ⟨u, v, rfl, hg, _⟩ := U.split
      exact hg _
    exact h f c' oc vs t ctv doc h' tk ps cs R F' (by rw [eg]; exact N') hm d1 d2 hT hcs (fun _ h => h) .refl (fun _ h => .inl h) (fun q hq => l1 q (List.mem_append_left _ hq)) (fun q hq => l1 q (List.mem_append_right _ hq))
theorem lam_any {body : Expr} {Q : Value → Shared → Prop} (F : Fr h₀ L s.heap m) (N : News h₀ L s.heap (pre ++ R)) (T : Top p loose mean mg mb h₀) (C : CodeHd h₀ c P) (hcd : ccd = .ref c) (U : UpdF P (tabObj ps) pre g) (hR : OffL P R) (hT : TabOk ps qual cs) (hcs : ∀ p ∈ cs, p ∈ R)
    (hcl : closureFor scope (envX cn cs₀ L a ccd cl) = pure clos)
    (h : ∀ f c' oc vs t ctv h' tk ps' cs' R', Fr h₀ L h' m → News h₀ L h' ((f, kla_obj name qual params body scope clos ((mg "__name__").getD .none) c' ctv) :: (g (tabObj ps') ++ R')) →
      (c', oc) ∈ cs' → oc.data = .fields vs → vs[1]? = some (.str qual t) → TabOk ps' qual cs' → (∀ p ∈ cs', p ∈ R') → (∀ p ∈ cs, p ∈ cs') → GrowL (pre ++ R) R R' → (∀ p ∈ cs', p ∈ cs ∨ ∀ q ∈ pre ++ R, @LT.lt Nat _ q.1 p.1) → (∀ q ∈ pre, @LT.lt Nat _ q.1 f) → LowAll f R' → Q (.ref f) { s with heap := h', toks := tk }) :
    wpAny (model prog w) A (makeFunction name qual params (.expr body) scope (envX cn cs₀ L a ccd cl) [] [] [] pos firstLine) Q E s := by
  have hP : (P, tabObj ps) ∈ pre ++ R := by
    obtain ⟨u, v, rfl, _⟩ := U.split
    simp
  cases hf : codeAmong pos ps.toList with
  | none =>
    refine kla_nest F N T C hcd (updF_app U hR) hT.1 hf hcl fun f c' oc vs t ctv h' tk F' N' d1 d2 l1 l2 => ?_
    refine h f c' oc vs t ctv h' tk (ps ++ #[rawInt pos.line, rawInt pos.col, .ref c']) ((c', oc) :: cs) ((c', oc) :: R) F' (fun q hq => N' q ?_) (.head _) d1 d2 (hT.push d1 d2) (fun q hq => ?_) (fun q hq => .tail _ hq) ⟨fun q hq => .tail _ hq, fun q hq => ?_⟩ (fun q hq => ?_) (fun q hq => Nat.lt_trans (l1 q (List.mem_append_left _ hq)) l2) (fun q hq => ?_)
    · simp only [List.mem_cons, List.mem_append] at hq ⊢
      rcases hq with h1 | h1 | h1 | h1 <;> simp [h1]
    · rcases List.mem_cons.mp hq with rfl | hq
      · exact .head _
      · exact .tail _ (hcs q hq)
    · rcases List.mem_cons.mp hq with rfl | hq
      · exact .inr l1
      · exact .inl hq
    · rcases List.mem_cons.mp hq with rfl | hq
      · exact .inr l1
      · exact .inl hq
    · rcases List.mem_cons.mp hq with rfl | hq
      · exact l2
      · exact Nat.lt_trans (l1 q (List.mem_append_right _ hq)) l2
  | some cv =>
    obtain ⟨c', oc, vs, t, rfl, hm, d1, d2⟩ := hT.2 pos cv hf
    refine kla_hit F N T C hcd hP hT.1 hf hcl fun f ctv h' tk F' N' l1 => ?_
    have eg : g (tabObj ps) = pre := by
      obtain ⟨u, v, rfl, hg, _⟩ := U.split
      exact hg _
    exact h f c' oc vs t ctv h' tk ps cs R F' (by rw [eg]; exact N') hm d1 d2 hT hcs (fun _ h => h) .refl (fun _ h => .inl h) (fun q hq => l1 q (List.mem_append_left _ hq)) (fun q hq => l1 q (List.mem_append_right _ hq))
end
theorem led_all {P : Prop} {h : Heap} {led : List (Addr × Obj)} (N : News h₀ L h led) (k : ∀ l, l = led → News h₀ L h l → P) : P := k led rfl N
/-- one entry of the ledger ahead, the rest by a name -/
theorem led_front {P : Prop} {h : Heap} {B : List (Addr × Obj)} {q : Addr × Obj} (A : List (Addr × Obj)) (N : News h₀ L h (A ++ q :: B)) (k : ∀ rest, rest = A ++ B → News h₀ L h (q :: rest) → P) : P :=
  k _ rfl fun p hp => N p (by
    rcases List.mem_cons.mp hp with rfl | hp
    · exact List.mem_append_right _ (.head _)
    · rcases List.mem_append.mp hp with hp | hp
      · exact List.mem_append_left _ hp
      · exact List.mem_append_right _ (.tail _ hp))
end
end Mine
end
section
open PySem PySem.W PySem.Spec PySem.Calls PyProof.Rows
set_option maxRecDepth 100000
set_option maxHeartbeats 8000000
namespace Mine
section
variable {prog : Program} {w : World} {A : Around} {E : Value → Shared → Prop} {s : Shared} {h₀ : Heap} {env : Env} {m : Str → Option Value} {news : List (Addr × Obj)} {x : Str} {body : List Stmt} {Q : Flow → Shared → Prop}

theorem ne_of_cls {h₀ h : Heap} {L : Addr} {news : List (Addr × Obj)} {a b : Addr} {o o' : Obj} (N : News h₀ L h news) (ha : (a, o) ∈ news) (hb : (b, o') ∈ news) (hc : o.cls ≠ o'.cls) : @Ne Nat a b := fun e => by
  have h1 := (N _ ha).1
  have h2 := (N _ hb).1
  dsimp only at h1 h2
  rw [e, h2] at h1
  exact hc (congrArg Obj.cls (Option.some.inj h1)).symm
/-- where a for's turn ends: the iterator as it stood, a state of the loop's kind -/
def FEnd {σ : Type} (h₀ : Heap) (L : Addr) (s : Shared) (x : Str) (I : Addr) (it : Obj) (mk : σ → Str → Option Value) (led : σ → List (Addr × Obj)) (Jn : σ → Prop) (s₃ : Shared) : Prop :=
  ∃ c h' tk' m', s₃ = { s with heap := h', toks := tk' } ∧ Fr h₀ L h' m' ∧ (∀ y, y ≠ x → m' y = mk c y) ∧ News h₀ L h' ((I, it) :: led c) ∧ OffL I (led c) ∧ Jn c

theorem loopAt_walk {σ : Type} {I : Addr} {fp : List Addr} {n : Nat} {P : Nat → Value → Prop} {St : Nat → Heap → Prop} {c₀ : σ} (W : Walks prog w A I fp [I] n P St)
    (mk : σ → Str → Option Value) (led : σ → List (Addr × Obj)) (J : Nat → σ → Prop)
    (hfp : ∀ b ∈ fp, b = I ∨ ∃ o, ∀ c, (b, o) ∈ led c) (hI : I ∈ fp) (hI0 : h₀.get? I = none) (hIL : env.locals ≠ I) (hSt : ∀ i h, St i h → ∃ o, h.get? I = some o)
    (hst : St 0 s.heap) (F : Fr h₀ env.locals s.heap m) (N : News h₀ env.locals s.heap (led c₀)) (hoff : OffL I (led c₀)) (hm : ∀ y, y ≠ x → m y = mk c₀ y) (hJ : J 0 c₀)
    (turn : ∀ i v c it h tk, i < n → P i v → J i c → Fr h₀ env.locals h (fun y => if y = x then some v else mk c y) → News h₀ env.locals h ((I, it) :: led c) → OffL I (led c) →
      wpAny (model prog w) A (execs body env) (fun f s₃ => match f with
        | .next => FEnd h₀ env.locals s x I it mk led (J (i + 1)) s₃ | .cont => FEnd h₀ env.locals s x I it mk led (J (i + 1)) s₃ | .brk => Q .next s₃ | .ret v => Q (.ret v) s₃) E { s with heap := h, toks := tk })
    (done : ∀ c u h tk, J n c → Fr h₀ env.locals h (fun y => if y = x then u else mk c y) → News h₀ env.locals h (led c) → Q .next { s with heap := h, toks := tk }) :
    LoopAtV prog w A h₀ env x body Q E (.ref I) s := by
  let J' : Nat → (Str → Option Value) → List (Addr × Obj) → Prop := fun i m₁ news₁ => ∃ c, news₁ = led c ∧ (∀ y, y ≠ x → m₁ y = mk c y) ∧ OffL I (led c) ∧ J i c
  have fpN : ∀ b ∈ fp, b ≠ I → ∃ o, ∀ c, (b, o) ∈ led c := fun b hb hn => (hfp b hb).resolve_left hn
  refine ⟨I, fp, [I], n, P, St, m, led c₀, J', rfl, W, ?_, ?_, ?_, hst, F, N, ⟨c₀, rfl, hm, hoff, hJ⟩, ?_, ?_⟩
  · intro hL
    obtain ⟨o, ho⟩ := fpN _ hL hIL
    exact (N _ (ho c₀)).2.1 rfl
  · intro b hb
    rw [List.mem_singleton.mp hb]
    exact hI0
  · intro p hp hpI
    exact hoff p hp (List.mem_singleton.mp hpI)
  · rintro i v m₁ news₁ s₁ own ⟨h, tk, rfl⟩ hin hP ⟨c, rfl, hmc, hofc, hJc⟩ hofs hown hget hall hst₁ F₁ N₁
    obtain ⟨it, hit⟩ := hSt _ _ hst₁
    have hitm := hall I hI hI0 it hit
    have N₂ : News h₀ env.locals h ((I, it) :: led c) := fun p hp => by
      rcases List.mem_cons.mp hp with rfl | hp
      · exact N₁ _ (List.mem_append_left _ hitm)
      · exact N₁ _ (List.mem_append_right _ hp)
    have F₂ : Fr h₀ env.locals h (fun y => if y = x then some v else mk c y) := fr_congr F₁ fun y => by
      by_cases hy : y = x
      · rw [if_pos hy, if_pos hy]
      · rw [if_neg hy, if_neg hy]; exact hmc y hy
    refine wpAny_mono (turn i v c it h tk hin hP hJc F₂ N₂ hofc) (fun f s₃ h₃ => ?_) fun _ _ e => e
    have conv : FEnd h₀ env.locals s x I it mk led (J (i + 1)) s₃ → LoopStepU h₀ env.locals [I] own (J' (i + 1)) { s with heap := h, toks := tk } .next s₃ := by
      rintro ⟨c', h', tk', m', rfl, F', hm', N', hof', hJ'⟩
      refine ⟨rfl, h', tk', m', led c', rfl, F', fun p hp => ?_, fun p hp hpI => hof' p hp (List.mem_singleton.mp hpI), ⟨c', rfl, hm', hof', hJ'⟩⟩
      rcases List.mem_append.mp hp with hp | hp
      · by_cases hpI : p.1 = I
        · have h1 := hget p hp
          rw [hpI] at h1
          have h2 : (some it : Option Obj) = some p.2 := hit.symm.trans h1
          have : p = (I, it) := Prod.ext hpI (Option.some.inj h2).symm
          rw [this]
          exact N' _ (.head _)
        · obtain ⟨o, ho⟩ := fpN _ (hown p hp) hpI
          have h1 := hget p hp
          have h3 := (N₂ _ (.tail _ (ho c))).1
          have h2 : (some p.2 : Option Obj) = some o := h1.symm.trans h3
          have : p = (p.1, o) := Prod.ext rfl (Option.some.inj h2)
          rw [this]
          exact N' _ (.tail _ (ho c'))
      · exact N' _ (.tail _ hp)
    cases f with
    | ret v => exact .ret h₃
    | brk => exact .brk h₃
    | next => exact .next (conv h₃)
    | cont => exact .cont (conv h₃)
  · rintro h' tk m' news' F' N' _ ⟨c, rfl, hmc, _, hJc⟩
    refine done c (m' x) h' tk hJc (fr_congr F' fun y => ?_) N'
    by_cases hy : y = x
    · rw [if_pos hy, hy]
    · rw [if_neg hy]; exact hmc y hy

/-- a for over a list of the ledger -/
theorem iter_list_st {σ : Type} {l : Addr} {vs : List Value} {e : Nat} {c₀ : σ} (F : Fr h₀ env.locals s.heap m) (N : News h₀ env.locals s.heap news) (hh : A.handled = none)
    (mk : (Str → Option Value) → σ → Str → Option Value) (led : List (Addr × Obj) → σ → List (Addr × Obj)) (J : Nat → σ → Prop) (hl : ∀ c, (l, W.listOf vs.toArray e) ∈ led news c)
    (hl0 : led news c₀ = news) (hm : ∀ y, y ≠ x → m y = mk m c₀ y) (hJ : J 0 c₀)
    (turn : ∀ i v c I it h tk, i < vs.length → vs[i]? = some v → J i c → Fr h₀ env.locals h (fun y => if y = x then some v else mk m c y) → News h₀ env.locals h ((I, it) :: led news c) → OffL I (led news c) → (∀ p ∈ news, @LT.lt Nat _ p.1 I) →
      wpAny (model prog w) A (execs body env) (fun f s₃ => match f with
        | .next => FEnd h₀ env.locals s x I it (mk m) (led news) (J (i + 1)) s₃ | .cont => FEnd h₀ env.locals s x I it (mk m) (led news) (J (i + 1)) s₃ | .brk => Q .next s₃ | .ret v => Q (.ret v) s₃) E { s with heap := h, toks := tk })
    (done : ∀ c u h tk, J vs.length c → Fr h₀ env.locals h (fun y => if y = x then u else mk m c y) → News h₀ env.locals h (led news c) → Q .next { s with heap := h, toks := tk }) :
    wpAny (model prog w) A (pyIter (.ref l)) (fun it s₂ => LoopAtV prog w A h₀ env x body Q E it s₂) E s := by
  have hlm : (l, W.listOf vs.toArray e) ∈ news := hl0 ▸ hl c₀
  have hls : s.heap.IsList l vs.toArray := ⟨_, (N _ hlm).1, rfl, e, rfl⟩
  refine wpAny_pyIter_list hls ?_
  have hlt : ∀ p ∈ news, @LT.lt Nat _ p.1 s.heap.objs.size := fun p hp => Heap.lt_size (N p hp).1
  have hne : l ≠ s.heap.objs.size := Nat.ne_of_lt (hlt _ hlm)
  have W := Walks.list (prog := prog) (w := w) hh s.heap.objs.size l hne vs.toArray
  have hsz : vs.toArray.size = vs.length := by simp
  rw [hsz] at W
  refine loopAt_walk (c₀ := c₀) W (mk m) (led news) J (fun b hb => ?_) (by simp) (next_is_new F) (Nat.ne_of_lt F.ns.lt) (fun i h hs => ?_) ⟨⟨_, Heap.get?_push_size _ rfl, rfl, rfl⟩, hls.at fun o e => Heap.get?_push_of_some _ e⟩ (F.push _)
    (fun p hp => ⟨Heap.get?_push_of_some _ (N p (hl0 ▸ hp)).1, (N p (hl0 ▸ hp)).2⟩) (fun p hp => Nat.ne_of_lt (hlt p (hl0 ▸ hp))) hm hJ (fun i v c it h tk hi hP hJc F' N' ho => turn i v c _ it h tk hi (by simpa using hP) hJc F' N' ho hlt) done
  · simp only [List.mem_cons, List.not_mem_nil, or_false] at hb
    rcases hb with rfl | rfl
    · exact .inl rfl
    · exact .inr ⟨_, hl⟩
  · obtain ⟨o, ho, _⟩ := hs.1
    exact ⟨o, ho⟩

/-- a for over reversed(a list of the ledger) -/
theorem iter_rev_st {σ : Type} {l I : Addr} {vs : List Value} {e : Nat} {c₀ : σ} (F : Fr h₀ env.locals s.heap m) (N : News h₀ env.locals s.heap ((I, revObj l ((vs.length : Int) - 1)) :: news)) (hh : A.handled = none) (hIn : ∀ p ∈ news, @LT.lt Nat _ p.1 I)
    (mk : (Str → Option Value) → σ → Str → Option Value) (led : List (Addr × Obj) → σ → List (Addr × Obj)) (J : Nat → σ → Prop) (hl : ∀ c, (l, W.listOf vs.toArray e) ∈ led news c)
    (hl0 : led news c₀ = news) (hm : ∀ y, y ≠ x → m y = mk m c₀ y) (hJ : J 0 c₀)
    (turn : ∀ i v c it h tk, i < vs.length → vs[vs.length - 1 - i]? = some v → J i c → Fr h₀ env.locals h (fun y => if y = x then some v else mk m c y) → News h₀ env.locals h ((I, it) :: led news c) → OffL I (led news c) →
      wpAny (model prog w) A (execs body env) (fun f s₃ => match f with
        | .next => FEnd h₀ env.locals s x I it (mk m) (led news) (J (i + 1)) s₃ | .cont => FEnd h₀ env.locals s x I it (mk m) (led news) (J (i + 1)) s₃ | .brk => Q .next s₃ | .ret v => Q (.ret v) s₃) E { s with heap := h, toks := tk })
    (done : ∀ c u h tk, J vs.length c → Fr h₀ env.locals h (fun y => if y = x then u else mk m c y) → News h₀ env.locals h (led news c) → Q .next { s with heap := h, toks := tk }) :
    wpAny (model prog w) A (pyIter (.ref I)) (fun it s₂ => LoopAtV prog w A h₀ env x body Q E it s₂) E s := by
  have hlm : (l, W.listOf vs.toArray e) ∈ news := hl0 ▸ hl c₀
  have hls : s.heap.IsList l vs.toArray := ⟨_, (N _ (.tail _ hlm)).1, rfl, e, rfl⟩
  have hIx := N _ (List.mem_cons_self ..)
  have hit : s.heap.IsRevIter I l ((vs.length : Int) - 1) := ⟨_, hIx.1, rfl, rfl⟩
  refine wpAny_pyIter_revIter hit ?_
  have hne : l ≠ I := Nat.ne_of_lt (hIn _ hlm)
  have W := Walks.listRev (prog := prog) (w := w) hh I l hne vs.toArray
  have hsz : vs.toArray.size = vs.length := by simp
  rw [hsz] at W
  refine loopAt_walk (c₀ := c₀) W (mk m) (led news) J (fun b hb => ?_) (by simp) hIx.2.2 (Ne.symm hIx.2.1) (fun i h hs => ?_) ⟨Nat.zero_le _, by simpa using hit, hls⟩ F
    (fun p hp => N p (.tail _ (hl0 ▸ hp))) (fun p hp => Nat.ne_of_lt (hIn p (hl0 ▸ hp))) hm hJ (fun i v c it h tk hi hP hJc F' N' ho => turn i v c it h tk hi (by simpa using hP) hJc F' N' ho) done
  · simp only [List.mem_cons, List.not_mem_nil, or_false] at hb
    rcases hb with rfl | rfl
    · exact .inl rfl
    · exact .inr ⟨_, hl⟩
  · obtain ⟨o, ho, _⟩ := hs.2.1
    exact ⟨o, ho⟩

/-- a for over a range by ones of the ledger -/
theorem iter_range_st {σ : Type} {r : Addr} {a b : Int} {t u v : Tok} {n : Nat} {c₀ : σ} (F : Fr h₀ env.locals s.heap m) (N : News h₀ env.locals s.heap news) (hh : A.handled = none) (hr : IsRange s.heap r a b 1 t u v) (hsmall : Builtin.Range.small a b 1 = true) (hn : Builtin.Range.rangeSize a b 1 = (n : Int))
    (mk : (Str → Option Value) → σ → Str → Option Value) (led : List (Addr × Obj) → σ → List (Addr × Obj)) (J : Nat → σ → Prop)
    (hl0 : led news c₀ = news) (hm : ∀ y, y ≠ x → m y = mk m c₀ y) (hJ : J 0 c₀)
    (turn : ∀ (i : Nat) (t : Tok) (c : σ) I it h tk, i < n → J i c → Fr h₀ env.locals h (fun y => if y = x then some (.int (a + i) t) else mk m c y) → News h₀ env.locals h ((I, it) :: led news c) → OffL I (led news c) → (∀ p ∈ news, @LT.lt Nat _ p.1 I) →
      wpAny (model prog w) A (execs body env) (fun f s₃ => match f with
        | .next => FEnd h₀ env.locals s x I it (mk m) (led news) (J (i + 1)) s₃ | .cont => FEnd h₀ env.locals s x I it (mk m) (led news) (J (i + 1)) s₃ | .brk => Q .next s₃ | .ret v => Q (.ret v) s₃) E { s with heap := h, toks := tk })
    (done : ∀ c u h tk, J n c → Fr h₀ env.locals h (fun y => if y = x then u else mk m c y) → News h₀ env.locals h (led news c) → Q .next { s with heap := h, toks := tk }) :
    wpAny (model prog w) A (pyIter (.ref r)) (fun it s₂ => LoopAtV prog w A h₀ env x body Q E it s₂) E s := by
  refine wpAny_pyIter_range hr hsmall ?_
  have hlt : ∀ p ∈ news, @LT.lt Nat _ p.1 s.heap.objs.size := fun p hp => Heap.lt_size (N p hp).1
  have W : Walks prog w A s.heap.objs.size [s.heap.objs.size] [s.heap.objs.size] n (fun i v => i < n ∧ ∃ t, v = .int (a + i * 1) t)
      (fun i h => IsRangeIter h s.heap.objs.size (a + (i : Nat) * 1) ((n : Int) - (i : Nat)) 1) := (Walks.range hh _ a 1 n).bound
  refine loopAt_walk (c₀ := c₀) W (mk m) (led news) J (fun b hb => .inl (by simpa using hb)) (by simp) (next_is_new F) (Nat.ne_of_lt F.ns.lt) (fun i h hs => ⟨_, hs⟩) (by show IsRangeIter _ _ _ _ _; rw [hn]; simpa using Heap.get?_push_size _ rfl) (F.push _)
    (fun p hp => ⟨Heap.get?_push_of_some _ (N p (hl0 ▸ hp)).1, (N p (hl0 ▸ hp)).2⟩) (fun p hp => Nat.ne_of_lt (hlt p (hl0 ▸ hp))) hm hJ (fun i v c it h tk hi hP hJc F' N' ho => ?_) done
  obtain ⟨_, t, rfl⟩ := hP
  rw [Int.mul_one] at F' 
  exact turn i t c _ it h tk hi hJc F' N' ho hlt
end
end Mine
end
section
open PySem PySem.W PySem.Spec PySem.Calls PyProof.Rows
set_option maxRecDepth 100000
set_option maxHeartbeats 8000000
namespace Mine
/-- A contract of a call with keywords -/
def CtrK (prog : Program) (w : World) (K : Frag) (p : Program) (loose : List Str) (mean : ExcName → Option Value) (mg mb : Str → Option Value) (G : Heap → Prop) (f : Value) (d u : Nat) (news : List (Addr × Obj)) (vs : List Value) (kw : List (Str × Value)) (post : Value → List (Addr × Obj) → Prop) : Prop :=
  ∀ (dp un : Nat) (gd : Option (List Code)) (cn : Str) (cs : Scope) (a : Addr) (ccd : Value) (cl : List (Str × Addr)) (outer : List Env) (A₀ : Around) (base h₀ : Heap) (L : Addr) (m : Str → Option Value) (s : Shared)
    (Q E : Value → Shared → Prop),
    Below A₀ base outer h₀ → Fr h₀ L s.heap m → K.In h₀ → News h₀ L s.heap news → Top p loose mean mg mb h₀ → cs.kind = .function → G base → dp + d < recursionLimit → un + u < cLine →
    (∀ v news' h' tk', Fr h₀ L h' m → News h₀ L h' news' → post v news' → Q v { s with heap := h', toks := tk' }) →
    wpAny (model prog w) (ktrTop dp un gd cn cs L a ccd cl outer) (call f vs kw) Q E s
theorem ctrk_use {prog : Program} {w : World} {K : Frag} {p : Program} {loose : List Str} {mean : ExcName → Option Value} {mg mb : Str → Option Value} {G : Heap → Prop} {f : Value} {d u : Nat} {news : List (Addr × Obj)} {vs : List Value} {kw : List (Str × Value)} {post : Value → List (Addr × Obj) → Prop}
    {dp un : Nat} {gd : Option (List Code)} {cn : Str} {cs : Scope} {a : Addr} {ccd : Value} {cl : List (Str × Addr)} {outer : List Env} {A₀ : Around} {base h₀ h : Heap} {L : Addr} {m : Str → Option Value} {gs : Array GenState} {dn} {os} {t : Nat} {Q E : Value → Shared → Prop}
    (B : Below A₀ base outer h₀) (F : Fr h₀ L h m) (X : K.In h₀) (N : News h₀ L h news) (T : Top p loose mean mg mb h₀) (hk : cs.kind = .function) (hG : G base)
    (C : CtrK prog w K p loose mean mg mb G f d u news vs kw post) (hd : dp + d < recursionLimit) (hu : un + u < cLine)
    (ret : ∀ v news' h' tk', Fr h₀ L h' m → News h₀ L h' news' → post v news' → Q v ⟨h', gs, dn, tk', os⟩) :
    wpAny (model prog w) (ktrTop dp un gd cn cs L a ccd cl outer) (call f vs kw) Q E ⟨h, gs, dn, t, os⟩ := C _ _ _ _ _ _ _ _ _ _ _ _ _ _ _ _ _ B F X N T hk hG hd hu ret
end Mine
end
section
open PySem PySem.W PySem.Spec PySem.Calls PyProof.Rows
set_option maxRecDepth 100000
set_option maxHeartbeats 8000000
namespace Mine
section
variable {prog : Program} {w : World} {A₀ A : Around} {s : Shared} {base h₀ g₀ g : Heap} {outer : List Env} {L : Addr} {m : Str → Option Value} {env : Env} {news : List (Addr × Obj)} {K : Frag} {p : Program} {loose : List Str} {mean : ExcName → Option Value} {mg mb : Str → Option Value}
  {R : Result → Shared → Prop} {name qual : Str} {params : Arguments} {body : List Stmt} {scope : Scope} {dV kV doc pm cdv ct oc : Value} {an od : Option Addr} {osl : Array (Option Value)} {f : Addr} {args : Args} {binds : List (Str × Value)}
/-- the frames of a stack -/
abbrev fsOf (l : List Env) : List Addr := l.filterMap (·.frame)
theorem fs_mem {b : Addr} (hf : env.frame = some L) (hm : b ∈ fsOf (env :: outer)) : b = L ∨ b ∈ fsOf outer := by
  obtain ⟨e, he, hb⟩ := List.mem_filterMap.mp hm
  rcases List.mem_cons.mp he with rfl | he
  · exact .inl (Option.some.inj (hb.symm.trans hf))
  · exact .inr (List.mem_filterMap.mpr ⟨e, he, hb⟩)
/-- from where a callee leaves its own ground, turned perhaps, back to the caller's -/
theorem backS {v : Value} {s' : Shared} (B : Below A₀ base outer h₀) (FG : Fr h₀ L g m) (XB : K.In base) (TB : Top p loose mean mg mb base) (D : KtsDicts (fsOf outer) h₀) (T0 : KtsTurn (fsOf outer) g₀ h₀) (hf : env.frame = some L)
    (hl : LeaveS (fsOf (env :: outer)) A₀ base outer K p loose mean mg mb g₀ h₀ L m g R v s') : R (.ok (.ret v)) s' := by
  have nL₀ : h₀.get? L = none := kts_self FG
  have st := FG.keep
  obtain ⟨oL, es, ep, hLg, hLd, hLk, hLf⟩ := FG.ns
  rcases hl with ⟨L', m', news', F', N', k⟩ | ⟨g', L', m', news', T', F', N', k⟩
  · refine k ⟨⟨oL, es, ep, F'.keep _ _ hLg, hLd, hLk, hLf⟩, fun b o e => F'.keep b o (st b o e), FG.above⟩ fun p hp => ⟨(N' p hp).1, fun q => ?_, ?_⟩
    · have := (N' p hp).2.2; rw [q, hLg] at this; cases this
    · cases q : h₀.get? p.1 with
      | none => rfl
      | some o => have := (N' p hp).2.2; rw [st _ _ q] at this; cases this
  obtain ⟨sl, hs⟩ := T'.up hLg
  obtain ⟨T₁, S₁⟩ := kts_turn_at (h := s'.heap) (fs := fsOf outer) (g := h₀)
    (fun b hb => by
      obtain ⟨_, o, ho', _⟩ := B.frames.mem hb
      exact ⟨o, ho'⟩)
    (fun b o e nmem => F'.keep b o (T'.other b o (st b o e) (fun q => by
      rcases fs_mem hf q with z | z
      · rw [z, nL₀] at e
        cases e
      · exact nmem z)))
    (fun b o e hm => by
      obtain ⟨sl', hs'⟩ := T'.up (st b o e)
      exact ⟨sl', F'.keep _ _ hs'⟩)
  have B₃ : Below A₀ base outer (ktsHeap s'.heap (fsOf outer) h₀) := ⟨B.stack, fun b o e => T₁.other b o (B.stays b o e) (fun hm => by
    rw [(B.frames.mem hm).1] at e
    cases e), B.frames.of_keeps fun b o e _ => by
    obtain ⟨sl', hs'⟩ := T₁.up e
    exact ⟨_, hs', rfl⟩⟩
  refine k _ (T0.trans T₁) ⟨⟨_, es, ep, F'.keep _ _ hs, hLd, hLk, hLf⟩, S₁, by rw [T₁.size]; exact FG.above⟩ (fun p hp => ⟨(N' p hp).1, fun q => ?_, ?_⟩) B₃ (XB.keeps B₃.stays) (TB.keeps B₃.stays) (D.turn T₁)
  · have := (N' p hp).2.2; rw [q, hs] at this; cases this
  · refine T₁.none_ _ ?_
    cases q : h₀.get? p.1 with
    | none => rfl
    | some o =>
      obtain ⟨sl', hs'⟩ := T'.up (st _ _ q)
      have := (N' p hp).2.2
      rw [hs'] at this
      cases this
theorem dictsG (FG : Fr h₀ L g m) (D : KtsDicts (fsOf outer) h₀) (hf : env.frame = some L) : KtsDicts (fsOf (env :: outer)) g := fun b hb => by
  rcases fs_mem hf hb with rfl | hb
  · obtain ⟨oL, es, ep, hLg, hLd, _⟩ := FG.ns
    exact ⟨oL, es, ep, hLg, hLd⟩
  · obtain ⟨o, es', n', ho', hd'⟩ := D b hb
    exact ⟨o, es', n', FG.keep b o ho', hd'⟩
/-- a plain def entered from any frame, in a stack that may turn -/
theorem code_defSX (B : Below A₀ base outer h₀) (F : Fr h₀ L s.heap m) (X₀ : K.In h₀) (N : News h₀ L s.heap news) (T : Top p loose mean mg mb h₀) (XB : K.In base) (TB : Top p loose mean mg mb base) (D : KtsDicts (fsOf outer) h₀) (T0 : KtsTurn (fsOf outer) g₀ h₀)
    (hA : A.frames = some (env :: outer)) (hf : env.frame = some L) (hke : env.scope.kind = .function)
    (ho : K.lookup f = some ⟨oc, od, .func (fnOf name qual params body scope dV kV doc pm an cdv ct), osl⟩) (hcd : codeIn K cdv qual = true) (hroom : A.depth < recursionLimit)
    (hbind : BindsTo s (fnOf name qual params body scope dV kV doc pm an cdv ct) args binds) (hloc : ∀ y ∈ binds, scope.names.lookup y.1 = some .local)
    (h : ∀ g L' h₁, Fr h₀ L g m → Fr g L' h₁ (fun y => binds.reverse.lookup y) → News g L' h₁ news → Below A base (env :: outer) g → K.In g → Top p loose mean mg mb g → KtsDicts (fsOf (env :: outer)) g →
      wpAny (model prog w) (A.deeper (envOf qual scope L' f cdv)) (execs body (envOf qual scope L' f cdv))
        (fun fl s' => LeaveS (fsOf (env :: outer)) A₀ base outer K p loose mean mg mb g₀ h₀ L m g R (match fl with | .ret v => v | _ => .none) s')
        (fun e s' => wpAny (model prog w) (A.deeper (envOf qual scope L' f cdv)) (leaving (envOf qual scope L' f cdv) e) (fun _ s'' => R (.error e) s'') (fun e' s'' => R (.error e') s'') s')
        { s with heap := h₁, toks := s.toks + binds.length })
    (hco : scope.isCoroutine = false) (hgen : scope.isGenerator = false) (hk : scope.kind = .function)
    (hcell : ∀ x ∈ scope.names, x.2 ≠ .cell) : codeAny (model prog w) A (.call (.ref f) args) R s := by
  have X := X₀.keeps F.keep
  obtain ⟨FG, BG, st, _⟩ := groundX (R := R) B F N hA hf hke
  refine codeAny_call_def (fd := fnOf name qual params body scope dV kV doc pm an cdv ct) (body := body) (binds := binds) hroom (X _ _ ho) rfl (T.nolimit.keeps F.keep) (codeRec_of X hcd) rfl hbind hcell hloc (fun h₁ hns hk₁ => ?_) hco hgen hk
  exact wpAny_mono (h _ s.heap.objs.size h₁ FG ⟨hns, fun b o e => hk₁ b o (of_hideAll _ e), Nat.le_of_eq (hideAll_size _ _)⟩
    (fun p hp => ⟨hk₁ _ _ (N p hp).1, Nat.ne_of_lt (Heap.lt_size (N p hp).1), hideAll_none _ (List.mem_map_of_mem hp)⟩) BG (X₀.keeps st) (T.keeps st) (dictsG FG D hf)) (fun fl s' hl => backS B FG XB TB D T0 hf hl) fun _ _ y => y
end
/-- A contract of a call behind which the stack may have turned: a new ground is handed back. -/
def CtrS (prog : Program) (w : World) (K : Frag) (p : Program) (loose : List Str) (mean : ExcName → Option Value) (mg mb : Str → Option Value) (G : Heap → Prop) (f : Value) (d u : Nat) (news : List (Addr × Obj)) (vs : List Value) (post : Value → List (Addr × Obj) → Prop) : Prop :=
  ∀ (dp un : Nat) (gd : Option (List Code)) (cn : Str) (cs : Scope) (a : Addr) (ccd : Value) (cl : List (Str × Addr)) (outer : List Env) (A₀ : Around) (base h₀ g₀ : Heap) (L : Addr) (m : Str → Option Value) (s : Shared)
    (Q E : Value → Shared → Prop),
    Below A₀ base outer h₀ → Fr h₀ L s.heap m → K.In h₀ → News h₀ L s.heap news → Top p loose mean mg mb h₀ → cs.kind = .function → G base → K.In base → Top p loose mean mg mb base → KtsDicts (fsOf outer) h₀ → KtsTurn (fsOf outer) g₀ h₀ → dp + d < recursionLimit → un + u < cLine →
    (∀ v news' h' tk' h₁, KtsTurn (fsOf outer) g₀ h₁ → Fr h₁ L h' m → News h₁ L h' news' → Below A₀ base outer h₁ → K.In h₁ → Top p loose mean mg mb h₁ → KtsDicts (fsOf outer) h₁ → post v news' → Q v { s with heap := h', toks := tk' }) →
    wpAny (model prog w) (ktrTop dp un gd cn cs L a ccd cl outer) (call f vs) Q E s
theorem ctrs_use {prog : Program} {w : World} {K : Frag} {p : Program} {loose : List Str} {mean : ExcName → Option Value} {mg mb : Str → Option Value} {G : Heap → Prop} {f : Value} {d u : Nat} {news : List (Addr × Obj)} {vs : List Value} {post : Value → List (Addr × Obj) → Prop}
    {dp un : Nat} {gd : Option (List Code)} {cn : Str} {cs : Scope} {a : Addr} {ccd : Value} {cl : List (Str × Addr)} {outer : List Env} {A₀ : Around} {base h₀ g₀ h : Heap} {L : Addr} {m : Str → Option Value} {gs : Array GenState} {dn} {os} {t : Nat} {Q E : Value → Shared → Prop}
    (B : Below A₀ base outer h₀) (F : Fr h₀ L h m) (X : K.In h₀) (N : News h₀ L h news) (T : Top p loose mean mg mb h₀) (hk : cs.kind = .function) (hG : G base) (XB : K.In base) (TB : Top p loose mean mg mb base) (D : KtsDicts (fsOf outer) h₀) (T0 : KtsTurn (fsOf outer) g₀ h₀)
    (C : CtrS prog w K p loose mean mg mb G f d u news vs post) (hd : dp + d < recursionLimit) (hu : un + u < cLine)
    (ret : ∀ v news' h' tk' h₁, KtsTurn (fsOf outer) g₀ h₁ → Fr h₁ L h' m → News h₁ L h' news' → Below A₀ base outer h₁ → K.In h₁ → Top p loose mean mg mb h₁ → KtsDicts (fsOf outer) h₁ → post v news' → Q v ⟨h', gs, dn, tk', os⟩) :
    wpAny (model prog w) (ktrTop dp un gd cn cs L a ccd cl outer) (call f vs) Q E ⟨h, gs, dn, t, os⟩ := C _ _ _ _ _ _ _ _ _ _ _ _ _ _ _ _ _ _ B F X N T hk hG XB TB D T0 hd hu ret
end Mine
end
section
open PySem PySem.W PySem.Spec PySem.Calls PyProof.Rows
set_option maxRecDepth 100000
set_option maxHeartbeats 8000000
namespace Mine
section
variable {prog : Program} {w : World} {A : Around} {E : Value → Shared → Prop} {s : Shared} {env : Env}
/-- «raise ZeroDivisionError»: the error that is made bears no words -/
theorem raise_zero {x : Str} {np pos : Pos} {Q : Flow → Shared → Prop} (hh : A.handled = none)
    (hx : wpAny (model prog w) A (eval (.Name x np) env) (fun v s₁ => v = .type "ZeroDivisionError" ∧ s₁ = s) E s)
    (h : ∀ h' e, Heap.MadeExc s.heap h' e "ZeroDivisionError" [] → E (.ref e) { s with heap := h' }) :
    wpAny (model prog w) A (exec (.Raise (some (.Name x np)) none pos) env) Q E s := by
  have cls := excClass_ZeroDivisionError
  show wpAny (model prog w) A (do standAt pos; raiseStmt env (some (do let v ← eval (.Name x np) env; standAt pos; pure v)) none) Q E s
  refine wpAny_bind (wpAny_standAt ?_)
  unfold raiseStmt
  dsimp only
  refine wpAny_bind (wpAny_bind (wpAny_mono hx (fun v s₁ h₁ => wpAny_bind (wpAny_standAt (wpAny_pure ?_))) fun _ _ e => e))
  obtain ⟨rfl, hs₁⟩ := h₁
  subst s₁
  refine wpAny_bind (wpAny_pure ?_)
  dsimp only
  refine wpAny_bind (wpAny_holding ?_)
  unfold excFromValue isExcClass
  refine wpAny_bind (wpAny_bind (wpAny_pure ?_))
  simp only [if_true]
  rw [cls.base]
  refine wpAny_pure ?_
  simp only [if_true]
  obtain ⟨hp, g, d, tk, os⟩ := s
  refine wpAny_bind (wpAny_call_exc PySem.F.excCall_ZeroDivisionError (fun h' e hn => ?_))
  obtain ⟨t, he, _⟩ := hn.there
  have hT : Shared.TypeIs ⟨h', g, d, tk, os⟩ (.ref e) "ZeroDivisionError" := (show ∃ o, h'.get? e = some o ∧ o.cls = .type "ZeroDivisionError" from ⟨_, he, rfl⟩)
  refine wpAny_bind (wpAny_isInstance hT cls.base ?_)
  simp only [Bool.not_true, Bool.false_eq_true, if_false]
  refine wpAny_pure ?_
  refine wpAny_bind (m := isType (.type "ZeroDivisionError")) (wpAny_pure ?_)
  simp only [if_true]
  refine wpAny_bind (wpAny_holding ?_)
  unfold raisedFor
  refine wpAny_bind (wpAny_typeOf hT ?_)
  refine wpAny_bind (call_issubclass (issubclass_self cls cls.self) ?_)
  dsimp only [wants]
  refine wpAny_bind (wpAny_truthy_bool ?_)
  simp only [if_true]
  refine wpAny_pure ?_
  unfold setFlight raiseNew
  refine wpAny_bind (wpAny_bind (wpAny_field (i := 1) (x := Value.none) he rfl rfl ?_))
  rw [if_neg (by decide)]
  refine wpAny_pure (wpAny_bind (wpAny_handled ?_))
  rw [hh]
  exact wpAny_bind (wpAny_pure (wpAny_throw (h h' e hn)))
end
theorem news_join {h₀ h : Heap} {L : Addr} {news newsE : List (Addr × Obj)} {p q : Addr × Obj} (N : News h₀ L h news) (NE : News h₀ L h newsE) (hp : p ∈ newsE) (hq : q ∈ newsE) : News h₀ L h (p :: q :: news) := fun x hx => by
  rcases List.mem_cons.mp hx with rfl | hx
  · exact NE _ hp
  · rcases List.mem_cons.mp hx with rfl | hx
    · exact NE _ hq
    · exact N _ hx
end Mine
end
section
open PySem PySem.W PySem.Spec PySem.Calls PyProof.Rows
set_option maxRecDepth 100000
set_option maxHeartbeats 8000000
namespace Mine
section
variable {prog : Program} {w : World} {A₀ A : Around} {s : Shared} {base h₀ g₀ g : Heap} {outer : List Env} {L : Addr} {m : Str → Option Value} {env : Env} {news : List (Addr × Obj)} {K : Frag} {p : Program} {loose : List Str} {mean : ExcName → Option Value} {mg mb : Str → Option Value}
  {R : Result → Shared → Prop} {name qual : Str} {params : Arguments} {body : List Stmt} {scope : Scope} {dV kV doc pm cdv ct oc : Value} {an od : Option Addr} {osl : Array (Option Value)} {f : Addr} {args : Args} {binds : List (Str × Value)}
/-- a def with cells entered from any frame, in a stack that may turn -/
theorem code_defSC (B : Below A₀ base outer h₀) (F : Fr h₀ L s.heap m) (X₀ : K.In h₀) (N : News h₀ L s.heap news) (T : Top p loose mean mg mb h₀) (XB : K.In base) (TB : Top p loose mean mg mb base) (D : KtsDicts (fsOf outer) h₀) (T0 : KtsTurn (fsOf outer) g₀ h₀)
    (hA : A.frames = some (env :: outer)) (hf : env.frame = some L) (hke : env.scope.kind = .function)
    (ho : K.lookup f = some ⟨oc, od, .func (fnOf name qual params body scope dV kV doc pm an cdv ct), osl⟩) (hcd : codeIn K cdv qual = true) (hroom : A.depth < recursionLimit)
    (hbind : BindsTo s (fnOf name qual params body scope dV kV doc pm an cdv ct) args binds) (hkind : (binds.all fun y => scope.names.lookup y.1 == some .local || scope.names.lookup y.1 == some .cell) = true)
    (hnd : ((cellsFrom 0 scope.names []).map (·.1)).Nodup)
    (h : ∀ g L' h₁ tk cells, Fr h₀ L g m → Fr g L' h₁ (bindL (envOfC qual scope L' f cdv).kindOf binds fun _ => none) → News g L' h₁ (cells ++ news) →
      CellsAre (bindC (envOfC qual scope L' f cdv).kindOf binds fun _ => none) (cellsFrom (L' + 1) scope.names []) cells → Below A base (env :: outer) g → K.In g → Top p loose mean mg mb g → KtsDicts (fsOf (env :: outer)) g → (∀ p ∈ news, p.1 < L') →
      wpAny (model prog w) (A.deeper (envOfC qual scope L' f cdv)) (execs body (envOfC qual scope L' f cdv))
        (fun fl s' => LeaveS (fsOf (env :: outer)) A₀ base outer K p loose mean mg mb g₀ h₀ L m g R (match fl with | .ret v => v | _ => .none) s')
        (fun e s' => wpAny (model prog w) (A.deeper (envOfC qual scope L' f cdv)) (leaving (envOfC qual scope L' f cdv) e) (fun _ s'' => R (.error e) s'') (fun e' s'' => R (.error e') s'') s')
        { s with heap := h₁, toks := tk })
    (hco : scope.isCoroutine = false) (hgen : scope.isGenerator = false) (hk : scope.kind = .function) : codeAny (model prog w) A (.call (.ref f) args) R s := by
  have X := X₀.keeps F.keep
  obtain ⟨FG, BG, st, _⟩ := groundX (R := R) B F N hA hf hke
  refine codeAny_call_function hroom (X _ _ ho) rfl hco hgen rfl (codeRec_of X hcd) (hbind _ _ _ _ ?_)
  refine wpAny_newFunctionEnv_cells hk (kindsX hkind _) fun env' he s' x => ?_
  subst he
  refine ⟨(T.nolimit.keeps F.keep).keeps x.toInCall.keep, codeAny_func ?_⟩
  obtain ⟨h₁, tk, rfl, _⟩ := x.done
  have hk₁ := x.toInCall.keep
  obtain ⟨cells, NC, Y⟩ := Cl.news (h₀ := s.heap) (Nat.le_refl _) fun n c hm => ⟨x.cell n c (lookup_of_mem_nodup (cellsFrom_names scope.names 0 (s.heap.objs.size + 1) [] [] rfl ▸ hnd) hm), x.above n c hm⟩
  refine wpAny_mono (h _ s.heap.objs.size h₁ tk cells FG ⟨x.toInCall.ns, fun b o e => hk₁ b o (of_hideAll _ e), Nat.le_of_eq (hideAll_size _ _)⟩ (fun q hq => ?_) Y BG (X₀.keeps st) (T.keeps st) (dictsG FG D hf) (fun q hq => Heap.lt_size (N q hq).1)) (fun fl s' hl => backS B FG XB TB D T0 hf hl) fun _ _ y => y
  rcases List.mem_append.mp hq with hq | hq
  · have hq' := NC q hq
    refine ⟨hq'.1, hq'.2.1, ?_⟩
    cases e : (hideAll s.heap (news.map (·.1))).get? q.1 with
    | none => rfl
    | some o => exact absurd (of_hideAll _ e) (by rw [hq'.2.2]; exact fun z => nomatch z)
  · exact ⟨hk₁ _ _ (N q hq).1, Nat.ne_of_lt (Heap.lt_size (N q hq).1), hideAll_none _ (List.mem_map_of_mem hq)⟩
end
end Mine
end
section
open PySem PySem.W PySem.Spec PySem.Calls PyProof.Rows PyProof.Rows.LCg PyProof.Rows.LCt PyProof.Rows.LCp
set_option maxRecDepth 100000
set_option maxHeartbeats 8000000
namespace Mine
section
variable {prog : Program} {w : World} {A : Around} {s : Shared} {h₀ : Heap} {L : Addr} {m : Str → Option Value} {env : Env}
theorem compEnd_mono {I C D : Addr} {s₁ s₂ : Shared} {oI oC oD : Obj} {S : List (Addr × Obj) → Prop} {rest rest' : Value → List (Addr × Obj) → Prop} {y : Value} (hr : ∀ l, rest y l → rest' y l)
    (h : CompEnd h₀ L m s₁ I oI C oC D oD S rest y s₂) : CompEnd h₀ L m s₁ I oI C oC D oD S rest' y s₂ := by
  obtain ⟨h', tk, n', a, b, c, d, e, f⟩ := h
  exact ⟨h', tk, n', a, b, c, d, e, hr _ f⟩
/-- a comprehension by what holds of its items so far -/
theorem compU_st {elt : Expr} {x : Str} {scope : Scope} {cl : List (Str × Addr)} {S : List (Addr × Obj) → Prop} {P : Nat → Value → Prop} {Fin : List Value → List (Addr × Obj) → Prop} {n : Nat} (J : Nat → List Value → List (Addr × Obj) → Prop)
    (turn : ∀ i ys news v I oI C oC D m₂ h tk (E' : Value → Shared → Prop), i < n → J i ys news → P i v → NsObj oC m₂ → m₂ x = some v → Fr h₀ L h m → News h₀ L h ((I, oI) :: (C, oC) :: (D, lst ys) :: news) → Off3 I C D news → ((@Ne Nat I C) ∧ (@Ne Nat I D) ∧ (@Ne Nat C D)) →
      wpAny (model prog w) A (eval elt (compEnvC scope cl C env)) (CompEnd h₀ L m { s with heap := h, toks := tk } I oI C oC D (lst ys) S (fun y news' => J (i + 1) (ys ++ [y]) news')) E' { s with heap := h, toks := tk })
    (fin : ∀ ys news, J n ys news → Fin ys news) : ∀ k i ys news, i + k = n → J i ys news → CompRest prog w A h₀ L m env elt x scope cl s S P Fin k i ys news := by
  intro k
  induction k with
  | zero =>
    intro i ys news e hJ
    obtain rfl : i = n := by omega
    exact CompRest.zero (fin ys news hJ)
  | succ k ih =>
    intro i ys news e hJ
    refine CompRest.succ fun v I oI C oC D m₂ h tk E' hP hC hx F N off ne => ?_
    exact wpAny_mono (turn i ys news v I oI C oC D m₂ h tk E' (by omega) hJ hP hC hx F N off ne) (fun y s₂ h₂ => compEnd_mono (fun l hl => ih (i + 1) _ l (by omega) hl) h₂) fun _ _ e => e
/-- one with a test -/
theorem compT_st {ct elt : Expr} {x : Str} {scope : Scope} {cl : List (Str × Addr)} {S : List (Addr × Obj) → Prop} {P : Nat → Value → Prop} {Fin : List Value → List (Addr × Obj) → Prop} {n : Nat} (J : Nat → List Value → List (Addr × Obj) → Prop)
    (turn : ∀ i ys news v I oI C oC D m₂ h tk (E' : Value → Shared → Prop), i < n → J i ys news → P i v → NsObj oC m₂ → m₂ x = some v → Fr h₀ L h m → News h₀ L h ((I, oI) :: (C, oC) :: (D, lst ys) :: news) → Off3 I C D news → ((@Ne Nat I C) ∧ (@Ne Nat I D) ∧ (@Ne Nat C D)) →
      wpAny (model prog w) A (isTrue ct (compEnvC scope cl C env) (eval ct (compEnvC scope cl C env))) (fun ok s' => if ok = true then
        wpAny (model prog w) A (eval elt (compEnvC scope cl C env)) (CompEnd h₀ L m { s with heap := h, toks := tk } I oI C oC D (lst ys) S (fun y news' => J (i + 1) (ys ++ [y]) news')) E' s'
        else CompEnd h₀ L m { s with heap := h, toks := tk } I oI C oC D (lst ys) S (fun _ news' => J (i + 1) ys news') Value.none s') E' { s with heap := h, toks := tk })
    (fin : ∀ ys news, J n ys news → Fin ys news) : ∀ k i ys news, i + k = n → J i ys news → CompRestT prog w A h₀ L m env ct elt x scope cl s S P Fin k i ys news := by
  intro k
  induction k with
  | zero =>
    intro i ys news e hJ
    obtain rfl : i = n := by omega
    exact CompRestT.zero (fin ys news hJ)
  | succ k ih =>
    intro i ys news e hJ
    refine CompRestT.succ fun v I oI C oC D m₂ h tk E' hP hC hx F N off ne => ?_
    refine wpAny_mono (turn i ys news v I oI C oC D m₂ h tk E' (by omega) hJ hP hC hx F N off ne) (fun ok s₂ h₂ => ?_) fun _ _ e => e
    cases ok with
    | true =>
      simp only [if_true] at h₂ ⊢
      exact wpAny_mono h₂ (fun y s₃ h₃ => compEnd_mono (fun l hl => ih (i + 1) _ l (by omega) hl) h₃) fun _ _ e => e
    | false =>
      simp only [Bool.false_eq_true, if_false] at h₂ ⊢
      exact compEnd_mono (fun l hl => ih (i + 1) _ l (by omega) hl) h₂
end
end Mine
end
section
open PySem PySem.W PySem.Spec PySem.Calls PyProof.Rows PyProof.Rows.LCg
set_option maxRecDepth 100000
set_option maxHeartbeats 8000000
namespace Mine
theorem turn_nil {g g' : Heap} (T : KtsTurn [] g g') {b : Addr} {o : Obj} (e : g.get? b = some o) : g'.get? b = some o := T.other b o e (fun h => nomatch h)
/-- the turning contract in the law's own frame: the ground stands -/
theorem ctrs_top {prog : Program} {w : World} {K : Frag} {p : Program} {loose : List Str} {mean : ExcName → Option Value} {mg mb : Str → Option Value} {G : Heap → Prop} {f : Value} {d u : Nat} {news : List (Addr × Obj)} {vs : List Value} {post : Value → List (Addr × Obj) → Prop}
    {dp un : Nat} {gd : Option (List Code)} {cn : Str} {cs : Scope} {a : Addr} {ccd : Value} {cl : List (Str × Addr)} {A₀ : Around} {base : Heap} {L : Addr} {m : Str → Option Value} {s : Shared} {Q E : Value → Shared → Prop}
    (B : Below A₀ base [] base) (F : Fr base L s.heap m) (X : K.In base) (N : News base L s.heap news) (T : Top p loose mean mg mb base) (hk : cs.kind = .function) (hG : G base)
    (C : CtrS prog w K p loose mean mg mb G f d u news vs post) (hd : dp + d < recursionLimit) (hu : un + u < cLine)
    (ret : ∀ v news' h' tk', Fr base L h' m → News base L h' news' → post v news' → Q v { s with heap := h', toks := tk' }) :
    wpAny (model prog w) (ktrTop dp un gd cn cs L a ccd cl []) (call f vs) Q E s := by
  refine ctrs_use (g₀ := base) B F X N T hk hG X T (fun _ h => nomatch h) KtsTurn.refl C hd hu ?_
  intro v news' h' tk' h₁ T1 F1 N1 _ _ _ _ hp
  refine ret v news' h' tk' ⟨F1.ns, fun b o e => F1.keep b o (turn_nil T1 e), by have := F1.above; rw [T1.size] at this; exact this⟩ (fun q hq => ⟨(N1 q hq).1, (N1 q hq).2.1, ?_⟩) hp
  cases e : base.get? q.1 with
  | none => rfl
  | some o => have := turn_nil T1 e; rw [(N1 q hq).2.2] at this; cases this
/-- a comprehension's source: a range by any step -/
def SrcStep (prog : Program) (w : World) (A : Around) (h₀ : Heap) (L : Addr) (m : Str → Option Value) (env : Env) (elt : Expr) (x : Str) (scope : Scope) (cl : List (Str × Addr)) (Fin : Shared → List Value → List (Addr × Obj) → Prop) (xv : Value) (s₁ : Shared) : Prop :=
  ∃ r a b c t u v n news, xv = .ref r ∧ A.handled = none ∧ Fr h₀ L s₁.heap m ∧ News h₀ L s₁.heap news ∧ IsRange s₁.heap r a b c t u v ∧ Builtin.Range.small a b c = true ∧ Builtin.Range.rangeSize a b c = ((n : Nat) : Int) ∧ n ≤ sizeLine ∧
    ∀ g, CompRest prog w A h₀ L m env elt x scope cl { s₁ with heap := g } (fun _ => True) (fun i v => ∃ t, v = .int (a + (i : Int) * c) t) (Fin { s₁ with heap := g }) n 0 [] news
section
variable {prog : Program} {w : World} {A : Around} {E : Value → Shared → Prop} {s : Shared} {h₀ : Heap} {L : Addr} {m : Str → Option Value} {env : Env}
theorem step_walks {I : Addr} (hh : A.handled = none) (a c : Int) (n : Nat) : Walks prog w A I [I] [I] n (fun i v => ∃ t, v = .int (a + (i : Int) * c) t) (fun i h => IsRangeIter h I (a + (i : Nat) * c) ((n : Int) - (i : Nat)) c) :=
  let W : Walks prog w A I [I] [I] n (fun i v => i < n ∧ ∃ t, v = .int (a + i * c) t) (fun i h => IsRangeIter h I (a + (i : Nat) * c) ((n : Int) - (i : Nat)) c) := (Walks.range hh I a c n).bound
  { sub := W.sub, frame := W.frame, done := W.done, self := W.self, item := fun i s Q E hi st hQ => W.item i s Q E hi st fun v h' tk hP => hQ v h' tk hP.2 }
theorem comp_step {elt iter : Expr} {x : Str} {px : Pos} {scope : Scope} {cl : List (Str × Addr)} {pos : Pos} {Q : Value → Shared → Prop} (F₀ : Fr h₀ L s.heap m)
    (hclos : closureFor scope env = pure cl) (hcell : ∀ y ∈ scope.names, y.2 ≠ .cell) (hkind : scope.kind = .function)
    (hnames : ∀ y ∈ scope.names, y.2 = .local → scope.names.lookup y.1 = some .local) (hx : scope.names.lookup x = some .local)
    (h : wpAny (model prog w) A (eval iter env) (SrcStep prog w A h₀ L m env elt x scope cl (fun s₂ => FinE h₀ L m s₂ Q)) E s)
    (hs : ∀ x, foldedSetIterable iter env x = pure x := by intro _; rfl) :
    wpAny (model prog w) A (eval (.ListComp elt [⟨.Name x px, iter, [], 0⟩] scope pos) env) Q E s := by
  rw [eval_ListComp]
  refine wpAny_comprehension_free (use := none) rfl hs hclos hkind hnames (wpAny_mono h (fun xv s₁ h₁ => ?_) fun _ _ e => e)
  obtain ⟨r, a, b, c, t, u, v, n, news, rfl, hh, F, N, hr, hsm, hn, hsz, R⟩ := h₁
  refine wpAny_pyIter_range hr hsm ?_
  have same : ∀ i (h h' : Heap) (o : Obj) (nw : List (Addr × Obj)), IsRangeIter h s₁.heap.objs.size (a + (i : Nat) * c) ((n : Int) - (i : Nat)) c → h.get? s₁.heap.objs.size = some o → h'.get? s₁.heap.objs.size = some o → (∀ b o, h₀.get? b = some o → h'.get? b = some o) → News h₀ L h' nw → True → IsRangeIter h' s₁.heap.objs.size (a + (i : Nat) * c) ((n : Int) - (i : Nat)) c := fun i h h' o nw st e e' _ _ _ => by
    have st' : h.get? s₁.heap.objs.size = some _ := st
    show h'.get? _ = some _
    rw [e', ← e]; exact st'
  refine block_U (step_walks hh a c n) hsz (fun i h st => ⟨_, st⟩) same hcell hkind hx (by show IsRangeIter _ _ _ _ _; rw [hn]; simpa using Heap.get?_push_size _ rfl) (fun b hb => ?_)
    (F.keeps fun _ _ e => Heap.get?_push_of_some _ e) (N.grown fun _ _ e => Heap.get?_push_of_some _ e) (Nat.ne_of_lt F.ns.lt) (next_is_new F) (fun q hq => Nat.ne_of_lt (Heap.lt_size (N q hq).1)) trivial (R _) ?_
  · rw [List.mem_singleton.mp hb]
    show s₁.heap.objs.size < (s₁.heap.push _).objs.size
    rw [Heap.size_push]
    exact Nat.lt_succ_self _
  · intro D C h tk m' ys news' F' N' o1 hns hC₀ hD₀ hCL hDL hCD offC fin
    refine ⟨m', hns, fun h'' hs'' => fin D h'' tk (F'.change hs'' hCL hC₀) (fun q hq => ?_) o1⟩
    refine ⟨hs''.extBut _ _ ?_ (N' q hq).1, (N' q hq).2⟩
    rcases List.mem_cons.mp hq with rfl | hq
    · exact Ne.symm hCD
    · exact offC q hq
end
end Mine
end
section
open PySem PySem.W PySem.Spec PySem.Calls PyProof.Rows
set_option maxRecDepth 100000
set_option maxHeartbeats 4000000
namespace Mine
/-- _law_turned's state -/
structure TS where
  ab : Int
  al : Int
  be : Int
  bl : Int
  bt : Int
  sg : Int
def tsStep (c : TS) (q : Int) : TS := ⟨q * c.ab + c.al, c.ab, q * c.be + c.bl, c.be, c.bt + c.sg * q, -c.sg⟩
def tsInit : TS := ⟨0, 1, 1, 0, 0, 1⟩
def tsOf (qs : List Int) : TS := qs.foldl tsStep tsInit
def tsFour (c : TS) : Int := ((c.be - 1) * (c.be - 2) - c.be * c.bt - c.ab + c.sg * c.bl) + (if c.sg < 0 then 3 * c.be else 0)
def eu : Nat → Int → Int → List Int
  | 0, _, _ => []
  | n + 1, a, b => if b = 0 then [] else a.fdiv b :: eu n b (a.fmod b)
def EuOk : Nat → Int → Int → Prop
  | 0, _, _ => False
  | n + 1, a, b => b = 0 ∨ (Builtin.Int.intBits b ≤ 8000 ∧ Builtin.Int.intBits a ≤ 64 * Builtin.Int.intBits b ∧ EuOk n b (a.fmod b))
end Mine
end
section
open PySem PySem.W PySem.Spec PySem.Calls PyProof.Rows
set_option maxRecDepth 100000
set_option maxHeartbeats 4000000
namespace Mine
/-! the plain law of one side -/
def sq (S d : Int) (j : Nat) : Int := ((j : Int) * S).fdiv d
def sr (S d : Int) (j : Nat) : Int := ((j : Int) * S).fmod d
def sah (S d : Int) : Nat → Int
  | 0 => 0
  | j + 1 => sah S d j + sq S d j
def stu (S d : Int) (j : Nat) : Int := ((j : Int) - 1) * sq S d j - 2 * sah S d j
/-- how many ahead have the greater rest (below nought: the lesser) -/
def sinv (S d : Int) (j : Nat) : Nat := if 0 < d then (List.range j).countP (fun i => decide (sr S d j < sr S d i)) else (List.range j).countP (fun i => decide (sr S d i < sr S d j))
structure SideOk (S d : Int) (n : Nat) : Prop where
  inv : ∀ j, j < n → ((sinv S d j : Nat) : Int) = stu S d j
  eok : EuOk 9 d (sr S d 1)
  qsm : ∀ q ∈ eu 9 d (sr S d 1), q.natAbs ≤ 16
  bpos : 1 ≤ (tsOf (eu 9 d (sr S d 1))).be ∧ (tsOf (eu 9 d (sr S d 1))).be ≤ n
  first : (((List.range' 1 (n - 1)).filter (fun j => sr S d j == 0)).take 1).map (fun j : Nat => (j : Int)) = [(tsOf (eu 9 d (sr S d 1))).be]
  four : 4 * (((List.range n).map (stu S d)).take (tsOf (eu 9 d (sr S d 1))).be.toNat).sum = tsFour (tsOf (eu 9 d (sr S d 1)))
theorem eu_len : ∀ (n : Nat) (a b : Int), (eu n a b).length ≤ n
  | 0, _, _ => Nat.le_refl _
  | n + 1, a, b => by
    unfold eu
    split
    · exact Nat.zero_le _
    · exact Nat.succ_le_succ (eu_len n _ _)

/-! scaling -/
theorem fdiv_scale {c : Int} (hc : c ≠ 0) (a b : Int) : (c * a).fdiv (c * b) = a.fdiv b := by
  rcases Int.lt_or_gt_of_ne hc with h | h
  · have := Int.mul_fdiv_mul_of_pos (a := -c) a b (by omega)
    rw [Int.neg_mul, Int.neg_mul, Int.neg_fdiv_neg] at this
    exact this
  · exact Int.mul_fdiv_mul_of_pos a b h
theorem fmod_scale {c : Int} (hc : c ≠ 0) (a b : Int) : (c * a).fmod (c * b) = c * a.fmod b := by
  rw [Int.fmod_def, Int.fmod_def, fdiv_scale hc]
  grind
theorem eu_scale {c : Int} (hc : c ≠ 0) : ∀ (n : Nat) (a b : Int), eu n (c * a) (c * b) = eu n a b
  | 0, _, _ => rfl
  | n + 1, a, b => by
    unfold eu
    by_cases hb : b = 0
    · simp [hb]
    · rw [if_neg hb, if_neg (Int.mul_ne_zero hc hb), fdiv_scale hc, fmod_scale hc, eu_scale hc n]

/-! the table: base B, step m below it -/
def tq (B m : Nat) (j : Nat) : Int := ((j * m / B : Nat) : Int)
def tr (B m : Nat) (j : Nat) : Nat := j * m % B
def tah (B m : Nat) : Nat → Int
  | 0 => 0
  | j + 1 => tah B m j + tq B m j
def ttu (B m : Nat) (j : Nat) : Int := ((j : Int) - 1) * tq B m j - 2 * tah B m j
def tinv (B m : Nat) (j : Nat) : Nat := (List.range j).countP (fun i => decide (tr B m j < tr B m i))
def euN : Nat → Nat → Nat → Bool
  | 0, _, _ => false
  | n + 1, a, b => b == 0 || euN n b (a % b)
def tabOk (B m : Nat) : Bool :=
  (List.range (B + 3)).all (fun j => ((tinv B m j : Nat) : Int) == ttu B m j) && euN 9 B m && (eu 9 B m).all (fun q => decide (q.natAbs ≤ 16)) &&
  (let t := tsOf (eu 9 B m); decide (1 ≤ t.be) && decide (t.be ≤ (B + 3 : Nat)) && (((List.range' 1 (B + 3 - 1)).filter (fun j => tr B m j == 0)).take 1).map (fun j : Nat => (j : Int)) == [t.be] &&
    4 * (((List.range (B + 3)).map (ttu B m)).take t.be.toNat).sum == tsFour t)
theorem tab_all : (List.range 10).all (fun B => (List.range B).all (fun m => tabOk B m)) = true := by decide +kernel

/-! from any side to the table -/
theorem s_of {c : Int} {B m : Nat} {s : Int} {w : Int} (hU : c ≠ 0) (hB : 0 < B) (hs : s = B * w + m) (j : Nat) :
    sq (c * s) (c * B) j = j * w + tq B m j ∧ sr (c * s) (c * B) j = c * (tr B m j : Nat) := by
  have e : (j : Int) * (c * s) = c * (j * s) := by grind
  have hB' : (0 : Int) < B := by omega
  have e2 : (j : Int) * s = ((j * m : Nat) : Int) + j * w * B := by rw [hs, Int.natCast_mul]; grind
  refine ⟨?_, ?_⟩
  · rw [sq, e, fdiv_scale hU, fdiv_pos _ hB', e2, Int.add_mul_ediv_right _ _ (by omega), tq, Int.natCast_ediv]
    omega
  · rw [sr, e, fmod_scale hU, fmod_pos _ hB', e2, Int.add_mul_emod_self_right, tr, Int.natCast_emod]
theorem sah_of {c : Int} {B m : Nat} {s w : Int} (hU : c ≠ 0) (hB : 0 < B) (hs : s = B * w + m) : ∀ j : Nat, 2 * sah (c * s) (c * B) j = (j : Int) * (j - 1) * w + 2 * tah B m j
  | 0 => by simp [sah, tah]
  | j + 1 => by
    have h := sah_of hU hB hs j
    have h2 := (s_of hU hB hs j).1
    simp only [sah, tah, Int.natCast_add]
    grind
theorem stu_of {c : Int} {B m : Nat} {s w : Int} (hU : c ≠ 0) (hB : 0 < B) (hs : s = B * w + m) (j : Nat) : stu (c * s) (c * B) j = ttu B m j := by
  have h := sah_of hU hB hs j
  have h2 := (s_of hU hB hs j).1
  rw [stu, ttu]
  grind
theorem sinv_of {c : Int} {B m : Nat} {s w : Int} (hU : c ≠ 0) (hB : 0 < B) (hs : s = B * w + m) (j : Nat) : sinv (c * s) (c * B) j = tinv B m j := by
  have hr := fun i => (s_of hU hB hs i).2
  have hB' : (0 : Int) < B := by omega
  rw [sinv, tinv]
  simp only [hr]
  rcases Int.lt_or_gt_of_ne hU with h | h
  · rw [if_neg (fun q => by have := Int.mul_neg_of_neg_of_pos h hB'; omega)]
    congr 1
    funext i
    rw [decide_eq_decide, Int.mul_lt_mul_left_of_neg h]
    omega
  · rw [if_pos (Int.mul_pos h hB')]
    congr 1
    funext i
    rw [decide_eq_decide, Int.mul_lt_mul_left h]
    omega

theorem bits_le {x : Int} {n : Nat} (h : x.natAbs < 2 ^ n) : Builtin.Int.intBits x ≤ n := intBits_le_iff.mpr h
theorem bits_ge_one {x : Int} (h : x ≠ 0) : 1 ≤ Builtin.Int.intBits x := by
  rcases Nat.eq_zero_or_pos (Builtin.Int.intBits x) with e | e
  · have := intBits_le_iff.mp (Nat.le_of_eq e)
    simp at this
    omega
  · exact e
/-- c times a, a below 16: bits -/
theorem bits_scale {c : Int} {a : Nat} (ha : a < 16) : Builtin.Int.intBits (c * a) ≤ Builtin.Int.intBits c + 4 := by
  refine bits_le ?_
  have h := intBits_le_iff.mp (Nat.le_refl (Builtin.Int.intBits c))
  rw [Int.natAbs_mul, Int.natAbs_natCast, Nat.pow_add]
  calc c.natAbs * a ≤ c.natAbs * 15 := Nat.mul_le_mul_left _ (by omega)
    _ < 2 ^ Builtin.Int.intBits c * 2 ^ 4 := by omega
theorem bits_le_scale {c : Int} {b : Nat} (hb : b ≠ 0) : Builtin.Int.intBits c ≤ Builtin.Int.intBits (c * b) := by
  refine intBits_le_iff.mpr ?_
  have h := intBits_le_iff.mp (Nat.le_refl (Builtin.Int.intBits (c * b)))
  rw [Int.natAbs_mul, Int.natAbs_natCast] at h
  exact Nat.lt_of_le_of_lt (Nat.le_mul_of_pos_right _ (by omega)) h
theorem euOk_of {c : Int} (hc : c ≠ 0) (hbit : Builtin.Int.intBits c ≤ 7990) : ∀ (n a b : Nat), a < 16 → b < 16 → euN n a b = true → EuOk n (c * a) (c * b)
  | 0, _, _, _, _, h => by simp [euN] at h
  | n + 1, a, b, ha, hb, h => by
    unfold EuOk
    simp only [euN, Bool.or_eq_true, beq_iff_eq] at h
    rcases h with h | h
    · exact .inl (by simp [h])
    by_cases hb0 : b = 0
    · exact .inl (by simp [hb0])
    have h1 := bits_scale (c := c) ha
    have h2 := bits_scale (c := c) hb
    have h3 := bits_le_scale (c := c) hb0
    have h4 := bits_ge_one hc
    refine .inr ⟨by omega, by omega, ?_⟩
    rw [fmod_scale hc, fmod_pos _ (by omega), ← Int.natCast_emod]
    exact euOk_of hc hbit n b (a % b) hb (Nat.lt_of_lt_of_le (Nat.mod_lt _ (by omega)) (by omega)) h
theorem side_ok {c s : Int} {B : Nat} (hc : c ≠ 0) (hbit : Builtin.Int.intBits c ≤ 7990) (hB : 0 < B) (hB9 : B < 10) : SideOk (c * s) (c * B) (B + 3) := by
  have hB' : (0 : Int) < B := by omega
  obtain ⟨m, hm⟩ := Int.eq_ofNat_of_zero_le (Int.emod_nonneg s (show (B : Int) ≠ 0 by omega))
  have hmB : m < B := by have := Int.emod_lt_of_pos s hB'; omega
  have hs : s = B * (s / B) + m := by rw [← hm]; exact (Int.mul_ediv_add_emod s B).symm
  have hT : tabOk B m = true := List.all_eq_true.mp (List.all_eq_true.mp tab_all B (List.mem_range.mpr hB9)) m (List.mem_range.mpr hmB)
  have er : sr (c * s) (c * B) 1 = c * (m : Nat) := by
    rw [(s_of hc hB hs 1).2, tr, Nat.one_mul, Nat.mod_eq_of_lt hmB]
  have ee : eu 9 (c * B) (sr (c * s) (c * B) 1) = eu 9 B m := by rw [er, eu_scale hc]
  simp only [tabOk, Bool.and_eq_true, decide_eq_true_eq, beq_iff_eq] at hT
  obtain ⟨⟨⟨t1, t2⟩, t3⟩, ⟨⟨t4, t5⟩, t6⟩, t7⟩ := hT
  refine ⟨fun j hj => ?_, ?_, ?_, ?_, ?_, ?_⟩
  · rw [sinv_of hc hB hs, stu_of hc hB hs]
    exact beq_iff_eq.mp (List.all_eq_true.mp t1 j (List.mem_range.mpr hj))
  · rw [er]
    exact euOk_of hc hbit 9 B m (by omega) (by omega) t2
  · rw [ee]
    intro q hq
    exact of_decide_eq_true (List.all_eq_true.mp t3 q hq)
  · rw [ee]
    exact ⟨t4, t5⟩
  · rw [ee, ← t6]
    congr 3
    funext j
    rw [(s_of hc hB hs j).2]
    rw [Bool.eq_iff_iff, beq_iff_eq, beq_iff_eq]
    constructor
    · intro h
      rcases Int.mul_eq_zero.mp h with h | h
      · exact absurd h hc
      · omega
    · intro h
      simp [h]
  · rw [ee, ← t7]
    have : stu (c * s) (c * B) = ttu B m := funext fun j => stu_of hc hB hs j
    rw [this]
end Mine
end
section
open PySem PySem.W PySem.Spec PySem.Calls PyProof.Rows
set_option maxRecDepth 100000
set_option maxHeartbeats 4000000
namespace Mine
theorem natAbs_fdiv_le (a b : Int) : (a.fdiv b).natAbs ≤ a.natAbs := by
  by_cases hb : b = 0
  · simp [hb]
  rcases Int.lt_or_gt_of_ne hb with h | h
  · have e : a.fdiv b = (-a).fdiv (-b) := (Int.neg_fdiv_neg a b).symm
    rw [e, fdiv_pos _ (by omega), ← Int.natAbs_neg a]
    exact Int.natAbs_ediv_le_natAbs _ _
  · rw [fdiv_pos _ h]
    exact Int.natAbs_ediv_le_natAbs _ _
theorem mul_bits {a b : Int} {m n : Nat} (ha : a.natAbs < 2 ^ m) (hb : Builtin.Int.intBits b ≤ n) : Builtin.Int.intBits (a * b) ≤ m + n := by
  refine bits_le ?_
  rw [Int.natAbs_mul, Nat.pow_add]
  exact Nat.mul_lt_mul_of_lt_of_le ha (Nat.le_of_lt (intBits_le_iff.mp hb)) (Nat.pow_pos (by omega))
theorem sq_bits {S d : Int} {j N : Nat} (hS : Builtin.Int.intBits S ≤ N) (hj : j < 16) : Builtin.Int.intBits (sq S d j) ≤ N + 4 := by
  refine bits_le (Nat.lt_of_le_of_lt (natAbs_fdiv_le _ _) ?_)
  have := mul_bits (a := (j : Int)) (m := 4) (by simpa using hj) hS
  rw [Nat.add_comm N 4]
  exact intBits_le_iff.mp this
theorem sah_abs {S d : Int} {M : Nat} : ∀ {j : Nat}, (∀ i, i < j → (sq S d i).natAbs ≤ M) → (sah S d j).natAbs ≤ j * M
  | 0, _ => by simp [sah]
  | j + 1, h => by
    have h1 := sah_abs (j := j) fun i hi => h i (by omega)
    have h2 := h j (by omega)
    have h3 := Int.natAbs_add_le (sah S d j) (sq S d j)
    rw [sah, Nat.add_mul, Nat.one_mul]
    omega
theorem sah_bits {S d : Int} {j N : Nat} (hS : Builtin.Int.intBits S ≤ N) (hj : j < 16) : Builtin.Int.intBits (sah S d j) ≤ N + 8 := by
  refine bits_le ?_
  have h1 := sah_abs (S := S) (d := d) (j := j) (M := 2 ^ (N + 4)) fun i hi => Nat.le_of_lt (intBits_le_iff.mp (sq_bits hS (by omega)))
  have e : 2 ^ (N + 8) = 16 * 2 ^ (N + 4) := by rw [show N + 8 = 4 + (N + 4) by omega, Nat.pow_add 2 4]
  have h3 : 0 < 2 ^ (N + 4) := Nat.pow_pos (by omega)
  rw [e]
  exact Nat.lt_of_le_of_lt h1 (Nat.mul_lt_mul_of_pos_right hj h3)
theorem mulok_l {a b : Int} {n : Nat} (ha : a.natAbs < 2 ^ 60) (hb : Builtin.Int.intBits b ≤ n) (hn : n ≤ 100000) : IntMulOk a b :=
  IntMulOk.of_le (m := 60) (n := n) (bits_le ha) hb (by omega)
theorem mulok_b {a b : Int} {m n : Nat} (ha : Builtin.Int.intBits a ≤ m) (hb : Builtin.Int.intBits b ≤ n) (hm : m ≤ 100000) (hn : n ≤ 100000) : IntMulOk a b := IntMulOk.of_le ha hb (by omega)
end Mine
end
section
open PySem PySem.W PySem.Spec PySem.Calls PyProof.Rows
set_option maxRecDepth 100000
set_option maxHeartbeats 4000000
namespace Mine
theorem countP_split {l : List Int} {p : Nat} {q : Int → Bool} (h1 : ∀ k ∈ l.take p, q k = false) (h2 : ∀ k ∈ l.drop p, q k = true) : l.countP q = l.length - p := by
  have e : l.countP q = (l.take p).countP q + (l.drop p).countP q := by rw [← List.countP_append, List.take_append_drop]
  have e1 : (l.take p).countP q = 0 := List.countP_eq_zero.mpr fun k hk => by rw [h1 k hk]; exact Bool.false_ne_true
  have e2 : (l.drop p).countP q = (l.drop p).length := List.countP_eq_length.mpr fun k hk => h2 k hk
  rw [e, e1, e2, List.length_drop]
  omega
theorem ins_pw {l : List Int} {p : Nat} {x : Int} (h : l.Pairwise (· ≤ ·)) (h1 : ∀ k ∈ l.take p, k ≤ x) (h2 : ∀ k ∈ l.drop p, x ≤ k) : (l.take p ++ x :: l.drop p).Pairwise (· ≤ ·) := by
  have h' := h
  rw [← List.take_append_drop p l, List.pairwise_append] at h'
  obtain ⟨a, b, c⟩ := h'
  refine List.pairwise_append.mpr ⟨a, List.pairwise_cons.mpr ⟨h2, b⟩, fun y hy z hz => ?_⟩
  rcases List.mem_cons.mp hz with rfl | hz
  · exact h1 y hy
  · exact c y hy z hz
theorem ins_perm {α : Type} {l : List α} {p : Nat} {x : α} : (l.take p ++ x :: l.drop p).Perm (x :: l) := by
  have h := List.perm_middle (a := x) (l₁ := l.take p) (l₂ := l.drop p)
  rw [List.take_append_drop] at h
  exact h
theorem ins_map {α β : Type} {l : List α} {p : Nat} {x : α} (f : α → β) : (l.take p ++ x :: l.drop p).map f = (l.map f).take p ++ f x :: (l.map f).drop p := by
  simp [List.map_take, List.map_drop]
theorem IntsAre.take' {vs : List Value} {ns : List Int} (h : IntsAre vs ns) : ∀ p : Nat, IntsAre (vs.take p) (ns.take p) := by
  induction h with
  | nil => intro p; simp; exact .nil
  | cons n t _ ih =>
    intro p
    cases p with
    | zero => exact .nil
    | succ p => exact .cons n t (ih p)
theorem IntsAre.drop' {vs : List Value} {ns : List Int} (h : IntsAre vs ns) : ∀ p : Nat, IntsAre (vs.drop p) (ns.drop p) := by
  induction h with
  | nil => intro p; simp; exact .nil
  | cons n t h ih =>
    intro p
    cases p with
    | zero => exact .cons n t h
    | succ p => exact ih p
theorem IntsAre.ins {vs : List Value} {ns : List Int} (h : IntsAre vs ns) (p : Nat) (x : Int) (t : Tok) : IntsAre (vs.take p ++ .int x t :: vs.drop p) (ns.take p ++ x :: ns.drop p) :=
  (IntsAre.take' h p).append (.cons x t (IntsAre.drop' h p))
theorem range_perm {l : List Int} {i : Nat} (pm : l.Perm ((List.range i).map (fun k : Nat => (k : Int)))) (p : Nat) : (l.take p ++ (i : Int) :: l.drop p).Perm ((List.range (i + 1)).map (fun k : Nat => (k : Int))) := by
  refine ins_perm.trans ?_
  rw [List.range_succ, List.map_append]
  exact ((pm.cons _).trans (List.perm_append_comm (l₁ := [(i : Int)])))
theorem range_mem {l : List Int} {i : Nat} (pm : l.Perm ((List.range i).map (fun k : Nat => (k : Int)))) {k : Int} (hk : k ∈ l) : 0 ≤ k ∧ k < i := by
  have := pm.mem_iff.mp hk
  simp only [List.mem_map, List.mem_range] at this
  obtain ⟨j, hj, rfl⟩ := this
  omega
theorem countP_range {l : List Int} {i : Nat} (pm : l.Perm ((List.range i).map (fun k : Nat => (k : Int)))) (f : Nat → Int) (q : Int → Bool) : (l.map (fun k => f k.toNat)).countP q = (List.range i).countP (fun k => q (f k)) := by
  have h := (pm.map (fun k => f k.toNat)).countP_eq q
  rw [h, List.map_map, List.countP_map]
  rfl
theorem count_right {S d : Int} {n i p : Nat} {l : List Int} (ok : SideOk S d n) (hi : i < n) (hd : 0 < d) (pm : l.Perm ((List.range i).map (fun k : Nat => (k : Int)))) (hp : p ≤ l.length)
    (h1 : ∀ k ∈ (l.map (fun k => sr S d k.toNat)).take p, k ≤ sr S d i) (h2 : ∀ k ∈ (l.map (fun k => sr S d k.toNat)).drop p, sr S d i < k) : (i : Int) - p = stu S d i := by
  rw [← ok.inv i hi, sinv, if_pos hd]
  have h := countP_split (q := fun k => decide (sr S d i < k)) (fun k hk => decide_eq_false (by have := h1 k hk; omega)) (fun k hk => decide_eq_true (h2 k hk))
  rw [countP_range pm] at h
  have hl : l.length = i := by simpa using pm.length_eq
  rw [h, List.length_map]
  omega
theorem count_left {S d : Int} {n i p : Nat} {l : List Int} (ok : SideOk S d n) (hi : i < n) (hd : ¬ 0 < d) (pm : l.Perm ((List.range i).map (fun k : Nat => (k : Int)))) (hp : p ≤ l.length)
    (h1 : ∀ k ∈ (l.map (fun k => sr S d k.toNat)).take p, k < sr S d i) (h2 : ∀ k ∈ (l.map (fun k => sr S d k.toNat)).drop p, sr S d i ≤ k) : (p : Int) = stu S d i := by
  rw [← ok.inv i hi, sinv, if_neg hd]
  have h := countP_split (q := fun k => decide (sr S d i ≤ k)) (fun k hk => decide_eq_false (by have := h1 k hk; omega)) (fun k hk => decide_eq_true (h2 k hk))
  rw [countP_range pm] at h
  have hl : l.length = i := by simpa using pm.length_eq
  have h3 : (List.range i).countP (fun k => decide (sr S d k < sr S d i)) + (List.range i).countP (fun k => decide (sr S d i ≤ sr S d k)) = i := by
    have := List.length_eq_countP_add_countP (l := List.range i) (p := fun k => decide (sr S d k < sr S d i))
    rw [List.length_range] at this
    refine Eq.trans ?_ this.symm
    congr 1
    refine List.countP_congr fun k _ => ?_
    simp
  rw [h, List.length_map] at h3
  omega
theorem sr_getD {S d : Int} {i k : Nat} (hk : k < i) : ((List.range i).map (sr S d)).getD k 0 = sr S d k := by
  rw [List.getD_eq_getElem?_getD, List.getElem?_map, List.getElem?_range hk]
  rfl
theorem stu_getD {S d : Int} {i k : Nat} (hk : k < i) : ((List.range i).map (stu S d)).getD k 0 = stu S d k := by
  rw [List.getD_eq_getElem?_getD, List.getElem?_map, List.getElem?_range hk]
  rfl
theorem sqr_eq (S d : Int) (i : Nat) : sq S d i * d + sr S d i = i * S := by
  rw [sq, sr, Int.mul_comm]
  exact Int.mul_fdiv_add_fmod _ _
end Mine
end
section
open PySem PySem.W PySem.Spec PySem.Calls PyProof.Rows
set_option maxRecDepth 100000
set_option maxHeartbeats 4000000
namespace Mine
theorem sb_all {far : Nat} {u w p : Int} {B : Nat} (hf : far < 4200) (hu1 : (2 : Int) ^ far ≤ u) (hu2 : u ≤ 7 * 2 ^ far) (hw : w.natAbs ≤ 3 * 2 ^ far) (hp : p.natAbs ≤ 40) (hB : 1 ≤ B) (hB9 : B ≤ 9) :
    Builtin.Int.intBits u ≤ 7990 ∧ far < Builtin.Int.intBits (B * u) ∧ Builtin.Int.intBits (B * u) ≤ 8000 ∧ Builtin.Int.intBits ((B * w + p) * u) ≤ 16000 ∧ ∀ j : Nat, j < B + 3 → Builtin.Int.intBits (j * ((B * w + p) * u)) ≤ 64 * Builtin.Int.intBits (B * u) := by
  obtain ⟨P, hP⟩ : ∃ P : Nat, P = 2 ^ far := ⟨_, rfl⟩
  have hP1 : 1 ≤ P := by rw [hP]; exact Nat.one_le_two_pow
  have hPi : (2 : Int) ^ far = P := by rw [hP]; exact (two_pow_cast far).symm
  rw [hPi] at hu1 hu2
  rw [← hP] at hw
  have u1 : u.natAbs ≤ 7 * P := by omega
  have u0 : P ≤ u.natAbs := by omega
  have v1 : (B * u : Int).natAbs ≤ 9 * (7 * P) := by rw [Int.natAbs_mul, Int.natAbs_natCast]; exact Nat.mul_le_mul hB9 u1
  have v0 : P ≤ (B * u : Int).natAbs := by rw [Int.natAbs_mul, Int.natAbs_natCast]; exact Nat.le_trans u0 (Nat.le_mul_of_pos_left _ hB)
  have s1 : (B * w + p : Int).natAbs ≤ 67 * P := by
    have h1 := Int.natAbs_add_le (B * w : Int) p
    have h2 : (B * w : Int).natAbs ≤ 9 * (3 * P) := by rw [Int.natAbs_mul, Int.natAbs_natCast]; exact Nat.mul_le_mul hB9 hw
    omega
  have S1 : ((B * w + p) * u : Int).natAbs ≤ 67 * P * (7 * P) := by rw [Int.natAbs_mul]; exact Nat.mul_le_mul s1 u1
  have e2 : 67 * P * (7 * P) = 469 * (P * P) := by rw [Nat.mul_mul_mul_comm]
  have hPP : 1 ≤ P * P := Nat.mul_pos hP1 hP1
  have p3 : 2 ^ (far + 6) = 64 * P := by rw [Nat.pow_add, hP, Nat.mul_comm]
  have pp : 2 ^ (2 * far + 13) = 8192 * (P * P) := by rw [Nat.pow_add, Nat.two_mul, Nat.pow_add, ← hP, Nat.mul_comm]
  rw [e2] at S1
  have b0 : far < Builtin.Int.intBits (B * u) := by
    rcases Nat.lt_or_ge far (Builtin.Int.intBits (B * u)) with h | h
    · exact h
    · have := intBits_le_iff.mp h
      rw [← hP] at this
      omega
  refine ⟨Nat.le_trans (bits_le (n := far + 6) (by rw [p3]; omega)) (by omega), b0, Nat.le_trans (bits_le (n := far + 6) (by rw [p3]; omega)) (by omega), Nat.le_trans (bits_le (n := 2 * far + 13) (by rw [pp]; omega)) (by omega), fun j hj => ?_⟩
  refine Nat.le_trans (bits_le (n := 2 * far + 13) ?_) (by omega)
  rw [pp, Int.natAbs_mul, Int.natAbs_natCast]
  calc j * ((B * w + p) * u : Int).natAbs ≤ 12 * (469 * (P * P)) := Nat.mul_le_mul (by omega) S1
    _ < 8192 * (P * P) := by omega
theorem bits_neg (x : Int) : Builtin.Int.intBits (-x) = Builtin.Int.intBits x := by simp [Builtin.Int.intBits]
/-- both sides -/
theorem side_both {far : Nat} {u w p : Int} {B : Nat} (hf : far < 4200) (hu1 : (2 : Int) ^ far ≤ u) (hu2 : u ≤ 7 * 2 ^ far) (hw : w.natAbs ≤ 3 * 2 ^ far) (hp : p.natAbs ≤ 40) (hB : 1 ≤ B) (hB9 : B ≤ 9) :
    SideOk ((B * w + p) * u) (B * u) (B + 3) ∧ SideOk ((B * w + p) * u) (-B * u) (B + 3) := by
  obtain ⟨b1, _⟩ := sb_all hf hu1 hu2 hw hp hB hB9
  have hP := two_pow_pos far
  have hu : u ≠ 0 := by omega
  refine ⟨?_, ?_⟩
  · rw [Int.mul_comm _ u, Int.mul_comm _ u]
    exact side_ok hu b1 hB (by omega)
  · have e1 : (B * w + p) * u = -u * (-(B * w + p)) := by rw [Int.neg_mul_neg, Int.mul_comm]
    have e2 : -(B : Int) * u = -u * B := by rw [Int.neg_mul, Int.neg_mul, Int.mul_comm]
    rw [e1, e2]
    exact side_ok (by omega) (by rw [bits_neg]; exact b1) hB (by omega)
theorem rng5 : ∀ k : Nat, k < 5 → ∀ L : Nat, L < 64 → Builtin.Range.small k L 5 = true ∧ ∃ n : Nat, n < 64 ∧ Builtin.Range.rangeSize k L 5 = n ∧ ∀ i : Nat, i < n → k + i * 5 < L := by
  intro k hk L hL
  have h1 : ∀ k : Nat, k < 5 → ∀ L : Nat, L < 64 → Builtin.Range.small k L 5 = true := by decide +kernel
  refine ⟨h1 k hk L hL, (if k < L then (L - k - 1) / 5 + 1 else 0), ?_, ?_, ?_⟩
  · split <;> omega
  · unfold Builtin.Range.rangeSize
    rw [if_pos (show (5 : Int) > 0 by omega)]
    by_cases h : k < L
    · rw [if_pos h, if_pos (by omega)]
      omega
    · rw [if_neg h, if_neg (by omega)]
      rfl
  · intro i hi
    split at hi <;> omega
end Mine
end
section
open PySem PySem.W PySem.Spec PySem.Calls PyProof.Rows
set_option maxRecDepth 100000
set_option maxHeartbeats 8000000
namespace Mine
/-- the walker as it is ahead of a head -/
theorem walker_anew_P1 : True := by
  w_top off
  exact True.intro
variable (w : World) {loose : List Str} {mean : ExcName → Option Value} {mg mb : Str → Option Value}

/-- the code objects of the defs that make a def, with their tables' places -/
def Gnd (b : Heap) : Prop := CodeHd b 34 30 ∧ CodeHd b 41 37 ∧ CodeHd b 110 108
/-- all lies above the tables -/
def HiL (l : List (Addr × Obj)) : Prop := ∀ p ∈ l, @Ne Nat p.1 30 ∧ @Ne Nat p.1 37 ∧ @Ne Nat p.1 108
theorem HiL.gt {a : Nat} (h : 108 < a) : a ≠ 30 ∧ a ≠ 37 ∧ a ≠ 108 := by omega
theorem HiL.app {l l' : List (Addr × Obj)} (h : HiL l) (h' : HiL l') : HiL (l ++ l') := fun p hp => (List.mem_append.mp hp).elim (h p) (h' p)
theorem HiL.off {l : List (Addr × Obj)} {e : Addr} (h : HiL l) (he : @Eq Nat e 30 ∨ @Eq Nat e 37 ∨ @Eq Nat e 108) : OffL e l := fun p hp => by
  obtain ⟨a, b, c⟩ := h p hp
  rcases he with rfl | rfl | rfl
  · exact a
  · exact b
  · exact c
def tq1 : Str := (Str.ofString "_int2digits" ++ ".<locals>.") ++ Str.ofString "inner"
def tq2 : Str := (Str.ofString "_digits2int" ++ ".<locals>.") ++ Str.ofString "inner"
def tq3 : Str := (Str.ofString "_law_side" ++ ".<locals>.") ++ "<lambda>"
/-- the tables and the code objects that they hold -/
def TabsL (tl : List (Addr × Obj)) : Prop := ∃ ps1 ps2 ps3 cs, tl = (30, tabObj ps1) :: (37, tabObj ps2) :: (108, tabObj ps3) :: cs ∧ TabOk ps1 tq1 cs ∧ TabOk ps2 tq2 cs ∧ TabOk ps3 tq3 cs ∧ HiL cs
/-- tl' bears what tl bears, and what lies above all of l -/
def AddrG (l tl tl' : List (Addr × Obj)) : Prop := ∀ p ∈ tl', p.1 ∈ tl.map (·.1) ∨ ∀ q ∈ l, @LT.lt Nat _ q.1 p.1
theorem AddrG.refl {l tl : List (Addr × Obj)} : AddrG l tl tl := fun p hp => .inl (List.mem_map_of_mem hp)
theorem AddrG.off {l tl tl' : List (Addr × Obj)} {e : Addr} (g : AddrG l tl tl') (h : OffL e tl) (he : e ∈ l.map (·.1)) : OffL e tl' := fun p hp => by
  rcases g p hp with h1 | h1
  · obtain ⟨q, hq, e2⟩ := List.mem_map.mp h1
    exact e2 ▸ h q hq
  · obtain ⟨q, hq, rfl⟩ := List.mem_map.mp he
    exact Nat.ne_of_gt (h1 q hq)
/-- this text's contracts -/
def Ct (w : World) (loose : List Str) (mean : ExcName → Option Value) (mg mb : Str → Option Value) (f : Addr) (d u : Nat) (news : List (Addr × Obj)) (vs : List Value) (post : Value → List (Addr × Obj) → Prop) : Prop :=
  Ctr Challenge.rw_ph0156_02.row.prog w (hd2.heap_39 w.params) topProg loose mean mg mb Gnd (.ref f) d u news vs post

theorem divmod_step {prog : Program} {A : Around} {E : Value → Shared → Prop} {s : Shared} {a b : Int} {t u : Tok} {h₀ : Heap} {L : Addr} {m : Str → Option Value} {news : List (Addr × Obj)} {Q : Value → Shared → Prop} (F : Fr h₀ L s.heap m) (N : News h₀ L s.heap news) (hb : 0 < b)
    (hp : b.natAbs.log2 < 9000)
    (h : ∀ h' D t1 t2 tk, Fr h₀ L h' m → News h₀ L h' ((D, tup2 (a / b) (a % b) t1 t2) :: news) → (∀ p ∈ news, p.1 < D) → Q (.ref D) { s with heap := h', toks := tk }) :
    wpAny (model prog w) A (call (.builtin "divmod") [.int a t, .int b u]) Q E s := by
  refine divmod_N F N (by omega) (fun h' F' N' => ?_) (Or.inl (PyProof.noPylong_of_log2 hp))
  rw [fdiv_pos a hb, fmod_pos a hb] at N'
  exact h h' _ _ _ _ F' N' fun p hp => Heap.lt_size (N p hp).1

local macro_rules | `(tactic| walk_at "storeName") => `(tactic| (k_here; k_dflt (refine' storeX_Lf ?F ?N ?_ ?a ?b; (case F => k_asm); (case N => k_asm); (case a => rfl); (case b => rfl); k_whole; intro h' tk' F' N'; (try k_sweep))))
local macro_rules | `(tactic| walk_at "call builtin:divmod") => `(tactic| (k_here; refine divmod_step _ (by assumption) (by assumption) (by assumption) (by assumption) ?_; intro h' D' t1' t2' tk' F' N' l1; (try k_sweep)))

theorem div2n1n_base (news : List (Addr × Obj)) (a b n : Int) (ta tb tn : Tok) (hb : 0 < b) (hbl : b.natAbs.log2 < 9000) (hbit : (Builtin.Int.intBits a : Int) - n ≤ 4000) :
    Ct w loose mean mg mb 21 2 16 news [.int a ta, .int b tb, .int n tn]
      (fun v news' => ∃ D tq tr, v = .ref D ∧ news' = (D, tup2 (a / b) (a % b) tq tr) :: news) := by
  unfold Ct
  k_fill
  unfold Ctr
  intro dp un gd cn cs a' ccd cl outer A₀ base h₀ L m s Q E B F X N T hk hG hd hu hret
  refine wpAny_call ?_
  k_dflt cell_enter
  (try (with_reducible show wpAny _ _ _ _ _ _)); (try k_fold)
  k_steps
  all_goals exact hret _ _ _ _ (by assumption) (by assumption) ⟨_, _, _, rfl, rfl⟩


theorem d3_eq {a12 a3 b b1 b2 q r0 : Int} {n : Nat} (hb : b = b1 * 2 ^ n + b2) (hq : a12 = q * b1 + r0) (h0 : 0 ≤ r0) (ha3 : 0 ≤ a3) (ha3' : a3 < 2 ^ n) :
    a12 * 2 ^ n + a3 = q * b + (Builtin.bitOr (r0 * 2 ^ n) a3 - q * b2) := by
  rw [bitOr_disj h0 ha3 ha3', hb, hq]
  grind
theorem d3_lt1 {a12 a3 b b1 b2 : Int} {n : Nat} (hb : b = b1 * 2 ^ n + b2) (hq : a12.fdiv (2 ^ n) = b1) (ha3 : 0 ≤ a3) (ha3' : a3 < 2 ^ n) (hb1 : 0 < b1)
    (hlt : a12 * 2 ^ n + a3 < 2 ^ n * b) : 0 ≤ a12 - b1 * 2 ^ n + b1 ∧ a12 = (1 * 2 ^ n - 1) * b1 + (a12 - b1 * 2 ^ n + b1) ∧ Builtin.bitOr ((a12 - b1 * 2 ^ n + b1) * 2 ^ n) a3 - (1 * 2 ^ n - 1) * b2 < b := by
  have hp := two_pow_pos n
  rw [fdiv_pos _ hp] at hq
  have h1 : b1 * 2 ^ n ≤ a12 := by rw [← hq]; exact Int.ediv_mul_le _ (by omega)
  have h0 : 0 ≤ a12 - b1 * 2 ^ n + b1 := by omega
  have h2 : a12 = (1 * 2 ^ n - 1) * b1 + (a12 - b1 * 2 ^ n + b1) := by grind
  refine ⟨h0, h2, ?_⟩
  have e := d3_eq hb h2 h0 ha3 ha3'
  have e2 : (1 * 2 ^ n - 1) * b = 2 ^ n * b - b := by grind
  omega
theorem d3_lt2 {a12 a3 b b1 b2 : Int} {n : Nat} (hb : b = b1 * 2 ^ n + b2) (ha : 0 ≤ a12) (ha3 : 0 ≤ a3) (ha3' : a3 < 2 ^ n) (hb1 : 0 < b1) (hb2 : 0 ≤ b2) :
    0 ≤ a12 % b1 ∧ a12 = a12 / b1 * b1 + a12 % b1 ∧ Builtin.bitOr (a12 % b1 * 2 ^ n) a3 - a12 / b1 * b2 < b := by
  have hp := two_pow_pos n
  have h0 : 0 ≤ a12 % b1 := Int.emod_nonneg _ (by omega)
  have h1 : a12 % b1 < b1 := Int.emod_lt_of_pos _ hb1
  have h2 : a12 = a12 / b1 * b1 + a12 % b1 := by rw [Int.mul_comm]; exact (Int.mul_ediv_add_emod a12 b1).symm
  refine ⟨h0, h2, ?_⟩
  rw [bitOr_disj h0 ha3 ha3']
  have h3 : 0 ≤ a12 / b1 * b2 := Int.mul_nonneg (Int.ediv_nonneg ha (by omega)) hb2
  have h4 : a12 % b1 * 2 ^ n ≤ (b1 - 1) * 2 ^ n := Int.mul_le_mul_of_nonneg_right (by omega) (by omega)
  have h5 : (b1 - 1) * 2 ^ n = b1 * 2 ^ n - 2 ^ n := by grind
  omega
theorem bits_of_lt {x : Int} {n : Nat} (h0 : 0 ≤ x) (h : x < 2 ^ n) : Builtin.Int.intBits x ≤ n := by
  refine intBits_le_iff.mpr ?_
  rw [← two_pow_cast] at h
  omega
theorem lt_of_bits {x : Int} {n : Nat} (h0 : 0 ≤ x) (h : Builtin.Int.intBits x ≤ n) : x < 2 ^ n := by
  have := intBits_le_iff.mp h
  rw [← two_pow_cast]
  omega
theorem bits_mono {x y : Int} {n : Nat} (h0 : 0 ≤ x) (h : x ≤ y) (hy : Builtin.Int.intBits y ≤ n) : Builtin.Int.intBits x ≤ n := intBits_le_of_natAbs (by omega) hy
theorem log2_of_bits {x : Int} {n : Nat} (h : Builtin.Int.intBits x ≤ n) (hn : n < 9000) : x.natAbs.log2 < 9000 := by
  have h1 := intBits_le_iff.mp h
  by_cases h0 : x.natAbs = 0
  · rw [h0]; decide
  · have := (Nat.log2_lt h0).mpr h1
    omega

local macro_rules | `(tactic| walk_at "exec While Compare cons nil") => `(tactic| (k_here; refine stop ?_))
local macro_rules | `(tactic| walk_at "binaryOp Mult int int") => `(tactic| (k_here; refine mul_int ?_ ?_))
local macro_rules | `(tactic| walk_at "binaryOp LShift int int") => `(tactic| (k_here; refine lshift_int (by omega) ?_ ?_))
local macro_rules | `(tactic| walk_at "binaryOp RShift int int") => `(tactic| (k_here; refine rshift_int (by omega) ?_))
local macro_rules | `(tactic| walk_at "inplaceOp LShift int int") => `(tactic| (k_here; refine ilshift_int (by omega) ?_ ?_))
local macro_rules | `(tactic| walk_at "inplaceOp RShift int int") => `(tactic| (k_here; refine irshift_int (by omega) ?_))
local macro_rules | `(tactic| walk_at "call ref") => `(tactic| (k_here; (with_reducible show wpAny _ _ (call (Value.ref 21) _) _ _ _); k_dflt (refine' ctr_use ?k1 ?k2 ?k3 ?k4 ?k5 ?kK ?kG (div2n1n_base _ _ _ _ _ _ _ _ ?_ ?_ ?_) ?kd ?ku ?_; (case k1 => k_asm); (case k2 => k_asm); (case k3 => k_asm); (case k4 => k_asm); (case k5 => k_asm); (case kK => first | exact rfl | assumption); (case kG => assumption); (case kd => ktr_room); (case ku => ktr_units)); rotate_right; intro v' n' h' tk' F' N' hp'; obtain ⟨D', t1', t2', e1', e2'⟩ := hp'; subst e1'; subst e2'; (try k_sweep)))

local macro_rules | `(tactic| walk_at "mine shift") => `(tactic| (refine Int.le_trans (Int.add_le_add_right (Int.ofNat_le.mpr (show _ ≤ 20000 from ?_)) _) (by omega)))
theorem div3n2n (news : List (Addr × Obj)) (a12 a3 b b1 b2 : Int) (n : Nat) (t1 t2 t3 t4 t5 t6 : Tok) (ha : 0 ≤ a12) (ha3 : 0 ≤ a3) (ha3' : a3 < 2 ^ n) (hb : b = b1 * 2 ^ n + b2) (hb1 : 0 < b1) (hb2 : 0 ≤ b2) (hb2' : b2 < 2 ^ n)
    (hlt : a12 * 2 ^ n + a3 < 2 ^ n * b) (hn : n ≤ 4000) (hbb : Builtin.Int.intBits b ≤ 8000) (hab : Builtin.Int.intBits a12 ≤ 8000) (hbit : (Builtin.Int.intBits a12 : Int) - n ≤ 4000) :
    Ct w loose mean mg mb 28 4 32 news [.int a12 t1, .int a3 t2, .int b t3, .int b1 t4, .int b2 t5, .int (n : Int) t6]
      (fun v news' => ∃ D tq tr, v = .ref D ∧ news' = (D, tup2 ((a12 * 2 ^ n + a3) / b) ((a12 * 2 ^ n + a3) % b) tq tr) :: news) := by
  have hp := two_pow_pos n
  have hbb1 : b1 ≤ b := by
    have : b1 * 1 ≤ b1 * 2 ^ n := Int.mul_le_mul_of_nonneg_left (by omega) (by omega)
    omega
  have hB1 : Builtin.Int.intBits b1 ≤ 8000 := bits_mono (by omega) hbb1 hbb
  have hB2 : Builtin.Int.intBits b2 ≤ 4000 := Nat.le_trans (bits_of_lt hb2 hb2') hn
  have hQ : Builtin.Int.intBits (1 * 2 ^ n - 1 : Int) ≤ 4000 := Nat.le_trans (bits_of_lt (by omega) (by omega)) hn
  have hL := log2_of_bits hB1 (by omega)
  have h1 : Builtin.Int.intBits (1 : Int) ≤ 20000 := by decide +kernel
  unfold Ct
  k_fill
  unfold Ctr
  intro dp un gd cn cs a' ccd cl outer A₀ base h₀ L m s Q E B F X N T hk hG hd hu hret
  refine wpAny_call ?_
  k_dflt cell_enter
  (try (with_reducible show wpAny _ _ _ _ _ _)); (try k_fold)
  k_steps
  all_goals (try simp only [Int.toNat_natCast] at *)
  all_goals try exact hL
  all_goals try (walk_at "mine shift"; exact h1)
  all_goals try (walk_at "mine shift"; exact Nat.le_trans hB1 (by omega))
  all_goals try exact IntMulOk.of_le hQ hB2 (by omega)
  · walk_at "mine shift"
    have hh : Builtin.Int.intBits (a12 - b1 * 2 ^ n) ≤ max 8000 16001 + 1 := intBits_sub_le hab (intBits_mul_le hB1 (show _ ≤ 8001 from Nat.le_trans (intBits_pow_le (m := 2) (by decide +kernel) n) (by omega)))
    exact Nat.le_trans (intBits_add_le hh hB1) (by omega)
  · have hq : a12.fdiv (2 ^ n) = b1 := by assumption
    obtain ⟨e1, e2, e3⟩ := d3_lt1 hb hq ha3 ha3' hb1 hlt
    have e4 := d3_eq hb e2 e1 ha3 ha3'
    unfold Stop; rename Fr _ _ _ _ => FL; rename News _ _ _ _ => NL
    refine while_stR (σ := Int × Int × Tok × Tok) (c₀ := ⟨_, _, _, _⟩) FL NL (fun m c y => if y = Str.ofString "r" then some (.int c.2.1 c.2.2.2) else if y = Str.ofString "q" then some (.int c.1 c.2.2.1) else m y) (fun news _ => news)
      (fun k c => a12 * 2 ^ n + a3 = c.1 * b + c.2.1 ∧ c.2.1 < b ∧ k = (-c.2.1).toNat) (by passes_own) (canon2 (by exact rfl) (by exact rfl) (fun _ _ _ => rfl)) rfl ⟨e4, e3, rfl⟩ ?_
    clear FL NL
    rintro k ⟨qv, rv, tq, tr⟩ h tk R ⟨j1, j2, j3⟩ F1 N1 hRn hRc hRb hRr
    dsimp only at j1 j2 j3 F1
    (try (with_reducible show wpAny _ _ _ _ _ _)); (try k_fold)
    k_steps
    · dsimp only
      refine hRn _ ⟨_, ⟨_, _, _, _⟩, _, _, rfl, fr_congr (by assumption) (canon2 (by exact rfl) (by exact rfl) (fun y h1 h2 => by simp only [if_neg h1, if_neg h2])), by assumption, ?_, ?_, ?_, rfl⟩
      · dsimp only; omega
      · dsimp only; rw [j1]; grind
      · dsimp only; omega
    · obtain ⟨u1, u2⟩ := ediv_emod_of (a := a12 * 2 ^ n + a3) (b := b) (q := qv) (r := rv) (by omega) j2 j1
      rename News _ _ _ _ => N2
      refine hret _ _ _ _ (by assumption) (news_sub N2 (fun p hp => ?_)) ⟨_, tq, tr, rfl, rfl⟩
      rw [← u1, ← u2] at hp
      simp only [List.mem_cons] at hp ⊢
      rcases hp with hp | hp
      · exact Or.inl hp
      · simp [hp]
  · walk_at "mine shift"
    exact Nat.le_trans (bits_mono (Int.emod_nonneg _ (by omega)) (Int.le_of_lt (Int.emod_lt_of_pos _ hb1)) hB1) (by omega)
  · obtain ⟨e1, e2, e3⟩ := d3_lt2 hb ha ha3 ha3' hb1 hb2
    have e4 := d3_eq hb e2 e1 ha3 ha3'
    unfold Stop; rename Fr _ _ _ _ => FL; rename News _ _ _ _ => NL
    refine while_stR (σ := Int × Int × Tok × Tok) (c₀ := ⟨_, _, _, _⟩) FL NL (fun m c y => if y = Str.ofString "r" then some (.int c.2.1 c.2.2.2) else if y = Str.ofString "q" then some (.int c.1 c.2.2.1) else m y) (fun news _ => news)
      (fun k c => a12 * 2 ^ n + a3 = c.1 * b + c.2.1 ∧ c.2.1 < b ∧ k = (-c.2.1).toNat) (by passes_own) (canon2 (by exact rfl) (by exact rfl) (fun _ _ _ => rfl)) rfl ⟨e4, e3, rfl⟩ ?_
    clear FL NL
    rintro k ⟨qv, rv, tq, tr⟩ h tk R ⟨j1, j2, j3⟩ F1 N1 hRn hRc hRb hRr
    dsimp only at j1 j2 j3 F1
    (try (with_reducible show wpAny _ _ _ _ _ _)); (try k_fold)
    k_steps
    · dsimp only
      refine hRn _ ⟨_, ⟨_, _, _, _⟩, _, _, rfl, fr_congr (by assumption) (canon2 (by exact rfl) (by exact rfl) (fun y h1 h2 => by simp only [if_neg h1, if_neg h2])), by assumption, ?_, ?_, ?_, rfl⟩
      · dsimp only; omega
      · dsimp only; rw [j1]; grind
      · dsimp only; omega
    · obtain ⟨u1, u2⟩ := ediv_emod_of (a := a12 * 2 ^ n + a3) (b := b) (q := qv) (r := rv) (by omega) j2 j1
      rename News _ _ _ _ => N2
      refine hret _ _ _ _ (by assumption) (news_sub N2 (fun p hp => ?_)) ⟨_, tq, tr, rfl, rfl⟩
      rw [← u1, ← u2] at hp
      simp only [List.mem_cons] at hp ⊢
      rcases hp with hp | hp
      · exact Or.inl hp
      · simp [hp]
  · refine IntMulOk.of_le (bits_mono (Int.ediv_nonneg ha (by omega)) ?_ hab) hB2 (by omega)
    exact Int.ediv_le_self _ ha

theorem div3n2nI (news : List (Addr × Obj)) (a12 a3 b b1 b2 ni : Int) (t1 t2 t3 t4 t5 t6 : Tok) (h0 : 0 ≤ ni) (hn : ni ≤ 4000) (ha : 0 ≤ a12) (ha3 : 0 ≤ a3 ∧ a3 < 2 ^ ni.toNat) (hb : b = b1 * 2 ^ ni.toNat + b2) (hb1 : 0 < b1) (hb2 : 0 ≤ b2 ∧ b2 < 2 ^ ni.toNat)
    (hlt : a12 * 2 ^ ni.toNat + a3 < 2 ^ ni.toNat * b) (hbb : Builtin.Int.intBits b ≤ 8000) (hab : Builtin.Int.intBits a12 ≤ 8000 ∧ (Builtin.Int.intBits a12 : Int) - ni ≤ 4000) :
    Ct w loose mean mg mb 28 4 32 news [.int a12 t1, .int a3 t2, .int b t3, .int b1 t4, .int b2 t5, .int ni t6]
      (fun v news' => ∃ D q r tq tr, v = .ref D ∧ news' = (D, tup2 q r tq tr) :: news ∧ a12 * 2 ^ ni.toNat + a3 = q * b + r ∧ 0 ≤ r ∧ r < b) := by
  obtain ⟨n, rfl⟩ := Int.eq_ofNat_of_zero_le h0
  simp only [Int.toNat_natCast] at *
  have hp := two_pow_pos n
  have hb0 : 0 < b := by
    have : 0 ≤ b1 * 2 ^ n := Int.mul_nonneg (by omega) (by omega)
    have : 1 * 2 ^ n ≤ b1 * 2 ^ n := Int.mul_le_mul_of_nonneg_right (by omega) (by omega)
    omega
  have C := div3n2n w (loose := loose) (mean := mean) (mg := mg) (mb := mb) news a12 a3 b b1 b2 n t1 t2 t3 t4 t5 t6 ha ha3.1 ha3.2 hb hb1 hb2.1 hb2.2 hlt (by omega) hbb hab.1 hab.2
  unfold Ct Ctr at C ⊢
  intro dp un gd cn cs a' ccd cl outer A₀ base h₀ L m s Q E B F X N T hk hG hd hu hret
  refine C _ _ _ _ _ _ _ _ _ _ _ _ _ _ _ _ _ B F X N T hk hG hd hu fun v news' h' tk' F' N' hp' => hret v news' h' tk' F' N' ?_
  obtain ⟨D, tq, tr, e1, e2⟩ := hp'
  refine ⟨D, _, _, tq, tr, e1, e2, ?_, Int.emod_nonneg _ (by omega), Int.emod_lt_of_pos _ hb0⟩
  exact (Int.ediv_mul_add_emod _ b).symm
end Mine
end
section
open PySem PySem.W PySem.Spec PySem.Calls PyProof.Rows
set_option maxRecDepth 100000
set_option maxHeartbeats 8000000
namespace Mine
/-- the walker as it is ahead of a head -/
theorem walker_anew_P2 : True := by
  w_top off
  exact True.intro
variable (w : World) {loose : List Str} {mean : ExcName → Option Value} {mg mb : Str → Option Value}
section
variable {prog : Program} {A : Around} {E : Value → Shared → Prop} {s : Shared} {a n : Int} {t u : Tok} {Q : Value → Shared → Prop}
theorem rshift_v (hn : 0 ≤ n) (h : Q (.int (a / 2 ^ n.toNat) s.toks) { s with toks := s.toks + 1 }) : wpAny (model prog w) A (binaryOp .RShift (.int a t) (.int n u)) Q E s :=
  rshift_int hn (by rw [fdiv_pos _ (two_pow_pos _)]; exact h)
theorem irshift_v (hn : 0 ≤ n) (h : Q (.int (a / 2 ^ n.toNat) s.toks) { s with toks := s.toks + 1 }) : wpAny (model prog w) A (inplaceOp .RShift (.int a t) (.int n u)) Q E s :=
  irshift_int hn (by rw [fdiv_pos _ (two_pow_pos _)]; exact h)
theorem floordiv_v {b : Int} (hb : 0 < b) (hp : b.natAbs.log2 < 9000) (h : Q (.int (a / b) s.toks) { s with toks := s.toks + 1 }) : wpAny (model prog w) A (binaryOp .FloorDiv (.int a t) (.int b u)) Q E s :=
  floordiv_int (by omega) (by rw [fdiv_pos _ hb]; exact h) (Or.inl (PyProof.noPylong_of_log2 hp))
theorem mod_v {b : Int} (hb : 0 < b) (h : Q (.int (a % b) s.toks) { s with toks := s.toks + 1 }) : wpAny (model prog w) A (binaryOp .Mod (.int a t) (.int b u)) Q E s :=
  mod_int (by omega) (by rw [fmod_pos _ hb]; exact h)
end
local macro_rules | `(tactic| walk_at "storeName") => `(tactic| (k_here; k_dflt (refine' storeX_Lf ?F ?N ?_ ?a ?b; (case F => k_asm); (case N => k_asm); (case a => rfl); (case b => rfl); k_whole; intro h' tk' F' N'; (try k_sweep))))
local macro_rules | `(tactic| walk_at "call builtin:divmod") => `(tactic| (k_here; refine divmod_step _ (by assumption) (by assumption) (by assumption) (by assumption) ?_; intro h' D' t1' t2' tk' F' N' l1; (try k_sweep)))
local macro_rules | `(tactic| walk_at "exec While Compare cons nil") => `(tactic| (k_here; refine stop ?_))
local macro_rules | `(tactic| walk_at "binaryOp Mult int int") => `(tactic| (k_here; refine mul_int ?_ ?_))
local macro_rules | `(tactic| walk_at "binaryOp LShift int int") => `(tactic| (k_here; refine lshift_int ?_ ?_ ?_))
local macro_rules | `(tactic| walk_at "binaryOp RShift int int") => `(tactic| (k_here; refine rshift_v _ ?_ ?_))
local macro_rules | `(tactic| walk_at "inplaceOp LShift int int") => `(tactic| (k_here; refine ilshift_int ?_ ?_ ?_))
local macro_rules | `(tactic| walk_at "inplaceOp RShift int int") => `(tactic| (k_here; refine irshift_v _ ?_ ?_))
local macro_rules | `(tactic| walk_at "binaryOp FloorDiv int int") => `(tactic| (k_here; refine floordiv_v _ ?_ ?_ ?_))
local macro_rules | `(tactic| walk_at "binaryOp Mod int int") => `(tactic| (k_here; refine mod_v _ ?_ ?_))
local macro_rules | `(tactic| k_all) => `(tactic| exact LowAll.ne (by assumption) (by omega))
local macro_rules | `(tactic| k_all) => `(tactic| assumption)
local macro_rules | `(tactic| walk_at "exec FunctionDef") => `(tactic| (k_here; k_dflt (refine' nestDef_K ?d0 ?k0 ?a0 ?_; (case d0 => exact rfl); (case k0 => exact rfl); (case a0 => exact rfl)); refine stop ?_))
local macro_rules | `(tactic| walk_at "call builtin:len") => `(tactic| (k_here; (with_reducible show wpAny _ _ (call (Value.builtin "len") [Value.ref _]) _ _ _); k_dflt (refine' len_at ?k1 ?k2 ?_ ?_; (case k1 => k_asm); (case k2 => k_mem)); rotate_right))
local macro_rules | `(tactic| walk_at "eval Name") => `(tactic| (k_here; k_dflt (refine' nameX_F ?N ?c ?m ?d ?_ ?a ?b; (case a => rfl); (case b => rfl); (case N => k_asm); (case c => rfl); (case m => first | assumption | exact List.mem_cons_of_mem _ (by assumption)); (case d => k_asm); k_whole)))
local macro_rules | `(tactic| walk_at "FnAt") => `(tactic| (k_dflt (exact FnAt.of (by k_asm) (by first | assumption | exact List.mem_cons_of_mem _ (by assumption)))))
local macro_rules | `(tactic| walk_at "callWith ref") => `(tactic| (k_here; kn_here; k_dflt (refine' callWith_F ?k1 ?_; (case k1 => exact FnAt.of (by k_asm) (by first | assumption | exact List.mem_cons_of_mem _ (by assumption))); k_whole)))
local macro_rules | `(tactic| walk_at "truthy ref") => `(tactic| (k_here; (with_reducible show wpAny _ _ (truthy (Value.ref _)) _ _ _); k_dflt (refine' truthy_at ?k1 ?k2 ?_ ?_; (case k1 => k_asm); (case k2 => k_mem)); rotate_right))
local macro_rules | `(tactic| k_mem) => `(tactic| assumption)
local macro_rules | `(tactic| walk_at "exec For Name Call cons nil") => `(tactic| (k_here; (rename Fr _ _ _ _ => lF'); (with_unfolding_all refine' For_invVF lF' ?k1 ?k2 ?_; (case k1 => exact rfl); (case k2 => exact rfl))))
local macro_rules | `(tactic| walk_at "exec For Name Name cons nil") => `(tactic| (k_here; (rename Fr _ _ _ _ => lF'); (with_unfolding_all refine' For_invVF lF' ?k1 ?k2 ?_; (case k1 => exact rfl); (case k2 => exact rfl))))
local macro_rules | `(tactic| walk_at "pyIter ref") => `(tactic| (k_here; refine stop ?_))
local macro_rules | `(tactic| walk_at "call ref") => `(tactic| (k_here; (with_reducible show wpAny _ _ (call (Value.ref 28) _) _ _ _); refine stop ?_))

theorem d2_facts {a b : Int} {h : Nat} (ha : 0 ≤ a) (hb : 0 < b) (hbn : b < 2 ^ (2 * h)) (hbn2 : 2 ^ (2 * h) ≤ 2 * b) (hlt : a < 2 ^ (2 * h) * b) (h1 : 1 ≤ h) :
    b = b / 2 ^ h * 2 ^ h + b % 2 ^ h ∧ 0 < b / 2 ^ h ∧ a / 2 ^ (2 * h) * 2 ^ h + (a / 2 ^ h) % 2 ^ h = a / 2 ^ h ∧ a / 2 ^ h < 2 ^ h * b ∧ 0 ≤ a / 2 ^ (2 * h) ∧ a / 2 ^ (2 * h) < 2 ^ (2 * h) := by
  have hp := two_pow_pos h
  have e : (2 : Int) ^ (2 * h) = 2 ^ h * 2 ^ h := by rw [Nat.two_mul, Int.pow_add]
  have h2 : (2 : Int) ≤ 2 ^ h := by
    obtain ⟨k, rfl⟩ : ∃ k, h = k + 1 := ⟨h - 1, by omega⟩
    have := two_pow_pos k
    rw [Int.pow_succ]; omega
  refine ⟨(Int.ediv_mul_add_emod b _).symm, ?_, ?_, ?_, Int.ediv_nonneg ha (by rw [e]; exact Int.le_of_lt (Int.mul_pos hp hp)), ?_⟩
  · have : 1 ≤ b / 2 ^ h := by
      rw [Int.le_ediv_iff_mul_le hp]
      rw [e] at hbn2
      have : 2 * 2 ^ h ≤ (2 : Int) ^ h * 2 ^ h := Int.mul_le_mul_of_nonneg_right h2 (by omega)
      omega
    omega
  · rw [e, ← Int.ediv_ediv_of_nonneg (by omega)]
    exact Int.ediv_mul_add_emod _ _
  · rw [Int.ediv_lt_iff_lt_mul hp]
    rw [e] at hlt
    have : (2 : Int) ^ h * 2 ^ h * b = 2 ^ h * b * 2 ^ h := by grind
    omega
  · rw [Int.ediv_lt_iff_lt_mul (by rw [e]; exact Int.mul_pos hp hp)]
    have : (2 : Int) ^ (2 * h) * b ≤ 2 ^ (2 * h) * 2 ^ (2 * h) := Int.mul_le_mul_of_nonneg_left (by omega) (by rw [e]; exact Int.le_of_lt (Int.mul_pos hp hp))
    omega

theorem d2_second {a b r1 : Int} {h : Nat} (hr : r1 < b) : r1 * 2 ^ h + a % 2 ^ h < 2 ^ h * b := by
  have hp := two_pow_pos h
  have h1 : a % 2 ^ h < 2 ^ h := Int.emod_lt_of_pos _ hp
  have h2 : r1 * 2 ^ h ≤ (b - 1) * 2 ^ h := Int.mul_le_mul_of_nonneg_right (by omega) (by omega)
  have h3 : (b - 1) * 2 ^ h = 2 ^ h * b - 2 ^ h := by grind
  omega

theorem d2_final {a b q1 r1 q2 r2 : Int} {h : Nat} (ha : 0 ≤ a) (hb : 0 < b) (e1 : a / 2 ^ h = q1 * b + r1) (h1 : 0 ≤ r1) (h1' : r1 < b) (e2 : r1 * 2 ^ h + a % 2 ^ h = q2 * b + r2) (h2 : 0 ≤ r2) (h2' : r2 < b) :
    a = Builtin.bitOr (q1 * 2 ^ h) q2 * b + r2 := by
  have hp := two_pow_pos h
  have h3 := d2_second (a := a) (b := b) (h := h) h1'
  have h4 : 0 ≤ a % 2 ^ h := Int.emod_nonneg _ (by omega)
  have h5 : 0 ≤ r1 * 2 ^ h := Int.mul_nonneg h1 (by omega)
  have hq2 : 0 ≤ q2 := by
    have : 0 < (q2 + 1) * b := by grind
    have := Int.pos_of_mul_pos_left this (by omega)
    omega
  have hq2' : q2 < 2 ^ h := by
    have : q2 * b < 2 ^ h * b := by omega
    exact Int.lt_of_mul_lt_mul_right this (by omega)
  have hA : 0 ≤ a / 2 ^ h := Int.ediv_nonneg ha (by omega)
  have hq1 : 0 ≤ q1 := by
    have : 0 < (q1 + 1) * b := by grind
    have := Int.pos_of_mul_pos_left this (by omega)
    omega
  rw [bitOr_disj hq1 hq2 hq2']
  have := Int.ediv_mul_add_emod a (2 ^ h)
  grind

theorem d2_q1 {a b q1 r1 : Int} {h : Nat} (ha : 0 ≤ a) (hb : 0 < b) (e1 : a / 2 ^ h = q1 * b + r1) (h1 : 0 ≤ r1) (h1' : r1 < b) : 0 ≤ q1 ∧ q1 ≤ a := by
  have hp := two_pow_pos h
  have hA : 0 ≤ a / 2 ^ h := Int.ediv_nonneg ha (by omega)
  have hA' : a / 2 ^ h ≤ a := Int.ediv_le_self _ ha
  have hq1 : 0 ≤ q1 := by
    have : 0 < (q1 + 1) * b := by grind
    have := Int.pos_of_mul_pos_left this (by omega)
    omega
  have : q1 * 1 ≤ q1 * b := Int.mul_le_mul_of_nonneg_left (by omega) hq1
  exact ⟨hq1, by omega⟩
theorem bits_le_8 {x : Int} (h : Nat) (h0 : 0 ≤ x) (hx : x < 2 ^ (2 * h)) (hh : 2 * h ≤ 8001) : Builtin.Int.intBits x ≤ 8000 := Nat.le_trans (bits_of_lt h0 hx) (by omega)
theorem bits_le_4 {x : Int} (h : Nat) (h0 : 0 ≤ x) (hx : x < 2 ^ (2 * h)) (hh : 2 * h ≤ 8001) : (Builtin.Int.intBits x : Int) - (h : Int) ≤ 4000 := by
  have := bits_of_lt h0 hx
  omega

theorem fr_pin' {h₀ h : Heap} {L : Addr} {M : Str → Option Value} (x : Str) {v : Option Value} (F : Fr h₀ L h M) (e : M x = v) : Fr h₀ L h (fun y => if y = x then v else M y) := fr_congr F fun y => by
  by_cases hy : y = x
  · rw [if_pos hy, hy, e]
  · rw [if_neg hy]
/-- what stands behind the first `if pad`, told once for both ways -/
def D2Tail {h₀ h : Heap} {L : Addr} {m : Str → Option Value} (_ : Fr h₀ L h m) (news : List (Addr × Obj)) (a b : Int) (s : Shared) (q : Flow → Shared → Prop) : Prop :=
  ∀ (a9 b9 : Int) (h : Nat) (ta9 tb9 tn9 tp9 : Tok) (p : Int) (m9 : Str → Option Value) (h9 : Heap) (tk9 : Nat), 0 ≤ a9 → 0 < b9 → b9 < 2 ^ (2 * h) → 2 ^ (2 * h) ≤ 2 * b9 → a9 < 2 ^ (2 * h) * b9 → 1 ≤ h → 2 * h ≤ 8000 → Builtin.Int.intBits a9 ≤ 16002 →
      ((p = 0 ∧ a9 = a ∧ b9 = b) ∨ (p ≠ 0 ∧ a9 = a * 2 ∧ b9 = b * 2)) → Fr h₀ L h9 m9 → News h₀ L h9 news → m9 (Str.ofString "a") = some (.int a9 ta9) → m9 (Str.ofString "b") = some (.int b9 tb9) → m9 (Str.ofString "n") = some (.int ((2 * h : Nat) : Int) tn9) → m9 (Str.ofString "pad") = some (.int p tp9) →
      q .next ⟨h9, s.gens, s.drawn, tk9, s.os⟩
/-- the second `if pad` is walked, the first one stops -/
def Late : Prop := True
local macro_rules | `(tactic| walk_at "exec If") => `(tactic| (k_here; (with_reducible show wpAny _ _ (exec (Stmt.If (Expr.Name _ _) _ _ _) _) _ _ _); (fail_if_success (rename Late => hLate)); refine stop ?_))
theorem div2n1n (news : List (Addr × Obj)) (a b : Int) (n : Nat) (ta tb tn : Tok) (ha : 0 ≤ a) (hb : 0 < b) (hbn : b < 2 ^ n) (hbn2 : 2 ^ n ≤ 2 * b) (hlt : a < 2 ^ n * b) (hn : n ≤ 8000) :
    Ct w loose mean mg mb 21 8 64 news [.int a ta, .int b tb, .int (n : Int) tn]
      (fun v news' => ∃ D q r tq tr, v = .ref D ∧ news' = (D, tup2 q r tq tr) :: news ∧ a = q * b + r ∧ 0 ≤ r ∧ r < b) := by
  have hbB : Builtin.Int.intBits b ≤ 8000 := Nat.le_trans (bits_of_lt (Int.le_of_lt hb) hbn) hn
  have hbl := log2_of_bits hbB (by omega)
  have haB : Builtin.Int.intBits a ≤ 16000 := by
    refine Nat.le_trans (bits_of_lt (n := n + n) ha (Int.lt_of_lt_of_le hlt ?_)) (by omega)
    rw [Int.pow_add]
    exact Int.mul_le_mul_of_nonneg_left (by omega) (Int.le_of_lt (two_pow_pos n))
  have h1B : Builtin.Int.intBits (1 : Int) = 1 := by decide +kernel
  unfold Ct
  k_fill
  unfold Ctr
  intro dp un gd cn cs a' ccd cl outer A₀ base h₀ L m s Q E B F X N T hk hG hd hu hret
  refine wpAny_call ?_
  k_dflt cell_enter
  (try (with_reducible show wpAny _ _ _ _ _ _)); (try k_fold)
  k_steps
  all_goals try (refine hret _ _ _ _ (by assumption) (by assumption) ⟨_, _, _, _, _, rfl, rfl, (Int.ediv_mul_add_emod a b).symm, Int.emod_nonneg _ (by omega), Int.emod_lt_of_pos _ hb⟩; done)
  unfold Stop
  rename Fr _ _ _ _ => F1
  rename News _ _ _ _ => N1
  (try (with_reducible show wpAny _ _ _ _ _ _)); (try k_fold)
  rename Flow → Shared → Prop => q9
  rename Value → Shared → Prop => e9
  have tail : D2Tail F1 news a b s q9 := by
    unfold D2Tail
    intro a9 b9 h ta9 tb9 tn9 tp9 p m9 h9 tk9 ha' hb' hb2 hb3 ha2 hh1 hh8 haB9 hor F9 N9 e_a e_b e_n e_pad
    have late : Late := trivial
    clear F1 N1
    replace F9 := fr_pin' (Str.ofString "a") F9 e_a
    replace F9 := fr_pin' (Str.ofString "b") F9 e_b
    replace F9 := fr_pin' (Str.ofString "n") F9 e_n
    replace F9 := fr_pin' (Str.ofString "pad") F9 e_pad
    clear e_a e_b e_n e_pad
    have e1 : ((2 * h : Nat) : Int) / 2 = (h : Int) := by omega
    have e2 : ((2 * h : Nat) : Int).toNat = 2 * h := by omega
    have e3 : Int.toNat 1 = 1 := rfl
    have e4 : (1 : Int) * 2 ^ h - 1 = 2 ^ h - 1 := by rw [Int.one_mul]
    have hm1 := bitAnd_mask (x := a9 / 2 ^ h) (n := h) (Int.ediv_nonneg ha' (Int.le_of_lt (two_pow_pos h)))
    have hm2 := bitAnd_mask (x := a9) (n := h) ha'
    have hm3 := bitAnd_mask (x := b9) (n := h) (by omega)
    obtain ⟨f1, f2, f3, f4, f5, f6⟩ := d2_facts (a := a9) (b := b9) (h := h) ha' hb' hb2 hb3 ha2 hh1
    have hbB' : Builtin.Int.intBits b9 ≤ 8000 := Nat.le_trans (bits_of_lt (Int.le_of_lt hb') hb2) hh8
    have aN := ha'; have bN := hb'
    dsimp only [q9]
    (try (with_reducible show wpAny _ _ _ _ _ _)); (try k_fold)
    k_steps
    unfold Stop
    simp only [e2, e3, Int.pow_one]
    simp only [e1, Int.toNat_natCast, e4]
    simp only [hm1, hm2, hm3]
    refine' ctr_use ?k1 ?k2 ?k3 ?k4 ?k5 ?kK ?kG (div3n2nI w _ _ _ _ _ _ _ _ _ _ _ _ _ (Int.natCast_nonneg h) (by omega) f5 ?q1 f1 f2 ?q2 ?q3 ?q4 ?q5) ?kd ?ku ?_
    case k1 => k_asm
    case k2 => k_asm
    case k3 => k_asm
    case k4 => k_asm
    case k5 => k_asm
    case kK => first | exact rfl | assumption
    case kG => assumption
    case kd => ktr_room
    case ku => ktr_units
    case q1 => simp only [Int.toNat_natCast]; exact ⟨Int.emod_nonneg _ (Int.ne_of_gt (two_pow_pos h)), Int.emod_lt_of_pos _ (two_pow_pos h)⟩
    case q2 => simp only [Int.toNat_natCast]; exact ⟨Int.emod_nonneg _ (Int.ne_of_gt (two_pow_pos h)), Int.emod_lt_of_pos _ (two_pow_pos h)⟩
    case q3 => simp only [Int.toNat_natCast]; rw [f3]; exact f4
    case q4 => exact hbB'
    case q5 => exact ⟨bits_le_8 h f5 f6 (by omega), bits_le_4 h f5 f6 (by omega)⟩
    intro v' n' h' tk' F1 N1 hp'
    obtain ⟨D1, q1, r1, t1', t2', v1, v2, v3, v4, v5⟩ := hp'
    subst v1; subst v2
    simp only [Int.toNat_natCast, f3] at v3
    (try k_sweep)
    (try (with_reducible show wpAny _ _ _ _ _ _)); (try k_fold)
    k_steps
    unfold Stop
    try simp only [e2, e3, Int.pow_one]
    try simp only [e1, Int.toNat_natCast, e4]
    try simp only [hm1, hm2, hm3]
    refine' ctr_use ?k1 ?k2 ?k3 ?k4 ?k5 ?kK ?kG (div3n2nI w _ _ _ _ _ _ _ _ _ _ _ _ _ (Int.natCast_nonneg h) (by omega) v4 ?q1 f1 f2 ?q2 ?q3 ?q4 ?q5) ?kd ?ku ?_
    case k1 => k_asm
    case k2 => k_asm
    case k3 => k_asm
    case k4 => k_asm
    case k5 => k_asm
    case kK => first | exact rfl | assumption
    case kG => assumption
    case kd => ktr_room
    case ku => ktr_units
    case q1 => simp only [Int.toNat_natCast]; exact ⟨Int.emod_nonneg _ (Int.ne_of_gt (two_pow_pos h)), Int.emod_lt_of_pos _ (two_pow_pos h)⟩
    case q2 => simp only [Int.toNat_natCast]; exact ⟨Int.emod_nonneg _ (Int.ne_of_gt (two_pow_pos h)), Int.emod_lt_of_pos _ (two_pow_pos h)⟩
    case q3 => simp only [Int.toNat_natCast]; exact d2_second v5
    case q4 => exact hbB'
    case q5 => exact ⟨Nat.le_trans (bits_of_lt v4 (Int.lt_trans v5 hb2)) (by omega), bits_le_4 h v4 (Int.lt_trans v5 hb2) (by omega)⟩
    intro v' n' h' tk' F1 N1 hp'
    obtain ⟨D2, q2, r2, t1', t2', w1, w2, w3, w4, w5⟩ := hp'
    subst w1; subst w2
    simp only [Int.toNat_natCast] at w3
    (try k_sweep)
    have fin := d2_final (h := h) aN bN v3 v4 v5 w3 w4 w5
    k_steps
    all_goals try (show (0 : Int) ≤ _ / 2 ^ 1; omega)
    all_goals try (show _ + _ / 2 ^ 1 ≤ (2 : Int) ^ 27; (have hq := d2_q1 (h := h) aN bN v3 v4 v5); (have := bits_mono (n := 16002) hq.1 hq.2 haB9); omega)
    · rename News _ _ _ _ => N2
      simp only [e3, Int.pow_one] at N2
      simp only [e1, Int.toNat_natCast] at N2
      rcases hor with ⟨hp, rfl, rfl⟩ | ⟨hp, rfl, rfl⟩
      · exact absurd hp (by assumption)
      · refine hret _ _ _ _ (by assumption) (news_head N2 (fun p hp => by simp [hp])) ⟨_, _, _, _, _, rfl, rfl, ?_, ?_, ?_⟩
        · grind
        · omega
        · omega
    · rename News _ _ _ _ => N2
      simp only [e3, Int.pow_one] at N2
      simp only [e1, Int.toNat_natCast] at N2
      rcases hor with ⟨hp, rfl, rfl⟩ | ⟨hp, rfl, rfl⟩
      · exact hret _ _ _ _ (by assumption) (news_head N2 (fun p hp => by simp [hp])) ⟨_, _, _, _, _, rfl, rfl, fin, w4, w5⟩
      · exact absurd (by assumption) hp
  clear_value q9 e9
  have late : Late := trivial
  k_steps
  · have hodd : n % 2 = 1 := by
      have : Builtin.bitAnd (n : Int) 1 ≠ 0 := by assumption
      rw [bitAnd_m1] at this; omega
    obtain ⟨h, hh⟩ : ∃ h : Nat, n + 1 = 2 * h := ⟨(n + 1) / 2, by omega⟩
    have ep : (2 : Int) ^ (2 * h) = 2 ^ n * 2 := by rw [← hh, Int.pow_succ]
    rename Fr _ _ _ _ => F8
    rename News _ _ _ _ => N8
    exact tail (a * 2) (b * 2) h _ _ _ _ (Builtin.bitAnd (n : Int) 1) _ _ _ (by omega) (by omega) (by omega) (by omega) (by rw [ep]; grind) (by omega) (by omega) (Nat.le_trans (intBits_mul_le haB (show _ ≤ 2 from by decide +kernel)) (by omega)) (.inr ⟨by assumption, rfl, rfl⟩) F8 N8 rfl rfl (show some (Value.int ((n : Int) + 1) _) = _ by rw [show (n : Int) + 1 = ((2 * h : Nat) : Int) by omega]) rfl
  · have heven : n % 2 = 0 := by
      have : Builtin.bitAnd (n : Int) 1 = 0 := by assumption
      rw [bitAnd_m1] at this; omega
    obtain ⟨h, hh⟩ : ∃ h : Nat, n = 2 * h := ⟨n / 2, by omega⟩
    rename Fr _ _ _ _ => F8
    rename News _ _ _ _ => N8
    exact tail a b h _ _ _ _ (Builtin.bitAnd (n : Int) 1) _ _ _ ha hb (by rw [← hh]; exact hbn) (by rw [← hh]; exact hbn2) (by rw [← hh]; exact hlt) (by have : n ≠ 0 := by { intro e; rw [e] at hbn; simp at hbn; omega }; omega) (by omega) (by omega) (.inl ⟨by assumption, rfl, rfl⟩) F8 N8 rfl rfl (by rw [← hh]; rfl) rfl
end Mine
end
section
open PySem PySem.W PySem.Spec PySem.Calls PyProof.Rows
set_option maxRecDepth 100000
set_option maxHeartbeats 4000000
namespace Mine
local macro_rules | `(tactic| walk_at "storeName") => `(tactic| (k_here; k_dflt (refine' storeX_Lf ?F ?N ?_ ?a ?b; (case F => k_asm); (case N => k_asm); (case a => rfl); (case b => rfl); k_whole; intro h' tk' F' N'; (try k_sweep))))
local macro_rules | `(tactic| walk_at "call builtin:divmod") => `(tactic| (k_here; refine divmod_step _ (by assumption) (by assumption) (by assumption) (by assumption) ?_; intro h' D' t1' t2' tk' F' N' l1; (try k_sweep)))
local macro_rules | `(tactic| walk_at "exec While Compare cons nil") => `(tactic| (k_here; refine stop ?_))
local macro_rules | `(tactic| walk_at "binaryOp Mult int int") => `(tactic| (k_here; refine mul_int ?_ ?_))
local macro_rules | `(tactic| walk_at "binaryOp LShift int int") => `(tactic| (k_here; refine lshift_int ?_ ?_ ?_))
local macro_rules | `(tactic| walk_at "binaryOp RShift int int") => `(tactic| (k_here; refine rshift_v _ ?_ ?_))
local macro_rules | `(tactic| walk_at "inplaceOp LShift int int") => `(tactic| (k_here; refine ilshift_int ?_ ?_ ?_))
local macro_rules | `(tactic| walk_at "inplaceOp RShift int int") => `(tactic| (k_here; refine irshift_v _ ?_ ?_))
local macro_rules | `(tactic| walk_at "binaryOp FloorDiv int int") => `(tactic| (k_here; refine floordiv_v _ ?_ ?_ ?_))
local macro_rules | `(tactic| walk_at "binaryOp Mod int int") => `(tactic| (k_here; refine mod_v _ ?_ ?_))
local macro_rules | `(tactic| k_all) => `(tactic| exact LowAll.ne (by assumption) (by omega))
local macro_rules | `(tactic| k_all) => `(tactic| assumption)
local macro_rules | `(tactic| walk_at "exec FunctionDef") => `(tactic| (k_here; k_dflt (refine' nestDef_K ?d0 ?k0 ?a0 ?_; (case d0 => exact rfl); (case k0 => exact rfl); (case a0 => exact rfl)); refine stop ?_))
local macro_rules | `(tactic| walk_at "call builtin:len") => `(tactic| (k_here; (with_reducible show wpAny _ _ (call (Value.builtin "len") [Value.ref _]) _ _ _); k_dflt (refine' len_at ?k1 ?k2 ?_ ?_; (case k1 => k_asm); (case k2 => k_mem)); rotate_right))
local macro_rules | `(tactic| walk_at "eval Name") => `(tactic| (k_here; k_dflt (refine' nameX_F ?N ?c ?m ?d ?_ ?a ?b; (case a => rfl); (case b => rfl); (case N => k_asm); (case c => rfl); (case m => first | assumption | exact List.mem_cons_of_mem _ (by assumption)); (case d => k_asm); k_whole)))
local macro_rules | `(tactic| walk_at "FnAt") => `(tactic| (k_dflt (exact FnAt.of (by k_asm) (by first | assumption | exact List.mem_cons_of_mem _ (by assumption)))))
local macro_rules | `(tactic| walk_at "callWith ref") => `(tactic| (k_here; kn_here; k_dflt (refine' callWith_F ?k1 ?_; (case k1 => exact FnAt.of (by k_asm) (by first | assumption | exact List.mem_cons_of_mem _ (by assumption))); k_whole)))
local macro_rules | `(tactic| walk_at "truthy ref") => `(tactic| (k_here; (with_reducible show wpAny _ _ (truthy (Value.ref _)) _ _ _); k_dflt (refine' truthy_at ?k1 ?k2 ?_ ?_; (case k1 => k_asm); (case k2 => k_mem)); rotate_right))
local macro_rules | `(tactic| k_mem) => `(tactic| assumption)
local macro_rules | `(tactic| walk_at "exec For Name Call cons nil") => `(tactic| (k_here; (rename Fr _ _ _ _ => lF'); (with_unfolding_all refine' For_invVF lF' ?k1 ?k2 ?_; (case k1 => exact rfl); (case k2 => exact rfl))))
local macro_rules | `(tactic| walk_at "exec For Name Name cons nil") => `(tactic| (k_here; (rename Fr _ _ _ _ => lF'); (with_unfolding_all refine' For_invVF lF' ?k1 ?k2 ?_; (case k1 => exact rfl); (case k2 => exact rfl))))
local macro_rules | `(tactic| walk_at "pyIter ref") => `(tactic| (k_here; refine stop ?_))
section
open PySem PySem.W PySem.Spec PySem.Calls PyProof.Rows
set_option maxRecDepth 100000
set_option maxHeartbeats 1200000
/-- the walker as it is ahead of a head -/
theorem walker_anew_P3 : True := by
  w_top off
  exact True.intro
local macro_rules | `(tactic| walk_at "pad 0") => `(tactic| fail "pad")
variable (w : World) {loose : List Str} {mean : ExcName → Option Value} {mg mb : Str → Option Value}
local macro_rules | `(tactic| walk_at "binaryOp Mult ref int") => `(tactic| (k_here; refine stop ?_))
local macro_rules | `(tactic| walk_at "call ref") => `(tactic| (k_here; refine stop ?_))

def digs (b : Int) : Nat → Int → List Int
  | 0, _ => []
  | k + 1, x => x % b :: digs b k (x / b)

theorem digs_length (b : Int) : ∀ (k : Nat) (x : Int), (digs b k x).length = k
  | 0, _ => rfl
  | k + 1, x => by simp [digs, digs_length b k]
theorem digs_one {b x : Int} (h0 : 0 ≤ x) (h : x < b) : digs b 1 x = [x] := by simp [digs, Int.emod_eq_of_lt h0 h]
theorem digs_add {b : Int} (hb : 0 < b) (j : Nat) : ∀ (i : Nat) (x : Int), digs b (i + j) x = digs b i (x % b ^ i) ++ digs b j (x / b ^ i)
  | 0, x => by simp [digs]
  | i + 1, x => by
    have hp : (0 : Int) < b ^ i := Int.pow_pos hb
    have e1 : i + 1 + j = (i + j) + 1 := by omega
    rw [e1, digs, digs, digs_add hb j i]
    have h1 : x % b ^ (i + 1) % b = x % b := Int.emod_emod_of_dvd x ⟨b ^ i, by rw [Int.pow_succ, Int.mul_comm]⟩
    have h2 : x % b ^ (i + 1) / b = x / b % b ^ i := by
      have h3 := Int.ediv_mul_add_emod x (b ^ (i + 1))
      have e : x % b ^ (i + 1) = x - x / b ^ (i + 1) * b ^ (i + 1) := by omega
      have e2 : x / b ^ (i + 1) = x / b / b ^ i := by rw [Int.pow_succ, Int.mul_comm, ← Int.ediv_ediv_of_nonneg (by omega)]
      rw [Int.emod_def (x / b), ← e2, e]
      have e3 : x - x / b ^ (i + 1) * b ^ (i + 1) = x + (-(b ^ i * (x / b ^ (i + 1)))) * b := by rw [Int.pow_succ]; grind
      rw [e3, Int.add_mul_ediv_right _ _ (by omega)]
      omega
    have h4 : x / b ^ (i + 1) = x / b / b ^ i := by rw [Int.pow_succ, Int.mul_comm, ← Int.ediv_ediv_of_nonneg (by omega)]
    rw [h1, h2, h4]
    simp

theorem splice_two {ns d1 d2 : List Int} {l k1 k2 : Nat} (h1 : d1.length = k1) (h2 : d2.length = k2) (hl : l + k1 + k2 ≤ ns.length) :
    (ns.take l ++ d1 ++ ns.drop (l + k1)).take (l + k1) ++ d2 ++ (ns.take l ++ d1 ++ ns.drop (l + k1)).drop (l + k1 + k2) = ns.take l ++ (d1 ++ d2) ++ ns.drop (l + (k1 + k2)) := by
  have e1 : (ns.take l ++ d1).length = l + k1 := by simp [h1]; omega
  rw [List.take_append_of_le_length (by omega), List.take_of_length_le (by omega), List.drop_append, List.drop_eq_nil_of_le (by omega), e1, List.drop_drop]
  have e2 : l + k1 + (l + k1 + k2 - (l + k1)) = l + (k1 + k2) := by omega
  rw [e2]
  simp
theorem splice_len {ns d : List Int} {l k : Nat} (h1 : d.length = k) (hl : l + k ≤ ns.length) : (ns.take l ++ d ++ ns.drop (l + k)).length = ns.length := by
  simp [h1]; omega
theorem splice_one {ns : List Int} {l : Nat} {x : Int} (hl : l < ns.length) : ns.set l x = ns.take l ++ [x] ++ ns.drop (l + 1) := by
  rw [List.set_eq_take_append_cons_drop, if_pos hl]; simp
theorem pow_mul_toNat {n : Int} (hn : 0 ≤ n) (k : Nat) : (2 : Int) ^ ((k : Int) * n).toNat = (2 ^ n.toNat) ^ k := by
  obtain ⟨j, rfl⟩ := Int.eq_ofNat_of_zero_le hn
  rw [← Int.natCast_mul, Int.toNat_natCast, Int.toNat_natCast, ← Int.pow_mul, Nat.mul_comm]

theorem log2_small {n : Int} (hn : 1 ≤ n) (hn2 : n ≤ 100000) : n.natAbs.log2 < 9000 := by
  have : n.natAbs.log2 < 17 := (Nat.log2_lt (by omega)).mpr (by omega)
  omega
theorem int2digits (tl news : List (Addr × Obj)) (hT : TabsL tl) (hN : HiL news) (a n : Int) (ta tn : Tok) (ha : 0 ≤ a) (hn : 1 ≤ n) (hn2 : n ≤ 100000) (hsz : (Builtin.Int.intBits a : Int) ≤ 64 * n) :
    Ct w loose mean mg mb 35 160 2400 (tl ++ news) [.int a ta, .int n tn]
      (fun v news' => ∃ D vs e tl', v = .ref D ∧ news' = (D, W.listOf vs.toArray e) :: (tl' ++ news) ∧ TabsL tl' ∧ IntsAre vs (digs (2 ^ n.toNat) (((Builtin.Int.intBits a : Int) + n - 1) / n).toNat a) ∧
        LowAll D (tl ++ news) ∧ OffL D tl' ∧ AddrG (tl ++ news) tl tl') := by
  have hnl := log2_small hn hn2
  have hK0 : 0 ≤ ((Builtin.Int.intBits a : Int) + n - 1) / n := Int.ediv_nonneg (by omega) (by omega)
  have hK1 : ((Builtin.Int.intBits a : Int) + n - 1) / n ≤ 64 := by
    have : ((Builtin.Int.intBits a : Int) + n - 1) / n < 65 := by rw [Int.ediv_lt_iff_lt_mul (by omega)]; omega
    omega
  have hKa : a < (2 ^ n.toNat) ^ (((Builtin.Int.intBits a : Int) + n - 1) / n).toNat := by
    rw [← Int.pow_mul]
    refine Int.lt_of_lt_of_le (lt_of_bits ha (Nat.le_refl _)) ?_
    have h1 := Int.ediv_mul_add_emod ((Builtin.Int.intBits a : Int) + n - 1) n
    have h2 := Int.emod_lt_of_pos ((Builtin.Int.intBits a : Int) + n - 1) (show 0 < n by omega)
    generalize ((Builtin.Int.intBits a : Int) + n - 1) / n = K at h1 hK0 ⊢
    have h3 : ((n.toNat * K.toNat : Nat) : Int) = K * n := by
      rw [Int.natCast_mul, Int.toNat_of_nonneg hK0, Int.toNat_of_nonneg (by omega), Int.mul_comm]
    have h4 : Builtin.Int.intBits a ≤ n.toNat * K.toNat := by omega
    rw [← two_pow_cast, ← two_pow_cast]
    exact Int.ofNat_le.mpr (Nat.pow_le_pow_right (by omega) h4)
  have hKpos : a ≠ 0 → 1 ≤ (((Builtin.Int.intBits a : Int) + n - 1) / n).toNat := fun h0 => by
    have hb : 1 ≤ Builtin.Int.intBits a := by
      rcases Nat.eq_zero_or_pos (Builtin.Int.intBits a) with h1 | h1
      · have := intBits_le_iff (m := 0).mp (Nat.le_of_eq h1)
        simp at this; omega
      · exact h1
    have : 1 ≤ ((Builtin.Int.intBits a : Int) + n - 1) / n := by rw [Int.le_ediv_iff_mul_le (by omega)]; omega
    omega
  generalize hKe : ((Builtin.Int.intBits a : Int) + n - 1) / n = K at hK0 hK1 hKa hKpos
  obtain ⟨ps1, ps2, ps3, cs, rfl, T1, T2, T3, hcs⟩ := hT
  simp only [List.cons_append]
  have hnR : ∀ p ∈ news, p ∈ cs ++ news := fun p hp => List.mem_append_right _ hp
  have hRh : HiL (cs ++ news) := hcs.app hN
  have hcsR : ∀ p ∈ cs, p ∈ cs ++ news := fun p hp => List.mem_append_left _ hp
  generalize hR : cs ++ news = R at hRh hcsR hnR ⊢
  unfold Ct
  k_fill
  unfold Ctr
  intro dp un gd cn cs₀ a' ccd cl outer A₀ base h₀ L m s Q E B F X N T hk hG hd hu hret
  obtain ⟨hG1, hG2, hG3⟩ := id hG
  refine wpAny_call ?_
  k_dflt (refine' code_defC ?k1 ?k2 ?k3 ?k4 ?k5 ?kA ?kF ?kK ?k6 ?k7 ?k8 ?k9 ?kB ?kD ?_ ?c2 ?c3 ?c4; (case kA => exact rfl); (case kF => exact rfl); (case kK => assumption); (case k1 => k_asm); (case k2 => k_asm); (case k3 => k_asm); (case k4 => k_asm); (case k5 => k_asm); (case k6 => k_is); (case k7 => k_is); (case k8 => ktr_room); (case k9 => exact BindsTo.of_eq rfl); (case kB => exact rfl); (case kD => decide +kernel); (case c2 => exact rfl); (case c3 => exact rfl); (case c4 => exact rfl); k_whole; intro g' L' h' tk' cells' FG' F' N' Y' B' X' T' l1; (have hlow := LowAll.of (l := R) l1 (fun p hp => by simp [hp])); (try k_lt l1); k_cells Y'; (try simp only [List.cons_append, List.nil_append] at N'); (try dsimp only); (try k_lift B'); (try (with_reducible show wpAny _ _ _ _ _ _)); (try k_fold))
  k_steps
  · unfold Stop
    refine' mul_list1 ?k1 ?k2 ?k3 ?p1 ?p2 ?_
    case k1 => assumption
    case k2 => assumption
    case k3 => k_mem
    case p1 => rw [hKe]; exact hK0
    case p2 => rw [hKe]; omega
    intro D h1 F1 N1 lD
    k_lt lD
    k_sweep
    k_steps
    unfold Stop
    k_dflt (refine' nest_any (pre := [_, _, _, _, _, _, _, _]) (R := R) (cs := cs) (qual := tq1) ?F ?N ?T ?C ?cd ?U ?hR ?hT ?hcs ?cl ?_; (case F => k_asm); (case N => k_asm); (case T => k_asm); (case cd => exact rfl); (case C => exact hG1.keeps B'.stays); (case U => k_updF); (case hR => exact hRh.off (by decide)); (case hT => exact T1); (case hcs => exact hcsR); (case cl => exact rfl))
    intro f c' oc vs t ctv doc h2 tk2 ps1' cs' R' F2 N2 hc d1 d2 T1' hcs1 hcs2 hgr hcs3 hlo hloR
    simp only [List.cons_append, List.nil_append] at N2
    replace hlo := allLt_of hlo
    simp only [AllLt, and_true] at hlo
    have oD : ∀ p ∈ R', p.1 ≠ D := OffL.grow (hlow.ne (by omega)) hgr (by first | exact List.mem_map_of_mem (a := (D, _)) (by k_mem) | simp)
    have o1 : ∀ p ∈ R', p.1 ≠ L' + 1 := OffL.grow (hlow.ne (by omega)) hgr (by first | exact List.mem_map_of_mem (a := (L' + 1, _)) (by k_mem) | simp)
    have o2 : ∀ p ∈ R', p.1 ≠ L' + 1 + 1 := OffL.grow (hlow.ne (by omega)) hgr (by first | exact List.mem_map_of_mem (a := (L' + 1 + 1, _)) (by k_mem) | simp)
    have o3 : ∀ p ∈ R', p.1 ≠ L' + 1 + 1 + 1 := OffL.grow (hlow.ne (by omega)) hgr (by first | exact List.mem_map_of_mem (a := (L' + 1 + 1 + 1, _)) (by k_mem) | simp)
    have fin : ∀ {h : Heap} {tk : Nat} {xs : List Value} {e : Nat} {rest : List (Addr × Obj)}, Fr h₀ L h m → News h₀ L h ((D, W.listOf xs.toArray e) :: rest) → (30, tabObj ps1') ∈ rest → (37, tabObj ps2) ∈ rest → (108, tabObj ps3) ∈ rest → (∀ p ∈ R', p ∈ rest) →
        IntsAre xs (digs (2 ^ n.toNat) K.toNat a) → Q (.ref D) { s with heap := h, toks := tk } := by
      intro h tk xs e rest F N k1 k2 k3 k4 hi
      refine hret _ _ _ _ F (news_sub N (fun p hp => ?_)) ⟨D, xs, e, (30, tabObj ps1') :: (37, tabObj ps2) :: (108, tabObj ps3) :: cs', rfl, rfl, ⟨ps1', ps2, ps3, cs', rfl, T1', T2.mono hcs2, T3.mono hcs2, fun p hp => ?_⟩, hi, fun p hp => ?_, fun p hp => ?_, fun p hp => ?_⟩
      · simp only [List.cons_append, List.mem_cons, List.mem_append] at hp
        rcases hp with rfl | rfl | rfl | rfl | hp | hp
        · exact .head _
        · exact .tail _ k1
        · exact .tail _ k2
        · exact .tail _ k3
        · exact .tail _ (k4 _ (hcs1 _ hp))
        · exact .tail _ (k4 _ (hgr.1 _ (hnR _ hp)))
      · rcases hcs3 p hp with h1 | h1
        · exact hcs p h1
        · exact HiL.gt (h1 (108, tabObj ps3) (by first | k_mem | simp))
      · simp only [List.mem_cons] at hp
        rcases hp with rfl | rfl | rfl | hp
        · exact ltN (by dsimp only; omega)
        · exact ltN (by dsimp only; omega)
        · exact ltN (by dsimp only; omega)
        · have := ltN (hlow p hp)
          exact ltN (by omega)
      · simp only [List.mem_cons] at hp
        rcases hp with rfl | rfl | rfl | hp
        · exact neN (by dsimp only; omega)
        · exact neN (by dsimp only; omega)
        · exact neN (by dsimp only; omega)
        · exact oD p (hcs1 p hp)
      · simp only [List.mem_cons] at hp
        rcases hp with rfl | rfl | rfl | hp
        · exact .inl (by first | exact List.Mem.head _ | simp)
        · exact .inl (by first | exact List.Mem.tail _ (List.Mem.head _) | simp)
        · exact .inl (by first | exact List.Mem.tail _ (List.Mem.tail _ (List.Mem.head _)) | simp)
        · rcases hcs3 p hp with h1 | h1
          · exact .inl (List.mem_map_of_mem (by simp [h1]))
          · refine .inr fun q hq => ?_
            simp only [List.mem_cons] at hq
            rcases hq with rfl | rfl | rfl | hq
            · exact h1 (30, tabObj ps1) (by first | k_mem | simp)
            · exact h1 (37, tabObj ps2) (by first | k_mem | simp)
            · exact h1 (108, tabObj ps3) (by first | k_mem | simp)
            · exact h1 q (by simp [hq])
    k_sweep
    (try (with_reducible show wpAny _ _ _ _ _ _)); (try k_fold)
    k_steps
    · rename News _ _ _ _ => N3
      refine led_front [_] N3 (fun rest hrest N4 => ?_)
      simp only [List.cons_append, List.nil_append] at hrest
      have mf := mem1_of hrest
      have m1 := mem3_of hrest
      have m2 := mem4_of hrest
      have m3 := mem5_of hrest
      have mc : (c', oc) ∈ rest := by rw [hrest]; simp [hcs1 _ hc]
      have oRest : ∀ p ∈ rest, p.1 ≠ D := by rw [hrest]; intro p hp; simp only [List.mem_cons] at hp; rcases hp with rfl | rfl | rfl | rfl | rfl | rfl | rfl | rfl | hp <;> first | exact oD _ hp | (refine neN ?_; dsimp only; omega)
      have inner : ∀ (k : Nat) (x Lo Rr : Int) (xs : List Value) (ns : List Int) (e : Nat) (t1 t2 t3 : Tok), 1 ≤ k → k ≤ 64 → 0 ≤ x → x < (2 ^ n.toNat) ^ k → 0 ≤ Lo → Rr = Lo + k → IntsAre xs ns → Rr ≤ ns.length → ns.length ≤ 2 ^ 20 →
          Ct w loose mean mg mb f (2 * k) (32 * k) ((D, W.listOf xs.toArray e) :: rest) [.int x t1, .int Lo t2, .int Rr t3]
            (fun v news' => v = .none ∧ ∃ ys e', news' = (D, W.listOf ys.toArray e') :: rest ∧ IntsAre ys (ns.take Lo.toNat ++ digs (2 ^ n.toNat) k x ++ ns.drop (Lo.toNat + k))) := by
        intro k
        induction k using Nat.strongRecOn with
        | ind k ih =>
        intro x Lo Rr xs ns e t1 t2 t3 hk1 hk2 hx0 hx1 hL hR hi hlen hlen2
        unfold Ct Ctr
        intro dp un gd cn cs₀ a' ccd cl outer A₀ base h₀ L m s Q E B F X N T hk hG hd hu hret
        refine wpAny_call ?_
        k_dflt (refine' code_nest ?k1 ?k2 ?k3 ?k4 ?k5 ?kA ?kF ?kK ?k6 ?k7 ?k8 ?k9 ?kB ?_ ?c2 ?c3 ?c4 ?c5; (case kA => exact rfl); (case kF => exact rfl); (case kK => assumption); (case k1 => k_asm); (case k2 => k_asm); (case k3 => k_asm); (case k4 => k_asm); (case k5 => k_asm); (case k6 => exact List.mem_cons_of_mem _ mf); (case k7 => exact codeRec_news N (List.mem_cons_of_mem _ mc) d1 d2); (case k8 => ktr_room); (case k9 => exact BindsTo.of_eq rfl); (case c5 => decide); (case kB => exact locs rfl); (case c2 => exact rfl); (case c3 => exact rfl); (case c4 => exact rfl); k_whole; intro g' L' h' FG' F' N' B' X' T'; (try dsimp only); (try k_lift B'); (try (with_reducible show wpAny _ _ _ _ _ _)); (try k_fold))
        k_steps
        · have hk : k = 1 := by omega
          subst hk
          have hD : digs (2 ^ n.toNat) 1 x = [x] := digs_one hx0 (by rw [Int.pow_one] at hx1; exact hx1)
          rw [hD, ← splice_one (by omega)] at hret
          exact hret _ _ _ _ (by assumption) (by assumption) ⟨rfl, _, _, rfl, by assumption⟩
        all_goals (
          have hkk : Lo + 1 ≠ Rr := by assumption
          obtain ⟨j, r, hkj, hj1, hr1, hj2, em⟩ : ∃ j r : Nat, k = j + r ∧ 1 ≤ j ∧ 1 ≤ r ∧ j ≤ 32 ∧ Held ((Lo + Rr) / 2 ^ Int.toNat 1 = Lo + (j : Int)) := ⟨k / 2, k - k / 2, by omega, by omega, by omega, by omega, ⟨by show _ / 2 ^ 1 = _; omega⟩⟩
          clear hkk hk1
          subst hkj
          have em2 : Held (Lo + (j : Int) - Lo = (j : Int)) := ⟨by omega⟩
          have hkn : (j : Int) * n ≤ 32 * 100000 := Int.mul_le_mul (by omega) hn2 (by omega) (by omega)
          have hkn0 : 0 ≤ (j : Int) * n := Int.mul_nonneg (by omega) (by omega)
          have ep := pow_mul_toNat (show 0 ≤ n by omega) j
          have hb0 : (0 : Int) < 2 ^ n.toNat := two_pow_pos _
          have hbk : (0 : Int) < (2 ^ n.toNat) ^ j := Int.pow_pos hb0)
        · rw [em.down, em2.down]; exact hkn0
        · rw [em.down, em2.down]; exact hkn0
        · rw [em.down, em2.down, ep]
          have h1 : 0 ≤ x / (2 ^ n.toNat) ^ j := Int.ediv_nonneg hx0 (Int.le_of_lt hbk)
          have h2 : x / (2 ^ n.toNat) ^ j ≤ x := Int.ediv_le_self _ hx0
          have h3 : x < 2 ^ (n.toNat * (j + r)) := by rw [Int.pow_mul]; exact hx1
          have h4 := bits_of_lt h1 (Int.lt_of_le_of_lt h2 h3)
          have h5 : ((n.toNat * (j + r) : Nat) : Int) ≤ 100000 * 64 := by
            rw [Int.natCast_mul]; exact Int.mul_le_mul (by omega) (by omega) (by omega) (by omega)
          omega
        · unfold Stop
          rw [em.down, em2.down, ep]
          have hlow : Builtin.bitXor x (x / (2 ^ n.toNat) ^ j * (2 ^ n.toNat) ^ j) = x % (2 ^ n.toNat) ^ j := by
            have := bitXor_high (x := x) (n := n.toNat * j) hx0
            rwa [Int.pow_mul] at this
          rw [hlow]
          have hx2 : 0 ≤ x % (2 ^ n.toNat) ^ j := Int.emod_nonneg _ (by omega)
          have hx3 : x % (2 ^ n.toNat) ^ j < (2 ^ n.toNat) ^ j := Int.emod_lt_of_pos _ hbk
          have hx4 : 0 ≤ x / (2 ^ n.toNat) ^ j := Int.ediv_nonneg hx0 (by omega)
          have hx5 : x / (2 ^ n.toNat) ^ j < (2 ^ n.toNat) ^ r := by
            rw [Int.ediv_lt_iff_lt_mul hbk, ← Int.pow_add]
            rw [Nat.add_comm]; exact hx1
          k_dflt (refine' ctr_use ?k1 ?k2 ?k3 ?k4 ?k5 ?kK ?kG (ih j (by omega) _ _ _ _ _ _ _ _ _ (by omega) (by omega) hx2 hx3 hL rfl hi (by omega) hlen2) ?kd ?ku ?_; (case k1 => k_asm); (case k2 => k_asm); (case k3 => k_asm); (case k4 => k_asm); (case k5 => k_asm); (case kK => first | exact rfl | assumption); (case kG => assumption); (case kd => (dsimp only [Around.deeper, ktrTop]; omega)); (case ku => (dsimp only [Around.deeper, ktrTop]; omega)))
          rintro v n2 h3 tk3 F3 N3 ⟨rfl, ys, e2, rfl, hi2⟩
          k_sweep
          k_steps
          unfold Stop
          rw [em.down, em2.down, ep]
          k_dflt (refine' ctr_use ?k1 ?k2 ?k3 ?k4 ?k5 ?kK ?kG (ih r (by omega) _ _ _ _ _ _ _ _ _ (by omega) (by omega) hx4 hx5 (by omega) (by omega) hi2 (by rw [splice_len (digs_length _ _ _) (by omega)]; omega) (by rw [splice_len (digs_length _ _ _) (by omega)]; omega)) ?kd ?ku ?_; (case k1 => k_asm); (case k2 => k_asm); (case k3 => k_asm); (case k4 => k_asm); (case k5 => k_asm); (case kK => first | exact rfl | assumption); (case kG => assumption); (case kd => (dsimp only [Around.deeper, ktrTop]; omega)); (case ku => (dsimp only [Around.deeper, ktrTop]; omega)))
          rintro v n4 h5 tk5 F5 N5 ⟨rfl, zs, e4, rfl, hi4⟩
          k_sweep
          k_steps
          refine hret _ _ _ _ (by assumption) (by assumption) ⟨rfl, _, _, rfl, ?_⟩
          have e5 : (Lo + (j : Int)).toNat = Lo.toNat + j := by omega
          rw [e5, splice_two (digs_length _ _ _) (digs_length _ _ _) (by omega), ← digs_add hb0] at hi4
          exact hi4
        · rw [em.down, em2.down]
          exact IntMulOk.of_le (m := 64) (n := 64) (intBits_le_64 (by omega) (by omega)) (intBits_le_64 (by omega) (by omega)) (by omega)
      unfold Stop
      k_dflt (refine' ctr_use ?k1 ?k2 ?k3 ?k4 ?k5 ?kK ?kG (inner K.toNat _ _ _ _ _ _ _ _ _ ?q1 ?q2 ha hKa (Int.le_refl 0) ?q3 ?q4 ?q5 ?q6) ?kd ?ku ?_; (case k1 => k_asm); (case k2 => k_asm); (case k3 => k_asm); (case k4 => k_asm); (case k5 => k_asm); (case kK => first | exact rfl | assumption); (case kG => assumption))
      case q4 => rw [hKe]; exact ints_replicate 0 _ _
      case q1 => exact hKpos (by assumption)
      case q2 => omega
      case q3 => rw [hKe, List.length_replicate]; omega
      case q5 => rw [hKe]; simp
      case q6 => rw [List.length_replicate]; omega
      case kd => dsimp only [Around.deeper, ktrTop]; omega
      case ku => dsimp only [Around.deeper, ktrTop]; omega
      rintro v n2 h3 tk3 F3 N3 ⟨rfl, ys, e2, rfl, hi2⟩
      simp only [Int.toNat_zero, List.take_zero, List.nil_append, Nat.zero_add, List.drop_replicate, Nat.sub_self, List.replicate_zero, List.append_nil] at hi2
      subst hrest
      k_sweep
      k_steps
      exact fin (by assumption) (by assumption) (by first | k_mem | simp) (by first | k_mem | simp) (by first | k_mem | simp) (by intro p hp; simp [hp]) hi2
    · rw [hKe, List.length_replicate]; omega
    · have ha0 : a = 0 := by assumption
      have hK0 : K = 0 := by
        have hz : Builtin.Int.intBits a = 0 := by rw [ha0]; rfl
        rw [← hKe, hz]
        exact Int.ediv_eq_zero_of_lt (by omega) (by omega)
      rename News _ _ _ _ => N3
      refine led_front [_] N3 (fun rest hrest N4 => ?_)
      subst hrest
      refine fin (by assumption) N4 (by first | k_mem | simp) (by first | k_mem | simp) (by first | k_mem | simp) (by intro p hp; simp [hp]) ?_
      rw [hKe, hK0]
      exact .nil
end
section
open PySem PySem.W PySem.Spec PySem.Calls PyProof.Rows
set_option maxRecDepth 100000
set_option maxHeartbeats 4000000
/-- the walker as it is ahead of a head -/
theorem walker_anew_P4 : True := by
  w_top off
  exact True.intro
variable (w : World) {loose : List Str} {mean : ExcName → Option Value} {mg mb : Str → Option Value}
local macro_rules | `(tactic| walk_at "call ref") => `(tactic| (k_here; refine stop ?_))

def undig (b : Int) : List Int → Int
  | [] => 0
  | d :: r => d + b * undig b r
theorem undig_app (b : Int) : ∀ l r : List Int, undig b (l ++ r) = undig b l + b ^ l.length * undig b r
  | [], r => by simp [undig]
  | d :: l, r => by
    simp only [List.cons_append, undig, undig_app b l r, List.length_cons, Int.pow_succ]
    grind
theorem undig_lt {b : Int} (hb : 0 < b) : ∀ {l : List Int}, (∀ d ∈ l, 0 ≤ d ∧ d < b) → 0 ≤ undig b l ∧ undig b l < b ^ l.length
  | [], _ => by simp [undig]
  | d :: l, h => by
    have h1 := h d (.head _)
    have ⟨h2, h3⟩ := undig_lt hb (l := l) fun x hx => h x (.tail _ hx)
    simp only [undig, List.length_cons, Int.pow_succ]
    have h4 : 0 ≤ b * undig b l := Int.mul_nonneg (by omega) h2
    have h5 : b * undig b l ≤ b * (b ^ l.length - 1) := Int.mul_le_mul_of_nonneg_left (by omega) (by omega)
    have h6 : b * (b ^ l.length - 1) = b ^ l.length * b - b := by grind
    omega
theorem undig_digs {b : Int} (hb : 0 < b) : ∀ (k : Nat) (x : Int), 0 ≤ x → x < b ^ k → undig b (digs b k x) = x
  | 0, x, h0, h1 => by simp at h1; simp [digs, undig]; omega
  | k + 1, x, h0, h1 => by
    rw [digs, undig, undig_digs hb k (x / b) (Int.ediv_nonneg h0 (by omega)) (by rw [Int.ediv_lt_iff_lt_mul hb, ← Int.pow_succ]; exact h1)]
    have := Int.mul_ediv_add_emod x b
    omega
theorem digs_range {b : Int} (hb : 0 < b) : ∀ (k : Nat) (x : Int), ∀ d ∈ digs b k x, 0 ≤ d ∧ d < b
  | 0, _, _, h => nomatch h
  | k + 1, x, d, h => by
    rcases List.mem_cons.mp h with rfl | h
    · exact ⟨Int.emod_nonneg _ (by omega), Int.emod_lt_of_pos _ hb⟩
    · exact digs_range hb k _ d h

theorem digits2int (tl news : List (Addr × Obj)) (hT : TabsL tl) (hN : HiL news) (Dq : Addr) (vs₀ : List Value) (e₀ : Nat) (ns : List Int) (n : Int) (tn : Tok) (hm : (Dq, W.listOf vs₀.toArray e₀) ∈ news) (hi : IntsAre vs₀ ns) (hlen : ns.length ≤ 64) (hn : 1 ≤ n) (hn2 : n ≤ 100000) (hr : ∀ d ∈ ns, 0 ≤ d ∧ d < 2 ^ n.toNat) :
    Ct w loose mean mg mb 42 160 2400 (tl ++ news) [.ref Dq, .int n tn]
      (fun v news' => ∃ t tl', v = .int (undig (2 ^ n.toNat) ns) t ∧ news' = tl' ++ news ∧ TabsL tl' ∧ AddrG (tl ++ news) tl tl') := by
  have hvl : vs₀.length = ns.length := hi.length
  have hvl2 : vs₀.length < 2 ^ 62 := by omega
  obtain ⟨ps1, ps2, ps3, cs, rfl, T1, T2, T3, hcs⟩ := hT
  simp only [List.cons_append]
  have hnR : ∀ p ∈ news, p ∈ cs ++ news := fun p hp => List.mem_append_right _ hp
  have hRh : HiL (cs ++ news) := hcs.app hN
  have hcsR : ∀ p ∈ cs, p ∈ cs ++ news := fun p hp => List.mem_append_left _ hp
  generalize hR : cs ++ news = R at hRh hcsR hnR ⊢
  unfold Ct
  k_fill
  unfold Ctr
  intro dp un gd cn cs₀ a' ccd cl outer A₀ base h₀ L m s Q E B F X N T hk hG hd hu hret
  obtain ⟨hG1, hG2, hG3⟩ := id hG
  refine wpAny_call ?_
  k_dflt (refine' code_defC ?k1 ?k2 ?k3 ?k4 ?k5 ?kA ?kF ?kK ?k6 ?k7 ?k8 ?k9 ?kB ?kD ?_ ?c2 ?c3 ?c4; (case kA => exact rfl); (case kF => exact rfl); (case kK => assumption); (case k1 => k_asm); (case k2 => k_asm); (case k3 => k_asm); (case k4 => k_asm); (case k5 => k_asm); (case k6 => k_is); (case k7 => k_is); (case k8 => ktr_room); (case k9 => exact BindsTo.of_eq rfl); (case kB => exact rfl); (case kD => decide +kernel); (case c2 => exact rfl); (case c3 => exact rfl); (case c4 => exact rfl); k_whole; intro g' L' h' tk' cells' FG' F' N' Y' B' X' T' l1; (have hlow := LowAll.of (l := R) l1 (fun p hp => by simp [hp])); (try k_lt l1); k_cells Y'; (try simp only [List.cons_append, List.nil_append] at N'); (try dsimp only); (try k_lift B'); (try (with_reducible show wpAny _ _ _ _ _ _)); (try k_fold))
  k_steps
  unfold Stop
  k_dflt (refine' nest_any (pre := [_, _, _, _, _, _]) (R := R) (cs := cs) (qual := tq2) ?F ?N ?T ?C ?cd ?U ?hR ?hT ?hcs ?cl ?_; (case F => k_asm); (case N => k_asm); (case T => k_asm); (case cd => exact rfl); (case C => exact hG2.keeps B'.stays); (case U => k_updF); (case hR => exact hRh.off (by decide)); (case hT => exact T2); (case hcs => exact hcsR); (case cl => exact rfl))
  intro f c' oc vs t ctv doc h2 tk2 ps2' cs' R' F2 N2 hc d1 d2 T2' hcs1 hcs2 hgr hcs3 hlo hloR
  simp only [List.cons_append, List.nil_append] at N2
  replace hlo := allLt_of hlo
  simp only [AllLt, and_true] at hlo
  have o1 : ∀ p ∈ R', p.1 ≠ L' + 1 := OffL.grow (hlow.ne (by omega)) hgr (by first | exact List.mem_map_of_mem (a := (L' + 1, _)) (by k_mem) | simp)
  have o2 : ∀ p ∈ R', p.1 ≠ L' + 1 + 1 := OffL.grow (hlow.ne (by omega)) hgr (by first | exact List.mem_map_of_mem (a := (L' + 1 + 1, _)) (by k_mem) | simp)
  have o3 : ∀ p ∈ R', p.1 ≠ L' + 1 + 1 + 1 := OffL.grow (hlow.ne (by omega)) hgr (by first | exact List.mem_map_of_mem (a := (L' + 1 + 1 + 1, _)) (by k_mem) | simp)
  have mD : (Dq, W.listOf vs₀.toArray e₀) ∈ R' := hgr.1 _ (hnR _ hm)
  have fin : ∀ {h : Heap} {tk : Nat} {t : Tok} {rest : List (Addr × Obj)}, Fr h₀ L h m → News h₀ L h rest → (30, tabObj ps1) ∈ rest → (37, tabObj ps2') ∈ rest → (108, tabObj ps3) ∈ rest → (∀ p ∈ R', p ∈ rest) →
        Q (.int (undig (2 ^ n.toNat) ns) t) { s with heap := h, toks := tk } := by
      intro h tk t rest F N k1 k2 k3 k4
      refine hret _ _ _ _ F (news_sub N (fun p hp => ?_)) ⟨t, (30, tabObj ps1) :: (37, tabObj ps2') :: (108, tabObj ps3) :: cs', rfl, rfl, ⟨ps1, ps2', ps3, cs', rfl, T1.mono hcs2, T2', T3.mono hcs2, fun p hp => ?_⟩, fun p hp => ?_⟩
      · simp only [List.cons_append, List.mem_cons, List.mem_append] at hp
        rcases hp with rfl | rfl | rfl | hp | hp
        · exact k1
        · exact k2
        · exact k3
        · exact k4 _ (hcs1 _ hp)
        · exact k4 _ (hgr.1 _ (hnR _ hp))
      · rcases hcs3 p hp with h1 | h1
        · exact hcs p h1
        · exact HiL.gt (h1 (108, tabObj ps3) (by first | k_mem | simp))
      · simp only [List.mem_cons] at hp
        rcases hp with rfl | rfl | rfl | hp
        · exact .inl (by first | exact List.Mem.head _ | simp)
        · exact .inl (by first | exact List.Mem.tail _ (List.Mem.head _) | simp)
        · exact .inl (by first | exact List.Mem.tail _ (List.Mem.tail _ (List.Mem.head _)) | simp)
        · rcases hcs3 p hp with h1 | h1
          · exact .inl (List.mem_map_of_mem (by simp [h1]))
          · refine .inr fun q hq => ?_
            simp only [List.mem_cons] at hq
            rcases hq with rfl | rfl | rfl | hq
            · exact h1 (30, tabObj ps1) (by first | k_mem | simp)
            · exact h1 (37, tabObj ps2) (by first | k_mem | simp)
            · exact h1 (108, tabObj ps3) (by first | k_mem | simp)
            · exact h1 q (by simp [hq])
  k_sweep
  (try (with_reducible show wpAny _ _ _ _ _ _)); (try k_fold)
  k_steps
  · have hv : vs₀ = [] := List.isEmpty_iff.mp (by assumption)
    have hns : ns = [] := List.length_eq_zero_iff.mp (by rw [← hvl, hv]; rfl)
    rename News _ _ _ _ => N3
    have := fin (t := s.toks) (tk := s.toks) (by assumption) N3 (by first | k_mem | simp) (by first | k_mem | simp) (by first | k_mem | simp) (by intro p hp; simp [hp])
    rw [hns] at fin
    exact fin (by assumption) N3 (by first | k_mem | simp) (by first | k_mem | simp) (by first | k_mem | simp) (by intro p hp; simp [hp])
  · have hne : ns.length ≠ 0 := fun h0 => by
      have : vs₀ = [] := List.length_eq_zero_iff.mp (by omega)
      simp_all
    rename News _ _ _ _ => N3
    refine led_all N3 (fun rest hrest N4 => ?_)
    have mf := mem1_of hrest
    have m1 := mem2_of hrest
    have m2 := mem3_of hrest
    have m3 := mem4_of hrest
    have mc : (c', oc) ∈ rest := by rw [hrest]; simp [hcs1 _ hc]
    have mDr : (Dq, W.listOf vs₀.toArray e₀) ∈ rest := by rw [hrest]; simp [mD]
    have inner : ∀ (k : Nat) (Lo Rr : Int) (t2 t3 : Tok), 1 ≤ k → k ≤ 64 → 0 ≤ Lo → Rr = Lo + k → Rr ≤ ns.length →
          Ct w loose mean mg mb f (2 * k) (32 * k) rest [.int Lo t2, .int Rr t3]
            (fun v news' => ∃ t, v = .int (undig (2 ^ n.toNat) ((ns.drop Lo.toNat).take k)) t ∧ news' = rest) := by
      intro k
      induction k using Nat.strongRecOn with
      | ind k ih =>
      intro Lo Rr t2 t3 hk1 hk2 hL hR hlenR
      unfold Ct Ctr
      intro dp un gd cn cs₀ a' ccd cl outer A₀ base h₀ L m s Q E B F X N T hk hG hd hu hret
      refine wpAny_call ?_
      k_dflt (refine' code_nest ?k1 ?k2 ?k3 ?k4 ?k5 ?kA ?kF ?kK ?k6 ?k7 ?k8 ?k9 ?kB ?_ ?c2 ?c3 ?c4 ?c5; (case kA => exact rfl); (case kF => exact rfl); (case kK => assumption); (case k1 => k_asm); (case k2 => k_asm); (case k3 => k_asm); (case k4 => k_asm); (case k5 => k_asm); (case k6 => exact mf); (case k7 => exact codeRec_news N mc d1 d2); (case k8 => ktr_room); (case k9 => exact BindsTo.of_eq rfl); (case c5 => decide); (case kB => exact locs rfl); (case c2 => exact rfl); (case c3 => exact rfl); (case c4 => exact rfl); k_whole; intro g' L' h' FG' F' N' B' X' T'; (try dsimp only); (try k_lift B'); (try (with_reducible show wpAny _ _ _ _ _ _)); (try k_fold))
      have hb0 : (0 : Int) < 2 ^ n.toNat := two_pow_pos _
      k_steps
      · have hk : k = 1 := by omega
        subst hk
        have e1 : (ns.drop Lo.toNat).take 1 = [ns.getD Lo.toNat 0] := by
          rw [List.take_one, List.head?_drop, List.getD_eq_getElem?_getD, List.getElem?_eq_getElem (by omega)]
          rfl
        rw [e1] at hret
        simp only [undig, Int.mul_zero, Int.add_zero] at hret
        exact hret _ _ _ _ (by assumption) (by assumption) ⟨_, rfl, rfl⟩
      all_goals (
        have hkk : Lo + 1 ≠ Rr := by assumption
        obtain ⟨j, r, hkj, hj1, hr1, hj2, em⟩ : ∃ j r : Nat, k = j + r ∧ 1 ≤ j ∧ 1 ≤ r ∧ j ≤ 32 ∧ Held ((Lo + Rr) / 2 ^ Int.toNat 1 = Lo + (j : Int)) := ⟨k / 2, k - k / 2, by omega, by omega, by omega, by omega, ⟨by show _ / 2 ^ 1 = _; omega⟩⟩
        clear hkk hk1
        subst hkj
        have em2 : Held (Lo + (j : Int) - Lo = (j : Int)) := ⟨by omega⟩
        have hkn : (j : Int) * n ≤ 32 * 100000 := Int.mul_le_mul (by omega) hn2 (by omega) (by omega)
        have hkn0 : 0 ≤ (j : Int) * n := Int.mul_nonneg (by omega) (by omega)
        have ep := pow_mul_toNat (show 0 ≤ n by omega) j
        have hbk : (0 : Int) < (2 ^ n.toNat) ^ j := Int.pow_pos hb0)
      · unfold Stop
        rw [em.down]
        k_dflt (refine' ctr_use ?k1 ?k2 ?k3 ?k4 ?k5 ?kK ?kG (ih r (by omega) _ _ _ _ (by omega) (by omega) (by omega) (by omega) (by omega)) ?kd ?ku ?_; (case k1 => k_asm); (case k2 => k_asm); (case k3 => k_asm); (case k4 => k_asm); (case k5 => k_asm); (case kK => first | exact rfl | assumption); (case kG => assumption); (case kd => (dsimp only [Around.deeper, ktrTop]; omega)); (case ku => (dsimp only [Around.deeper, ktrTop]; omega)))
        rintro v n2 h3 tk3 F3 N3 ⟨t4, rfl, rfl⟩
        k_sweep
        have hd1 := undig_lt (b := 2 ^ n.toNat) hb0 (l := (ns.drop (Lo + (j : Int)).toNat).take r) (fun d hd => hr d (List.mem_of_mem_drop (List.mem_of_mem_take hd)))
        k_steps
        · rw [em.down, em2.down]; exact hkn0
        · rw [em.down, em2.down]
          have h4 := bits_of_lt hd1.1 (n := n.toNat * 64) (Int.lt_of_lt_of_le hd1.2 (by
            rw [← Int.pow_mul, ← two_pow_cast, ← two_pow_cast]
            exact Int.ofNat_le.mpr (Nat.pow_le_pow_right (by omega) (Nat.mul_le_mul_left _ (by rw [List.length_take]; omega)))))
          have h5 : ((n.toNat * 64 : Nat) : Int) ≤ 100000 * 64 := by omega
          omega
        · unfold Stop
          rw [em.down, em2.down, ep]
          k_dflt (refine' ctr_use ?k1 ?k2 ?k3 ?k4 ?k5 ?kK ?kG (ih j (by omega) _ _ _ _ (by omega) (by omega) (by omega) rfl (by omega)) ?kd ?ku ?_; (case k1 => k_asm); (case k2 => k_asm); (case k3 => k_asm); (case k4 => k_asm); (case k5 => k_asm); (case kK => first | exact rfl | assumption); (case kG => assumption); (case kd => (dsimp only [Around.deeper, ktrTop]; omega)); (case ku => (dsimp only [Around.deeper, ktrTop]; omega)))
          rintro v n4 h5 tk5 F5 N5 ⟨t6, rfl, rfl⟩
          k_sweep
          k_steps
          have e5 : (Lo + (j : Int)).toNat = Lo.toNat + j := by omega
          have e7 : undig (2 ^ n.toNat) ((ns.drop (Lo + (j : Int)).toNat).take r) * (2 ^ n.toNat) ^ j + undig (2 ^ n.toNat) ((ns.drop Lo.toNat).take j) = undig (2 ^ n.toNat) ((ns.drop Lo.toNat).take (j + r)) := by
            have e8 : (ns.drop Lo.toNat).take (j + r) = (ns.drop Lo.toNat).take j ++ ((ns.drop Lo.toNat).drop j).take r := by rw [← List.take_add]
            rw [e8, undig_app, List.drop_drop, e5, List.length_take, List.length_drop, Nat.min_eq_left (by omega)]
            grind
          rw [e7]
          exact hret _ _ _ _ (by assumption) (by assumption) ⟨_, rfl, rfl⟩
      · rw [em.down, em2.down]
        exact IntMulOk.of_le (m := 64) (n := 64) (intBits_le_64 (by omega) (by omega)) (intBits_le_64 (by omega) (by omega)) (by omega)
    unfold Stop
    k_dflt (refine' ctr_use ?k1 ?k2 ?k3 ?k4 ?k5 ?kK ?kG (inner ns.length _ _ _ _ (by omega) hlen (Int.le_refl 0) (by rw [hvl]; omega) (by rw [hvl]; omega)) ?kd ?ku ?_; (case k1 => k_asm); (case k2 => k_asm); (case k3 => k_asm); (case k4 => k_asm); (case k5 => k_asm); (case kK => first | exact rfl | assumption); (case kG => assumption); (case kd => (dsimp only [Around.deeper, ktrTop]; omega)); (case ku => (dsimp only [Around.deeper, ktrTop]; omega)))
    rintro v n2 h3 tk3 F3 N3 ⟨t4, rfl, hr3⟩
    subst hr3
    subst hrest
    k_sweep
    k_steps
    simp only [Int.toNat_zero, List.drop_zero, List.take_length]
    exact fin (by assumption) (by assumption) (by first | k_mem | simp) (by first | k_mem | simp) (by first | k_mem | simp) (by intro p hp; simp [hp])
end
section
open PySem PySem.W PySem.Spec PySem.Calls PyProof.Rows
set_option maxRecDepth 100000
set_option maxHeartbeats 4000000
/-- the walker as it is ahead of a head -/
theorem walker_anew_P5 : True := by
  w_top off
  exact True.intro
variable (w : World) {loose : List Str} {mean : ExcName → Option Value} {mg mb : Str → Option Value}
local macro_rules | `(tactic| walk_at "call ref") => `(tactic| (k_here; refine stop ?_))

local macro_rules | `(tactic| walk_at "newList") => `(tactic| (k_here; refine stop ?_))
structure DS where
  vs : List Value
  qs : List Int
  e : Nat
  r : Int
  tr : Tok
  u : Option Value
theorem dp_step {B b Q q r d r' U : Int} (h1 : U = Q * b + r) (h2 : r * B + d = q * b + r') : d + B * U = (q + B * Q) * b + r' := by grind
theorem allLt_mem {d : Addr} : ∀ {l : List (Addr × Obj)}, AllLt d l → ∀ p ∈ l, @LT.lt Nat _ p.1 d
  | [], _, _, h => nomatch h
  | _ :: _, h, p, hp => by
    rcases List.mem_cons.mp hp with rfl | hp
    · exact h.1
    · exact allLt_mem h.2 p hp
theorem bits_pos {b : Int} (hb : 0 < b) : 1 ≤ Builtin.Int.intBits b ∧ b < 2 ^ Builtin.Int.intBits b ∧ 2 ^ Builtin.Int.intBits b ≤ 2 * b := by
  refine ⟨?_, lt_of_bits (by omega) (Nat.le_refl _), ?_⟩
  · rcases Nat.eq_zero_or_pos (Builtin.Int.intBits b) with h1 | h1
    · have := intBits_le_iff (m := 0).mp (Nat.le_of_eq h1)
      simp at this; omega
    · exact h1
  · have h1 : ¬ Builtin.Int.intBits b ≤ Builtin.Int.intBits b - 1 ∨ Builtin.Int.intBits b = 0 := by omega
    rcases h1 with h1 | h1
    · rw [intBits_le_iff] at h1
      have h2 : 2 ^ Builtin.Int.intBits b ≤ 2 * 2 ^ (Builtin.Int.intBits b - 1) := by
        rw [← Nat.pow_succ']
        exact Nat.pow_le_pow_right (by omega) (by omega)
      rw [← two_pow_cast]
      omega
    · rw [h1]; simp; omega

theorem divmod_pos (tl news : List (Addr × Obj)) (hT : TabsL tl) (hN : HiL news) (a b : Int) (ta tb : Tok) (ha : 0 ≤ a) (hb : 0 < b) (hb2 : Builtin.Int.intBits b ≤ 8000) (hsz : Builtin.Int.intBits a ≤ 64 * Builtin.Int.intBits b) :
    Ct w loose mean mg mb 49 200 3000 (tl ++ news) [.int a ta, .int b tb]
      (fun v news' => ∃ D q r tq tr tl', v = .ref D ∧ news' = (D, tup2 q r tq tr) :: (tl' ++ news) ∧ TabsL tl' ∧ a = q * b + r ∧ 0 ≤ r ∧ r < b ∧ AddrG (tl ++ news) tl tl') := by
  obtain ⟨hn1, hbn, hbn2⟩ := bits_pos hb
  unfold Ct
  k_fill
  unfold Ctr
  intro dp un gd cn cs₀ a' ccd cl outer A₀ base h₀ L m s Q E B F X N T hk hG hd hu hret
  refine wpAny_call ?_
  k_dflt cell_enter
  (try (with_reducible show wpAny _ _ _ _ _ _)); (try k_fold)
  k_steps
  unfold Stop
  k_dflt (refine' ctr_use ?k1 ?k2 ?k3 ?k4 ?k5 ?kK ?kG (int2digits w tl news hT hN _ _ _ _ ha (by omega) (by omega) (by omega)) ?kd ?ku ?_; (case k1 => k_asm); (case k2 => k_asm); (case k3 => k_asm); (case k4 => k_asm); (case k5 => k_asm); (case kK => first | exact rfl | assumption); (case kG => assumption); (case kd => ktr_room); (case ku => ktr_units))
  rintro v n1 h1 tk1 F1 N1 ⟨D, vs, e, tl1, rfl, rfl, hT1, hi1, hlo1, hof1, hg1⟩
  k_sweep
  (try (with_reducible show wpAny _ _ _ _ _ _)); (try k_fold)
  k_steps
  unfold Stop
  k_dflt (refine' newList_K ?k1 ?k2 ?_; (case k1 => k_asm); (case k2 => k_asm))
  intro Dq h2 F2 N2 hlt2
  have etn : ((Builtin.Int.intBits b : Nat) : Int).toNat = Builtin.Int.intBits b := Int.toNat_natCast _
  rw [etn] at hi1
  have hB0 : (0 : Int) < 2 ^ Builtin.Int.intBits b := two_pow_pos _
  generalize hK : ((((Builtin.Int.intBits a : Int) + Builtin.Int.intBits b - 1) / Builtin.Int.intBits b).toNat) = K at hi1
  have hK2 : K ≤ 64 := by
    have h1 : ((Builtin.Int.intBits a : Int) + Builtin.Int.intBits b - 1) / Builtin.Int.intBits b < 65 := Int.ediv_lt_of_lt_mul (by omega) (by omega)
    omega
  have hvl : vs.length = K := by rw [hi1.length, digs_length]
  have oDq : ∀ p ∈ tl1 ++ news, p.1 ≠ Dq := fun p hp => Nat.ne_of_lt (hlt2 p (.tail _ hp))
  have lDq : D < Dq := hlt2 _ (.head _)
  k_sweep
  (try (with_reducible show wpAny _ _ _ _ _ _)); (try k_fold)
  k_steps
  unfold Stop
  rename_i D' _ _ _ _
  rename Fr _ _ _ _ => F3
  rename News _ _ _ _ => N3
  refine' iter_rev_st (σ := DS) (l := D) (vs := vs) (e := e) (c₀ := ⟨[], [], 0, 0, _, none⟩) F3 N3 rfl ?hIn (fun m c y => if y = Str.ofString "r" then some (.int c.r c.tr) else if y = Str.ofString "q_digit" then c.u else m y)
    (fun _ c => (Dq, W.listOf c.vs.toArray c.e) :: (D, W.listOf vs.toArray e) :: (tl1 ++ news))
    (fun i c => 0 ≤ c.r ∧ c.r < b ∧ IntsAre c.vs c.qs ∧ c.qs.length = i ∧ (∀ q ∈ c.qs, 0 ≤ q ∧ q < 2 ^ Builtin.Int.intBits b) ∧ undig (2 ^ Builtin.Int.intBits b) ((digs (2 ^ Builtin.Int.intBits b) K a).drop (vs.length - i)) = undig (2 ^ Builtin.Int.intBits b) c.qs.reverse * b + c.r)
    (fun c => by simp) rfl ?hm ?hJ ?turn ?done
  case hm =>
    intro y hy
    dsimp only
    by_cases e1 : y = Str.ofString "r"
    · rw [e1]; exact rfl
    · by_cases e2 : y = Str.ofString "q_digit"
      · rw [e2]; exact rfl
      · simp only [if_neg e1, if_neg e2]
  case hIn =>
    intro p hp
    rename_i l1
    rcases List.mem_cons.mp hp with rfl | hp
    · exact l1.1
    · rcases List.mem_cons.mp hp with rfl | hp
      · exact l1.2.1
      · exact allLt_mem l1.2.2 p hp
  case hJ =>
    refine ⟨Int.le_refl _, hb, .nil, rfl, by simp, ?_⟩
    dsimp only
    rw [Nat.sub_zero, List.drop_eq_nil_of_le (by rw [digs_length]; omega)]
    simp [undig]
  case turn =>
    rintro i v ⟨ws, qs, e2, r, tr, u⟩ it h tk hi hv ⟨j1, j2, j3, j4, j5, j6⟩ F4 N4 ho
    dsimp only at j1 j2 j3 j4 j5 j6 F4 N4 ho
    obtain ⟨d, td, rfl, hd⟩ := IntsAre.at hi1 _ v hv
    have hd2 := digs_range hB0 _ _ d (List.mem_of_getElem? hd)
    have hbig : r * 2 ^ Builtin.Int.intBits b + d < 2 ^ Builtin.Int.intBits b * b := by
      have : (r + 1) * 2 ^ Builtin.Int.intBits b ≤ b * 2 ^ Builtin.Int.intBits b := Int.mul_le_mul_of_nonneg_right (by omega) (by omega)
      grind
    have hrB : 0 ≤ r * 2 ^ Builtin.Int.intBits b := Int.mul_nonneg j1 (by omega)
    (try (with_reducible show wpAny _ _ _ _ _ _)); (try k_fold)
    k_steps
    · have := bits_of_lt (n := Builtin.Int.intBits b) j1 (by omega)
      omega
    unfold Stop
    rw [etn]
    k_dflt (refine' ctr_use ?k1 ?k2 ?k3 ?k4 ?k5 ?kK ?kG (div2n1n w _ _ b (Builtin.Int.intBits b) _ _ _ (by omega) hb hbn hbn2 hbig hb2) ?kd ?ku ?_; (case k1 => k_asm); (case k2 => k_asm); (case k3 => k_asm); (case k4 => k_asm); (case k5 => k_asm); (case kK => first | exact rfl | assumption); (case kG => assumption); (case kd => ktr_room); (case ku => ktr_units))
    rintro v n3 h3 tk3 F5 N5 ⟨D2, q, r2, tq, tr2, rfl, rfl, k1, k2, k3⟩
    have o1 : D2 ≠ Dq := ne_of_cls N5 (.head _) (.tail _ (.tail _ (.head _))) (by show Value.type "tuple" ≠ Value.type "list"; decide)
    have o2 : @Ne Nat D' Dq := Ne.symm (ho _ (.head _))
    have o3 : @Ne Nat D Dq := Nat.ne_of_lt lDq
    have hz : ws.length ≤ 64 := by rw [j3.length]; omega
    k_sweep
    (try (with_reducible show wpAny _ _ _ _ _ _)); (try k_fold)
    k_steps
    show FEnd _ _ _ _ _ _ _ _ _ _
    rename Fr _ _ _ _ => F6
    rename News _ _ _ _ => N6
    simp only [List.push_toArray] at N6
    refine ⟨⟨ws ++ [.int q tq], qs ++ [q], _, r2, tr2, some (.int q tq)⟩, _, _, _, rfl, F6, ?_, news_sub N6 (fun p hp => .tail _ hp), fun p hp => ?_, k2, k3, IntsAre.append j3 (.cons _ _ .nil), ?_, ?_, ?_⟩
    · intro y hy
      dsimp only
      by_cases e1 : y = Str.ofString "r"
      · rw [e1]; exact rfl
      · by_cases e2 : y = Str.ofString "q_digit"
        · rw [e2]; exact rfl
        · simp only [if_neg e1, if_neg e2, if_neg hy]
    · rcases List.mem_cons.mp hp with rfl | hp
      · exact ho (Dq, W.listOf ws.toArray e2) (.head _)
      · exact ho p (.tail _ hp)
    · simp [j4]
    · intro q' hq'
      rcases List.mem_append.mp hq' with h1 | h1
      · exact j5 q' h1
      · rw [List.mem_singleton.mp h1]
        constructor
        · refine Int.not_lt.mp fun h2 => ?_
          have : q * b ≤ -1 * b := Int.mul_le_mul_of_nonneg_right (by omega) (by omega)
          omega
        · refine Int.not_le.mp fun h2 => ?_
          have : 2 ^ Builtin.Int.intBits b * b ≤ q * b := Int.mul_le_mul_of_nonneg_right h2 (by omega)
          omega
    · obtain ⟨hlt, he⟩ := List.getElem?_eq_some_iff.mp hd
      have h1 : (digs (2 ^ Builtin.Int.intBits b) K a).drop (vs.length - (i + 1)) = d :: (digs (2 ^ Builtin.Int.intBits b) K a).drop (vs.length - i) := by
        have h2 : vs.length - (i + 1) = vs.length - 1 - i := by omega
        have h3 : vs.length - i = vs.length - 1 - i + 1 := by omega
        rw [h2, h3, List.drop_eq_getElem_cons hlt, he]
      dsimp only
      rw [h1, List.reverse_append, undig]
      show _ = undig _ (q :: qs.reverse) * b + r2
      rw [undig]
      exact dp_step j6 k1
  case done =>
    rintro ⟨ws, qs, e2, r, tr, u⟩ u2 h tk ⟨j1, j2, j3, j4, j5, j6⟩ F4 N4
    dsimp only at j1 j2 j3 j4 j5 j6 F4 N4
    have hwl : ws.length = K := by rw [j3.length, j4, hvl]
    have hbk : Builtin.Int.intBits a ≤ Builtin.Int.intBits b * K := by
      have h1 := Int.lt_ediv_add_one_mul_self ((Builtin.Int.intBits a : Int) + Builtin.Int.intBits b - 1) (b := (Builtin.Int.intBits b : Int)) (by omega)
      have h2 : (K : Int) = ((Builtin.Int.intBits a : Int) + Builtin.Int.intBits b - 1) / Builtin.Int.intBits b := by
        rw [← hK]; exact Int.toNat_of_nonneg (Int.ediv_nonneg (by omega) (by omega))
      rw [← h2] at h1
      have h3 : ((Builtin.Int.intBits b * K : Nat) : Int) = (K : Int) * Builtin.Int.intBits b := by rw [Int.natCast_mul, Int.mul_comm]
      have h4 : ((K : Int) + 1) * Builtin.Int.intBits b = (K : Int) * Builtin.Int.intBits b + Builtin.Int.intBits b := by grind
      omega
    have hav : a < (2 ^ Builtin.Int.intBits b) ^ K := by
      rw [← Int.pow_mul]
      exact lt_of_bits ha hbk
    rw [Nat.sub_self, List.drop_zero, undig_digs hB0 K a ha hav] at j6
    have o3 : @Ne Nat D Dq := Nat.ne_of_lt lDq
    have m108 : ∃ o, ((108 : Nat), o) ∈ tl := by
      obtain ⟨_, _, _, _, rfl, _⟩ := hT
      exact ⟨_, .tail _ (.tail _ (.head _))⟩
    obtain ⟨o108, m108⟩ := m108
    have l108 := hlo1 _ (List.mem_append_left _ m108)
    dsimp only at l108
    have N5 := news_sub (news' := (Dq, W.listOf ws.toArray e2) :: (tl1 ++ ((D, W.listOf vs.toArray e) :: news))) N4 (fun p hp => by
      simp only [List.mem_cons, List.mem_append] at hp ⊢
      rcases hp with h1 | h1 | h1 | h1
      · exact .inl h1
      · exact .inr (.inr (.inl h1))
      · exact .inr (.inl h1)
      · exact .inr (.inr (.inr h1)))
    clear N4 N3
    (try (with_reducible show wpAny _ _ _ _ _ _)); (try k_fold)
    k_steps
    (with_reducible show wpAny _ _ (call (Value.builtin _) [Value.ref _]) _ _ _)
    k_dflt (refine' kl_reverse (its := ws.toArray) (n := e2) (l := ws.reverse) ?F ?N ?e ?U ?z ?_; (case F => k_asm); (case N => k_asm); (case e => exact rfl); (case z => simp only [sizeLine_eq]; omega))
    case U =>
      refine Upd.head fun p hp => ?_
      rcases List.mem_append.mp hp with h1 | h1
      · exact oDq _ (List.mem_append_left _ h1)
      · rcases List.mem_cons.mp h1 with rfl | h1
        · exact o3
        · exact oDq _ (List.mem_append_right _ h1)
    intro h5 F5 N6
    have N7 := news_sub (news' := tl1 ++ ((Dq, W.listOf ws.reverse.toArray e2) :: (D, W.listOf vs.toArray e) :: news)) N6 (fun p hp => by
      simp only [List.mem_cons, List.mem_append] at hp ⊢
      rcases hp with h1 | h1 | h1 | h1
      · exact .inr (.inl h1)
      · exact .inl h1
      · exact .inr (.inr (.inl h1))
      · exact .inr (.inr (.inr h1)))
    clear N5 N6
    k_sweep
    (try (with_reducible show wpAny _ _ _ _ _ _)); (try k_fold)
    k_steps
    unfold Stop
    have hHi : HiL ((Dq, W.listOf ws.reverse.toArray e2) :: (D, W.listOf vs.toArray e) :: news) := fun p hp => by
      rcases List.mem_cons.mp hp with rfl | hp
      · exact HiL.gt (Nat.lt_trans l108 lDq)
      · rcases List.mem_cons.mp hp with rfl | hp
        · exact HiL.gt l108
        · exact hN p hp
    k_dflt (refine' ctr_use ?k1 ?k2 ?k3 ?k4 ?k5 ?kK ?kG (digits2int w tl1 _ hT1 hHi Dq ws.reverse e2 qs.reverse _ _ (.head _) (IntsAre.reverse j3) (by rw [List.length_reverse, j4, hvl]; exact hK2) (by omega) (by omega) (fun q hq => by rw [etn]; exact j5 q (List.mem_reverse.mp hq))) ?kd ?ku ?_; (case k1 => k_asm); (case k2 => k_asm); (case k3 => k_asm); (case k4 => k_asm); (case k5 => k_asm); (case kK => first | exact rfl | assumption); (case kG => assumption); (case kd => ktr_room); (case ku => ktr_units))
    rintro v n3 h6 tk6 F8 N8 ⟨tq, tl2, rfl, rfl, hT2, hg2⟩
    rw [etn]
    k_sweep
    (try (with_reducible show wpAny _ _ _ _ _ _)); (try k_fold)
    k_steps
    rename News _ _ _ _ => N9
    refine hret _ _ _ _ (by assumption) (news_sub N9 (fun p hp => ?_)) ⟨_, undig (2 ^ Builtin.Int.intBits b) qs.reverse, r, tq, tr, tl2, rfl, rfl, hT2, j6, j1, j2, fun p hp => ?_⟩
    · simp only [List.mem_cons, List.mem_append] at hp ⊢
      rcases hp with h1 | h1 | h1
      · exact .inl h1
      · exact .inr (.inl h1)
      · exact .inr (.inr (.inr (.inr h1)))
    · rcases hg2 p hp with h1 | h1
      · obtain ⟨q, hq, e1⟩ := List.mem_map.mp h1
        rw [← e1]
        exact hg1 q hq
      · refine .inr fun q hq => ?_
        have h2 := h1 (D, W.listOf vs.toArray e) (List.mem_append_right _ (.tail _ (.head _)))
        exact Nat.lt_trans (hlo1 q hq) h2
end
section
open PySem PySem.W PySem.Spec PySem.Calls PyProof.Rows
set_option maxRecDepth 100000
set_option maxHeartbeats 4000000
/-- the walker as it is ahead of a head -/
theorem walker_anew_P6 : True := by
  w_top off
  exact True.intro
variable (w : World) {loose : List Str} {mean : ExcName → Option Value} {mg mb : Str → Option Value}
local macro_rules | `(tactic| walk_at "call ref") => `(tactic| (k_here; refine stop ?_))
theorem AddrG.trans {l tl tl' tl2 pre : List (Addr × Obj)} (g : AddrG l tl tl') (g2 : AddrG (tl' ++ (pre ++ l)) tl' tl2) : AddrG l tl tl2 := fun p hp => by
  rcases g2 p hp with h1 | h1
  · obtain ⟨q, hq, e1⟩ := List.mem_map.mp h1
    rw [← e1]
    exact g q hq
  · exact .inr fun q hq => h1 q (List.mem_append_right _ (List.mem_append_right _ hq))
theorem neg_bits (a : Int) : Builtin.Int.intBits (-a) = Builtin.Int.intBits a := by simp [Builtin.Int.intBits]
theorem not_bits {a : Int} (h : a < 0) : Builtin.Int.intBits (-a - 1) ≤ Builtin.Int.intBits a := by
  rw [← neg_bits a]
  exact bits_mono (y := -a) (by omega) (by omega) (Nat.le_refl _)
theorem Ct.le {c : Addr} {d u d' u' : Nat} {news : List (Addr × Obj)} {vs : List Value} {post : Value → List (Addr × Obj) → Prop} (h : Ct w loose mean mg mb c d u news vs post) (hd : d ≤ d') (hu : u ≤ u') : Ct w loose mean mg mb c d' u' news vs post := by
  unfold Ct Ctr at h ⊢
  intro dp un gd cn cs₀ a' ccd cl outer A₀ base h₀ L m s Q E B F X N T hk hG hd hu hret
  exact h dp un gd cn cs₀ a' ccd cl outer A₀ base h₀ L m s Q E B F X N T hk hG (by omega) (by omega) hret
theorem fdiv_not {a b : Int} (ha : a < 0) (hb : 0 < b) : a.fdiv b = -((-a - 1).fdiv b) - 1 := by
  rw [fdiv_pos _ hb, fdiv_pos _ hb]
  have h1 := Int.mul_ediv_add_emod (-a - 1) b
  have h2 := Int.emod_nonneg (-a - 1) (show b ≠ 0 by omega)
  have h3 := Int.emod_lt_of_pos (-a - 1) hb
  exact (ediv_emod_of (r := b - (-a - 1) % b - 1) (by omega) (by omega) (by grind)).1.symm
theorem fmod_not {a b : Int} (ha : a < 0) (hb : 0 < b) : a.fmod b = b + (-((-a - 1).fmod b) - 1) := by
  rw [fmod_pos _ hb, fmod_pos _ hb]
  have h1 := Int.mul_ediv_add_emod (-a - 1) b
  have h2 := Int.emod_nonneg (-a - 1) (show b ≠ 0 by omega)
  have h3 := Int.emod_lt_of_pos (-a - 1) hb
  have := (ediv_emod_of (a := a) (b := b) (q := -((-a - 1) / b) - 1) (r := b - (-a - 1) % b - 1) (by omega) (by omega) (by grind)).2.symm
  omega
theorem fmod_neg2 (a b : Int) : -((-a).fmod (-b)) = a.fmod b := by
  rw [Int.fmod_def, Int.fmod_def, Int.neg_fdiv_neg]
  grind
theorem pick_head {h₀ h : Heap} {L D : Addr} {o : Obj} {r r' : List (Addr × Obj)} {x y : Int} {t1 t2 : Tok} (N : News h₀ L h ((D, o) :: r)) (e : o = tup2 x y t1 t2) (hs : ∀ p ∈ r', p ∈ r) : News h₀ L h ((D, tup2 x y t1 t2) :: r') := fun p hp => by
  rcases List.mem_cons.mp hp with rfl | hp
  · exact e ▸ N _ (.head _)
  · exact N p (.tail _ (hs p hp))
/-- the post of int_divmod -/
def DivQ (a b : Int) (tl news : List (Addr × Obj)) (v : Value) (news' : List (Addr × Obj)) : Prop :=
  ∃ D tq tr tl', v = .ref D ∧ news' = (D, tup2 (a.fdiv b) (a.fmod b) tq tr) :: (tl' ++ news) ∧ TabsL tl' ∧ AddrG (tl ++ news) tl tl'
theorem int_divmodA (tl news : List (Addr × Obj)) (hT : TabsL tl) (hN : HiL news) (a b : Int) (ta tb : Tok) (ha : 0 ≤ a) (hb : 0 < b) (hb2 : Builtin.Int.intBits b ≤ 8000) (hsz : Builtin.Int.intBits a ≤ 64 * Builtin.Int.intBits b) :
    Ct w loose mean mg mb 56 204 3100 (tl ++ news) [.int a ta, .int b tb] (DivQ a b tl news) := by
  unfold Ct
  k_fill
  unfold Ctr
  intro dp un gd cn cs₀ a' ccd cl outer A₀ base h₀ L m s Q E B F X N T hk hG hd hu hret
  refine wpAny_call ?_
  k_dflt cell_enter
  k_steps
  all_goals try (exfalso; omega)
  unfold Stop
  k_dflt (refine' ctr_use ?k1 ?k2 ?k3 ?k4 ?k5 ?kK ?kG (divmod_pos w tl news hT hN a b _ _ ha hb hb2 hsz) ?kd ?ku ?_; (case k1 => k_asm); (case k2 => k_asm); (case k3 => k_asm); (case k4 => k_asm); (case k5 => k_asm); (case kK => first | exact rfl | assumption); (case kG => assumption); (case kd => ktr_room); (case ku => ktr_units))
  rintro v n3 h3 tk3 F5 N5 ⟨D, q, r, tq, tr, tl2, rfl, rfl, hT2, e1, e2, e3, hg⟩
  obtain ⟨rfl, rfl⟩ := ediv_emod_of e2 e3 e1
  k_sweep
  k_steps
  exact hret _ _ _ _ (by assumption) (by assumption) ⟨D, tq, tr, tl2, rfl, by rw [fdiv_pos a hb, fmod_pos a hb], hT2, hg⟩
theorem int_divmodB (tl news : List (Addr × Obj)) (hT : TabsL tl) (hN : HiL news) (a b : Int) (ta tb : Tok) (ha : a < 0) (hb : 0 < b) (hb2 : Builtin.Int.intBits b ≤ 8000) (hsz : Builtin.Int.intBits a ≤ 64 * Builtin.Int.intBits b) :
    Ct w loose mean mg mb 56 208 3200 (tl ++ news) [.int a ta, .int b tb] (DivQ a b tl news) := by
  unfold Ct
  k_fill
  unfold Ctr
  intro dp un gd cn cs₀ a' ccd cl outer A₀ base h₀ L m s Q E B F X N T hk hG hd hu hret
  refine wpAny_call ?_
  k_dflt cell_enter
  k_steps
  all_goals try (exfalso; omega)
  (try simp only [not_eq])
  unfold Stop
  k_dflt (refine' ctr_use ?k1 ?k2 ?k3 ?k4 ?k5 ?kK ?kG (int_divmodA w tl news hT hN (-a - 1) b _ _ (by omega) hb hb2 (Nat.le_trans (not_bits ha) hsz)) ?kd ?ku ?_; (case k1 => k_asm); (case k2 => k_asm); (case k3 => k_asm); (case k4 => k_asm); (case k5 => k_asm); (case kK => first | exact rfl | assumption); (case kG => assumption); (case kd => ktr_room); (case ku => ktr_units))
  rintro v n3 h3 tk3 F5 N5 ⟨D, tq, tr, tl2, rfl, rfl, hT2, hg⟩
  k_sweep
  k_steps
  rename News _ _ _ _ => N6
  refine' hret _ _ _ _ (by assumption) (pick_head (x := a.fdiv b) (y := a.fmod b) (r' := tl2 ++ news) N6 ?e (fun p hp => ?m)) ⟨_, _, _, tl2, rfl, rfl, hT2, hg⟩
  case e => rw [fdiv_not ha hb, fmod_not ha hb]; exact rfl
  case m =>
    simp only [List.mem_cons, List.mem_append] at hp ⊢
    rcases hp with h1 | h1
    · exact .inr (.inl h1)
    · exact .inr (.inr h1)
theorem int_divmodAny (tl news : List (Addr × Obj)) (hT : TabsL tl) (hN : HiL news) (a b : Int) (ta tb : Tok) (hb : 0 < b) (hb2 : Builtin.Int.intBits b ≤ 8000) (hsz : Builtin.Int.intBits a ≤ 64 * Builtin.Int.intBits b) :
    Ct w loose mean mg mb 56 208 3200 (tl ++ news) [.int a ta, .int b tb] (DivQ a b tl news) := by
  by_cases ha : a < 0
  · exact int_divmodB w tl news hT hN a b ta tb ha hb hb2 hsz
  · exact Ct.le w (int_divmodA w tl news hT hN a b ta tb (by omega) hb hb2 hsz) (by omega) (by omega)
theorem int_divmodC (tl news : List (Addr × Obj)) (hT : TabsL tl) (hN : HiL news) (a b : Int) (ta tb : Tok) (hb : b < 0) (hb2 : Builtin.Int.intBits b ≤ 8000) (hsz : Builtin.Int.intBits a ≤ 64 * Builtin.Int.intBits b) :
    Ct w loose mean mg mb 56 212 3300 (tl ++ news) [.int a ta, .int b tb] (DivQ a b tl news) := by
  unfold Ct
  k_fill
  unfold Ctr
  intro dp un gd cn cs₀ a' ccd cl outer A₀ base h₀ L m s Q E B F X N T hk hG hd hu hret
  refine wpAny_call ?_
  k_dflt cell_enter
  k_steps
  all_goals try (exfalso; omega)
  unfold Stop
  k_dflt (refine' ctr_use ?k1 ?k2 ?k3 ?k4 ?k5 ?kK ?kG (int_divmodAny w tl news hT hN (-a) (-b) _ _ (by omega) (by rw [neg_bits]; exact hb2) (by rw [neg_bits, neg_bits]; exact hsz)) ?kd ?ku ?_; (case k1 => k_asm); (case k2 => k_asm); (case k3 => k_asm); (case k4 => k_asm); (case k5 => k_asm); (case kK => first | exact rfl | assumption); (case kG => assumption); (case kd => ktr_room); (case ku => ktr_units))
  rintro v n3 h3 tk3 F5 N5 ⟨D, tq, tr, tl2, rfl, rfl, hT2, hg⟩
  k_sweep
  k_steps
  rename News _ _ _ _ => N6
  refine' hret _ _ _ _ (by assumption) (pick_head (x := a.fdiv b) (y := a.fmod b) (r' := tl2 ++ news) N6 ?e (fun p hp => ?m)) ⟨_, _, _, tl2, rfl, rfl, hT2, hg⟩
  case e => rw [Int.neg_fdiv_neg, fmod_neg2]
  case m =>
    simp only [List.mem_cons, List.mem_append] at hp ⊢
    rcases hp with h1 | h1
    · exact .inr (.inl h1)
    · exact .inr (.inr h1)
theorem int_divmod (tl news : List (Addr × Obj)) (hT : TabsL tl) (hN : HiL news) (a b : Int) (ta tb : Tok) (hb : b ≠ 0) (hb2 : Builtin.Int.intBits b ≤ 8000) (hsz : Builtin.Int.intBits a ≤ 64 * Builtin.Int.intBits b) :
    Ct w loose mean mg mb 56 212 3300 (tl ++ news) [.int a ta, .int b tb] (DivQ a b tl news) := by
  by_cases h : b < 0
  · exact int_divmodC w tl news hT hN a b ta tb h hb2 hsz
  · exact Ct.le w (int_divmodAny w tl news hT hN a b ta tb (by omega) hb2 hsz) (by omega) (by omega)
end
section
open PySem PySem.W PySem.Spec PySem.Calls PyProof.Rows
set_option maxRecDepth 100000
set_option maxHeartbeats 4000000
/-- the walker as it is ahead of a head -/
theorem walker_anew_P7 : True := by
  w_top off
  exact True.intro
variable (w : World) {loose : List Str} {mean : ExcName → Option Value} {mg mb : Str → Option Value}
local macro_rules | `(tactic| walk_at "call ref") => `(tactic| (k_here; refine stop ?_))
local macro_rules | `(tactic| walk_at "exec While Compare cons nil") => `(tactic| (k_here; refine stop ?_))
def Ctk (w : World) (loose : List Str) (mean : ExcName → Option Value) (mg mb : Str → Option Value) (f : Addr) (d u : Nat) (news : List (Addr × Obj)) (vs : List Value) (kw : List (Str × Value)) (post : Value → List (Addr × Obj) → Prop) : Prop :=
  CtrK Challenge.rw_ph0156_02.row.prog w (hd2.heap_39 w.params) topProg loose mean mg mb Gnd (.ref f) d u news vs kw post
theorem map_getD {ns : List Int} (f : Int → Int) {m : Nat} (h : m < ns.length) : (ns.map f).getD m 0 = f (ns.getD m 0) := by
  rw [List.getD_eq_getElem?_getD, List.getD_eq_getElem?_getD, List.getElem?_map, List.getElem?_eq_getElem h]
  rfl
theorem pw_take {ks : List Int} (hs : ks.Pairwise (· ≤ ·)) {m : Nat} (hm : m < ks.length) : ∀ k ∈ ks.take (m + 1), k ≤ ks.getD m 0 := fun k hk => by
  obtain ⟨i, hi, rfl⟩ := List.mem_iff_getElem.mp hk
  rw [List.length_take] at hi
  rw [List.getElem_take, List.getD_eq_getElem?_getD, List.getElem?_eq_getElem hm]
  show _ ≤ ks[m]
  rcases Nat.lt_or_ge i m with h1 | h1
  · exact List.pairwise_iff_getElem.mp hs i m (by omega) hm h1
  · have : i = m := by omega
    subst this
    exact Int.le_refl _
theorem pw_drop {ks : List Int} (hs : ks.Pairwise (· ≤ ·)) {m : Nat} (hm : m < ks.length) : ∀ k ∈ ks.drop m, ks.getD m 0 ≤ k := fun k hk => by
  obtain ⟨i, hi, rfl⟩ := List.mem_iff_getElem.mp hk
  rw [List.length_drop] at hi
  rw [List.getElem_drop, List.getD_eq_getElem?_getD, List.getElem?_eq_getElem hm]
  show ks[m] ≤ _
  rcases Nat.eq_zero_or_pos i with h1 | h1
  · subst h1
    exact Int.le_refl _
  · exact List.pairwise_iff_getElem.mp hs m (m + i) hm (by omega) (by omega)
structure LH where
  lo : Int
  hi : Int
  tlo : Tok
  thi : Tok
  mid : Option Value
theorem bisect_right2 (news : List (Addr × Obj)) (row lam : Addr) (vs : List Value) (e : Nat) (ns : List Int) (f : Int → Int) (x : Int) (tx  : Tok) (oc : Value) (od : Option Addr) (fd : FuncData) (sl : Array (Option Value))
    (hrow : (row, W.listOf vs.toArray e) ∈ news) (hi : IntsAre vs ns) (hlen : ns.length ≤ 1000) (hkm : (lam, (⟨oc, od, .func fd, sl⟩ : Obj)) ∈ news)
    (hkey : ∀ i ∈ ns, ∀ t, Ct w loose mean mg mb lam 20 300 news [.int i t] (fun v n' => ∃ t', v = .int (f i) t' ∧ n' = news)) (hs : (ns.map f).Pairwise (· ≤ ·)) :
    Ctk w loose mean mg mb 74 30 400 news [.ref row, .int x tx] [(Str.ofString "key", .ref lam)]
      (fun v n' => ∃ (p : Nat) (t : Tok), v = .int p t ∧ n' = news ∧ p ≤ ns.length ∧ (∀ k ∈ (ns.map f).take p, k ≤ x) ∧ (∀ k ∈ (ns.map f).drop p, x < k)) := by
  unfold Ctk
  k_fill
  unfold CtrK
  intro dp un gd cn cs₀ a' ccd cl outer A₀ base h₀ L m s Q E B F X N T hk hG hd hu hret
  refine wpAny_call ?_
  k_dflt (refine' code_def ?k1 ?k2 ?k3 ?k4 ?k5 ?kA ?kF ?kK ?k6 ?k7 ?k8 ?k9 ?kB ?_ ?c2 ?c3 ?c4 ?c5; (case kA => exact rfl); (case kF => exact rfl); (case kK => assumption); (case k1 => k_asm); (case k2 => k_asm); (case k3 => k_asm); (case k4 => k_asm); (case k5 => k_asm); (case k6 => k_is); (case k7 => k_is); (case k8 => ktr_room); (case k9 => exact binds_K (by k_in) rfl (by k_is) rfl rfl rfl); (case c5 => decide); (case kB => exact locs rfl); (case c2 => exact rfl); (case c3 => exact rfl); (case c4 => exact rfl); k_whole; intro g' L' h' FG' F' N' B' X' T'; (try dsimp only); (try k_lift B'); (try (with_reducible show wpAny _ _ _ _ _ _)); (try k_fold))
  k_steps
  unfold Stop; rename Fr _ _ _ _ => FL; rename News _ _ _ _ => NL
  have hvl : vs.length = ns.length := hi.length
  have hml : (ns.map f).length = ns.length := List.length_map ..
  refine while_stR (σ := LH) (c₀ := ⟨_, _, _, _, _⟩) FL NL (fun m c y => if y = Str.ofString "lo" then some (.int c.lo c.tlo) else if y = Str.ofString "hi" then some (.int c.hi c.thi) else if y = Str.ofString "mid" then c.mid else m y) (fun news _ => news)
    (fun k c => 0 ≤ c.lo ∧ c.lo ≤ c.hi ∧ c.hi ≤ ns.length ∧ k = (c.hi - c.lo).toNat ∧ (∀ k ∈ (ns.map f).take c.lo.toNat, k ≤ x) ∧ (∀ k ∈ (ns.map f).drop c.hi.toNat, x < k)) (by passes_own) (canon3 (by exact rfl) (by exact rfl) (by exact rfl) (fun _ _ _ _ => rfl)) rfl ⟨Int.le_refl 0, by dsimp only; simp, by dsimp only; simp [hvl], rfl, by simp, by simp [hvl, List.drop_eq_nil_of_le]⟩ ?_
  clear FL NL
  rintro k ⟨lo, hi', tlo, thi, mid⟩ h tk R ⟨j1, j2, j3, j4, j5, j6⟩ F1 N1 hRn hRc hRb hRr
  dsimp only at j1 j2 j3 j4 j5 j6 F1 N1
  (try (with_reducible show wpAny _ _ _ _ _ _)); (try k_fold)
  k_steps
  · decide
  · have hm1 : ((lo + hi') / 2).toNat < ns.length := by omega
    have hm2 : ns.getD ((lo + hi') / 2).toNat 0 ∈ ns := by
      rw [List.getD_eq_getElem?_getD, List.getElem?_eq_getElem hm1]
      exact List.getElem_mem hm1
    have pt := pw_take hs (m := ((lo + hi') / 2).toNat) (by rw [hml]; exact hm1)
    have pd := pw_drop hs (m := ((lo + hi') / 2).toNat) (by rw [hml]; exact hm1)
    rw [map_getD f hm1] at pt pd
    k_dflt (refine' callWith_F ?k1 ?_; (case k1 => exact FnAt.of (by assumption) (by assumption)); k_whole)
    k_steps
    unfold Stop
    k_dflt (refine' ctr_use ?k1 ?k2 ?k3 ?k4 ?k5 ?kK ?kG (hkey _ hm2 _) ?kd ?ku ?_; (case k1 => k_asm); (case k2 => k_asm); (case k3 => k_asm); (case k4 => k_asm); (case k5 => k_asm); (case kK => first | exact rfl | assumption); (case kG => assumption); (case kd => ktr_room); (case ku => ktr_units))
    rintro v n3 h3 tk3 F5 N5 ⟨t', rfl, rfl⟩
    k_sweep
    k_steps
    · skip
      refine hRn _ ⟨_, ⟨_, _, _, _, _⟩, _, _, rfl, fr_congr (by assumption) (canon3 (by exact rfl) (by exact rfl) (by exact rfl) (fun y h1 h2 h3 => by simp only [if_neg h1, if_neg h2, if_neg h3])), by assumption, ?_, ?_, ?_, ?_, rfl, ?_, ?_⟩
      all_goals dsimp only
      · omega
      · omega
      · omega
      · omega
      · exact j5
      · exact fun k hk => Int.lt_of_lt_of_le (by assumption) (pd k hk)
    · skip
      refine hRn _ ⟨_, ⟨_, _, _, _, _⟩, _, _, rfl, fr_congr (by assumption) (canon3 (by exact rfl) (by exact rfl) (by exact rfl) (fun y h1 h2 h3 => by simp only [if_neg h1, if_neg h2, if_neg h3])), by assumption, ?_, ?_, ?_, ?_, rfl, ?_, ?_⟩
      all_goals dsimp only
      · omega
      · omega
      · omega
      · omega
      · (rw [show ((lo + hi') / 2 + 1).toNat = ((lo + hi') / 2).toNat + 1 by omega]; exact fun k hk => Int.le_trans (pt k hk) (Int.not_lt.mp (by assumption)))
      · exact j6
  · skip
    have e1 : lo = hi' := by omega
    subst e1
    refine hret _ _ _ _ (by assumption) (by assumption) ⟨lo.toNat, tlo, by rw [Int.toNat_of_nonneg j1], rfl, by omega, j5, j6⟩
theorem bisect_right4 (news : List (Addr × Obj)) (row lam : Addr) (vs : List Value) (e : Nat) (ns : List Int) (f : Int → Int) (x : Int) (tx t0 : Tok) (oc : Value) (od : Option Addr) (fd : FuncData) (sl : Array (Option Value))
    (hrow : (row, W.listOf vs.toArray e) ∈ news) (hi : IntsAre vs ns) (hlen : ns.length ≤ 1000) (hkm : (lam, (⟨oc, od, .func fd, sl⟩ : Obj)) ∈ news)
    (hkey : ∀ i ∈ ns, ∀ t, Ct w loose mean mg mb lam 20 300 news [.int i t] (fun v n' => ∃ t', v = .int (f i) t' ∧ n' = news)) (hs : (ns.map f).Pairwise (· ≤ ·)) :
    Ctk w loose mean mg mb 74 30 400 news [.ref row, .int x tx, .int 0 t0, .none] [(Str.ofString "key", .ref lam)]
      (fun v n' => ∃ (p : Nat) (t : Tok), v = .int p t ∧ n' = news ∧ p ≤ ns.length ∧ (∀ k ∈ (ns.map f).take p, k ≤ x) ∧ (∀ k ∈ (ns.map f).drop p, x < k)) := by
  unfold Ctk
  k_fill
  unfold CtrK
  intro dp un gd cn cs₀ a' ccd cl outer A₀ base h₀ L m s Q E B F X N T hk hG hd hu hret
  refine wpAny_call ?_
  k_dflt (refine' code_def ?k1 ?k2 ?k3 ?k4 ?k5 ?kA ?kF ?kK ?k6 ?k7 ?k8 ?k9 ?kB ?_ ?c2 ?c3 ?c4 ?c5; (case kA => exact rfl); (case kF => exact rfl); (case kK => assumption); (case k1 => k_asm); (case k2 => k_asm); (case k3 => k_asm); (case k4 => k_asm); (case k5 => k_asm); (case k6 => k_is); (case k7 => k_is); (case k8 => ktr_room); (case k9 => exact binds_K (by k_in) rfl (by k_is) rfl rfl rfl); (case c5 => decide); (case kB => exact locs rfl); (case c2 => exact rfl); (case c3 => exact rfl); (case c4 => exact rfl); k_whole; intro g' L' h' FG' F' N' B' X' T'; (try dsimp only); (try k_lift B'); (try (with_reducible show wpAny _ _ _ _ _ _)); (try k_fold))
  k_steps
  unfold Stop; rename Fr _ _ _ _ => FL; rename News _ _ _ _ => NL
  have hvl : vs.length = ns.length := hi.length
  have hml : (ns.map f).length = ns.length := List.length_map ..
  refine while_stR (σ := LH) (c₀ := ⟨_, _, _, _, _⟩) FL NL (fun m c y => if y = Str.ofString "lo" then some (.int c.lo c.tlo) else if y = Str.ofString "hi" then some (.int c.hi c.thi) else if y = Str.ofString "mid" then c.mid else m y) (fun news _ => news)
    (fun k c => 0 ≤ c.lo ∧ c.lo ≤ c.hi ∧ c.hi ≤ ns.length ∧ k = (c.hi - c.lo).toNat ∧ (∀ k ∈ (ns.map f).take c.lo.toNat, k ≤ x) ∧ (∀ k ∈ (ns.map f).drop c.hi.toNat, x < k)) (by passes_own) (canon3 (by exact rfl) (by exact rfl) (by exact rfl) (fun _ _ _ _ => rfl)) rfl ⟨Int.le_refl 0, by dsimp only; simp, by dsimp only; simp [hvl], rfl, by simp, by simp [hvl, List.drop_eq_nil_of_le]⟩ ?_
  clear FL NL
  rintro k ⟨lo, hi', tlo, thi, mid⟩ h tk R ⟨j1, j2, j3, j4, j5, j6⟩ F1 N1 hRn hRc hRb hRr
  dsimp only at j1 j2 j3 j4 j5 j6 F1 N1
  (try (with_reducible show wpAny _ _ _ _ _ _)); (try k_fold)
  k_steps
  · decide
  · have hm1 : ((lo + hi') / 2).toNat < ns.length := by omega
    have hm2 : ns.getD ((lo + hi') / 2).toNat 0 ∈ ns := by
      rw [List.getD_eq_getElem?_getD, List.getElem?_eq_getElem hm1]
      exact List.getElem_mem hm1
    have pt := pw_take hs (m := ((lo + hi') / 2).toNat) (by rw [hml]; exact hm1)
    have pd := pw_drop hs (m := ((lo + hi') / 2).toNat) (by rw [hml]; exact hm1)
    rw [map_getD f hm1] at pt pd
    k_dflt (refine' callWith_F ?k1 ?_; (case k1 => exact FnAt.of (by assumption) (by assumption)); k_whole)
    k_steps
    unfold Stop
    k_dflt (refine' ctr_use ?k1 ?k2 ?k3 ?k4 ?k5 ?kK ?kG (hkey _ hm2 _) ?kd ?ku ?_; (case k1 => k_asm); (case k2 => k_asm); (case k3 => k_asm); (case k4 => k_asm); (case k5 => k_asm); (case kK => first | exact rfl | assumption); (case kG => assumption); (case kd => ktr_room); (case ku => ktr_units))
    rintro v n3 h3 tk3 F5 N5 ⟨t', rfl, rfl⟩
    k_sweep
    k_steps
    · skip
      refine hRn _ ⟨_, ⟨_, _, _, _, _⟩, _, _, rfl, fr_congr (by assumption) (canon3 (by exact rfl) (by exact rfl) (by exact rfl) (fun y h1 h2 h3 => by simp only [if_neg h1, if_neg h2, if_neg h3])), by assumption, ?_, ?_, ?_, ?_, rfl, ?_, ?_⟩
      all_goals dsimp only
      · omega
      · omega
      · omega
      · omega
      · exact j5
      · exact fun k hk => Int.lt_of_lt_of_le (by assumption) (pd k hk)
    · skip
      refine hRn _ ⟨_, ⟨_, _, _, _, _⟩, _, _, rfl, fr_congr (by assumption) (canon3 (by exact rfl) (by exact rfl) (by exact rfl) (fun y h1 h2 h3 => by simp only [if_neg h1, if_neg h2, if_neg h3])), by assumption, ?_, ?_, ?_, ?_, rfl, ?_, ?_⟩
      all_goals dsimp only
      · omega
      · omega
      · omega
      · omega
      · (rw [show ((lo + hi') / 2 + 1).toNat = ((lo + hi') / 2).toNat + 1 by omega]; exact fun k hk => Int.le_trans (pt k hk) (Int.not_lt.mp (by assumption)))
      · exact j6
  · skip
    have e1 : lo = hi' := by omega
    subst e1
    refine hret _ _ _ _ (by assumption) (by assumption) ⟨lo.toNat, tlo, by rw [Int.toNat_of_nonneg j1], rfl, by omega, j5, j6⟩
theorem bisect_left2 (news : List (Addr × Obj)) (row lam : Addr) (vs : List Value) (e : Nat) (ns : List Int) (f : Int → Int) (x : Int) (tx  : Tok) (oc : Value) (od : Option Addr) (fd : FuncData) (sl : Array (Option Value))
    (hrow : (row, W.listOf vs.toArray e) ∈ news) (hi : IntsAre vs ns) (hlen : ns.length ≤ 1000) (hkm : (lam, (⟨oc, od, .func fd, sl⟩ : Obj)) ∈ news)
    (hkey : ∀ i ∈ ns, ∀ t, Ct w loose mean mg mb lam 20 300 news [.int i t] (fun v n' => ∃ t', v = .int (f i) t' ∧ n' = news)) (hs : (ns.map f).Pairwise (· ≤ ·)) :
    Ctk w loose mean mg mb 92 30 400 news [.ref row, .int x tx] [(Str.ofString "key", .ref lam)]
      (fun v n' => ∃ (p : Nat) (t : Tok), v = .int p t ∧ n' = news ∧ p ≤ ns.length ∧ (∀ k ∈ (ns.map f).take p, k < x) ∧ (∀ k ∈ (ns.map f).drop p, x ≤ k)) := by
  unfold Ctk
  k_fill
  unfold CtrK
  intro dp un gd cn cs₀ a' ccd cl outer A₀ base h₀ L m s Q E B F X N T hk hG hd hu hret
  refine wpAny_call ?_
  k_dflt (refine' code_def ?k1 ?k2 ?k3 ?k4 ?k5 ?kA ?kF ?kK ?k6 ?k7 ?k8 ?k9 ?kB ?_ ?c2 ?c3 ?c4 ?c5; (case kA => exact rfl); (case kF => exact rfl); (case kK => assumption); (case k1 => k_asm); (case k2 => k_asm); (case k3 => k_asm); (case k4 => k_asm); (case k5 => k_asm); (case k6 => k_is); (case k7 => k_is); (case k8 => ktr_room); (case k9 => exact binds_K (by k_in) rfl (by k_is) rfl rfl rfl); (case c5 => decide); (case kB => exact locs rfl); (case c2 => exact rfl); (case c3 => exact rfl); (case c4 => exact rfl); k_whole; intro g' L' h' FG' F' N' B' X' T'; (try dsimp only); (try k_lift B'); (try (with_reducible show wpAny _ _ _ _ _ _)); (try k_fold))
  k_steps
  unfold Stop; rename Fr _ _ _ _ => FL; rename News _ _ _ _ => NL
  have hvl : vs.length = ns.length := hi.length
  have hml : (ns.map f).length = ns.length := List.length_map ..
  refine while_stR (σ := LH) (c₀ := ⟨_, _, _, _, _⟩) FL NL (fun m c y => if y = Str.ofString "lo" then some (.int c.lo c.tlo) else if y = Str.ofString "hi" then some (.int c.hi c.thi) else if y = Str.ofString "mid" then c.mid else m y) (fun news _ => news)
    (fun k c => 0 ≤ c.lo ∧ c.lo ≤ c.hi ∧ c.hi ≤ ns.length ∧ k = (c.hi - c.lo).toNat ∧ (∀ k ∈ (ns.map f).take c.lo.toNat, k < x) ∧ (∀ k ∈ (ns.map f).drop c.hi.toNat, x ≤ k)) (by passes_own) (canon3 (by exact rfl) (by exact rfl) (by exact rfl) (fun _ _ _ _ => rfl)) rfl ⟨Int.le_refl 0, by dsimp only; simp, by dsimp only; simp [hvl], rfl, by simp, by simp [hvl, List.drop_eq_nil_of_le]⟩ ?_
  clear FL NL
  rintro k ⟨lo, hi', tlo, thi, mid⟩ h tk R ⟨j1, j2, j3, j4, j5, j6⟩ F1 N1 hRn hRc hRb hRr
  dsimp only at j1 j2 j3 j4 j5 j6 F1 N1
  (try (with_reducible show wpAny _ _ _ _ _ _)); (try k_fold)
  k_steps
  · decide
  · have hm1 : ((lo + hi') / 2).toNat < ns.length := by omega
    have hm2 : ns.getD ((lo + hi') / 2).toNat 0 ∈ ns := by
      rw [List.getD_eq_getElem?_getD, List.getElem?_eq_getElem hm1]
      exact List.getElem_mem hm1
    have pt := pw_take hs (m := ((lo + hi') / 2).toNat) (by rw [hml]; exact hm1)
    have pd := pw_drop hs (m := ((lo + hi') / 2).toNat) (by rw [hml]; exact hm1)
    rw [map_getD f hm1] at pt pd
    k_dflt (refine' callWith_F ?k1 ?_; (case k1 => exact FnAt.of (by assumption) (by assumption)); k_whole)
    k_steps
    unfold Stop
    k_dflt (refine' ctr_use ?k1 ?k2 ?k3 ?k4 ?k5 ?kK ?kG (hkey _ hm2 _) ?kd ?ku ?_; (case k1 => k_asm); (case k2 => k_asm); (case k3 => k_asm); (case k4 => k_asm); (case k5 => k_asm); (case kK => first | exact rfl | assumption); (case kG => assumption); (case kd => ktr_room); (case ku => ktr_units))
    rintro v n3 h3 tk3 F5 N5 ⟨t', rfl, rfl⟩
    k_sweep
    k_steps
    · skip
      refine hRn _ ⟨_, ⟨_, _, _, _, _⟩, _, _, rfl, fr_congr (by assumption) (canon3 (by exact rfl) (by exact rfl) (by exact rfl) (fun y h1 h2 h3 => by simp only [if_neg h1, if_neg h2, if_neg h3])), by assumption, ?_, ?_, ?_, ?_, rfl, ?_, ?_⟩
      all_goals dsimp only
      · omega
      · omega
      · omega
      · omega
      · (rw [show ((lo + hi') / 2 + 1).toNat = ((lo + hi') / 2).toNat + 1 by omega]; exact fun k hk => Int.lt_of_le_of_lt (pt k hk) (by assumption))
      · exact j6
    · skip
      refine hRn _ ⟨_, ⟨_, _, _, _, _⟩, _, _, rfl, fr_congr (by assumption) (canon3 (by exact rfl) (by exact rfl) (by exact rfl) (fun y h1 h2 h3 => by simp only [if_neg h1, if_neg h2, if_neg h3])), by assumption, ?_, ?_, ?_, ?_, rfl, ?_, ?_⟩
      all_goals dsimp only
      · omega
      · omega
      · omega
      · omega
      · exact j5
      · exact fun k hk => Int.le_trans (Int.not_lt.mp (by assumption)) (pd k hk)
  · skip
    have e1 : lo = hi' := by omega
    subst e1
    refine hret _ _ _ _ (by assumption) (by assumption) ⟨lo.toNat, tlo, by rw [Int.toNat_of_nonneg j1], rfl, by omega, j5, j6⟩
theorem bisect_left4 (news : List (Addr × Obj)) (row lam : Addr) (vs : List Value) (e : Nat) (ns : List Int) (f : Int → Int) (x : Int) (tx t0 : Tok) (oc : Value) (od : Option Addr) (fd : FuncData) (sl : Array (Option Value))
    (hrow : (row, W.listOf vs.toArray e) ∈ news) (hi : IntsAre vs ns) (hlen : ns.length ≤ 1000) (hkm : (lam, (⟨oc, od, .func fd, sl⟩ : Obj)) ∈ news)
    (hkey : ∀ i ∈ ns, ∀ t, Ct w loose mean mg mb lam 20 300 news [.int i t] (fun v n' => ∃ t', v = .int (f i) t' ∧ n' = news)) (hs : (ns.map f).Pairwise (· ≤ ·)) :
    Ctk w loose mean mg mb 92 30 400 news [.ref row, .int x tx, .int 0 t0, .none] [(Str.ofString "key", .ref lam)]
      (fun v n' => ∃ (p : Nat) (t : Tok), v = .int p t ∧ n' = news ∧ p ≤ ns.length ∧ (∀ k ∈ (ns.map f).take p, k < x) ∧ (∀ k ∈ (ns.map f).drop p, x ≤ k)) := by
  unfold Ctk
  k_fill
  unfold CtrK
  intro dp un gd cn cs₀ a' ccd cl outer A₀ base h₀ L m s Q E B F X N T hk hG hd hu hret
  refine wpAny_call ?_
  k_dflt (refine' code_def ?k1 ?k2 ?k3 ?k4 ?k5 ?kA ?kF ?kK ?k6 ?k7 ?k8 ?k9 ?kB ?_ ?c2 ?c3 ?c4 ?c5; (case kA => exact rfl); (case kF => exact rfl); (case kK => assumption); (case k1 => k_asm); (case k2 => k_asm); (case k3 => k_asm); (case k4 => k_asm); (case k5 => k_asm); (case k6 => k_is); (case k7 => k_is); (case k8 => ktr_room); (case k9 => exact binds_K (by k_in) rfl (by k_is) rfl rfl rfl); (case c5 => decide); (case kB => exact locs rfl); (case c2 => exact rfl); (case c3 => exact rfl); (case c4 => exact rfl); k_whole; intro g' L' h' FG' F' N' B' X' T'; (try dsimp only); (try k_lift B'); (try (with_reducible show wpAny _ _ _ _ _ _)); (try k_fold))
  k_steps
  unfold Stop; rename Fr _ _ _ _ => FL; rename News _ _ _ _ => NL
  have hvl : vs.length = ns.length := hi.length
  have hml : (ns.map f).length = ns.length := List.length_map ..
  refine while_stR (σ := LH) (c₀ := ⟨_, _, _, _, _⟩) FL NL (fun m c y => if y = Str.ofString "lo" then some (.int c.lo c.tlo) else if y = Str.ofString "hi" then some (.int c.hi c.thi) else if y = Str.ofString "mid" then c.mid else m y) (fun news _ => news)
    (fun k c => 0 ≤ c.lo ∧ c.lo ≤ c.hi ∧ c.hi ≤ ns.length ∧ k = (c.hi - c.lo).toNat ∧ (∀ k ∈ (ns.map f).take c.lo.toNat, k < x) ∧ (∀ k ∈ (ns.map f).drop c.hi.toNat, x ≤ k)) (by passes_own) (canon3 (by exact rfl) (by exact rfl) (by exact rfl) (fun _ _ _ _ => rfl)) rfl ⟨Int.le_refl 0, by dsimp only; simp, by dsimp only; simp [hvl], rfl, by simp, by simp [hvl, List.drop_eq_nil_of_le]⟩ ?_
  clear FL NL
  rintro k ⟨lo, hi', tlo, thi, mid⟩ h tk R ⟨j1, j2, j3, j4, j5, j6⟩ F1 N1 hRn hRc hRb hRr
  dsimp only at j1 j2 j3 j4 j5 j6 F1 N1
  (try (with_reducible show wpAny _ _ _ _ _ _)); (try k_fold)
  k_steps
  · decide
  · have hm1 : ((lo + hi') / 2).toNat < ns.length := by omega
    have hm2 : ns.getD ((lo + hi') / 2).toNat 0 ∈ ns := by
      rw [List.getD_eq_getElem?_getD, List.getElem?_eq_getElem hm1]
      exact List.getElem_mem hm1
    have pt := pw_take hs (m := ((lo + hi') / 2).toNat) (by rw [hml]; exact hm1)
    have pd := pw_drop hs (m := ((lo + hi') / 2).toNat) (by rw [hml]; exact hm1)
    rw [map_getD f hm1] at pt pd
    k_dflt (refine' callWith_F ?k1 ?_; (case k1 => exact FnAt.of (by assumption) (by assumption)); k_whole)
    k_steps
    unfold Stop
    k_dflt (refine' ctr_use ?k1 ?k2 ?k3 ?k4 ?k5 ?kK ?kG (hkey _ hm2 _) ?kd ?ku ?_; (case k1 => k_asm); (case k2 => k_asm); (case k3 => k_asm); (case k4 => k_asm); (case k5 => k_asm); (case kK => first | exact rfl | assumption); (case kG => assumption); (case kd => ktr_room); (case ku => ktr_units))
    rintro v n3 h3 tk3 F5 N5 ⟨t', rfl, rfl⟩
    k_sweep
    k_steps
    · skip
      refine hRn _ ⟨_, ⟨_, _, _, _, _⟩, _, _, rfl, fr_congr (by assumption) (canon3 (by exact rfl) (by exact rfl) (by exact rfl) (fun y h1 h2 h3 => by simp only [if_neg h1, if_neg h2, if_neg h3])), by assumption, ?_, ?_, ?_, ?_, rfl, ?_, ?_⟩
      all_goals dsimp only
      · omega
      · omega
      · omega
      · omega
      · (rw [show ((lo + hi') / 2 + 1).toNat = ((lo + hi') / 2).toNat + 1 by omega]; exact fun k hk => Int.lt_of_le_of_lt (pt k hk) (by assumption))
      · exact j6
    · skip
      refine hRn _ ⟨_, ⟨_, _, _, _, _⟩, _, _, rfl, fr_congr (by assumption) (canon3 (by exact rfl) (by exact rfl) (by exact rfl) (fun y h1 h2 h3 => by simp only [if_neg h1, if_neg h2, if_neg h3])), by assumption, ?_, ?_, ?_, ?_, rfl, ?_, ?_⟩
      all_goals dsimp only
      · omega
      · omega
      · omega
      · omega
      · exact j5
      · exact fun k hk => Int.le_trans (Int.not_lt.mp (by assumption)) (pd k hk)
  · skip
    have e1 : lo = hi' := by omega
    subst e1
    refine hret _ _ _ _ (by assumption) (by assumption) ⟨lo.toNat, tlo, by rw [Int.toNat_of_nonneg j1], rfl, by omega, j5, j6⟩
end
section
open PySem PySem.W PySem.Spec PySem.Calls PyProof.Rows
set_option maxRecDepth 100000
set_option maxHeartbeats 4000000
/-- the walker as it is ahead of a head -/
theorem walker_anew_P8 : True := by
  w_top off
  exact True.intro
variable (w : World) {loose : List Str} {mean : ExcName → Option Value} {mg mb : Str → Option Value}
local macro_rules | `(tactic| walk_at "call ref") => `(tactic| (k_here; refine stop ?_))
theorem fits_small {p : Nat} (h : p ≤ 1000) : Builtin.List.listFitsIndex (p : Int) = true := by
  unfold Builtin.List.listFitsIndex
  simp
  omega
theorem kl_ins_at {l : List Value} {p : Nat} {y : Value} (h : p ≤ l.length) : kl_ins l (p : Int) y = l.take p ++ y :: l.drop p := by
  unfold kl_ins
  have h1 : ¬ ((p : Int) < 0) := by omega
  simp only [if_neg h1, Int.toNat_natCast, Nat.min_eq_left h]
theorem insort_right (R : List (Addr × Obj)) (row lam : Addr) (vs : List Value) (e : Nat) (ns : List Int) (f : Int → Int) (x : Int) (tx : Tok) (oc : Value) (od : Option Addr) (fd : FuncData) (sl : Array (Option Value))
    (hR : OffL row R) (hi : IntsAre vs ns) (hlen : ns.length ≤ 1000) (hkm : (lam, (⟨oc, od, .func fd, sl⟩ : Obj)) ∈ R)
    (hkey : ∀ i, i ∈ ns ∨ i = x → ∀ t, Ct w loose mean mg mb lam 20 300 ((row, W.listOf vs.toArray e) :: R) [.int i t] (fun v n' => ∃ t', v = .int (f i) t' ∧ n' = (row, W.listOf vs.toArray e) :: R)) (hs : (ns.map f).Pairwise (· ≤ ·)) :
    Ctk w loose mean mg mb 65 40 600 ((row, W.listOf vs.toArray e) :: R) [.ref row, .int x tx] [(Str.ofString "key", .ref lam)]
      (fun v n' => ∃ p : Nat, v = .none ∧ n' = (row, W.listOf (vs.take p ++ .int x tx :: vs.drop p).toArray (e + 1)) :: R ∧ p ≤ ns.length ∧ (∀ k ∈ (ns.map f).take p, k ≤ f x) ∧ (∀ k ∈ (ns.map f).drop p, f x < k)) := by
  have hvl : vs.length = ns.length := hi.length
  unfold Ctk
  k_fill
  unfold CtrK
  intro dp un gd cn cs₀ a' ccd cl outer A₀ base h₀ L m s Q E B F X N T hk hG hd hu hret
  refine wpAny_call ?_
  k_dflt (refine' code_def ?k1 ?k2 ?k3 ?k4 ?k5 ?kA ?kF ?kK ?k6 ?k7 ?k8 ?k9 ?kB ?_ ?c2 ?c3 ?c4 ?c5; (case kA => exact rfl); (case kF => exact rfl); (case kK => assumption); (case k1 => k_asm); (case k2 => k_asm); (case k3 => k_asm); (case k4 => k_asm); (case k5 => k_asm); (case k6 => k_is); (case k7 => k_is); (case k8 => ktr_room); (case k9 => exact binds_K (by k_in) rfl (by k_is) rfl rfl rfl); (case c5 => decide); (case kB => exact locs rfl); (case c2 => exact rfl); (case c3 => exact rfl); (case c4 => exact rfl); k_whole; intro g' L' h' FG' F' N' B' X' T'; (try dsimp only); (try k_lift B'); (try (with_reducible show wpAny _ _ _ _ _ _)); (try k_fold))
  k_steps
  k_dflt (refine' callWith_F ?k1 ?_; (case k1 => exact FnAt.of (by assumption) (.tail _ (by assumption))); k_whole)
  k_steps
  unfold Stop
  k_dflt (refine' ctr_use ?k1 ?k2 ?k3 ?k4 ?k5 ?kK ?kG (hkey _ (.inr rfl) _) ?kd ?ku ?_; (case k1 => k_asm); (case k2 => k_asm); (case k3 => k_asm); (case k4 => k_asm); (case k5 => k_asm); (case kK => first | exact rfl | assumption); (case kG => assumption); (case kd => ktr_room); (case ku => ktr_units))
  rintro v n3 h3 tk3 F5 N5 ⟨t', rfl, rfl⟩
  k_sweep
  k_steps
  unfold Stop
  k_dflt (refine' ctrk_use ?k1 ?k2 ?k3 ?k4 ?k5 ?kK ?kG (bisect_right4 w _ row lam vs e ns f _ _ _ oc od fd sl (.head _) hi hlen (.tail _ hkm) (fun i hi t => hkey i (.inl hi) t) hs) ?kd ?ku ?_; (case k1 => k_asm); (case k2 => k_asm); (case k3 => k_asm); (case k4 => k_asm); (case k5 => k_asm); (case kK => first | exact rfl | assumption); (case kG => assumption); (case kd => ktr_room); (case ku => ktr_units))
  rintro v n3 h3 tk3 F5 N5 ⟨p, t2, rfl, rfl, hp, hp1, hp2⟩
  k_sweep
  k_steps
  (with_reducible show wpAny _ _ (call (Value.builtin _) [Value.ref _, Value.int _ _, _]) _ _ _)
  k_dflt (refine' kl_insert (its := vs.toArray) (n := e) (l := vs.take p ++ .int x tx :: vs.drop p) ?F ?N ?f ?e ?U ?z ?_; (case F => k_asm); (case N => k_asm); (case f => exact fits_small (by omega)); (case e => exact kl_ins_at (by show p ≤ vs.length; omega)); (case U => exact Upd.head hR); (case z => show vs.length ≤ sizeLine; simp only [sizeLine_eq]; omega))
  intro h5 F6 N6
  k_sweep
  k_steps
  exact hret _ _ _ _ (by assumption) (by assumption) ⟨p, rfl, rfl, hp, hp1, hp2⟩
theorem insort_left (R : List (Addr × Obj)) (row lam : Addr) (vs : List Value) (e : Nat) (ns : List Int) (f : Int → Int) (x : Int) (tx : Tok) (oc : Value) (od : Option Addr) (fd : FuncData) (sl : Array (Option Value))
    (hR : OffL row R) (hi : IntsAre vs ns) (hlen : ns.length ≤ 1000) (hkm : (lam, (⟨oc, od, .func fd, sl⟩ : Obj)) ∈ R)
    (hkey : ∀ i, i ∈ ns ∨ i = x → ∀ t, Ct w loose mean mg mb lam 20 300 ((row, W.listOf vs.toArray e) :: R) [.int i t] (fun v n' => ∃ t', v = .int (f i) t' ∧ n' = (row, W.listOf vs.toArray e) :: R)) (hs : (ns.map f).Pairwise (· ≤ ·)) :
    Ctk w loose mean mg mb 83 40 600 ((row, W.listOf vs.toArray e) :: R) [.ref row, .int x tx] [(Str.ofString "key", .ref lam)]
      (fun v n' => ∃ p : Nat, v = .none ∧ n' = (row, W.listOf (vs.take p ++ .int x tx :: vs.drop p).toArray (e + 1)) :: R ∧ p ≤ ns.length ∧ (∀ k ∈ (ns.map f).take p, k < f x) ∧ (∀ k ∈ (ns.map f).drop p, f x ≤ k)) := by
  have hvl : vs.length = ns.length := hi.length
  unfold Ctk
  k_fill
  unfold CtrK
  intro dp un gd cn cs₀ a' ccd cl outer A₀ base h₀ L m s Q E B F X N T hk hG hd hu hret
  refine wpAny_call ?_
  k_dflt (refine' code_def ?k1 ?k2 ?k3 ?k4 ?k5 ?kA ?kF ?kK ?k6 ?k7 ?k8 ?k9 ?kB ?_ ?c2 ?c3 ?c4 ?c5; (case kA => exact rfl); (case kF => exact rfl); (case kK => assumption); (case k1 => k_asm); (case k2 => k_asm); (case k3 => k_asm); (case k4 => k_asm); (case k5 => k_asm); (case k6 => k_is); (case k7 => k_is); (case k8 => ktr_room); (case k9 => exact binds_K (by k_in) rfl (by k_is) rfl rfl rfl); (case c5 => decide); (case kB => exact locs rfl); (case c2 => exact rfl); (case c3 => exact rfl); (case c4 => exact rfl); k_whole; intro g' L' h' FG' F' N' B' X' T'; (try dsimp only); (try k_lift B'); (try (with_reducible show wpAny _ _ _ _ _ _)); (try k_fold))
  k_steps
  k_dflt (refine' callWith_F ?k1 ?_; (case k1 => exact FnAt.of (by assumption) (.tail _ (by assumption))); k_whole)
  k_steps
  unfold Stop
  k_dflt (refine' ctr_use ?k1 ?k2 ?k3 ?k4 ?k5 ?kK ?kG (hkey _ (.inr rfl) _) ?kd ?ku ?_; (case k1 => k_asm); (case k2 => k_asm); (case k3 => k_asm); (case k4 => k_asm); (case k5 => k_asm); (case kK => first | exact rfl | assumption); (case kG => assumption); (case kd => ktr_room); (case ku => ktr_units))
  rintro v n3 h3 tk3 F5 N5 ⟨t', rfl, rfl⟩
  k_sweep
  k_steps
  unfold Stop
  k_dflt (refine' ctrk_use ?k1 ?k2 ?k3 ?k4 ?k5 ?kK ?kG (bisect_left4 w _ row lam vs e ns f _ _ _ oc od fd sl (.head _) hi hlen (.tail _ hkm) (fun i hi t => hkey i (.inl hi) t) hs) ?kd ?ku ?_; (case k1 => k_asm); (case k2 => k_asm); (case k3 => k_asm); (case k4 => k_asm); (case k5 => k_asm); (case kK => first | exact rfl | assumption); (case kG => assumption); (case kd => ktr_room); (case ku => ktr_units))
  rintro v n3 h3 tk3 F5 N5 ⟨p, t2, rfl, rfl, hp, hp1, hp2⟩
  k_sweep
  k_steps
  (with_reducible show wpAny _ _ (call (Value.builtin _) [Value.ref _, Value.int _ _, _]) _ _ _)
  k_dflt (refine' kl_insert (its := vs.toArray) (n := e) (l := vs.take p ++ .int x tx :: vs.drop p) ?F ?N ?f ?e ?U ?z ?_; (case F => k_asm); (case N => k_asm); (case f => exact fits_small (by omega)); (case e => exact kl_ins_at (by show p ≤ vs.length; omega)); (case U => exact Upd.head hR); (case z => show vs.length ≤ sizeLine; simp only [sizeLine_eq]; omega))
  intro h5 F6 N6
  k_sweep
  k_steps
  exact hret _ _ _ _ (by assumption) (by assumption) ⟨p, rfl, rfl, hp, hp1, hp2⟩
end
section
open PySem PySem.W PySem.Spec PySem.Calls PyProof.Rows
set_option maxRecDepth 100000
set_option maxHeartbeats 4000000
/-- the walker as it is ahead of a head -/
theorem walker_anew_P9 : True := by
  w_top off
  exact True.intro
variable (w : World) {loose : List Str} {mean : ExcName → Option Value} {mg mb : Str → Option Value}
/-- the key: lambda one: rests[one] -/
def keyObj (name : Str) (p0 p1 p2 p3 : Pos) (cel c' : Addr) (pm ctv : Value) : Obj :=
  kla_obj name tq3 { posonlyargs := [], args := [{ arg := Str.ofString "one", annotation := none, pos := p0 : Arg }], vararg := none, kwonlyargs := [], kw_defaults := [], kwarg := none, defaults := [] } (.Subscript (.Name (Str.ofString "rests") p1) (.Name (Str.ofString "one") p2) p3)
    { kind := .function, names := [(Str.ofString "one", .local), (Str.ofString "rests", .free)], isGenerator := false, isCoroutine := false, more := [] } [(Str.ofString "rests", cel)] pm c' ctv
theorem key_lam (news : List (Addr × Obj)) (lam cel c' RR : Addr) (name : Str) (p0 p1 p2 p3 : Pos) (pm ctv : Value) (oc ocel : Obj) (fs : Array Value) (tc : Tok) (vs : List Value) (e : Nat) (rs : List Int) (i : Int) (ti : Tok)
    (hf : (lam, keyObj name p0 p1 p2 p3 cel c' pm ctv) ∈ news) (hc : (c', oc) ∈ news) (d1 : oc.data = .fields fs) (d2 : fs[1]? = some (.str tq3 tc))
    (hcel : (cel, ocel) ∈ news) (hcd : ocel.data = .cell (some (.ref RR))) (hRR : (RR, W.listOf vs.toArray e) ∈ news) (hi : IntsAre vs rs) (hb : 0 ≤ i) (hb2 : i < rs.length) (hlen : rs.length ≤ 1000) :
    Ct w loose mean mg mb lam 20 300 news [.int i ti] (fun v n' => ∃ t', v = .int (rs.getD i.toNat 0) t' ∧ n' = news) := by
  unfold keyObj at hf
  unfold Ct
  k_fill
  unfold Ctr
  intro dp un gd cn cs₀ a' ccd cl outer A₀ base h₀ L m s Q E B F X N T hk hG hd hu hret
  have hvl : vs.length = rs.length := hi.length
  refine wpAny_call ?_
  k_dflt (refine' kla_code ?k1 ?k2 ?k3 ?k4 ?k5 ?kA ?kF ?kK ?k6 ?k7 ?k8 ?k9 ?kB ?_ ?c2 ?c3 ?c4 ?c5; (case kA => exact rfl); (case kF => exact rfl); (case kK => assumption); (case k1 => k_asm); (case k2 => k_asm); (case k3 => k_asm); (case k4 => k_asm); (case k5 => k_asm); (case k6 => exact hf); (case k7 => exact codeRec_news (by assumption) hc d1 d2); (case k8 => ktr_room); (case k9 => exact rfl); (case c5 => decide); (case kB => exact locs rfl); (case c2 => exact rfl); (case c3 => exact rfl); (case c4 => exact rfl); k_whole; intro g' L' h' FG' F' N' B' X' T'; (try dsimp only); (try k_lift B'); (try (with_reducible show wpAny _ _ _ _ _ _)); (try k_fold))
  k_steps
  exact hret _ _ _ _ (by assumption) (by assumption) ⟨_, rfl, rfl⟩
end
section
open PySem PySem.W PySem.Spec PySem.Calls PyProof.Rows
set_option maxRecDepth 100000
set_option maxHeartbeats 4000000
variable (w : World) {loose : List Str} {mean : ExcName → Option Value} {mg mb : Str → Option Value}
section
variable {prog : Program} {A : Around} {E : Value → Shared → Prop} {s : Shared} {h₀ : Heap} {L a : Addr} {m : Str → Option Value} {cn name : Str} {cs₀ scope : Scope} {ccd : Value} {cl clos : List (Str × Addr)} {p : Program} {params : Arguments} {pos : Pos} {firstLine : Nat} {tl rest : List (Addr × Obj)}
/-- a lambda is made: the tables stand, perhaps with one code more -/
theorem lam_tabs {body : Expr} {Q : Value → Shared → Prop} (F : Fr h₀ L s.heap m) (N : News h₀ L s.heap (tl ++ rest)) (T : Top p loose mean mg mb h₀) (C : CodeHd h₀ 110 108) (hcd : ccd = .ref 110) (hT : TabsL tl) (hN : HiL rest)
    (hcl : closureFor scope (envX cn cs₀ L a ccd cl) = pure clos)
    (h : ∀ f c' oc vs t ctv h' tk tl', Fr h₀ L h' m → News h₀ L h' ((f, kla_obj name tq3 params body scope clos ((mg "__name__").getD .none) c' ctv) :: (tl' ++ rest)) →
      (c', oc) ∈ tl' → oc.data = .fields vs → vs[1]? = some (.str tq3 t) → TabsL tl' → AddrG (tl ++ rest) tl tl' → LowAll f (tl ++ rest) → LowAll f tl' → Q (.ref f) { s with heap := h', toks := tk }) :
    wpAny (model prog w) A (makeFunction name tq3 params (.expr body) scope (envX cn cs₀ L a ccd cl) [] [] [] pos firstLine) Q E s := by
  obtain ⟨ps1, ps2, ps3, cs, rfl, T1, T2, T3, hcs⟩ := hT
  have hcsH : HiL (cs ++ rest) := hcs.app hN
  refine lam_any (pre := [(108, tabObj ps3)]) (R := (30, tabObj ps1) :: (37, tabObj ps2) :: (cs ++ rest)) (cs := cs) (g := fun o => [(108, o)]) F (news_sub N (fun q hq => ?_)) T C hcd (.head fun q hq => nomatch hq) (fun q hq => ?_) T3 (fun q hq => by simp [hq]) hcl ?_
  · simp only [List.cons_append, List.nil_append, List.mem_cons, List.mem_append] at hq ⊢
    rcases hq with h1 | h1 | h1 | h1 | h1 <;> simp [h1]
  · rcases List.mem_cons.mp hq with rfl | hq
    · exact (by decide : (30 : Nat) ≠ 108)
    rcases List.mem_cons.mp hq with rfl | hq
    · exact (by decide : (37 : Nat) ≠ 108)
    · exact hcsH.off (by decide) q hq
  intro f c' oc vs t ctv h' tk ps' cs' R' F' N' hc d1 d2 T' hcs1 hcs2 hgr hcs3 hlo hloR
  have hiA : ∀ q, (∀ x ∈ ([(108, tabObj ps3)] : List (Addr × Obj)) ++ (30, tabObj ps1) :: (37, tabObj ps2) :: (cs ++ rest), @LT.lt Nat _ x.1 q) → ∀ x ∈ ((30, tabObj ps1) :: (37, tabObj ps2) :: (108, tabObj ps3) :: cs) ++ rest, @LT.lt Nat _ x.1 q := fun q hq x hx => hq x (by
    simp only [List.cons_append, List.nil_append, List.mem_cons, List.mem_append] at hx ⊢
    rcases hx with h1 | h1 | h1 | h1 | h1 <;> simp [h1])
  have hR' : ∀ q ∈ cs' ++ rest, q ∈ R' := fun q hq => (List.mem_append.mp hq).elim (hcs1 q) fun h1 => hgr.1 q (by simp [h1])
  refine h f c' oc vs t ctv h' tk ((30, tabObj ps1) :: (37, tabObj ps2) :: (108, tabObj ps') :: cs') F' (news_sub N' (fun q hq => ?_)) (by simp [hc]) d1 d2 ⟨ps1, ps2, ps', cs', rfl, T1.mono hcs2, T2.mono hcs2, T', fun q hq => ?_⟩ (fun q hq => ?_) (fun q hq => ?_) (fun q hq => ?_)
  · simp only [List.cons_append, List.mem_cons, List.mem_append] at hq
    rcases hq with h1 | h1 | h1 | h1 | h1 | h1
    · simp [h1]
    · exact .tail _ (List.mem_append_right _ (hgr.1 q (by simp [h1])))
    · exact .tail _ (List.mem_append_right _ (hgr.1 q (by simp [h1])))
    · simp [h1]
    · exact .tail _ (List.mem_append_right _ (hR' q (by simp [h1])))
    · exact .tail _ (List.mem_append_right _ (hR' q (by simp [h1])))
  · rcases hcs3 q hq with h1 | h1
    · exact hcs q h1
    · exact HiL.gt (h1 (108, tabObj ps3) (.head _))
  · simp only [List.mem_cons] at hq
    rcases hq with h1 | h1 | h1 | h1
    · exact .inl (by simp [h1])
    · exact .inl (by simp [h1])
    · exact .inl (by simp [h1])
    · rcases hcs3 q h1 with h2 | h2
      · exact .inl (List.mem_map_of_mem (by simp [h2]))
      · exact .inr (hiA q.1 h2)
  · simp only [List.cons_append, List.mem_cons, List.mem_append] at hq
    have h108 : @LT.lt Nat _ 108 f := hlo (108, tabObj ps3) (.head _)
    rcases hq with h1 | h1 | h1 | h1 | h1
    · exact hloR q (hgr.1 q (by simp [h1]))
    · exact hloR q (hgr.1 q (by simp [h1]))
    · rw [h1]; exact h108
    · exact hloR q (hgr.1 q (by simp [h1]))
    · exact hloR q (hgr.1 q (by simp [h1]))
  · simp only [List.mem_cons] at hq
    have h108 : @LT.lt Nat _ 108 f := hlo (108, tabObj ps3) (.head _)
    rcases hq with h1 | h1 | h1 | h1
    · exact hloR q (hgr.1 q (by simp [h1]))
    · exact hloR q (hgr.1 q (by simp [h1]))
    · rw [h1]; exact h108
    · exact hloR q (hcs1 q h1)
end
end
section
open PySem PySem.W PySem.Spec PySem.Calls PyProof.Rows
set_option maxRecDepth 100000
set_option maxHeartbeats 4000000
/-- the walker as it is ahead of a head -/
theorem walker_anew_P10 : True := by
  w_top off
  exact True.intro
local macro_rules | `(tactic| walk_at "pad 0") => `(tactic| fail "pad")
variable (w : World) {loose : List Str} {mean : ExcName → Option Value} {mg mb : Str → Option Value}
structure TT where
  c : TS
  t1 : Tok
  t2 : Tok
  t3 : Tok
  t4 : Tok
  t5 : Tok
  t6 : Tok
def TsOk (i : Nat) (c : TS) : Prop := c.ab.natAbs ≤ 20 ^ i ∧ c.al.natAbs ≤ 20 ^ i ∧ c.be.natAbs ≤ 20 ^ i ∧ c.bl.natAbs ≤ 20 ^ i ∧ c.bt.natAbs ≤ 16 * i ∧ (c.sg = 1 ∨ c.sg = -1)
theorem natAbs_ma {q a b : Int} {M : Nat} (hq : q.natAbs ≤ 16) (ha : a.natAbs ≤ M) (hb : b.natAbs ≤ M) : (q * a + b).natAbs ≤ 20 * M := by
  have h1 := Int.natAbs_add_le (q * a) b
  have h2 : (q * a).natAbs ≤ 16 * M := by rw [Int.natAbs_mul]; exact Nat.mul_le_mul hq ha
  omega
theorem TsOk.step {i : Nat} {c : TS} {q : Int} (h : TsOk i c) (hq : q.natAbs ≤ 16) : TsOk (i + 1) (tsStep c q) := by
  obtain ⟨h1, h2, h3, h4, h5, h6⟩ := h
  have e : 20 ^ (i + 1) = 20 * 20 ^ i := Nat.pow_succ'
  refine ⟨?_, ?_, ?_, ?_, ?_, ?_⟩
  · rw [e]; exact natAbs_ma hq h1 h2
  · rw [e]; show c.ab.natAbs ≤ _; omega
  · rw [e]; exact natAbs_ma hq h3 h4
  · rw [e]; show c.be.natAbs ≤ _; omega
  · show (c.bt + c.sg * q).natAbs ≤ _
    rcases h6 with h6 | h6 <;> rw [h6] <;> omega
  · show -c.sg = 1 ∨ -c.sg = -1
    omega
theorem TsOk.init : TsOk 0 tsInit := by unfold TsOk tsInit; decide

theorem mulok {a b : Int} (ha : a.natAbs < 2 ^ 60) (hb : b.natAbs < 2 ^ 60) : IntMulOk a b := IntMulOk.of_le (m := 64) (n := 64) (intBits_le_64 (by omega) (by omega)) (intBits_le_64 (by omega) (by omega)) (by omega)
theorem law_turned (news : List (Addr × Obj)) (l : Addr) (vs : List Value) (e : Nat) (qs : List Int) (hm : (l, W.listOf vs.toArray e) ∈ news) (hi : IntsAre vs qs) (hlen : qs.length ≤ 9) (hq : ∀ q ∈ qs, q.natAbs ≤ 16) :
    Ct w loose mean mg mb 106 20 300 news [.ref l] (fun v n' => ∃ D t1 t2, v = .ref D ∧ n' = (D, tup2 (tsOf qs).be (tsFour (tsOf qs)) t1 t2) :: news) := by
  have hvl : vs.length = qs.length := hi.length
  unfold Ct
  k_fill
  unfold Ctr
  intro dp un gd cn cs₀ a' ccd cl outer A₀ base h₀ L m s Q E B F X N T hk hG hd hu hret
  refine wpAny_call ?_
  k_dflt cell_enter
  (try (with_reducible show wpAny _ _ _ _ _ _)); (try k_fold)
  k_steps
  unfold Stop
  rename Fr _ _ _ _ => F3
  rename News _ _ _ _ => N3
  refine' iter_list_st (σ := TT) (l := l) (vs := vs) (e := e) (c₀ := ⟨tsInit, _, _, _, _, _, _⟩) F3 (news_sub (news' := news) N3 (fun p hp => by simp [hp])) rfl
    (fun m c y => if y = Str.ofString "above" then some (.int c.c.ab c.t1) else if y = Str.ofString "above_last" then some (.int c.c.al c.t2) else if y = Str.ofString "below" then some (.int c.c.be c.t3) else if y = Str.ofString "below_last" then some (.int c.c.bl c.t4) else if y = Str.ofString "by_turns" then some (.int c.c.bt c.t5) else if y = Str.ofString "sign" then some (.int c.c.sg c.t6) else m y)
    (fun news _ => news) (fun i c => TsOk i c.c ∧ c.c = (qs.take i).foldl tsStep tsInit) (fun c => hm) rfl ?hm ⟨TsOk.init, rfl⟩ ?turn ?done
  case hm =>
    intro y hy
    dsimp only
    by_cases e1 : y = Str.ofString "above"
    · rw [e1]; exact rfl
    · by_cases e2 : y = Str.ofString "above_last"
      · rw [e2]; exact rfl
      · by_cases e3 : y = Str.ofString "below"
        · rw [e3]; exact rfl
        · by_cases e4 : y = Str.ofString "below_last"
          · rw [e4]; exact rfl
          · by_cases e5 : y = Str.ofString "by_turns"
            · rw [e5]; exact rfl
            · by_cases e6 : y = Str.ofString "sign"
              · rw [e6]; exact rfl
              · simp only [if_neg e1, if_neg e2, if_neg e3, if_neg e4, if_neg e5, if_neg e6]
  case turn =>
    rintro i v ⟨⟨ab, al, be, bl, bt, sg⟩, t1, t2, t3, t4, t5, t6⟩ I it h tk hi' hv ⟨j1, j2⟩ F4 N4 ho hlt
    dsimp only at F4 N4 ho j1
    obtain ⟨q, tq, rfl, hq2⟩ := IntsAre.at hi _ v hv
    have hq3 := hq q (List.mem_of_getElem? hq2)
    have jb := j1
    obtain ⟨b1, b2, b3, b4, b5, b6⟩ := jb
    have b7 : 20 ^ i ≤ 20 ^ 9 := Nat.pow_le_pow_right (by omega) (by omega)
    dsimp only at b1 b2 b3 b4 b5 b6
    (try (with_reducible show wpAny _ _ _ _ _ _)); (try k_fold)
    k_steps
    all_goals (try (exact mulok (by omega) (by omega)))
    show FEnd _ _ _ _ _ _ _ _ _ _
    rename Fr _ _ _ _ => F6
    rename News _ _ _ _ => N6
    refine' ⟨⟨tsStep ⟨ab, al, be, bl, bt, sg⟩ q, _, _, _, _, _, _⟩, _, _, _, rfl, F6, ?hm2, news_sub (news' := (I, it) :: news) N6 ?sub, ho, TsOk.step j1 hq3, ?fold⟩
    case sub =>
      intro p hp
      simp only [List.mem_cons] at hp ⊢
      rcases hp with h1 | h1 <;> simp [h1]
    case hm2 =>
      intro y hy
      dsimp only
      by_cases e1 : y = Str.ofString "above"
      · rw [e1]; exact rfl
      · by_cases e2 : y = Str.ofString "above_last"
        · rw [e2]; exact rfl
        · by_cases e3 : y = Str.ofString "below"
          · rw [e3]; exact rfl
          · by_cases e4 : y = Str.ofString "below_last"
            · rw [e4]; exact rfl
            · by_cases e5 : y = Str.ofString "by_turns"
              · rw [e5]; exact rfl
              · by_cases e6 : y = Str.ofString "sign"
                · rw [e6]; exact rfl
                · simp only [if_neg e1, if_neg e2, if_neg e3, if_neg e4, if_neg e5, if_neg e6, if_neg hy]
    case fold =>
      dsimp only at j2 ⊢
      rw [List.take_add_one, hq2, List.foldl_append, ← j2]
      rfl
  case done =>
    rintro ⟨⟨ab, al, be, bl, bt, sg⟩, t1, t2, t3, t4, t5, t6⟩ u h tk ⟨j1, j2⟩ F4 N4
    dsimp only at F4 N4 j1
    have jb := j1
    obtain ⟨b1, b2, b3, b4, b5, b6⟩ := jb
    have b7 : 20 ^ vs.length ≤ 20 ^ 9 := Nat.pow_le_pow_right (by omega) (by omega)
    dsimp only at b1 b2 b3 b4 b5 b6
    have ets : tsOf qs = ⟨ab, al, be, bl, bt, sg⟩ := by
      dsimp only at j2
      rw [j2, tsOf, hvl, List.take_length]
    rw [ets] at hret
    unfold tsFour at hret
    dsimp only at hret
    (try (with_reducible show wpAny _ _ _ _ _ _)); (try k_fold)
    k_steps
    all_goals (try (exact mulok (by omega) (by omega)))
    · rw [if_pos (by assumption)] at hret
      rename News _ _ _ _ => N6
      exact hret _ _ _ _ (by assumption) N6 ⟨_, _, _, rfl, rfl⟩
    · rw [if_neg (by assumption)] at hret
      rename News _ _ _ _ => N6
      exact hret _ _ _ _ (by assumption) N6 ⟨_, _, _, rfl, rfl⟩
end
section
open PySem PySem.W PySem.Spec PySem.Calls PyProof.Rows
set_option maxRecDepth 100000
set_option maxHeartbeats 4000000
/-- the walker as it is ahead of a head -/
theorem walker_anew_P11 : True := by
  w_top off
  exact True.intro
variable (w : World) {loose : List Str} {mean : ExcName → Option Value} {mg mb : Str → Option Value}
local macro_rules | `(tactic| walk_at "call ref") => `(tactic| (k_here; refine stop ?_))
local macro_rules | `(tactic| walk_at "newList") => `(tactic| (k_here; refine stop ?_))
local macro_rules | `(tactic| walk_at "exec Raise some none") => `(tactic| (k_here; (with_reducible show wpAny _ _ (exec (Stmt.Raise (some (Expr.Name _ _)) none _) _) _ _ _); (with_reducible rename Fr _ _ _ _ => kF); k_dflt (refine' raise_zero ?hh ?hx ?_; (case hh => rfl); (case hx => (refine' name_B kF ?k1 ?k2 ?k3 ?k4 ?k5 ?_; (case k1 => k_asm); (case k2 => k_asm); (case k3 => k_is); (case k4 => boot_by_name); (case k5 => decide); exact ⟨rfl, rfl⟩))); intro h' e' x'))
local macro_rules | `(tactic| walk_at "call type:str") => `(tactic| (k_here; refine stop ?_))
theorem AddrG.next {tl news tb tb' : List (Addr × Obj)} {l0 : Addr} {o it : Obj} {I : Addr} (g : AddrG (tl ++ news) tl tb) (hl : ∀ q ∈ tl ++ news, @LT.lt Nat _ q.1 l0) (g2 : AddrG (tb ++ ((I, it) :: (l0, o) :: news)) tb tb') : AddrG (tl ++ news) tl tb' := fun p hp => by
  rcases g2 p hp with h1 | h1
  · obtain ⟨q, hq, e1⟩ := List.mem_map.mp h1
    rw [← e1]
    exact g q hq
  · exact .inr fun q hq => Nat.lt_trans (hl q hq) (h1 (l0, o) (List.mem_append_right _ (.tail _ (.head _))))
local macro_rules | `(tactic| walk_at "leaving ref") => `(tactic| (k_here; refine stop ?_))
structure Pack4 (a b c d : Prop) : Prop where
  a : a
  b : b
  c : c
  d : d
structure Pack1 (a : Prop) : Prop where
  a : a
structure ES where
  vs : List Value
  e : Nat
  qs : List Int
  up : Int
  lo : Int
  tu : Tok
  tl : Tok
  tb : List (Addr × Obj)
  v1 : Option Value
  v2 : Option Value

/-- this text's turning contracts -/
def Cts (w : World) (loose : List Str) (mean : ExcName → Option Value) (mg mb : Str → Option Value) (f : Addr) (d u : Nat) (news : List (Addr × Obj)) (vs : List Value) (post : Value → List (Addr × Obj) → Prop) : Prop :=
  CtrS Challenge.rw_ph0156_02.row.prog w (hd2.heap_39 w.params) topProg loose mean mg mb Gnd (.ref f) d u news vs post
theorem law_euclid (tl news : List (Addr × Obj)) (hT : TabsL tl) (hN : HiL news) (a b : Int) (ta tb : Tok) (hok : EuOk 9 a b) :
    Cts w loose mean mg mb 99 240 3600 (tl ++ news) [.int a ta, .int b tb] (fun v n' => ∃ D vs e tl', v = .ref D ∧ n' = (D, W.listOf vs.toArray e) :: (tl' ++ news) ∧ TabsL tl' ∧ AddrG (tl ++ news) tl tl' ∧ IntsAre vs (eu 9 a b)) := by
  unfold Cts
  k_fill
  unfold CtrS
  intro dp un gd cn cs₀ a' ccd cl outer A₀ base h₀ g₀ L m s Q E B F X N T hk hG XB TB D T0 hd hu hret
  refine wpAny_call ?_
  k_dflt (refine' code_defSX ?k1 ?k2 ?k3 ?k4 ?k5 ?XB ?TB ?D ?T0 ?kA ?kF ?kK ?k6 ?k7 ?k8 ?k9 ?kB ?_ ?c2 ?c3 ?c4 ?c5; (case kA => exact rfl); (case kF => exact rfl); (case kK => assumption); (case k1 => k_asm); (case k2 => k_asm); (case k3 => exact X); (case k4 => k_asm); (case k5 => exact T); (case XB => exact XB); (case TB => exact TB); (case D => exact D); (case T0 => exact T0); (case k6 => k_is); (case k7 => k_is); (case k8 => ktr_room); (case k9 => exact BindsTo.of_eq rfl); (case c5 => decide); (case kB => exact locs rfl); (case c2 => exact rfl); (case c3 => exact rfl); (case c4 => exact rfl); k_whole; intro g' L' h' FG' F' N' B' X' T' D'; (try dsimp only); (try k_lift B'); (try (with_reducible show wpAny _ _ _ _ _ _)); (try k_fold))
  k_steps
  unfold Stop
  have PK := Pack4.mk XB TB D T0
  clear XB TB D T0
  rename KtsDicts _ _ => D'
  have PD := Pack1.mk D'
  clear D'
  k_dflt (refine' newList_K ?k1 ?k2 ?_; (case k1 => k_asm); (case k2 => k_asm))
  intro l0 h2 F2 N2 l1
  k_sweep
  (try (with_reducible show wpAny _ _ _ _ _ _)); (try k_fold)
  k_steps
  unfold Stop
  rename IsRange _ _ _ _ _ _ _ _ => IR
  rename Fr _ _ _ _ => F3
  rename News _ _ _ _ => N3
  have m108 : ∃ o, ((108 : Nat), o) ∈ tl := by
    obtain ⟨_, _, _, _, rfl, _⟩ := hT
    exact ⟨_, .tail _ (.tail _ (.head _))⟩
  obtain ⟨o108, m108⟩ := m108
  have l108 := l1 _ (List.mem_append_left _ m108)
  dsimp only at l108
  refine' iter_range_st (σ := ES) (n := 9) (c₀ := ⟨[], 0, [], a, b, ta, tb, tl, none, none⟩) F3 N3 rfl IR rfl rfl (fun m c y => if y = Str.ofString "upper" then some (.int c.up c.tu) else if y = Str.ofString "lower" then some (.int c.lo c.tl) else if y = Str.ofString "quotient" then c.v1 else if y = Str.ofString "rest" then c.v2 else m y)
    (fun _ c => (l0, W.listOf c.vs.toArray c.e) :: (c.tb ++ news))
    (fun i c => EuOk (9 - i) c.up c.lo ∧ c.qs ++ eu (9 - i) c.up c.lo = eu 9 a b ∧ IntsAre c.vs c.qs ∧ c.qs.length = i ∧ TabsL c.tb ∧ AddrG (tl ++ news) tl c.tb ∧ OffL l0 c.tb)
    rfl ?hm ⟨hok, rfl, .nil, rfl, hT, AddrG.refl, fun p hp => Nat.ne_of_lt (l1 p (List.mem_append_left _ hp))⟩ ?turn ?done
  case hm =>
    intro y hy
    dsimp only
    by_cases e1 : y = Str.ofString "upper"
    · rw [e1]; exact rfl
    · by_cases e2 : y = Str.ofString "lower"
      · rw [e2]; exact rfl
      · by_cases e3 : y = Str.ofString "quotient"
        · rw [e3]; exact rfl
        · by_cases e4 : y = Str.ofString "rest"
          · rw [e4]; exact rfl
          · simp only [if_neg e1, if_neg e2, if_neg e3, if_neg e4]
  case turn =>
    rintro i t ⟨vs, e, qs, up, lo, tu, tlo, tb', v1, v2⟩ I it h tk hi ⟨j1, j2, j3, j4, j5, j6, j7⟩ F4 N4 ho hlt
    dsimp only at F4 N4 ho j1 j2 j3 j4 j5 j6 j7
    have e9 : 9 - i = (9 - (i + 1)) + 1 := by omega
    rw [e9] at j1 j2
    simp only [EuOk] at j1
    rw [show eu (9 - (i + 1) + 1) up lo = if lo = 0 then [] else up.fdiv lo :: eu (9 - (i + 1)) lo (up.fmod lo) from rfl] at j2
    (try (with_reducible show wpAny _ _ _ _ _ _)); (try k_fold)
    have hI : @LT.lt Nat _ l0 I := hlt (l0, W.listOf ([] : List Value).toArray 0) (.head _)
    by_cases hz : lo = 0
    · subst hz
      (try (with_reducible show wpAny _ _ _ _ _ _)); (try k_fold)
      k_steps
      unfold Stop
      refine wpAny_call ?_
      k_dflt (refine' code_def ?k1 ?k2 ?k3 ?k4 ?k5 ?kA ?kF ?kK ?k6 ?k7 ?k8 ?k9 ?kB ?_ ?c2 ?c3 ?c4 ?c5; (case kA => exact rfl); (case kF => exact rfl); (case kK => exact rfl); (case k1 => k_asm); (case k2 => k_asm); (case k3 => k_asm); (case k4 => k_asm); (case k5 => k_asm); (case k6 => k_is); (case k7 => k_is); (case k8 => ktr_room); (case k9 => exact BindsTo.of_eq rfl); (case c5 => decide); (case kB => exact locs rfl); (case c2 => exact rfl); (case c3 => exact rfl); (case c4 => exact rfl); k_whole; intro g' L' h' FG' F' N' B' X' T'; (try dsimp only); (try k_lift B'); (try (with_reducible show wpAny _ _ _ _ _ _)); (try k_fold))
      k_steps
      all_goals try (exfalso; omega)
      unfold Stop
      obtain ⟨XB, TB, D, T0⟩ := PK
      obtain ⟨D'⟩ := PD
      k_dflt (refine' leave_raiseS ?k1 (Heap.MadeExc.of (by assumption)) ?k2 ?k3 ?_; (case k2 => assumption); (case k1 => assumption); (case k3 => k_asm); k_whole; intro h' t' S' R' U')
      (try dsimp only at S' R' U' ⊢)
      k_dflt (refine' caught_SB (T' := "ZeroDivisionError") ?R ?F ?K ?U ?XB ?TB ?D ?T0 ?ex PyProof.Rows.Boot.«ZeroDivisionError» ?hn PySem.F.isExc_ZeroDivisionError PySem.F.notTuple_ZeroDivisionError ?hs ?_; (case R => exact S'); (case F => assumption); (case K => assumption); (case U => assumption); (case XB => exact XB); (case TB => exact TB); (case D => exact D'); (case T0 => exact KtsTurn.refl); (case hs => (rw [isSubtype_type]; kernel_rfl)); (case ex => k_is); (case hn => decide); k_whole)
      intro h5 g5 newsE tk5 T5 F5 NE GE N5 K5 X5 P5 D5
      have PK := Pack4.mk XB TB D T0
      have PD := Pack1.mk (And.intro D5 T5)
      obtain ⟨oe, ot, ws, nt, m1, m2, c1, c2, c3, c4, c5⟩ := GE
      have N6 := news_join N5 NE m1 m2
      clear XB TB D T0 D' D5 S' R' NE N5 m1 m2
      (try k_lift K5)
      (try (with_reducible show wpAny _ _ _ _ _ _)); (try k_fold)
      (try k_sweep)
      (try (with_reducible show wpAny _ _ _ _ _ _)); (try k_fold)
      k_steps
      unfold Stop
      refine str_got_none PySem.F.excStr_ZeroDivisionError N6 ⟨oe, ot, ws, nt, .head _, .tail _ (.head _), c1, c2, c3, c4, c5⟩ ?_ ?_
      · ktr_units
      (try (with_reducible show wpAny _ _ _ _ _ _)); (try k_fold)
      k_steps
      rename News _ _ _ _ => kN
      have ej : qs = eu 9 a b := by
        rw [← j2, if_pos rfl, List.append_nil]
      refine hret _ _ _ _ _ (by assumption) (by assumption) (news_sub (news' := (l0, W.listOf vs.toArray e) :: (tb' ++ news)) kN (fun p hp => ?_)) (by assumption) (by assumption) (by assumption) (by assumption) ⟨l0, vs, e, tb', rfl, rfl, j5, j6, ej ▸ j3⟩
      simp only [List.mem_cons] at hp ⊢
      rcases hp with h1 | h1 <;> simp [h1]
    · obtain ⟨j1a, j1b, j1c⟩ := j1.resolve_left hz
      rw [if_neg hz] at j2
      (try (with_reducible show wpAny _ _ _ _ _ _)); (try k_fold)
      k_steps
      unfold Stop
      have hHi : HiL ((I, it) :: (l0, W.listOf vs.toArray e) :: news) := fun p hp => by
        rcases List.mem_cons.mp hp with rfl | hp
        · exact HiL.gt (Nat.lt_trans l108 hI)
        · rcases List.mem_cons.mp hp with rfl | hp
          · exact HiL.gt l108
          · exact hN p hp
      replace N4 := news_sub (news' := tb' ++ ((I, it) :: (l0, W.listOf vs.toArray e) :: news)) N4 (fun p hp => by
        simp only [List.mem_cons, List.mem_append] at hp ⊢
        rcases hp with h1 | h1 | h1 | h1 <;> simp [h1])
      k_dflt (refine' ctr_use ?k1 ?k2 ?k3 ?k4 ?k5 ?kK ?kG (int_divmod w tb' _ j5 hHi up lo _ _ hz j1a j1b) ?kd ?ku ?_; (case k1 => k_asm); (case k2 => k_asm); (case k3 => k_asm); (case k4 => exact N4); (case k5 => k_asm); (case kK => first | exact rfl | assumption); (case kG => assumption); (case kd => ktr_room); (case ku => ktr_units))
      rintro v n3 h3 tk3 F5 N5 ⟨D, tq, tr, tl2, rfl, rfl, hT2, hg2⟩
      clear N4
      replace N5 := news_sub (news' := (D, tup2 (up.fdiv lo) (up.fmod lo) tq tr) :: (l0, W.listOf vs.toArray e) :: (I, it) :: (tl2 ++ news)) N5 (fun p hp => by
        simp only [List.mem_cons, List.mem_append] at hp ⊢
        rcases hp with h1 | h1 | h1 | h1 | h1 <;> simp [h1])
      have o0 : OffL l0 tl2 := AddrG.off hg2 j7 (by simp)
      have oI : OffL I tl2 := AddrG.off hg2 (fun p hp => ho p (.tail _ (List.mem_append_left _ hp))) (by simp)
      have o1 : @Ne Nat D l0 := ne_of_cls N5 (.head _) (.tail _ (.head _)) (by show Value.type "tuple" ≠ Value.type "list"; decide)
      have o2 : @Ne Nat I l0 := Nat.ne_of_gt hI
      have o3 : ∀ p ∈ tl2 ++ news, p.1 ≠ l0 := fun p hp => by
        rcases List.mem_append.mp hp with h1 | h1
        · exact o0 p h1
        · exact Nat.ne_of_lt (l1 p (List.mem_append_right _ h1))
      have hz9 : vs.length ≤ 64 := by rw [j3.length]; omega
      k_sweep
      (try (with_reducible show wpAny _ _ _ _ _ _)); (try k_fold)
      k_steps
      show FEnd _ _ _ _ _ _ _ _ _ _
      rename Fr _ _ _ _ => F6
      rename News _ _ _ _ => N6
      simp only [List.push_toArray] at N6
      refine' ⟨⟨vs ++ [Value.int (up.fdiv lo) tq], e + 1, qs ++ [up.fdiv lo], lo, up.fmod lo, tlo, tr, tl2, some (Value.int (up.fdiv lo) tq), some (Value.int (up.fmod lo) tr)⟩, _, _, _, rfl, F6, ?hm2, news_sub (news' := (I, it) :: (l0, W.listOf (vs ++ [Value.int (up.fdiv lo) tq]).toArray (e + 1)) :: (tl2 ++ news)) N6 ?sub, ?offI, j1c, ?eu2, IntsAre.append j3 (.cons _ _ .nil), ?len2, hT2, AddrG.next j6 l1 hg2, o0⟩
      case sub =>
        intro p hp
        simp only [List.mem_cons] at hp ⊢
        rcases hp with h1 | h1 | h1 <;> simp [h1]
      case hm2 =>
        intro y hy
        dsimp only
        by_cases e1 : y = Str.ofString "upper"
        · rw [e1]; exact rfl
        · by_cases e2 : y = Str.ofString "lower"
          · rw [e2]; exact rfl
          · by_cases e3 : y = Str.ofString "quotient"
            · rw [e3]; exact rfl
            · by_cases e4 : y = Str.ofString "rest"
              · rw [e4]; exact rfl
              · simp only [if_neg e1, if_neg e2, if_neg e3, if_neg e4, if_neg hy]
      case eu2 =>
        rw [List.append_assoc]
        exact j2
      case len2 => simp [j4]
      case offI =>
        intro p hp
        rcases List.mem_cons.mp hp with rfl | hp
        · exact Ne.symm o2
        · rcases List.mem_append.mp hp with h1 | h1
          · exact oI p h1
          · exact ho p (.tail _ (List.mem_append_right _ h1))
  case done =>
    rintro ⟨vs, e, qs, up, lo, tu, tlo, tb', v1, v2⟩ u h tk ⟨j1, j2, j3, j4, j5, j6, j7⟩ F4 N4
    exact absurd j1 (fun h => h)
end
section
open PySem PySem.W PySem.Spec PySem.Calls PyProof.Rows
set_option maxRecDepth 100000
set_option maxHeartbeats 4000000
/-- the walker as it is ahead of a head -/
theorem walker_anew_P12 : True := by
  w_top off
  exact True.intro
variable (w : World) {loose : List Str} {mean : ExcName → Option Value} {mg mb : Str → Option Value}
local macro_rules | `(tactic| walk_at "call ref") => `(tactic| (k_here; refine stop ?_))
local macro_rules | `(tactic| walk_at "newList") => `(tactic| (k_here; refine stop ?_))
local macro_rules | `(tactic| walk_at "eval Lambda") => `(tactic| (k_here; refine stop ?_))

local macro_rules | `(tactic| walk_at "binaryOp Mult int int") => `(tactic| (k_here; refine mul_int ?_ (by assumption)))
local macro_rules | `(tactic| walk_at "eval ListComp") => `(tactic| (k_here; refine stop ?_))
local macro_rules | `(tactic| walk_at "CompSrcT") => `(tactic| (k_here; refine stop ?_))
local macro_rules | `(tactic| walk_at "CompEnd") => `(tactic| (k_here; refine stop ?_))
structure SideBits (S d : Int) (n : Nat) : Prop where
  d0 : d ≠ 0
  db : Builtin.Int.intBits d ≤ 8000
  sb : Builtin.Int.intBits S ≤ 16000
  rel : ∀ j : Nat, j < n → Builtin.Int.intBits (j * S) ≤ 64 * Builtin.Int.intBits d
  n4 : 4 ≤ n
  n12 : n ≤ 12

theorem fr_gen {h₀ h : Heap} {L : Addr} {M : Str → Option Value} {P : Prop} (F : Fr h₀ L h M) (k : ∀ m1 : Str → Option Value, (∀ x v, M x = v → m1 x = v) → Fr h₀ L h m1 → P) : P := k M (fun _ _ e => e) F
theorem fr_pin {h₀ h : Heap} {L : Addr} {M : Str → Option Value} (x : Str) {v : Option Value} (F : Fr h₀ L h M) (e : M x = v) : Fr h₀ L h (fun y => if y = x then v else M y) := fr_congr F fun y => by
  by_cases hy : y = x
  · rw [if_pos hy, hy, e]
  · rw [if_neg hy]
structure SS where
  vr : List Value
  er : Nat
  vw : List Value
  ew : Nat
  nw : List Int
  vd : List Value
  ed : Nat
  vt : List Value
  et : Nat
  ah : Int
  ta : Tok
  tb : List (Addr × Obj)
  v1 : Option Value
  v2 : Option Value
  v3 : Option Value

theorem news_turn {h₀ h : Heap} {L : Addr} {a b c d : Addr × Obj} {r : List (Addr × Obj)} (N : News h₀ L h (a :: b :: c :: d :: r)) : News h₀ L h (d :: c :: b :: a :: r) := news_sub N fun p hp => by
  simp only [List.mem_cons] at hp ⊢
  rcases hp with h1 | h1 | h1 | h1 | h1 <;> simp [h1]
theorem range_nice : ∀ n : Nat, n < 13 → Builtin.Range.small 0 n 1 = true ∧ Builtin.Range.rangeSize 0 n 1 = n := by decide +kernel
theorem news_tab6 {h₀ h : Heap} {L : Addr} {a b c d e f : Addr × Obj} {tb r : List (Addr × Obj)} (N : News h₀ L h (a :: b :: c :: d :: e :: f :: (tb ++ r))) : News h₀ L h (tb ++ (a :: b :: c :: d :: e :: f :: r)) := news_sub N fun p hp => by
  simp only [List.mem_cons, List.mem_append] at hp ⊢
  rcases hp with h1 | h1 | h1 | h1 | h1 | h1 | h1 | h1 <;> simp [h1]
theorem news_untab6 {h₀ h : Heap} {L : Addr} {x a b c d e f : Addr × Obj} {tb r : List (Addr × Obj)} (N : News h₀ L h (x :: (tb ++ (a :: b :: c :: d :: e :: f :: r)))) : News h₀ L h (a :: b :: c :: d :: e :: f :: x :: (tb ++ r)) := news_sub N fun p hp => by
  simp only [List.mem_cons, List.mem_append] at hp ⊢
  rcases hp with h1 | h1 | h1 | h1 | h1 | h1 | h1 | h1 | h1 <;> simp [h1]
theorem news_tabD {h₀ h : Heap} {L : Addr} {x a b c d e f : Addr × Obj} {tb r : List (Addr × Obj)} (N : News h₀ L h (a :: b :: c :: d :: e :: f :: x :: (tb ++ r))) : News h₀ L h (tb ++ (a :: b :: c :: d :: e :: f :: r)) := news_sub N fun p hp => by
  simp only [List.mem_cons, List.mem_append] at hp ⊢
  rcases hp with h1 | h1 | h1 | h1 | h1 | h1 | h1 | h1 <;> simp [h1]
/-- the key at a place that has its rest -/
theorem side_key (S d : Int) (i : Nat) (hi12 : i < 16) (news : List (Addr × Obj)) (lam cel c' RR : Addr) (name : Str) (p0 p1 p2 p3 : Pos) (pm ctv : Value) (oc ocel : Obj) (fs : Array Value) (tc : Tok) (vs : List Value) (e : Nat) (k : Int) (tk : Tok)
    (hf : (lam, keyObj name p0 p1 p2 p3 cel c' pm ctv) ∈ news) (hc : (c', oc) ∈ news) (d1 : oc.data = .fields fs) (d2 : fs[1]? = some (.str tq3 tc))
    (hcel : (cel, ocel) ∈ news) (hcd : ocel.data = .cell (some (.ref RR))) (hRR : (RR, W.listOf vs.toArray e) ∈ news) (hi : IntsAre vs ((List.range (i + 1)).map (sr S d))) (hk : 0 ≤ k ∧ k < (i : Int) + 1) :
    Ct w loose mean mg mb lam 20 300 news [.int k tk] (fun v n' => ∃ t', v = .int (sr S d k.toNat) t' ∧ n' = news) := by
  have h := key_lam w (loose := loose) (mean := mean) (mg := mg) (mb := mb) news lam cel c' RR name p0 p1 p2 p3 pm ctv oc ocel fs tc vs e ((List.range (i + 1)).map (sr S d)) k tk hf hc d1 d2 hcel hcd hRR hi hk.1 (by simp; omega) (by simp; omega)
  rw [sr_getD (by omega)] at h
  exact h
theorem mem7_of {α : Type} {a b c d e f p : α} {r l : List α} (h : l = a :: b :: c :: d :: e :: f :: p :: r) : p ∈ l := by rw [h]; simp
theorem rest7_of {α : Type} {a b c d e f g p : α} {r l : List α} (h : l = a :: b :: c :: d :: e :: f :: g :: r) (hp : p ∈ r) : p ∈ l := by rw [h]; simp [hp]
theorem OffL.cons {e : Addr} {p : Addr × Obj} {l : List (Addr × Obj)} (h : @Ne Nat p.1 e) (hl : OffL e l) : OffL e (p :: l) := fun x hx => by
  rcases List.mem_cons.mp hx with rfl | hx
  · exact h
  · exact hl x hx
theorem news_row {h₀ h : Heap} {L : Addr} {x a b c d e f : Addr × Obj} {r : List (Addr × Obj)} (N : News h₀ L h (a :: b :: c :: d :: e :: f :: x :: r)) : News h₀ L h (c :: a :: b :: d :: e :: f :: x :: r) := news_sub N fun p hp => by
  simp only [List.mem_cons] at hp ⊢
  rcases hp with h1 | h1 | h1 | h1 | h1 | h1 | h1 | h1 <;> simp [h1]
theorem news_unrow {h₀ h : Heap} {L : Addr} {x a b c d e f : Addr × Obj} {r : List (Addr × Obj)} (N : News h₀ L h (c :: a :: b :: d :: e :: f :: x :: r)) : News h₀ L h (a :: b :: c :: d :: e :: f :: r) := news_sub N fun p hp => by
  simp only [List.mem_cons] at hp ⊢
  rcases hp with h1 | h1 | h1 | h1 | h1 | h1 | h1 <;> simp [h1]
theorem led_tail {P : Prop} {h₀ h : Heap} {L : Addr} {q : Addr × Obj} {l : List (Addr × Obj)} (N : News h₀ L h (q :: l)) (k : ∀ R, R = l → News h₀ L h (q :: R) → P) : P := k l rfl N
theorem rest6_of {α : Type} {a b c d e f p : α} {r l : List α} (h : l = a :: b :: c :: d :: e :: f :: r) (hp : p ∈ r) : p ∈ l := by rw [h]; simp [hp]
theorem news_tabG {P : Prop} {h₀ h : Heap} {L Rt : Addr} {x a b c d f : Addr × Obj} {vt : List Value} {y z : Int} {u : Tok} {e : Nat} {tb r : List (Addr × Obj)} (N : News h₀ L h (a :: b :: c :: d :: (Rt, W.listOf (vt ++ [Value.int y u]).toArray e) :: f :: x :: (tb ++ r))) (hy : y = z)
    (k : ∀ tt, News h₀ L h (tb ++ (a :: b :: c :: d :: (Rt, W.listOf (vt ++ [Value.int z tt]).toArray e) :: f :: r)) → P) : P := k u (news_tabD (hy ▸ N))
theorem AddrG.chain {l tl tb tb' rest : List (Addr × Obj)} {q : Addr × Obj} (g : AddrG l tl tb) (g2 : AddrG (tb ++ rest) tb tb') (hq : q ∈ rest) (hl : ∀ x ∈ l, @LT.lt Nat _ x.1 q.1) : AddrG l tl tb' := fun p hp => by
  rcases g2 p hp with h1 | h1
  · obtain ⟨x, hx, e1⟩ := List.mem_map.mp h1
    rw [← e1]
    exact g x hx
  · exact .inr fun x hx => Nat.lt_trans (hl x hx) (h1 q (List.mem_append_right _ hq))
theorem news_end {h₀ h : Heap} {L : Addr} {x a b c d e f : Addr × Obj} {r : List (Addr × Obj)} (N : News h₀ L h (a :: b :: c :: d :: e :: f :: x :: r)) : News h₀ L h (a :: b :: c :: d :: e :: f :: r) := news_sub N fun p hp => by
  simp only [List.mem_cons] at hp ⊢
  rcases hp with h1 | h1 | h1 | h1 | h1 | h1 | h1 <;> simp [h1]
theorem news_tab5 {h₀ h : Heap} {L : Addr} {a b c d e : Addr × Obj} {tb r : List (Addr × Obj)} (N : News h₀ L h (a :: b :: c :: d :: e :: (tb ++ r))) : News h₀ L h (tb ++ (a :: b :: c :: d :: e :: r)) := news_sub N fun p hp => by
  simp only [List.mem_cons, List.mem_append] at hp ⊢
  rcases hp with h1 | h1 | h1 | h1 | h1 | h1 | h1 <;> simp [h1]
theorem news_untab5 {h₀ h : Heap} {L : Addr} {x a b c d e : Addr × Obj} {tb r : List (Addr × Obj)} (N : News h₀ L h (x :: (tb ++ (a :: b :: c :: d :: e :: r)))) : News h₀ L h (x :: a :: b :: c :: d :: e :: (tb ++ r)) := news_sub N fun p hp => by
  simp only [List.mem_cons, List.mem_append] at hp ⊢
  rcases hp with h1 | h1 | h1 | h1 | h1 | h1 | h1 | h1 <;> simp [h1]
/-- the places from the first on whose rest is nought -/
def zer (S d : Int) (i : Nat) : List Int := ((List.range' 1 i).filter (fun j => sr S d j == 0)).map (fun j : Nat => (j : Int))
theorem zer_yes {S d : Int} {i : Nat} (h : sr S d (1 + i) = 0) : zer S d (i + 1) = zer S d i ++ [(1 + i : Int)] := by
  unfold zer
  rw [List.range'_concat, List.filter_append, List.map_append]
  simp [h]
theorem zer_no {S d : Int} {i : Nat} (h : ¬ sr S d (1 + i) = 0) : zer S d (i + 1) = zer S d i := by
  unfold zer
  rw [List.range'_concat, List.filter_append, List.map_append]
  simp [h]
theorem range1_nice : ∀ n : Nat, n < 13 → 0 < n → Builtin.Range.small 1 n 1 = true ∧ Builtin.Range.rangeSize 1 n 1 = ((n - 1 : Nat) : Int) := by decide +kernel
theorem zer_len (S d : Int) (i : Nat) : (zer S d i).length ≤ i := by
  unfold zer
  rw [List.length_map]
  exact Nat.le_trans (List.length_filter_le _ _) (by simp)
theorem ints_one {vs : List Value} {x : Int} (h : IntsAre vs [x]) : ∃ t, vs = [Value.int x t] := by
  cases h with
  | cons _ t h => cases h; exact ⟨t, rfl⟩
theorem mulok4 (b : Int) : IntMulOk 4 b := by
  unfold IntMulOk
  have : decide (Builtin.Int.intBits 4 > shortFactorBits) = false := by decide
  rw [this]
  simp
structure SideJ (S d : Int) (tl news : List (Addr × Obj)) (i : Nat) (c : SS) : Prop where
  ri : IntsAre c.vr ((List.range i).map (sr S d))
  ti : IntsAre c.vt ((List.range i).map (stu S d))
  wi : IntsAre c.vw c.nw
  di : IntsAre c.vd c.nw
  pm : c.nw.Perm ((List.range i).map (fun k : Nat => (k : Int)))
  so : (c.nw.map (fun k => sr S d k.toNat)).Pairwise (· ≤ ·)
  ah : c.ah = sah S d i
  tab : TabsL c.tb
  ag : AddrG (tl ++ news) tl c.tb
theorem law_side (tl news : List (Addr × Obj)) (hT : TabsL tl) (hN : HiL news) (S d : Int) (n : Nat) (tS td tn : Tok) (hb : SideBits S d n) (ok : SideOk S d n) :
    Cts w loose mean mg mb 111 300 4500 (tl ++ news) [.int S tS, .int d td, .int n tn] (fun v n' => ∃ tl', v = .bool true ∧ n' = tl' ++ news ∧ TabsL tl' ∧ AddrG (tl ++ news) tl tl') := by
  obtain ⟨hd0, hdb, hSb, hrel, h4, h12⟩ := hb
  unfold Cts
  k_fill
  unfold CtrS
  intro dp un gd cn cs₀ a' ccd cl outer A₀ base h₀ g₀ L m s Q E B F X N T hk hG XB TB D T0 hd hu hret
  refine wpAny_call ?_
  k_dflt (refine' code_defSC ?k1 ?k2 ?k3 ?k4 ?k5 ?XB ?TB ?D ?T0 ?kA ?kF ?kK ?k6 ?k7 ?k8 ?k9 ?kB ?kD ?_ ?c2 ?c3 ?c4; (case kA => exact rfl); (case kF => exact rfl); (case kK => assumption); (case k1 => k_asm); (case k2 => k_asm); (case k3 => exact X); (case k4 => k_asm); (case k5 => exact T); (case XB => exact XB); (case TB => exact TB); (case D => exact D); (case T0 => exact T0); (case k6 => k_is); (case k7 => k_is); (case k8 => ktr_room); (case k9 => exact BindsTo.of_eq rfl); (case kB => exact rfl); (case kD => decide +kernel); (case c2 => exact rfl); (case c3 => exact rfl); (case c4 => exact rfl); k_whole; intro g' L' h' tk' cells' FG' F' N' Y' B' X' T' D' l1; k_cells Y'; (try simp only [List.cons_append, List.nil_append] at N'); (try dsimp only); (try k_lift B'); (try (with_reducible show wpAny _ _ _ _ _ _)); (try k_fold))
  have PK := Pack4.mk XB TB D T0
  clear XB TB D T0
  rename KtsDicts _ _ => D'
  have PD := Pack1.mk D'
  clear D'
  have hlow : LowAll L' (tl ++ news) := LowAll.of l1 (fun p hp => hp)
  (try (with_reducible show wpAny _ _ _ _ _ _)); (try k_fold)
  k_steps
  unfold Stop
  k_dflt (refine' newList_K ?k1 ?k2 ?_; (case k1 => k_asm); (case k2 => k_asm))
  intro Rr h2 F2 N2 lr
  k_lt lr
  k_sweep
  (try (with_reducible show wpAny _ _ _ _ _ _)); (try k_fold)
  k_steps
  unfold Stop
  k_dflt (refine' newList_K ?k1 ?k2 ?_; (case k1 => k_asm); (case k2 => k_asm))
  intro Rw h2 F2 N2 lw
  k_lt lw
  k_sweep
  (try (with_reducible show wpAny _ _ _ _ _ _)); (try k_fold)
  k_steps
  unfold Stop
  k_dflt (refine' newList_K ?k1 ?k2 ?_; (case k1 => k_asm); (case k2 => k_asm))
  intro Rd h2 F2 N2 ld
  k_lt ld
  k_sweep
  (try (with_reducible show wpAny _ _ _ _ _ _)); (try k_fold)
  k_steps
  unfold Stop
  k_dflt (refine' newList_K ?k1 ?k2 ?_; (case k1 => k_asm); (case k2 => k_asm))
  intro Rt h2 F2 N2 lt
  k_lt lt
  k_sweep
  (try (with_reducible show wpAny _ _ _ _ _ _)); (try k_fold)
  k_steps
  unfold Stop
  rename IsRange _ _ _ _ _ _ _ _ => IR
  rename Fr _ _ _ _ => F3
  rename News _ _ _ _ => N3
  refine fr_gen F3 ?_
  intro m1 hm F4
  have e_turned : m1 (Str.ofString "turned") = some (.ref Rt) := hm _ _ rfl
  have e_due : m1 (Str.ofString "due") = some (.ref Rd) := hm _ _ rfl
  have e_row : m1 (Str.ofString "row") = some (.ref Rw) := hm _ _ rfl
  have e_step : m1 (Str.ofString "step") = some (.int S tS) := hm _ _ rfl
  have e_divisor : m1 (Str.ofString "divisor") = some (.int d td) := hm _ _ rfl
  have e_count : m1 (Str.ofString "count") = some (.int n tn) := hm _ _ rfl
  obtain ⟨t0, e_ahead⟩ : ∃ t0, m1 (Str.ofString "ahead") = some (.int 0 t0) := ⟨_, hm _ _ rfl⟩
  clear hm F3
  replace F4 : Fr g' L' _ (fun y => if y = Str.ofString "ahead" then some (.int 0 t0) else if y = Str.ofString "quotient" then m1 (Str.ofString "quotient") else if y = Str.ofString "rest" then m1 (Str.ofString "rest") else if y = Str.ofString "counted" then m1 (Str.ofString "counted") else if y = Str.ofString "turned" then some (.ref Rt) else if y = Str.ofString "due" then some (.ref Rd) else if y = Str.ofString "row" then some (.ref Rw) else if y = Str.ofString "step" then some (.int S tS) else if y = Str.ofString "divisor" then some (.int d td) else if y = Str.ofString "count" then some (.int n tn) else m1 y) := fr_congr F4 (fun y => by
    by_cases c0 : y = Str.ofString "ahead"
    · rw [c0]; exact e_ahead
    · skip
      by_cases c1 : y = Str.ofString "quotient"
      · rw [c1]; exact rfl
      · skip
        by_cases c2 : y = Str.ofString "rest"
        · rw [c2]; exact rfl
        · skip
          by_cases c3 : y = Str.ofString "counted"
          · rw [c3]; exact rfl
          · skip
            by_cases c4 : y = Str.ofString "turned"
            · rw [c4]; exact e_turned
            · skip
              by_cases c5 : y = Str.ofString "due"
              · rw [c5]; exact e_due
              · skip
                by_cases c6 : y = Str.ofString "row"
                · rw [c6]; exact e_row
                · skip
                  by_cases c7 : y = Str.ofString "step"
                  · rw [c7]; exact e_step
                  · skip
                    by_cases c8 : y = Str.ofString "divisor"
                    · rw [c8]; exact e_divisor
                    · skip
                      by_cases c9 : y = Str.ofString "count"
                      · rw [c9]; exact e_count
                      · skip
                        simp only [if_neg c0, if_neg c1, if_neg c2, if_neg c3, if_neg c4, if_neg c5, if_neg c6, if_neg c7, if_neg c8, if_neg c9])
  clear e_ahead e_turned e_due e_row e_step e_divisor e_count
  rename Obj => ocl
  refine' iter_range_st (σ := SS) (n := n) (c₀ := ⟨[], 0, [], 0, [], [], 0, [], 0, 0, t0, tl, m1 (Str.ofString "quotient"), m1 (Str.ofString "rest"), m1 (Str.ofString "counted")⟩) F4 (news_turn N3) rfl IR ?small ?size (fun _ c y => if y = Str.ofString "ahead" then some (.int c.ah c.ta) else if y = Str.ofString "quotient" then c.v1 else if y = Str.ofString "rest" then c.v2 else if y = Str.ofString "counted" then c.v3 else if y = Str.ofString "turned" then some (.ref Rt) else if y = Str.ofString "due" then some (.ref Rd) else if y = Str.ofString "row" then some (.ref Rw) else if y = Str.ofString "step" then some (.int S tS) else if y = Str.ofString "divisor" then some (.int d td) else if y = Str.ofString "count" then some (.int n tn) else m1 y)
    (fun _ c => (Rr, W.listOf c.vr.toArray c.er) :: (Rw, W.listOf c.vw.toArray c.ew) :: (Rd, W.listOf c.vd.toArray c.ed) :: (Rt, W.listOf c.vt.toArray c.et) :: (_, ocl) :: (c.tb ++ news))
    (fun i c => SideJ S d tl news i c ∧ OffL Rr c.tb ∧ OffL Rw c.tb ∧ OffL Rd c.tb ∧ OffL Rt c.tb)
    rfl (fun y _ => rfl) ?init ?turn ?done
  case small => exact (range_nice n (by omega)).1
  case size => exact (range_nice n (by omega)).2
  case init =>
    have oo : ∀ e : Addr, @LE.le Nat _ L' e → OffL e tl := fun e he p hp => hlow.ne he p (List.mem_append_left _ hp)
    exact ⟨⟨.nil, .nil, .nil, .nil, .refl _, .nil, rfl, hT, AddrG.refl⟩, oo _ (by omega), oo _ (by omega), oo _ (by omega), oo _ (by omega)⟩
  case turn =>
    rintro i t ⟨vr, er, vw, ew, nw, vd, ed, vt, et, ah, ta, tb', v1, v2, v3⟩ I it h tk hi ⟨J, o1, o2, o3, o4⟩ F5 N5 ho hlt
    obtain ⟨ri, ti, wi, di, pm, so, eah, tab, ag⟩ := J
    dsimp only at F5 N5 ho o1 o2 o3 o4 ri ti wi di pm so eah tab ag
    subst eah
    clear N3 F4
    have hI : @LT.lt Nat _ Rt I := hlt (Rt, W.listOf ([] : List Value).toArray 0) (by simp)
    clear hlt
    obtain ⟨o108, m108⟩ : ∃ o, ((108 : Nat), o) ∈ tl := by
      obtain ⟨_, _, _, _, rfl, _⟩ := hT
      exact ⟨_, .tail _ (.tail _ (.head _))⟩
    have l108 : @LT.lt Nat _ 108 L' := l1 _ (List.mem_append_left _ m108)
    simp only [Int.zero_add] at F5
    have bq := sq_bits (d := d) (j := i) hSb (by omega)
    have ba := sah_bits (d := d) (j := i) hSb (by omega)
    have k1 : IntMulOk i S := mulok_l (by omega) hSb (by omega)
    have k2 : IntMulOk (i - 1) (sq S d i) := mulok_l (by omega) bq (by omega)
    have k3 : IntMulOk 2 (sah S d i) := mulok_l (by omega) ba (by omega)
    have k4 : IntMulOk (sq S d i) d := mulok_b bq hdb (by omega) (by omega)
    clear bq ba
    have hil : ∀ o1 o2 o3 o4 o5, HiL ((I, o1) :: (Rr, o2) :: (Rw, o3) :: (Rd, o4) :: (Rt, o5) :: (L' + 1, ocl) :: news) := fun o1 o2 o3 o4 o5 p hp => by
      simp only [List.mem_cons] at hp
      rcases hp with rfl | rfl | rfl | rfl | rfl | rfl | hp
      · exact HiL.gt (by dsimp only; omega)
      · exact HiL.gt (by dsimp only; omega)
      · exact HiL.gt (by dsimp only; omega)
      · exact HiL.gt (by dsimp only; omega)
      · exact HiL.gt (by dsimp only; omega)
      · exact HiL.gt (by dsimp only; omega)
      · exact hN p hp
    (try (with_reducible show wpAny _ _ _ _ _ _)); (try k_fold)
    k_steps
    unfold Stop
    replace N5 := news_tab6 N5
    k_dflt (refine' ctr_use ?k1 ?k2 ?k3 ?k4 ?k5 ?kK ?kG (int_divmod w tb' _ tab ?hHi ((i : Int) * S) d _ _ hd0 hdb (hrel i hi)) ?kd ?ku ?_; (case k1 => k_asm); (case k2 => k_asm); (case k3 => k_asm); (case k4 => exact N5); (case k5 => k_asm); (case kK => first | exact rfl | assumption); (case kG => assumption); (case kd => ktr_room); (case ku => ktr_units))
    case hHi => exact hil _ _ _ _ _
    rintro v n3 h3 tk3 F6 N6 ⟨D, tq, tr, tl2, rfl, rfl, hT2, hg2⟩
    have N7 := news_untab6 N6
    rw [show ((i : Int) * S).fdiv d = sq S d i from rfl, show ((i : Int) * S).fmod d = sr S d i from rfl] at N7
    clear N5 N6
    have p1 : OffL Rr tl2 := AddrG.off hg2 o1 (by simp)
    have p2 : OffL Rw tl2 := AddrG.off hg2 o2 (by simp)
    have p3 : OffL Rd tl2 := AddrG.off hg2 o3 (by simp)
    have p4 : OffL Rt tl2 := AddrG.off hg2 o4 (by simp)
    have d1 : @Ne Nat D Rr := ne_of_cls N7 (.tail _ (.tail _ (.tail _ (.tail _ (.tail _ (.tail _ (.head _))))))) (List.Mem.tail _ (.head _)) (by show Value.type "tuple" ≠ Value.type "list"; decide)
    have d4 : @Ne Nat D Rt := ne_of_cls N7 (.tail _ (.tail _ (.tail _ (.tail _ (.tail _ (.tail _ (.head _))))))) (List.Mem.tail _ (.tail _ (.tail _ (.tail _ (.head _))))) (by show Value.type "tuple" ≠ Value.type "list"; decide)
    have q : ∀ e : Addr, @LE.le Nat _ L' e → OffL e tl2 → ∀ p ∈ tl2 ++ news, p.1 ≠ e := fun e he o p hp => (List.mem_append.mp hp).elim (o p) (fun h => Nat.ne_of_lt (Nat.lt_of_lt_of_le (l1 p (List.mem_append_right _ h)) he))
    have q1 := q Rr (by omega) p1
    have q2 := q Rw (by omega) p2
    have q3 := q Rd (by omega) p3
    have q4 := q Rt (by omega) p4
    have hvl : vr.length = i ∧ vt.length = i ∧ vw.length = i ∧ vd.length = i := ⟨by simpa using ri.length, by simpa using ti.length, by simpa using wi.length.trans pm.length_eq, by simpa using di.length.trans pm.length_eq⟩
    k_sweep
    (try (with_reducible show wpAny _ _ _ _ _ _)); (try k_fold)
    k_steps
    · skip
      unfold Stop
      rename News _ _ _ _ => N8
      simp only [List.push_toArray] at N8
      refine news_tabG N8 (show _ = stu S d i from rfl) ?_
      clear N8
      intro tt N8
      k_dflt (refine' kla_eval ?d0 ?_; (case d0 => exact rfl))
      k_dflt (refine' lam_tabs w (tl := tl2) ?F ?N ?T ?C ?cd ?hT ?hN ?cl ?_; (case F => k_asm); (case N => exact N8); (case T => k_asm); (case cd => exact rfl); (case C => exact hG.2.2.keeps B'.stays); (case hT => exact hT2); (case hN => exact hil _ _ _ _ _); (case cl => exact rfl))
      intro lam c' oc fs tc ctv h9 tk9 tl3 F9 N9 m1 d1 d2 hT3 hg3 hl hl2
      replace N9 := news_untab6 N9
      clear N8
      k_sweep
      (try (with_reducible show wpAny _ _ _ _ _ _)); (try k_fold)
      k_steps
      have ri2 : IntsAre (vr ++ [Value.int (sr S d i) tr]) ((List.range (i + 1)).map (sr S d)) := by
        rw [List.range_succ, List.map_append]
        exact IntsAre.append ri (.cons _ _ .nil)
      obtain ⟨ts, hts⟩ : ∃ ts, ts = (List.range (i + 1)).map (stu S d) := ⟨_, rfl⟩
      have ti2 : IntsAre (vt ++ [Value.int (stu S d i) tt]) ts := by
        rw [hts, List.range_succ, List.map_append]
        exact IntsAre.append ti (.cons _ _ .nil)
      have tlen : ts.length = i + 1 := by rw [hts]; simp
      have tget : ts.getD i 0 = stu S d i := by rw [hts]; exact stu_getD (by omega)
      unfold Stop
      refine led_all N9 ?_
      intro nl hnl N9'
      have mlam := mem7_of hnl
      have mrow := mem3_of hnl
      have mrr := mem2_of hnl
      have mcel := mem6_of hnl
      have mco := rest7_of hnl (List.mem_append_left _ m1)
      k_dflt (refine' ctrk_use ?k1 ?k2 ?k3 ?k4 ?k5 ?kK ?kG (bisect_right2 w nl Rw lam vw ew nw (fun k => sr S d k.toNat) (sr S d i) _ _ _ _ _ mrow wi ?len mlam (fun k hk t => side_key w S d i (by omega) nl lam _ c' Rr _ _ _ _ _ _ _ oc ocl fs tc _ _ k t mlam mco d1 d2 mcel (by assumption) mrr ri2 ⟨(range_mem pm hk).1, by have := (range_mem pm hk).2; omega⟩) so) ?kd ?ku ?_; (case k1 => k_asm); (case k2 => k_asm); (case k3 => k_asm); (case k4 => exact N9'); (case k5 => k_asm); (case kK => first | exact rfl | assumption); (case kG => assumption); (case kd => ktr_room); (case ku => ktr_units))
      case len => have := wi.length; omega
      rintro v n4 h4' tk4 F10 N10 ⟨p, tp, rfl, rfl, hp, hp1, hp2⟩
      have hcnt := count_right ok hi (by assumption) pm hp hp1 hp2
      subst hnl
      clear N9 N9'
      k_sweep
      (try (with_reducible show wpAny _ _ _ _ _ _)); (try k_fold)
      k_steps
      unfold Stop
      rename News _ _ _ _ => N8
      replace N8 := news_tabD N8
      k_dflt (refine' kla_eval ?d0 ?_; (case d0 => exact rfl))
      k_dflt (refine' lam_tabs w (tl := tl3) ?F ?N ?T ?C ?cd ?hT ?hN ?cl ?_; (case F => k_asm); (case N => exact N8); (case T => k_asm); (case cd => exact rfl); (case C => exact hG.2.2.keeps B'.stays); (case hT => exact hT3); (case hN => exact hil _ _ _ _ _); (case cl => exact rfl))
      intro lam2 c' oc fs tc ctv h9 tk9 tl4 F9 N9 m1 d1 d2 hT4 hg4 hm hm2
      replace N9 := news_untab6 N9
      clear N8
      k_sweep
      (try (with_reducible show wpAny _ _ _ _ _ _)); (try k_fold)
      k_steps
      have off : ∀ e : Addr, @LE.le Nat _ L' e → OffL e tl2 → e ∈ [Rr, Rw, Rd, Rt] → OffL e tl4 := fun e he o hm0 => by
        have a1 : OffL e tl3 := AddrG.off hg3 o (by simp only [List.mem_cons, List.not_mem_nil, or_false] at hm0; rcases hm0 with rfl | rfl | rfl | rfl <;> simp)
        exact AddrG.off hg4 a1 (by simp only [List.mem_cons, List.not_mem_nil, or_false] at hm0; rcases hm0 with rfl | rfl | rfl | rfl <;> simp)
      have r1 := off Rr (by omega) p1 (by simp)
      have r2 := off Rw (by omega) p2 (by simp)
      have r3 := off Rd (by omega) p3 (by simp)
      have r4 := off Rt (by omega) p4 (by simp)
      clear q q1 q2 q3 q4
      have q : ∀ e : Addr, @LE.le Nat _ L' e → OffL e tl4 → OffL e (tl4 ++ news) := fun e he o p hp => (List.mem_append.mp hp).elim (o p) (fun h => Nat.ne_of_lt (Nat.lt_of_lt_of_le (l1 p (List.mem_append_right _ h)) he))
      have q2 := q Rw (by omega) r2
      have q3 := q Rd (by omega) r3
      have hlw : @LT.lt Nat _ Rw lam2 := hm (Rw, W.listOf vw.toArray ew) (by simp)
      have hld : @LT.lt Nat _ Rd lam2 := hm (Rd, W.listOf vd.toArray ed) (by simp)
      unfold Stop
      replace N9 := news_row N9
      refine led_tail N9 ?_
      intro R hR N9'
      have hoff : OffL Rw R := by
        rw [hR]
        exact .cons (by k_ne) (.cons (by k_ne) (.cons (by k_ne) (.cons (by k_ne) (.cons (by k_ne) (.cons (by k_ne) q2)))))
      have mlam : (lam2, _) ∈ R := mem6_of hR
      have mrr : (Rr, _) ∈ R := mem2_of hR
      have mcel : (_, ocl) ∈ R := mem5_of hR
      have mco : (c', oc) ∈ R := rest6_of hR (List.mem_append_left _ m1)
      k_dflt (refine' ctrk_use ?k1 ?k2 ?k3 ?k4 ?k5 ?kK ?kG (insort_right w R Rw lam2 vw ew nw (fun k => sr S d k.toNat) (i : Int) _ _ _ _ _ hoff wi ?len mlam (fun k hk t => side_key w S d i (by omega) ((Rw, W.listOf vw.toArray ew) :: R) lam2 _ c' Rr _ _ _ _ _ _ _ oc ocl fs tc _ _ k t (.tail _ mlam) (.tail _ mco) d1 d2 (.tail _ mcel) (by assumption) (.tail _ mrr) ri2 (hk.elim (fun hk => ⟨(range_mem pm hk).1, by have := (range_mem pm hk).2; omega⟩) (fun hk => by omega))) so) ?kd ?ku ?_; (case k1 => k_asm); (case k2 => k_asm); (case k3 => k_asm); (case k4 => exact N9'); (case k5 => k_asm); (case kK => first | exact rfl | assumption); (case kG => assumption); (case kd => ktr_room); (case ku => ktr_units))
      case len => have := wi.length; omega
      rintro v n5 h5' tk5 F11 N11 ⟨p', rfl, rfl, hp', hq1, hq2⟩
      simp only [Int.toNat_natCast] at hq1 hq2
      have hcnt' := count_right ok hi (by assumption) pm hp' hq1 hq2
      obtain rfl : p' = p := by omega
      subst hR
      clear N9 N9'
      replace N11 := news_unrow N11
      have rI : OffL I (tl4 ++ news) := by
        have a0 : OffL I tb' := fun p hp => ho p (.tail _ (.tail _ (.tail _ (.tail _ (.tail _ (List.mem_append_left _ hp))))))
        have a1 : OffL I tl2 := AddrG.off hg2 a0 (by simp)
        have a2 : OffL I tl3 := AddrG.off hg3 a1 (by simp)
        have a3 : OffL I tl4 := AddrG.off hg4 a2 (by simp)
        exact q I (by omega) a3
      k_sweep
      (try (with_reducible show wpAny _ _ _ _ _ _)); (try k_fold)
      k_steps
      have tget' : ts.getD (i : Int).toNat 0 = stu S d i := by rw [Int.toNat_natCast]; exact tget
      have hidx : (i : Int) - ts.getD (i : Int).toNat 0 = (p' : Int) := by rw [tget']; omega
      have hsq := sqr_eq S d i
      have hnl : nw.length = i := by simpa using pm.length_eq
      have hnl2 : vd.length = i := hvl.2.2.2
      (with_reducible show wpAny _ _ (call (Value.builtin _) [Value.ref _, Value.int _ _, _]) _ _ _)
      k_dflt (refine' kl_insert (its := vd.toArray) (n := ed) (l := vd.take p' ++ .int i t :: vd.drop p') ?F ?N ?f ?e ?U ?z ?_; (case F => k_asm); (case N => k_asm); (case f => (rw [hidx]; exact fits_small (by omega))); (case e => (rw [hidx]; exact kl_ins_at (by show p' ≤ vd.length; omega))); (case U => exact Upd.tail (by k_ne) (.tail (by k_ne) (.tail (by k_ne) (.head (by intro x hx; rcases List.mem_cons.mp hx with rfl | hx; (· k_ne); rcases List.mem_cons.mp hx with rfl | hx; (· k_ne); exact q3 x hx))))); (case z => (show vd.length ≤ sizeLine; simp only [sizeLine_eq]; omega)))
      intro h6 F12 N12
      k_sweep
      (try (with_reducible show wpAny _ _ _ _ _ _)); (try k_fold)
      k_steps
      all_goals try (exfalso; omega)
      show FEnd _ _ _ _ _ _ _ _ _ _
      rename Fr _ _ _ _ => F13
      rename News _ _ _ _ => N13
      refine' ⟨⟨_, _, _, _, nw.take p' ++ (i : Int) :: nw.drop p', _, _, _, _, sah S d (i + 1), _, tl4, some (.int (sq S d i) tq), some (.int (sr S d i) tr), some (.int (i - p') _)⟩, _, _, _, rfl, F13, ?hm2, N13, ?offI, ⟨ri2, hts ▸ ti2, IntsAre.ins wi p' i _, IntsAre.ins di p' i _, range_perm pm p', ?so, rfl, hT4, ?ag⟩, r1, r2, r3, r4⟩
      case so =>
        rw [ins_map]
        simp only [Int.toNat_natCast]
        exact ins_pw so hq1 (fun k hk => Int.le_of_lt (hq2 k hk))
      case ag =>
        have hL : ∀ x ∈ tl ++ news, @LT.lt Nat _ x.1 Rr := fun x hx => Nat.lt_trans (l1 x hx) (by omega)
        refine AddrG.chain (q := (Rr, _)) (AddrG.chain (q := (Rr, _)) (AddrG.chain (q := (Rr, _)) ag hg2 (.tail _ (.head _)) hL) hg3 (.tail _ (.head _)) hL) hg4 (.tail _ (.head _)) hL
      case offI => exact .cons (by k_ne) (.cons (by k_ne) (.cons (by k_ne) (.cons (by k_ne) (.cons (by k_ne) rI))))
      case hm2 =>
        intro y hy
        dsimp only
        by_cases c0 : y = Str.ofString "ahead"
        · rw [c0]; exact rfl
        · skip
          by_cases c1 : y = Str.ofString "quotient"
          · rw [c1]; exact rfl
          · skip
            by_cases c2 : y = Str.ofString "rest"
            · rw [c2]; exact rfl
            · skip
              by_cases c3 : y = Str.ofString "counted"
              · rw [c3]; exact rfl
              · skip
                by_cases c4 : y = Str.ofString "turned"
                · rw [c4]; exact rfl
                · skip
                  by_cases c5 : y = Str.ofString "due"
                  · rw [c5]; exact rfl
                  · skip
                    by_cases c6 : y = Str.ofString "row"
                    · rw [c6]; exact rfl
                    · skip
                      by_cases c7 : y = Str.ofString "step"
                      · rw [c7]; exact rfl
                      · skip
                        by_cases c8 : y = Str.ofString "divisor"
                        · rw [c8]; exact rfl
                        · skip
                          by_cases c9 : y = Str.ofString "count"
                          · rw [c9]; exact rfl
                          · skip
                            simp only [if_neg c0, if_neg c1, if_neg c2, if_neg c3, if_neg c4, if_neg c5, if_neg c6, if_neg c7, if_neg c8, if_neg c9, if_neg hy]
    · skip
      unfold Stop
      rename News _ _ _ _ => N8
      simp only [List.push_toArray] at N8
      refine news_tabG N8 (show _ = stu S d i from rfl) ?_
      clear N8
      intro tt N8
      k_dflt (refine' kla_eval ?d0 ?_; (case d0 => exact rfl))
      k_dflt (refine' lam_tabs w (tl := tl2) ?F ?N ?T ?C ?cd ?hT ?hN ?cl ?_; (case F => k_asm); (case N => exact N8); (case T => k_asm); (case cd => exact rfl); (case C => exact hG.2.2.keeps B'.stays); (case hT => exact hT2); (case hN => exact hil _ _ _ _ _); (case cl => exact rfl))
      intro lam c' oc fs tc ctv h9 tk9 tl3 F9 N9 m1 d1 d2 hT3 hg3 hl hl2
      replace N9 := news_untab6 N9
      clear N8
      k_sweep
      (try (with_reducible show wpAny _ _ _ _ _ _)); (try k_fold)
      k_steps
      have ri2 : IntsAre (vr ++ [Value.int (sr S d i) tr]) ((List.range (i + 1)).map (sr S d)) := by
        rw [List.range_succ, List.map_append]
        exact IntsAre.append ri (.cons _ _ .nil)
      obtain ⟨ts, hts⟩ : ∃ ts, ts = (List.range (i + 1)).map (stu S d) := ⟨_, rfl⟩
      have ti2 : IntsAre (vt ++ [Value.int (stu S d i) tt]) ts := by
        rw [hts, List.range_succ, List.map_append]
        exact IntsAre.append ti (.cons _ _ .nil)
      have tlen : ts.length = i + 1 := by rw [hts]; simp
      have tget : ts.getD i 0 = stu S d i := by rw [hts]; exact stu_getD (by omega)
      unfold Stop
      refine led_all N9 ?_
      intro nl hnl N9'
      have mlam := mem7_of hnl
      have mrow := mem3_of hnl
      have mrr := mem2_of hnl
      have mcel := mem6_of hnl
      have mco := rest7_of hnl (List.mem_append_left _ m1)
      k_dflt (refine' ctrk_use ?k1 ?k2 ?k3 ?k4 ?k5 ?kK ?kG (bisect_left2 w nl Rw lam vw ew nw (fun k => sr S d k.toNat) (sr S d i) _ _ _ _ _ mrow wi ?len mlam (fun k hk t => side_key w S d i (by omega) nl lam _ c' Rr _ _ _ _ _ _ _ oc ocl fs tc _ _ k t mlam mco d1 d2 mcel (by assumption) mrr ri2 ⟨(range_mem pm hk).1, by have := (range_mem pm hk).2; omega⟩) so) ?kd ?ku ?_; (case k1 => k_asm); (case k2 => k_asm); (case k3 => k_asm); (case k4 => exact N9'); (case k5 => k_asm); (case kK => first | exact rfl | assumption); (case kG => assumption); (case kd => ktr_room); (case ku => ktr_units))
      case len => have := wi.length; omega
      rintro v n4 h4' tk4 F10 N10 ⟨p, tp, rfl, rfl, hp, hp1, hp2⟩
      have hcnt := count_left ok hi (by assumption) pm hp hp1 hp2
      subst hnl
      clear N9 N9'
      k_sweep
      (try (with_reducible show wpAny _ _ _ _ _ _)); (try k_fold)
      k_steps
      unfold Stop
      rename News _ _ _ _ => N8
      replace N8 := news_tabD N8
      k_dflt (refine' kla_eval ?d0 ?_; (case d0 => exact rfl))
      k_dflt (refine' lam_tabs w (tl := tl3) ?F ?N ?T ?C ?cd ?hT ?hN ?cl ?_; (case F => k_asm); (case N => exact N8); (case T => k_asm); (case cd => exact rfl); (case C => exact hG.2.2.keeps B'.stays); (case hT => exact hT3); (case hN => exact hil _ _ _ _ _); (case cl => exact rfl))
      intro lam2 c' oc fs tc ctv h9 tk9 tl4 F9 N9 m1 d1 d2 hT4 hg4 hm hm2
      replace N9 := news_untab6 N9
      clear N8
      k_sweep
      (try (with_reducible show wpAny _ _ _ _ _ _)); (try k_fold)
      k_steps
      have off : ∀ e : Addr, @LE.le Nat _ L' e → OffL e tl2 → e ∈ [Rr, Rw, Rd, Rt] → OffL e tl4 := fun e he o hm0 => by
        have a1 : OffL e tl3 := AddrG.off hg3 o (by simp only [List.mem_cons, List.not_mem_nil, or_false] at hm0; rcases hm0 with rfl | rfl | rfl | rfl <;> simp)
        exact AddrG.off hg4 a1 (by simp only [List.mem_cons, List.not_mem_nil, or_false] at hm0; rcases hm0 with rfl | rfl | rfl | rfl <;> simp)
      have r1 := off Rr (by omega) p1 (by simp)
      have r2 := off Rw (by omega) p2 (by simp)
      have r3 := off Rd (by omega) p3 (by simp)
      have r4 := off Rt (by omega) p4 (by simp)
      clear q q1 q2 q3 q4
      have q : ∀ e : Addr, @LE.le Nat _ L' e → OffL e tl4 → OffL e (tl4 ++ news) := fun e he o p hp => (List.mem_append.mp hp).elim (o p) (fun h => Nat.ne_of_lt (Nat.lt_of_lt_of_le (l1 p (List.mem_append_right _ h)) he))
      have q2 := q Rw (by omega) r2
      have q3 := q Rd (by omega) r3
      have hlw : @LT.lt Nat _ Rw lam2 := hm (Rw, W.listOf vw.toArray ew) (by simp)
      have hld : @LT.lt Nat _ Rd lam2 := hm (Rd, W.listOf vd.toArray ed) (by simp)
      unfold Stop
      replace N9 := news_row N9
      refine led_tail N9 ?_
      intro R hR N9'
      have hoff : OffL Rw R := by
        rw [hR]
        exact .cons (by k_ne) (.cons (by k_ne) (.cons (by k_ne) (.cons (by k_ne) (.cons (by k_ne) (.cons (by k_ne) q2)))))
      have mlam : (lam2, _) ∈ R := mem6_of hR
      have mrr : (Rr, _) ∈ R := mem2_of hR
      have mcel : (_, ocl) ∈ R := mem5_of hR
      have mco : (c', oc) ∈ R := rest6_of hR (List.mem_append_left _ m1)
      k_dflt (refine' ctrk_use ?k1 ?k2 ?k3 ?k4 ?k5 ?kK ?kG (insort_left w R Rw lam2 vw ew nw (fun k => sr S d k.toNat) (i : Int) _ _ _ _ _ hoff wi ?len mlam (fun k hk t => side_key w S d i (by omega) ((Rw, W.listOf vw.toArray ew) :: R) lam2 _ c' Rr _ _ _ _ _ _ _ oc ocl fs tc _ _ k t (.tail _ mlam) (.tail _ mco) d1 d2 (.tail _ mcel) (by assumption) (.tail _ mrr) ri2 (hk.elim (fun hk => ⟨(range_mem pm hk).1, by have := (range_mem pm hk).2; omega⟩) (fun hk => by omega))) so) ?kd ?ku ?_; (case k1 => k_asm); (case k2 => k_asm); (case k3 => k_asm); (case k4 => exact N9'); (case k5 => k_asm); (case kK => first | exact rfl | assumption); (case kG => assumption); (case kd => ktr_room); (case ku => ktr_units))
      case len => have := wi.length; omega
      rintro v n5 h5' tk5 F11 N11 ⟨p', rfl, rfl, hp', hq1, hq2⟩
      simp only [Int.toNat_natCast] at hq1 hq2
      have hcnt' := count_left ok hi (by assumption) pm hp' hq1 hq2
      obtain rfl : p' = p := by omega
      subst hR
      clear N9 N9'
      replace N11 := news_unrow N11
      have rI : OffL I (tl4 ++ news) := by
        have a0 : OffL I tb' := fun p hp => ho p (.tail _ (.tail _ (.tail _ (.tail _ (.tail _ (List.mem_append_left _ hp))))))
        have a1 : OffL I tl2 := AddrG.off hg2 a0 (by simp)
        have a2 : OffL I tl3 := AddrG.off hg3 a1 (by simp)
        have a3 : OffL I tl4 := AddrG.off hg4 a2 (by simp)
        exact q I (by omega) a3
      k_sweep
      (try (with_reducible show wpAny _ _ _ _ _ _)); (try k_fold)
      k_steps
      have tget' : ts.getD (i : Int).toNat 0 = stu S d i := by rw [Int.toNat_natCast]; exact tget
      have hidx : ts.getD (i : Int).toNat 0 = (p' : Int) := by rw [tget']; omega
      have hsq := sqr_eq S d i
      have hnl : nw.length = i := by simpa using pm.length_eq
      have hnl2 : vd.length = i := hvl.2.2.2
      (with_reducible show wpAny _ _ (call (Value.builtin _) [Value.ref _, Value.int _ _, _]) _ _ _)
      k_dflt (refine' kl_insert (its := vd.toArray) (n := ed) (l := vd.take p' ++ .int i t :: vd.drop p') ?F ?N ?f ?e ?U ?z ?_; (case F => k_asm); (case N => k_asm); (case f => (rw [hidx]; exact fits_small (by omega))); (case e => (rw [hidx]; exact kl_ins_at (by show p' ≤ vd.length; omega))); (case U => exact Upd.tail (by k_ne) (.tail (by k_ne) (.tail (by k_ne) (.head (by intro x hx; rcases List.mem_cons.mp hx with rfl | hx; (· k_ne); rcases List.mem_cons.mp hx with rfl | hx; (· k_ne); exact q3 x hx))))); (case z => (show vd.length ≤ sizeLine; simp only [sizeLine_eq]; omega)))
      intro h6 F12 N12
      k_sweep
      (try (with_reducible show wpAny _ _ _ _ _ _)); (try k_fold)
      k_steps
      all_goals try (exfalso; omega)
      show FEnd _ _ _ _ _ _ _ _ _ _
      rename Fr _ _ _ _ => F13
      rename News _ _ _ _ => N13
      refine' ⟨⟨_, _, _, _, nw.take p' ++ (i : Int) :: nw.drop p', _, _, _, _, sah S d (i + 1), _, tl4, some (.int (sq S d i) tq), some (.int (sr S d i) tr), some (.int p' _)⟩, _, _, _, rfl, F13, ?hm2, N13, ?offI, ⟨ri2, hts ▸ ti2, IntsAre.ins wi p' i _, IntsAre.ins di p' i _, range_perm pm p', ?so, rfl, hT4, ?ag⟩, r1, r2, r3, r4⟩
      case so =>
        rw [ins_map]
        simp only [Int.toNat_natCast]
        exact ins_pw so (fun k hk => Int.le_of_lt (hq1 k hk)) hq2
      case ag =>
        have hL : ∀ x ∈ tl ++ news, @LT.lt Nat _ x.1 Rr := fun x hx => Nat.lt_trans (l1 x hx) (by omega)
        refine AddrG.chain (q := (Rr, _)) (AddrG.chain (q := (Rr, _)) (AddrG.chain (q := (Rr, _)) ag hg2 (.tail _ (.head _)) hL) hg3 (.tail _ (.head _)) hL) hg4 (.tail _ (.head _)) hL
      case offI => exact .cons (by k_ne) (.cons (by k_ne) (.cons (by k_ne) (.cons (by k_ne) (.cons (by k_ne) rI))))
      case hm2 =>
        intro y hy
        dsimp only
        by_cases c0 : y = Str.ofString "ahead"
        · rw [c0]; exact rfl
        · skip
          by_cases c1 : y = Str.ofString "quotient"
          · rw [c1]; exact rfl
          · skip
            by_cases c2 : y = Str.ofString "rest"
            · rw [c2]; exact rfl
            · skip
              by_cases c3 : y = Str.ofString "counted"
              · rw [c3]; exact rfl
              · skip
                by_cases c4 : y = Str.ofString "turned"
                · rw [c4]; exact rfl
                · skip
                  by_cases c5 : y = Str.ofString "due"
                  · rw [c5]; exact rfl
                  · skip
                    by_cases c6 : y = Str.ofString "row"
                    · rw [c6]; exact rfl
                    · skip
                      by_cases c7 : y = Str.ofString "step"
                      · rw [c7]; exact rfl
                      · skip
                        by_cases c8 : y = Str.ofString "divisor"
                        · rw [c8]; exact rfl
                        · skip
                          by_cases c9 : y = Str.ofString "count"
                          · rw [c9]; exact rfl
                          · skip
                            simp only [if_neg c0, if_neg c1, if_neg c2, if_neg c3, if_neg c4, if_neg c5, if_neg c6, if_neg c7, if_neg c8, if_neg c9, if_neg hy]
  case done =>
    rintro ⟨vr, er, vw, ew, nw, vd, ed, vt, et, ah, ta, tb', v1, v2, v3⟩ u h tk ⟨J, o1, o2, o3, o4⟩ F5 N5
    obtain ⟨ri, ti, wi, di, pm, so, eah, tab, ag⟩ := J
    dsimp only at F5 N5 o1 o2 o3 o4 ri ti wi di pm so eah tab ag
    clear N3 F4
    obtain ⟨rs, hrs⟩ : ∃ rs, rs = (List.range n).map (sr S d) := ⟨_, rfl⟩
    rw [← hrs] at ri
    have rlen : rs.length = n := by rw [hrs]; simp
    obtain ⟨us, hus⟩ : ∃ us, us = (List.range n).map (stu S d) := ⟨_, rfl⟩
    rw [← hus] at ti
    have ulen : us.length = n := by rw [hus]; simp
    have vtlen : vt.length ≤ 12 := by rw [ti.length, ulen]; omega
    (try (with_reducible show wpAny _ _ _ _ _ _)); (try k_fold)
    k_steps
    unfold Stop
    have e1 : rs.getD 1 0 = sr S d 1 := by rw [hrs]; exact sr_getD (by omega)
    have hok : EuOk 9 d (rs.getD 1 0) := e1 ▸ ok.eok
    replace N5 := news_tab5 N5
    obtain ⟨o108, m108⟩ : ∃ o, ((108 : Nat), o) ∈ tl := by
      obtain ⟨_, _, _, _, rfl, _⟩ := hT
      exact ⟨_, .tail _ (.tail _ (.head _))⟩
    have l108 : @LT.lt Nat _ 108 L' := l1 _ (List.mem_append_left _ m108)
    have hil : ∀ o2 o3 o4 o5, HiL ((Rr, o2) :: (Rw, o3) :: (Rd, o4) :: (Rt, o5) :: (L' + 1, ocl) :: news) := fun o2 o3 o4 o5 p hp => by
      simp only [List.mem_cons] at hp
      rcases hp with rfl | rfl | rfl | rfl | rfl | hp
      · exact HiL.gt (by dsimp only; omega)
      · exact HiL.gt (by dsimp only; omega)
      · exact HiL.gt (by dsimp only; omega)
      · exact HiL.gt (by dsimp only; omega)
      · exact HiL.gt (by dsimp only; omega)
      · exact hN p hp
    obtain ⟨XB, TB, D, T0⟩ := PK
    obtain ⟨D'⟩ := PD
    k_dflt (refine' ctrs_use ?k1 ?k2 ?k3 ?k4 ?k5 ?kK ?kG ?XB ?TB ?D ?T0 (law_euclid w tb' _ tab (hil _ _ _ _) d _ _ _ hok) ?kd ?ku ?_; (case k1 => exact B'); (case k2 => k_asm); (case k3 => exact X'); (case k4 => exact N5); (case k5 => exact T'); (case kK => first | exact rfl | assumption); (case kG => assumption); (case XB => exact XB); (case TB => exact TB); (case D => exact D'); (case T0 => exact KtsTurn.refl); (case kd => ktr_room); (case ku => ktr_units))
    rintro v n3 h3 tk3 g3 T3 F6 N6 B6 X6 TP6 D6 ⟨De, ve, ee, tl2, rfl, rfl, hT2, hg2, hE⟩
    have PK := Pack4.mk XB TB D T0
    have PD := Pack1.mk (And.intro D6 T3)
    clear XB TB D T0 D' B' X' T' FG' D6 T3
    have N7 := news_untab5 N6
    clear N5 N6
    (try k_lift B6)
    (try (with_reducible show wpAny _ _ _ _ _ _)); (try k_fold)
    k_sweep
    (try (with_reducible show wpAny _ _ _ _ _ _)); (try k_fold)
    k_steps
    unfold Stop
    replace hE : IntsAre ve (eu 9 d (rs.getD 1 0)) := hE
    rw [e1] at hE
    generalize hqs : eu 9 d (sr S d 1) = qs at hE
    have hts : SideOk S d n := ok
    k_dflt (refine' ctr_use ?k1 ?k2 ?k3 ?k4 ?k5 ?kK ?kG (law_turned w _ De ve ee qs (.head _) hE (hqs ▸ eu_len 9 _ _) (hqs ▸ ok.qsm)) ?kd ?ku ?_; (case k1 => k_asm); (case k2 => k_asm); (case k3 => k_asm); (case k4 => exact N7); (case k5 => k_asm); (case kK => first | exact rfl | assumption); (case kG => assumption); (case kd => ktr_room); (case ku => ktr_units))
    rintro v n4 h4' tk4 F8 N8 ⟨Dt, t1, t2, rfl, rfl⟩
    clear N7
    obtain ⟨bpos, ble⟩ := ok.bpos
    have bfirst := ok.first
    have bfour := ok.four
    rw [hqs] at bpos ble bfirst bfour
    rw [← hus] at bfour
    generalize tsOf qs = ts at bpos ble bfirst bfour N8
    obtain ⟨be, hbe⟩ : ∃ be, be = ts.be := ⟨_, rfl⟩
    obtain ⟨fo, hfo⟩ : ∃ fo, fo = tsFour ts := ⟨_, rfl⟩
    rw [← hbe] at bpos ble bfirst bfour N8
    rw [← hfo] at bfour N8
    clear hbe hfo
    have k5 : IntMulOk 4 (us.take be.toNat).sum := mulok4 _
    have bsign : 0 ≤ be := by omega
    k_sweep
    (try (with_reducible show wpAny _ _ _ _ _ _)); (try k_fold)
    k_steps
    unfold Stop
    k_dflt (refine LCt.ListComp_T (F₀ := by k_asm) (by with_unfolding_all rfl) (by decide) (by rfl) (by decide) (by rfl) ?_)
    (try (with_reducible show wpAny _ _ _ _ _ _)); (try k_fold)
    k_steps
    unfold Stop
    rename IsRange _ _ _ _ _ _ _ _ => IR2
    rename Fr _ _ _ _ => F9
    rename News _ _ _ _ => N9
    refine led_all N9 ?_
    intro nl hnl N10
    refine LCt.CompSrcT.range (n := n - 1) (by rfl) F9 N10 IR2 ?sm ?sz (Nat.le_trans (show n - 1 ≤ 12 by omega) (by size_fits)) ?_
    case sm => exact (range1_nice n (by omega) (by omega)).1
    case sz => exact (range1_nice n (by omega) (by omega)).2
    intro g9
    (try dsimp only)
    refine compT_st (n := n - 1) (fun i ys l => l = nl ∧ IntsAre ys (zer S d i)) ?tr ?fin (n - 1) 0 [] nl (by omega) ⟨rfl, .nil⟩
    case tr =>
      rintro i ys l v I oI C oC D m₂ h9 tk9 E' hi ⟨rfl, hys⟩ ⟨tv, rfl⟩ hC hx F11 N11 off ne
      rw [hnl] at N11
      (try (with_reducible show wpAny _ _ _ _ _ _)); (try k_fold)
      have hir : (1 + i : Int) < rs.length := by omega
      have hir0 : (0 : Int) ≤ 1 + i := by omega
      have hg : rs.getD (1 + (i : Int)).toNat 0 = sr S d (1 + i) := by
        rw [show (1 + (i : Int)).toNat = 1 + i by omega, hrs]
        exact sr_getD (by omega)
      (try (with_reducible show wpAny _ _ _ _ _ _)); (try k_fold)
      k_steps
      · unfold Stop
        have h0 : sr S d (1 + i) = 0 := by omega
        rename News _ _ _ _ => N12
        refine LCg.CompEnd.intro (by assumption) N12 l (fun p hp => hnl ▸ hp) off trivial ⟨rfl, ?_⟩
        rw [zer_yes h0]
        exact hys.append (.cons _ _ .nil)
      · unfold Stop
        have h0 : ¬ sr S d (1 + i) = 0 := by omega
        rename News _ _ _ _ => N12
        refine LCg.CompEnd.intro (by assumption) N12 l (fun p hp => hnl ▸ hp) off trivial ⟨rfl, ?_⟩
        rw [zer_no h0]
        exact hys
    case fin =>
      rintro ys l ⟨rfl, hys⟩
      subst hnl
      obtain ⟨zs, hzs⟩ : ∃ zs, zs = zer S d (n - 1) := ⟨_, rfl⟩
      rw [← hzs] at hys
      have zlen : zs.length ≤ 12 := by
        have := zer_len S d (n - 1)
        rw [hzs]; omega
      have zfst : zs.take 1 = [be] := by
        rw [hzs]
        unfold zer
        rw [← List.map_take]
        exact bfirst
      clear hzs
      have ylen : ys.length ≤ 12 := by rw [hys.length]; exact zlen
      (try (with_reducible show wpAny _ _ _ _ _ _)); (try k_fold)
      k_steps
      unfold Stop
      k_dflt (refine' newList_K ?k1 ?k2 ?_; (case k1 => k_asm); (case k2 => k_asm))
      intro Db h2 F2 N2 l2
      k_lt l2
      k_sweep
      rename IntsAre _ (List.take _ _) => hws
      rw [zfst] at hws
      obtain ⟨tb1, hw1⟩ := ints_one hws
      subst hw1
      (try (with_reducible show wpAny _ _ _ _ _ _)); (try k_fold)
      k_steps
      rename News _ _ _ _ => N12
      rename Fr _ _ _ _ => F12
      have hb : (4 * (us.take be.toNat).sum == fo) = true := by rw [bfour]; exact beq_self_eq_true _
      have hag : AddrG (tl ++ news) tl tl2 := AddrG.chain (q := (Rr, _)) ag hg2 (.head _) (fun x hx => Nat.lt_trans (l1 x hx) (by omega))
      refine leaveS_r F12 N12 PD.a.2 ?_
      intro h0' T9 F13 N13 B9 X9 TP9 D9
      (try dsimp only at F13 N13 ⊢)
      refine hret _ (tl2 ++ news) _ _ _ T9 F13 (news_sub N13 (fun p hp => ?_)) B9 X9 TP9 D9 ⟨tl2, congrArg Value.bool hb, rfl, hT2, hag⟩
      simp only [List.mem_cons, List.mem_append] at hp ⊢
      rcases hp with h1 | h1 <;> simp [h1]
end
section
open PySem PySem.W PySem.Spec PySem.Calls PyProof.Rows
set_option maxRecDepth 100000
set_option maxHeartbeats 8000000
/-- the walker as it is ahead of a head -/
theorem walker_anew_P13 : True := by
  w_top off
  exact True.intro
local macro_rules | `(tactic| walk_at "pad 0") => `(tactic| fail "pad")
local macro_rules | `(tactic| walk_at "pad 1") => `(tactic| fail "pad")
local macro_rules | `(tactic| walk_at "pad 2") => `(tactic| fail "pad")
local macro_rules | `(tactic| walk_at "call ref") => `(tactic| (k_here; refine stop ?_))
local macro_rules | `(tactic| walk_at "exec Assign cons ListComp") => `(tactic| (k_here; refine stop ?_))
local macro_rules | `(tactic| walk_at "eval ListComp") => `(tactic| (k_here; refine stop ?_))
local macro_rules | `(tactic| walk_at "CompSrc") => `(tactic| (k_here; refine stop ?_))
local macro_rules | `(tactic| walk_at "CompEnd") => `(tactic| (k_here; refine stop ?_))
theorem ints_cons {vs : List Value} {x : Int} {ns : List Int} (h : IntsAre vs (x :: ns)) : ∃ t ws, vs = Value.int x t :: ws ∧ IntsAre ws ns := by
  cases h with
  | cons _ t h => exact ⟨t, _, rfl, h⟩
theorem ints_five {vs : List Value} {ns : List Int} (h : IntsAre vs ns) (hl : ns.length = 5) : ∃ c0 c1 c2 c3 c4 t0 t1 t2 t3 t4, vs = [Value.int c0 t0, Value.int c1 t1, Value.int c2 t2, Value.int c3 t3, Value.int c4 t4] := by
  match ns, hl with
  | [c0, c1, c2, c3, c4], _ =>
    obtain ⟨t0, w0, e0, h0⟩ := ints_cons h
    obtain ⟨t1, w1, e1, h1⟩ := ints_cons h0
    obtain ⟨t2, w2, e2, h2⟩ := ints_cons h1
    obtain ⟨t3, w3, e3, h3⟩ := ints_cons h2
    obtain ⟨t4, w4, e4, h4⟩ := ints_cons h3
    cases h4
    subst e4 e3 e2 e1 e0
    exact ⟨c0, c1, c2, c3, c4, t0, t1, t2, t3, t4, rfl⟩
theorem pow_bits (n : Nat) : Builtin.Int.intBits ((2 : Int) ^ n) ≤ n + 1 := by
  refine bits_le ?_
  rw [Int.natAbs_pow]
  exact Nat.pow_lt_pow_right (by decide) (by omega)
theorem bits_add {a b : Int} {n : Nat} (ha : Builtin.Int.intBits a ≤ n) (hb : Builtin.Int.intBits b ≤ n) : Builtin.Int.intBits (a + b) ≤ n + 1 := by
  have h1 := intBits_le_iff.mp ha
  have h2 := intBits_le_iff.mp hb
  refine bits_le ?_
  have := Int.natAbs_add_le a b
  rw [Nat.pow_succ]
  omega
theorem bits_small {a : Int} (h : a.natAbs < 2 ^ 60) : Builtin.Int.intBits a ≤ 60 := bits_le h
/-- the products of the law's own -/
structure LawOk (b w p u : Int) (far : Nat) : Prop where
  kD : IntMulOk b w
  kE : IntMulOk (b * w + p) u
  kF : IntMulOk b u
  kG : IntMulOk (-b) u
theorem law_ok {b w p u : Int} {far : Nat} (hf : far < 4200) (hb : b.natAbs < 2 ^ 60) (hw : Builtin.Int.intBits w ≤ 4300) (hp : p.natAbs < 2 ^ 60) (hu : Builtin.Int.intBits u ≤ 4300) : LawOk b w p u far := by
  have h1 := mul_bits (m := 60) hb hw
  have h2 := bits_add (b := p) (Nat.le_trans h1 (show 60 + 4300 ≤ 4400 by omega)) (Nat.le_trans (bits_small hp) (by omega))
  exact ⟨mulok_l hb hw (by omega), mulok_b h2 hu (by omega) (by omega), mulok_l hb hu (by omega), mulok_l (by omega) hu (by omega)⟩
theorem law_sideI (w : World) {loose : List Str} {mean : ExcName → Option Value} {mg mb : Str → Option Value} (tl news : List (Addr × Obj)) (hT : TabsL tl) (hN : HiL news) (S d : Int) (n : Nat) (nI : Int) (tS td tn : Tok) (e : nI = (n : Int)) (hb : SideBits S d n) (ok : SideOk S d n) :
    Cts w loose mean mg mb 111 300 4500 (tl ++ news) [.int S tS, .int d td, .int nI tn] (fun v n' => ∃ tl', v = .bool true ∧ n' = tl' ++ news ∧ TabsL tl' ∧ AddrG (tl ++ news) tl tl') := e ▸ law_side w tl news hT hN S d n tS td tn hb ok
theorem cell_says {o : Obj} {x : Option Value} {v : Value} (h : o.data = .cell x) (e : x = some v) : o.data = .cell (some v) := h.trans (congrArg Data.cell e)
local macro_rules | `(tactic| walk_at "binaryOp Mult int int") => `(tactic| (k_here; refine mul_int ?_ (by assumption)))
local macro_rules | `(tactic| walk_at "subscriptTail Name Constant ref int") => `(tactic| (k_here; (with_reducible show wpAny _ _ (subscriptTail _ _ (Value.ref _) (Value.int _ _)) _ _ _); (with_unfolding_all refine' item_litK ?k1 ?k2 ?k3 ?k4 ?_ ?k6; (case k1 => is_list); (case k2 => decide); (case k3 => decide); (case k4 => rfl); (case k6 => with_unfolding_all rfl); k_whole)))
local macro_rules | `(tactic| walk_at "binaryOp Pow int int") => `(tactic| (k_here; refine pow_int_small (by omega) (by omega) (by decide) ?_))
local macro_rules | `(tactic| walk_at "binaryOp FloorDiv int int") => `(tactic| (k_here; refine floordiv_v _ (by decide) (by decide) ?_))
local macro_rules | `(tactic| walk_at "binaryOp Mod int int") => `(tactic| (k_here; refine mod_v _ (by decide) ?_))
theorem law_top : PySem.Challenge.rw_ph0156_02.Holds := by
  refine hd2 ?_
  k_go0
  (all_goals try k_fold)
  rename _ = Data.cell _ => dsc
  replace dsc := cell_says dsc (show _ = some (Value.ref _) from rfl)
  rename Fr _ _ _ _ => F0
  refine fr_gen F0 ?_
  intro m1 hm1 F1
  clear hm1 F0
  (try (with_reducible show wpAny _ _ _ _ _ _)); (try k_fold)
  k_steps
  unfold Stop
  rename Heap.IsList _ _ _ => isl
  rename IntsAre _ _ => iin
  k_dflt (refine LCg.Assign_ListComp_U (F₀ := by k_asm) (by rfl) (by with_unfolding_all rfl) (by with_unfolding_all rfl) (by decide) (by rfl) (by decide) (by rfl) (by rfl) (by rfl) ?_)
  (try (with_reducible show wpAny _ _ _ _ _ _)); (try k_fold)
  k_steps
  unfold Stop
  rename IsRange _ _ _ _ _ _ _ _ => IR
  rename Fr _ _ _ _ => FL
  rename News _ _ _ _ => NL
  rename List Int => sc
  rename ¬ (_ < _) => hcnd
  have l64 : sc.length < 64 := by omega
  refine led_all NL ?_
  intro nl hnl NL'
  refine LCg.CompSrc.range (n := 5) (by rfl) FL NL' IR (by rfl) (by rfl) (by decide) ?_
  intro g9
  (try dsimp only)
  refine compU_st (n := 5) (fun i ys l => l = nl ∧ ys.length = i ∧ ∃ ns, IntsAre ys ns) ?tr ?fin 5 0 [] nl rfl ⟨rfl, rfl, [], .nil⟩
  case tr =>
    rintro i ys l v I oI C oC D m₂ h9 tk9 E' hi ⟨rfl, hyl, ns, hys⟩ ⟨tv, rfl⟩ hC hx F11 N11 off ne
    clear IR FL NL NL'
    rw [hnl] at N11
    simp only [Int.zero_add] at hx
    (try (with_reducible show wpAny _ _ _ _ _ _)); (try k_fold)
    k_steps
    unfold Stop
    k_dflt (refine comp_step (F₀ := by k_asm) (by with_unfolding_all rfl) (by decide) (by rfl) (by decide) (by rfl) ?_)
    (try (with_reducible show wpAny _ _ _ _ _ _)); (try k_fold)
    k_steps
    rename IsRange _ _ _ _ _ _ _ _ => IR
    rename Fr _ _ _ _ => FL
    rename News _ _ _ _ => NL
    obtain ⟨hsm, n5, h64, hn5, hlt5⟩ := rng5 i hi sc.length l64
    refine led_all NL ?_
    intro nl2 hnl2 NL2
    refine ⟨_, _, _, _, _, _, _, n5, nl2, rfl, by rfl, FL, NL2, IR, hsm, hn5, Nat.le_trans (Nat.le_of_lt h64) (by decide), ?_⟩
    intro g8
    (try dsimp only)
    refine compU_st (n := n5) (fun j ws l => l = nl2 ∧ ∃ ms, IntsAre ws ms ∧ ws.length ≤ j) ?tr2 ?fin2 n5 0 [] nl2 (by omega) ⟨rfl, [], .nil, Nat.le_refl _⟩
    case tr2 =>
      rintro j ws l2 v2 I2 oI2 C2 oC2 D2 m3 h8 tk8 E8 hj ⟨rfl, ms, hms, hwl⟩ ⟨tv2, rfl⟩ hC2 hx2 F12 N12 off2 ne2
      clear IR FL NL NL2
      rw [hnl2] at N12
      have q1 := hlt5 j hj
      have q2 : (0 : Int) ≤ i + j * 5 := by omega
      (try (with_reducible show wpAny _ _ _ _ _ _)); (try k_fold)
      k_steps
      unfold Stop
      rename News _ _ _ _ => N13
      exact LCg.CompEnd.intro (by assumption) N13 l2 (fun p hp => hnl2 ▸ hp) off2 trivial ⟨rfl, _, hms.append (.cons _ _ .nil), by simp; omega⟩
    case fin2 =>
      rintro ws l2 ⟨rfl, ms, hms, hwl⟩
      clear IR FL NL NL2
      rw [hnl2]
      have mlen : ms.length ≤ 64 := by rw [← hms.length]; omega
      (try (with_reducible show wpAny _ _ _ _ _ _)); (try k_fold)
      k_steps
      unfold Stop
      rename News _ _ _ _ => N13
      exact LCg.CompEnd.intro (by assumption) N13 l (fun p hp => by rw [hnl] at hp; simp only [List.mem_cons, List.not_mem_nil, or_false] at hp ⊢; rcases hp with h1 | h1 | h1 | h1 | h1 | h1 | h1 <;> simp [h1]) off trivial ⟨rfl, by simp [hyl], _, hys.append (.cons _ _ .nil)⟩
  case fin =>
    rintro ys l ⟨rfl, hyl, ns, hys⟩
    clear IR FL NL NL'
    rw [hnl]
    have nlen : ns.length = 5 := by rw [← hys.length]; exact hyl
    obtain ⟨c0, c1, c2, c3, c4, t0, t1, t2, t3, t4, rfl⟩ := ints_five hys nlen
    clear hys hyl nlen
    have hfar : ((4178 + c2) % 4200).toNat < 4200 := by omega
    have hP := two_pow_pos ((4178 + c2) % 4200).toNat
    have hpb := pow_bits ((4178 + c2) % 4200).toNat
    have kA : IntMulOk (2 + c3 % 5) (2 ^ ((4178 + c2) % 4200).toNat) := mulok_l (by omega) hpb (by omega)
    have kB : IntMulOk 2 (c3 / 5 % 2) := mulok_l (by omega) (bits_small (by omega)) (by omega)
    have kC : IntMulOk ((1 + c4) % 7 - 3) (2 ^ ((4178 + c2) % 4200).toNat) := mulok_l (by omega) hpb (by omega)
    have bw := mul_bits (a := (1 + c4) % 7 - 3) (m := 60) (by omega) hpb
    have bu0 := mul_bits (a := 2 + c3 % 5) (m := 60) (by omega) hpb
    have bu1 := bits_add (b := 1) (Nat.le_trans bu0 (show _ ≤ 4265 by omega)) (Nat.le_trans (bits_small (by decide)) (by omega))
    have bu2 := bits_add (b := -(2 * (c3 / 5 % 2))) bu1 (Nat.le_trans (bits_small (by omega)) (by omega))
    rw [← Int.sub_eq_add_neg] at bu2
    obtain ⟨kD, kE, kF, kG⟩ := law_ok (b := 1 + (4 + c0) % 9) (w := ((1 + c4) % 7 - 3) * 2 ^ ((4178 + c2) % 4200).toNat) (p := (42 + c1) % 81 - 40) (u := (2 + c3 % 5) * 2 ^ ((4178 + c2) % 4200).toNat + 1 - 2 * (c3 / 5 % 2)) hfar (by omega) (Nat.le_trans bw (by omega)) (by omega) (Nat.le_trans bu2 (by omega))
    clear bw bu0 bu1 bu2 hpb
    (try (with_reducible show wpAny _ _ _ _ _ _)); (try k_fold)
    k_steps
    unfold Stop
    rename News _ _ _ _ => N14
    rename Fr _ _ _ _ => F14
    have ht0 : TabsL [(30, tabObj #[]), (37, tabObj #[]), (108, tabObj #[])] := ⟨#[], #[], #[], [], rfl, TabOk.nil, TabOk.nil, TabOk.nil, fun _ h => nomatch h⟩
    have N15 := news_sub (news' := [(30, tabObj #[]), (37, tabObj #[]), (108, tabObj #[])] ++ []) N14 (fun p hp => by simp only [List.mem_cons, List.not_mem_nil, or_false, List.append_nil] at hp ⊢; rcases hp with h1 | h1 | h1 <;> simp [h1])
    obtain ⟨B, hB⟩ := Int.eq_ofNat_of_zero_le (show (0 : Int) ≤ 1 + (4 + c0) % 9 by omega)
    obtain ⟨far, hfe⟩ : ∃ far, far = ((4178 + c2) % 4200).toNat := ⟨_, rfl⟩
    rw [← hfe] at hP hfar
    have hu1 : (2 : Int) ^ far ≤ (2 + c3 % 5) * 2 ^ far + 1 - 2 * (c3 / 5 % 2) := by
      have := Int.mul_le_mul_of_nonneg_right (show (2 : Int) ≤ 2 + c3 % 5 by omega) (Int.le_of_lt hP)
      omega
    have hu2 : (2 + c3 % 5) * 2 ^ far + 1 - 2 * (c3 / 5 % 2) ≤ 7 * 2 ^ far := by
      have := Int.mul_le_mul_of_nonneg_right (show 2 + c3 % 5 ≤ (6 : Int) by omega) (Int.le_of_lt hP)
      omega
    have hw : (((1 + c4) % 7 - 3) * 2 ^ far).natAbs ≤ 3 * 2 ^ far := by
      rw [Int.natAbs_mul, Int.natAbs_pow]
      exact Nat.mul_le_mul (by omega) (Nat.le_refl _)
    obtain ⟨ok1, ok2⟩ := side_both (p := (42 + c1) % 81 - 40) hfar hu1 hu2 hw (by omega) (show 1 ≤ B by omega) (show B ≤ 9 by omega)
    obtain ⟨_, b0, b1, b2, b3⟩ := sb_all (p := (42 + c1) % 81 - 40) hfar hu1 hu2 hw (by omega) (show 1 ≤ B by omega) (show B ≤ 9 by omega)
    have d0 : (B : Int) * ((2 + c3 % 5) * 2 ^ far + 1 - 2 * (c3 / 5 % 2)) ≠ 0 := Int.mul_ne_zero (by omega) (by omega)
    have sb1 : SideBits ((B * (((1 + c4) % 7 - 3) * 2 ^ far) + ((42 + c1) % 81 - 40)) * ((2 + c3 % 5) * 2 ^ far + 1 - 2 * (c3 / 5 % 2))) (B * ((2 + c3 % 5) * 2 ^ far + 1 - 2 * (c3 / 5 % 2))) (B + 3) := ⟨d0, b1, b2, b3, by omega, by omega⟩
    have sb2 : SideBits ((B * (((1 + c4) % 7 - 3) * 2 ^ far) + ((42 + c1) % 81 - 40)) * ((2 + c3 % 5) * 2 ^ far + 1 - 2 * (c3 / 5 % 2))) (-(B : Int) * ((2 + c3 % 5) * 2 ^ far + 1 - 2 * (c3 / 5 % 2))) (B + 3) := by
      rw [Int.neg_mul]
      exact ⟨by omega, by rw [bits_neg]; exact b1, b2, by rw [bits_neg]; exact b3, by omega, by omega⟩
    rw [← hB, hfe] at sb1 ok1 sb2 ok2
    k_dflt (refine' ctrs_top ?k1 ?k2 ?k3 ?k4 ?k5 ?kK ?kG (law_sideI _ _ [] ht0 (fun _ h => nomatch h) _ _ (B + 3) _ _ _ _ (by omega) sb1 ok1) ?kd ?ku ?_; (case k1 => assumption); (case k2 => exact F14); (case k3 => assumption); (case k4 => exact N15); (case k5 => assumption); (case kK => exact rfl); (case kG => exact ⟨by assumption, by assumption, by assumption⟩); (case kd => ktr_room); (case ku => ktr_units))
    rintro v n3 h3 tk3 F16 N16 ⟨tl2, rfl, rfl, hT2, hg2⟩
    clear N15 F14 N14
    k_sweep
    (try (with_reducible show wpAny _ _ _ _ _ _)); (try k_fold)
    k_steps
    unfold Stop
    rename News _ _ _ _ => N17
    rename Fr _ _ _ _ => F17
    k_dflt (refine' ctrs_top ?k1 ?k2 ?k3 ?k4 ?k5 ?kK ?kG (law_sideI _ tl2 [] hT2 (fun _ h => nomatch h) _ _ (B + 3) _ _ _ _ (by omega) sb2 ok2) ?kd ?ku ?_; (case k1 => assumption); (case k2 => exact F17); (case k3 => assumption); (case k4 => exact N17); (case k5 => assumption); (case kK => exact rfl); (case kG => exact ⟨by assumption, by assumption, by assumption⟩); (case kd => ktr_room); (case ku => ktr_units))
    rintro v n4 h4 tk4 F18 N18 ⟨tl3, rfl, rfl, hT3, hg3⟩
    clear N17 F17
    obtain ⟨ps1, ps2, ps3, cs, rfl, _⟩ := hT3
    rename _ = (#[] : Array GenState) => hgens
    refine ⟨goodW_bool F18 hgens (fun cls => rfl) ?post, GrownAt.of N18 (.tail _ (.head _)), GrownAt.of N18 (.head _), GrownAt.of N18 (.tail _ (.tail _ (.head _))), True.intro⟩
    case post =>
      refine postW_of (by wrow_shape) (w_eq_bool (w_res rfl) w_lit) ?_
      first | rfl | decide | simp
end
end Mine
end
set_option maxRecDepth 100000 in
set_option maxHeartbeats 8000000 in
theorem PySem.Challenge.cw_ph0156_02_holds : PySem.Challenge.rw_ph0156_02.Holds := by
  exact Mine.law_top
