import PyProof.Rows.All
import Wide.All
import OpenK.AllK
import Wide.FinOn
import PySem.Challenge.RW_aa5010_01
set_option Elab.async false
set_option linter.all false
open PySem PySem.W PyProof.Rows
namespace Mine
set_option maxRecDepth 100000
set_option maxHeartbeats 8000000
section
open_top hd for PySem.Challenge.rw_aa5010_01
end
section

def isqN : Nat → Nat
  | 0 => 0
  | n + 1 => let r := isqN n; if (r + 1) * (r + 1) ≤ n + 1 then r + 1 else r
theorem isqN_spec (n : Nat) : isqN n * isqN n ≤ n ∧ n < (isqN n + 1) * (isqN n + 1) := by
  induction n with
  | zero => simp [isqN]
  | succ n ih =>
    simp only [isqN]
    split
    · rename_i h
      refine ⟨h, ?_⟩
      have h2 := ih.2
      grind
    · rename_i h
      exact ⟨by omega, by omega⟩
def isqF (x : Int) : Int := (isqN x.toNat : Int)
theorem isqF_spec {x : Int} (h : 0 ≤ x) : 0 ≤ isqF x ∧ isqF x * isqF x ≤ x ∧ x < (isqF x + 1) * (isqF x + 1) := by
  have := isqN_spec x.toNat
  unfold isqF
  refine ⟨by omega, ?_, ?_⟩
  · have h1 : ((isqN x.toNat * isqN x.toNat : Nat) : Int) ≤ (x.toNat : Int) := by exact_mod_cast this.1
    rw [Int.natCast_mul] at h1
    omega
  · have h1 : (x.toNat : Int) < (((isqN x.toNat + 1) * (isqN x.toNat + 1) : Nat) : Int) := by exact_mod_cast this.2
    rw [Int.natCast_mul] at h1
    simp only [Int.natCast_add, Int.cast_ofNat_Int] at h1
    omega
theorem isq_unique {x r : Int} (h0 : 0 ≤ r) (h1 : r * r ≤ x) (h2 : x < (r + 1) * (r + 1)) : r = isqF x := by
  have hx : 0 ≤ x := Int.le_trans (Int.mul_nonneg h0 h0) h1
  obtain ⟨a, b, c⟩ := isqF_spec hx
  generalize isqF x = q at *
  rcases Int.lt_trichotomy r q with h | h | h
  · have : (r + 1) * (r + 1) ≤ q * q := Int.mul_le_mul (by omega) (by omega) (by omega) (by omega)
    omega
  · exact h
  · have : (q + 1) * (q + 1) ≤ r * r := Int.mul_le_mul (by omega) (by omega) (by omega) (by omega)
    omega
theorem newton_stop {x r y : Int} (h1 : 1 ≤ r) (hy : y = (r + x.fdiv r).fdiv 2) (h : r ≤ y) : r * r ≤ x := by
  subst hy
  rw [Int.fdiv_eq_ediv_of_nonneg _ (by omega), Int.fdiv_eq_ediv_of_nonneg _ (by omega)] at h
  have h3 : r ≤ x / r := by omega
  have := Int.mul_le_mul_of_nonneg_left h3 (show 0 ≤ r by omega)
  have h4 := Int.mul_ediv_self_le (x := x) (k := r) (by omega)
  omega
theorem newton_next {x r y : Int} (hx : 1 ≤ x) (h1 : 1 ≤ r) (hy : y = (r + x.fdiv r).fdiv 2) : 1 ≤ y ∧ x < (y + 1) * (y + 1) := by
  subst hy
  rw [Int.fdiv_eq_ediv_of_nonneg _ (by omega), Int.fdiv_eq_ediv_of_nonneg _ (by omega)]
  have hlt : x < r * (x / r) + r := by
    have := Int.lt_mul_ediv_self_add (x := x) (k := r) (by omega)
    omega
  have hq : 0 ≤ x / r := Int.ediv_nonneg (by omega) (by omega)
  have hq1 : x / r = 0 → r ≥ 2 := by
    intro h
    rw [h] at hlt
    omega
  generalize hqq : x / r = q at *
  refine ⟨by omega, ?_⟩
  generalize hyy : (r + q) / 2 = y
  have h2 : r + q + 1 ≤ 2 * (y + 1) := by omega
  have h3 : (r + q + 1) * (r + q + 1) ≤ (2 * (y + 1)) * (2 * (y + 1)) := Int.mul_le_mul h2 h2 (by omega) (by omega)
  have h5 : 0 ≤ (r - (q + 1)) * (r - (q + 1)) := by
    rcases Int.le_total 0 (r - (q+1)) with h | h
    · exact Int.mul_nonneg h h
    · exact Int.mul_nonneg_of_nonpos_of_nonpos h h
  grind
end
noncomputable abbrev LS : List Str := looseW hd.view_39
      [Str.ofString "round_fast", Str.ofString "fzero", Str.ofString "fnan", Str.ofString "finf", Str.ofString "fninf",
        Str.ofString "shifts_down", Str.ofString "from_man_exp", Str.ofString "from_int", Str.ofString "from_rational",
        Str.ofString "mpf_neg", Str.ofString "mpf_abs", Str.ofString "mpf_add", Str.ofString "mpf_mul",
        Str.ofString "mpf_mul_int", Str.ofString "mpf_div", Str.ofString "mpf_rdiv_int", Str.ofString "mpf_sqrt",
        Str.ofString "mpf_hypot"]
structure Sub (l l' : List (Addr × Obj)) : Prop where
  mem : ∀ p ∈ l, p ∈ l'
theorem Sub.refl (l : List (Addr × Obj)) : Sub l l := ⟨fun _ h => h⟩
theorem Sub.cons {l l' : List (Addr × Obj)} (x : Addr × Obj) (h : Sub l l') : Sub l (x :: l') := ⟨fun p hp => List.mem_cons_of_mem _ (h.mem p hp)⟩
theorem Sub.trans {l l' l'' : List (Addr × Obj)} (h : Sub l l') (h' : Sub l' l'') : Sub l l'' := ⟨fun p hp => h'.mem p (h.mem p hp)⟩
theorem Sub.get {l l' : List (Addr × Obj)} {x : Addr × Obj} (h : Sub l l') (hx : x ∈ l) : x ∈ l' := h.mem x hx
abbrev Ctr (w : World) (mean : ExcName → Option Value) (mg mb : Str → Option Value) (f : Addr) (k : Nat) (news : List (Addr × Obj)) (vs : List Value) (post : Value → List (Addr × Obj) → Prop) : Prop :=
  ∀ (dp un : Nat) (gd : Option (List Code)) (cn : Str) (cs : Scope) (a : Addr) (ccd : Value) (cl : List (Str × Addr)) (outer : List Env) (A₀ : Around) (base h₀ : Heap) (L : Addr) (m : Str → Option Value) (s : Shared) (Q E : Value → Shared → Prop),
    Below A₀ base outer h₀ → Fr h₀ L s.heap m → (hd.heap_39 w.params).In h₀ → News h₀ L s.heap news → Top hd.view_39 LS mean mg mb h₀ → cs.kind = .function →
    dp + k < recursionLimit → un + 8 * k < cLine →
    (∀ (r : Value) (news' : List (Addr × Obj)) (h' : Heap) (tk' : Nat), Fr h₀ L h' m → News h₀ L h' news' → Sub news news' → post r news' → Q r { s with heap := h', toks := tk' }) →
    wpAny (model PySem.Challenge.rw_aa5010_01.row.prog w) (ktrTop dp un gd cn cs L a ccd cl outer) (call (.ref f) vs) Q E s
section
variable {w : World} {mean : ExcName → Option Value} {mg mb : Str → Option Value} {f : Addr} {k : Nat} {news : List (Addr × Obj)} {vs : List Value}
  {dp un : Nat} {gd : Option (List Code)} {cn : Str} {cs : Scope} {a : Addr} {ccd : Value} {cl : List (Str × Addr)} {outer : List Env} {A₀ : Around} {base h₀ : Heap} {L : Addr} {m : Str → Option Value} {s : Shared} {Q E : Value → Shared → Prop}
theorem ctr_use {post : Value → List (Addr × Obj) → Prop} (C : Ctr w mean mg mb f k news vs post)
    (B : Below A₀ base outer h₀) (F : Fr h₀ L s.heap m) (X : (hd.heap_39 w.params).In h₀) (N : News h₀ L s.heap news) (T : Top hd.view_39 LS mean mg mb h₀) (hk : cs.kind = .function)
    (h1 : dp + k < recursionLimit) (h2 : un + 8 * k < cLine)
    (ret : ∀ (r : Value) (news' : List (Addr × Obj)) (h' : Heap) (tk' : Nat), Fr h₀ L h' m → News h₀ L h' news' → Sub news news' → post r news' → Q r { s with heap := h', toks := tk' }) :
    wpAny (model PySem.Challenge.rw_aa5010_01.row.prog w) (ktrTop dp un gd cn cs L a ccd cl outer) (call (.ref f) vs) Q E s := C _ _ _ _ _ _ _ _ _ _ _ _ _ _ _ _ _ B F X N T hk h1 h2 ret
theorem ctrI_use {v : Int} (C : Ctr w mean mg mb f k news vs (fun r _ => ∃ t, r = .int v t))
    (B : Below A₀ base outer h₀) (F : Fr h₀ L s.heap m) (X : (hd.heap_39 w.params).In h₀) (N : News h₀ L s.heap news) (T : Top hd.view_39 LS mean mg mb h₀) (hk : cs.kind = .function)
    (h1 : dp + k < recursionLimit) (h2 : un + 8 * k < cLine)
    (ret : ∀ (t : Tok) (h' : Heap) (tk' : Nat), Fr h₀ L h' m → News h₀ L h' news → Q (.int v t) { s with heap := h', toks := tk' }) :
    wpAny (model PySem.Challenge.rw_aa5010_01.row.prog w) (ktrTop dp un gd cn cs L a ccd cl outer) (call (.ref f) vs) Q E s :=
  C _ _ _ _ _ _ _ _ _ _ _ _ _ _ _ _ _ B F X N T hk h1 h2 fun r news' h' tk' F' N' S ⟨t, e⟩ => by
    subst e
    exact ret t h' tk' F' fun p hp => N' p (S.mem p hp)
theorem ctrB_use {v : Bool} (C : Ctr w mean mg mb f k news vs (fun r _ => r = .bool v))
    (B : Below A₀ base outer h₀) (F : Fr h₀ L s.heap m) (X : (hd.heap_39 w.params).In h₀) (N : News h₀ L s.heap news) (T : Top hd.view_39 LS mean mg mb h₀) (hk : cs.kind = .function)
    (h1 : dp + k < recursionLimit) (h2 : un + 8 * k < cLine)
    (ret : ∀ (h' : Heap) (tk' : Nat), Fr h₀ L h' m → News h₀ L h' news → Q (.bool v) { s with heap := h', toks := tk' }) :
    wpAny (model PySem.Challenge.rw_aa5010_01.row.prog w) (ktrTop dp un gd cn cs L a ccd cl outer) (call (.ref f) vs) Q E s :=
  C _ _ _ _ _ _ _ _ _ _ _ _ _ _ _ _ _ B F X N T hk h1 h2 fun r news' h' tk' F' N' S e => by
    subst e
    exact ret h' tk' F' fun p hp => N' p (S.mem p hp)
end
structure Mp where
  sign : Int
  man : Int
  exp : Int
  bc : Int
deriving DecidableEq
def Mp.zero : Mp := ⟨0, 0, 0, 0⟩
abbrev tup4 (s m e b : Int) (t1 t2 t3 t4 : Tok) (c : Nat) : Obj := { cls := .type "tuple", data := .seq #[.int s t1, .int m t2, .int e t3, .int b t4] c }
abbrev tup2 (s m : Int) (t1 t2 : Tok) (c : Nat) : Obj := { cls := .type "tuple", data := .seq #[.int s t1, .int m t2] c }
inductive MpIn (news : List (Addr × Obj)) : Value → Mp → Prop where
  | zero : MpIn news (.ref 56) Mp.zero
  | tup {a : Addr} {d : Mp} {t1 t2 t3 t4 : Tok} {c : Nat} (hn : d.man ≠ 0) (h : (a, tup4 d.sign d.man d.exp d.bc t1 t2 t3 t4 c) ∈ news) : MpIn news (.ref a) d
theorem MpIn.mono {news news' : List (Addr × Obj)} {v : Value} {d : Mp} (hs : Sub news news') (h : MpIn news v d) : MpIn news' v d := by
  cases h with
  | zero => exact .zero
  | tup hn h => exact .tup hn (hs.mem _ h)
theorem MpIn.cons {news : List (Addr × Obj)} {x : Addr × Obj} {v : Value} {d : Mp} (h : MpIn news v d) : MpIn (x :: news) v d := h.mono ⟨fun _ h => List.mem_cons_of_mem _ h⟩
theorem mpIn_of {news : List (Addr × Obj)} {a : Addr} {s m e b : Int} {t1 t2 t3 t4 : Tok} {c : Nat} {d : Mp} (h : (a, tup4 s m e b t1 t2 t3 t4 c) ∈ news) (hn : m ≠ 0) (hd : d = ⟨s, m, e, b⟩) : MpIn news (.ref a) d := by
  subst hd
  exact .tup hn h
theorem mpIn_zero {news : List (Addr × Obj)} {d : Mp} (hd : d = Mp.zero) : MpIn news (.ref 56) d := by
  subst hd
  exact .zero
inductive PrIn (news : List (Addr × Obj)) : Value → Int → Int → Prop where
  | tup {a : Addr} {x y : Int} {t1 t2 : Tok} {c : Nat} (h : (a, tup2 x y t1 t2 c) ∈ news) : PrIn news (.ref a) x y
theorem PrIn.mono {news news' : List (Addr × Obj)} {v : Value} {x y : Int} (hs : Sub news news') (h : PrIn news v x y) : PrIn news' v x y := by
  cases h with
  | tup h => exact .tup (hs.mem _ h)
theorem mpIn_of' {news : List (Addr × Obj)} {a : Addr} {s m e b : Int} {t1 t2 t3 t4 : Tok} {c : Nat} {d : Mp} (h : (a, tup4 s m e b t1 t2 t3 t4 c) ∈ news) (hd : d = ⟨s, m, e, b⟩) (hn : d.man ≠ 0) : MpIn news (.ref a) d := by
  subst hd
  exact .tup hn h
theorem via_int {M : Model} {A : Around} {E : Value → Shared → Prop} {s : Shared} {c : Sem Value} {Q : Value → Shared → Prop} (P : Int → Prop)
    (h1 : wpAny M A c (fun r s' => ∃ v t tk, r = .int v t ∧ s' = { s with toks := tk } ∧ P v) E s) (h2 : ∀ v t tk, P v → Q (.int v t) { s with toks := tk }) : wpAny M A c Q E s :=
  wpAny_mono h1 (fun r s' ⟨v, t, tk, e1, e2, hp⟩ => by subst e1; subst e2; exact h2 v t tk hp) fun _ _ h => h
structure Hid (P : Prop) : Prop where
  out : P
section
variable {prog : Program} {w : World} {A : Around} {E : Value → Shared → Prop} {s : Shared} {a b n : Int} {t u : Tok} {Q : Value → Shared → Prop}
theorem and_hid (h : ∀ v, Hid (v = Builtin.bitAnd a b) → Q (.int v s.toks) { s with toks := s.toks + 1 }) : wpAny (model prog w) A (binaryOp .BitAnd (.int a t) (.int b u)) Q E s := and_int (h _ ⟨rfl⟩)
theorem xor_hid (h : ∀ v, Hid (v = Builtin.bitXor a b) → Q (.int v s.toks) { s with toks := s.toks + 1 }) : wpAny (model prog w) A (binaryOp .BitXor (.int a t) (.int b u)) Q E s := xor_int (h _ ⟨rfl⟩)
theorem ixor_hid (h : ∀ v, Hid (v = Builtin.bitXor a b) → Q (.int v s.toks) { s with toks := s.toks + 1 }) : wpAny (model prog w) A (inplaceOp .BitXor (.int a t) (.int b u)) Q E s := ixor_int (h _ ⟨rfl⟩)
theorem fdiv_pow_bd (a : Int) (k : Nat) : a < 0 ∨ (0 ≤ a.fdiv (2 ^ k) ∧ a.fdiv (2 ^ k) ≤ a) := kbt_quot a k
theorem rshift_hid (hn : 0 ≤ n) (h : ∀ v, Hid (v = a.fdiv (2 ^ n.toNat)) → (a < 0 ∨ (0 ≤ v ∧ v ≤ a)) → Q (.int v s.toks) { s with toks := s.toks + 1 }) : wpAny (model prog w) A (binaryOp .RShift (.int a t) (.int n u)) Q E s := rshift_int hn (h _ ⟨rfl⟩ (fdiv_pow_bd _ _))
theorem irshift_hid (hn : 0 ≤ n) (h : ∀ v, Hid (v = a.fdiv (2 ^ n.toNat)) → (a < 0 ∨ (0 ≤ v ∧ v ≤ a)) → Q (.int v s.toks) { s with toks := s.toks + 1 }) : wpAny (model prog w) A (inplaceOp .RShift (.int a t) (.int n u)) Q E s := irshift_int hn (h _ ⟨rfl⟩ (fdiv_pow_bd _ _))
theorem shl_facts (a : Int) (j : Nat) : (Builtin.Int.intBits (a * 2 ^ j) ≤ Builtin.Int.intBits a + j) ∧ ((a < 0 ∧ a * 2 ^ j < 0) ∨ (a = 0 ∧ a * 2 ^ j = 0) ∨ (0 < a ∧ 0 < a * 2 ^ j ∧ a ≤ a * 2 ^ j)) := by
  refine ⟨?_, ?_⟩
  · refine intBits_le ?_
    have h2 := natAbs_lt_pow_bits a
    rw [Int.natAbs_mul]
    have : ((2 : Int) ^ j).natAbs = 2 ^ j := by rw [Int.natAbs_pow]; rfl
    rw [this, Nat.pow_add]
    exact Nat.mul_lt_mul_of_lt_of_le h2 (Nat.le_refl _) (Nat.two_pow_pos _)
  · have hp := kbt_pos j
    rcases Int.lt_trichotomy a 0 with h | h | h
    · exact .inl ⟨h, Int.mul_neg_of_neg_of_pos h hp⟩
    · subst h; right; left; simp
    · right; right
      have := Int.mul_le_mul_of_nonneg_left (show (1 : Int) ≤ 2 ^ j by omega) (Int.le_of_lt h)
      exact ⟨h, Int.mul_pos h hp, by omega⟩
def ShlFacts (a n v : Int) : Prop := ((Builtin.Int.intBits v : Int) ≤ Builtin.Int.intBits a + n) ∧ ((a < 0 ∧ v < 0) ∨ (a = 0 ∧ v = 0) ∨ (0 < a ∧ 0 < v ∧ a ≤ v))
theorem shl_of {a n : Int} (hn : 0 ≤ n) : ShlFacts a n (a * 2 ^ n.toNat) := by
  have h := shl_facts a n.toNat
  refine ⟨?_, h.2⟩
  have := h.1
  omega
theorem lshift_hid {m k : Nat} (hn : 0 ≤ n) (hm : Builtin.Int.intBits a ≤ m) (hk : n ≤ k) (hs : m + k ≤ 1000000) (h : ∀ v, Hid (v = a * 2 ^ n.toNat) → Builtin.Int.intBits v ≤ m + k → ((Builtin.Int.intBits v : Int) ≤ Builtin.Int.intBits a + n) → ((a < 0 ∧ v < 0) ∨ (a = 0 ∧ v = 0) ∨ (0 < a ∧ 0 < v ∧ a ≤ v)) → Q (.int v s.toks) { s with toks := s.toks + 1 }) : wpAny (model prog w) A (binaryOp .LShift (.int a t) (.int n u)) Q E s :=
  lshift_int hn (kbm_shl hm (by omega) (by omega)) (h _ ⟨rfl⟩ (by
    have := bits_mul (b := 2 ^ n.toNat) (n := k + 1) hm (by
      refine intBits_le ?_
      have : ((2 : Int) ^ n.toNat).natAbs = 2 ^ n.toNat := by rw [Int.natAbs_pow]; rfl
      rw [this]
      exact Nat.pow_lt_pow_right (by decide) (by omega))
    refine intBits_le ?_
    have h2 := natAbs_lt_pow_bits a
    rw [Int.natAbs_mul]
    have : ((2 : Int) ^ n.toNat).natAbs = 2 ^ n.toNat := by rw [Int.natAbs_pow]; rfl
    rw [this, Nat.pow_add]
    have h3 : a.natAbs < 2 ^ m := Nat.lt_of_lt_of_le h2 (Nat.pow_le_pow_right (by decide) hm)
    have h4 : 2 ^ n.toNat ≤ 2 ^ k := Nat.pow_le_pow_right (by decide) (by omega)
    exact Nat.mul_lt_mul_of_lt_of_le h3 h4 (Nat.two_pow_pos _)) (shl_of hn).1 (shl_of hn).2)
theorem ilshift_hid {m k : Nat} (hn : 0 ≤ n) (hm : Builtin.Int.intBits a ≤ m) (hk : n ≤ k) (hs : m + k ≤ 1000000) (h : ∀ v, Hid (v = a * 2 ^ n.toNat) → Builtin.Int.intBits v ≤ m + k → ((Builtin.Int.intBits v : Int) ≤ Builtin.Int.intBits a + n) → ((a < 0 ∧ v < 0) ∨ (a = 0 ∧ v = 0) ∨ (0 < a ∧ 0 < v ∧ a ≤ v)) → Q (.int v s.toks) { s with toks := s.toks + 1 }) : wpAny (model prog w) A (inplaceOp .LShift (.int a t) (.int n u)) Q E s :=
  ilshift_int hn (kbm_shl hm (by omega) (by omega)) (h _ ⟨rfl⟩ (by
    refine intBits_le ?_
    have h2 := natAbs_lt_pow_bits a
    rw [Int.natAbs_mul]
    have : ((2 : Int) ^ n.toNat).natAbs = 2 ^ n.toNat := by rw [Int.natAbs_pow]; rfl
    rw [this, Nat.pow_add]
    have h3 : a.natAbs < 2 ^ m := Nat.lt_of_lt_of_le h2 (Nat.pow_le_pow_right (by decide) hm)
    have h4 : 2 ^ n.toNat ≤ 2 ^ k := Nat.pow_le_pow_right (by decide) (by omega)
    exact Nat.mul_lt_mul_of_lt_of_le h3 h4 (Nat.two_pow_pos _)) (shl_of hn).1 (shl_of hn).2)
theorem mul_zero_iff (a b : Int) : (a ≠ 0 ∧ b ≠ 0 ∧ a * b ≠ 0) ∨ (a * b = 0 ∧ (a = 0 ∨ b = 0)) := by
  by_cases ha : a = 0
  · subst ha; right; simp
  · by_cases hb : b = 0
    · subst hb; right; simp
    · left; exact ⟨ha, hb, Int.mul_ne_zero ha hb⟩
theorem mul_nn (a b : Int) : a < 0 ∨ b < 0 ∨ 0 ≤ a * b := by
  by_cases ha : a < 0
  · exact .inl ha
  · by_cases hb : b < 0
    · exact .inr (.inl hb)
    · exact .inr (.inr (Int.mul_nonneg (by omega) (by omega)))
theorem mul_hid {m k : Nat} (hm : Builtin.Int.intBits a ≤ m) (hk : Builtin.Int.intBits b ≤ k) (hs : m + k ≤ 1000000) (h : ∀ v, Hid (v = a * b) → Builtin.Int.intBits v ≤ m + k → ((a ≠ 0 ∧ b ≠ 0 ∧ v ≠ 0) ∨ (v = 0 ∧ (a = 0 ∨ b = 0))) → (a < 0 ∨ b < 0 ∨ 0 ≤ v) → Q (.int v s.toks) { s with toks := s.toks + 1 }) : wpAny (model prog w) A (binaryOp .Mult (.int a t) (.int b u)) Q E s :=
  PyProof.Rows.mul_int (h _ ⟨rfl⟩ (bits_mul hm hk) (mul_zero_iff a b) (mul_nn a b)) (mulOk_of_bits hm hk (by omega))
theorem imul_hid {m k : Nat} (hm : Builtin.Int.intBits a ≤ m) (hk : Builtin.Int.intBits b ≤ k) (hs : m + k ≤ 1000000) (h : ∀ v, Hid (v = a * b) → Builtin.Int.intBits v ≤ m + k → ((a ≠ 0 ∧ b ≠ 0 ∧ v ≠ 0) ∨ (v = 0 ∧ (a = 0 ∨ b = 0))) → (a < 0 ∨ b < 0 ∨ 0 ≤ v) → Q (.int v s.toks) { s with toks := s.toks + 1 }) : wpAny (model prog w) A (inplaceOp .Mult (.int a t) (.int b u)) Q E s :=
  PyProof.Rows.imul_int (h _ ⟨rfl⟩ (bits_mul hm hk) (mul_zero_iff a b) (mul_nn a b)) (mulOk_of_bits hm hk (by omega))
end
theorem log_of_bits {y : Int} {k : Nat} (h : Builtin.Int.intBits y ≤ k) (hk : k ≤ 9000) : y.natAbs.log2 < 9000 := by
  unfold Builtin.Int.intBits at h
  by_cases hy : y = 0
  · subst hy; decide
  · rw [if_neg (by simpa using hy)] at h; omega
theorem mpIn_cast {news : List (Addr × Obj)} {v : Value} {d d' : Mp} (h : MpIn news v d) (e : d' = d) : MpIn news v d' := e ▸ h
theorem bits_succ (x : Int) : Builtin.Int.intBits (x + 1) ≤ Builtin.Int.intBits x + 1 := by
  have := bits_add (a := x) (b := 1) (Nat.le_refl (Builtin.Int.intBits x)) (show Builtin.Int.intBits 1 ≤ 1 by decide)
  by_cases h : x = 0
  · subst h; decide
  · have h1 : 1 ≤ Builtin.Int.intBits x := by unfold Builtin.Int.intBits; rw [if_neg (by simpa using h)]; omega
    omega
theorem bits_side {x : Int} (h : Builtin.Int.intBits x + 1 ≤ 1000) : ((Builtin.Int.intBits (x + 1) : Nat) : Int) ≤ 1000 := by
  have := bits_succ x
  omega
theorem bits_sideN {x : Int} {k : Nat} (h : Builtin.Int.intBits x + 1 ≤ k) : Builtin.Int.intBits (x + 1) ≤ k := by
  have := bits_succ x
  omega
theorem fdiv2 (x : Int) : x.fdiv 2 = x / 2 := Int.fdiv_eq_ediv_of_nonneg _ (by decide)
theorem fdiv2' (x : Int) : x.fdiv (2 ^ (1:Int).toNat) = x / 2 := Int.fdiv_eq_ediv_of_nonneg _ (by decide)
structure Bd (b : List (Str × Value)) (m : Str → Option Value) : Prop where
  out : ∀ y, List.lookup y b = m y
theorem Bd.nil {b : List (Str × Value)} (e : b = []) : Bd b (fun _ => none) := ⟨fun y => by rw [e]; rfl⟩
theorem Bd.cons {b r : List (Str × Value)} {k : String} {v : Value} {m : Str → Option Value} (e : b = (Str.ofString k, v) :: r) (h : Bd r m) : Bd b (fun y => if y = Str.ofString k then some v else m y) := ⟨fun y => by
  rw [e, List.lookup_cons, h.out y]
  by_cases hy : y = Str.ofString k
  · rw [if_pos hy, beq_iff_eq.mpr hy]
  · rw [if_neg hy, beq_eq_false_iff_ne.mpr hy]⟩
theorem fr_bd {g h : Heap} {L : Addr} {b : List (Str × Value)} {m : Str → Option Value} (F : Fr g L h (fun y => List.lookup y b)) (e : Bd b m) : Fr g L h m := by
  have : m = (fun y => List.lookup y b) := funext fun y => (e.out y).symm
  rw [this]; exact F
inductive Seen : (Str → Option Value) → Str → Value → Prop where
  | hit {x : Str} {v : Value} {m : Str → Option Value} : Seen (fun y => if y = x then some v else m y) x v
  | skip {a x : Str} {w : Option Value} {v : Value} {m : Str → Option Value} : Seen m x v → Seen (fun y => if y = a then w else m y) x v
def okN (cs : Scope) (x : Str) (k : NameKind) : Bool := cs.names.lookup x == some k && !(x == ("__debug__" : Str))
theorem okN_k {cs : Scope} {x : Str} {k : NameKind} (h : okN cs x k = true) : (cs.names.lookup x == some k) = true := (Bool.and_eq_true_iff.mp h).1
theorem okN_d {cs : Scope} {x : Str} {k : NameKind} (h : okN cs x k = true) : (x == ("__debug__" : Str)) = false := by
  have := (Bool.and_eq_true_iff.mp h).2
  simpa using this
theorem ldS {M : Model} {A : Around} {E : Value → Shared → Prop} {s : Shared} {h₀ : Heap} {L a : Addr} {m : Str → Option Value} {name : Str} {scope : Scope} {cd : Value} {x : Str} {pos : Pos} {Q : Value → Shared → Prop} {v : Value} (F : Fr h₀ L s.heap m) (_ : Seen m x v) (hv : m x = some v)
    (hl : okN scope x .local = true) (hk : scope.kind = .function) (h : Q v s) :
    wpAny M A (eval (.Name x pos) (envOf name scope L a cd)) Q E s := wpAny_Name (wpAny_loadName_local hk (kindOf_of_beq (okN_k hl)) F.ns hv h) (okN_d hl)
theorem ldT {M : Model} {A : Around} {E : Value → Shared → Prop} {s : Shared} {h₀ : Heap} {L a : Addr} {m : Str → Option Value} {name : Str} {scope : Scope} {cd : Value} {x : Str} {pos : Pos} {Q : Value → Shared → Prop} {v : Value} (F : Fr h₀ L s.heap m) (hv : m x = some v)
    (hl : okN scope x .local = true) (hk : scope.kind = .function) (h : Q v s) :
    wpAny M A (eval (.Name x pos) (envOf name scope L a cd)) Q E s := wpAny_Name (wpAny_loadName_local hk (kindOf_of_beq (okN_k hl)) F.ns hv h) (okN_d hl)
theorem name_KF {M : Model} {A : Around} {E : Value → Shared → Prop} {s : Shared} {K : Frag} {h₀ : Heap} {L a : Addr} {m mg mb : Str → Option Value} {cn : Str} {cs : Scope} {ccd : Value} {p : Program} {loose : List Str}
    {x : Str} {pos : Pos} {v : Value} {Q : Value → Shared → Prop} (F : Fr h₀ L s.heap m) (X : K.In h₀) (T : TopRead p loose mg mb h₀) (e : nsIn K mainGlobals x = some (some v))
    (hl : okN cs x .globalImplicit = true) (hk : cs.kind = .function) (h : Q v s) :
    wpAny M A (eval (.Name x pos) (envOf cn cs L a ccd)) Q E s := name_K F X T e h hk (kindOf_of_beq (okN_k hl)) (okN_d hl)
theorem name_BF {M : Model} {A : Around} {E : Value → Shared → Prop} {s : Shared} {K : Frag} {h₀ : Heap} {L a : Addr} {m mg mb : Str → Option Value} {cn : Str} {cs : Scope} {ccd : Value} {p : Program} {loose : List Str}
    {x : Str} {pos : Pos} {v : Value} {Q : Value → Shared → Prop} (F : Fr h₀ L s.heap m) (X : K.In h₀) (T : TopRead p loose mg mb h₀) (e : nsIn K mainGlobals x = some none) (hv : bootBuiltins x = some v)
    (hn : (okN cs x .globalImplicit && !(x == ("__name__" : Str))) = true) (hk : cs.kind = .function) (h : Q v s) :
    wpAny M A (eval (.Name x pos) (envOf cn cs L a ccd)) Q E s := by
  have hl := (Bool.and_eq_true_iff.mp hn).1
  have h2 := (Bool.and_eq_true_iff.mp hn).2
  exact name_B F X T e hv (by simpa using h2) h hk (kindOf_of_beq (okN_k hl)) (okN_d hl)
theorem store_KF {M : Model} {A : Around} {E : Value → Shared → Prop} {s : Shared} {h₀ : Heap} {L a : Addr} {m : Str → Option Value} {cn : Str} {cs : Scope} {ccd : Value} {news : List (Addr × Obj)} {x : Str} {v : Value} {Q : Unit → Shared → Prop}
    (F : Fr h₀ L s.heap m) (N : News h₀ L s.heap news) (hl : okN cs x .local = true) (hk : cs.kind = .function)
    (h : ∀ h', Fr h₀ L h' (fun y => if y = x then some v else m y) → News h₀ L h' news → Q () { s with heap := h', toks := s.toks + 1 }) :
    wpAny M A (storeName (envOf cn cs L a ccd) x v) Q E s :=
  wpAny_storeName_local (kindOf_of_beq (okN_k hl)) F.ns (fun h' hn hs => h h' (F.set hn hs) (N.set hs)) (by show (cs.kind == .class || (cs.kind == .module && L != mainGlobals)) = false; rw [hk]; rfl)
local macro_rules | `(tactic| bits_by_make) => `(tactic| with_reducible assumption)
local macro_rules | `(tactic| k_mem) => `(tactic| (refine Sub.get (by with_reducible assumption) ?_; k_mem))
local macro_rules | `(tactic| walk_at $s:str) => `(tactic| k_extra $s)
section
theorem su_C3_1 : True := by
  k_with_none
  k_with "my enter" => ((k_dflt (refine' code_def ?k1 ?k2 ?k3 ?k4 ?k5 ?kA ?kF ?kK ?k6 ?k7 ?k8 ?k9 ?kB ?_ ?c2 ?c3 ?c4 ?c5; (case kA => exact rfl); (case kF => exact rfl); (case kK => assumption); (case k1 => k_asm); (case k2 => k_asm); (case k3 => k_asm); (case k4 => k_asm); (case k5 => k_asm); (case k6 => k_is); (case k7 => k_is); (case k8 => ktr_room); (case k9 => first | exact BindsTo.of_eq rfl | exact binds_K (by k_in) rfl (by k_is) rfl rfl rfl); (case c5 => decide); (case kB => exact locs rfl); (case c2 => exact rfl); (case c3 => exact rfl); (case c4 => exact rfl); k_whole; intro g' L' h' FG' F' N' B' X' T'; (try dsimp only); (try k_lift B'); (try k_fold))))
  k_with "my start" => ((refine wpAny_call ?_; k_extra "my enter"; k_extra "my norm"))
  k_with "my steps" => (repeat' (first | (k_unfold; (try dsimp only)) | (k_end; wrow_close) | (law_purse 30000 => walk1) | (law_purse 30000 => (dsimp only; walk1)) | (leave1; try dsimp only) | fail "no step"))
  k_with "eval Subscript" => (k_extra "my cut")
  k_with "my omega" => (((try simp only [bne_iff_ne, beq_iff_eq, decide_eq_true_eq, ne_eq, Bool.not_eq_true', Bool.not_eq_false', beq_eq_false_iff_ne, bne_eq_false_iff_eq, decide_eq_false_iff_not]); omega))
  k_with "ite" => ((k_here; first | (refine ite_pos (by with_reducible assumption) ?_) | (refine ite_neg (by with_reducible assumption) ?_) | (refine ite_pos (by k_extra "my omega") ?_) | (refine ite_neg (by k_extra "my omega") ?_)))
  k_with "my arith" => (first | omega | decide | ((simp only [fdiv2, fdiv2', Int.reduceToNat, Int.toNat_one, Int.reducePow, Int.pow_one] at *); omega))
  k_with "binaryOp LShift int int" => ((k_here; (refine' lshift_hid (k := 5000) (by k_extra "my arith") (by bits_by_make) (by k_extra "my arith") (by decide) ?_); intro v9 hv9 hb9 hs9 hp9))
  k_with "inplaceOp LShift int int" => ((k_here; (refine' ilshift_hid (k := 5000) (by k_extra "my arith") (by bits_by_make) (by k_extra "my arith") (by decide) ?_); intro v9 hv9 hb9 hs9 hp9))
  k_with "binaryOp RShift int int" => ((k_here; (refine' rshift_hid (by k_extra "my arith") ?_); intro v9 hv9 hb9))
  k_with "inplaceOp RShift int int" => ((k_here; (refine' irshift_hid (by k_extra "my arith") ?_); intro v9 hv9 hb9))
  k_with "binaryOp BitAnd int int" => ((k_here; (refine' and_hid ?_); intro v9 hv9))
  k_with "binaryOp BitXor int int" => ((k_here; (refine' xor_hid ?_); intro v9 hv9))
  k_with "inplaceOp BitXor int int" => ((k_here; (refine' ixor_hid ?_); intro v9 hv9))
  k_with "binaryOp Mult int int" => ((k_here; (refine' mul_hid (by bits_by_make) (by bits_by_make) (by decide) ?_); intro v9 hv9 hb9 hz9 hn9))
  k_with "inplaceOp Mult int int" => ((k_here; (refine' imul_hid (by bits_by_make) (by bits_by_make) (by decide) ?_); intro v9 hv9 hb9 hz9 hn9))
  k_with "my open" => ((repeat ((rename Hid _ => hh9); (have hh9' := hh9.out); clear hh9; subst hh9')))
  k_with "binaryOp FloorDiv int int" => ((k_here; (refine' floordiv_int ?mb1 ?_ (Or.inl (PyProof.noPylong_of_log2 ?mb2))); (case mb1 => k_extra "my arith"); (case mb2 => (refine' log_of_bits ?mb3 ?mb4; (case mb3 => bits_by_make); (case mb4 => decide)))))
  k_with "exec" => ((k_here; (with_reducible show wpAny _ _ (PySem.exec (Stmt.While _ _ _ _) _) _ _ _); k_extra "my while"))
  k_with "my mp" => (first | with_reducible assumption | exact MpIn.zero | (refine MpIn.cons ?_; k_extra "my mp") | (refine MpIn.mono (by with_reducible assumption) ?_; k_extra "my mp"))
  k_with "my sub" => (first | with_reducible assumption | exact Sub.refl _ | (refine Sub.cons _ ?_; k_extra "my sub") | (refine Sub.trans ?_ (by with_reducible assumption); k_extra "my sub"))
  k_with "my side" => (first | with_reducible assumption | omega | bits_by_make)
  k_with "my side" => (first | ((with_reducible refine bits_side ?_); omega) | ((with_reducible refine bits_sideN ?_); omega))
  k_with "my I" => ((intro t9 h9 tk9 F9 N9; (try k_sweep); (try dsimp only); (try k_fold)))
  k_with "my M" => ((intro r9 n9 h9 tk9 F9 N9 S9 P9; (try k_sweep); (try dsimp only); (try k_fold)))
  k_with "my bd" => (first | (refine' Bd.cons ?be ?br; (case be => exact rfl); (case br => k_extra "my bd")) | exact Bd.nil rfl)
  k_with "my norm" => (((rename Fr _ _ _ _ => F9); (replace F9 := fr_bd F9 (by k_extra "my bd"))))
  k_with "my seen" => (first | exact Seen.hit | (refine' Seen.skip ?sk; (case sk => k_extra "my seen")))
  k_with "eval Name" => ((k_here; name_kind "globalImplicit"; k_dflt (refine' name_BF ?nb1 ?nb2 ?nb3 ?nb4 ?nb5 ?nb6 ?nb7 ?_; (case nb1 => k_asm); (case nb2 => k_asm); (case nb3 => k_asm); (case nb4 => k_is); (case nb5 => boot_by_name); (case nb6 => decide +kernel); (case nb7 => exact rfl); k_whole)))
  k_with "eval Name" => ((k_here; name_kind "globalImplicit"; k_dflt (refine' name_KF ?nk1 ?nk2 ?nk3 ?nk4 ?nk5 ?nk6 ?_; (case nk1 => k_asm); (case nk2 => k_asm); (case nk3 => k_asm); (case nk4 => k_is); (case nk5 => decide +kernel); (case nk6 => exact rfl); k_whole)))
  k_with "eval Name" => ((k_here; name_kind "local"; k_dflt (refine' ldT ?lk1 ?lk2 ?lk3 ?lk4 ?_; (case lk1 => k_asm); (case lk2 => exact rfl); (case lk3 => decide +kernel); (case lk4 => exact rfl); k_whole)))
  k_with "eval Name" => ((k_here; name_kind "local"; k_dflt (refine' ldS ?ls1 ?ls2 ?ls3 ?ls4 ?ls5 ?_; (case ls1 => k_asm); (case ls2 => with_reducible k_extra "my seen"); (case ls3 => kernel_rfl!); (case ls4 => decide +kernel); (case ls5 => exact rfl); k_whole)))
  k_with "storeName" => ((k_here; k_dflt (refine' store_KF ?st1 ?st2 ?st3 ?st4 ?_; (case st1 => k_asm); (case st2 => k_asm); (case st3 => decide +kernel); (case st4 => exact rfl); k_whole); intro h' F' N'; (try k_sweep)))
  k_with "ite" => ((k_closed; k_dflt (first | refine ite_pos (by decide) ?_ | refine ite_neg (by decide) ?_)))
  trivial
theorem newton_start {x : Int} (hx : 1 ≤ x) : (1 : Int) ≤ 1 * 2 ^ (((Builtin.Int.intBits x : Int) + 1).fdiv (2 ^ Int.toNat 1)).toNat ∧ x < (1 * 2 ^ (((Builtin.Int.intBits x : Int) + 1).fdiv (2 ^ Int.toNat 1)).toNat + 1) * (1 * 2 ^ (((Builtin.Int.intBits x : Int) + 1).fdiv (2 ^ Int.toNat 1)).toNat + 1) := by
  have h := natAbs_lt_pow_bits x
  rw [fdiv2', Int.one_mul]
  generalize hk : (((Builtin.Int.intBits x : Int) + 1) / 2).toNat = k
  have h2 : Builtin.Int.intBits x ≤ k + k := by omega
  have h3 : x.natAbs < 2 ^ (k + k) := Nat.lt_of_lt_of_le h (Nat.pow_le_pow_right (by decide) h2)
  rw [Nat.pow_add] at h3
  have h4 : x < (2 ^ k : Int) * 2 ^ k := by
    have : ((x.natAbs : Nat) : Int) < ((2 ^ k * 2 ^ k : Nat) : Int) := by exact_mod_cast h3
    rw [Int.natCast_mul, Int.natCast_pow] at this
    have h5 : ((2 : Nat) : Int) = 2 := rfl
    rw [h5] at this
    omega
  have h6 : (1 : Int) ≤ 2 ^ k := kbt_pos k
  refine ⟨h6, ?_⟩
  generalize (2 : Int) ^ k = u at *
  have : (u + 1) * (u + 1) = u * u + u + u + 1 := by grind
  omega
theorem bits_pow2 (k : Nat) : Builtin.Int.intBits ((2 : Int) ^ k) ≤ k + 1 := by
  refine intBits_le ?_
  have : ((2 : Int) ^ k).natAbs = 2 ^ k := by rw [Int.natAbs_pow]; rfl
  rw [this]
  exact Nat.pow_lt_pow_right (by decide) (by omega)
theorem newton_start' {x : Int} (hx : 1 ≤ x) (hs : Builtin.Int.intBits x ≤ 1000) : (1 : Int) ≤ 1 * 2 ^ (((Builtin.Int.intBits x : Int) + 1).fdiv (2 ^ Int.toNat 1)).toNat ∧ x < (1 * 2 ^ (((Builtin.Int.intBits x : Int) + 1).fdiv (2 ^ Int.toNat 1)).toNat + 1) * (1 * 2 ^ (((Builtin.Int.intBits x : Int) + 1).fdiv (2 ^ Int.toNat 1)).toNat + 1) ∧ Builtin.Int.intBits (1 * 2 ^ (((Builtin.Int.intBits x : Int) + 1).fdiv (2 ^ Int.toNat 1)).toNat) ≤ 1010 := by
  refine ⟨(newton_start hx).1, (newton_start hx).2, ?_⟩
  rw [fdiv2', Int.one_mul]
  have := bits_pow2 (((Builtin.Int.intBits x : Int) + 1) / 2).toNat
  omega
theorem newton_next' {x r y : Int} (hx : 1 ≤ x) (h1 : 1 ≤ r) (hb : Builtin.Int.intBits r ≤ 1010) (hy : y = (r + x.fdiv r).fdiv 2) (hlt : ¬ r ≤ y) : 1 ≤ y ∧ x < (y + 1) * (y + 1) ∧ Builtin.Int.intBits y ≤ 1010 := by
  have h := newton_next hx h1 hy
  exact ⟨h.1, h.2, bits_of_natAbs_le (by omega) hb⟩
theorem isq_end {x r : Int} (h1 : 1 ≤ r) (hlt : x < (r + 1) * (r + 1)) (h : r ≤ (r + x.fdiv r).fdiv (2 ^ Int.toNat 1)) : r = isqF x :=
  isq_unique (by omega) (newton_stop (x := x) h1 rfl (by rw [fdiv2'] at h; rw [fdiv2]; exact h)) hlt
theorem c_isqrt_small {w : World} {mean : ExcName → Option Value} {mg mb : Str → Option Value} (news : List (Addr × Obj)) (x : Int) (tx : Tok) (hx : 1 ≤ x) (hsz : Builtin.Int.intBits x ≤ 1000):
    Ctr w mean mg mb 28 1 news [.int x tx] (fun r _ => ∃ t, r = .int (isqF x) t) := by
  unfold Ctr
  k_fill
  intro dp un gd cn cs a ccd cl outer A₀ base h₀ L m s Q E B F X N T hk hdp hun hret
  refine wpAny_call ?_
  k_extra "my enter"
  (k_with "my while" => k_while (fun _ r => 1 ≤ r ∧ x < (r + 1) * (r + 1) ∧ Builtin.Int.intBits r ≤ 1010) (fun _ r => r.toNat) "r")
  (k_with "state" => (k_extra "my open"); first | exact newton_start' hx hsz | exact newton_next' hx (by assumption) (by assumption) (by simp only [fdiv2', fdiv2]) (by first | assumption | omega))
  k_steps
  k_extra "my open"
  exact hret _ _ _ _ (by assumption) (by assumption) (Sub.refl _) ⟨_, congrArg (Value.int · _) (isq_end (by assumption) (by assumption) (by assumption))⟩
end
section
theorem su_C4_1 : True := by
  k_with_none
  k_with "my enter" => ((k_dflt (refine' code_def ?k1 ?k2 ?k3 ?k4 ?k5 ?kA ?kF ?kK ?k6 ?k7 ?k8 ?k9 ?kB ?_ ?c2 ?c3 ?c4 ?c5; (case kA => exact rfl); (case kF => exact rfl); (case kK => assumption); (case k1 => k_asm); (case k2 => k_asm); (case k3 => k_asm); (case k4 => k_asm); (case k5 => k_asm); (case k6 => k_is); (case k7 => k_is); (case k8 => ktr_room); (case k9 => first | exact BindsTo.of_eq rfl | exact binds_K (by k_in) rfl (by k_is) rfl rfl rfl); (case c5 => decide); (case kB => exact locs rfl); (case c2 => exact rfl); (case c3 => exact rfl); (case c4 => exact rfl); k_whole; intro g' L' h' FG' F' N' B' X' T'; (try dsimp only); (try k_lift B'); (try k_fold))))
  k_with "my start" => ((refine wpAny_call ?_; k_extra "my enter"; k_extra "my norm"))
  k_with "my steps" => (repeat' (first | (k_unfold; (try dsimp only)) | (k_end; wrow_close) | (law_purse 30000 => walk1) | (law_purse 30000 => (dsimp only; walk1)) | (leave1; try dsimp only) | fail "no step"))
  k_with "eval Subscript" => (k_extra "my cut")
  k_with "my omega" => (((try simp only [bne_iff_ne, beq_iff_eq, decide_eq_true_eq, ne_eq, Bool.not_eq_true', Bool.not_eq_false', beq_eq_false_iff_ne, bne_eq_false_iff_eq, decide_eq_false_iff_not]); omega))
  k_with "ite" => ((k_here; first | (refine ite_pos (by with_reducible assumption) ?_) | (refine ite_neg (by with_reducible assumption) ?_) | (refine ite_pos (by k_extra "my omega") ?_) | (refine ite_neg (by k_extra "my omega") ?_)))
  k_with "my arith" => (first | omega | decide | ((simp only [fdiv2, fdiv2', Int.reduceToNat, Int.toNat_one, Int.reducePow, Int.pow_one] at *); omega))
  k_with "binaryOp LShift int int" => ((k_here; (refine' lshift_hid (k := 5000) (by k_extra "my arith") (by bits_by_make) (by k_extra "my arith") (by decide) ?_); intro v9 hv9 hb9 hs9 hp9))
  k_with "inplaceOp LShift int int" => ((k_here; (refine' ilshift_hid (k := 5000) (by k_extra "my arith") (by bits_by_make) (by k_extra "my arith") (by decide) ?_); intro v9 hv9 hb9 hs9 hp9))
  k_with "binaryOp RShift int int" => ((k_here; (refine' rshift_hid (by k_extra "my arith") ?_); intro v9 hv9 hb9))
  k_with "inplaceOp RShift int int" => ((k_here; (refine' irshift_hid (by k_extra "my arith") ?_); intro v9 hv9 hb9))
  k_with "binaryOp BitAnd int int" => ((k_here; (refine' and_hid ?_); intro v9 hv9))
  k_with "binaryOp BitXor int int" => ((k_here; (refine' xor_hid ?_); intro v9 hv9))
  k_with "inplaceOp BitXor int int" => ((k_here; (refine' ixor_hid ?_); intro v9 hv9))
  k_with "binaryOp Mult int int" => ((k_here; (refine' mul_hid (by bits_by_make) (by bits_by_make) (by decide) ?_); intro v9 hv9 hb9 hz9 hn9))
  k_with "inplaceOp Mult int int" => ((k_here; (refine' imul_hid (by bits_by_make) (by bits_by_make) (by decide) ?_); intro v9 hv9 hb9 hz9 hn9))
  k_with "my open" => ((repeat ((rename Hid _ => hh9); (have hh9' := hh9.out); clear hh9; subst hh9')))
  k_with "binaryOp FloorDiv int int" => ((k_here; (refine' floordiv_int ?mb1 ?_ (Or.inl (PyProof.noPylong_of_log2 ?mb2))); (case mb1 => k_extra "my arith"); (case mb2 => (refine' log_of_bits ?mb3 ?mb4; (case mb3 => bits_by_make); (case mb4 => decide)))))
  k_with "exec" => ((k_here; (with_reducible show wpAny _ _ (PySem.exec (Stmt.While _ _ _ _) _) _ _ _); k_extra "my while"))
  k_with "my mp" => (first | with_reducible assumption | exact MpIn.zero | (refine MpIn.cons ?_; k_extra "my mp") | (refine MpIn.mono (by with_reducible assumption) ?_; k_extra "my mp"))
  k_with "my sub" => (first | with_reducible assumption | exact Sub.refl _ | (refine Sub.cons _ ?_; k_extra "my sub") | (refine Sub.trans ?_ (by with_reducible assumption); k_extra "my sub"))
  k_with "my side" => (first | with_reducible assumption | omega | bits_by_make)
  k_with "my side" => (first | ((with_reducible refine bits_side ?_); omega) | ((with_reducible refine bits_sideN ?_); omega))
  k_with "my I" => ((intro t9 h9 tk9 F9 N9; (try k_sweep); (try dsimp only); (try k_fold)))
  k_with "my M" => ((intro r9 n9 h9 tk9 F9 N9 S9 P9; (try k_sweep); (try dsimp only); (try k_fold)))
  k_with "my bd" => (first | (refine' Bd.cons ?be ?br; (case be => exact rfl); (case br => k_extra "my bd")) | exact Bd.nil rfl)
  k_with "my norm" => (((rename Fr _ _ _ _ => F9); (replace F9 := fr_bd F9 (by k_extra "my bd"))))
  k_with "my seen" => (first | exact Seen.hit | (refine' Seen.skip ?sk; (case sk => k_extra "my seen")))
  k_with "eval Name" => ((k_here; name_kind "globalImplicit"; k_dflt (refine' name_BF ?nb1 ?nb2 ?nb3 ?nb4 ?nb5 ?nb6 ?nb7 ?_; (case nb1 => k_asm); (case nb2 => k_asm); (case nb3 => k_asm); (case nb4 => k_is); (case nb5 => boot_by_name); (case nb6 => decide +kernel); (case nb7 => exact rfl); k_whole)))
  k_with "eval Name" => ((k_here; name_kind "globalImplicit"; k_dflt (refine' name_KF ?nk1 ?nk2 ?nk3 ?nk4 ?nk5 ?nk6 ?_; (case nk1 => k_asm); (case nk2 => k_asm); (case nk3 => k_asm); (case nk4 => k_is); (case nk5 => decide +kernel); (case nk6 => exact rfl); k_whole)))
  k_with "eval Name" => ((k_here; name_kind "local"; k_dflt (refine' ldT ?lk1 ?lk2 ?lk3 ?lk4 ?_; (case lk1 => k_asm); (case lk2 => exact rfl); (case lk3 => decide +kernel); (case lk4 => exact rfl); k_whole)))
  k_with "eval Name" => ((k_here; name_kind "local"; k_dflt (refine' ldS ?ls1 ?ls2 ?ls3 ?ls4 ?ls5 ?_; (case ls1 => k_asm); (case ls2 => with_reducible k_extra "my seen"); (case ls3 => kernel_rfl!); (case ls4 => decide +kernel); (case ls5 => exact rfl); k_whole)))
  k_with "storeName" => ((k_here; k_dflt (refine' store_KF ?st1 ?st2 ?st3 ?st4 ?_; (case st1 => k_asm); (case st2 => k_asm); (case st3 => decide +kernel); (case st4 => exact rfl); k_whole); intro h' F' N'; (try k_sweep)))
  k_with "ite" => ((k_closed; k_dflt (first | refine ite_pos (by decide) ?_ | refine ite_neg (by decide) ?_)))
  trivial
def tzF (n : Int) : Int := if n = 0 then 0 else (Builtin.Int.intBits (Builtin.bitAnd n (-n)) : Int) - 1
theorem c_trailing {w : World} {mean : ExcName → Option Value} {mg mb : Str → Option Value} (news : List (Addr × Obj)) (n : Int) (tn : Tok) :
    Ctr w mean mg mb 21 1 news [.int n tn] (fun r _ => ∃ t, r = .int (tzF n) t) := by
  unfold Ctr
  k_fill
  intro dp un gd cn cs a ccd cl outer A₀ base h₀ L m s Q E B F X N T hk hdp hun hret
  k_extra "my start"
  k_steps
  · k_extra "my open"; exact hret _ _ _ _ (by assumption) (by assumption) (Sub.refl _) ⟨_, congrArg (Value.int · _) (if_neg (by assumption)).symm⟩
  · k_extra "my open"; exact hret _ _ _ _ (by assumption) (by assumption) (Sub.refl _) ⟨_, congrArg (Value.int · _) (if_pos (by assumption)).symm⟩
theorem odd_part (n : Nat) : ∀ x : Int, x.natAbs ≤ n → x ≠ 0 → ∃ (k : Nat) (a : Int), x = 2 ^ k * (2 * a + 1) := by
  induction n with
  | zero => intro x h h0; omega
  | succ n ih =>
    intro x h h0
    by_cases h2 : x % 2 = 0
    · obtain ⟨k, a, e⟩ := ih (x / 2) (by omega) (by omega)
      refine ⟨k + 1, a, ?_⟩
      have : x = 2 * (x / 2) := by omega
      rw [this, e, Int.pow_succ]
      grind
    · exact ⟨0, x / 2, by rw [Int.pow_zero]; omega⟩
theorem intBits_pow (k : Nat) : Builtin.Int.intBits ((2 : Int) ^ k) = k + 1 := by
  have e : ((2 : Int) ^ k).natAbs = 2 ^ k := by rw [Int.natAbs_pow]; rfl
  unfold Builtin.Int.intBits
  have h := kbt_pos k
  rw [if_neg (by simpa using Int.ne_of_gt h), e, Nat.log2_two_pow]
theorem tz_spec {n : Int} (h : n ≠ 0) : ∃ (k : Nat) (a : Int), n = 2 ^ k * (2 * a + 1) ∧ tzF n = k := by
  obtain ⟨k, a, e⟩ := odd_part _ n (Nat.le_refl _) h
  refine ⟨k, a, e, ?_⟩
  unfold tzF
  rw [if_neg h, e, kbt_low, intBits_pow]
  omega
theorem tz_nonneg (n : Int) : 0 ≤ tzF n := by
  by_cases h : n = 0
  · subst h; decide
  · obtain ⟨k, a, _, e⟩ := tz_spec h
    omega
section
variable {w : World} {mean : ExcName → Option Value} {mg mb : Str → Option Value} {news : List (Addr × Obj)}
  {dp un : Nat} {gd : Option (List Code)} {cn : Str} {cs : Scope} {a : Addr} {ccd : Value} {cl : List (Str × Addr)} {outer : List Env} {A₀ : Around} {base h₀ : Heap} {L : Addr} {m : Str → Option Value} {s : Shared} {Q E : Value → Shared → Prop}
theorem trailing_use {n : Int} {tn : Tok} (B : Below A₀ base outer h₀) (F : Fr h₀ L s.heap m) (X : (hd.heap_39 w.params).In h₀) (N : News h₀ L s.heap news) (T : Top hd.view_39 LS mean mg mb h₀) (hk : cs.kind = .function)
    (h1 : dp + 1 < recursionLimit) (h2 : un + 8 * 1 < cLine)
    (ret : ∀ (t : Tok) (h' : Heap) (tk' : Nat), 0 ≤ tzF n → Fr h₀ L h' m → News h₀ L h' news → Q (.int (tzF n) t) { s with heap := h', toks := tk' }) :
    wpAny (model PySem.Challenge.rw_aa5010_01.row.prog w) (ktrTop dp un gd cn cs L a ccd cl outer) (call (.ref 21) [.int n tn]) Q E s := ctrI_use (c_trailing news n tn) B F X N T hk h1 h2 fun t h' tk' => ret t h' tk' (tz_nonneg n)
end
theorem su_C4_2 : True := by
  k_with "call ref" => ((k_here; (with_reducible show wpAny _ _ (call (Value.ref 28) _) _ _ _); k_dflt (refine ctrI_use (c_isqrt_small _ _ _ (by k_extra "my side") (by k_extra "my side")) (by k_asm) (by k_asm) (by k_asm) (by k_asm) (by k_asm) (by first | exact rfl | assumption) (by ktr_room) (by ktr_units) ?_); k_extra "my I"))
  trivial
theorem c_sqrtrem {w : World} {mean : ExcName → Option Value} {mg mb : Str → Option Value} (news : List (Addr × Obj)) (x : Int) (tx : Tok) (hx : 1 ≤ x) (hsz : Builtin.Int.intBits x ≤ 1000):
    Ctr w mean mg mb 35 2 news [.int x tx] (fun r n' => PrIn n' r (isqF x) (x - isqF x * isqF x)) := by
  have hq : Builtin.Int.intBits (isqF x) ≤ 1000 := bits_of_natAbs_le (b := x) (by
    obtain ⟨h1, h2, h3⟩ := isqF_spec (x := x) (by omega)
    rcases Int.lt_or_le (isqF x) 1 with h | h
    · omega
    · have := Int.mul_le_mul_of_nonneg_left h h1
      omega) hsz
  unfold Ctr
  k_fill
  intro dp un gd cn cs a ccd cl outer A₀ base h₀ L m s Q E B F X N T hk hdp hun hret
  k_extra "my start"
  k_steps
  k_extra "my open"
  exact hret _ _ _ _ (by assumption) (by assumption) (by k_extra "my sub") (.tup (by k_mem))
end
section
inductive Way where
  | n | f | c | d | u
deriving DecidableEq
def Way.str : Way → Str
  | .n => Str.ofString "n"
  | .f => Str.ofString "f"
  | .c => Str.ofString "c"
  | .d => Str.ofString "d"
  | .u => Str.ofString "u"
def wayDn : Way → Int → Bool
  | .f, s => s == 0
  | .c, s => s != 0
  | .d, _ => true
  | _, _ => false
def rmF (w : Way) (sign man n : Int) : Int :=
  match w with
  | .n =>
    if Builtin.bitAnd (man.fdiv (2 ^ (n - 1).toNat)) 1 = 0 then (man.fdiv (2 ^ (n - 1).toNat)).fdiv (2 ^ (1 : Int).toNat)
    else if Builtin.bitAnd (man.fdiv (2 ^ (n - 1).toNat)) 2 = 0 then
      (if Builtin.bitAnd man (1 * 2 ^ (n - 1).toNat - 1) = 0 then (man.fdiv (2 ^ (n - 1).toNat)).fdiv (2 ^ (1 : Int).toNat) else (man.fdiv (2 ^ (n - 1).toNat)).fdiv (2 ^ (1 : Int).toNat) + 1)
    else (man.fdiv (2 ^ (n - 1).toNat)).fdiv (2 ^ (1 : Int).toNat) + 1
  | w => if wayDn w sign = true then man.fdiv (2 ^ n.toNat) else -((-man).fdiv (2 ^ n.toNat))
def stripF (sign man exp bc : Int) : Mp :=
  if Builtin.bitAnd man 1 = 0 then
    (if man.fdiv (2 ^ (tzF man).toNat) = 1 then ⟨sign, man.fdiv (2 ^ (tzF man).toNat), exp + tzF man, 1⟩ else ⟨sign, man.fdiv (2 ^ (tzF man).toNat), exp + tzF man, bc - tzF man⟩)
  else (if man = 1 then ⟨sign, man, exp, 1⟩ else ⟨sign, man, exp, bc⟩)
def normF (w : Way) (sign man exp bc prec : Int) : Mp :=
  if man = 0 then Mp.zero
  else if 0 < bc - prec then stripF sign (rmF w sign man (bc - prec)) (exp + (bc - prec)) prec
  else stripF sign man exp bc
end
section
def rdF (w : Way) (s : Int) (M : Int) (k : Nat) : Int :=
  match w with
  | .n => if 2 * (M % 2 ^ k) < 2 ^ k ∨ (2 * (M % 2 ^ k) = 2 ^ k ∧ (M / 2 ^ k) % 2 = 0) then M / 2 ^ k else M / 2 ^ k + 1
  | w => if wayDn w s = true then M / 2 ^ k else if M % 2 ^ k = 0 then M / 2 ^ k else M / 2 ^ k + 1
theorem p2pos (k : Nat) : (0 : Int) < 2 ^ k := kbt_pos k
theorem p2ne (k : Nat) : (2 : Int) ^ k ≠ 0 := Int.ne_of_gt (kbt_pos k)
theorem fdivp (M : Int) (k : Nat) : M.fdiv (2 ^ k) = M / 2 ^ k := Int.fdiv_eq_ediv_of_nonneg _ (Int.le_of_lt (p2pos k))
theorem emod_b (M : Int) (k : Nat) : 0 ≤ M % 2 ^ k ∧ M % 2 ^ k < 2 ^ k := ⟨Int.emod_nonneg _ (p2ne k), Int.emod_lt_of_pos _ (p2pos k)⟩
theorem div_mod (M : Int) (k : Nat) : M = 2 ^ k * (M / 2 ^ k) + M % 2 ^ k := (Int.mul_ediv_add_emod M (2 ^ k)).symm
theorem div_eq {M q r : Int} {k : Nat} (e : M = 2 ^ k * q + r) (h0 : 0 ≤ r) (h1 : r < 2 ^ k) : M / 2 ^ k = q ∧ M % 2 ^ k = r := kbt_unique (p2pos k) (by omega) h0 h1
theorem half_split (M : Int) (j : Nat) : ∃ b : Int, (b = 0 ∨ b = 1) ∧ (M / 2 ^ j) % 2 = b ∧ (M / 2 ^ j) / 2 = M / 2 ^ (j + 1) ∧ M % 2 ^ (j + 1) = 2 ^ j * b + M % 2 ^ j := by
  have h1 := div_mod M j
  have h2 := emod_b M j
  have hp := p2pos j
  generalize hq : M / 2 ^ j = t at *
  generalize hr : M % 2 ^ j = ρ at *
  refine ⟨t % 2, by omega, rfl, ?_⟩
  have hs : (2 : Int) ^ (j + 1) = 2 * 2 ^ j := by rw [Int.pow_succ, Int.mul_comm]
  have ht : t = 2 * (t / 2) + t % 2 := by omega
  have key := div_eq (M := M) (q := t / 2) (r := 2 ^ j * (t % 2) + ρ) (k := j + 1) (by
    rw [hs, h1]
    have : (2 : Int) ^ j * t = 2 ^ j * (2 * (t / 2) + t % 2) := by rw [← ht]
    rw [this]
    grind) (by
      have : (0 : Int) ≤ 2 ^ j * (t % 2) := Int.mul_nonneg (Int.le_of_lt hp) (by omega)
      omega) (by
      rw [hs]
      rcases (show t % 2 = 0 ∨ t % 2 = 1 by omega) with h | h <;> rw [h] <;> omega)
  exact ⟨key.1.symm, key.2⟩
theorem rmF_eq (w : Way) (s : Int) {M : Int} {k : Nat} (hk : 1 ≤ k) : rmF w s M (k : Int) = rdF w s M k := by
  have other : ∀ w' : Way, w' ≠ .n → (if wayDn w' s = true then M.fdiv (2 ^ (k : Int).toNat) else -((-M).fdiv (2 ^ (k : Int).toNat))) = (if wayDn w' s = true then M / 2 ^ k else if M % 2 ^ k = 0 then M / 2 ^ k else M / 2 ^ k + 1) := by
    intro w' _
    rw [Int.toNat_natCast, fdivp, fdivp]
    split
    · rfl
    · have h1 := div_mod M k
      have h2 := emod_b M k
      generalize M / 2 ^ k = q at *
      generalize M % 2 ^ k = r at *
      split
      · rename_i h
        have := (div_eq (M := -M) (q := -q) (r := 0) (k := k) (by rw [h1, h]; grind) (by omega) (p2pos k)).1
        omega
      · rename_i h
        have := (div_eq (M := -M) (q := -q - 1) (r := 2 ^ k - r) (k := k) (by rw [h1]; grind) (by omega) (by omega)).1
        omega
  cases w with
  | n =>
    obtain ⟨j, rfl⟩ : ∃ j, k = j + 1 := ⟨k - 1, by omega⟩
    have e : (((j + 1 : Nat) : Int) - 1).toNat = j := by omega
    simp only [rmF, rdF, e]
    have e1 : (2 : Int) ^ (1 : Int).toNat = 2 := rfl
    rw [fdivp, e1, fdiv2]
    obtain ⟨b, hb, h1, h2, h3⟩ := half_split M j
    have a1 : Builtin.bitAnd (M / 2 ^ j) 1 = (M / 2 ^ j) % 2 := by
      have := kbt_mask (M / 2 ^ j) 1
      simpa using this
    have a2 : Builtin.bitAnd (M / 2 ^ j) 2 = ((M / 2 ^ j) / 2 % 2) * 2 := by
      have := kbt_bit (M / 2 ^ j) 1
      simpa using this
    have a3 : Builtin.bitAnd M (1 * 2 ^ j - 1) = M % 2 ^ j := by rw [Int.one_mul, kbt_mask]
    rw [a1, a2, a3, h1, h2, h3]
    have hs : (2 : Int) ^ (j + 1) = 2 * 2 ^ j := by rw [Int.pow_succ, Int.mul_comm]
    have hr := emod_b M j
    have hp := p2pos j
    generalize hq : M / 2 ^ (j + 1) = q at *
    generalize M % 2 ^ j = ρ at *
    rw [hs]
    generalize (2 : Int) ^ j = u at *
    rcases hb with rfl | rfl
    · simp only [if_true, Int.mul_zero, Int.zero_add]
      rw [if_pos (by omega)]
    · rw [if_neg (by omega), Int.mul_one]
      by_cases ho : q % 2 = 0
      · rw [if_pos (by omega)]
        by_cases hz : ρ = 0
        · rw [if_pos hz, if_pos (by omega)]
        · rw [if_neg hz, if_neg (by omega)]
      · rw [if_neg (by omega), if_neg (by omega)]
  | f => exact other .f (by decide)
  | c => exact other .c (by decide)
  | d => exact other .d (by decide)
  | u => exact other .u (by decide)
theorem bits_lo {M : Int} (h : 0 < M) : (2 : Int) ^ (Builtin.Int.intBits M - 1) ≤ M := by
  have e : Builtin.Int.intBits M = M.natAbs.log2 + 1 := by unfold Builtin.Int.intBits; rw [if_neg (by simpa using Int.ne_of_gt h)]
  rw [e]
  have h1 : 2 ^ M.natAbs.log2 ≤ M.natAbs := Nat.log2_self_le (by omega)
  have h2 : ((2 ^ M.natAbs.log2 : Nat) : Int) ≤ (M.natAbs : Int) := by exact_mod_cast h1
  rw [kbt_cast] at h2
  simp only [Nat.add_sub_cancel]
  omega
theorem bits_hi {M : Int} (h : 0 < M) : M < (2 : Int) ^ (Builtin.Int.intBits M) := by
  have h1 := natAbs_lt_pow_bits M
  have h2 : (M.natAbs : Int) < ((2 ^ Builtin.Int.intBits M : Nat) : Int) := by exact_mod_cast h1
  rw [kbt_cast] at h2
  omega
theorem bits_pos {M : Int} (h : 0 < M) : 1 ≤ Builtin.Int.intBits M := by
  unfold Builtin.Int.intBits; rw [if_neg (by simpa using Int.ne_of_gt h)]; omega
theorem pow_le {a b : Nat} (h : a ≤ b) : (2 : Int) ^ a ≤ 2 ^ b := by
  have : 2 ^ a ≤ 2 ^ b := Nat.pow_le_pow_right (by decide) h
  rw [← kbt_cast, ← kbt_cast]
  exact_mod_cast this
theorem pow_lt {a b : Nat} (h : (2 : Int) ^ a < 2 ^ b) : a < b := by
  rcases Nat.lt_or_ge a b with h' | h'
  · exact h'
  · have := pow_le h'
    omega
theorem bits_eq {M : Int} {k : Nat} (h1 : (2 : Int) ^ k ≤ M) (h2 : M < 2 ^ (k + 1)) : Builtin.Int.intBits M = k + 1 := by
  have hp : 0 < M := Int.lt_of_lt_of_le (p2pos k) h1
  have a := bits_lo hp
  have b := bits_hi hp
  have c := bits_pos hp
  have d := pow_lt (Int.lt_of_le_of_lt a h2)
  have e := pow_lt (Int.lt_of_le_of_lt h1 b)
  omega
end
section
theorem tz_of (k : Nat) (a : Int) : tzF (2 ^ k * (2 * a + 1)) = k := by
  have hne : (2 : Int) ^ k * (2 * a + 1) ≠ 0 := Int.mul_ne_zero (p2ne k) (by omega)
  unfold tzF
  rw [if_neg hne, kbt_low, intBits_pow]
  omega
def odF (M : Int) : Int := M / 2 ^ (tzF M).toNat
theorem od_of (k : Nat) (a : Int) : odF (2 ^ k * (2 * a + 1)) = 2 * a + 1 := by
  unfold odF
  rw [tz_of, Int.toNat_natCast, Int.mul_ediv_cancel_left _ (p2ne k)]
theorem parts {M : Int} (h : M ≠ 0) : ∃ (k : Nat) (a : Int), M = 2 ^ k * (2 * a + 1) ∧ tzF M = k ∧ odF M = 2 * a + 1 := by
  obtain ⟨k, a, e⟩ := odd_part _ M (Nat.le_refl _) h
  refine ⟨k, a, e, ?_, ?_⟩
  · rw [e]; exact tz_of k a
  · rw [e]; exact od_of k a
theorem bits_shl (k : Nat) {x : Int} (h : 0 < x) : Builtin.Int.intBits (2 ^ k * x) = k + Builtin.Int.intBits x := by
  have h1 := bits_lo h
  have h2 := bits_hi h
  have h3 := bits_pos h
  have hp := p2pos k
  generalize hb : Builtin.Int.intBits x = b at *
  obtain ⟨c, rfl⟩ : ∃ c, b = c + 1 := ⟨b - 1, by omega⟩
  simp only [Nat.add_sub_cancel] at h1
  have := bits_eq (M := 2 ^ k * x) (k := k + c) (by
    rw [Int.pow_add]
    exact Int.mul_le_mul_of_nonneg_left h1 (Int.le_of_lt hp)) (by
    rw [show k + c + 1 = k + (c + 1) by omega, Int.pow_add]
    exact Int.mul_lt_mul_of_pos_left h2 hp)
  omega
def enc (s M e : Int) : Mp := if M = 0 then Mp.zero else ⟨s, odF M, e + tzF M, Builtin.Int.intBits (odF M)⟩
theorem enc_shl (s M e : Int) (j : Nat) : enc s (2 ^ j * M) e = enc s M (e + j) := by
  unfold enc
  by_cases h : M = 0
  · subst h; simp
  · obtain ⟨k, a, e1, e2, e3⟩ := parts h
    have e4 : (2 : Int) ^ j * M = 2 ^ (j + k) * (2 * a + 1) := by rw [e1, Int.pow_add]; grind
    rw [if_neg (Int.mul_ne_zero (p2ne j) h), if_neg h, e3, e2, e4, od_of, tz_of]
    congr 1
    omega
theorem strip_enc {s M e b : Int} (h : 0 < M) (hb : b = Builtin.Int.intBits M ∨ ∃ p : Nat, 1 ≤ p ∧ M = 2 ^ p ∧ b = p) : stripF s M e b = enc s M e := by
  obtain ⟨k, a, e1, e2, e3⟩ := parts (Int.ne_of_gt h)
  have ho : 0 < 2 * a + 1 := by
    rcases Int.lt_or_le 0 (2 * a + 1) with h' | h'
    · exact h'
    · have := Int.mul_nonpos_of_nonneg_of_nonpos (Int.le_of_lt (p2pos k)) h'
      omega
  have hbits : Builtin.Int.intBits M = k + Builtin.Int.intBits (2 * a + 1) := by rw [e1]; exact bits_shl k ho
  have hm2 : M.fdiv (2 ^ (tzF M).toNat) = 2 * a + 1 := by rw [fdivp, ← e3]; rfl
  unfold stripF enc
  rw [if_neg (Int.ne_of_gt h), hm2, e2, e3, bitAnd_m1]
  have one : Builtin.Int.intBits 1 = 1 := by decide
  by_cases hev : M % 2 = 0
  · rw [if_pos hev]
    by_cases h1 : 2 * a + 1 = 1
    · rw [if_pos h1, h1, one]; rfl
    · rw [if_neg h1]
      congr 1
      rcases hb with hb | ⟨p, hp, hM, hb⟩
      · rw [hb, hbits]; omega
      · exfalso
        have : tzF M = p := by rw [hM]; have := tz_of p 0; simpa using this
        have e5 : odF M = 1 := by rw [hM]; have := od_of p 0; simpa using this
        omega
  · rw [if_neg hev]
    have hk : k = 0 := by
      cases k with
      | zero => rfl
      | succ k =>
        exfalso
        rw [Int.pow_succ] at e1
        have : M = 2 * (2 ^ k * (2 * a + 1)) := by rw [e1]; grind
        omega
    subst hk
    simp only [Int.pow_zero, Int.one_mul] at e1
    rcases hb with hb | ⟨p, hp, hM, hb⟩
    · by_cases h1 : M = 1
      · rw [if_pos h1, ← e1, h1, one]; simp
      · rw [if_neg h1, ← e1, hb]; congr 1
        omega
    · exfalso
      obtain ⟨q, rfl⟩ : ∃ q, p = q + 1 := ⟨p - 1, by omega⟩
      rw [Int.pow_succ] at hM
      omega
theorem rd_bounds (w : Way) (s : Int) {M : Int} {p k : Nat} (h : 0 < M) (hp : 1 ≤ p) (hk : Builtin.Int.intBits M = p + k) : (2 : Int) ^ (p - 1) ≤ rdF w s M k ∧ rdF w s M k ≤ 2 ^ p := by
  have h1 := bits_lo h
  have h2 := bits_hi h
  rw [hk] at h1 h2
  have q1 : (2 : Int) ^ (p - 1) ≤ M / 2 ^ k := by
    refine Int.le_ediv_of_mul_le (p2pos k) ?_
    rw [← Int.pow_add, show p - 1 + k = p + k - 1 by omega]
    exact h1
  have q2 : M / 2 ^ k < 2 ^ p := by
    refine Int.ediv_lt_of_lt_mul (p2pos k) ?_
    rw [← Int.pow_add]
    exact h2
  have : M / 2 ^ k ≤ rdF w s M k ∧ rdF w s M k ≤ M / 2 ^ k + 1 := by
    cases w <;> simp only [rdF] <;> (repeat' split) <;> omega
  omega
theorem normF_low (w : Way) {s M e : Int} {p : Nat} (h : 0 < M) (hp : Builtin.Int.intBits M ≤ p) : normF w s M e (Builtin.Int.intBits M) p = enc s M e := by
  unfold normF
  rw [if_neg (Int.ne_of_gt h), if_neg (by omega)]
  exact strip_enc h (.inl rfl)
theorem normF_high (w : Way) {s M e : Int} {p k : Nat} (h : 0 < M) (hp : 1 ≤ p) (hk : Builtin.Int.intBits M = p + k) (hk1 : 1 ≤ k) : normF w s M e (Builtin.Int.intBits M) p = enc s (rdF w s M k) (e + k) := by
  obtain ⟨b1, b2⟩ := rd_bounds w s h hp hk
  unfold normF
  rw [if_neg (Int.ne_of_gt h), if_pos (by omega)]
  have e1 : ((Builtin.Int.intBits M : Nat) : Int) - p = (k : Int) := by omega
  rw [e1, rmF_eq w s hk1]
  have hpos : 0 < rdF w s M k := Int.lt_of_lt_of_le (p2pos _) b1
  refine strip_enc hpos ?_
  by_cases hb : rdF w s M k = 2 ^ p
  · exact .inr ⟨p, hp, hb, rfl⟩
  · left
    have := bits_eq (M := rdF w s M k) (k := p - 1) b1 (by rw [Nat.sub_add_cancel hp]; omega)
    omega
theorem enc_man_ne {s M e : Int} (h : M ≠ 0) : (enc s M e).man ≠ 0 := by
  obtain ⟨k, a, e1, e2, e3⟩ := parts h
  unfold enc
  rw [if_neg h, e3]
  show 2 * a + 1 ≠ 0
  omega
theorem normF_man_ne (w : Way) {s M e b p : Int} (h : 0 < M) (hb : b = Builtin.Int.intBits M) (hp : 1 ≤ p) : (normF w s M e b p).man ≠ 0 := by
  subst hb
  obtain ⟨p', rfl⟩ : ∃ p' : Nat, p = p' := ⟨p.toNat, by omega⟩
  rcases Nat.lt_or_ge p' (Builtin.Int.intBits M) with h' | h'
  · obtain ⟨k, hk⟩ : ∃ k, Builtin.Int.intBits M = p' + k := ⟨Builtin.Int.intBits M - p', by omega⟩
    rw [normF_high w h (by omega) hk (by omega)]
    exact enc_man_ne (Int.ne_of_gt (Int.lt_of_lt_of_le (p2pos _) (rd_bounds w s h (by omega) hk).1))
  · rw [normF_low w h h']
    exact enc_man_ne (Int.ne_of_gt h)
end
section
def sg (m : Int) : Int := if m < 0 then 1 else 0
def fme (m e : Int) : Mp := enc (sg m) (m.natAbs : Int) e
abbrev rnd (w : Way) (p : Int) (s M e : Int) : Mp := normF w s M e (Builtin.Int.intBits M : Int) p
def negF (d : Mp) : Mp := if d.man = 0 then d else ⟨1 - d.sign, d.man, d.exp, d.bc⟩
def absF (d : Mp) : Mp := if d.man = 0 then d else ⟨0, d.man, d.exp, d.bc⟩
def shiftF (d : Mp) (n : Int) : Mp := if d.man = 0 then d else ⟨d.sign, d.man, d.exp + n, d.bc⟩
def xor1 (a b : Int) : Int := if a = b then 0 else 1
def mulF (w : Way) (p : Int) (x y : Mp) : Mp := rnd w p (xor1 x.sign y.sign) (x.man * y.man) (x.exp + y.exp)
def mulX (x y : Mp) : Mp := if x.man * y.man = 0 then Mp.zero else ⟨xor1 x.sign y.sign, x.man * y.man, x.exp + y.exp, Builtin.Int.intBits (x.man * y.man)⟩
def extraF (p xb yb : Int) : Int := if p - xb + yb + 5 < 5 then 5 else p - xb + yb + 5
def divF (w : Way) (p : Int) (x y : Mp) : Mp :=
  if x.man = 0 then Mp.zero
  else if y.man = 1 then rnd w p (xor1 x.sign y.sign) x.man (x.exp - y.exp)
  else if (x.man * 2 ^ (extraF p x.bc y.bc).toNat).fmod y.man = 0 then rnd w p (xor1 x.sign y.sign) ((x.man * 2 ^ (extraF p x.bc y.bc).toNat).fdiv y.man) (x.exp - y.exp - extraF p x.bc y.bc)
  else rnd w p (xor1 x.sign y.sign) ((x.man * 2 ^ (extraF p x.bc y.bc).toNat).fdiv y.man * 2 ^ (1 : Int).toNat + 1) (x.exp - y.exp - (extraF p x.bc y.bc + 1))
structure Ok (d : Mp) : Prop where
  sg : d.sign = 0 ∨ d.sign = 1
  mn : 0 ≤ d.man
  bc : d.bc = Builtin.Int.intBits d.man
  sz : Builtin.Int.intBits d.man ≤ 400
  e1 : -3000 ≤ d.exp
  e2 : d.exp ≤ 3000
  z : d.man = 0 → d = Mp.zero
theorem od_facts {M : Int} (h : 0 < M) : 0 < odF M ∧ odF M % 2 = 1 ∧ (Builtin.Int.intBits (odF M) : Int) = Builtin.Int.intBits M - tzF M ∧ M.fdiv (2 ^ (tzF M).toNat) = odF M ∧ M = 2 ^ (tzF M).toNat * odF M := by
  obtain ⟨k, a, e1, e2, e3⟩ := parts (Int.ne_of_gt h)
  have ho : 0 < 2 * a + 1 := by
    rcases Int.lt_or_le 0 (2 * a + 1) with h' | h'
    · exact h'
    · have := Int.mul_nonpos_of_nonneg_of_nonpos (Int.le_of_lt (p2pos k)) h'
      omega
  have hbits : Builtin.Int.intBits M = k + Builtin.Int.intBits (2 * a + 1) := by rw [e1]; exact bits_shl k ho
  refine ⟨by omega, by omega, by rw [e3]; omega, ?_, ?_⟩
  · rw [fdivp]; rfl
  · rw [e2, e3, Int.toNat_natCast]; exact e1
theorem tz_odd {M : Int} (h : M % 2 = 1) : tzF M = 0 := by
  have := tz_of 0 (M / 2)
  rw [Int.pow_zero, Int.one_mul, show 2 * (M / 2) + 1 = M by omega] at this
  simpa using this
theorem fm_odd {s M e v : Int} (hv : Hid (v = Builtin.bitAnd M 1)) (h : v ≠ 0) (hM : 0 < M) : enc s M e = ⟨s, M, e, Builtin.Int.intBits M⟩ := by
  obtain ⟨rfl⟩ := hv
  rw [bitAnd_m1] at h
  have := tz_odd (M := M) (by omega)
  obtain ⟨a1, a2, a3, a4, a5⟩ := od_facts hM
  unfold enc
  rw [if_neg (by omega), this]
  rw [this] at a5
  have e : odF M = M := by simp at a5; exact a5.symm
  rw [e, Int.add_zero]
theorem fm_tr {s M e m2 : Int} (hm : Hid (m2 = M.fdiv (2 ^ (tzF M).toNat))) (hM : 0 < M) : enc s M e = ⟨s, m2, e + tzF M, (Builtin.Int.intBits M : Int) - tzF M⟩ := by
  obtain ⟨rfl⟩ := hm
  obtain ⟨a1, a2, a3, a4, a5⟩ := od_facts hM
  unfold enc
  rw [if_neg (by omega), a4, a3]
theorem fm_two {s M e m2 v v2 : Int} (hm : Hid (m2 = M.fdiv (2 ^ (1 : Int).toNat))) (hv : Hid (v = Builtin.bitAnd M 1)) (h0 : v = 0) (hv2 : Hid (v2 = Builtin.bitAnd M 2)) (h2 : v2 ≠ 0) (hM : 0 < M) : enc s M e = ⟨s, m2, e + 1, (Builtin.Int.intBits M : Int) - 1⟩ := by
  have ht : tzF M = 1 := by
    obtain ⟨rfl⟩ := hv
    obtain ⟨rfl⟩ := hv2
    rw [bitAnd_m1] at h0
    have := kbt_bit M 1
    simp only [Int.pow_succ, Int.pow_zero, Int.one_mul] at this
    rw [this] at h2
    have := tz_of 1 (M / 2 / 2)
    rw [show (2 : Int) ^ 1 * (2 * (M / 2 / 2) + 1) = M by omega] at this
    simpa using this
  have := fm_tr (s := s) (e := e) (m2 := m2) (M := M) (by rw [ht]; exact hm) hM
  rw [this, ht]
theorem xor1_of {v a b : Int} (h : Hid (v = Builtin.bitXor a b)) (ha : a = 0 ∨ a = 1) (hb : b = 0 ∨ b = 1) : v = xor1 a b := by
  obtain ⟨rfl⟩ := h
  rcases ha with rfl | rfl <;> rcases hb with rfl | rfl <;> decide
theorem xor1_01 {v a b : Int} (h : Hid (v = Builtin.bitXor a b)) (ha : a = 0 ∨ a = 1) (hb : b = 0 ∨ b = 1) : v = 0 ∨ v = 1 := by
  rw [xor1_of h ha hb]
  unfold xor1
  split <;> omega
theorem rnd_zero (w : Way) (p s e : Int) : rnd w p s 0 e = Mp.zero := by unfold rnd normF; rw [if_pos rfl]
end
section
theorem su_C5_1 : True := by
  k_with_none
  k_with "my enter" => ((k_dflt (refine' code_def ?k1 ?k2 ?k3 ?k4 ?k5 ?kA ?kF ?kK ?k6 ?k7 ?k8 ?k9 ?kB ?_ ?c2 ?c3 ?c4 ?c5; (case kA => exact rfl); (case kF => exact rfl); (case kK => assumption); (case k1 => k_asm); (case k2 => k_asm); (case k3 => k_asm); (case k4 => k_asm); (case k5 => k_asm); (case k6 => k_is); (case k7 => k_is); (case k8 => ktr_room); (case k9 => first | exact BindsTo.of_eq rfl | exact binds_K (by k_in) rfl (by k_is) rfl rfl rfl); (case c5 => decide); (case kB => exact locs rfl); (case c2 => exact rfl); (case c3 => exact rfl); (case c4 => exact rfl); k_whole; intro g' L' h' FG' F' N' B' X' T'; (try dsimp only); (try k_lift B'); (try k_fold))))
  k_with "my start" => ((refine wpAny_call ?_; k_extra "my enter"; k_extra "my norm"))
  k_with "my steps" => (repeat' (first | (k_unfold; (try dsimp only)) | (k_end; wrow_close) | (law_purse 30000 => walk1) | (law_purse 30000 => (dsimp only; walk1)) | (leave1; try dsimp only) | fail "no step"))
  k_with "eval Subscript" => (k_extra "my cut")
  k_with "my omega" => (((try simp only [bne_iff_ne, beq_iff_eq, decide_eq_true_eq, ne_eq, Bool.not_eq_true', Bool.not_eq_false', beq_eq_false_iff_ne, bne_eq_false_iff_eq, decide_eq_false_iff_not]); omega))
  k_with "ite" => ((k_here; first | (refine ite_pos (by with_reducible assumption) ?_) | (refine ite_neg (by with_reducible assumption) ?_) | (refine ite_pos (by k_extra "my omega") ?_) | (refine ite_neg (by k_extra "my omega") ?_)))
  k_with "my arith" => (first | omega | decide | ((simp only [fdiv2, fdiv2', Int.reduceToNat, Int.toNat_one, Int.reducePow, Int.pow_one] at *); omega))
  k_with "binaryOp LShift int int" => ((k_here; (refine' lshift_hid (k := 5000) (by k_extra "my arith") (by bits_by_make) (by k_extra "my arith") (by decide) ?_); intro v9 hv9 hb9 hs9 hp9))
  k_with "inplaceOp LShift int int" => ((k_here; (refine' ilshift_hid (k := 5000) (by k_extra "my arith") (by bits_by_make) (by k_extra "my arith") (by decide) ?_); intro v9 hv9 hb9 hs9 hp9))
  k_with "binaryOp RShift int int" => ((k_here; (refine' rshift_hid (by k_extra "my arith") ?_); intro v9 hv9 hb9))
  k_with "inplaceOp RShift int int" => ((k_here; (refine' irshift_hid (by k_extra "my arith") ?_); intro v9 hv9 hb9))
  k_with "binaryOp BitAnd int int" => ((k_here; (refine' and_hid ?_); intro v9 hv9))
  k_with "binaryOp BitXor int int" => ((k_here; (refine' xor_hid ?_); intro v9 hv9))
  k_with "inplaceOp BitXor int int" => ((k_here; (refine' ixor_hid ?_); intro v9 hv9))
  k_with "binaryOp Mult int int" => ((k_here; (refine' mul_hid (by bits_by_make) (by bits_by_make) (by decide) ?_); intro v9 hv9 hb9 hz9 hn9))
  k_with "inplaceOp Mult int int" => ((k_here; (refine' imul_hid (by bits_by_make) (by bits_by_make) (by decide) ?_); intro v9 hv9 hb9 hz9 hn9))
  k_with "my open" => ((repeat ((rename Hid _ => hh9); (have hh9' := hh9.out); clear hh9; subst hh9')))
  k_with "binaryOp FloorDiv int int" => ((k_here; (refine' floordiv_int ?mb1 ?_ (Or.inl (PyProof.noPylong_of_log2 ?mb2))); (case mb1 => k_extra "my arith"); (case mb2 => (refine' log_of_bits ?mb3 ?mb4; (case mb3 => bits_by_make); (case mb4 => decide)))))
  k_with "exec" => ((k_here; (with_reducible show wpAny _ _ (PySem.exec (Stmt.While _ _ _ _) _) _ _ _); k_extra "my while"))
  k_with "my mp" => (first | with_reducible assumption | exact MpIn.zero | (refine MpIn.cons ?_; k_extra "my mp") | (refine MpIn.mono (by with_reducible assumption) ?_; k_extra "my mp"))
  k_with "my sub" => (first | with_reducible assumption | exact Sub.refl _ | (refine Sub.cons _ ?_; k_extra "my sub") | (refine Sub.trans ?_ (by with_reducible assumption); k_extra "my sub"))
  k_with "my side" => (first | with_reducible assumption | omega | bits_by_make)
  k_with "my side" => (first | ((with_reducible refine bits_side ?_); omega) | ((with_reducible refine bits_sideN ?_); omega))
  k_with "my I" => ((intro t9 h9 tk9 F9 N9; (try k_sweep); (try dsimp only); (try k_fold)))
  k_with "my M" => ((intro r9 n9 h9 tk9 F9 N9 S9 P9; (try k_sweep); (try dsimp only); (try k_fold)))
  k_with "my bd" => (first | (refine' Bd.cons ?be ?br; (case be => exact rfl); (case br => k_extra "my bd")) | exact Bd.nil rfl)
  k_with "my norm" => (((rename Fr _ _ _ _ => F9); (replace F9 := fr_bd F9 (by k_extra "my bd"))))
  k_with "my seen" => (first | exact Seen.hit | (refine' Seen.skip ?sk; (case sk => k_extra "my seen")))
  k_with "eval Name" => ((k_here; name_kind "globalImplicit"; k_dflt (refine' name_BF ?nb1 ?nb2 ?nb3 ?nb4 ?nb5 ?nb6 ?nb7 ?_; (case nb1 => k_asm); (case nb2 => k_asm); (case nb3 => k_asm); (case nb4 => k_is); (case nb5 => boot_by_name); (case nb6 => decide +kernel); (case nb7 => exact rfl); k_whole)))
  k_with "eval Name" => ((k_here; name_kind "globalImplicit"; k_dflt (refine' name_KF ?nk1 ?nk2 ?nk3 ?nk4 ?nk5 ?nk6 ?_; (case nk1 => k_asm); (case nk2 => k_asm); (case nk3 => k_asm); (case nk4 => k_is); (case nk5 => decide +kernel); (case nk6 => exact rfl); k_whole)))
  k_with "eval Name" => ((k_here; name_kind "local"; k_dflt (refine' ldT ?lk1 ?lk2 ?lk3 ?lk4 ?_; (case lk1 => k_asm); (case lk2 => exact rfl); (case lk3 => decide +kernel); (case lk4 => exact rfl); k_whole)))
  k_with "eval Name" => ((k_here; name_kind "local"; k_dflt (refine' ldS ?ls1 ?ls2 ?ls3 ?ls4 ?ls5 ?_; (case ls1 => k_asm); (case ls2 => with_reducible k_extra "my seen"); (case ls3 => kernel_rfl!); (case ls4 => decide +kernel); (case ls5 => exact rfl); k_whole)))
  k_with "storeName" => ((k_here; k_dflt (refine' store_KF ?st1 ?st2 ?st3 ?st4 ?_; (case st1 => k_asm); (case st2 => k_asm); (case st3 => decide +kernel); (case st4 => exact rfl); k_whole); intro h' F' N'; (try k_sweep)))
  k_with "ite" => ((k_closed; k_dflt (first | refine ite_pos (by decide) ?_ | refine ite_neg (by decide) ?_)))
  k_with "call ref" => ((k_here; (with_reducible show wpAny _ _ (call (Value.ref 28) _) _ _ _); k_dflt (refine ctrI_use (c_isqrt_small _ _ _ (by k_extra "my side") (by k_extra "my side")) (by k_asm) (by k_asm) (by k_asm) (by k_asm) (by k_asm) (by first | exact rfl | assumption) (by ktr_room) (by ktr_units) ?_); k_extra "my I"))
  k_with "call ref" => ((k_here; (with_reducible show wpAny _ _ (call (Value.ref 35) _) _ _ _); k_dflt (refine ctr_use (c_sqrtrem _ _ _ (by k_extra "my side") (by k_extra "my side")) (by k_asm) (by k_asm) (by k_asm) (by k_asm) (by k_asm) (by first | exact rfl | assumption) (by ktr_room) (by ktr_units) ?_); intro r9 n9 h9 tk9 F9 N9 S9 P9; cases P9; (try k_sweep); (try dsimp only); (try k_fold)))
  trivial
theorem c_isqrt {w : World} {mean : ExcName → Option Value} {mg mb : Str → Option Value} (news : List (Addr × Obj)) (x : Int) (tx : Tok) (hx : 1 ≤ x) (hsz : Builtin.Int.intBits x ≤ 1000):
    Ctr w mean mg mb 42 3 news [.int x tx] (fun r _ => ∃ t, r = .int (isqF x) t) := by
  unfold Ctr
  k_fill
  intro dp un gd cn cs a ccd cl outer A₀ base h₀ L m s Q E B F X N T hk hdp hun hret
  k_extra "my start"
  k_steps
  exact hret _ _ _ _ (by assumption) (by assumption) (by k_extra "my sub") ⟨_, rfl⟩
end
section
theorem se1 {s M e b m2 v : Int} (h1 : Hid (m2 = M.fdiv (2 ^ (tzF M).toNat))) (h2 : Hid (v = Builtin.bitAnd M 1)) (h3 : v = 0) (h4 : m2 = 1) : stripF s M e b = ⟨s, m2, e + tzF M, 1⟩ := by
  obtain ⟨rfl⟩ := h1; obtain ⟨rfl⟩ := h2; unfold stripF; rw [if_pos h3, if_pos h4]
theorem se2 {s M e b m2 v : Int} (h1 : Hid (m2 = M.fdiv (2 ^ (tzF M).toNat))) (h2 : Hid (v = Builtin.bitAnd M 1)) (h3 : v = 0) (h4 : m2 ≠ 1) : stripF s M e b = ⟨s, m2, e + tzF M, b - tzF M⟩ := by
  obtain ⟨rfl⟩ := h1; obtain ⟨rfl⟩ := h2; unfold stripF; rw [if_pos h3, if_neg h4]
theorem se3 {s M e b v : Int} (h2 : Hid (v = Builtin.bitAnd M 1)) (h3 : v ≠ 0) (h4 : M = 1) : stripF s M e b = ⟨s, M, e, 1⟩ := by
  obtain ⟨rfl⟩ := h2; unfold stripF; rw [if_neg h3, if_pos h4]
theorem se4 {s M e b v : Int} (h2 : Hid (v = Builtin.bitAnd M 1)) (h3 : v ≠ 0) (h4 : M ≠ 1) : stripF s M e b = ⟨s, M, e, b⟩ := by
  obtain ⟨rfl⟩ := h2; unfold stripF; rw [if_neg h3, if_neg h4]
theorem rmF_o {w : Way} (s man n : Int) (h : w ≠ .n) : rmF w s man n = if wayDn w s = true then man.fdiv (2 ^ n.toNat) else -((-man).fdiv (2 ^ n.toNat)) := by
  cases w <;> first | exact absurd rfl h | rfl
theorem ro1 {w : Way} {s man n m1 x : Int} (hw : w ≠ .n) (h : Hid (m1 = man.fdiv (2 ^ n.toNat))) (hx : (x ≠ 0 → wayDn w s = true) ∧ (x = 0 → ¬ wayDn w s = true)) (h0 : x ≠ 0) : rmF w s man n = m1 := by
  rw [rmF_o _ _ _ hw, if_pos (hx.1 h0)]; exact h.out.symm
theorem ro2 {w : Way} {s man n m1 x : Int} (hw : w ≠ .n) (h : Hid (m1 = (-man).fdiv (2 ^ n.toNat))) (hx : (x ≠ 0 → wayDn w s = true) ∧ (x = 0 → ¬ wayDn w s = true)) (h0 : x = 0) : rmF w s man n = -m1 := by
  rw [rmF_o _ _ _ hw, if_neg (hx.2 h0)]; rw [h.out]
theorem rn1 {s man n t m1 v : Int} (h : Hid (m1 = t.fdiv (2 ^ (1 : Int).toNat))) (ht : Hid (t = man.fdiv (2 ^ (n - 1).toNat))) (hv : Hid (v = Builtin.bitAnd t 1)) (h0 : v = 0) : rmF .n s man n = m1 := by
  obtain ⟨rfl⟩ := h; obtain ⟨rfl⟩ := ht; obtain ⟨rfl⟩ := hv; simp only [rmF]; rw [if_pos h0]
theorem rn2 {s man n t m1 v v2 : Int} (h : Hid (m1 = t.fdiv (2 ^ (1 : Int).toNat))) (ht : Hid (t = man.fdiv (2 ^ (n - 1).toNat))) (hv : Hid (v = Builtin.bitAnd t 1)) (h0 : v ≠ 0) (hv2 : Hid (v2 = Builtin.bitAnd t 2)) (h2 : v2 ≠ 0) : rmF .n s man n = m1 + 1 := by
  obtain ⟨rfl⟩ := h; obtain ⟨rfl⟩ := ht; obtain ⟨rfl⟩ := hv; obtain ⟨rfl⟩ := hv2; simp only [rmF]; rw [if_neg h0, if_neg h2]
theorem rn3 {s man n t m1 v v2 k v3 : Int} (h : Hid (m1 = t.fdiv (2 ^ (1 : Int).toNat))) (ht : Hid (t = man.fdiv (2 ^ (n - 1).toNat))) (hv : Hid (v = Builtin.bitAnd t 1)) (h0 : v ≠ 0) (hv2 : Hid (v2 = Builtin.bitAnd t 2)) (h2 : v2 = 0) (hk : Hid (k = 1 * 2 ^ (n - 1).toNat)) (hv3 : Hid (v3 = Builtin.bitAnd man (k - 1))) (h3 : v3 ≠ 0) : rmF .n s man n = m1 + 1 := by
  obtain ⟨rfl⟩ := h; obtain ⟨rfl⟩ := ht; obtain ⟨rfl⟩ := hv; obtain ⟨rfl⟩ := hv2; obtain ⟨rfl⟩ := hk; obtain ⟨rfl⟩ := hv3; simp only [rmF]; rw [if_neg h0, if_pos h2, if_neg h3]
theorem rn4 {s man n t m1 v v2 k v3 : Int} (h : Hid (m1 = t.fdiv (2 ^ (1 : Int).toNat))) (ht : Hid (t = man.fdiv (2 ^ (n - 1).toNat))) (hv : Hid (v = Builtin.bitAnd t 1)) (h0 : v ≠ 0) (hv2 : Hid (v2 = Builtin.bitAnd t 2)) (h2 : v2 = 0) (hk : Hid (k = 1 * 2 ^ (n - 1).toNat)) (hv3 : Hid (v3 = Builtin.bitAnd man (k - 1))) (h3 : v3 = 0) : rmF .n s man n = m1 := by
  obtain ⟨rfl⟩ := h; obtain ⟨rfl⟩ := ht; obtain ⟨rfl⟩ := hv; obtain ⟨rfl⟩ := hv2; obtain ⟨rfl⟩ := hk; obtain ⟨rfl⟩ := hv3; simp only [rmF]; rw [if_neg h0, if_pos h2, if_pos h3]
theorem nf_hi {w : Way} {s man e bc p M : Int} {d : Mp} (h1 : man ≠ 0) (h2 : 0 < bc - p) (hs : stripF s M (e + (bc - p)) p = d) (hr : rmF w s man (bc - p) = M) : normF w s man e bc p = d := by
  unfold normF; rw [if_neg h1, if_pos h2, hr, hs]
theorem nf_lo {w : Way} {s man e bc p : Int} {d : Mp} (h1 : man ≠ 0) (h2 : ¬ 0 < bc - p) (hs : stripF s man e bc = d) : normF w s man e bc p = d := by
  unfold normF; rw [if_neg h1, if_neg h2, hs]
theorem nf_zero {w : Way} {s man e bc p : Int} (h1 : man = 0) : normF w s man e bc p = Mp.zero := by
  unfold normF; rw [if_pos h1]
end
section
theorem su_C6a_1 : True := by
  k_with_none
  k_with "my enter" => ((k_dflt (refine' code_def ?k1 ?k2 ?k3 ?k4 ?k5 ?kA ?kF ?kK ?k6 ?k7 ?k8 ?k9 ?kB ?_ ?c2 ?c3 ?c4 ?c5; (case kA => exact rfl); (case kF => exact rfl); (case kK => assumption); (case k1 => k_asm); (case k2 => k_asm); (case k3 => k_asm); (case k4 => k_asm); (case k5 => k_asm); (case k6 => k_is); (case k7 => k_is); (case k8 => ktr_room); (case k9 => first | exact BindsTo.of_eq rfl | exact binds_K (by k_in) rfl (by k_is) rfl rfl rfl); (case c5 => decide); (case kB => exact locs rfl); (case c2 => exact rfl); (case c3 => exact rfl); (case c4 => exact rfl); k_whole; intro g' L' h' FG' F' N' B' X' T'; (try dsimp only); (try k_lift B'); (try k_fold))))
  k_with "my start" => ((refine wpAny_call ?_; k_extra "my enter"; k_extra "my norm"))
  k_with "my steps" => (repeat' (first | (k_unfold; (try dsimp only)) | (k_end; wrow_close) | (law_purse 30000 => walk1) | (law_purse 30000 => (dsimp only; walk1)) | (leave1; try dsimp only) | fail "no step"))
  k_with "eval Subscript" => (k_extra "my cut")
  k_with "my omega" => (((try simp only [bne_iff_ne, beq_iff_eq, decide_eq_true_eq, ne_eq, Bool.not_eq_true', Bool.not_eq_false', beq_eq_false_iff_ne, bne_eq_false_iff_eq, decide_eq_false_iff_not]); omega))
  k_with "ite" => ((k_here; first | (refine ite_pos (by with_reducible assumption) ?_) | (refine ite_neg (by with_reducible assumption) ?_) | (refine ite_pos (by k_extra "my omega") ?_) | (refine ite_neg (by k_extra "my omega") ?_)))
  k_with "my arith" => (first | omega | decide | ((simp only [fdiv2, fdiv2', Int.reduceToNat, Int.toNat_one, Int.reducePow, Int.pow_one] at *); omega))
  k_with "binaryOp LShift int int" => ((k_here; (refine' lshift_hid (k := 5000) (by k_extra "my arith") (by bits_by_make) (by k_extra "my arith") (by decide) ?_); intro v9 hv9 hb9 hs9 hp9))
  k_with "inplaceOp LShift int int" => ((k_here; (refine' ilshift_hid (k := 5000) (by k_extra "my arith") (by bits_by_make) (by k_extra "my arith") (by decide) ?_); intro v9 hv9 hb9 hs9 hp9))
  k_with "binaryOp RShift int int" => ((k_here; (refine' rshift_hid (by k_extra "my arith") ?_); intro v9 hv9 hb9))
  k_with "inplaceOp RShift int int" => ((k_here; (refine' irshift_hid (by k_extra "my arith") ?_); intro v9 hv9 hb9))
  k_with "binaryOp BitAnd int int" => ((k_here; (refine' and_hid ?_); intro v9 hv9))
  k_with "binaryOp BitXor int int" => ((k_here; (refine' xor_hid ?_); intro v9 hv9))
  k_with "inplaceOp BitXor int int" => ((k_here; (refine' ixor_hid ?_); intro v9 hv9))
  k_with "binaryOp Mult int int" => ((k_here; (refine' mul_hid (by bits_by_make) (by bits_by_make) (by decide) ?_); intro v9 hv9 hb9 hz9 hn9))
  k_with "inplaceOp Mult int int" => ((k_here; (refine' imul_hid (by bits_by_make) (by bits_by_make) (by decide) ?_); intro v9 hv9 hb9 hz9 hn9))
  k_with "my open" => ((repeat ((rename Hid _ => hh9); (have hh9' := hh9.out); clear hh9; subst hh9')))
  k_with "binaryOp FloorDiv int int" => ((k_here; (refine' floordiv_int ?mb1 ?_ (Or.inl (PyProof.noPylong_of_log2 ?mb2))); (case mb1 => k_extra "my arith"); (case mb2 => (refine' log_of_bits ?mb3 ?mb4; (case mb3 => bits_by_make); (case mb4 => decide)))))
  k_with "exec" => ((k_here; (with_reducible show wpAny _ _ (PySem.exec (Stmt.While _ _ _ _) _) _ _ _); k_extra "my while"))
  k_with "my mp" => (first | with_reducible assumption | exact MpIn.zero | (refine MpIn.cons ?_; k_extra "my mp") | (refine MpIn.mono (by with_reducible assumption) ?_; k_extra "my mp"))
  k_with "my sub" => (first | with_reducible assumption | exact Sub.refl _ | (refine Sub.cons _ ?_; k_extra "my sub") | (refine Sub.trans ?_ (by with_reducible assumption); k_extra "my sub"))
  k_with "my side" => (first | with_reducible assumption | omega | bits_by_make)
  k_with "my side" => (first | ((with_reducible refine bits_side ?_); omega) | ((with_reducible refine bits_sideN ?_); omega))
  k_with "my I" => ((intro t9 h9 tk9 F9 N9; (try k_sweep); (try dsimp only); (try k_fold)))
  k_with "my M" => ((intro r9 n9 h9 tk9 F9 N9 S9 P9; (try k_sweep); (try dsimp only); (try k_fold)))
  k_with "my bd" => (first | (refine' Bd.cons ?be ?br; (case be => exact rfl); (case br => k_extra "my bd")) | exact Bd.nil rfl)
  k_with "my norm" => (((rename Fr _ _ _ _ => F9); (replace F9 := fr_bd F9 (by k_extra "my bd"))))
  k_with "my seen" => (first | exact Seen.hit | (refine' Seen.skip ?sk; (case sk => k_extra "my seen")))
  k_with "eval Name" => ((k_here; name_kind "globalImplicit"; k_dflt (refine' name_BF ?nb1 ?nb2 ?nb3 ?nb4 ?nb5 ?nb6 ?nb7 ?_; (case nb1 => k_asm); (case nb2 => k_asm); (case nb3 => k_asm); (case nb4 => k_is); (case nb5 => boot_by_name); (case nb6 => decide +kernel); (case nb7 => exact rfl); k_whole)))
  k_with "eval Name" => ((k_here; name_kind "globalImplicit"; k_dflt (refine' name_KF ?nk1 ?nk2 ?nk3 ?nk4 ?nk5 ?nk6 ?_; (case nk1 => k_asm); (case nk2 => k_asm); (case nk3 => k_asm); (case nk4 => k_is); (case nk5 => decide +kernel); (case nk6 => exact rfl); k_whole)))
  k_with "eval Name" => ((k_here; name_kind "local"; k_dflt (refine' ldT ?lk1 ?lk2 ?lk3 ?lk4 ?_; (case lk1 => k_asm); (case lk2 => exact rfl); (case lk3 => decide +kernel); (case lk4 => exact rfl); k_whole)))
  k_with "eval Name" => ((k_here; name_kind "local"; k_dflt (refine' ldS ?ls1 ?ls2 ?ls3 ?ls4 ?ls5 ?_; (case ls1 => k_asm); (case ls2 => with_reducible k_extra "my seen"); (case ls3 => kernel_rfl!); (case ls4 => decide +kernel); (case ls5 => exact rfl); k_whole)))
  k_with "storeName" => ((k_here; k_dflt (refine' store_KF ?st1 ?st2 ?st3 ?st4 ?_; (case st1 => k_asm); (case st2 => k_asm); (case st3 => decide +kernel); (case st4 => exact rfl); k_whole); intro h' F' N'; (try k_sweep)))
  k_with "ite" => ((k_closed; k_dflt (first | refine ite_pos (by decide) ?_ | refine ite_neg (by decide) ?_)))
  k_with "call ref" => ((k_here; (with_reducible show wpAny _ _ (call (Value.ref 28) _) _ _ _); k_dflt (refine ctrI_use (c_isqrt_small _ _ _ (by k_extra "my side") (by k_extra "my side")) (by k_asm) (by k_asm) (by k_asm) (by k_asm) (by k_asm) (by first | exact rfl | assumption) (by ktr_room) (by ktr_units) ?_); k_extra "my I"))
  k_with "my wa" => (first | with_reducible assumption | omega)
  k_with "my strip" => (first | exact se1 (by k_extra "my wa") (by k_extra "my wa") (by k_extra "my wa") (by k_extra "my wa") | exact se2 (by k_extra "my wa") (by k_extra "my wa") (by k_extra "my wa") (by k_extra "my wa") | exact se3 (by k_extra "my wa") (by k_extra "my wa") (by k_extra "my wa") | exact se4 (by k_extra "my wa") (by k_extra "my wa") (by k_extra "my wa"))
  k_with "my round" => (first | exact ro1 (by k_extra "my wa") (by k_extra "my wa") (by k_extra "my wa") (by k_extra "my wa") | exact ro2 (by k_extra "my wa") (by k_extra "my wa") (by k_extra "my wa") (by k_extra "my wa") | exact rn1 (by k_extra "my wa") (by k_extra "my wa") (by k_extra "my wa") (by k_extra "my wa") | exact rn2 (by k_extra "my wa") (by k_extra "my wa") (by k_extra "my wa") (by k_extra "my wa") (by k_extra "my wa") (by k_extra "my wa") | exact rn3 (by k_extra "my wa") (by k_extra "my wa") (by k_extra "my wa") (by k_extra "my wa") (by k_extra "my wa") (by k_extra "my wa") (by k_extra "my wa") (by k_extra "my wa") (by k_extra "my wa") | exact rn4 (by k_extra "my wa") (by k_extra "my wa") (by k_extra "my wa") (by k_extra "my wa") (by k_extra "my wa") (by k_extra "my wa") (by k_extra "my wa") (by k_extra "my wa") (by k_extra "my wa"))
  k_with "my nf" => (first | (refine nf_lo (by k_extra "my wa") (by k_extra "my wa") ?_; k_extra "my strip") | (refine' nf_hi ?c9 ?d9 ?a9 ?b9; (case a9 => k_extra "my strip"); (case c9 => k_extra "my wa"); (case d9 => k_extra "my wa"); (case b9 => k_extra "my round")))
  k_with "call ref" => ((k_here; (with_reducible show wpAny _ _ (call (Value.ref 21) _) _ _ _); k_dflt (refine trailing_use (by k_asm) (by k_asm) (by k_asm) (by k_asm) (by k_asm) (by first | exact rfl | assumption) (by ktr_room) (by ktr_units) ?_); intro t9 h9 tk9 hz9 F9 N9; (try k_sweep); (try dsimp only); (try k_fold)))
  trivial
theorem c_norm_n {w : World} {mean : ExcName → Option Value} {mg mb : Str → Option Value} (news : List (Addr × Obj)) (sign man exp bc prec : Int) (t1 t2 t3 t4 t5 t6 : Tok) (h0 : 0 ≤ man) (hp : 1 ≤ prec) (hbc : bc = Builtin.Int.intBits man) (hb : bc ≤ 1000) :
    Ctr w mean mg mb 71 2 news [.int sign t1, .int man t2, .int exp t3, .int bc t4, .int prec t5, .str (Str.ofString "n") t6] (fun r n' => MpIn n' r (normF .n sign man exp bc prec)) := by
  unfold Ctr
  k_fill
  intro dp un gd cn cs a ccd cl outer A₀ base h₀ L m s Q E B F X N T hk hdp hun hret
  k_extra "my start"
  k_extra "my steps"
  all_goals first
    | exact hret _ _ _ _ (by with_reducible assumption) (by with_reducible assumption) (by k_extra "my sub") (mpIn_zero (nf_zero (by with_reducible assumption)))
    | exact hret _ _ _ _ (by with_reducible assumption) (by with_reducible assumption) (by k_extra "my sub") (mpIn_of' (by k_mem) (by k_extra "my nf") (normF_man_ne _ (by omega) hbc hp))
    | fail "no"
end
section
theorem su_C6b_1 : True := by
  k_with_none
  k_with "my enter" => ((k_dflt (refine' code_def ?k1 ?k2 ?k3 ?k4 ?k5 ?kA ?kF ?kK ?k6 ?k7 ?k8 ?k9 ?kB ?_ ?c2 ?c3 ?c4 ?c5; (case kA => exact rfl); (case kF => exact rfl); (case kK => assumption); (case k1 => k_asm); (case k2 => k_asm); (case k3 => k_asm); (case k4 => k_asm); (case k5 => k_asm); (case k6 => k_is); (case k7 => k_is); (case k8 => ktr_room); (case k9 => first | exact BindsTo.of_eq rfl | exact binds_K (by k_in) rfl (by k_is) rfl rfl rfl); (case c5 => decide); (case kB => exact locs rfl); (case c2 => exact rfl); (case c3 => exact rfl); (case c4 => exact rfl); k_whole; intro g' L' h' FG' F' N' B' X' T'; (try dsimp only); (try k_lift B'); (try k_fold))))
  k_with "my start" => ((refine wpAny_call ?_; k_extra "my enter"; k_extra "my norm"))
  k_with "my steps" => (repeat' (first | (k_unfold; (try dsimp only)) | (k_end; wrow_close) | (law_purse 30000 => walk1) | (law_purse 30000 => (dsimp only; walk1)) | (leave1; try dsimp only) | fail "no step"))
  k_with "eval Subscript" => (k_extra "my cut")
  k_with "my omega" => (((try simp only [bne_iff_ne, beq_iff_eq, decide_eq_true_eq, ne_eq, Bool.not_eq_true', Bool.not_eq_false', beq_eq_false_iff_ne, bne_eq_false_iff_eq, decide_eq_false_iff_not]); omega))
  k_with "ite" => ((k_here; first | (refine ite_pos (by with_reducible assumption) ?_) | (refine ite_neg (by with_reducible assumption) ?_) | (refine ite_pos (by k_extra "my omega") ?_) | (refine ite_neg (by k_extra "my omega") ?_)))
  k_with "my arith" => (first | omega | decide | ((simp only [fdiv2, fdiv2', Int.reduceToNat, Int.toNat_one, Int.reducePow, Int.pow_one] at *); omega))
  k_with "binaryOp LShift int int" => ((k_here; (refine' lshift_hid (k := 5000) (by k_extra "my arith") (by bits_by_make) (by k_extra "my arith") (by decide) ?_); intro v9 hv9 hb9 hs9 hp9))
  k_with "inplaceOp LShift int int" => ((k_here; (refine' ilshift_hid (k := 5000) (by k_extra "my arith") (by bits_by_make) (by k_extra "my arith") (by decide) ?_); intro v9 hv9 hb9 hs9 hp9))
  k_with "binaryOp RShift int int" => ((k_here; (refine' rshift_hid (by k_extra "my arith") ?_); intro v9 hv9 hb9))
  k_with "inplaceOp RShift int int" => ((k_here; (refine' irshift_hid (by k_extra "my arith") ?_); intro v9 hv9 hb9))
  k_with "binaryOp BitAnd int int" => ((k_here; (refine' and_hid ?_); intro v9 hv9))
  k_with "binaryOp BitXor int int" => ((k_here; (refine' xor_hid ?_); intro v9 hv9))
  k_with "inplaceOp BitXor int int" => ((k_here; (refine' ixor_hid ?_); intro v9 hv9))
  k_with "binaryOp Mult int int" => ((k_here; (refine' mul_hid (by bits_by_make) (by bits_by_make) (by decide) ?_); intro v9 hv9 hb9 hz9 hn9))
  k_with "inplaceOp Mult int int" => ((k_here; (refine' imul_hid (by bits_by_make) (by bits_by_make) (by decide) ?_); intro v9 hv9 hb9 hz9 hn9))
  k_with "my open" => ((repeat ((rename Hid _ => hh9); (have hh9' := hh9.out); clear hh9; subst hh9')))
  k_with "binaryOp FloorDiv int int" => ((k_here; (refine' floordiv_int ?mb1 ?_ (Or.inl (PyProof.noPylong_of_log2 ?mb2))); (case mb1 => k_extra "my arith"); (case mb2 => (refine' log_of_bits ?mb3 ?mb4; (case mb3 => bits_by_make); (case mb4 => decide)))))
  k_with "exec" => ((k_here; (with_reducible show wpAny _ _ (PySem.exec (Stmt.While _ _ _ _) _) _ _ _); k_extra "my while"))
  k_with "my mp" => (first | with_reducible assumption | exact MpIn.zero | (refine MpIn.cons ?_; k_extra "my mp") | (refine MpIn.mono (by with_reducible assumption) ?_; k_extra "my mp"))
  k_with "my sub" => (first | with_reducible assumption | exact Sub.refl _ | (refine Sub.cons _ ?_; k_extra "my sub") | (refine Sub.trans ?_ (by with_reducible assumption); k_extra "my sub"))
  k_with "my side" => (first | with_reducible assumption | omega | bits_by_make)
  k_with "my side" => (first | ((with_reducible refine bits_side ?_); omega) | ((with_reducible refine bits_sideN ?_); omega))
  k_with "my I" => ((intro t9 h9 tk9 F9 N9; (try k_sweep); (try dsimp only); (try k_fold)))
  k_with "my M" => ((intro r9 n9 h9 tk9 F9 N9 S9 P9; (try k_sweep); (try dsimp only); (try k_fold)))
  k_with "my bd" => (first | (refine' Bd.cons ?be ?br; (case be => exact rfl); (case br => k_extra "my bd")) | exact Bd.nil rfl)
  k_with "my norm" => (((rename Fr _ _ _ _ => F9); (replace F9 := fr_bd F9 (by k_extra "my bd"))))
  k_with "my seen" => (first | exact Seen.hit | (refine' Seen.skip ?sk; (case sk => k_extra "my seen")))
  k_with "eval Name" => ((k_here; name_kind "globalImplicit"; k_dflt (refine' name_BF ?nb1 ?nb2 ?nb3 ?nb4 ?nb5 ?nb6 ?nb7 ?_; (case nb1 => k_asm); (case nb2 => k_asm); (case nb3 => k_asm); (case nb4 => k_is); (case nb5 => boot_by_name); (case nb6 => decide +kernel); (case nb7 => exact rfl); k_whole)))
  k_with "eval Name" => ((k_here; name_kind "globalImplicit"; k_dflt (refine' name_KF ?nk1 ?nk2 ?nk3 ?nk4 ?nk5 ?nk6 ?_; (case nk1 => k_asm); (case nk2 => k_asm); (case nk3 => k_asm); (case nk4 => k_is); (case nk5 => decide +kernel); (case nk6 => exact rfl); k_whole)))
  k_with "eval Name" => ((k_here; name_kind "local"; k_dflt (refine' ldT ?lk1 ?lk2 ?lk3 ?lk4 ?_; (case lk1 => k_asm); (case lk2 => exact rfl); (case lk3 => decide +kernel); (case lk4 => exact rfl); k_whole)))
  k_with "eval Name" => ((k_here; name_kind "local"; k_dflt (refine' ldS ?ls1 ?ls2 ?ls3 ?ls4 ?ls5 ?_; (case ls1 => k_asm); (case ls2 => with_reducible k_extra "my seen"); (case ls3 => kernel_rfl!); (case ls4 => decide +kernel); (case ls5 => exact rfl); k_whole)))
  k_with "storeName" => ((k_here; k_dflt (refine' store_KF ?st1 ?st2 ?st3 ?st4 ?_; (case st1 => k_asm); (case st2 => k_asm); (case st3 => decide +kernel); (case st4 => exact rfl); k_whole); intro h' F' N'; (try k_sweep)))
  k_with "ite" => ((k_closed; k_dflt (first | refine ite_pos (by decide) ?_ | refine ite_neg (by decide) ?_)))
  k_with "call ref" => ((k_here; (with_reducible show wpAny _ _ (call (Value.ref 28) _) _ _ _); k_dflt (refine ctrI_use (c_isqrt_small _ _ _ (by k_extra "my side") (by k_extra "my side")) (by k_asm) (by k_asm) (by k_asm) (by k_asm) (by k_asm) (by first | exact rfl | assumption) (by ktr_room) (by ktr_units) ?_); k_extra "my I"))
  k_with "my wa" => (first | with_reducible assumption | omega)
  k_with "my strip" => (first | exact se1 (by k_extra "my wa") (by k_extra "my wa") (by k_extra "my wa") (by k_extra "my wa") | exact se2 (by k_extra "my wa") (by k_extra "my wa") (by k_extra "my wa") (by k_extra "my wa") | exact se3 (by k_extra "my wa") (by k_extra "my wa") (by k_extra "my wa") | exact se4 (by k_extra "my wa") (by k_extra "my wa") (by k_extra "my wa"))
  k_with "my round" => (first | exact ro1 (by k_extra "my wa") (by k_extra "my wa") (by k_extra "my wa") (by k_extra "my wa") | exact ro2 (by k_extra "my wa") (by k_extra "my wa") (by k_extra "my wa") (by k_extra "my wa") | exact rn1 (by k_extra "my wa") (by k_extra "my wa") (by k_extra "my wa") (by k_extra "my wa") | exact rn2 (by k_extra "my wa") (by k_extra "my wa") (by k_extra "my wa") (by k_extra "my wa") (by k_extra "my wa") (by k_extra "my wa") | exact rn3 (by k_extra "my wa") (by k_extra "my wa") (by k_extra "my wa") (by k_extra "my wa") (by k_extra "my wa") (by k_extra "my wa") (by k_extra "my wa") (by k_extra "my wa") (by k_extra "my wa") | exact rn4 (by k_extra "my wa") (by k_extra "my wa") (by k_extra "my wa") (by k_extra "my wa") (by k_extra "my wa") (by k_extra "my wa") (by k_extra "my wa") (by k_extra "my wa") (by k_extra "my wa"))
  k_with "my nf" => (first | (refine nf_lo (by k_extra "my wa") (by k_extra "my wa") ?_; k_extra "my strip") | (refine' nf_hi ?c9 ?d9 ?a9 ?b9; (case a9 => k_extra "my strip"); (case c9 => k_extra "my wa"); (case d9 => k_extra "my wa"); (case b9 => k_extra "my round")))
  k_with "call ref" => ((k_here; (with_reducible show wpAny _ _ (call (Value.ref 21) _) _ _ _); k_dflt (refine trailing_use (by k_asm) (by k_asm) (by k_asm) (by k_asm) (by k_asm) (by first | exact rfl | assumption) (by ktr_room) (by ktr_units) ?_); intro t9 h9 tk9 hz9 F9 N9; (try k_sweep); (try dsimp only); (try k_fold)))
  trivial
theorem c_norm_o {w : World} {mean : ExcName → Option Value} {mg mb : Str → Option Value} (news : List (Addr × Obj)) (way : Way) (sign man exp bc prec : Int) (t1 t2 t3 t4 t5 t6 : Tok) (hw : way ≠ .n) (hs : sign = 0 ∨ sign = 1) (h0 : 0 ≤ man) (hp : 1 ≤ prec) (hbc : bc = Builtin.Int.intBits man) (hb : bc ≤ 1000) :
    Ctr w mean mg mb 71 2 news [.int sign t1, .int man t2, .int exp t3, .int bc t4, .int prec t5, .str way.str t6] (fun r n' => MpIn n' r (normF way sign man exp bc prec)) := by
  have hne : (way.str == Str.ofString "n") = false := by cases way <;> first | exact absurd rfl hw | decide
  unfold Ctr
  k_fill
  intro dp un gd cn cs a ccd cl outer A₀ base h₀ L m s Q E B F X N T hk hdp hun hret
  k_extra "my start"
  k_with "my cut" => (refine via_int (fun v => (v ≠ 0 → wayDn way sign = true) ∧ (v = 0 → ¬ wayDn way sign = true)) ?_ ?_; cases way <;> (first | exact absurd rfl hw | (rcases hs with rfl | rfl)))
  k_extra "my steps"
  all_goals (try (first | (exact by decide) | ((with_reducible show ¬ (wayDn _ _ = true)); exfalso; omega) | ((with_reducible show wayDn _ _ = true); exfalso; omega)))
  all_goals first
    | exact hret _ _ _ _ (by with_reducible assumption) (by with_reducible assumption) (by k_extra "my sub") (mpIn_zero (nf_zero (by with_reducible assumption)))
    | exact hret _ _ _ _ (by with_reducible assumption) (by with_reducible assumption) (by k_extra "my sub") (mpIn_of' (by k_mem) (by k_extra "my nf") (normF_man_ne _ (by omega) hbc hp))
    | fail "no"
end
section
theorem c_norm0 {w : World} {mean : ExcName → Option Value} {mg mb : Str → Option Value} (news : List (Addr × Obj)) (way : Way) (sign man exp bc prec : Int) (t1 t2 t3 t4 t5 t6 : Tok) (hs : sign = 0 ∨ sign = 1) (h0 : 0 ≤ man) (hp : 1 ≤ prec) (hbc : bc = Builtin.Int.intBits man) (hb : bc ≤ 1000) :
    Ctr w mean mg mb 71 2 news [.int sign t1, .int man t2, .int exp t3, .int bc t4, .int prec t5, .str way.str t6] (fun r n' => MpIn n' r (normF way sign man exp bc prec)) := by
  by_cases hw : way = .n
  · subst hw
    exact c_norm_n news sign man exp bc prec t1 t2 t3 t4 t5 t6 h0 hp hbc hb
  · exact c_norm_o news way sign man exp bc prec t1 t2 t3 t4 t5 t6 hw hs h0 hp hbc hb
end
section
theorem su_C7_1 : True := by
  k_with_none
  k_with "my enter" => ((k_dflt (refine' code_def ?k1 ?k2 ?k3 ?k4 ?k5 ?kA ?kF ?kK ?k6 ?k7 ?k8 ?k9 ?kB ?_ ?c2 ?c3 ?c4 ?c5; (case kA => exact rfl); (case kF => exact rfl); (case kK => assumption); (case k1 => k_asm); (case k2 => k_asm); (case k3 => k_asm); (case k4 => k_asm); (case k5 => k_asm); (case k6 => k_is); (case k7 => k_is); (case k8 => ktr_room); (case k9 => first | exact BindsTo.of_eq rfl | exact binds_K (by k_in) rfl (by k_is) rfl rfl rfl); (case c5 => decide); (case kB => exact locs rfl); (case c2 => exact rfl); (case c3 => exact rfl); (case c4 => exact rfl); k_whole; intro g' L' h' FG' F' N' B' X' T'; (try dsimp only); (try k_lift B'); (try k_fold))))
  k_with "my start" => ((refine wpAny_call ?_; k_extra "my enter"; k_extra "my norm"))
  k_with "my steps" => (repeat' (first | (k_unfold; (try dsimp only)) | (k_end; wrow_close) | (law_purse 30000 => walk1) | (law_purse 30000 => (dsimp only; walk1)) | (leave1; try dsimp only) | fail "no step"))
  k_with "eval Subscript" => (k_extra "my cut")
  k_with "my omega" => (((try simp only [bne_iff_ne, beq_iff_eq, decide_eq_true_eq, ne_eq, Bool.not_eq_true', Bool.not_eq_false', beq_eq_false_iff_ne, bne_eq_false_iff_eq, decide_eq_false_iff_not]); omega))
  k_with "ite" => ((k_here; first | (refine ite_pos (by with_reducible assumption) ?_) | (refine ite_neg (by with_reducible assumption) ?_) | (refine ite_pos (by k_extra "my omega") ?_) | (refine ite_neg (by k_extra "my omega") ?_)))
  k_with "my arith" => (first | omega | decide | ((simp only [fdiv2, fdiv2', Int.reduceToNat, Int.toNat_one, Int.reducePow, Int.pow_one] at *); omega))
  k_with "binaryOp LShift int int" => ((k_here; (refine' lshift_hid (k := 5000) (by k_extra "my arith") (by bits_by_make) (by k_extra "my arith") (by decide) ?_); intro v9 hv9 hb9 hs9 hp9))
  k_with "inplaceOp LShift int int" => ((k_here; (refine' ilshift_hid (k := 5000) (by k_extra "my arith") (by bits_by_make) (by k_extra "my arith") (by decide) ?_); intro v9 hv9 hb9 hs9 hp9))
  k_with "binaryOp RShift int int" => ((k_here; (refine' rshift_hid (by k_extra "my arith") ?_); intro v9 hv9 hb9))
  k_with "inplaceOp RShift int int" => ((k_here; (refine' irshift_hid (by k_extra "my arith") ?_); intro v9 hv9 hb9))
  k_with "binaryOp BitAnd int int" => ((k_here; (refine' and_hid ?_); intro v9 hv9))
  k_with "binaryOp BitXor int int" => ((k_here; (refine' xor_hid ?_); intro v9 hv9))
  k_with "inplaceOp BitXor int int" => ((k_here; (refine' ixor_hid ?_); intro v9 hv9))
  k_with "binaryOp Mult int int" => ((k_here; (refine' mul_hid (by bits_by_make) (by bits_by_make) (by decide) ?_); intro v9 hv9 hb9 hz9 hn9))
  k_with "inplaceOp Mult int int" => ((k_here; (refine' imul_hid (by bits_by_make) (by bits_by_make) (by decide) ?_); intro v9 hv9 hb9 hz9 hn9))
  k_with "my open" => ((repeat ((rename Hid _ => hh9); (have hh9' := hh9.out); clear hh9; subst hh9')))
  k_with "binaryOp FloorDiv int int" => ((k_here; (refine' floordiv_int ?mb1 ?_ (Or.inl (PyProof.noPylong_of_log2 ?mb2))); (case mb1 => k_extra "my arith"); (case mb2 => (refine' log_of_bits ?mb3 ?mb4; (case mb3 => bits_by_make); (case mb4 => decide)))))
  k_with "exec" => ((k_here; (with_reducible show wpAny _ _ (PySem.exec (Stmt.While _ _ _ _) _) _ _ _); k_extra "my while"))
  k_with "my mp" => (first | with_reducible assumption | exact MpIn.zero | (refine MpIn.cons ?_; k_extra "my mp") | (refine MpIn.mono (by with_reducible assumption) ?_; k_extra "my mp"))
  k_with "my sub" => (first | with_reducible assumption | exact Sub.refl _ | (refine Sub.cons _ ?_; k_extra "my sub") | (refine Sub.trans ?_ (by with_reducible assumption); k_extra "my sub"))
  k_with "my side" => (first | with_reducible assumption | omega | bits_by_make)
  k_with "my side" => (first | ((with_reducible refine bits_side ?_); omega) | ((with_reducible refine bits_sideN ?_); omega))
  k_with "my I" => ((intro t9 h9 tk9 F9 N9; (try k_sweep); (try dsimp only); (try k_fold)))
  k_with "my M" => ((intro r9 n9 h9 tk9 F9 N9 S9 P9; (try k_sweep); (try dsimp only); (try k_fold)))
  k_with "my bd" => (first | (refine' Bd.cons ?be ?br; (case be => exact rfl); (case br => k_extra "my bd")) | exact Bd.nil rfl)
  k_with "my norm" => (((rename Fr _ _ _ _ => F9); (replace F9 := fr_bd F9 (by k_extra "my bd"))))
  k_with "my seen" => (first | exact Seen.hit | (refine' Seen.skip ?sk; (case sk => k_extra "my seen")))
  k_with "eval Name" => ((k_here; name_kind "globalImplicit"; k_dflt (refine' name_BF ?nb1 ?nb2 ?nb3 ?nb4 ?nb5 ?nb6 ?nb7 ?_; (case nb1 => k_asm); (case nb2 => k_asm); (case nb3 => k_asm); (case nb4 => k_is); (case nb5 => boot_by_name); (case nb6 => decide +kernel); (case nb7 => exact rfl); k_whole)))
  k_with "eval Name" => ((k_here; name_kind "globalImplicit"; k_dflt (refine' name_KF ?nk1 ?nk2 ?nk3 ?nk4 ?nk5 ?nk6 ?_; (case nk1 => k_asm); (case nk2 => k_asm); (case nk3 => k_asm); (case nk4 => k_is); (case nk5 => decide +kernel); (case nk6 => exact rfl); k_whole)))
  k_with "eval Name" => ((k_here; name_kind "local"; k_dflt (refine' ldT ?lk1 ?lk2 ?lk3 ?lk4 ?_; (case lk1 => k_asm); (case lk2 => exact rfl); (case lk3 => decide +kernel); (case lk4 => exact rfl); k_whole)))
  k_with "eval Name" => ((k_here; name_kind "local"; k_dflt (refine' ldS ?ls1 ?ls2 ?ls3 ?ls4 ?ls5 ?_; (case ls1 => k_asm); (case ls2 => with_reducible k_extra "my seen"); (case ls3 => kernel_rfl!); (case ls4 => decide +kernel); (case ls5 => exact rfl); k_whole)))
  k_with "storeName" => ((k_here; k_dflt (refine' store_KF ?st1 ?st2 ?st3 ?st4 ?_; (case st1 => k_asm); (case st2 => k_asm); (case st3 => decide +kernel); (case st4 => exact rfl); k_whole); intro h' F' N'; (try k_sweep)))
  k_with "ite" => ((k_closed; k_dflt (first | refine ite_pos (by decide) ?_ | refine ite_neg (by decide) ?_)))
  k_with "call ref" => ((k_here; (with_reducible show wpAny _ _ (call (Value.ref 28) _) _ _ _); k_dflt (refine ctrI_use (c_isqrt_small _ _ _ (by k_extra "my side") (by k_extra "my side")) (by k_asm) (by k_asm) (by k_asm) (by k_asm) (by k_asm) (by first | exact rfl | assumption) (by ktr_room) (by ktr_units) ?_); k_extra "my I"))
  k_with "call ref" => ((k_here; (with_reducible show wpAny _ _ (call (Value.ref 35) _) _ _ _); k_dflt (refine ctr_use (c_sqrtrem _ _ _ (by k_extra "my side") (by k_extra "my side")) (by k_asm) (by k_asm) (by k_asm) (by k_asm) (by k_asm) (by first | exact rfl | assumption) (by ktr_room) (by ktr_units) ?_); intro r9 n9 h9 tk9 F9 N9 S9 P9; cases P9; (try k_sweep); (try dsimp only); (try k_fold)))
  k_with "my wa" => (first | with_reducible assumption | omega)
  k_with "my strip" => (first | exact se1 (by k_extra "my wa") (by k_extra "my wa") (by k_extra "my wa") (by k_extra "my wa") | exact se2 (by k_extra "my wa") (by k_extra "my wa") (by k_extra "my wa") (by k_extra "my wa") | exact se3 (by k_extra "my wa") (by k_extra "my wa") (by k_extra "my wa") | exact se4 (by k_extra "my wa") (by k_extra "my wa") (by k_extra "my wa"))
  k_with "my round" => (first | exact ro1 (by k_extra "my wa") (by k_extra "my wa") (by k_extra "my wa") (by k_extra "my wa") | exact ro2 (by k_extra "my wa") (by k_extra "my wa") (by k_extra "my wa") (by k_extra "my wa") | exact rn1 (by k_extra "my wa") (by k_extra "my wa") (by k_extra "my wa") (by k_extra "my wa") | exact rn2 (by k_extra "my wa") (by k_extra "my wa") (by k_extra "my wa") (by k_extra "my wa") (by k_extra "my wa") (by k_extra "my wa") | exact rn3 (by k_extra "my wa") (by k_extra "my wa") (by k_extra "my wa") (by k_extra "my wa") (by k_extra "my wa") (by k_extra "my wa") (by k_extra "my wa") (by k_extra "my wa") (by k_extra "my wa") | exact rn4 (by k_extra "my wa") (by k_extra "my wa") (by k_extra "my wa") (by k_extra "my wa") (by k_extra "my wa") (by k_extra "my wa") (by k_extra "my wa") (by k_extra "my wa") (by k_extra "my wa"))
  k_with "my nf" => (first | (refine nf_lo (by k_extra "my wa") (by k_extra "my wa") ?_; k_extra "my strip") | (refine' nf_hi ?c9 ?d9 ?a9 ?b9; (case a9 => k_extra "my strip"); (case c9 => k_extra "my wa"); (case d9 => k_extra "my wa"); (case b9 => k_extra "my round")))
  k_with "call ref" => ((k_here; (with_reducible show wpAny _ _ (call (Value.ref 21) _) _ _ _); k_dflt (refine trailing_use (by k_asm) (by k_asm) (by k_asm) (by k_asm) (by k_asm) (by first | exact rfl | assumption) (by ktr_room) (by ktr_units) ?_); intro t9 h9 tk9 hz9 F9 N9; (try k_sweep); (try dsimp only); (try k_fold)))
  k_with "call ref" => ((k_here; (with_reducible show wpAny _ _ (call (Value.ref 71) _) _ _ _); k_dflt (refine ctr_use (c_norm0 _ _ _ _ _ _ _ _ _ _ _ _ _ (by k_extra "my side") (by k_extra "my side") (by k_extra "my side") (by k_extra "my side") (by k_extra "my side")) (by k_asm) (by k_asm) (by k_asm) (by k_asm) (by k_asm) (by first | exact rfl | assumption) (by ktr_room) (by ktr_units) ?_); k_extra "my M"))
  trivial
theorem c_norm {w : World} {mean : ExcName → Option Value} {mg mb : Str → Option Value} (news : List (Addr × Obj)) (way : Way) (sign man exp bc prec : Int) (t1 t2 t3 t4 t5 t6 : Tok) (hs : sign = 0 ∨ sign = 1) (h0 : 0 ≤ man) (hp : 1 ≤ prec) (hbc : bc = Builtin.Int.intBits man) (hb : bc ≤ 1000) :
    Ctr w mean mg mb 78 3 news [.int sign t1, .int man t2, .int exp t3, .int bc t4, .int prec t5, .str way.str t6] (fun r n' => MpIn n' r (normF way sign man exp bc prec)) := by
  unfold Ctr
  k_fill
  intro dp un gd cn cs a ccd cl outer A₀ base h₀ L m s Q E B F X N T hk hdp hun hret
  k_extra "my start"
  k_extra "my steps"
  all_goals exact hret _ _ _ _ (by with_reducible assumption) (by with_reducible assumption) (by k_extra "my sub") (by k_extra "my mp")
end
section
theorem su_C8_1 : True := by
  k_with_none
  k_with "my enter" => ((k_dflt (refine' code_def ?k1 ?k2 ?k3 ?k4 ?k5 ?kA ?kF ?kK ?k6 ?k7 ?k8 ?k9 ?kB ?_ ?c2 ?c3 ?c4 ?c5; (case kA => exact rfl); (case kF => exact rfl); (case kK => assumption); (case k1 => k_asm); (case k2 => k_asm); (case k3 => k_asm); (case k4 => k_asm); (case k5 => k_asm); (case k6 => k_is); (case k7 => k_is); (case k8 => ktr_room); (case k9 => first | exact BindsTo.of_eq rfl | exact binds_K (by k_in) rfl (by k_is) rfl rfl rfl); (case c5 => decide); (case kB => exact locs rfl); (case c2 => exact rfl); (case c3 => exact rfl); (case c4 => exact rfl); k_whole; intro g' L' h' FG' F' N' B' X' T'; (try dsimp only); (try k_lift B'); (try k_fold))))
  k_with "my start" => ((refine wpAny_call ?_; k_extra "my enter"; k_extra "my norm"))
  k_with "my steps" => (repeat' (first | (k_unfold; (try dsimp only)) | (k_end; wrow_close) | (law_purse 30000 => walk1) | (law_purse 30000 => (dsimp only; walk1)) | (leave1; try dsimp only) | fail "no step"))
  k_with "eval Subscript" => (k_extra "my cut")
  k_with "my omega" => (((try simp only [bne_iff_ne, beq_iff_eq, decide_eq_true_eq, ne_eq, Bool.not_eq_true', Bool.not_eq_false', beq_eq_false_iff_ne, bne_eq_false_iff_eq, decide_eq_false_iff_not]); omega))
  k_with "ite" => ((k_here; first | (refine ite_pos (by with_reducible assumption) ?_) | (refine ite_neg (by with_reducible assumption) ?_) | (refine ite_pos (by k_extra "my omega") ?_) | (refine ite_neg (by k_extra "my omega") ?_)))
  k_with "my arith" => (first | omega | decide | ((simp only [fdiv2, fdiv2', Int.reduceToNat, Int.toNat_one, Int.reducePow, Int.pow_one] at *); omega))
  k_with "binaryOp LShift int int" => ((k_here; (refine' lshift_hid (k := 5000) (by k_extra "my arith") (by bits_by_make) (by k_extra "my arith") (by decide) ?_); intro v9 hv9 hb9 hs9 hp9))
  k_with "inplaceOp LShift int int" => ((k_here; (refine' ilshift_hid (k := 5000) (by k_extra "my arith") (by bits_by_make) (by k_extra "my arith") (by decide) ?_); intro v9 hv9 hb9 hs9 hp9))
  k_with "binaryOp RShift int int" => ((k_here; (refine' rshift_hid (by k_extra "my arith") ?_); intro v9 hv9 hb9))
  k_with "inplaceOp RShift int int" => ((k_here; (refine' irshift_hid (by k_extra "my arith") ?_); intro v9 hv9 hb9))
  k_with "binaryOp BitAnd int int" => ((k_here; (refine' and_hid ?_); intro v9 hv9))
  k_with "binaryOp BitXor int int" => ((k_here; (refine' xor_hid ?_); intro v9 hv9))
  k_with "inplaceOp BitXor int int" => ((k_here; (refine' ixor_hid ?_); intro v9 hv9))
  k_with "binaryOp Mult int int" => ((k_here; (refine' mul_hid (by bits_by_make) (by bits_by_make) (by decide) ?_); intro v9 hv9 hb9 hz9 hn9))
  k_with "inplaceOp Mult int int" => ((k_here; (refine' imul_hid (by bits_by_make) (by bits_by_make) (by decide) ?_); intro v9 hv9 hb9 hz9 hn9))
  k_with "my open" => ((repeat ((rename Hid _ => hh9); (have hh9' := hh9.out); clear hh9; subst hh9')))
  k_with "binaryOp FloorDiv int int" => ((k_here; (refine' floordiv_int ?mb1 ?_ (Or.inl (PyProof.noPylong_of_log2 ?mb2))); (case mb1 => k_extra "my arith"); (case mb2 => (refine' log_of_bits ?mb3 ?mb4; (case mb3 => bits_by_make); (case mb4 => decide)))))
  k_with "exec" => ((k_here; (with_reducible show wpAny _ _ (PySem.exec (Stmt.While _ _ _ _) _) _ _ _); k_extra "my while"))
  k_with "my mp" => (first | with_reducible assumption | exact MpIn.zero | (refine MpIn.cons ?_; k_extra "my mp") | (refine MpIn.mono (by with_reducible assumption) ?_; k_extra "my mp"))
  k_with "my sub" => (first | with_reducible assumption | exact Sub.refl _ | (refine Sub.cons _ ?_; k_extra "my sub") | (refine Sub.trans ?_ (by with_reducible assumption); k_extra "my sub"))
  k_with "my side" => (first | with_reducible assumption | omega | bits_by_make)
  k_with "my side" => (first | ((with_reducible refine bits_side ?_); omega) | ((with_reducible refine bits_sideN ?_); omega))
  k_with "my I" => ((intro t9 h9 tk9 F9 N9; (try k_sweep); (try dsimp only); (try k_fold)))
  k_with "my M" => ((intro r9 n9 h9 tk9 F9 N9 S9 P9; (try k_sweep); (try dsimp only); (try k_fold)))
  k_with "my bd" => (first | (refine' Bd.cons ?be ?br; (case be => exact rfl); (case br => k_extra "my bd")) | exact Bd.nil rfl)
  k_with "my norm" => (((rename Fr _ _ _ _ => F9); (replace F9 := fr_bd F9 (by k_extra "my bd"))))
  k_with "my seen" => (first | exact Seen.hit | (refine' Seen.skip ?sk; (case sk => k_extra "my seen")))
  k_with "eval Name" => ((k_here; name_kind "globalImplicit"; k_dflt (refine' name_BF ?nb1 ?nb2 ?nb3 ?nb4 ?nb5 ?nb6 ?nb7 ?_; (case nb1 => k_asm); (case nb2 => k_asm); (case nb3 => k_asm); (case nb4 => k_is); (case nb5 => boot_by_name); (case nb6 => decide +kernel); (case nb7 => exact rfl); k_whole)))
  k_with "eval Name" => ((k_here; name_kind "globalImplicit"; k_dflt (refine' name_KF ?nk1 ?nk2 ?nk3 ?nk4 ?nk5 ?nk6 ?_; (case nk1 => k_asm); (case nk2 => k_asm); (case nk3 => k_asm); (case nk4 => k_is); (case nk5 => decide +kernel); (case nk6 => exact rfl); k_whole)))
  k_with "eval Name" => ((k_here; name_kind "local"; k_dflt (refine' ldT ?lk1 ?lk2 ?lk3 ?lk4 ?_; (case lk1 => k_asm); (case lk2 => exact rfl); (case lk3 => decide +kernel); (case lk4 => exact rfl); k_whole)))
  k_with "eval Name" => ((k_here; name_kind "local"; k_dflt (refine' ldS ?ls1 ?ls2 ?ls3 ?ls4 ?ls5 ?_; (case ls1 => k_asm); (case ls2 => with_reducible k_extra "my seen"); (case ls3 => kernel_rfl!); (case ls4 => decide +kernel); (case ls5 => exact rfl); k_whole)))
  k_with "storeName" => ((k_here; k_dflt (refine' store_KF ?st1 ?st2 ?st3 ?st4 ?_; (case st1 => k_asm); (case st2 => k_asm); (case st3 => decide +kernel); (case st4 => exact rfl); k_whole); intro h' F' N'; (try k_sweep)))
  k_with "ite" => ((k_closed; k_dflt (first | refine ite_pos (by decide) ?_ | refine ite_neg (by decide) ?_)))
  k_with "call ref" => ((k_here; (with_reducible show wpAny _ _ (call (Value.ref 28) _) _ _ _); k_dflt (refine ctrI_use (c_isqrt_small _ _ _ (by k_extra "my side") (by k_extra "my side")) (by k_asm) (by k_asm) (by k_asm) (by k_asm) (by k_asm) (by first | exact rfl | assumption) (by ktr_room) (by ktr_units) ?_); k_extra "my I"))
  k_with "call ref" => ((k_here; (with_reducible show wpAny _ _ (call (Value.ref 35) _) _ _ _); k_dflt (refine ctr_use (c_sqrtrem _ _ _ (by k_extra "my side") (by k_extra "my side")) (by k_asm) (by k_asm) (by k_asm) (by k_asm) (by k_asm) (by first | exact rfl | assumption) (by ktr_room) (by ktr_units) ?_); intro r9 n9 h9 tk9 F9 N9 S9 P9; cases P9; (try k_sweep); (try dsimp only); (try k_fold)))
  k_with "my wa" => (first | with_reducible assumption | omega)
  k_with "my strip" => (first | exact se1 (by k_extra "my wa") (by k_extra "my wa") (by k_extra "my wa") (by k_extra "my wa") | exact se2 (by k_extra "my wa") (by k_extra "my wa") (by k_extra "my wa") (by k_extra "my wa") | exact se3 (by k_extra "my wa") (by k_extra "my wa") (by k_extra "my wa") | exact se4 (by k_extra "my wa") (by k_extra "my wa") (by k_extra "my wa"))
  k_with "my round" => (first | exact ro1 (by k_extra "my wa") (by k_extra "my wa") (by k_extra "my wa") (by k_extra "my wa") | exact ro2 (by k_extra "my wa") (by k_extra "my wa") (by k_extra "my wa") (by k_extra "my wa") | exact rn1 (by k_extra "my wa") (by k_extra "my wa") (by k_extra "my wa") (by k_extra "my wa") | exact rn2 (by k_extra "my wa") (by k_extra "my wa") (by k_extra "my wa") (by k_extra "my wa") (by k_extra "my wa") (by k_extra "my wa") | exact rn3 (by k_extra "my wa") (by k_extra "my wa") (by k_extra "my wa") (by k_extra "my wa") (by k_extra "my wa") (by k_extra "my wa") (by k_extra "my wa") (by k_extra "my wa") (by k_extra "my wa") | exact rn4 (by k_extra "my wa") (by k_extra "my wa") (by k_extra "my wa") (by k_extra "my wa") (by k_extra "my wa") (by k_extra "my wa") (by k_extra "my wa") (by k_extra "my wa") (by k_extra "my wa"))
  k_with "my nf" => (first | (refine nf_lo (by k_extra "my wa") (by k_extra "my wa") ?_; k_extra "my strip") | (refine' nf_hi ?c9 ?d9 ?a9 ?b9; (case a9 => k_extra "my strip"); (case c9 => k_extra "my wa"); (case d9 => k_extra "my wa"); (case b9 => k_extra "my round")))
  k_with "call ref" => ((k_here; (with_reducible show wpAny _ _ (call (Value.ref 21) _) _ _ _); k_dflt (refine trailing_use (by k_asm) (by k_asm) (by k_asm) (by k_asm) (by k_asm) (by first | exact rfl | assumption) (by ktr_room) (by ktr_units) ?_); intro t9 h9 tk9 hz9 F9 N9; (try k_sweep); (try dsimp only); (try k_fold)))
  k_with "call ref" => ((k_here; (with_reducible show wpAny _ _ (call (Value.ref 71) _) _ _ _); k_dflt (refine ctr_use (c_norm0 _ _ _ _ _ _ _ _ _ _ _ _ _ (by k_extra "my side") (by k_extra "my side") (by k_extra "my side") (by k_extra "my side") (by k_extra "my side")) (by k_asm) (by k_asm) (by k_asm) (by k_asm) (by k_asm) (by first | exact rfl | assumption) (by ktr_room) (by ktr_units) ?_); k_extra "my M"))
  k_with "call ref" => ((k_here; (with_reducible show wpAny _ _ (call (Value.ref 78) _) _ _ _); k_dflt (refine ctr_use (c_norm _ _ _ _ _ _ _ _ _ _ _ _ _ (by k_extra "my side") (by k_extra "my side") (by k_extra "my side") (by k_extra "my side") (by k_extra "my side")) (by k_asm) (by k_asm) (by k_asm) (by k_asm) (by k_asm) (by first | exact rfl | assumption) (by ktr_room) (by ktr_units) ?_); k_extra "my M"))
  k_with "call ref" => ((k_here; (with_reducible show wpAny _ _ (call (Value.ref 21) _) _ _ _); k_dflt (refine trailing_use (by k_asm) (by k_asm) (by k_asm) (by k_asm) (by k_asm) (by first | exact rfl | assumption) (by ktr_room) (by ktr_units) ?_); intro t9 h9 tk9 hz9 F9 N9; (try k_sweep); (try dsimp only); (try k_fold)))
  trivial
theorem fme_eq {m e M s : Int} {d : Mp} (hd : enc s M e = d) (h : (m < 0 ∧ s = 1 ∧ M = -m) ∨ (0 ≤ m ∧ s = 0 ∧ M = m)) : fme m e = d := by
  rw [← hd]
  unfold fme sg
  rcases h with ⟨h1, h2, h3⟩ | ⟨h1, h2, h3⟩
  · rw [if_pos h1, h2, h3]; congr 1; omega
  · rw [if_neg (by omega), h2, h3]; congr 1; omega
theorem fme_zero {m e : Int} (h : m = 0) : fme m e = Mp.zero := by
  subst h; simp [fme, enc]
theorem fme_ne {m e : Int} (h : m ≠ 0) : (fme m e).man ≠ 0 := enc_man_ne (by omega)
theorem fme_eqS {m e m2 e2 b s : Int} (hd : ∃ M, enc s M e = ⟨s, m2, e2, b⟩ ∧ ((m < 0 ∧ s = 1 ∧ M = -m) ∨ (0 ≤ m ∧ s = 0 ∧ M = m))) : fme m e = ⟨s, m2, e2, b⟩ := by
  obtain ⟨M, h1, h2⟩ := hd
  exact fme_eq h1 h2
theorem su_C8_2 : True := by
  k_with "my fm" => (first | exact fm_odd (by with_reducible assumption) (by with_reducible assumption) (by omega) | exact fm_two (by with_reducible assumption) (by with_reducible assumption) (by with_reducible assumption) (by with_reducible assumption) (by with_reducible assumption) (by omega) | exact fm_tr (by with_reducible assumption) (by omega))
  trivial
theorem c_fme {w : World} {mean : ExcName → Option Value} {mg mb : Str → Option Value} (news : List (Addr × Obj)) (m e : Int) (t1 t2 : Tok) (hb : Builtin.Int.intBits m ≤ 900) :
    Ctr w mean mg mb 86 4 news [.int m t1, .int e t2] (fun r n' => MpIn n' r (fme m e)) := by
  unfold Ctr
  k_fill
  intro dp un gd cn cs a ccd cl outer A₀ base h₀ L m' s Q E B F X N T hk hdp hun hret
  k_extra "my start"
  k_extra "my steps"
  all_goals first
    | exact hret _ _ _ _ (by with_reducible assumption) (by with_reducible assumption) (by k_extra "my sub") (mpIn_zero (fme_zero (by omega)))
    | exact hret _ _ _ _ (by with_reducible assumption) (by with_reducible assumption) (by k_extra "my sub") (mpIn_of' (by k_mem) (fme_eqS (by first | exact ⟨m, by k_extra "my fm", by omega⟩ | exact ⟨-m, by k_extra "my fm", by omega⟩)) (fme_ne (by omega)))
    | fail "no"
theorem c_fme0 {w : World} {mean : ExcName → Option Value} {mg mb : Str → Option Value} (news : List (Addr × Obj)) (m e : Int) (t1 t2 t3 t4 : Tok) (hb : Builtin.Int.intBits m ≤ 900) :
    Ctr w mean mg mb 86 4 news [.int m t1, .int e t2, .int 0 t3, .str (Str.ofString "d") t4] (fun r n' => MpIn n' r (fme m e)) := by
  unfold Ctr
  k_fill
  intro dp un gd cn cs a ccd cl outer A₀ base h₀ L m' s Q E B F X N T hk hdp hun hret
  k_extra "my start"
  k_extra "my steps"
  all_goals first
    | exact hret _ _ _ _ (by with_reducible assumption) (by with_reducible assumption) (by k_extra "my sub") (mpIn_zero (fme_zero (by omega)))
    | exact hret _ _ _ _ (by with_reducible assumption) (by with_reducible assumption) (by k_extra "my sub") (mpIn_of' (by k_mem) (fme_eqS (by first | exact ⟨m, by k_extra "my fm", by omega⟩ | exact ⟨-m, by k_extra "my fm", by omega⟩)) (fme_ne (by omega)))
    | fail "no"
theorem c_fmeR {w : World} {mean : ExcName → Option Value} {mg mb : Str → Option Value} (news : List (Addr × Obj)) (way : Way) (m e p : Int) (t1 t2 t3 t4 : Tok) (hm : 0 < m) (hp : 1 ≤ p) (hb : Builtin.Int.intBits m ≤ 900) :
    Ctr w mean mg mb 86 4 news [.int m t1, .int e t2, .int p t3, .str way.str t4] (fun r n' => MpIn n' r (rnd way p 0 m e)) := by
  unfold Ctr
  k_fill
  intro dp un gd cn cs a ccd cl outer A₀ base h₀ L m' s Q E B F X N T hk hdp hun hret
  k_extra "my start"
  k_extra "my steps"
  all_goals first
    | exact hret _ _ _ _ (by with_reducible assumption) (by with_reducible assumption) (by k_extra "my sub") (by k_extra "my mp")
    | fail "no"
end
section
theorem su_C9_1 : True := by
  k_with_none
  k_with "my enter" => ((k_dflt (refine' code_def ?k1 ?k2 ?k3 ?k4 ?k5 ?kA ?kF ?kK ?k6 ?k7 ?k8 ?k9 ?kB ?_ ?c2 ?c3 ?c4 ?c5; (case kA => exact rfl); (case kF => exact rfl); (case kK => assumption); (case k1 => k_asm); (case k2 => k_asm); (case k3 => k_asm); (case k4 => k_asm); (case k5 => k_asm); (case k6 => k_is); (case k7 => k_is); (case k8 => ktr_room); (case k9 => first | exact BindsTo.of_eq rfl | exact binds_K (by k_in) rfl (by k_is) rfl rfl rfl); (case c5 => decide); (case kB => exact locs rfl); (case c2 => exact rfl); (case c3 => exact rfl); (case c4 => exact rfl); k_whole; intro g' L' h' FG' F' N' B' X' T'; (try dsimp only); (try k_lift B'); (try k_fold))))
  k_with "my start" => ((refine wpAny_call ?_; k_extra "my enter"; k_extra "my norm"))
  k_with "my steps" => (repeat' (first | (k_unfold; (try dsimp only)) | (k_end; wrow_close) | (law_purse 30000 => walk1) | (law_purse 30000 => (dsimp only; walk1)) | (leave1; try dsimp only) | fail "no step"))
  k_with "eval Subscript" => (k_extra "my cut")
  k_with "my omega" => (((try simp only [bne_iff_ne, beq_iff_eq, decide_eq_true_eq, ne_eq, Bool.not_eq_true', Bool.not_eq_false', beq_eq_false_iff_ne, bne_eq_false_iff_eq, decide_eq_false_iff_not]); omega))
  k_with "ite" => ((k_here; first | (refine ite_pos (by with_reducible assumption) ?_) | (refine ite_neg (by with_reducible assumption) ?_) | (refine ite_pos (by k_extra "my omega") ?_) | (refine ite_neg (by k_extra "my omega") ?_)))
  k_with "my arith" => (first | omega | decide | ((simp only [fdiv2, fdiv2', Int.reduceToNat, Int.toNat_one, Int.reducePow, Int.pow_one] at *); omega))
  k_with "binaryOp LShift int int" => ((k_here; (refine' lshift_hid (k := 5000) (by k_extra "my arith") (by bits_by_make) (by k_extra "my arith") (by decide) ?_); intro v9 hv9 hb9 hs9 hp9))
  k_with "inplaceOp LShift int int" => ((k_here; (refine' ilshift_hid (k := 5000) (by k_extra "my arith") (by bits_by_make) (by k_extra "my arith") (by decide) ?_); intro v9 hv9 hb9 hs9 hp9))
  k_with "binaryOp RShift int int" => ((k_here; (refine' rshift_hid (by k_extra "my arith") ?_); intro v9 hv9 hb9))
  k_with "inplaceOp RShift int int" => ((k_here; (refine' irshift_hid (by k_extra "my arith") ?_); intro v9 hv9 hb9))
  k_with "binaryOp BitAnd int int" => ((k_here; (refine' and_hid ?_); intro v9 hv9))
  k_with "binaryOp BitXor int int" => ((k_here; (refine' xor_hid ?_); intro v9 hv9))
  k_with "inplaceOp BitXor int int" => ((k_here; (refine' ixor_hid ?_); intro v9 hv9))
  k_with "binaryOp Mult int int" => ((k_here; (refine' mul_hid (by bits_by_make) (by bits_by_make) (by decide) ?_); intro v9 hv9 hb9 hz9 hn9))
  k_with "inplaceOp Mult int int" => ((k_here; (refine' imul_hid (by bits_by_make) (by bits_by_make) (by decide) ?_); intro v9 hv9 hb9 hz9 hn9))
  k_with "my open" => ((repeat ((rename Hid _ => hh9); (have hh9' := hh9.out); clear hh9; subst hh9')))
  k_with "binaryOp FloorDiv int int" => ((k_here; (refine' floordiv_int ?mb1 ?_ (Or.inl (PyProof.noPylong_of_log2 ?mb2))); (case mb1 => k_extra "my arith"); (case mb2 => (refine' log_of_bits ?mb3 ?mb4; (case mb3 => bits_by_make); (case mb4 => decide)))))
  k_with "exec" => ((k_here; (with_reducible show wpAny _ _ (PySem.exec (Stmt.While _ _ _ _) _) _ _ _); k_extra "my while"))
  k_with "my mp" => (first | with_reducible assumption | exact MpIn.zero | (refine MpIn.cons ?_; k_extra "my mp") | (refine MpIn.mono (by with_reducible assumption) ?_; k_extra "my mp"))
  k_with "my sub" => (first | with_reducible assumption | exact Sub.refl _ | (refine Sub.cons _ ?_; k_extra "my sub") | (refine Sub.trans ?_ (by with_reducible assumption); k_extra "my sub"))
  k_with "my side" => (first | with_reducible assumption | omega | bits_by_make)
  k_with "my side" => (first | ((with_reducible refine bits_side ?_); omega) | ((with_reducible refine bits_sideN ?_); omega))
  k_with "my I" => ((intro t9 h9 tk9 F9 N9; (try k_sweep); (try dsimp only); (try k_fold)))
  k_with "my M" => ((intro r9 n9 h9 tk9 F9 N9 S9 P9; (try k_sweep); (try dsimp only); (try k_fold)))
  k_with "my bd" => (first | (refine' Bd.cons ?be ?br; (case be => exact rfl); (case br => k_extra "my bd")) | exact Bd.nil rfl)
  k_with "my norm" => (((rename Fr _ _ _ _ => F9); (replace F9 := fr_bd F9 (by k_extra "my bd"))))
  k_with "my seen" => (first | exact Seen.hit | (refine' Seen.skip ?sk; (case sk => k_extra "my seen")))
  k_with "eval Name" => ((k_here; name_kind "globalImplicit"; k_dflt (refine' name_BF ?nb1 ?nb2 ?nb3 ?nb4 ?nb5 ?nb6 ?nb7 ?_; (case nb1 => k_asm); (case nb2 => k_asm); (case nb3 => k_asm); (case nb4 => k_is); (case nb5 => boot_by_name); (case nb6 => decide +kernel); (case nb7 => exact rfl); k_whole)))
  k_with "eval Name" => ((k_here; name_kind "globalImplicit"; k_dflt (refine' name_KF ?nk1 ?nk2 ?nk3 ?nk4 ?nk5 ?nk6 ?_; (case nk1 => k_asm); (case nk2 => k_asm); (case nk3 => k_asm); (case nk4 => k_is); (case nk5 => decide +kernel); (case nk6 => exact rfl); k_whole)))
  k_with "eval Name" => ((k_here; name_kind "local"; k_dflt (refine' ldT ?lk1 ?lk2 ?lk3 ?lk4 ?_; (case lk1 => k_asm); (case lk2 => exact rfl); (case lk3 => decide +kernel); (case lk4 => exact rfl); k_whole)))
  k_with "eval Name" => ((k_here; name_kind "local"; k_dflt (refine' ldS ?ls1 ?ls2 ?ls3 ?ls4 ?ls5 ?_; (case ls1 => k_asm); (case ls2 => with_reducible k_extra "my seen"); (case ls3 => kernel_rfl!); (case ls4 => decide +kernel); (case ls5 => exact rfl); k_whole)))
  k_with "storeName" => ((k_here; k_dflt (refine' store_KF ?st1 ?st2 ?st3 ?st4 ?_; (case st1 => k_asm); (case st2 => k_asm); (case st3 => decide +kernel); (case st4 => exact rfl); k_whole); intro h' F' N'; (try k_sweep)))
  k_with "ite" => ((k_closed; k_dflt (first | refine ite_pos (by decide) ?_ | refine ite_neg (by decide) ?_)))
  k_with "call ref" => ((k_here; (with_reducible show wpAny _ _ (call (Value.ref 28) _) _ _ _); k_dflt (refine ctrI_use (c_isqrt_small _ _ _ (by k_extra "my side") (by k_extra "my side")) (by k_asm) (by k_asm) (by k_asm) (by k_asm) (by k_asm) (by first | exact rfl | assumption) (by ktr_room) (by ktr_units) ?_); k_extra "my I"))
  k_with "call ref" => ((k_here; (with_reducible show wpAny _ _ (call (Value.ref 35) _) _ _ _); k_dflt (refine ctr_use (c_sqrtrem _ _ _ (by k_extra "my side") (by k_extra "my side")) (by k_asm) (by k_asm) (by k_asm) (by k_asm) (by k_asm) (by first | exact rfl | assumption) (by ktr_room) (by ktr_units) ?_); intro r9 n9 h9 tk9 F9 N9 S9 P9; cases P9; (try k_sweep); (try dsimp only); (try k_fold)))
  k_with "my wa" => (first | with_reducible assumption | omega)
  k_with "my strip" => (first | exact se1 (by k_extra "my wa") (by k_extra "my wa") (by k_extra "my wa") (by k_extra "my wa") | exact se2 (by k_extra "my wa") (by k_extra "my wa") (by k_extra "my wa") (by k_extra "my wa") | exact se3 (by k_extra "my wa") (by k_extra "my wa") (by k_extra "my wa") | exact se4 (by k_extra "my wa") (by k_extra "my wa") (by k_extra "my wa"))
  k_with "my round" => (first | exact ro1 (by k_extra "my wa") (by k_extra "my wa") (by k_extra "my wa") (by k_extra "my wa") | exact ro2 (by k_extra "my wa") (by k_extra "my wa") (by k_extra "my wa") (by k_extra "my wa") | exact rn1 (by k_extra "my wa") (by k_extra "my wa") (by k_extra "my wa") (by k_extra "my wa") | exact rn2 (by k_extra "my wa") (by k_extra "my wa") (by k_extra "my wa") (by k_extra "my wa") (by k_extra "my wa") (by k_extra "my wa") | exact rn3 (by k_extra "my wa") (by k_extra "my wa") (by k_extra "my wa") (by k_extra "my wa") (by k_extra "my wa") (by k_extra "my wa") (by k_extra "my wa") (by k_extra "my wa") (by k_extra "my wa") | exact rn4 (by k_extra "my wa") (by k_extra "my wa") (by k_extra "my wa") (by k_extra "my wa") (by k_extra "my wa") (by k_extra "my wa") (by k_extra "my wa") (by k_extra "my wa") (by k_extra "my wa"))
  k_with "my nf" => (first | (refine nf_lo (by k_extra "my wa") (by k_extra "my wa") ?_; k_extra "my strip") | (refine' nf_hi ?c9 ?d9 ?a9 ?b9; (case a9 => k_extra "my strip"); (case c9 => k_extra "my wa"); (case d9 => k_extra "my wa"); (case b9 => k_extra "my round")))
  k_with "call ref" => ((k_here; (with_reducible show wpAny _ _ (call (Value.ref 21) _) _ _ _); k_dflt (refine trailing_use (by k_asm) (by k_asm) (by k_asm) (by k_asm) (by k_asm) (by first | exact rfl | assumption) (by ktr_room) (by ktr_units) ?_); intro t9 h9 tk9 hz9 F9 N9; (try k_sweep); (try dsimp only); (try k_fold)))
  k_with "call ref" => ((k_here; (with_reducible show wpAny _ _ (call (Value.ref 71) _) _ _ _); k_dflt (refine ctr_use (c_norm0 _ _ _ _ _ _ _ _ _ _ _ _ _ (by k_extra "my side") (by k_extra "my side") (by k_extra "my side") (by k_extra "my side") (by k_extra "my side")) (by k_asm) (by k_asm) (by k_asm) (by k_asm) (by k_asm) (by first | exact rfl | assumption) (by ktr_room) (by ktr_units) ?_); k_extra "my M"))
  k_with "call ref" => ((k_here; (with_reducible show wpAny _ _ (call (Value.ref 78) _) _ _ _); k_dflt (refine ctr_use (c_norm _ _ _ _ _ _ _ _ _ _ _ _ _ (by k_extra "my side") (by k_extra "my side") (by k_extra "my side") (by k_extra "my side") (by k_extra "my side")) (by k_asm) (by k_asm) (by k_asm) (by k_asm) (by k_asm) (by first | exact rfl | assumption) (by ktr_room) (by ktr_units) ?_); k_extra "my M"))
  k_with "call ref" => ((k_here; (with_reducible show wpAny _ _ (call (Value.ref 21) _) _ _ _); k_dflt (refine trailing_use (by k_asm) (by k_asm) (by k_asm) (by k_asm) (by k_asm) (by first | exact rfl | assumption) (by ktr_room) (by ktr_units) ?_); intro t9 h9 tk9 hz9 F9 N9; (try k_sweep); (try dsimp only); (try k_fold)))
  k_with "my fm" => (first | exact fm_odd (by with_reducible assumption) (by with_reducible assumption) (by omega) | exact fm_two (by with_reducible assumption) (by with_reducible assumption) (by with_reducible assumption) (by with_reducible assumption) (by with_reducible assumption) (by omega) | exact fm_tr (by with_reducible assumption) (by omega))
  k_with "call ref" => ((k_here; (with_reducible show wpAny _ _ (call (Value.ref 86) [_, _]) _ _ _); k_dflt (refine ctr_use (c_fme _ _ _ _ _ (by k_extra "my side")) (by k_asm) (by k_asm) (by k_asm) (by k_asm) (by k_asm) (by first | exact rfl | assumption) (by ktr_room) (by ktr_units) ?_); k_extra "my M"))
  k_with "call ref" => ((k_here; (with_reducible show wpAny _ _ (call (Value.ref 86) [_, _, Value.int 0 _, _]) _ _ _); k_dflt (refine ctr_use (c_fme0 _ _ _ _ _ _ _ (by k_extra "my side")) (by k_asm) (by k_asm) (by k_asm) (by k_asm) (by k_asm) (by first | exact rfl | assumption) (by ktr_room) (by ktr_units) ?_); k_extra "my M"))
  k_with "call ref" => ((k_here; (with_reducible show wpAny _ _ (call (Value.ref 86) [_, _, Value.int _ _, _]) _ _ _); k_dflt (refine ctr_use (c_fmeR _ _ _ _ _ _ _ _ _ (by k_extra "my side") (by k_extra "my side") (by k_extra "my side")) (by k_asm) (by k_asm) (by k_asm) (by k_asm) (by k_asm) (by first | exact rfl | assumption) (by ktr_room) (by ktr_units) ?_); k_extra "my M"))
  trivial
theorem c_from_int {w : World} {mean : ExcName → Option Value} {mg mb : Str → Option Value} (news : List (Addr × Obj)) (n : Int) (t1 : Tok) (hb : Builtin.Int.intBits n ≤ 900) :
    Ctr w mean mg mb 94 5 news [.int n t1] (fun r n' => MpIn n' r (fme n 0)) := by
  unfold Ctr
  k_fill
  intro dp un gd cn cs a ccd cl outer A₀ base h₀ L m' s Q E B F X N T hk hdp hun hret
  k_extra "my start"
  k_extra "my steps"
  all_goals first
    | exact hret _ _ _ _ (by with_reducible assumption) (by with_reducible assumption) (by k_extra "my sub") (by k_extra "my mp")
    | fail "no"
theorem c_neg {w : World} {mean : ExcName → Option Value} {mg mb : Str → Option Value} (news : List (Addr × Obj)) (v : Value) (d : Mp)  (h : MpIn news v d) (ok : Ok d) :
    Ctr w mean mg mb 110 4 news [v] (fun r n' => MpIn n' r (negF d)) := by
  unfold Ctr
  k_fill
  intro dp un gd cn cs a ccd cl outer A₀ base h₀ L m' s Q E B F X N T hk hdp hun hret
  obtain ⟨o1, o2, o3, o4, o5, o6, o7⟩ := ok
  obtain ⟨sg, mn, ex, bc⟩ := d
  have hh := h
  cases h
  · k_extra "my start"
    k_extra "my steps"
    all_goals first
      | exact hret _ _ _ _ (by with_reducible assumption) (by with_reducible assumption) (by k_extra "my sub") (mpIn_zero rfl)
      | fail "no"
  · rename_i hz hm
    dsimp only at hz hm o1 o2 o3 o4 o5 o6
    k_extra "my start"
    k_extra "my steps"
    all_goals first
      | exact hret _ _ _ _ (by with_reducible assumption) (by with_reducible assumption) (by k_extra "my sub") (mpIn_of (by k_mem) (by omega) (if_neg (by assumption)))
      | fail "no"
theorem c_abs {w : World} {mean : ExcName → Option Value} {mg mb : Str → Option Value} (news : List (Addr × Obj)) (v : Value) (d : Mp)  (h : MpIn news v d) (ok : Ok d) :
    Ctr w mean mg mb 118 4 news [v] (fun r n' => MpIn n' r (absF d)) := by
  unfold Ctr
  k_fill
  intro dp un gd cn cs a ccd cl outer A₀ base h₀ L m' s Q E B F X N T hk hdp hun hret
  obtain ⟨o1, o2, o3, o4, o5, o6, o7⟩ := ok
  obtain ⟨sg, mn, ex, bc⟩ := d
  have hh := h
  cases h
  · k_extra "my start"
    k_extra "my steps"
    all_goals first
      | exact hret _ _ _ _ (by with_reducible assumption) (by with_reducible assumption) (by k_extra "my sub") (mpIn_zero rfl)
      | fail "no"
  · rename_i hz hm
    dsimp only at hz hm o1 o2 o3 o4 o5 o6
    k_extra "my start"
    k_extra "my steps"
    all_goals first
      | exact hret _ _ _ _ (by with_reducible assumption) (by with_reducible assumption) (by k_extra "my sub") (mpIn_of (by k_mem) (by omega) (if_neg (by assumption)))
      | exact hret _ _ _ _ (by with_reducible assumption) (by with_reducible assumption) (by k_extra "my sub") (mpIn_cast (by k_extra "my mp") (by unfold absF; rw [if_neg (by assumption)]; congr 1; omega))
      | fail "no"
theorem c_absR {w : World} {mean : ExcName → Option Value} {mg mb : Str → Option Value} (news : List (Addr × Obj)) (v : Value) (d : Mp) (way : Way) (p : Int) (t2 t3 : Tok) (h : MpIn news v d) (ok : Ok d) (hp : 1 ≤ p) :
    Ctr w mean mg mb 118 4 news [v, .int p t2, .str way.str t3] (fun r n' => MpIn n' r (rnd way p 0 d.man d.exp)) := by
  unfold Ctr
  k_fill
  intro dp un gd cn cs a ccd cl outer A₀ base h₀ L m' s Q E B F X N T hk hdp hun hret
  obtain ⟨o1, o2, o3, o4, o5, o6, o7⟩ := ok
  obtain ⟨sg, mn, ex, bc⟩ := d
  have hh := h
  cases h
  · k_extra "my start"
    k_extra "my steps"
    all_goals first
      | exact hret _ _ _ _ (by with_reducible assumption) (by with_reducible assumption) (by k_extra "my sub") (mpIn_cast (by k_extra "my mp") (by first | rfl | (rw [rnd_zero])))
      | exact hret _ _ _ _ (by with_reducible assumption) (by with_reducible assumption) (by k_extra "my sub") (by k_extra "my mp")
      | exact hret _ _ _ _ (by with_reducible assumption) (by with_reducible assumption) (by k_extra "my sub") (mpIn_zero (rnd_zero _ _ _ _))
      | fail "no"
  · rename_i hz hm
    dsimp only at hz hm o1 o2 o3 o4 o5 o6
    k_extra "my start"
    k_extra "my steps"
    all_goals first
      | exact hret _ _ _ _ (by with_reducible assumption) (by with_reducible assumption) (by k_extra "my sub") (mpIn_cast (by k_extra "my mp") (by dsimp only at *; subst o3; rfl))
      | fail "no"
theorem c_shift {w : World} {mean : ExcName → Option Value} {mg mb : Str → Option Value} (news : List (Addr × Obj)) (v : Value) (d : Mp) (n : Int) (t2 : Tok) (h : MpIn news v d) (ok : Ok d) :
    Ctr w mean mg mb 156 2 news [v, .int n t2] (fun r n' => MpIn n' r (shiftF d n)) := by
  unfold Ctr
  k_fill
  intro dp un gd cn cs a ccd cl outer A₀ base h₀ L m' s Q E B F X N T hk hdp hun hret
  obtain ⟨o1, o2, o3, o4, o5, o6, o7⟩ := ok
  obtain ⟨sg, mn, ex, bc⟩ := d
  have hh := h
  cases h
  · k_extra "my start"
    k_extra "my steps"
    all_goals first
      | exact hret _ _ _ _ (by with_reducible assumption) (by with_reducible assumption) (by k_extra "my sub") (mpIn_zero rfl)
      | fail "no"
  · rename_i hz hm
    dsimp only at hz hm o1 o2 o3 o4 o5 o6
    k_extra "my start"
    k_extra "my steps"
    all_goals first
      | exact hret _ _ _ _ (by with_reducible assumption) (by with_reducible assumption) (by k_extra "my sub") (mpIn_of (by k_mem) (by omega) (if_neg (by assumption)))
      | fail "no"
end
section
open PySem PySem.W PyProof.Rows PySem.Calls
set_option maxHeartbeats 4000000
section
variable {prog : Program} {w : World} {A : Around} {E : Value → Shared → Prop} {s : Shared} {a b : Int} {t u : Tok} {Q : Value → Shared → Prop} {h₀ : Heap} {L : Addr} {m : Str → Option Value} {news : List (Addr × Obj)}
theorem divmod_hid {k j : Nat} (F : Fr h₀ L s.heap m) (N : News h₀ L s.heap news) (hb : b ≠ 0) (ha : Builtin.Int.intBits a ≤ j) (hk : Builtin.Int.intBits b ≤ k) (hk9 : k ≤ 9000)
    (h : ∀ D h' tk t1 t2 q r, Hid (q = a.fdiv b ∧ r = a.fmod b) → Builtin.Int.intBits q ≤ j → ((Builtin.Int.intBits q : Int) ≤ Builtin.Int.intBits a) → Builtin.Int.intBits r ≤ k → (a < 0 ∨ b < 0 ∨ (0 ≤ q ∧ 0 ≤ r ∧ r < b)) → Fr h₀ L h' m → News h₀ L h' ((D, tup2 q r t1 t2 0) :: news) → Q (.ref D) { s with heap := h', toks := tk }) :
    wpAny (model prog w) A (call (.builtin "divmod") [.int a t, .int b u]) Q E s :=
  divmod_N (h₀ := h₀) (L := L) (m := m) F N hb (hp := .inl (PyProof.noPylong_of_log2 (log_of_bits hk hk9))) fun h' F' N' => h _ h' _ _ _ _ _ ⟨rfl, rfl⟩ (bits_fdiv ha) (by have := bits_fdiv (b := b) (Nat.le_refl (Builtin.Int.intBits a)); omega) (bits_fmod_by hb hk) (by
    by_cases h1 : a < 0
    · exact .inl h1
    · by_cases h2 : b < 0
      · exact .inr (.inl h2)
      · right; right
        have hb0 : 0 < b := by omega
        rw [Int.fdiv_eq_ediv_of_nonneg _ (by omega), Int.fmod_eq_emod_of_nonneg _ (by omega)]
        exact ⟨Int.ediv_nonneg (by omega) (by omega), Int.emod_nonneg _ hb, Int.emod_lt_of_pos _ hb0⟩) F' N'
end
section
variable {w : World} {A : Around} {E : Value → Shared → Prop} {s : Shared} {Q : Value → Shared → Prop} {h₀ : Heap} {L : Addr} {m : Str → Option Value} {news : List (Addr × Obj)} {prog : Program}
open PySem.Spec
theorem zero_at (P : Params) : (hd.heap_39 P).lookup 56 = some { cls := .type "tuple", data := .seq #[.int 0 255, .int 0 187, .int 0 256, .int 0 257] } := by rfl
theorem mpIn_reads {v : Value} {d : Mp} (F : Fr h₀ L s.heap m) (X : (hd.heap_39 w.params).In h₀) (N : News h₀ L s.heap news) (h : MpIn news v d) : Reads s.heap v (.tuple [.int d.sign, .int d.man, .int d.exp, .int d.bc]) [] := by
  cases h with
  | zero => exact reads_tuple_at (F.keep _ _ (X _ _ (zero_at _))) rfl rfl (ReadsAll.cons (Reads.int _ _) (ReadsAll.cons (Reads.int _ _) (ReadsAll.cons (Reads.int _ _) (ReadsAll.cons (Reads.int _ _) ReadsAll.nil))))
  | tup hn h => exact reads_tuple_at (N.get h) rfl rfl (ReadsAll.cons (Reads.int _ _) (ReadsAll.cons (Reads.int _ _) (ReadsAll.cons (Reads.int _ _) (ReadsAll.cons (Reads.int _ _) ReadsAll.nil))))
theorem mp_eqv (d e : Mp) : PyData.eqv (.tuple [.int d.sign, .int d.man, .int d.exp, .int d.bc]) (.tuple [.int e.sign, .int e.man, .int e.exp, .int e.bc]) = decide (d = e) := by
  have := ked_eqvAll [d.sign, d.man, d.exp, d.bc] [e.sign, e.man, e.exp, e.bc]
  simp only [List.map_cons, List.map_nil] at this
  simp only [PyData.eqv]
  rw [this]
  congr 1
  cases d; cases e
  simp
theorem eq_mp {v1 v2 : Value} {d e : Mp} (F : Fr h₀ L s.heap m) (X : (hd.heap_39 w.params).In h₀) (N : News h₀ L s.heap news) (h1 : MpIn news v1 d) (h2 : MpIn news v2 e) (hu : A.units + 64 < cLine)
    (h : Q (.bool (decide (d = e))) s) : wpAny (model prog w) A (compareOp .Eq v1 v2) Q E s :=
  eq_dataH (mpIn_reads F X N h1) (mpIn_reads F X N h2) rfl rfl hu (by rw [mp_eqv]; exact h)
theorem nan_at (P : Params) : (hd.heap_39 P).lookup 57 = some { cls := .type "tuple", data := .seq #[.int 0 259, .int 0 187, .int (-123) 261, .int (-1) 263] } := by rfl
theorem eq_mp_nan {v1 : Value} {d : Mp} (F : Fr h₀ L s.heap m) (X : (hd.heap_39 w.params).In h₀) (N : News h₀ L s.heap news) (h1 : MpIn news v1 d) (hu : A.units + 64 < cLine) (hd0 : d.man ≠ 0)
    (h : Q (.bool false) s) : wpAny (model prog w) A (compareOp .Eq v1 (.ref 57)) Q E s :=
  eq_dataH (mpIn_reads F X N h1) (reads_tuple_at (F.keep _ _ (X _ _ (nan_at _))) rfl rfl (ReadsAll.cons (Reads.int _ _) (ReadsAll.cons (Reads.int _ _) (ReadsAll.cons (Reads.int _ _) (ReadsAll.cons (Reads.int _ _) ReadsAll.nil))))) rfl rfl hu (by
    rw [mp_eqv d ⟨0, 0, -123, -1⟩, decide_eq_false (fun q => hd0 (congrArg Mp.man q))]; exact h)
theorem eq_mp_t {v1 v2 : Value} {d e : Mp} (F : Fr h₀ L s.heap m) (X : (hd.heap_39 w.params).In h₀) (N : News h₀ L s.heap news) (h1 : MpIn news v1 d) (h2 : MpIn news v2 e) (hu : A.units + 64 < cLine) (hde : d = e)
    (h : Q (.bool true) s) : wpAny (model prog w) A (compareOp .Eq v1 v2) Q E s :=
  eq_mp F X N h1 h2 hu (by rw [decide_eq_true hde]; exact h)
theorem eq_mp_f {v1 v2 : Value} {d e : Mp} (F : Fr h₀ L s.heap m) (X : (hd.heap_39 w.params).In h₀) (N : News h₀ L s.heap news) (h1 : MpIn news v1 d) (h2 : MpIn news v2 e) (hu : A.units + 64 < cLine) (hde : d.man ≠ e.man)
    (h : Q (.bool false) s) : wpAny (model prog w) A (compareOp .Eq v1 v2) Q E s :=
  eq_mp F X N h1 h2 hu (by rw [decide_eq_false (fun q => hde (congrArg Mp.man q))]; exact h)
theorem ne_mp {v1 v2 : Value} {d e : Mp} (F : Fr h₀ L s.heap m) (X : (hd.heap_39 w.params).In h₀) (N : News h₀ L s.heap news) (h1 : MpIn news v1 d) (h2 : MpIn news v2 e) (hu : A.units + 64 < cLine)
    (h : Q (.bool (!decide (d = e))) s) : wpAny (model prog w) A (compareOp .NotEq v1 v2) Q E s :=
  ne_dataH (mpIn_reads F X N h1) (mpIn_reads F X N h2) rfl rfl hu (by rw [mp_eqv]; exact h)
end
end
section
theorem su_C10_1 : True := by
  k_with_none
  k_with "my enter" => ((k_dflt (refine' code_def ?k1 ?k2 ?k3 ?k4 ?k5 ?kA ?kF ?kK ?k6 ?k7 ?k8 ?k9 ?kB ?_ ?c2 ?c3 ?c4 ?c5; (case kA => exact rfl); (case kF => exact rfl); (case kK => assumption); (case k1 => k_asm); (case k2 => k_asm); (case k3 => k_asm); (case k4 => k_asm); (case k5 => k_asm); (case k6 => k_is); (case k7 => k_is); (case k8 => ktr_room); (case k9 => first | exact BindsTo.of_eq rfl | exact binds_K (by k_in) rfl (by k_is) rfl rfl rfl); (case c5 => decide); (case kB => exact locs rfl); (case c2 => exact rfl); (case c3 => exact rfl); (case c4 => exact rfl); k_whole; intro g' L' h' FG' F' N' B' X' T'; (try dsimp only); (try k_lift B'); (try k_fold))))
  k_with "my start" => ((refine wpAny_call ?_; k_extra "my enter"; k_extra "my norm"))
  k_with "my steps" => (repeat' (first | (k_unfold; (try dsimp only)) | (k_end; wrow_close) | (law_purse 30000 => walk1) | (law_purse 30000 => (dsimp only; walk1)) | (leave1; try dsimp only) | fail "no step"))
  k_with "eval Subscript" => (k_extra "my cut")
  k_with "my omega" => (((try simp only [bne_iff_ne, beq_iff_eq, decide_eq_true_eq, ne_eq, Bool.not_eq_true', Bool.not_eq_false', beq_eq_false_iff_ne, bne_eq_false_iff_eq, decide_eq_false_iff_not]); omega))
  k_with "ite" => ((k_here; first | (refine ite_pos (by with_reducible assumption) ?_) | (refine ite_neg (by with_reducible assumption) ?_) | (refine ite_pos (by k_extra "my omega") ?_) | (refine ite_neg (by k_extra "my omega") ?_)))
  k_with "my arith" => (first | omega | decide | ((simp only [fdiv2, fdiv2', Int.reduceToNat, Int.toNat_one, Int.reducePow, Int.pow_one] at *); omega))
  k_with "binaryOp LShift int int" => ((k_here; (refine' lshift_hid (k := 5000) (by k_extra "my arith") (by bits_by_make) (by k_extra "my arith") (by decide) ?_); intro v9 hv9 hb9 hs9 hp9))
  k_with "inplaceOp LShift int int" => ((k_here; (refine' ilshift_hid (k := 5000) (by k_extra "my arith") (by bits_by_make) (by k_extra "my arith") (by decide) ?_); intro v9 hv9 hb9 hs9 hp9))
  k_with "binaryOp RShift int int" => ((k_here; (refine' rshift_hid (by k_extra "my arith") ?_); intro v9 hv9 hb9))
  k_with "inplaceOp RShift int int" => ((k_here; (refine' irshift_hid (by k_extra "my arith") ?_); intro v9 hv9 hb9))
  k_with "binaryOp BitAnd int int" => ((k_here; (refine' and_hid ?_); intro v9 hv9))
  k_with "binaryOp BitXor int int" => ((k_here; (refine' xor_hid ?_); intro v9 hv9))
  k_with "inplaceOp BitXor int int" => ((k_here; (refine' ixor_hid ?_); intro v9 hv9))
  k_with "binaryOp Mult int int" => ((k_here; (refine' mul_hid (by bits_by_make) (by bits_by_make) (by decide) ?_); intro v9 hv9 hb9 hz9 hn9))
  k_with "inplaceOp Mult int int" => ((k_here; (refine' imul_hid (by bits_by_make) (by bits_by_make) (by decide) ?_); intro v9 hv9 hb9 hz9 hn9))
  k_with "my open" => ((repeat ((rename Hid _ => hh9); (have hh9' := hh9.out); clear hh9; subst hh9')))
  k_with "binaryOp FloorDiv int int" => ((k_here; (refine' floordiv_int ?mb1 ?_ (Or.inl (PyProof.noPylong_of_log2 ?mb2))); (case mb1 => k_extra "my arith"); (case mb2 => (refine' log_of_bits ?mb3 ?mb4; (case mb3 => bits_by_make); (case mb4 => decide)))))
  k_with "exec" => ((k_here; (with_reducible show wpAny _ _ (PySem.exec (Stmt.While _ _ _ _) _) _ _ _); k_extra "my while"))
  k_with "my mp" => (first | with_reducible assumption | exact MpIn.zero | (refine MpIn.cons ?_; k_extra "my mp") | (refine MpIn.mono (by with_reducible assumption) ?_; k_extra "my mp"))
  k_with "my sub" => (first | with_reducible assumption | exact Sub.refl _ | (refine Sub.cons _ ?_; k_extra "my sub") | (refine Sub.trans ?_ (by with_reducible assumption); k_extra "my sub"))
  k_with "my side" => (first | with_reducible assumption | omega | bits_by_make)
  k_with "my side" => (first | ((with_reducible refine bits_side ?_); omega) | ((with_reducible refine bits_sideN ?_); omega))
  k_with "my I" => ((intro t9 h9 tk9 F9 N9; (try k_sweep); (try dsimp only); (try k_fold)))
  k_with "my M" => ((intro r9 n9 h9 tk9 F9 N9 S9 P9; (try k_sweep); (try dsimp only); (try k_fold)))
  k_with "my bd" => (first | (refine' Bd.cons ?be ?br; (case be => exact rfl); (case br => k_extra "my bd")) | exact Bd.nil rfl)
  k_with "my norm" => (((rename Fr _ _ _ _ => F9); (replace F9 := fr_bd F9 (by k_extra "my bd"))))
  k_with "my seen" => (first | exact Seen.hit | (refine' Seen.skip ?sk; (case sk => k_extra "my seen")))
  k_with "eval Name" => ((k_here; name_kind "globalImplicit"; k_dflt (refine' name_BF ?nb1 ?nb2 ?nb3 ?nb4 ?nb5 ?nb6 ?nb7 ?_; (case nb1 => k_asm); (case nb2 => k_asm); (case nb3 => k_asm); (case nb4 => k_is); (case nb5 => boot_by_name); (case nb6 => decide +kernel); (case nb7 => exact rfl); k_whole)))
  k_with "eval Name" => ((k_here; name_kind "globalImplicit"; k_dflt (refine' name_KF ?nk1 ?nk2 ?nk3 ?nk4 ?nk5 ?nk6 ?_; (case nk1 => k_asm); (case nk2 => k_asm); (case nk3 => k_asm); (case nk4 => k_is); (case nk5 => decide +kernel); (case nk6 => exact rfl); k_whole)))
  k_with "eval Name" => ((k_here; name_kind "local"; k_dflt (refine' ldT ?lk1 ?lk2 ?lk3 ?lk4 ?_; (case lk1 => k_asm); (case lk2 => exact rfl); (case lk3 => decide +kernel); (case lk4 => exact rfl); k_whole)))
  k_with "eval Name" => ((k_here; name_kind "local"; k_dflt (refine' ldS ?ls1 ?ls2 ?ls3 ?ls4 ?ls5 ?_; (case ls1 => k_asm); (case ls2 => with_reducible k_extra "my seen"); (case ls3 => kernel_rfl!); (case ls4 => decide +kernel); (case ls5 => exact rfl); k_whole)))
  k_with "storeName" => ((k_here; k_dflt (refine' store_KF ?st1 ?st2 ?st3 ?st4 ?_; (case st1 => k_asm); (case st2 => k_asm); (case st3 => decide +kernel); (case st4 => exact rfl); k_whole); intro h' F' N'; (try k_sweep)))
  k_with "ite" => ((k_closed; k_dflt (first | refine ite_pos (by decide) ?_ | refine ite_neg (by decide) ?_)))
  k_with "call ref" => ((k_here; (with_reducible show wpAny _ _ (call (Value.ref 28) _) _ _ _); k_dflt (refine ctrI_use (c_isqrt_small _ _ _ (by k_extra "my side") (by k_extra "my side")) (by k_asm) (by k_asm) (by k_asm) (by k_asm) (by k_asm) (by first | exact rfl | assumption) (by ktr_room) (by ktr_units) ?_); k_extra "my I"))
  k_with "call ref" => ((k_here; (with_reducible show wpAny _ _ (call (Value.ref 35) _) _ _ _); k_dflt (refine ctr_use (c_sqrtrem _ _ _ (by k_extra "my side") (by k_extra "my side")) (by k_asm) (by k_asm) (by k_asm) (by k_asm) (by k_asm) (by first | exact rfl | assumption) (by ktr_room) (by ktr_units) ?_); intro r9 n9 h9 tk9 F9 N9 S9 P9; cases P9; (try k_sweep); (try dsimp only); (try k_fold)))
  k_with "my wa" => (first | with_reducible assumption | omega)
  k_with "my strip" => (first | exact se1 (by k_extra "my wa") (by k_extra "my wa") (by k_extra "my wa") (by k_extra "my wa") | exact se2 (by k_extra "my wa") (by k_extra "my wa") (by k_extra "my wa") (by k_extra "my wa") | exact se3 (by k_extra "my wa") (by k_extra "my wa") (by k_extra "my wa") | exact se4 (by k_extra "my wa") (by k_extra "my wa") (by k_extra "my wa"))
  k_with "my round" => (first | exact ro1 (by k_extra "my wa") (by k_extra "my wa") (by k_extra "my wa") (by k_extra "my wa") | exact ro2 (by k_extra "my wa") (by k_extra "my wa") (by k_extra "my wa") (by k_extra "my wa") | exact rn1 (by k_extra "my wa") (by k_extra "my wa") (by k_extra "my wa") (by k_extra "my wa") | exact rn2 (by k_extra "my wa") (by k_extra "my wa") (by k_extra "my wa") (by k_extra "my wa") (by k_extra "my wa") (by k_extra "my wa") | exact rn3 (by k_extra "my wa") (by k_extra "my wa") (by k_extra "my wa") (by k_extra "my wa") (by k_extra "my wa") (by k_extra "my wa") (by k_extra "my wa") (by k_extra "my wa") (by k_extra "my wa") | exact rn4 (by k_extra "my wa") (by k_extra "my wa") (by k_extra "my wa") (by k_extra "my wa") (by k_extra "my wa") (by k_extra "my wa") (by k_extra "my wa") (by k_extra "my wa") (by k_extra "my wa"))
  k_with "my nf" => (first | (refine nf_lo (by k_extra "my wa") (by k_extra "my wa") ?_; k_extra "my strip") | (refine' nf_hi ?c9 ?d9 ?a9 ?b9; (case a9 => k_extra "my strip"); (case c9 => k_extra "my wa"); (case d9 => k_extra "my wa"); (case b9 => k_extra "my round")))
  k_with "call ref" => ((k_here; (with_reducible show wpAny _ _ (call (Value.ref 21) _) _ _ _); k_dflt (refine trailing_use (by k_asm) (by k_asm) (by k_asm) (by k_asm) (by k_asm) (by first | exact rfl | assumption) (by ktr_room) (by ktr_units) ?_); intro t9 h9 tk9 hz9 F9 N9; (try k_sweep); (try dsimp only); (try k_fold)))
  k_with "call ref" => ((k_here; (with_reducible show wpAny _ _ (call (Value.ref 71) _) _ _ _); k_dflt (refine ctr_use (c_norm0 _ _ _ _ _ _ _ _ _ _ _ _ _ (by k_extra "my side") (by k_extra "my side") (by k_extra "my side") (by k_extra "my side") (by k_extra "my side")) (by k_asm) (by k_asm) (by k_asm) (by k_asm) (by k_asm) (by first | exact rfl | assumption) (by ktr_room) (by ktr_units) ?_); k_extra "my M"))
  k_with "call ref" => ((k_here; (with_reducible show wpAny _ _ (call (Value.ref 78) _) _ _ _); k_dflt (refine ctr_use (c_norm _ _ _ _ _ _ _ _ _ _ _ _ _ (by k_extra "my side") (by k_extra "my side") (by k_extra "my side") (by k_extra "my side") (by k_extra "my side")) (by k_asm) (by k_asm) (by k_asm) (by k_asm) (by k_asm) (by first | exact rfl | assumption) (by ktr_room) (by ktr_units) ?_); k_extra "my M"))
  k_with "call ref" => ((k_here; (with_reducible show wpAny _ _ (call (Value.ref 21) _) _ _ _); k_dflt (refine trailing_use (by k_asm) (by k_asm) (by k_asm) (by k_asm) (by k_asm) (by first | exact rfl | assumption) (by ktr_room) (by ktr_units) ?_); intro t9 h9 tk9 hz9 F9 N9; (try k_sweep); (try dsimp only); (try k_fold)))
  k_with "my fm" => (first | exact fm_odd (by with_reducible assumption) (by with_reducible assumption) (by omega) | exact fm_two (by with_reducible assumption) (by with_reducible assumption) (by with_reducible assumption) (by with_reducible assumption) (by with_reducible assumption) (by omega) | exact fm_tr (by with_reducible assumption) (by omega))
  k_with "call ref" => ((k_here; (with_reducible show wpAny _ _ (call (Value.ref 86) [_, _]) _ _ _); k_dflt (refine ctr_use (c_fme _ _ _ _ _ (by k_extra "my side")) (by k_asm) (by k_asm) (by k_asm) (by k_asm) (by k_asm) (by first | exact rfl | assumption) (by ktr_room) (by ktr_units) ?_); k_extra "my M"))
  k_with "call ref" => ((k_here; (with_reducible show wpAny _ _ (call (Value.ref 86) [_, _, Value.int 0 _, _]) _ _ _); k_dflt (refine ctr_use (c_fme0 _ _ _ _ _ _ _ (by k_extra "my side")) (by k_asm) (by k_asm) (by k_asm) (by k_asm) (by k_asm) (by first | exact rfl | assumption) (by ktr_room) (by ktr_units) ?_); k_extra "my M"))
  k_with "call ref" => ((k_here; (with_reducible show wpAny _ _ (call (Value.ref 86) [_, _, Value.int _ _, _]) _ _ _); k_dflt (refine ctr_use (c_fmeR _ _ _ _ _ _ _ _ _ (by k_extra "my side") (by k_extra "my side") (by k_extra "my side")) (by k_asm) (by k_asm) (by k_asm) (by k_asm) (by k_asm) (by first | exact rfl | assumption) (by ktr_room) (by ktr_units) ?_); k_extra "my M"))
  k_with "call ref" => ((k_here; (with_reducible show wpAny _ _ (call (Value.ref 78) _) _ _ _); k_dflt (refine ctr_use (c_norm _ _ _ _ _ _ _ _ _ _ _ _ _ (by k_extra "my side") (by k_extra "my side") (by k_extra "my side") (by k_extra "my side") (by k_extra "my side")) (by k_asm) (by k_asm) (by k_asm) (by k_asm) (by k_asm) (by first | exact rfl | assumption) (by ktr_room) (by ktr_units) ?_); k_extra "my M"))
  trivial
theorem mulF_eq {way : Way} {p s M : Int} {x y : Mp} (hs : Hid (s = Builtin.bitXor x.sign y.sign)) (hM : Hid (M = x.man * y.man)) (hx : x.sign = 0 ∨ x.sign = 1) (hy : y.sign = 0 ∨ y.sign = 1) : mulF way p x y = normF way s M (x.exp + y.exp) (Builtin.Int.intBits M) p := by
  unfold mulF
  rw [← xor1_of hs hx hy, ← hM.out]
theorem mulF_z {way : Way} {p : Int} {x y : Mp} (h : x.man = 0 ∨ y.man = 0) : mulF way p x y = Mp.zero := by
  unfold mulF
  rcases h with h | h <;> rw [h] <;> simp [rnd, normF]
theorem mulX_eq {s M : Int} {x y : Mp} (hs : Hid (s = Builtin.bitXor x.sign y.sign)) (hM : Hid (M = x.man * y.man)) (hx : x.sign = 0 ∨ x.sign = 1) (hy : y.sign = 0 ∨ y.sign = 1) (h0 : M ≠ 0) : mulX x y = ⟨s, M, x.exp + y.exp, Builtin.Int.intBits M⟩ := by
  unfold mulX
  rw [← xor1_of hs hx hy, ← hM.out, if_neg h0]
theorem mulX_z {x y : Mp} (h : x.man = 0 ∨ y.man = 0) : mulX x y = Mp.zero := by
  unfold mulX
  rcases h with h | h <;> rw [h] <;> simp
theorem su_C10_2 : True := by
  k_with "my side" => (exact xor1_01 (by with_reducible assumption) (by with_reducible assumption) (by with_reducible assumption))
  trivial
theorem c_mul {w : World} {mean : ExcName → Option Value} {mg mb : Str → Option Value} (news : List (Addr × Obj)) (v1 v2 : Value) (x y : Mp) (way : Way) (p : Int) (t3 t4 : Tok) (h1 : MpIn news v1 x) (h2 : MpIn news v2 y) (ok1 : Ok x) (ok2 : Ok y) (hp : 1 ≤ p) :
    Ctr w mean mg mb 141 4 news [v1, v2, .int p t3, .str way.str t4] (fun r n' => MpIn n' r (mulF way p x y)) := by
  unfold Ctr
  k_fill
  intro dp un gd cn cs a ccd cl outer A₀ base h₀ L m' s Q E B F X N T hk hdp hun hret
  obtain ⟨o1, o2, o3, o4, o5, o6, o7⟩ := ok1
  obtain ⟨u1, u2, u3, u4, u5, u6, u7⟩ := ok2
  obtain ⟨xs, xm, xe, xb⟩ := x
  obtain ⟨ys, ym, ye, yb⟩ := y
  have hh1 := h1
  have hh2 := h2
  rcases h1 with _ | ⟨hz, hm⟩ <;> rcases h2 with _ | ⟨hz', hm'⟩
  all_goals (try dsimp only at hz hm)
  all_goals (try dsimp only at hz' hm')
  all_goals dsimp only at o1 o2 o3 o4 o5 o6 u1 u2 u3 u4 u5 u6
  all_goals k_extra "my start"
  all_goals k_extra "my steps"
  all_goals first
    | exact hret _ _ _ _ (by with_reducible assumption) (by with_reducible assumption) (by k_extra "my sub") (mpIn_zero (mulF_z (by dsimp only [Mp.zero]; omega)))
    | exact hret _ _ _ _ (by with_reducible assumption) (by with_reducible assumption) (by k_extra "my sub") (mpIn_cast (by k_extra "my mp") (mulF_eq (x := ⟨xs, xm, xe, xb⟩) (y := ⟨ys, ym, ye, yb⟩) (by with_reducible assumption) (by with_reducible assumption) o1 u1))
    | fail "no"
theorem c_mulX {w : World} {mean : ExcName → Option Value} {mg mb : Str → Option Value} (news : List (Addr × Obj)) (v1 v2 : Value) (x y : Mp)  (h1 : MpIn news v1 x) (h2 : MpIn news v2 y) (ok1 : Ok x) (ok2 : Ok y) :
    Ctr w mean mg mb 141 4 news [v1, v2] (fun r n' => MpIn n' r (mulX x y)) := by
  unfold Ctr
  k_fill
  intro dp un gd cn cs a ccd cl outer A₀ base h₀ L m' s Q E B F X N T hk hdp hun hret
  obtain ⟨o1, o2, o3, o4, o5, o6, o7⟩ := ok1
  obtain ⟨u1, u2, u3, u4, u5, u6, u7⟩ := ok2
  obtain ⟨xs, xm, xe, xb⟩ := x
  obtain ⟨ys, ym, ye, yb⟩ := y
  have hh1 := h1
  have hh2 := h2
  rcases h1 with _ | ⟨hz, hm⟩ <;> rcases h2 with _ | ⟨hz', hm'⟩
  all_goals (try dsimp only at hz hm)
  all_goals (try dsimp only at hz' hm')
  all_goals dsimp only at o1 o2 o3 o4 o5 o6 u1 u2 u3 u4 u5 u6
  all_goals k_extra "my start"
  all_goals k_extra "my steps"
  all_goals first
    | exact hret _ _ _ _ (by with_reducible assumption) (by with_reducible assumption) (by k_extra "my sub") (mpIn_zero (mulX_z (by dsimp only [Mp.zero]; omega)))
    | exact hret _ _ _ _ (by with_reducible assumption) (by with_reducible assumption) (by k_extra "my sub") (mpIn_of (by k_mem) (by omega) (mulX_eq (x := ⟨xs, xm, xe, xb⟩) (y := ⟨ys, ym, ye, yb⟩) (by with_reducible assumption) (by with_reducible assumption) o1 u1 (by omega)))
    | fail "no"
end
section
theorem su_C11_1 : True := by
  k_with_none
  k_with "my enter" => ((k_dflt (refine' code_def ?k1 ?k2 ?k3 ?k4 ?k5 ?kA ?kF ?kK ?k6 ?k7 ?k8 ?k9 ?kB ?_ ?c2 ?c3 ?c4 ?c5; (case kA => exact rfl); (case kF => exact rfl); (case kK => assumption); (case k1 => k_asm); (case k2 => k_asm); (case k3 => k_asm); (case k4 => k_asm); (case k5 => k_asm); (case k6 => k_is); (case k7 => k_is); (case k8 => ktr_room); (case k9 => first | exact BindsTo.of_eq rfl | exact binds_K (by k_in) rfl (by k_is) rfl rfl rfl); (case c5 => decide); (case kB => exact locs rfl); (case c2 => exact rfl); (case c3 => exact rfl); (case c4 => exact rfl); k_whole; intro g' L' h' FG' F' N' B' X' T'; (try dsimp only); (try k_lift B'); (try k_fold))))
  k_with "my start" => ((refine wpAny_call ?_; k_extra "my enter"; k_extra "my norm"))
  k_with "my steps" => (repeat' (first | (k_unfold; (try dsimp only)) | (k_end; wrow_close) | (law_purse 30000 => walk1) | (law_purse 30000 => (dsimp only; walk1)) | (leave1; try dsimp only) | fail "no step"))
  k_with "eval Subscript" => (k_extra "my cut")
  k_with "my omega" => (((try simp only [bne_iff_ne, beq_iff_eq, decide_eq_true_eq, ne_eq, Bool.not_eq_true', Bool.not_eq_false', beq_eq_false_iff_ne, bne_eq_false_iff_eq, decide_eq_false_iff_not]); omega))
  k_with "ite" => ((k_here; first | (refine ite_pos (by with_reducible assumption) ?_) | (refine ite_neg (by with_reducible assumption) ?_) | (refine ite_pos (by k_extra "my omega") ?_) | (refine ite_neg (by k_extra "my omega") ?_)))
  k_with "my arith" => (first | omega | decide | ((simp only [fdiv2, fdiv2', Int.reduceToNat, Int.toNat_one, Int.reducePow, Int.pow_one] at *); omega))
  k_with "binaryOp LShift int int" => ((k_here; (refine' lshift_hid (k := 5000) (by k_extra "my arith") (by bits_by_make) (by k_extra "my arith") (by decide) ?_); intro v9 hv9 hb9 hs9 hp9))
  k_with "inplaceOp LShift int int" => ((k_here; (refine' ilshift_hid (k := 5000) (by k_extra "my arith") (by bits_by_make) (by k_extra "my arith") (by decide) ?_); intro v9 hv9 hb9 hs9 hp9))
  k_with "binaryOp RShift int int" => ((k_here; (refine' rshift_hid (by k_extra "my arith") ?_); intro v9 hv9 hb9))
  k_with "inplaceOp RShift int int" => ((k_here; (refine' irshift_hid (by k_extra "my arith") ?_); intro v9 hv9 hb9))
  k_with "binaryOp BitAnd int int" => ((k_here; (refine' and_hid ?_); intro v9 hv9))
  k_with "binaryOp BitXor int int" => ((k_here; (refine' xor_hid ?_); intro v9 hv9))
  k_with "inplaceOp BitXor int int" => ((k_here; (refine' ixor_hid ?_); intro v9 hv9))
  k_with "binaryOp Mult int int" => ((k_here; (refine' mul_hid (by bits_by_make) (by bits_by_make) (by decide) ?_); intro v9 hv9 hb9 hz9 hn9))
  k_with "inplaceOp Mult int int" => ((k_here; (refine' imul_hid (by bits_by_make) (by bits_by_make) (by decide) ?_); intro v9 hv9 hb9 hz9 hn9))
  k_with "my open" => ((repeat ((rename Hid _ => hh9); (have hh9' := hh9.out); clear hh9; subst hh9')))
  k_with "binaryOp FloorDiv int int" => ((k_here; (refine' floordiv_int ?mb1 ?_ (Or.inl (PyProof.noPylong_of_log2 ?mb2))); (case mb1 => k_extra "my arith"); (case mb2 => (refine' log_of_bits ?mb3 ?mb4; (case mb3 => bits_by_make); (case mb4 => decide)))))
  k_with "exec" => ((k_here; (with_reducible show wpAny _ _ (PySem.exec (Stmt.While _ _ _ _) _) _ _ _); k_extra "my while"))
  k_with "my mp" => (first | with_reducible assumption | exact MpIn.zero | (refine MpIn.cons ?_; k_extra "my mp") | (refine MpIn.mono (by with_reducible assumption) ?_; k_extra "my mp"))
  k_with "my sub" => (first | with_reducible assumption | exact Sub.refl _ | (refine Sub.cons _ ?_; k_extra "my sub") | (refine Sub.trans ?_ (by with_reducible assumption); k_extra "my sub"))
  k_with "my side" => (first | with_reducible assumption | omega | bits_by_make)
  k_with "my side" => (first | ((with_reducible refine bits_side ?_); omega) | ((with_reducible refine bits_sideN ?_); omega))
  k_with "my I" => ((intro t9 h9 tk9 F9 N9; (try k_sweep); (try dsimp only); (try k_fold)))
  k_with "my M" => ((intro r9 n9 h9 tk9 F9 N9 S9 P9; (try k_sweep); (try dsimp only); (try k_fold)))
  k_with "my bd" => (first | (refine' Bd.cons ?be ?br; (case be => exact rfl); (case br => k_extra "my bd")) | exact Bd.nil rfl)
  k_with "my norm" => (((rename Fr _ _ _ _ => F9); (replace F9 := fr_bd F9 (by k_extra "my bd"))))
  k_with "my seen" => (first | exact Seen.hit | (refine' Seen.skip ?sk; (case sk => k_extra "my seen")))
  k_with "eval Name" => ((k_here; name_kind "globalImplicit"; k_dflt (refine' name_BF ?nb1 ?nb2 ?nb3 ?nb4 ?nb5 ?nb6 ?nb7 ?_; (case nb1 => k_asm); (case nb2 => k_asm); (case nb3 => k_asm); (case nb4 => k_is); (case nb5 => boot_by_name); (case nb6 => decide +kernel); (case nb7 => exact rfl); k_whole)))
  k_with "eval Name" => ((k_here; name_kind "globalImplicit"; k_dflt (refine' name_KF ?nk1 ?nk2 ?nk3 ?nk4 ?nk5 ?nk6 ?_; (case nk1 => k_asm); (case nk2 => k_asm); (case nk3 => k_asm); (case nk4 => k_is); (case nk5 => decide +kernel); (case nk6 => exact rfl); k_whole)))
  k_with "eval Name" => ((k_here; name_kind "local"; k_dflt (refine' ldT ?lk1 ?lk2 ?lk3 ?lk4 ?_; (case lk1 => k_asm); (case lk2 => exact rfl); (case lk3 => decide +kernel); (case lk4 => exact rfl); k_whole)))
  k_with "eval Name" => ((k_here; name_kind "local"; k_dflt (refine' ldS ?ls1 ?ls2 ?ls3 ?ls4 ?ls5 ?_; (case ls1 => k_asm); (case ls2 => with_reducible k_extra "my seen"); (case ls3 => kernel_rfl!); (case ls4 => decide +kernel); (case ls5 => exact rfl); k_whole)))
  k_with "storeName" => ((k_here; k_dflt (refine' store_KF ?st1 ?st2 ?st3 ?st4 ?_; (case st1 => k_asm); (case st2 => k_asm); (case st3 => decide +kernel); (case st4 => exact rfl); k_whole); intro h' F' N'; (try k_sweep)))
  k_with "ite" => ((k_closed; k_dflt (first | refine ite_pos (by decide) ?_ | refine ite_neg (by decide) ?_)))
  k_with "call ref" => ((k_here; (with_reducible show wpAny _ _ (call (Value.ref 28) _) _ _ _); k_dflt (refine ctrI_use (c_isqrt_small _ _ _ (by k_extra "my side") (by k_extra "my side")) (by k_asm) (by k_asm) (by k_asm) (by k_asm) (by k_asm) (by first | exact rfl | assumption) (by ktr_room) (by ktr_units) ?_); k_extra "my I"))
  k_with "call ref" => ((k_here; (with_reducible show wpAny _ _ (call (Value.ref 35) _) _ _ _); k_dflt (refine ctr_use (c_sqrtrem _ _ _ (by k_extra "my side") (by k_extra "my side")) (by k_asm) (by k_asm) (by k_asm) (by k_asm) (by k_asm) (by first | exact rfl | assumption) (by ktr_room) (by ktr_units) ?_); intro r9 n9 h9 tk9 F9 N9 S9 P9; cases P9; (try k_sweep); (try dsimp only); (try k_fold)))
  k_with "my wa" => (first | with_reducible assumption | omega)
  k_with "my strip" => (first | exact se1 (by k_extra "my wa") (by k_extra "my wa") (by k_extra "my wa") (by k_extra "my wa") | exact se2 (by k_extra "my wa") (by k_extra "my wa") (by k_extra "my wa") (by k_extra "my wa") | exact se3 (by k_extra "my wa") (by k_extra "my wa") (by k_extra "my wa") | exact se4 (by k_extra "my wa") (by k_extra "my wa") (by k_extra "my wa"))
  k_with "my round" => (first | exact ro1 (by k_extra "my wa") (by k_extra "my wa") (by k_extra "my wa") (by k_extra "my wa") | exact ro2 (by k_extra "my wa") (by k_extra "my wa") (by k_extra "my wa") (by k_extra "my wa") | exact rn1 (by k_extra "my wa") (by k_extra "my wa") (by k_extra "my wa") (by k_extra "my wa") | exact rn2 (by k_extra "my wa") (by k_extra "my wa") (by k_extra "my wa") (by k_extra "my wa") (by k_extra "my wa") (by k_extra "my wa") | exact rn3 (by k_extra "my wa") (by k_extra "my wa") (by k_extra "my wa") (by k_extra "my wa") (by k_extra "my wa") (by k_extra "my wa") (by k_extra "my wa") (by k_extra "my wa") (by k_extra "my wa") | exact rn4 (by k_extra "my wa") (by k_extra "my wa") (by k_extra "my wa") (by k_extra "my wa") (by k_extra "my wa") (by k_extra "my wa") (by k_extra "my wa") (by k_extra "my wa") (by k_extra "my wa"))
  k_with "my nf" => (first | (refine nf_lo (by k_extra "my wa") (by k_extra "my wa") ?_; k_extra "my strip") | (refine' nf_hi ?c9 ?d9 ?a9 ?b9; (case a9 => k_extra "my strip"); (case c9 => k_extra "my wa"); (case d9 => k_extra "my wa"); (case b9 => k_extra "my round")))
  k_with "call ref" => ((k_here; (with_reducible show wpAny _ _ (call (Value.ref 21) _) _ _ _); k_dflt (refine trailing_use (by k_asm) (by k_asm) (by k_asm) (by k_asm) (by k_asm) (by first | exact rfl | assumption) (by ktr_room) (by ktr_units) ?_); intro t9 h9 tk9 hz9 F9 N9; (try k_sweep); (try dsimp only); (try k_fold)))
  k_with "call ref" => ((k_here; (with_reducible show wpAny _ _ (call (Value.ref 71) _) _ _ _); k_dflt (refine ctr_use (c_norm0 _ _ _ _ _ _ _ _ _ _ _ _ _ (by k_extra "my side") (by k_extra "my side") (by k_extra "my side") (by k_extra "my side") (by k_extra "my side")) (by k_asm) (by k_asm) (by k_asm) (by k_asm) (by k_asm) (by first | exact rfl | assumption) (by ktr_room) (by ktr_units) ?_); k_extra "my M"))
  k_with "call ref" => ((k_here; (with_reducible show wpAny _ _ (call (Value.ref 78) _) _ _ _); k_dflt (refine ctr_use (c_norm _ _ _ _ _ _ _ _ _ _ _ _ _ (by k_extra "my side") (by k_extra "my side") (by k_extra "my side") (by k_extra "my side") (by k_extra "my side")) (by k_asm) (by k_asm) (by k_asm) (by k_asm) (by k_asm) (by first | exact rfl | assumption) (by ktr_room) (by ktr_units) ?_); k_extra "my M"))
  k_with "call ref" => ((k_here; (with_reducible show wpAny _ _ (call (Value.ref 21) _) _ _ _); k_dflt (refine trailing_use (by k_asm) (by k_asm) (by k_asm) (by k_asm) (by k_asm) (by first | exact rfl | assumption) (by ktr_room) (by ktr_units) ?_); intro t9 h9 tk9 hz9 F9 N9; (try k_sweep); (try dsimp only); (try k_fold)))
  k_with "my fm" => (first | exact fm_odd (by with_reducible assumption) (by with_reducible assumption) (by omega) | exact fm_two (by with_reducible assumption) (by with_reducible assumption) (by with_reducible assumption) (by with_reducible assumption) (by with_reducible assumption) (by omega) | exact fm_tr (by with_reducible assumption) (by omega))
  k_with "call ref" => ((k_here; (with_reducible show wpAny _ _ (call (Value.ref 86) [_, _]) _ _ _); k_dflt (refine ctr_use (c_fme _ _ _ _ _ (by k_extra "my side")) (by k_asm) (by k_asm) (by k_asm) (by k_asm) (by k_asm) (by first | exact rfl | assumption) (by ktr_room) (by ktr_units) ?_); k_extra "my M"))
  k_with "call ref" => ((k_here; (with_reducible show wpAny _ _ (call (Value.ref 86) [_, _, Value.int 0 _, _]) _ _ _); k_dflt (refine ctr_use (c_fme0 _ _ _ _ _ _ _ (by k_extra "my side")) (by k_asm) (by k_asm) (by k_asm) (by k_asm) (by k_asm) (by first | exact rfl | assumption) (by ktr_room) (by ktr_units) ?_); k_extra "my M"))
  k_with "call ref" => ((k_here; (with_reducible show wpAny _ _ (call (Value.ref 86) [_, _, Value.int _ _, _]) _ _ _); k_dflt (refine ctr_use (c_fmeR _ _ _ _ _ _ _ _ _ (by k_extra "my side") (by k_extra "my side") (by k_extra "my side")) (by k_asm) (by k_asm) (by k_asm) (by k_asm) (by k_asm) (by first | exact rfl | assumption) (by ktr_room) (by ktr_units) ?_); k_extra "my M"))
  k_with "my mps" => (first | with_reducible assumption | (refine MpIn.cons ?_; k_extra "my mps") | (refine MpIn.mono (by with_reducible assumption) ?_; k_extra "my mps"))
  k_with "my mpz" => (first | exact MpIn.zero | k_extra "my mps")
  k_with "compareOp Eq ref ref" => ((k_here; k_dflt (first | refine eq_mp_t (by k_asm) (by k_asm) (by k_asm) (by k_extra "my mpz") (by k_extra "my mpz") (by ktr_units) rfl ?_ | refine eq_mp_f (by k_asm) (by k_asm) (by k_asm) (by k_extra "my mpz") (by k_extra "my mpz") (by ktr_units) (by (try dsimp only [Mp.zero]); omega) ?_ | refine eq_mp_nan (by k_asm) (by k_asm) (by k_asm) (by k_extra "my mps") (by ktr_units) (by (try dsimp only [Mp.zero]); omega) ?_)))
  k_with "call builtin:divmod" => ((k_here; (with_reducible show wpAny _ _ (call (Value.builtin _) [Value.int _ _, Value.int _ _]) _ _ _); refine divmod_hid (by k_asm) (by k_asm) (by first | with_reducible assumption | omega) (by bits_by_make) (by bits_by_make) (by decide) ?_; intro D9 h9 tk9 t91 t92 q9 r9 hq9 hb9 hb99 hb999 hr9 F9 N9))
  k_with "call ref" => ((k_here; (with_reducible show wpAny _ _ (call (Value.ref 78) _) _ _ _); k_dflt (refine ctr_use (c_norm _ _ _ _ _ _ _ _ _ _ _ _ _ (by k_extra "my side") (by k_extra "my side") (by k_extra "my side") (by k_extra "my side") (by k_extra "my side")) (by k_asm) (by k_asm) (by k_asm) (by k_asm) (by k_asm) (by first | exact rfl | assumption) (by ktr_room) (by ktr_units) ?_); k_extra "my M"))
  k_with "my side" => (exact xor1_01 (by with_reducible assumption) (by with_reducible assumption) (by with_reducible assumption))
  k_with "call ref" => ((k_here; (with_reducible show wpAny _ _ (call (Value.ref 78) _) _ _ _); k_dflt (refine ctr_use (c_norm _ _ _ _ _ _ _ _ _ _ _ _ _ (by k_extra "my side") (by k_extra "my side") (by k_extra "my side") (by k_extra "my side") (by k_extra "my side")) (by k_asm) (by k_asm) (by k_asm) (by k_asm) (by k_asm) (by first | exact rfl | assumption) (by ktr_room) (by ktr_units) ?_); k_extra "my M"))
  trivial
theorem dv1 {way : Way} {p s : Int} {x y : Mp} (hs : Hid (s = Builtin.bitXor x.sign y.sign)) (hx : x.sign = 0 ∨ x.sign = 1) (hy : y.sign = 0 ∨ y.sign = 1) (hxm : x.man ≠ 0) (hym : y.man = 1) (hbc : x.bc = Builtin.Int.intBits x.man) : divF way p x y = normF way s x.man (x.exp - y.exp) x.bc p := by
  unfold divF
  rw [← xor1_of hs hx hy, if_neg hxm, if_pos hym, hbc]
theorem dv2 {way : Way} {p s ex N q r v : Int} {x y : Mp} (hs : Hid (s = Builtin.bitXor x.sign y.sign)) (hv : Hid (v = q * 2 ^ (1 : Int).toNat)) (hq : Hid (q = N.fdiv y.man ∧ r = N.fmod y.man)) (hN : Hid (N = x.man * 2 ^ ex.toNat)) (hr : r ≠ 0) (hx : x.sign = 0 ∨ x.sign = 1) (hy : y.sign = 0 ∨ y.sign = 1) (hxm : x.man ≠ 0) (hym : y.man ≠ 1) (he : extraF p x.bc y.bc = ex) : divF way p x y = normF way s (v + 1) (x.exp - y.exp - (ex + 1)) (Builtin.Int.intBits (v + 1)) p := by
  obtain ⟨rfl⟩ := hv
  obtain ⟨rfl⟩ := hN
  obtain ⟨rfl, rfl⟩ := hq.out
  unfold divF
  rw [← xor1_of hs hx hy, if_neg hxm, if_neg hym, he, if_neg hr]
theorem dv3 {way : Way} {p s ex N q r : Int} {x y : Mp} (hs : Hid (s = Builtin.bitXor x.sign y.sign)) (hq : Hid (q = N.fdiv y.man ∧ r = N.fmod y.man)) (hN : Hid (N = x.man * 2 ^ ex.toNat)) (hr : r = 0) (hx : x.sign = 0 ∨ x.sign = 1) (hy : y.sign = 0 ∨ y.sign = 1) (hxm : x.man ≠ 0) (hym : y.man ≠ 1) (he : extraF p x.bc y.bc = ex) : divF way p x y = normF way s q (x.exp - y.exp - ex) (Builtin.Int.intBits q) p := by
  obtain ⟨rfl⟩ := hN
  obtain ⟨e1, e2⟩ := hq.out
  subst e1
  unfold divF
  rw [← xor1_of hs hx hy, if_neg hxm, if_neg hym, he, if_pos (by rw [← e2]; exact hr)]
theorem su_C11_2 : True := by
  k_with "my side" => (exact xor1_01 (by with_reducible assumption) (by with_reducible assumption) (by with_reducible assumption))
  k_with "my ex" => ((unfold extraF; first | rw [if_pos (by with_reducible assumption)] | rw [if_neg (by with_reducible assumption)]))
  trivial
theorem c_div {w : World} {mean : ExcName → Option Value} {mg mb : Str → Option Value} (news : List (Addr × Obj)) (v1 v2 : Value) (x y : Mp) (way : Way) (p : Int) (t3 t4 : Tok) (h1 : MpIn news v1 x) (h2 : MpIn news v2 y) (ok1 : Ok x) (ok2 : Ok y) (hp : 1 ≤ p) (hp9 : p ≤ 200) (hy0 : y.man ≠ 0) :
    Ctr w mean mg mb 164 14 news [v1, v2, .int p t3, .str way.str t4] (fun r n' => MpIn n' r (divF way p x y)) := by
  unfold Ctr
  k_fill
  intro dp un gd cn cs a ccd cl outer A₀ base h₀ L m' s Q E B F X N T hk hdp hun hret
  obtain ⟨o1, o2, o3, o4, o5, o6, o7⟩ := ok1
  obtain ⟨u1, u2, u3, u4, u5, u6, u7⟩ := ok2
  obtain ⟨xs, xm, xe, xb⟩ := x
  obtain ⟨ys, ym, ye, yb⟩ := y
  have hh1 := h1
  have hh2 := h2
  rcases h1 with _ | ⟨hz, hm⟩ <;> rcases h2 with _ | ⟨hz', hm'⟩
  all_goals (try dsimp only at hz hm)
  all_goals (try dsimp only at hz' hm')
  all_goals first | exact absurd rfl hy0 | skip
  all_goals dsimp only at hy0
  all_goals dsimp only at o1 o2 o3 o4 o5 o6 u1 u2 u3 u4 u5 u6
  all_goals k_extra "my start"
  all_goals k_extra "my steps"
  all_goals (refine hret _ _ _ _ (by with_reducible assumption) (by with_reducible assumption) (by k_extra "my sub") ?_)
  all_goals first
    | ((with_reducible refine mpIn_zero ?_); exact if_pos (by first | rfl | omega))
    | with_reducible exact (mpIn_cast (by k_extra "my mps") (dv1 (x := ⟨xs, xm, xe, xb⟩) (y := ⟨ys, ym, ye, yb⟩) (by with_reducible assumption) o1 u1 hz (by with_reducible assumption) (by with_reducible assumption)))
    | with_reducible exact (mpIn_cast (by k_extra "my mps") (dv2 (x := ⟨xs, xm, xe, xb⟩) (y := ⟨ys, ym, ye, yb⟩) (by with_reducible assumption) (by with_reducible assumption) (by with_reducible assumption) (by with_reducible assumption) (by with_reducible assumption) o1 u1 hz (by with_reducible assumption) (by k_extra "my ex")))
    | with_reducible exact (mpIn_cast (by k_extra "my mps") (dv3 (x := ⟨xs, xm, xe, xb⟩) (y := ⟨ys, ym, ye, yb⟩) (by with_reducible assumption) (by with_reducible assumption) (by with_reducible assumption) (by with_reducible assumption) o1 u1 hz (by with_reducible assumption) (by k_extra "my ex")))
    | fail "no"
end
section
def rdivF (w : Way) (p n : Int) (y : Mp) : Mp :=
  if n = 0 then Mp.zero
  else if ((n.natAbs : Int) * 2 ^ (p + y.bc + 5).toNat).fmod y.man = 0 then rnd w p (xor1 y.sign (sg n)) (((n.natAbs : Int) * 2 ^ (p + y.bc + 5).toNat).fdiv y.man) (-y.exp - (p + y.bc + 5))
  else rnd w p (xor1 y.sign (sg n)) (((n.natAbs : Int) * 2 ^ (p + y.bc + 5).toNat).fdiv y.man * 2 ^ (1 : Int).toNat + 1) (-y.exp - (p + y.bc + 5 + 1))
def mulIF (w : Way) (p : Int) (x : Mp) (n : Int) : Mp := if x.man = 0 then Mp.zero else rnd w p (xor1 x.sign (sg n)) (x.man * (n.natAbs : Int)) x.exp
theorem tz_lt {M : Int} (h : 0 < M) : tzF M < Builtin.Int.intBits M := by
  obtain ⟨a1, a2, a3, a4, a5⟩ := od_facts h
  have := bits_pos a1
  omega
theorem ok_enc {s M e : Int} (hs : s = 0 ∨ s = 1) (hM : 0 ≤ M) (hb : Builtin.Int.intBits M ≤ 400) (h1 : -2500 ≤ e) (h2 : e ≤ 2500) : Ok (enc s M e) := by
  by_cases h : M = 0
  · subst h
    have : enc s 0 e = Mp.zero := by unfold enc; rw [if_pos rfl]
    rw [this]
    exact ⟨.inl rfl, by decide, by decide, by decide, by decide, by decide, fun _ => rfl⟩
  · have hp : 0 < M := by omega
    obtain ⟨a1, a2, a3, a4, a5⟩ := od_facts hp
    have := tz_lt hp
    have := tz_nonneg M
    unfold enc
    rw [if_neg h]
    refine ⟨hs, by show 0 ≤ odF M; omega, rfl, ?_, ?_, ?_, fun q => ?_⟩
    · show Builtin.Int.intBits (odF M) ≤ 400; omega
    · show -3000 ≤ e + tzF M; omega
    · show e + tzF M ≤ 3000; omega
    · have q' : odF M = 0 := q
      omega
theorem ok_fme {m e : Int} (hb : Builtin.Int.intBits m ≤ 400) (h1 : -2500 ≤ e) (h2 : e ≤ 2500) : Ok (fme m e) := by
  refine ok_enc ?_ (by omega) ?_ h1 h2
  · unfold sg; split <;> omega
  · exact bits_of_natAbs_le (by omega) hb
theorem ok_rnd {w : Way} {p s M e : Int} (hs : s = 0 ∨ s = 1) (hM : 0 ≤ M) (hp : 1 ≤ p) (hp9 : p ≤ 300) (hb : Builtin.Int.intBits M ≤ 1000) (h1 : -1400 ≤ e) (h2 : e ≤ 1400) : Ok (rnd w p s M e) := by
  by_cases h : M = 0
  · subst h
    rw [rnd_zero]
    exact ⟨.inl rfl, by decide, by decide, by decide, by decide, by decide, fun _ => rfl⟩
  · have hpos : 0 < M := by omega
    obtain ⟨p', rfl⟩ : ∃ p' : Nat, p = p' := ⟨p.toNat, by omega⟩
    rcases Nat.lt_or_ge p' (Builtin.Int.intBits M) with h' | h'
    · obtain ⟨k, hk⟩ : ∃ k, Builtin.Int.intBits M = p' + k := ⟨Builtin.Int.intBits M - p', by omega⟩
      rw [rnd, normF_high w hpos (by omega) hk (by omega)]
      obtain ⟨b1, b2⟩ := rd_bounds w s hpos (by omega) hk
      have b0 := p2pos (p' - 1)
      refine ok_enc hs (by omega) ?_ (by omega) (by omega)
      refine Nat.le_trans (intBits_le (k := p' + 1) ?_) (by omega)
      have : rdF w s M k < 2 ^ (p' + 1) := Int.lt_of_le_of_lt b2 (by
        rw [Int.pow_succ]
        have := p2pos p'
        omega)
      have h3 : ((rdF w s M k).natAbs : Int) < ((2 ^ (p' + 1) : Nat) : Int) := by rw [kbt_cast]; omega
      exact_mod_cast h3
    · rw [rnd, normF_low w hpos h']
      exact ok_enc hs hM (by omega) (by omega) (by omega)
theorem xor1_b (a b : Int) : xor1 a b = 0 ∨ xor1 a b = 1 := by unfold xor1; split <;> simp
theorem sg_b (n : Int) : sg n = 0 ∨ sg n = 1 := by unfold sg; split <;> simp
theorem bits_mono {a b : Int} (h : a.natAbs ≤ b.natAbs) : Builtin.Int.intBits a ≤ Builtin.Int.intBits b := bits_of_natAbs_le h (Nat.le_refl _)
theorem xs_neg {n s ys : Int} (h : n < 0) (hs : Hid (s = Builtin.bitXor ys 1)) (hy : ys = 0 ∨ ys = 1) : s = xor1 ys (sg n) := by
  unfold sg
  rw [if_pos h]
  exact xor1_of hs hy (.inr rfl)
theorem xs_pos {n ys : Int} (h : ¬ n < 0) (hy : ys = 0 ∨ ys = 1) : ys = xor1 ys (sg n) := by
  unfold sg xor1
  rw [if_neg h]
  split <;> omega
theorem mulint_bits {a n b v w c : Int} (hw : Hid (w = v.fdiv (2 ^ c.toNat))) (hv : Hid (v = a * n)) (ha : 0 < a) (hn : 0 < n) (hb : b = Builtin.Int.intBits a) (hc : b + ((Builtin.Int.intBits n : Int) - 1) = c) : c + w = Builtin.Int.intBits v := by
  obtain ⟨rfl⟩ := hv
  obtain ⟨rfl⟩ := hw
  subst hb
  have a1 := bits_lo ha
  have a2 := bits_hi ha
  have a3 := bits_pos ha
  have n1 := bits_lo hn
  have n2 := bits_hi hn
  have n3 := bits_pos hn
  obtain ⟨i, hi⟩ : ∃ i, Builtin.Int.intBits a = i + 1 := ⟨Builtin.Int.intBits a - 1, by omega⟩
  obtain ⟨j, hj⟩ : ∃ j, Builtin.Int.intBits n = j + 1 := ⟨Builtin.Int.intBits n - 1, by omega⟩
  rw [hi] at a1 a2 hc
  rw [hj] at n1 n2 hc
  simp only [Nat.add_sub_cancel] at a1 n1
  have hk : c = ((i + j + 1 : Nat) : Int) := by omega
  subst hk
  rw [Int.toNat_natCast, fdivp]
  have lo : (2 : Int) ^ (i + j) ≤ a * n := by
    rw [Int.pow_add]
    exact Int.mul_le_mul a1 n1 (Int.le_of_lt (p2pos j)) (by omega)
  have hi2 : a * n < 2 ^ (i + j + 2) := by
    rw [show i + j + 2 = (i + 1) + (j + 1) by omega, Int.pow_add]
    have := Int.mul_lt_mul a2 (Int.le_of_lt n2) hn (Int.le_of_lt (p2pos _))
    exact this
  generalize a * n = v at *
  by_cases h : v < 2 ^ (i + j + 1)
  · have e1 : v / 2 ^ (i + j + 1) = 0 := Int.ediv_eq_zero_of_lt (by have := p2pos (i+j); omega) h
    rw [e1, bits_eq lo h]
    omega
  · have e1 : v / 2 ^ (i + j + 1) = 1 := (div_eq (M := v) (q := 1) (r := v - 2 ^ (i + j + 1)) (k := i + j + 1) (by omega) (by omega) (by
      have : (2 : Int) ^ (i + j + 2) = 2 * 2 ^ (i + j + 1) := by rw [Int.pow_succ (2 : Int) (i + j + 1)]; omega
      omega)).1
    rw [e1, bits_eq (k := i + j + 1) (by omega) hi2]
    omega
def wayFD (w : Way) : Bool := w == .f || w == .d
def sqrtS (w : Way) (p M b e : Int) : Mp :=
  if wayFD w = true then rnd w p 0 (isqF (M * 2 ^ (shF p b).toNat)) ((e - shF p b).fdiv 2)
  else if M * 2 ^ (shF p b).toNat - isqF (M * 2 ^ (shF p b).toNat) * isqF (M * 2 ^ (shF p b).toNat) = 0 then rnd w p 0 (isqF (M * 2 ^ (shF p b).toNat)) ((e - shF p b).fdiv 2)
  else rnd w p 0 (isqF (M * 2 ^ (shF p b).toNat) * 2 ^ (1 : Int).toNat + 1) ((e - (shF p b + 2)).fdiv 2)
where shF (p b : Int) : Int := max 4 (2 * p - b + 4) + Builtin.bitAnd (max 4 (2 * p - b + 4)) 1
def sqrtF (w : Way) (p : Int) (x : Mp) : Mp :=
  if x.man = 0 then x
  else if Builtin.bitAnd x.exp 1 = 0 then (if x.man = 1 then rnd w p 0 1 (x.exp.fdiv 2) else sqrtS w p x.man x.bc x.exp)
  else sqrtS w p (x.man * 2 ^ (1 : Int).toNat) (x.bc + 1) (x.exp - 1)
end
section
section
variable {w : World} {mean : ExcName → Option Value} {mg mb : Str → Option Value} {f : Addr} {k : Nat} {news : List (Addr × Obj)} {vs : List Value}
  {dp un : Nat} {gd : Option (List Code)} {cn : Str} {cs : Scope} {a : Addr} {ccd : Value} {cl : List (Str × Addr)} {outer : List Env} {A₀ : Around} {base h₀ : Heap} {L : Addr} {m : Str → Option Value} {s : Shared} {Q E : Value → Shared → Prop}
theorem use2 {post : Value → List (Addr × Obj) → Prop}
    (B : Below A₀ base outer h₀) (F : Fr h₀ L s.heap m) (X : (hd.heap_39 w.params).In h₀) (N : News h₀ L s.heap news) (T : Top hd.view_39 LS mean mg mb h₀) (hk : cs.kind = .function) (C : Ctr w mean mg mb f k news vs post)
    (h1 : dp + k < recursionLimit) (h2 : un + 8 * k < cLine)
    (ret : ∀ (r : Value) (news' : List (Addr × Obj)) (h' : Heap) (tk' : Nat), Fr h₀ L h' m → News h₀ L h' news' → Sub news news' → post r news' → Q r { s with heap := h', toks := tk' }) :
    wpAny (model PySem.Challenge.rw_aa5010_01.row.prog w) (ktrTop dp un gd cn cs L a ccd cl outer) (call (.ref f) vs) Q E s := ctr_use C B F X N T hk h1 h2 ret
theorem use2B {v : Bool}
    (B : Below A₀ base outer h₀) (F : Fr h₀ L s.heap m) (X : (hd.heap_39 w.params).In h₀) (N : News h₀ L s.heap news) (T : Top hd.view_39 LS mean mg mb h₀) (hk : cs.kind = .function) (C : Ctr w mean mg mb f k news vs (fun r _ => r = .bool v))
    (h1 : dp + k < recursionLimit) (h2 : un + 8 * k < cLine)
    (ret : ∀ (h' : Heap) (tk' : Nat), Fr h₀ L h' m → News h₀ L h' news → Q (.bool v) { s with heap := h', toks := tk' }) :
    wpAny (model PySem.Challenge.rw_aa5010_01.row.prog w) (ktrTop dp un gd cn cs L a ccd cl outer) (call (.ref f) vs) Q E s := ctrB_use C B F X N T hk h1 h2 ret
theorem use2I {P : Int → Prop}
    (B : Below A₀ base outer h₀) (F : Fr h₀ L s.heap m) (X : (hd.heap_39 w.params).In h₀) (N : News h₀ L s.heap news) (T : Top hd.view_39 LS mean mg mb h₀) (hk : cs.kind = .function) (C : Ctr w mean mg mb f k news vs (fun r _ => ∃ v t, r = .int v t ∧ P v))
    (h1 : dp + k < recursionLimit) (h2 : un + 8 * k < cLine)
    (ret : ∀ (v : Int) (t : Tok) (h' : Heap) (tk' : Nat), P v → Fr h₀ L h' m → News h₀ L h' news → Q (.int v t) { s with heap := h', toks := tk' }) :
    wpAny (model PySem.Challenge.rw_aa5010_01.row.prog w) (ktrTop dp un gd cn cs L a ccd cl outer) (call (.ref f) vs) Q E s :=
  ctr_use C B F X N T hk h1 h2 fun r news' h' tk' F' N' S ⟨v, t, e, hp⟩ => by
    subst e
    exact ret v t h' tk' hp F' fun p hp => N' p (S.mem p hp)
end
end
section
theorem su_C12_1 : True := by
  k_with_none
  k_with "my enter" => ((k_dflt (refine' code_def ?k1 ?k2 ?k3 ?k4 ?k5 ?kA ?kF ?kK ?k6 ?k7 ?k8 ?k9 ?kB ?_ ?c2 ?c3 ?c4 ?c5; (case kA => exact rfl); (case kF => exact rfl); (case kK => assumption); (case k1 => k_asm); (case k2 => k_asm); (case k3 => k_asm); (case k4 => k_asm); (case k5 => k_asm); (case k6 => k_is); (case k7 => k_is); (case k8 => ktr_room); (case k9 => first | exact BindsTo.of_eq rfl | exact binds_K (by k_in) rfl (by k_is) rfl rfl rfl); (case c5 => decide); (case kB => exact locs rfl); (case c2 => exact rfl); (case c3 => exact rfl); (case c4 => exact rfl); k_whole; intro g' L' h' FG' F' N' B' X' T'; (try dsimp only); (try k_lift B'); (try k_fold))))
  k_with "my start" => ((refine wpAny_call ?_; k_extra "my enter"; k_extra "my norm"))
  k_with "my steps" => (repeat' (first | (k_unfold; (try dsimp only)) | (k_end; wrow_close) | (law_purse 30000 => walk1) | (law_purse 30000 => (dsimp only; walk1)) | (leave1; try dsimp only) | fail "no step"))
  k_with "eval Subscript" => (k_extra "my cut")
  k_with "my omega" => (((try simp only [bne_iff_ne, beq_iff_eq, decide_eq_true_eq, ne_eq, Bool.not_eq_true', Bool.not_eq_false', beq_eq_false_iff_ne, bne_eq_false_iff_eq, decide_eq_false_iff_not]); omega))
  k_with "ite" => ((k_here; first | (refine ite_pos (by with_reducible assumption) ?_) | (refine ite_neg (by with_reducible assumption) ?_) | (refine ite_pos (by k_extra "my omega") ?_) | (refine ite_neg (by k_extra "my omega") ?_)))
  k_with "my arith" => (first | omega | decide | ((simp only [fdiv2, fdiv2', Int.reduceToNat, Int.toNat_one, Int.reducePow, Int.pow_one] at *); omega))
  k_with "binaryOp LShift int int" => ((k_here; (refine' lshift_hid (k := 5000) (by k_extra "my arith") (by bits_by_make) (by k_extra "my arith") (by decide) ?_); intro v9 hv9 hb9 hs9 hp9))
  k_with "inplaceOp LShift int int" => ((k_here; (refine' ilshift_hid (k := 5000) (by k_extra "my arith") (by bits_by_make) (by k_extra "my arith") (by decide) ?_); intro v9 hv9 hb9 hs9 hp9))
  k_with "binaryOp RShift int int" => ((k_here; (refine' rshift_hid (by k_extra "my arith") ?_); intro v9 hv9 hb9))
  k_with "inplaceOp RShift int int" => ((k_here; (refine' irshift_hid (by k_extra "my arith") ?_); intro v9 hv9 hb9))
  k_with "binaryOp BitAnd int int" => ((k_here; (refine' and_hid ?_); intro v9 hv9))
  k_with "binaryOp BitXor int int" => ((k_here; (refine' xor_hid ?_); intro v9 hv9))
  k_with "inplaceOp BitXor int int" => ((k_here; (refine' ixor_hid ?_); intro v9 hv9))
  k_with "binaryOp Mult int int" => ((k_here; (refine' mul_hid (by bits_by_make) (by bits_by_make) (by decide) ?_); intro v9 hv9 hb9 hz9 hn9))
  k_with "inplaceOp Mult int int" => ((k_here; (refine' imul_hid (by bits_by_make) (by bits_by_make) (by decide) ?_); intro v9 hv9 hb9 hz9 hn9))
  k_with "my open" => ((repeat ((rename Hid _ => hh9); (have hh9' := hh9.out); clear hh9; subst hh9')))
  k_with "binaryOp FloorDiv int int" => ((k_here; (refine' floordiv_int ?mb1 ?_ (Or.inl (PyProof.noPylong_of_log2 ?mb2))); (case mb1 => k_extra "my arith"); (case mb2 => (refine' log_of_bits ?mb3 ?mb4; (case mb3 => bits_by_make); (case mb4 => decide)))))
  k_with "exec" => ((k_here; (with_reducible show wpAny _ _ (PySem.exec (Stmt.While _ _ _ _) _) _ _ _); k_extra "my while"))
  k_with "my mp" => (first | with_reducible assumption | exact MpIn.zero | (refine MpIn.cons ?_; k_extra "my mp") | (refine MpIn.mono (by with_reducible assumption) ?_; k_extra "my mp"))
  k_with "my sub" => (first | with_reducible assumption | exact Sub.refl _ | (refine Sub.cons _ ?_; k_extra "my sub") | (refine Sub.trans ?_ (by with_reducible assumption); k_extra "my sub"))
  k_with "my side" => (first | with_reducible assumption | omega | bits_by_make)
  k_with "my side" => (first | ((with_reducible refine bits_side ?_); omega) | ((with_reducible refine bits_sideN ?_); omega))
  k_with "my I" => ((intro t9 h9 tk9 F9 N9; (try k_sweep); (try dsimp only); (try k_fold)))
  k_with "my M" => ((intro r9 n9 h9 tk9 F9 N9 S9 P9; (try k_sweep); (try dsimp only); (try k_fold)))
  k_with "my bd" => (first | (refine' Bd.cons ?be ?br; (case be => exact rfl); (case br => k_extra "my bd")) | exact Bd.nil rfl)
  k_with "my norm" => (((rename Fr _ _ _ _ => F9); (replace F9 := fr_bd F9 (by k_extra "my bd"))))
  k_with "my seen" => (first | exact Seen.hit | (refine' Seen.skip ?sk; (case sk => k_extra "my seen")))
  k_with "eval Name" => ((k_here; name_kind "globalImplicit"; k_dflt (refine' name_BF ?nb1 ?nb2 ?nb3 ?nb4 ?nb5 ?nb6 ?nb7 ?_; (case nb1 => k_asm); (case nb2 => k_asm); (case nb3 => k_asm); (case nb4 => k_is); (case nb5 => boot_by_name); (case nb6 => decide +kernel); (case nb7 => exact rfl); k_whole)))
  k_with "eval Name" => ((k_here; name_kind "globalImplicit"; k_dflt (refine' name_KF ?nk1 ?nk2 ?nk3 ?nk4 ?nk5 ?nk6 ?_; (case nk1 => k_asm); (case nk2 => k_asm); (case nk3 => k_asm); (case nk4 => k_is); (case nk5 => decide +kernel); (case nk6 => exact rfl); k_whole)))
  k_with "eval Name" => ((k_here; name_kind "local"; k_dflt (refine' ldT ?lk1 ?lk2 ?lk3 ?lk4 ?_; (case lk1 => k_asm); (case lk2 => exact rfl); (case lk3 => decide +kernel); (case lk4 => exact rfl); k_whole)))
  k_with "eval Name" => ((k_here; name_kind "local"; k_dflt (refine' ldS ?ls1 ?ls2 ?ls3 ?ls4 ?ls5 ?_; (case ls1 => k_asm); (case ls2 => with_reducible k_extra "my seen"); (case ls3 => kernel_rfl!); (case ls4 => decide +kernel); (case ls5 => exact rfl); k_whole)))
  k_with "storeName" => ((k_here; k_dflt (refine' store_KF ?st1 ?st2 ?st3 ?st4 ?_; (case st1 => k_asm); (case st2 => k_asm); (case st3 => decide +kernel); (case st4 => exact rfl); k_whole); intro h' F' N'; (try k_sweep)))
  k_with "ite" => ((k_closed; k_dflt (first | refine ite_pos (by decide) ?_ | refine ite_neg (by decide) ?_)))
  k_with "call ref" => ((k_here; (with_reducible show wpAny _ _ (call (Value.ref 28) _) _ _ _); k_dflt (refine ctrI_use (c_isqrt_small _ _ _ (by k_extra "my side") (by k_extra "my side")) (by k_asm) (by k_asm) (by k_asm) (by k_asm) (by k_asm) (by first | exact rfl | assumption) (by ktr_room) (by ktr_units) ?_); k_extra "my I"))
  k_with "call ref" => ((k_here; (with_reducible show wpAny _ _ (call (Value.ref 35) _) _ _ _); k_dflt (refine ctr_use (c_sqrtrem _ _ _ (by k_extra "my side") (by k_extra "my side")) (by k_asm) (by k_asm) (by k_asm) (by k_asm) (by k_asm) (by first | exact rfl | assumption) (by ktr_room) (by ktr_units) ?_); intro r9 n9 h9 tk9 F9 N9 S9 P9; cases P9; (try k_sweep); (try dsimp only); (try k_fold)))
  k_with "my wa" => (first | with_reducible assumption | omega)
  k_with "my strip" => (first | exact se1 (by k_extra "my wa") (by k_extra "my wa") (by k_extra "my wa") (by k_extra "my wa") | exact se2 (by k_extra "my wa") (by k_extra "my wa") (by k_extra "my wa") (by k_extra "my wa") | exact se3 (by k_extra "my wa") (by k_extra "my wa") (by k_extra "my wa") | exact se4 (by k_extra "my wa") (by k_extra "my wa") (by k_extra "my wa"))
  k_with "my round" => (first | exact ro1 (by k_extra "my wa") (by k_extra "my wa") (by k_extra "my wa") (by k_extra "my wa") | exact ro2 (by k_extra "my wa") (by k_extra "my wa") (by k_extra "my wa") (by k_extra "my wa") | exact rn1 (by k_extra "my wa") (by k_extra "my wa") (by k_extra "my wa") (by k_extra "my wa") | exact rn2 (by k_extra "my wa") (by k_extra "my wa") (by k_extra "my wa") (by k_extra "my wa") (by k_extra "my wa") (by k_extra "my wa") | exact rn3 (by k_extra "my wa") (by k_extra "my wa") (by k_extra "my wa") (by k_extra "my wa") (by k_extra "my wa") (by k_extra "my wa") (by k_extra "my wa") (by k_extra "my wa") (by k_extra "my wa") | exact rn4 (by k_extra "my wa") (by k_extra "my wa") (by k_extra "my wa") (by k_extra "my wa") (by k_extra "my wa") (by k_extra "my wa") (by k_extra "my wa") (by k_extra "my wa") (by k_extra "my wa"))
  k_with "my nf" => (first | (refine nf_lo (by k_extra "my wa") (by k_extra "my wa") ?_; k_extra "my strip") | (refine' nf_hi ?c9 ?d9 ?a9 ?b9; (case a9 => k_extra "my strip"); (case c9 => k_extra "my wa"); (case d9 => k_extra "my wa"); (case b9 => k_extra "my round")))
  k_with "call ref" => ((k_here; (with_reducible show wpAny _ _ (call (Value.ref 21) _) _ _ _); k_dflt (refine trailing_use (by k_asm) (by k_asm) (by k_asm) (by k_asm) (by k_asm) (by first | exact rfl | assumption) (by ktr_room) (by ktr_units) ?_); intro t9 h9 tk9 hz9 F9 N9; (try k_sweep); (try dsimp only); (try k_fold)))
  k_with "call ref" => ((k_here; (with_reducible show wpAny _ _ (call (Value.ref 71) _) _ _ _); k_dflt (refine ctr_use (c_norm0 _ _ _ _ _ _ _ _ _ _ _ _ _ (by k_extra "my side") (by k_extra "my side") (by k_extra "my side") (by k_extra "my side") (by k_extra "my side")) (by k_asm) (by k_asm) (by k_asm) (by k_asm) (by k_asm) (by first | exact rfl | assumption) (by ktr_room) (by ktr_units) ?_); k_extra "my M"))
  k_with "call ref" => ((k_here; (with_reducible show wpAny _ _ (call (Value.ref 78) _) _ _ _); k_dflt (refine ctr_use (c_norm _ _ _ _ _ _ _ _ _ _ _ _ _ (by k_extra "my side") (by k_extra "my side") (by k_extra "my side") (by k_extra "my side") (by k_extra "my side")) (by k_asm) (by k_asm) (by k_asm) (by k_asm) (by k_asm) (by first | exact rfl | assumption) (by ktr_room) (by ktr_units) ?_); k_extra "my M"))
  k_with "call ref" => ((k_here; (with_reducible show wpAny _ _ (call (Value.ref 21) _) _ _ _); k_dflt (refine trailing_use (by k_asm) (by k_asm) (by k_asm) (by k_asm) (by k_asm) (by first | exact rfl | assumption) (by ktr_room) (by ktr_units) ?_); intro t9 h9 tk9 hz9 F9 N9; (try k_sweep); (try dsimp only); (try k_fold)))
  k_with "my fm" => (first | exact fm_odd (by with_reducible assumption) (by with_reducible assumption) (by omega) | exact fm_two (by with_reducible assumption) (by with_reducible assumption) (by with_reducible assumption) (by with_reducible assumption) (by with_reducible assumption) (by omega) | exact fm_tr (by with_reducible assumption) (by omega))
  k_with "call ref" => ((k_here; (with_reducible show wpAny _ _ (call (Value.ref 86) [_, _]) _ _ _); k_dflt (refine ctr_use (c_fme _ _ _ _ _ (by k_extra "my side")) (by k_asm) (by k_asm) (by k_asm) (by k_asm) (by k_asm) (by first | exact rfl | assumption) (by ktr_room) (by ktr_units) ?_); k_extra "my M"))
  k_with "call ref" => ((k_here; (with_reducible show wpAny _ _ (call (Value.ref 86) [_, _, Value.int 0 _, _]) _ _ _); k_dflt (refine ctr_use (c_fme0 _ _ _ _ _ _ _ (by k_extra "my side")) (by k_asm) (by k_asm) (by k_asm) (by k_asm) (by k_asm) (by first | exact rfl | assumption) (by ktr_room) (by ktr_units) ?_); k_extra "my M"))
  k_with "call ref" => ((k_here; (with_reducible show wpAny _ _ (call (Value.ref 86) [_, _, Value.int _ _, _]) _ _ _); k_dflt (refine ctr_use (c_fmeR _ _ _ _ _ _ _ _ _ (by k_extra "my side") (by k_extra "my side") (by k_extra "my side")) (by k_asm) (by k_asm) (by k_asm) (by k_asm) (by k_asm) (by first | exact rfl | assumption) (by ktr_room) (by ktr_units) ?_); k_extra "my M"))
  k_with "my mps" => (first | with_reducible assumption | (refine MpIn.cons ?_; k_extra "my mps") | (refine MpIn.mono (by with_reducible assumption) ?_; k_extra "my mps"))
  k_with "my mpz" => (first | exact MpIn.zero | k_extra "my mps")
  k_with "compareOp Eq ref ref" => ((k_here; k_dflt (first | refine eq_mp_t (by k_asm) (by k_asm) (by k_asm) (by k_extra "my mpz") (by k_extra "my mpz") (by ktr_units) rfl ?_ | refine eq_mp_f (by k_asm) (by k_asm) (by k_asm) (by k_extra "my mpz") (by k_extra "my mpz") (by ktr_units) (by (try dsimp only [Mp.zero]); omega) ?_ | refine eq_mp_nan (by k_asm) (by k_asm) (by k_asm) (by k_extra "my mps") (by ktr_units) (by (try dsimp only [Mp.zero]); omega) ?_)))
  k_with "call builtin:divmod" => ((k_here; (with_reducible show wpAny _ _ (call (Value.builtin _) [Value.int _ _, Value.int _ _]) _ _ _); refine divmod_hid (by k_asm) (by k_asm) (by first | with_reducible assumption | omega) (by bits_by_make) (by bits_by_make) (by decide) ?_; intro D9 h9 tk9 t91 t92 q9 r9 hq9 hb9 hb99 hb999 hr9 F9 N9))
  k_with "call ref" => ((k_here; (with_reducible show wpAny _ _ (call (Value.ref 78) _) _ _ _); k_dflt (refine ctr_use (c_norm _ _ _ _ _ _ _ _ _ _ _ _ _ (by k_extra "my side") (by k_extra "my side") (by k_extra "my side") (by k_extra "my side") (by k_extra "my side")) (by k_asm) (by k_asm) (by k_asm) (by k_asm) (by k_asm) (by first | exact rfl | assumption) (by ktr_room) (by ktr_units) ?_); k_extra "my M"))
  k_with "my side" => (exact xor1_01 (by with_reducible assumption) (by with_reducible assumption) (by with_reducible assumption))
  k_with "call ref" => ((k_here; (with_reducible show wpAny _ _ (call (Value.ref 78) _) _ _ _); k_dflt (refine ctr_use (c_norm _ _ _ _ _ _ _ _ _ _ _ _ _ (by k_extra "my side") (by k_extra "my side") (by k_extra "my side") (by k_extra "my side") (by k_extra "my side")) (by k_asm) (by k_asm) (by k_asm) (by k_asm) (by k_asm) (by first | exact rfl | assumption) (by ktr_room) (by ktr_units) ?_); k_extra "my M"))
  k_with "my side" => (exact xor1_01 (by with_reducible assumption) (by with_reducible assumption) (by with_reducible assumption))
  k_with "my ex" => ((unfold extraF; first | rw [if_pos (by with_reducible assumption)] | rw [if_neg (by with_reducible assumption)]))
  trivial
theorem ok_zero : Ok Mp.zero := ⟨.inl rfl, by decide, by decide, by decide, by decide, by decide, fun _ => rfl⟩
theorem su_C12_2 : True := by
  k_with "my ok" => (first | with_reducible assumption | with_reducible exact ok_zero | exact ok_fme (by k_extra "my side") (by omega) (by omega) | exact ok_rnd (by k_extra "my side") (by k_extra "my side") (by k_extra "my side") (by k_extra "my side") (by k_extra "my side") (by omega) (by omega))
  k_with "my nz" => (first | with_reducible assumption | exact fme_ne (by k_extra "my side"))
  k_with "my side" => (exact xor1_01 (by with_reducible assumption) (by with_reducible assumption) (by first | with_reducible assumption | exact Or.inr rfl))
  k_with "call ref" => ((k_here; (with_reducible show wpAny _ _ (call (Value.ref 78) _) _ _ _); k_dflt (refine ctr_use (c_norm _ _ _ _ _ _ _ _ _ _ _ _ _ (by k_extra "my side") (by k_extra "my side") (by k_extra "my side") (by k_extra "my side") (by k_extra "my side")) (by k_asm) (by k_asm) (by k_asm) (by k_asm) (by k_asm) (by first | exact rfl | assumption) (by ktr_room) (by ktr_units) ?_); k_extra "my M"))
  k_with "call ref" => ((k_here; (with_reducible show wpAny _ _ (call (Value.ref 94) _) _ _ _); k_dflt (refine ctr_use (c_from_int _ _ _ (by k_extra "my side")) (by k_asm) (by k_asm) (by k_asm) (by k_asm) (by k_asm) (by first | exact rfl | assumption) (by ktr_room) (by ktr_units) ?_); k_extra "my M"))
  k_with "call ref" => ((k_here; (with_reducible show wpAny _ _ (call (Value.ref 164) _) _ _ _); k_dflt (refine' use2 (by k_asm) (by k_asm) (by k_asm) (by k_asm) (by k_asm) (by first | exact rfl | assumption) (c_div _ _ _ _ _ _ _ _ _ ?sd0 ?sd1 ?sd2 ?sd3 ?sd4 ?sd5 ?sd6) (by ktr_room) (by ktr_units) ?_; (case sd0 => k_extra "my mp"); (case sd1 => k_extra "my mp"); (case sd2 => k_extra "my ok"); (case sd3 => k_extra "my ok"); (case sd4 => k_extra "my side"); (case sd5 => k_extra "my side"); (case sd6 => k_extra "my nz")); k_extra "my M"))
  k_with "call ref" => ((k_here; (with_reducible show wpAny _ _ (call (Value.ref 141) [_, _, _, _]) _ _ _); k_dflt (refine' use2 (by k_asm) (by k_asm) (by k_asm) (by k_asm) (by k_asm) (by first | exact rfl | assumption) (c_mul _ _ _ _ _ _ _ _ _ ?sd0 ?sd1 ?sd2 ?sd3 ?sd4) (by ktr_room) (by ktr_units) ?_; (case sd0 => k_extra "my mp"); (case sd1 => k_extra "my mp"); (case sd2 => k_extra "my ok"); (case sd3 => k_extra "my ok"); (case sd4 => k_extra "my side")); k_extra "my M"))
  trivial
theorem c_from_rational {w : World} {mean : ExcName → Option Value} {mg mb : Str → Option Value} (news : List (Addr × Obj)) (way : Way) (n q p : Int) (t1 t2 t3 t4 : Tok) (hn : Builtin.Int.intBits n ≤ 400) (hq : Builtin.Int.intBits q ≤ 400) (hq0 : q ≠ 0) (hp : 1 ≤ p) (hp9 : p ≤ 200) :
    Ctr w mean mg mb 102 15 news [.int n t1, .int q t2, .int p t3, .str way.str t4] (fun r n' => MpIn n' r (divF way p (fme n 0) (fme q 0))) := by
  unfold Ctr
  k_fill
  intro dp un gd cn cs a ccd cl outer A₀ base h₀ L m' s Q E B F X N T hk hdp hun hret
  k_extra "my start"
  k_extra "my steps"
  all_goals first
    | exact hret _ _ _ _ (by with_reducible assumption) (by with_reducible assumption) (by k_extra "my sub") (by k_extra "my mp")
    | fail "no"
theorem bits_nz {n : Int} (h : n ≠ 0) : 1 ≤ Builtin.Int.intBits n := by
  unfold Builtin.Int.intBits; rw [if_neg (by simpa using h)]; omega
theorem rv1 {way : Way} {p s ex N n a q r v : Int} {y : Mp} (hv : Hid (v = q * 2 ^ (1 : Int).toNat)) (hq : Hid (q = N.fdiv y.man ∧ r = N.fmod y.man)) (hN : Hid (N = a * 2 ^ ex.toNat)) (hr : r ≠ 0) (hn : n ≠ 0) (ha : a = n.natAbs) (he : p + y.bc + 5 = ex) (hs : s = xor1 y.sign (sg n)) : rdivF way p n y = normF way s (v + 1) (-y.exp - (ex + 1)) (Builtin.Int.intBits (v + 1)) p := by
  obtain ⟨rfl⟩ := hv
  obtain ⟨rfl⟩ := hN
  obtain ⟨rfl, rfl⟩ := hq.out
  subst ha he hs
  unfold rdivF
  rw [if_neg hn, if_neg hr]
theorem rv2 {way : Way} {p s ex N n a q r : Int} {y : Mp} (hq : Hid (q = N.fdiv y.man ∧ r = N.fmod y.man)) (hN : Hid (N = a * 2 ^ ex.toNat)) (hr : r = 0) (hn : n ≠ 0) (ha : a = n.natAbs) (he : p + y.bc + 5 = ex) (hs : s = xor1 y.sign (sg n)) : rdivF way p n y = normF way s q (-y.exp - ex) (Builtin.Int.intBits q) p := by
  obtain ⟨rfl⟩ := hN
  obtain ⟨e1, e2⟩ := hq.out
  subst e1 ha he hs
  unfold rdivF
  rw [if_neg hn, if_pos (by rw [← e2]; exact hr)]
theorem mi1 {way : Way} {p s n v a b : Int} {x : Mp} (hv : Hid (v = x.man * a)) (hx : x.man ≠ 0) (ha : a = n.natAbs) (hs : s = xor1 x.sign (sg n)) (hb : b = Builtin.Int.intBits v) : mulIF way p x n = normF way s v x.exp b p := by
  obtain ⟨rfl⟩ := hv
  subst ha hs hb
  unfold mulIF
  rw [if_neg hx]
theorem su_C12_3 : True := by
  k_with "my xs" => (first | exact xs_neg (by with_reducible assumption) (by with_reducible assumption) (by with_reducible assumption) | exact xs_pos (by omega) (by with_reducible assumption))
  k_with "my side" => (exact mulint_bits (by with_reducible assumption) (by with_reducible assumption) (by omega) (by omega) (by with_reducible assumption) rfl)
  k_with "my side" => (((refine Int.le_trans (Int.le_of_eq (mulint_bits (by with_reducible assumption) (by with_reducible assumption) (by omega) (by omega) (by with_reducible assumption) rfl)) ?_); omega))
  trivial
theorem c_rdiv {w : World} {mean : ExcName → Option Value} {mg mb : Str → Option Value} (news : List (Addr × Obj)) (v2 : Value) (y : Mp) (way : Way) (n p : Int) (t1 t3 t4 : Tok) (h : MpIn news v2 y) (ok : Ok y) (hn : Builtin.Int.intBits n ≤ 300) (hp : 1 ≤ p) (hp9 : p ≤ 200) (hy0 : y.man ≠ 0) :
    Ctr w mean mg mb 172 15 news [.int n t1, v2, .int p t3, .str way.str t4] (fun r n' => MpIn n' r (rdivF way p n y)) := by
  unfold Ctr
  k_fill
  intro dp un gd cn cs a ccd cl outer A₀ base h₀ L m' s Q E B F X N T hk hdp hun hret
  have hok := ok
  obtain ⟨u1, u2, u3, u4, u5, u6, u7⟩ := ok
  obtain ⟨ys, ym, ye, yb⟩ := y
  have hh := h
  rcases h with _ | ⟨hz, hm⟩
  · exact absurd rfl hy0
  dsimp only at hy0 hz hm u1 u2 u3 u4 u5 u6
  have hnn : Builtin.Int.intBits (-n) ≤ 300 := bits_of_natAbs_le (by omega) hn
  k_extra "my start"
  k_extra "my steps"
  all_goals first
    | exact hret _ _ _ _ (by with_reducible assumption) (by with_reducible assumption) (by k_extra "my sub") (mpIn_cast (by k_extra "my mps") (rv1 (y := ⟨ys, ym, ye, yb⟩) (by with_reducible assumption) (by with_reducible assumption) (by with_reducible assumption) (by with_reducible assumption) (by omega) (by omega) rfl (by k_extra "my xs")))
    | exact hret _ _ _ _ (by with_reducible assumption) (by with_reducible assumption) (by k_extra "my sub") (mpIn_cast (by k_extra "my mps") (rv2 (y := ⟨ys, ym, ye, yb⟩) (by with_reducible assumption) (by with_reducible assumption) (by with_reducible assumption) (by omega) (by omega) rfl (by k_extra "my xs")))
    | exact hret _ _ _ _ (by with_reducible assumption) (by with_reducible assumption) (by k_extra "my sub") (mpIn_cast (by k_extra "my mps") (by unfold rdivF; rw [if_pos (by with_reducible assumption)]; unfold divF; rw [if_pos]; rw [fme_zero (by with_reducible assumption)]; rfl))
    | exact hret _ _ _ _ (by with_reducible assumption) (by with_reducible assumption) (by k_extra "my sub") (mpIn_cast (by k_extra "my mps") (by subst_vars; unfold rdivF; rw [if_pos rfl]; unfold divF; rw [if_pos]; rw [fme_zero rfl]; rfl))
    | fail "no"
theorem c_mul_int {w : World} {mean : ExcName → Option Value} {mg mb : Str → Option Value} (news : List (Addr × Obj)) (v1 : Value) (x : Mp) (way : Way) (n p : Int) (t2 t3 t4 : Tok) (h : MpIn news v1 x) (ok : Ok x) (hn : Builtin.Int.intBits n ≤ 400) (hn0 : n ≠ 0) (hp : 1 ≤ p) (hp9 : p ≤ 200) :
    Ctr w mean mg mb 149 8 news [v1, .int n t2, .int p t3, .str way.str t4] (fun r n' => MpIn n' r (mulIF way p x n)) := by
  unfold Ctr
  k_fill
  intro dp un gd cn cs a ccd cl outer A₀ base h₀ L m' s Q E B F X N T hk hdp hun hret
  have hok := ok
  obtain ⟨u1, u2, u3, u4, u5, u6, u7⟩ := ok
  obtain ⟨xs, xm, xe, xb⟩ := x
  have hh := h
  have hnn : Builtin.Int.intBits (-n) ≤ 400 := bits_of_natAbs_le (by omega) hn
  have hnb := bits_nz hn0
  have hnb2 := bits_nz (n := -n) (by omega)
  rcases h with _ | ⟨hz, hm⟩
  all_goals (try dsimp only at hz hm)
  all_goals dsimp only at u1 u2 u3 u4 u5 u6
  all_goals k_extra "my start"
  all_goals k_extra "my steps"
  all_goals first
    | exact hret _ _ _ _ (by with_reducible assumption) (by with_reducible assumption) (by k_extra "my sub") (mpIn_cast (by k_extra "my mps") (mi1 (x := ⟨xs, xm, xe, xb⟩) (by with_reducible assumption) hz (by omega) (by k_extra "my xs") (by k_extra "my side")))
    | exact hret _ _ _ _ (by with_reducible assumption) (by with_reducible assumption) (by k_extra "my sub") (mpIn_cast (by k_extra "my mps") (by unfold mulIF; rw [if_pos rfl]; exact (mulF_z (.inl rfl)).symm))
    | fail "no"
end
section
theorem su_C13_1 : True := by
  k_with_none
  k_with "my enter" => ((k_dflt (refine' code_def ?k1 ?k2 ?k3 ?k4 ?k5 ?kA ?kF ?kK ?k6 ?k7 ?k8 ?k9 ?kB ?_ ?c2 ?c3 ?c4 ?c5; (case kA => exact rfl); (case kF => exact rfl); (case kK => assumption); (case k1 => k_asm); (case k2 => k_asm); (case k3 => k_asm); (case k4 => k_asm); (case k5 => k_asm); (case k6 => k_is); (case k7 => k_is); (case k8 => ktr_room); (case k9 => first | exact BindsTo.of_eq rfl | exact binds_K (by k_in) rfl (by k_is) rfl rfl rfl); (case c5 => decide); (case kB => exact locs rfl); (case c2 => exact rfl); (case c3 => exact rfl); (case c4 => exact rfl); k_whole; intro g' L' h' FG' F' N' B' X' T'; (try dsimp only); (try k_lift B'); (try k_fold))))
  k_with "my start" => ((refine wpAny_call ?_; k_extra "my enter"; k_extra "my norm"))
  k_with "my steps" => (repeat' (first | (k_unfold; (try dsimp only)) | (k_end; wrow_close) | (law_purse 30000 => walk1) | (law_purse 30000 => (dsimp only; walk1)) | (leave1; try dsimp only) | fail "no step"))
  k_with "eval Subscript" => (k_extra "my cut")
  k_with "my omega" => (((try simp only [bne_iff_ne, beq_iff_eq, decide_eq_true_eq, ne_eq, Bool.not_eq_true', Bool.not_eq_false', beq_eq_false_iff_ne, bne_eq_false_iff_eq, decide_eq_false_iff_not]); omega))
  k_with "ite" => ((k_here; first | (refine ite_pos (by with_reducible assumption) ?_) | (refine ite_neg (by with_reducible assumption) ?_) | (refine ite_pos (by k_extra "my omega") ?_) | (refine ite_neg (by k_extra "my omega") ?_)))
  k_with "my arith" => (first | omega | decide | ((simp only [fdiv2, fdiv2', Int.reduceToNat, Int.toNat_one, Int.reducePow, Int.pow_one] at *); omega))
  k_with "binaryOp LShift int int" => ((k_here; (refine' lshift_hid (k := 5000) (by k_extra "my arith") (by bits_by_make) (by k_extra "my arith") (by decide) ?_); intro v9 hv9 hb9 hs9 hp9))
  k_with "inplaceOp LShift int int" => ((k_here; (refine' ilshift_hid (k := 5000) (by k_extra "my arith") (by bits_by_make) (by k_extra "my arith") (by decide) ?_); intro v9 hv9 hb9 hs9 hp9))
  k_with "binaryOp RShift int int" => ((k_here; (refine' rshift_hid (by k_extra "my arith") ?_); intro v9 hv9 hb9))
  k_with "inplaceOp RShift int int" => ((k_here; (refine' irshift_hid (by k_extra "my arith") ?_); intro v9 hv9 hb9))
  k_with "binaryOp BitAnd int int" => ((k_here; (refine' and_hid ?_); intro v9 hv9))
  k_with "binaryOp BitXor int int" => ((k_here; (refine' xor_hid ?_); intro v9 hv9))
  k_with "inplaceOp BitXor int int" => ((k_here; (refine' ixor_hid ?_); intro v9 hv9))
  k_with "binaryOp Mult int int" => ((k_here; (refine' mul_hid (by bits_by_make) (by bits_by_make) (by decide) ?_); intro v9 hv9 hb9 hz9 hn9))
  k_with "inplaceOp Mult int int" => ((k_here; (refine' imul_hid (by bits_by_make) (by bits_by_make) (by decide) ?_); intro v9 hv9 hb9 hz9 hn9))
  k_with "my open" => ((repeat ((rename Hid _ => hh9); (have hh9' := hh9.out); clear hh9; subst hh9')))
  k_with "binaryOp FloorDiv int int" => ((k_here; (refine' floordiv_int ?mb1 ?_ (Or.inl (PyProof.noPylong_of_log2 ?mb2))); (case mb1 => k_extra "my arith"); (case mb2 => (refine' log_of_bits ?mb3 ?mb4; (case mb3 => bits_by_make); (case mb4 => decide)))))
  k_with "exec" => ((k_here; (with_reducible show wpAny _ _ (PySem.exec (Stmt.While _ _ _ _) _) _ _ _); k_extra "my while"))
  k_with "my mp" => (first | with_reducible assumption | exact MpIn.zero | (refine MpIn.cons ?_; k_extra "my mp") | (refine MpIn.mono (by with_reducible assumption) ?_; k_extra "my mp"))
  k_with "my sub" => (first | with_reducible assumption | exact Sub.refl _ | (refine Sub.cons _ ?_; k_extra "my sub") | (refine Sub.trans ?_ (by with_reducible assumption); k_extra "my sub"))
  k_with "my side" => (first | with_reducible assumption | omega | bits_by_make)
  k_with "my side" => (first | ((with_reducible refine bits_side ?_); omega) | ((with_reducible refine bits_sideN ?_); omega))
  k_with "my I" => ((intro t9 h9 tk9 F9 N9; (try k_sweep); (try dsimp only); (try k_fold)))
  k_with "my M" => ((intro r9 n9 h9 tk9 F9 N9 S9 P9; (try k_sweep); (try dsimp only); (try k_fold)))
  k_with "my bd" => (first | (refine' Bd.cons ?be ?br; (case be => exact rfl); (case br => k_extra "my bd")) | exact Bd.nil rfl)
  k_with "my norm" => (((rename Fr _ _ _ _ => F9); (replace F9 := fr_bd F9 (by k_extra "my bd"))))
  k_with "my seen" => (first | exact Seen.hit | (refine' Seen.skip ?sk; (case sk => k_extra "my seen")))
  k_with "eval Name" => ((k_here; name_kind "globalImplicit"; k_dflt (refine' name_BF ?nb1 ?nb2 ?nb3 ?nb4 ?nb5 ?nb6 ?nb7 ?_; (case nb1 => k_asm); (case nb2 => k_asm); (case nb3 => k_asm); (case nb4 => k_is); (case nb5 => boot_by_name); (case nb6 => decide +kernel); (case nb7 => exact rfl); k_whole)))
  k_with "eval Name" => ((k_here; name_kind "globalImplicit"; k_dflt (refine' name_KF ?nk1 ?nk2 ?nk3 ?nk4 ?nk5 ?nk6 ?_; (case nk1 => k_asm); (case nk2 => k_asm); (case nk3 => k_asm); (case nk4 => k_is); (case nk5 => decide +kernel); (case nk6 => exact rfl); k_whole)))
  k_with "eval Name" => ((k_here; name_kind "local"; k_dflt (refine' ldT ?lk1 ?lk2 ?lk3 ?lk4 ?_; (case lk1 => k_asm); (case lk2 => exact rfl); (case lk3 => decide +kernel); (case lk4 => exact rfl); k_whole)))
  k_with "eval Name" => ((k_here; name_kind "local"; k_dflt (refine' ldS ?ls1 ?ls2 ?ls3 ?ls4 ?ls5 ?_; (case ls1 => k_asm); (case ls2 => with_reducible k_extra "my seen"); (case ls3 => kernel_rfl!); (case ls4 => decide +kernel); (case ls5 => exact rfl); k_whole)))
  k_with "storeName" => ((k_here; k_dflt (refine' store_KF ?st1 ?st2 ?st3 ?st4 ?_; (case st1 => k_asm); (case st2 => k_asm); (case st3 => decide +kernel); (case st4 => exact rfl); k_whole); intro h' F' N'; (try k_sweep)))
  k_with "ite" => ((k_closed; k_dflt (first | refine ite_pos (by decide) ?_ | refine ite_neg (by decide) ?_)))
  k_with "call ref" => ((k_here; (with_reducible show wpAny _ _ (call (Value.ref 28) _) _ _ _); k_dflt (refine ctrI_use (c_isqrt_small _ _ _ (by k_extra "my side") (by k_extra "my side")) (by k_asm) (by k_asm) (by k_asm) (by k_asm) (by k_asm) (by first | exact rfl | assumption) (by ktr_room) (by ktr_units) ?_); k_extra "my I"))
  k_with "call ref" => ((k_here; (with_reducible show wpAny _ _ (call (Value.ref 35) _) _ _ _); k_dflt (refine ctr_use (c_sqrtrem _ _ _ (by k_extra "my side") (by k_extra "my side")) (by k_asm) (by k_asm) (by k_asm) (by k_asm) (by k_asm) (by first | exact rfl | assumption) (by ktr_room) (by ktr_units) ?_); intro r9 n9 h9 tk9 F9 N9 S9 P9; cases P9; (try k_sweep); (try dsimp only); (try k_fold)))
  k_with "my wa" => (first | with_reducible assumption | omega)
  k_with "my strip" => (first | exact se1 (by k_extra "my wa") (by k_extra "my wa") (by k_extra "my wa") (by k_extra "my wa") | exact se2 (by k_extra "my wa") (by k_extra "my wa") (by k_extra "my wa") (by k_extra "my wa") | exact se3 (by k_extra "my wa") (by k_extra "my wa") (by k_extra "my wa") | exact se4 (by k_extra "my wa") (by k_extra "my wa") (by k_extra "my wa"))
  k_with "my round" => (first | exact ro1 (by k_extra "my wa") (by k_extra "my wa") (by k_extra "my wa") (by k_extra "my wa") | exact ro2 (by k_extra "my wa") (by k_extra "my wa") (by k_extra "my wa") (by k_extra "my wa") | exact rn1 (by k_extra "my wa") (by k_extra "my wa") (by k_extra "my wa") (by k_extra "my wa") | exact rn2 (by k_extra "my wa") (by k_extra "my wa") (by k_extra "my wa") (by k_extra "my wa") (by k_extra "my wa") (by k_extra "my wa") | exact rn3 (by k_extra "my wa") (by k_extra "my wa") (by k_extra "my wa") (by k_extra "my wa") (by k_extra "my wa") (by k_extra "my wa") (by k_extra "my wa") (by k_extra "my wa") (by k_extra "my wa") | exact rn4 (by k_extra "my wa") (by k_extra "my wa") (by k_extra "my wa") (by k_extra "my wa") (by k_extra "my wa") (by k_extra "my wa") (by k_extra "my wa") (by k_extra "my wa") (by k_extra "my wa"))
  k_with "my nf" => (first | (refine nf_lo (by k_extra "my wa") (by k_extra "my wa") ?_; k_extra "my strip") | (refine' nf_hi ?c9 ?d9 ?a9 ?b9; (case a9 => k_extra "my strip"); (case c9 => k_extra "my wa"); (case d9 => k_extra "my wa"); (case b9 => k_extra "my round")))
  k_with "call ref" => ((k_here; (with_reducible show wpAny _ _ (call (Value.ref 21) _) _ _ _); k_dflt (refine trailing_use (by k_asm) (by k_asm) (by k_asm) (by k_asm) (by k_asm) (by first | exact rfl | assumption) (by ktr_room) (by ktr_units) ?_); intro t9 h9 tk9 hz9 F9 N9; (try k_sweep); (try dsimp only); (try k_fold)))
  k_with "call ref" => ((k_here; (with_reducible show wpAny _ _ (call (Value.ref 71) _) _ _ _); k_dflt (refine ctr_use (c_norm0 _ _ _ _ _ _ _ _ _ _ _ _ _ (by k_extra "my side") (by k_extra "my side") (by k_extra "my side") (by k_extra "my side") (by k_extra "my side")) (by k_asm) (by k_asm) (by k_asm) (by k_asm) (by k_asm) (by first | exact rfl | assumption) (by ktr_room) (by ktr_units) ?_); k_extra "my M"))
  k_with "call ref" => ((k_here; (with_reducible show wpAny _ _ (call (Value.ref 78) _) _ _ _); k_dflt (refine ctr_use (c_norm _ _ _ _ _ _ _ _ _ _ _ _ _ (by k_extra "my side") (by k_extra "my side") (by k_extra "my side") (by k_extra "my side") (by k_extra "my side")) (by k_asm) (by k_asm) (by k_asm) (by k_asm) (by k_asm) (by first | exact rfl | assumption) (by ktr_room) (by ktr_units) ?_); k_extra "my M"))
  k_with "call ref" => ((k_here; (with_reducible show wpAny _ _ (call (Value.ref 21) _) _ _ _); k_dflt (refine trailing_use (by k_asm) (by k_asm) (by k_asm) (by k_asm) (by k_asm) (by first | exact rfl | assumption) (by ktr_room) (by ktr_units) ?_); intro t9 h9 tk9 hz9 F9 N9; (try k_sweep); (try dsimp only); (try k_fold)))
  k_with "my fm" => (first | exact fm_odd (by with_reducible assumption) (by with_reducible assumption) (by omega) | exact fm_two (by with_reducible assumption) (by with_reducible assumption) (by with_reducible assumption) (by with_reducible assumption) (by with_reducible assumption) (by omega) | exact fm_tr (by with_reducible assumption) (by omega))
  k_with "call ref" => ((k_here; (with_reducible show wpAny _ _ (call (Value.ref 86) [_, _]) _ _ _); k_dflt (refine ctr_use (c_fme _ _ _ _ _ (by k_extra "my side")) (by k_asm) (by k_asm) (by k_asm) (by k_asm) (by k_asm) (by first | exact rfl | assumption) (by ktr_room) (by ktr_units) ?_); k_extra "my M"))
  k_with "call ref" => ((k_here; (with_reducible show wpAny _ _ (call (Value.ref 86) [_, _, Value.int 0 _, _]) _ _ _); k_dflt (refine ctr_use (c_fme0 _ _ _ _ _ _ _ (by k_extra "my side")) (by k_asm) (by k_asm) (by k_asm) (by k_asm) (by k_asm) (by first | exact rfl | assumption) (by ktr_room) (by ktr_units) ?_); k_extra "my M"))
  k_with "call ref" => ((k_here; (with_reducible show wpAny _ _ (call (Value.ref 86) [_, _, Value.int _ _, _]) _ _ _); k_dflt (refine ctr_use (c_fmeR _ _ _ _ _ _ _ _ _ (by k_extra "my side") (by k_extra "my side") (by k_extra "my side")) (by k_asm) (by k_asm) (by k_asm) (by k_asm) (by k_asm) (by first | exact rfl | assumption) (by ktr_room) (by ktr_units) ?_); k_extra "my M"))
  k_with "my mps" => (first | with_reducible assumption | (refine MpIn.cons ?_; k_extra "my mps") | (refine MpIn.mono (by with_reducible assumption) ?_; k_extra "my mps"))
  k_with "my mpz" => (first | exact MpIn.zero | k_extra "my mps")
  k_with "compareOp Eq ref ref" => ((k_here; k_dflt (first | refine eq_mp_t (by k_asm) (by k_asm) (by k_asm) (by k_extra "my mpz") (by k_extra "my mpz") (by ktr_units) rfl ?_ | refine eq_mp_f (by k_asm) (by k_asm) (by k_asm) (by k_extra "my mpz") (by k_extra "my mpz") (by ktr_units) (by (try dsimp only [Mp.zero]); omega) ?_ | refine eq_mp_nan (by k_asm) (by k_asm) (by k_asm) (by k_extra "my mps") (by ktr_units) (by (try dsimp only [Mp.zero]); omega) ?_)))
  k_with "call builtin:divmod" => ((k_here; (with_reducible show wpAny _ _ (call (Value.builtin _) [Value.int _ _, Value.int _ _]) _ _ _); refine divmod_hid (by k_asm) (by k_asm) (by first | with_reducible assumption | omega) (by bits_by_make) (by bits_by_make) (by decide) ?_; intro D9 h9 tk9 t91 t92 q9 r9 hq9 hb9 hb99 hb999 hr9 F9 N9))
  k_with "call ref" => ((k_here; (with_reducible show wpAny _ _ (call (Value.ref 78) _) _ _ _); k_dflt (refine ctr_use (c_norm _ _ _ _ _ _ _ _ _ _ _ _ _ (by k_extra "my side") (by k_extra "my side") (by k_extra "my side") (by k_extra "my side") (by k_extra "my side")) (by k_asm) (by k_asm) (by k_asm) (by k_asm) (by k_asm) (by first | exact rfl | assumption) (by ktr_room) (by ktr_units) ?_); k_extra "my M"))
  k_with "my side" => (exact xor1_01 (by with_reducible assumption) (by with_reducible assumption) (by with_reducible assumption))
  k_with "call ref" => ((k_here; (with_reducible show wpAny _ _ (call (Value.ref 78) _) _ _ _); k_dflt (refine ctr_use (c_norm _ _ _ _ _ _ _ _ _ _ _ _ _ (by k_extra "my side") (by k_extra "my side") (by k_extra "my side") (by k_extra "my side") (by k_extra "my side")) (by k_asm) (by k_asm) (by k_asm) (by k_asm) (by k_asm) (by first | exact rfl | assumption) (by ktr_room) (by ktr_units) ?_); k_extra "my M"))
  k_with "call ref" => ((k_here; (with_reducible show wpAny _ _ (call (Value.ref 86) [_, _, Value.int _ _, _]) _ _ _); k_dflt (refine ctr_use (c_fmeR _ _ _ _ _ _ _ _ _ (by k_extra "my side") (by k_extra "my side") (by k_extra "my side")) (by k_asm) (by k_asm) (by k_asm) (by k_asm) (by k_asm) (by first | exact rfl | assumption) (by ktr_room) (by ktr_units) ?_); k_extra "my M"))
  trivial
theorem via_bool {M : Model} {A : Around} {E : Value → Shared → Prop} {s : Shared} {c : Sem Value} {Q : Value → Shared → Prop} (P : Bool → Prop)
    (h1 : wpAny M A c (fun r s' => ∃ v tk, r = .bool v ∧ s' = { s with toks := tk } ∧ P v) E s) (h2 : ∀ v tk, P v → Q (.bool v) { s with toks := tk }) : wpAny M A c Q E s :=
  wpAny_mono h1 (fun r s' ⟨v, tk, e1, e2, hp⟩ => by subst e1; subst e2; exact h2 v tk hp) fun _ _ h => h
theorem isq_bits {x : Int} (hx : 1 ≤ x) : 1 ≤ isqF x ∧ (Builtin.Int.intBits (isqF x) : Int) ≤ Builtin.Int.intBits x := by
  obtain ⟨h1, h2, h3⟩ := isqF_spec (x := x) (by omega)
  have h4 : 1 ≤ isqF x := by
    rcases Int.lt_or_le (isqF x) 1 with h | h
    · have : isqF x = 0 := by omega
      rw [this] at h3; omega
    · exact h
  refine ⟨h4, ?_⟩
  have := bits_mono (a := isqF x) (b := x) (by
    have := Int.mul_le_mul_of_nonneg_left h4 h1
    omega)
  omega
section
variable {w : World} {mean : ExcName → Option Value} {mg mb : Str → Option Value} {news : List (Addr × Obj)}
  {dp un : Nat} {gd : Option (List Code)} {cn : Str} {cs : Scope} {a : Addr} {ccd : Value} {cl : List (Str × Addr)} {outer : List Env} {A₀ : Around} {base h₀ : Heap} {L : Addr} {m : Str → Option Value} {s : Shared} {Q E : Value → Shared → Prop}
theorem isqrt_use {x : Int} {tx : Tok} (B : Below A₀ base outer h₀) (F : Fr h₀ L s.heap m) (X : (hd.heap_39 w.params).In h₀) (N : News h₀ L s.heap news) (T : Top hd.view_39 LS mean mg mb h₀) (hk : cs.kind = .function) (hx : 1 ≤ x) (hsz : Builtin.Int.intBits x ≤ 1000)
    (h1 : dp + 3 < recursionLimit) (h2 : un + 8 * 3 < cLine)
    (ret : ∀ (t : Tok) (h' : Heap) (tk' : Nat), 1 ≤ isqF x → (Builtin.Int.intBits (isqF x) : Int) ≤ Builtin.Int.intBits x → Fr h₀ L h' m → News h₀ L h' news → Q (.int (isqF x) t) { s with heap := h', toks := tk' }) :
    wpAny (model PySem.Challenge.rw_aa5010_01.row.prog w) (ktrTop dp un gd cn cs L a ccd cl outer) (call (.ref 42) [.int x tx]) Q E s := ctrI_use (c_isqrt news x tx hx hsz) B F X N T hk h1 h2 fun t h' tk' F' N' => ret t h' tk' (isq_bits hx).1 (isq_bits hx).2 F' N'
theorem sqrtrem_use {x : Int} {tx : Tok} (B : Below A₀ base outer h₀) (F : Fr h₀ L s.heap m) (X : (hd.heap_39 w.params).In h₀) (N : News h₀ L s.heap news) (T : Top hd.view_39 LS mean mg mb h₀) (hk : cs.kind = .function) (hx : 1 ≤ x) (hsz : Builtin.Int.intBits x ≤ 1000)
    (h1 : dp + 2 < recursionLimit) (h2 : un + 8 * 2 < cLine)
    (ret : ∀ (D : Addr) (t1 t2 : Tok) (c : Nat) (n' : List (Addr × Obj)) (h' : Heap) (tk' : Nat) (q r : Int), Hid (q = isqF x) → Hid (r = x - isqF x * isqF x) → 1 ≤ q → Builtin.Int.intBits q ≤ 1000 → (Builtin.Int.intBits q : Int) ≤ Builtin.Int.intBits x → Fr h₀ L h' m → News h₀ L h' n' → Sub news n' → (D, tup2 q r t1 t2 c) ∈ n' → Q (.ref D) { s with heap := h', toks := tk' }) :
    wpAny (model PySem.Challenge.rw_aa5010_01.row.prog w) (ktrTop dp un gd cn cs L a ccd cl outer) (call (.ref 35) [.int x tx]) Q E s := ctr_use (c_sqrtrem news x tx hx hsz) B F X N T hk h1 h2 fun r n' h' tk' F' N' S P => by
  have hb := isq_bits hx
  cases P with
  | tup h => exact ret _ _ _ _ _ _ _ _ _ ⟨rfl⟩ ⟨rfl⟩ hb.1 (by omega) hb.2 F' N' S h
end
section
variable {prog : Program} {w : World} {A : Around} {E : Value → Shared → Prop} {s : Shared} {a b : Int} {t u : Tok} {Q : Value → Shared → Prop} {h₀ : Heap} {L : Addr} {m : Str → Option Value} {news : List (Addr × Obj)}
theorem max_hid (hh : A.handled = none) (F : Fr h₀ L s.heap m) (N : News h₀ L s.heap news)
    (h : ∀ (v : Int) (t' : Tok) (h' : Heap) (tk : Nat), Hid (v = max a b) → (a ≤ v ∧ b ≤ v ∧ (v = a ∨ v = b)) → Fr h₀ L h' m → News h₀ L h' news → Q (.int v t') { s with heap := h', toks := tk }) :
    wpAny (model prog w) A (call (.builtin "max") [.int a t, .int b u]) Q E s := by
  refine max_two_ints hh fun h' tk k => ?_
  have F' := F.keeps k
  have N' := N.grown k
  by_cases hc : b > a
  · rw [if_pos hc]
    exact h _ _ _ _ ⟨by omega⟩ (by omega) F' N'
  · rw [if_neg hc]
    exact h _ _ _ _ ⟨by omega⟩ (by omega) F' N'
theorem and1_hid (h : ∀ v, Hid (v = Builtin.bitAnd a 1) → (v = 0 ∨ v = 1) → Q (.int v s.toks) { s with toks := s.toks + 1 }) : wpAny (model prog w) A (binaryOp .BitAnd (.int a t) (.int 1 u)) Q E s := and_int (h _ ⟨rfl⟩ (by rw [bitAnd_m1]; omega))
theorem mul2_any (hb : Builtin.Int.intBits b ≤ 1000) (h : Q (.int (2 * b) s.toks) { s with toks := s.toks + 1 }) : wpAny (model prog w) A (binaryOp .Mult (.int 2 t) (.int b u)) Q E s :=
  PyProof.Rows.mul_int h (mulOk_of_bits (m := 2) (n := 1000) (by decide) hb (by decide))
end
theorem su_C13_2 : True := by
  k_with "compareOp In str str" => (k_extra "my in")
  k_with "call ref" => ((k_here; (with_reducible show wpAny _ _ (call (Value.ref 42) _) _ _ _); k_dflt (refine isqrt_use (by k_asm) (by k_asm) (by k_asm) (by k_asm) (by k_asm) (by first | exact rfl | assumption) (by k_extra "my side") (by k_extra "my side") (by ktr_room) (by ktr_units) ?_); intro t9 h9 tk9 hq9 hb9 F9 N9; (try k_sweep); (try dsimp only); (try k_fold)))
  k_with "call ref" => ((k_here; (with_reducible show wpAny _ _ (call (Value.ref 35) _) _ _ _); k_dflt (refine sqrtrem_use (by k_asm) (by k_asm) (by k_asm) (by k_asm) (by k_asm) (by first | exact rfl | assumption) (by k_extra "my side") (by k_extra "my side") (by ktr_room) (by ktr_units) ?_); intro D9 t91 t92 c9 n9 h9 tk9 q9 r9 hq9 hr9 h19 hb9 hb99 F9 N9 S9 hm9; (try k_sweep); (try dsimp only); (try k_fold)))
  k_with "call builtin:max" => ((k_here; (with_reducible show wpAny _ _ (call (Value.builtin _) [Value.int _ _, Value.int _ _]) _ _ _); (with_unfolding_all refine' max_hid ?hh9 ?F9 ?N9 ?_; (case hh9 => with_unfolding_all rfl); (case F9 => k_asm); (case N9 => k_asm)); intro v9 t9 h9 tk9 hv9 hb9 F9 N9; (try k_sweep); (try dsimp only); (try k_fold)))
  k_with "binaryOp BitAnd int int" => ((k_here; (with_reducible refine and1_hid ?_); intro v9 hv9 hb9))
  k_with "binaryOp Mult int int" => ((k_here; (with_reducible refine mul2_any ?mz ?_); (case mz => with_reducible assumption)))
  trivial
theorem sh_eq {p b mx v : Int} (hmx : Hid (mx = max 4 (2 * p - b + 4))) (hv : Hid (v = Builtin.bitAnd mx 1)) : sqrtS.shF p b = mx + v := by
  obtain ⟨rfl⟩ := hmx
  obtain ⟨rfl⟩ := hv
  rfl
theorem sq1 {way : Way} {p M b e mx v N : Int} (hN : Hid (N = M * 2 ^ (mx + v).toNat)) (hmx : Hid (mx = max 4 (2 * p - b + 4))) (hv : Hid (v = Builtin.bitAnd mx 1)) {bb : Bool} (hw : bb = wayFD way) (hbb : bb = true) : sqrtS way p M b e = rnd way p 0 (isqF N) ((e - (mx + v)).fdiv 2) := by
  unfold sqrtS
  rw [sh_eq hmx hv, if_pos (hw ▸ hbb), ← hN.out]
theorem sq2 {way : Way} {p M b e mx v N q r q2 : Int} (hq2 : Hid (q2 = q * 2 ^ (1 : Int).toNat)) (hq : Hid (q = isqF N)) (hr : Hid (r = N - isqF N * isqF N)) (h0 : r ≠ 0) (hN : Hid (N = M * 2 ^ (mx + v).toNat)) (hmx : Hid (mx = max 4 (2 * p - b + 4))) (hv : Hid (v = Builtin.bitAnd mx 1)) {bb : Bool} (hw : bb = wayFD way) (hbb : bb = false) : sqrtS way p M b e = rnd way p 0 (q2 + 1) ((e - (mx + v + 2)).fdiv 2) := by
  unfold sqrtS
  rw [sh_eq hmx hv, if_neg (by rw [← hw, hbb]; decide), ← hN.out, if_neg (by rw [← hr.out]; exact h0), hq2.out, hq.out]
theorem sq3 {way : Way} {p M b e mx v N q r : Int} (hq : Hid (q = isqF N)) (hr : Hid (r = N - isqF N * isqF N)) (h0 : r = 0) (hN : Hid (N = M * 2 ^ (mx + v).toNat)) (hmx : Hid (mx = max 4 (2 * p - b + 4))) (hv : Hid (v = Builtin.bitAnd mx 1)) {bb : Bool} (hw : bb = wayFD way) (hbb : bb = false) : sqrtS way p M b e = rnd way p 0 q ((e - (mx + v)).fdiv 2) := by
  unfold sqrtS
  rw [sh_eq hmx hv, if_neg (by rw [← hw, hbb]; decide), ← hN.out, if_pos (by rw [← hr.out]; exact h0), hq.out]
theorem so {way : Way} {p v M s m e b : Int} {d : Mp} (hv : Hid (v = Builtin.bitAnd e 1)) (h1 : v ≠ 0) (hM : Hid (M = m * 2 ^ (1 : Int).toNat)) (hm : m ≠ 0) (hd : sqrtS way p M (b + 1) (e - 1) = d) : sqrtF way p ⟨s, m, e, b⟩ = d := by
  obtain ⟨rfl⟩ := hv
  obtain ⟨rfl⟩ := hM
  unfold sqrtF
  rw [if_neg hm, if_neg h1, hd]
theorem se {way : Way} {p v s m e b : Int} {d : Mp} (hv : Hid (v = Builtin.bitAnd e 1)) (h1 : v = 0) (hm : m ≠ 0) (hm1 : m ≠ 1) (hd : sqrtS way p m b e = d) : sqrtF way p ⟨s, m, e, b⟩ = d := by
  obtain ⟨rfl⟩ := hv
  unfold sqrtF
  rw [if_neg hm, if_pos h1, if_neg hm1, hd]
theorem s1 {way : Way} {p v s m e b : Int} (hv : Hid (v = Builtin.bitAnd e 1)) (h1 : v = 0) (hm1 : m = 1) (hb : b = Builtin.Int.intBits m) : sqrtF way p ⟨s, m, e, b⟩ = normF way 0 m (e.fdiv 2) b p := by
  obtain ⟨rfl⟩ := hv
  subst hm1 hb
  unfold sqrtF
  rw [if_neg (show ¬ (1 : Int) = 0 by decide), if_pos h1, if_pos rfl]
theorem su_C13_3 : True := by
  k_with "my sq" => (first | exact sq2 (by with_reducible assumption) (by with_reducible assumption) (by with_reducible assumption) (by with_reducible assumption) (by with_reducible assumption) (by with_reducible assumption) (by with_reducible assumption) (by with_reducible assumption) (by with_reducible assumption) | exact sq3 (by with_reducible assumption) (by with_reducible assumption) (by with_reducible assumption) (by with_reducible assumption) (by with_reducible assumption) (by with_reducible assumption) (by with_reducible assumption) (by with_reducible assumption) | exact sq1 (by with_reducible assumption) (by with_reducible assumption) (by with_reducible assumption) (by with_reducible assumption) (by with_reducible assumption))
  trivial
theorem occ_w (w : Way) : (!(Builtin.Str.occurrences (Str.ofString "fd") w.str 0 (Str.ofString "fd").length 1).isEmpty) = wayFD w := by cases w <;> decide +kernel
theorem su_C13_4 : True := by
  k_with "Exists" => ((k_dflt (refine' ⟨_, _, rfl, rfl, ?exq⟩); (case exq => first | exact occ_w _ | kernel_rfl! | exact rfl)))
  trivial
theorem c_sqrt {w : World} {mean : ExcName → Option Value} {mg mb : Str → Option Value} (news : List (Addr × Obj)) (v1 : Value) (x : Mp) (way : Way) (p : Int) (t2 t3 : Tok) (h : MpIn news v1 x) (ok : Ok x) (hs0 : x.sign = 0) (hp : 1 ≤ p) (hp9 : p ≤ 100) :
    Ctr w mean mg mb 180 8 news [v1, .int p t2, .str way.str t3] (fun r n' => MpIn n' r (sqrtF way p x)) := by
  unfold Ctr
  k_fill
  intro dp un gd cn cs a ccd cl outer A₀ base h₀ L m' s Q E B F X N T hk hdp hun hret
  have hok := ok
  have hpb : Builtin.Int.intBits p ≤ 1000 := Nat.le_trans (intBits_le (k := 7) (by omega)) (by decide)
  obtain ⟨u1, u2, u3, u4, u5, u6, u7⟩ := ok
  obtain ⟨xs, xm, xe, xb⟩ := x
  have hh := h
  rcases h with _ | ⟨hz, hm⟩
  all_goals (try dsimp only at hz hm)
  all_goals dsimp only at u1 u2 u3 u4 u5 u6 hs0
  all_goals (try subst hs0)
  all_goals k_extra "my start"
  k_with "my in" => (refine via_bool (fun v => v = wayFD way) ?_ ?_; cases way)
  all_goals k_extra "my steps"
  all_goals (try first | (exact by rfl) | (exact by decide +kernel))
  all_goals (refine hret _ _ _ _ (by with_reducible assumption) (by with_reducible assumption) (by k_extra "my sub") ?_)
  all_goals first
    | ((with_reducible refine mpIn_zero ?_); exact if_pos rfl)
    | with_reducible exact (mpIn_cast (by k_extra "my mps") (s1 (by with_reducible assumption) (by with_reducible assumption) (by with_reducible assumption) u3))
    | with_reducible exact (mpIn_cast (by k_extra "my mps") (so (by with_reducible assumption) (by with_reducible assumption) (by with_reducible assumption) hz (by k_extra "my sq")))
    | with_reducible exact (mpIn_cast (by k_extra "my mps") (se (by with_reducible assumption) (by with_reducible assumption) hz (by with_reducible assumption) (by k_extra "my sq")))
    | fail "no"
end
section
def addF (w : Way) (p : Int) (x y : Mp) : Mp :=
  if x.man = 0 then rnd w p y.sign y.man y.exp
  else if x.exp - y.exp = 0 then rnd w p 0 (y.man + x.man) y.exp
  else if 0 < x.exp - y.exp then rnd w p 0 (y.man + x.man * 2 ^ (x.exp - y.exp).toNat) y.exp
  else rnd w p 0 (x.man + y.man * 2 ^ (-(x.exp - y.exp)).toNat) x.exp
def hypotF (p : Int) (x y : Mp) : Mp :=
  if y.man = 0 then rnd .n p 0 x.man x.exp
  else if x.man = 0 then rnd .n p 0 y.man y.exp
  else sqrtF .n p (addF .d (p + 4) (mulX x x) (mulX y y))
theorem sign_rnd (w : Way) (p M e : Int) : (rnd w p 0 M e).sign = 0 := by
  unfold rnd normF stripF
  repeat' split
  all_goals rfl
theorem shl_man_bits {a n : Int} {k j : Nat} (ha : Builtin.Int.intBits a ≤ k) (hn : n ≤ j) (hn0 : 0 ≤ n) : Builtin.Int.intBits (a * 2 ^ n.toNat) ≤ k + j := by
  have := (shl_of (a := a) hn0).1
  omega
theorem sum_bits {a b : Int} {k : Nat} (h1 : Builtin.Int.intBits a ≤ k) (h2 : Builtin.Int.intBits b ≤ k) : Builtin.Int.intBits (a + b) ≤ k + 1 := by
  have := bits_add h1 h2
  omega
theorem ok_mulX {x y : Mp} (h1 : Ok x) (h2 : Ok y) (hb1 : Builtin.Int.intBits x.man ≤ 200) (hb2 : Builtin.Int.intBits y.man ≤ 200) (hx1 : -1000 ≤ x.exp) (hx2 : x.exp ≤ 1000) (hy1 : -1000 ≤ y.exp) (hy2 : y.exp ≤ 1000) : Ok (mulX x y) := by
  unfold mulX
  split
  · exact ⟨.inl rfl, by decide, by decide, by decide, by decide, by decide, fun _ => rfl⟩
  · rename_i h
    refine ⟨xor1_b _ _, Int.mul_nonneg h1.mn h2.mn, rfl, Nat.le_trans (bits_mul hb1 hb2) (by decide), by dsimp only; omega, by dsimp only; omega, fun q => absurd q h⟩
theorem addF_facts {w : Way} {p : Int} {x y : Mp} (h1 : Ok x) (h2 : Ok y) (hs1 : x.sign = 0) (hs2 : y.sign = 0) (hp : 1 ≤ p) (hp9 : p ≤ 300) (hd1 : -100 ≤ x.exp - y.exp) (hd2 : x.exp - y.exp ≤ 100) (hx1 : -1400 ≤ x.exp) (hx2 : x.exp ≤ 1400) (hy1 : -1400 ≤ y.exp) (hy2 : y.exp ≤ 1400) : Ok (addF w p x y) ∧ (addF w p x y).sign = 0 := by
  have a1 := h1.mn
  have a2 := h2.mn
  have b1 := h1.sz
  have b2 := h2.sz
  unfold addF
  split
  · rw [hs2]
    exact ⟨ok_rnd (.inl rfl) a2 hp hp9 (by omega) hy1 hy2, sign_rnd _ _ _ _⟩
  · split
    · exact ⟨ok_rnd (.inl rfl) (by omega) hp hp9 (Nat.le_trans (sum_bits b2 b1) (by decide)) hy1 hy2, sign_rnd _ _ _ _⟩
    · split
      · have c := shl_man_bits (n := x.exp - y.exp) (j := 100) b1 (by omega) (by omega)
        have d := Int.mul_nonneg a1 (Int.le_of_lt (p2pos (x.exp - y.exp).toNat))
        exact ⟨ok_rnd (.inl rfl) (by omega) hp hp9 (Nat.le_trans (sum_bits (k := 500) (by omega) c) (by decide)) hy1 hy2, sign_rnd _ _ _ _⟩
      · have c := shl_man_bits (n := -(x.exp - y.exp)) (j := 100) b2 (by omega) (by omega)
        have d := Int.mul_nonneg a2 (Int.le_of_lt (p2pos (-(x.exp - y.exp)).toNat))
        exact ⟨ok_rnd (.inl rfl) (by omega) hp hp9 (Nat.le_trans (sum_bits (k := 500) (by omega) c) (by decide)) hx1 hx2, sign_rnd _ _ _ _⟩
end
section
theorem su_C14_1 : True := by
  k_with_none
  k_with "my enter" => ((k_dflt (refine' code_def ?k1 ?k2 ?k3 ?k4 ?k5 ?kA ?kF ?kK ?k6 ?k7 ?k8 ?k9 ?kB ?_ ?c2 ?c3 ?c4 ?c5; (case kA => exact rfl); (case kF => exact rfl); (case kK => assumption); (case k1 => k_asm); (case k2 => k_asm); (case k3 => k_asm); (case k4 => k_asm); (case k5 => k_asm); (case k6 => k_is); (case k7 => k_is); (case k8 => ktr_room); (case k9 => first | exact BindsTo.of_eq rfl | exact binds_K (by k_in) rfl (by k_is) rfl rfl rfl); (case c5 => decide); (case kB => exact locs rfl); (case c2 => exact rfl); (case c3 => exact rfl); (case c4 => exact rfl); k_whole; intro g' L' h' FG' F' N' B' X' T'; (try dsimp only); (try k_lift B'); (try k_fold))))
  k_with "my start" => ((refine wpAny_call ?_; k_extra "my enter"; k_extra "my norm"))
  k_with "my steps" => (repeat' (first | (k_unfold; (try dsimp only)) | (k_end; wrow_close) | (law_purse 30000 => walk1) | (law_purse 30000 => (dsimp only; walk1)) | (leave1; try dsimp only) | fail "no step"))
  k_with "eval Subscript" => (k_extra "my cut")
  k_with "my omega" => (((try simp only [bne_iff_ne, beq_iff_eq, decide_eq_true_eq, ne_eq, Bool.not_eq_true', Bool.not_eq_false', beq_eq_false_iff_ne, bne_eq_false_iff_eq, decide_eq_false_iff_not]); omega))
  k_with "ite" => ((k_here; first | (refine ite_pos (by with_reducible assumption) ?_) | (refine ite_neg (by with_reducible assumption) ?_) | (refine ite_pos (by k_extra "my omega") ?_) | (refine ite_neg (by k_extra "my omega") ?_)))
  k_with "my arith" => (first | omega | decide | ((simp only [fdiv2, fdiv2', Int.reduceToNat, Int.toNat_one, Int.reducePow, Int.pow_one] at *); omega))
  k_with "binaryOp LShift int int" => ((k_here; (refine' lshift_hid (k := 5000) (by k_extra "my arith") (by bits_by_make) (by k_extra "my arith") (by decide) ?_); intro v9 hv9 hb9 hs9 hp9))
  k_with "inplaceOp LShift int int" => ((k_here; (refine' ilshift_hid (k := 5000) (by k_extra "my arith") (by bits_by_make) (by k_extra "my arith") (by decide) ?_); intro v9 hv9 hb9 hs9 hp9))
  k_with "binaryOp RShift int int" => ((k_here; (refine' rshift_hid (by k_extra "my arith") ?_); intro v9 hv9 hb9))
  k_with "inplaceOp RShift int int" => ((k_here; (refine' irshift_hid (by k_extra "my arith") ?_); intro v9 hv9 hb9))
  k_with "binaryOp BitAnd int int" => ((k_here; (refine' and_hid ?_); intro v9 hv9))
  k_with "binaryOp BitXor int int" => ((k_here; (refine' xor_hid ?_); intro v9 hv9))
  k_with "inplaceOp BitXor int int" => ((k_here; (refine' ixor_hid ?_); intro v9 hv9))
  k_with "binaryOp Mult int int" => ((k_here; (refine' mul_hid (by bits_by_make) (by bits_by_make) (by decide) ?_); intro v9 hv9 hb9 hz9 hn9))
  k_with "inplaceOp Mult int int" => ((k_here; (refine' imul_hid (by bits_by_make) (by bits_by_make) (by decide) ?_); intro v9 hv9 hb9 hz9 hn9))
  k_with "my open" => ((repeat ((rename Hid _ => hh9); (have hh9' := hh9.out); clear hh9; subst hh9')))
  k_with "binaryOp FloorDiv int int" => ((k_here; (refine' floordiv_int ?mb1 ?_ (Or.inl (PyProof.noPylong_of_log2 ?mb2))); (case mb1 => k_extra "my arith"); (case mb2 => (refine' log_of_bits ?mb3 ?mb4; (case mb3 => bits_by_make); (case mb4 => decide)))))
  k_with "exec" => ((k_here; (with_reducible show wpAny _ _ (PySem.exec (Stmt.While _ _ _ _) _) _ _ _); k_extra "my while"))
  k_with "my mp" => (first | with_reducible assumption | exact MpIn.zero | (refine MpIn.cons ?_; k_extra "my mp") | (refine MpIn.mono (by with_reducible assumption) ?_; k_extra "my mp"))
  k_with "my sub" => (first | with_reducible assumption | exact Sub.refl _ | (refine Sub.cons _ ?_; k_extra "my sub") | (refine Sub.trans ?_ (by with_reducible assumption); k_extra "my sub"))
  k_with "my side" => (first | with_reducible assumption | omega | bits_by_make)
  k_with "my side" => (first | ((with_reducible refine bits_side ?_); omega) | ((with_reducible refine bits_sideN ?_); omega))
  k_with "my I" => ((intro t9 h9 tk9 F9 N9; (try k_sweep); (try dsimp only); (try k_fold)))
  k_with "my M" => ((intro r9 n9 h9 tk9 F9 N9 S9 P9; (try k_sweep); (try dsimp only); (try k_fold)))
  k_with "my bd" => (first | (refine' Bd.cons ?be ?br; (case be => exact rfl); (case br => k_extra "my bd")) | exact Bd.nil rfl)
  k_with "my norm" => (((rename Fr _ _ _ _ => F9); (replace F9 := fr_bd F9 (by k_extra "my bd"))))
  k_with "my seen" => (first | exact Seen.hit | (refine' Seen.skip ?sk; (case sk => k_extra "my seen")))
  k_with "eval Name" => ((k_here; name_kind "globalImplicit"; k_dflt (refine' name_BF ?nb1 ?nb2 ?nb3 ?nb4 ?nb5 ?nb6 ?nb7 ?_; (case nb1 => k_asm); (case nb2 => k_asm); (case nb3 => k_asm); (case nb4 => k_is); (case nb5 => boot_by_name); (case nb6 => decide +kernel); (case nb7 => exact rfl); k_whole)))
  k_with "eval Name" => ((k_here; name_kind "globalImplicit"; k_dflt (refine' name_KF ?nk1 ?nk2 ?nk3 ?nk4 ?nk5 ?nk6 ?_; (case nk1 => k_asm); (case nk2 => k_asm); (case nk3 => k_asm); (case nk4 => k_is); (case nk5 => decide +kernel); (case nk6 => exact rfl); k_whole)))
  k_with "eval Name" => ((k_here; name_kind "local"; k_dflt (refine' ldT ?lk1 ?lk2 ?lk3 ?lk4 ?_; (case lk1 => k_asm); (case lk2 => exact rfl); (case lk3 => decide +kernel); (case lk4 => exact rfl); k_whole)))
  k_with "eval Name" => ((k_here; name_kind "local"; k_dflt (refine' ldS ?ls1 ?ls2 ?ls3 ?ls4 ?ls5 ?_; (case ls1 => k_asm); (case ls2 => with_reducible k_extra "my seen"); (case ls3 => kernel_rfl!); (case ls4 => decide +kernel); (case ls5 => exact rfl); k_whole)))
  k_with "storeName" => ((k_here; k_dflt (refine' store_KF ?st1 ?st2 ?st3 ?st4 ?_; (case st1 => k_asm); (case st2 => k_asm); (case st3 => decide +kernel); (case st4 => exact rfl); k_whole); intro h' F' N'; (try k_sweep)))
  k_with "ite" => ((k_closed; k_dflt (first | refine ite_pos (by decide) ?_ | refine ite_neg (by decide) ?_)))
  k_with "call ref" => ((k_here; (with_reducible show wpAny _ _ (call (Value.ref 28) _) _ _ _); k_dflt (refine ctrI_use (c_isqrt_small _ _ _ (by k_extra "my side") (by k_extra "my side")) (by k_asm) (by k_asm) (by k_asm) (by k_asm) (by k_asm) (by first | exact rfl | assumption) (by ktr_room) (by ktr_units) ?_); k_extra "my I"))
  k_with "call ref" => ((k_here; (with_reducible show wpAny _ _ (call (Value.ref 35) _) _ _ _); k_dflt (refine ctr_use (c_sqrtrem _ _ _ (by k_extra "my side") (by k_extra "my side")) (by k_asm) (by k_asm) (by k_asm) (by k_asm) (by k_asm) (by first | exact rfl | assumption) (by ktr_room) (by ktr_units) ?_); intro r9 n9 h9 tk9 F9 N9 S9 P9; cases P9; (try k_sweep); (try dsimp only); (try k_fold)))
  k_with "my wa" => (first | with_reducible assumption | omega)
  k_with "my strip" => (first | exact se1 (by k_extra "my wa") (by k_extra "my wa") (by k_extra "my wa") (by k_extra "my wa") | exact se2 (by k_extra "my wa") (by k_extra "my wa") (by k_extra "my wa") (by k_extra "my wa") | exact se3 (by k_extra "my wa") (by k_extra "my wa") (by k_extra "my wa") | exact se4 (by k_extra "my wa") (by k_extra "my wa") (by k_extra "my wa"))
  k_with "my round" => (first | exact ro1 (by k_extra "my wa") (by k_extra "my wa") (by k_extra "my wa") (by k_extra "my wa") | exact ro2 (by k_extra "my wa") (by k_extra "my wa") (by k_extra "my wa") (by k_extra "my wa") | exact rn1 (by k_extra "my wa") (by k_extra "my wa") (by k_extra "my wa") (by k_extra "my wa") | exact rn2 (by k_extra "my wa") (by k_extra "my wa") (by k_extra "my wa") (by k_extra "my wa") (by k_extra "my wa") (by k_extra "my wa") | exact rn3 (by k_extra "my wa") (by k_extra "my wa") (by k_extra "my wa") (by k_extra "my wa") (by k_extra "my wa") (by k_extra "my wa") (by k_extra "my wa") (by k_extra "my wa") (by k_extra "my wa") | exact rn4 (by k_extra "my wa") (by k_extra "my wa") (by k_extra "my wa") (by k_extra "my wa") (by k_extra "my wa") (by k_extra "my wa") (by k_extra "my wa") (by k_extra "my wa") (by k_extra "my wa"))
  k_with "my nf" => (first | (refine nf_lo (by k_extra "my wa") (by k_extra "my wa") ?_; k_extra "my strip") | (refine' nf_hi ?c9 ?d9 ?a9 ?b9; (case a9 => k_extra "my strip"); (case c9 => k_extra "my wa"); (case d9 => k_extra "my wa"); (case b9 => k_extra "my round")))
  k_with "call ref" => ((k_here; (with_reducible show wpAny _ _ (call (Value.ref 21) _) _ _ _); k_dflt (refine trailing_use (by k_asm) (by k_asm) (by k_asm) (by k_asm) (by k_asm) (by first | exact rfl | assumption) (by ktr_room) (by ktr_units) ?_); intro t9 h9 tk9 hz9 F9 N9; (try k_sweep); (try dsimp only); (try k_fold)))
  k_with "call ref" => ((k_here; (with_reducible show wpAny _ _ (call (Value.ref 71) _) _ _ _); k_dflt (refine ctr_use (c_norm0 _ _ _ _ _ _ _ _ _ _ _ _ _ (by k_extra "my side") (by k_extra "my side") (by k_extra "my side") (by k_extra "my side") (by k_extra "my side")) (by k_asm) (by k_asm) (by k_asm) (by k_asm) (by k_asm) (by first | exact rfl | assumption) (by ktr_room) (by ktr_units) ?_); k_extra "my M"))
  k_with "call ref" => ((k_here; (with_reducible show wpAny _ _ (call (Value.ref 78) _) _ _ _); k_dflt (refine ctr_use (c_norm _ _ _ _ _ _ _ _ _ _ _ _ _ (by k_extra "my side") (by k_extra "my side") (by k_extra "my side") (by k_extra "my side") (by k_extra "my side")) (by k_asm) (by k_asm) (by k_asm) (by k_asm) (by k_asm) (by first | exact rfl | assumption) (by ktr_room) (by ktr_units) ?_); k_extra "my M"))
  k_with "call ref" => ((k_here; (with_reducible show wpAny _ _ (call (Value.ref 21) _) _ _ _); k_dflt (refine trailing_use (by k_asm) (by k_asm) (by k_asm) (by k_asm) (by k_asm) (by first | exact rfl | assumption) (by ktr_room) (by ktr_units) ?_); intro t9 h9 tk9 hz9 F9 N9; (try k_sweep); (try dsimp only); (try k_fold)))
  k_with "my fm" => (first | exact fm_odd (by with_reducible assumption) (by with_reducible assumption) (by omega) | exact fm_two (by with_reducible assumption) (by with_reducible assumption) (by with_reducible assumption) (by with_reducible assumption) (by with_reducible assumption) (by omega) | exact fm_tr (by with_reducible assumption) (by omega))
  k_with "call ref" => ((k_here; (with_reducible show wpAny _ _ (call (Value.ref 86) [_, _]) _ _ _); k_dflt (refine ctr_use (c_fme _ _ _ _ _ (by k_extra "my side")) (by k_asm) (by k_asm) (by k_asm) (by k_asm) (by k_asm) (by first | exact rfl | assumption) (by ktr_room) (by ktr_units) ?_); k_extra "my M"))
  k_with "call ref" => ((k_here; (with_reducible show wpAny _ _ (call (Value.ref 86) [_, _, Value.int 0 _, _]) _ _ _); k_dflt (refine ctr_use (c_fme0 _ _ _ _ _ _ _ (by k_extra "my side")) (by k_asm) (by k_asm) (by k_asm) (by k_asm) (by k_asm) (by first | exact rfl | assumption) (by ktr_room) (by ktr_units) ?_); k_extra "my M"))
  k_with "call ref" => ((k_here; (with_reducible show wpAny _ _ (call (Value.ref 86) [_, _, Value.int _ _, _]) _ _ _); k_dflt (refine ctr_use (c_fmeR _ _ _ _ _ _ _ _ _ (by k_extra "my side") (by k_extra "my side") (by k_extra "my side")) (by k_asm) (by k_asm) (by k_asm) (by k_asm) (by k_asm) (by first | exact rfl | assumption) (by ktr_room) (by ktr_units) ?_); k_extra "my M"))
  k_with "my mps" => (first | with_reducible assumption | (refine MpIn.cons ?_; k_extra "my mps") | (refine MpIn.mono (by with_reducible assumption) ?_; k_extra "my mps"))
  k_with "my mpz" => (first | exact MpIn.zero | k_extra "my mps")
  k_with "compareOp Eq ref ref" => ((k_here; k_dflt (first | refine eq_mp_t (by k_asm) (by k_asm) (by k_asm) (by k_extra "my mpz") (by k_extra "my mpz") (by ktr_units) rfl ?_ | refine eq_mp_f (by k_asm) (by k_asm) (by k_asm) (by k_extra "my mpz") (by k_extra "my mpz") (by ktr_units) (by (try dsimp only [Mp.zero]); omega) ?_ | refine eq_mp_nan (by k_asm) (by k_asm) (by k_asm) (by k_extra "my mps") (by ktr_units) (by (try dsimp only [Mp.zero]); omega) ?_)))
  k_with "call builtin:divmod" => ((k_here; (with_reducible show wpAny _ _ (call (Value.builtin _) [Value.int _ _, Value.int _ _]) _ _ _); refine divmod_hid (by k_asm) (by k_asm) (by first | with_reducible assumption | omega) (by bits_by_make) (by bits_by_make) (by decide) ?_; intro D9 h9 tk9 t91 t92 q9 r9 hq9 hb9 hb99 hb999 hr9 F9 N9))
  k_with "call ref" => ((k_here; (with_reducible show wpAny _ _ (call (Value.ref 78) _) _ _ _); k_dflt (refine ctr_use (c_norm _ _ _ _ _ _ _ _ _ _ _ _ _ (by k_extra "my side") (by k_extra "my side") (by k_extra "my side") (by k_extra "my side") (by k_extra "my side")) (by k_asm) (by k_asm) (by k_asm) (by k_asm) (by k_asm) (by first | exact rfl | assumption) (by ktr_room) (by ktr_units) ?_); k_extra "my M"))
  k_with "my side" => (exact xor1_01 (by with_reducible assumption) (by with_reducible assumption) (by with_reducible assumption))
  k_with "call ref" => ((k_here; (with_reducible show wpAny _ _ (call (Value.ref 78) _) _ _ _); k_dflt (refine ctr_use (c_norm _ _ _ _ _ _ _ _ _ _ _ _ _ (by k_extra "my side") (by k_extra "my side") (by k_extra "my side") (by k_extra "my side") (by k_extra "my side")) (by k_asm) (by k_asm) (by k_asm) (by k_asm) (by k_asm) (by first | exact rfl | assumption) (by ktr_room) (by ktr_units) ?_); k_extra "my M"))
  k_with "call ref" => ((k_here; (with_reducible show wpAny _ _ (call (Value.ref 78) [_, _, _, _, _, Value.str (Str.ofString "d") _]) _ _ _); k_dflt (refine ctr_use (c_norm _ Way.d _ _ _ _ _ _ _ _ _ _ _ (by k_extra "my side") (by k_extra "my side") (by k_extra "my side") (by k_extra "my side") (by k_extra "my side")) (by k_asm) (by k_asm) (by k_asm) (by k_asm) (by k_asm) (by first | exact rfl | assumption) (by ktr_room) (by ktr_units) ?_); k_extra "my M"))
  trivial
theorem af0 {w : Way} {p : Int} {x y : Mp} (h : x.man = 0) : addF w p x y = rnd w p y.sign y.man y.exp := by
  unfold addF; rw [if_pos h]
theorem af1 {w : Way} {p : Int} {x y : Mp} (h : x.man ≠ 0) (h0 : x.exp - y.exp = 0) : addF w p x y = rnd w p 0 (y.man + x.man) y.exp := by
  unfold addF; rw [if_neg h, if_pos h0]
theorem af2 {w : Way} {p v : Int} {x y : Mp} (hv : Hid (v = x.man * 2 ^ (x.exp - y.exp).toNat)) (h : x.man ≠ 0) (h0 : 0 < x.exp - y.exp) : addF w p x y = rnd w p 0 (y.man + v) y.exp := by
  obtain ⟨rfl⟩ := hv
  unfold addF; rw [if_neg h, if_neg (by omega), if_pos h0]
theorem af3 {w : Way} {p v : Int} {x y : Mp} (hv : Hid (v = y.man * 2 ^ (-(x.exp - y.exp)).toNat)) (h : x.man ≠ 0) (h0 : x.exp - y.exp < 0) : addF w p x y = rnd w p 0 (x.man + v) x.exp := by
  obtain ⟨rfl⟩ := hv
  unfold addF; rw [if_neg h, if_neg (by omega), if_neg (by omega)]
theorem bits_sum {a b : Int} (h1 : Builtin.Int.intBits a ≤ 800) (h2 : Builtin.Int.intBits b ≤ 800) : ((Builtin.Int.intBits (a + b) : Nat) : Int) ≤ 1000 := by
  have := bits_add h1 h2
  omega
theorem su_C14_2 : True := by
  k_with "my side" => (((with_reducible refine bits_sum ?_ ?_) <;> omega))
  trivial
theorem xor00 {v a b : Int} (h : Hid (v = Builtin.bitXor a b)) (ha : a = 0) (hb : b = 0) : v = 0 := by
  obtain ⟨rfl⟩ := h
  subst ha hb
  decide
theorem su_C14_3 : True := by
  k_with "inplaceOp BitXor int int" => ((k_here; (refine' ixor_hid ?_); intro v9 hv9; (have hx9 := xor00 hv9 (by omega) (by omega)); subst hx9))
  trivial
theorem c_add {w : World} {mean : ExcName → Option Value} {mg mb : Str → Option Value} (news : List (Addr × Obj)) (v1 v2 : Value) (x y : Mp) (way : Way) (p : Int) (t3 t4 : Tok) (h1 : MpIn news v1 x) (h2 : MpIn news v2 y) (ok1 : Ok x) (ok2 : Ok y) (hp : 1 ≤ p) (hp9 : p ≤ 200) (hs1 : x.sign = 0) (hs2 : y.sign = 0) (hy0 : y.man ≠ 0) (hd1 : -100 ≤ x.exp - y.exp) (hd2 : x.exp - y.exp ≤ 100) :
    Ctr w mean mg mb 133 8 news [v1, v2, .int p t3, .str way.str t4] (fun r n' => MpIn n' r (addF way p x y)) := by
  unfold Ctr
  k_fill
  intro dp un gd cn cs a ccd cl outer A₀ base h₀ L m' s Q E B F X N T hk hdp hun hret
  obtain ⟨o1, o2, o3, o4, o5, o6, o7⟩ := ok1
  obtain ⟨u1, u2, u3, u4, u5, u6, u7⟩ := ok2
  obtain ⟨xs, xm, xe, xb⟩ := x
  obtain ⟨ys, ym, ye, yb⟩ := y
  have hh1 := h1
  have hh2 := h2
  rcases h1 with _ | ⟨hz, hm⟩ <;> rcases h2 with _ | ⟨hz', hm'⟩
  all_goals (try dsimp only at hz hm)
  all_goals (try dsimp only at hz' hm')
  all_goals first | exact absurd rfl hy0 | skip
  all_goals dsimp only at hy0 hs1 hs2 hd1 hd2
  all_goals (try subst hs1)
  all_goals (try subst hs2)
  all_goals dsimp only at o1 o2 o3 o4 o5 o6 u1 u2 u3 u4 u5 u6
  all_goals k_extra "my start"
  all_goals k_extra "my steps"
  all_goals first
    | exact hret _ _ _ _ (by with_reducible assumption) (by with_reducible assumption) (by k_extra "my sub") (mpIn_cast (by k_extra "my mps") (af0 rfl))
    | exact hret _ _ _ _ (by with_reducible assumption) (by with_reducible assumption) (by k_extra "my sub") (mpIn_cast (by k_extra "my mps") (by subst_vars; exact af0 rfl))
    | exact hret _ _ _ _ (by with_reducible assumption) (by with_reducible assumption) (by k_extra "my sub") (mpIn_cast (by k_extra "my mps") (af1 (x := ⟨0, xm, xe, xb⟩) (y := ⟨0, ym, ye, yb⟩) hz (by with_reducible assumption)))
    | exact hret _ _ _ _ (by with_reducible assumption) (by with_reducible assumption) (by k_extra "my sub") (mpIn_cast (by k_extra "my mps") (af2 (x := ⟨0, xm, xe, xb⟩) (y := ⟨0, ym, ye, yb⟩) (by with_reducible assumption) hz (by dsimp only; omega)))
    | exact hret _ _ _ _ (by with_reducible assumption) (by with_reducible assumption) (by k_extra "my sub") (mpIn_cast (by k_extra "my mps") (af3 (x := ⟨0, xm, xe, xb⟩) (y := ⟨0, ym, ye, yb⟩) (by with_reducible assumption) hz (by dsimp only; omega)))
    | fail "no"
theorem c_addD {w : World} {mean : ExcName → Option Value} {mg mb : Str → Option Value} (news : List (Addr × Obj)) (v1 v2 : Value) (x y : Mp) (p : Int) (t3 : Tok) (h1 : MpIn news v1 x) (h2 : MpIn news v2 y) (ok1 : Ok x) (ok2 : Ok y) (hp : 1 ≤ p) (hp9 : p ≤ 200) (hs1 : x.sign = 0) (hs2 : y.sign = 0) (hy0 : y.man ≠ 0) (hd1 : -100 ≤ x.exp - y.exp) (hd2 : x.exp - y.exp ≤ 100) :
    Ctr w mean mg mb 133 8 news [v1, v2, .int p t3] (fun r n' => MpIn n' r (addF .d p x y)) := by
  unfold Ctr
  k_fill
  intro dp un gd cn cs a ccd cl outer A₀ base h₀ L m' s Q E B F X N T hk hdp hun hret
  obtain ⟨o1, o2, o3, o4, o5, o6, o7⟩ := ok1
  obtain ⟨u1, u2, u3, u4, u5, u6, u7⟩ := ok2
  obtain ⟨xs, xm, xe, xb⟩ := x
  obtain ⟨ys, ym, ye, yb⟩ := y
  have hh1 := h1
  have hh2 := h2
  rcases h1 with _ | ⟨hz, hm⟩ <;> rcases h2 with _ | ⟨hz', hm'⟩
  all_goals (try dsimp only at hz hm)
  all_goals (try dsimp only at hz' hm')
  all_goals first | exact absurd rfl hy0 | skip
  all_goals dsimp only at hy0 hs1 hs2 hd1 hd2
  all_goals (try subst hs1)
  all_goals (try subst hs2)
  all_goals dsimp only at o1 o2 o3 o4 o5 o6 u1 u2 u3 u4 u5 u6
  all_goals k_extra "my start"
  all_goals k_extra "my steps"
  all_goals first
    | exact hret _ _ _ _ (by with_reducible assumption) (by with_reducible assumption) (by k_extra "my sub") (mpIn_cast (by k_extra "my mps") (af0 rfl))
    | exact hret _ _ _ _ (by with_reducible assumption) (by with_reducible assumption) (by k_extra "my sub") (mpIn_cast (by k_extra "my mps") (by subst_vars; exact af0 rfl))
    | exact hret _ _ _ _ (by with_reducible assumption) (by with_reducible assumption) (by k_extra "my sub") (mpIn_cast (by k_extra "my mps") (af1 (x := ⟨0, xm, xe, xb⟩) (y := ⟨0, ym, ye, yb⟩) hz (by with_reducible assumption)))
    | exact hret _ _ _ _ (by with_reducible assumption) (by with_reducible assumption) (by k_extra "my sub") (mpIn_cast (by k_extra "my mps") (af2 (x := ⟨0, xm, xe, xb⟩) (y := ⟨0, ym, ye, yb⟩) (by with_reducible assumption) hz (by dsimp only; omega)))
    | exact hret _ _ _ _ (by with_reducible assumption) (by with_reducible assumption) (by k_extra "my sub") (mpIn_cast (by k_extra "my mps") (af3 (x := ⟨0, xm, xe, xb⟩) (y := ⟨0, ym, ye, yb⟩) (by with_reducible assumption) hz (by dsimp only; omega)))
    | fail "no"
end
section
theorem su_C16_1 : True := by
  k_with_none
  k_with "my enter" => ((k_dflt (refine' code_def ?k1 ?k2 ?k3 ?k4 ?k5 ?kA ?kF ?kK ?k6 ?k7 ?k8 ?k9 ?kB ?_ ?c2 ?c3 ?c4 ?c5; (case kA => exact rfl); (case kF => exact rfl); (case kK => assumption); (case k1 => k_asm); (case k2 => k_asm); (case k3 => k_asm); (case k4 => k_asm); (case k5 => k_asm); (case k6 => k_is); (case k7 => k_is); (case k8 => ktr_room); (case k9 => first | exact BindsTo.of_eq rfl | exact binds_K (by k_in) rfl (by k_is) rfl rfl rfl); (case c5 => decide); (case kB => exact locs rfl); (case c2 => exact rfl); (case c3 => exact rfl); (case c4 => exact rfl); k_whole; intro g' L' h' FG' F' N' B' X' T'; (try dsimp only); (try k_lift B'); (try k_fold))))
  k_with "my start" => ((refine wpAny_call ?_; k_extra "my enter"; k_extra "my norm"))
  k_with "my steps" => (repeat' (first | (k_unfold; (try dsimp only)) | (k_end; wrow_close) | (law_purse 30000 => walk1) | (law_purse 30000 => (dsimp only; walk1)) | (leave1; try dsimp only) | fail "no step"))
  k_with "eval Subscript" => (k_extra "my cut")
  k_with "my omega" => (((try simp only [bne_iff_ne, beq_iff_eq, decide_eq_true_eq, ne_eq, Bool.not_eq_true', Bool.not_eq_false', beq_eq_false_iff_ne, bne_eq_false_iff_eq, decide_eq_false_iff_not]); omega))
  k_with "ite" => ((k_here; first | (refine ite_pos (by with_reducible assumption) ?_) | (refine ite_neg (by with_reducible assumption) ?_) | (refine ite_pos (by k_extra "my omega") ?_) | (refine ite_neg (by k_extra "my omega") ?_)))
  k_with "my arith" => (first | omega | decide | ((simp only [fdiv2, fdiv2', Int.reduceToNat, Int.toNat_one, Int.reducePow, Int.pow_one] at *); omega))
  k_with "binaryOp LShift int int" => ((k_here; (refine' lshift_hid (k := 5000) (by k_extra "my arith") (by bits_by_make) (by k_extra "my arith") (by decide) ?_); intro v9 hv9 hb9 hs9 hp9))
  k_with "inplaceOp LShift int int" => ((k_here; (refine' ilshift_hid (k := 5000) (by k_extra "my arith") (by bits_by_make) (by k_extra "my arith") (by decide) ?_); intro v9 hv9 hb9 hs9 hp9))
  k_with "binaryOp RShift int int" => ((k_here; (refine' rshift_hid (by k_extra "my arith") ?_); intro v9 hv9 hb9))
  k_with "inplaceOp RShift int int" => ((k_here; (refine' irshift_hid (by k_extra "my arith") ?_); intro v9 hv9 hb9))
  k_with "binaryOp BitAnd int int" => ((k_here; (refine' and_hid ?_); intro v9 hv9))
  k_with "binaryOp BitXor int int" => ((k_here; (refine' xor_hid ?_); intro v9 hv9))
  k_with "inplaceOp BitXor int int" => ((k_here; (refine' ixor_hid ?_); intro v9 hv9))
  k_with "binaryOp Mult int int" => ((k_here; (refine' mul_hid (by bits_by_make) (by bits_by_make) (by decide) ?_); intro v9 hv9 hb9 hz9 hn9))
  k_with "inplaceOp Mult int int" => ((k_here; (refine' imul_hid (by bits_by_make) (by bits_by_make) (by decide) ?_); intro v9 hv9 hb9 hz9 hn9))
  k_with "my open" => ((repeat ((rename Hid _ => hh9); (have hh9' := hh9.out); clear hh9; subst hh9')))
  k_with "binaryOp FloorDiv int int" => ((k_here; (refine' floordiv_int ?mb1 ?_ (Or.inl (PyProof.noPylong_of_log2 ?mb2))); (case mb1 => k_extra "my arith"); (case mb2 => (refine' log_of_bits ?mb3 ?mb4; (case mb3 => bits_by_make); (case mb4 => decide)))))
  k_with "exec" => ((k_here; (with_reducible show wpAny _ _ (PySem.exec (Stmt.While _ _ _ _) _) _ _ _); k_extra "my while"))
  k_with "my mp" => (first | with_reducible assumption | exact MpIn.zero | (refine MpIn.cons ?_; k_extra "my mp") | (refine MpIn.mono (by with_reducible assumption) ?_; k_extra "my mp"))
  k_with "my sub" => (first | with_reducible assumption | exact Sub.refl _ | (refine Sub.cons _ ?_; k_extra "my sub") | (refine Sub.trans ?_ (by with_reducible assumption); k_extra "my sub"))
  k_with "my side" => (first | with_reducible assumption | omega | bits_by_make)
  k_with "my side" => (first | ((with_reducible refine bits_side ?_); omega) | ((with_reducible refine bits_sideN ?_); omega))
  k_with "my I" => ((intro t9 h9 tk9 F9 N9; (try k_sweep); (try dsimp only); (try k_fold)))
  k_with "my M" => ((intro r9 n9 h9 tk9 F9 N9 S9 P9; (try k_sweep); (try dsimp only); (try k_fold)))
  k_with "my bd" => (first | (refine' Bd.cons ?be ?br; (case be => exact rfl); (case br => k_extra "my bd")) | exact Bd.nil rfl)
  k_with "my norm" => (((rename Fr _ _ _ _ => F9); (replace F9 := fr_bd F9 (by k_extra "my bd"))))
  k_with "my seen" => (first | exact Seen.hit | (refine' Seen.skip ?sk; (case sk => k_extra "my seen")))
  k_with "eval Name" => ((k_here; name_kind "globalImplicit"; k_dflt (refine' name_BF ?nb1 ?nb2 ?nb3 ?nb4 ?nb5 ?nb6 ?nb7 ?_; (case nb1 => k_asm); (case nb2 => k_asm); (case nb3 => k_asm); (case nb4 => k_is); (case nb5 => boot_by_name); (case nb6 => decide +kernel); (case nb7 => exact rfl); k_whole)))
  k_with "eval Name" => ((k_here; name_kind "globalImplicit"; k_dflt (refine' name_KF ?nk1 ?nk2 ?nk3 ?nk4 ?nk5 ?nk6 ?_; (case nk1 => k_asm); (case nk2 => k_asm); (case nk3 => k_asm); (case nk4 => k_is); (case nk5 => decide +kernel); (case nk6 => exact rfl); k_whole)))
  k_with "eval Name" => ((k_here; name_kind "local"; k_dflt (refine' ldT ?lk1 ?lk2 ?lk3 ?lk4 ?_; (case lk1 => k_asm); (case lk2 => exact rfl); (case lk3 => decide +kernel); (case lk4 => exact rfl); k_whole)))
  k_with "eval Name" => ((k_here; name_kind "local"; k_dflt (refine' ldS ?ls1 ?ls2 ?ls3 ?ls4 ?ls5 ?_; (case ls1 => k_asm); (case ls2 => with_reducible k_extra "my seen"); (case ls3 => kernel_rfl!); (case ls4 => decide +kernel); (case ls5 => exact rfl); k_whole)))
  k_with "storeName" => ((k_here; k_dflt (refine' store_KF ?st1 ?st2 ?st3 ?st4 ?_; (case st1 => k_asm); (case st2 => k_asm); (case st3 => decide +kernel); (case st4 => exact rfl); k_whole); intro h' F' N'; (try k_sweep)))
  k_with "ite" => ((k_closed; k_dflt (first | refine ite_pos (by decide) ?_ | refine ite_neg (by decide) ?_)))
  k_with "call ref" => ((k_here; (with_reducible show wpAny _ _ (call (Value.ref 28) _) _ _ _); k_dflt (refine ctrI_use (c_isqrt_small _ _ _ (by k_extra "my side") (by k_extra "my side")) (by k_asm) (by k_asm) (by k_asm) (by k_asm) (by k_asm) (by first | exact rfl | assumption) (by ktr_room) (by ktr_units) ?_); k_extra "my I"))
  k_with "call ref" => ((k_here; (with_reducible show wpAny _ _ (call (Value.ref 35) _) _ _ _); k_dflt (refine ctr_use (c_sqrtrem _ _ _ (by k_extra "my side") (by k_extra "my side")) (by k_asm) (by k_asm) (by k_asm) (by k_asm) (by k_asm) (by first | exact rfl | assumption) (by ktr_room) (by ktr_units) ?_); intro r9 n9 h9 tk9 F9 N9 S9 P9; cases P9; (try k_sweep); (try dsimp only); (try k_fold)))
  k_with "my wa" => (first | with_reducible assumption | omega)
  k_with "my strip" => (first | exact se1 (by k_extra "my wa") (by k_extra "my wa") (by k_extra "my wa") (by k_extra "my wa") | exact se2 (by k_extra "my wa") (by k_extra "my wa") (by k_extra "my wa") (by k_extra "my wa") | exact se3 (by k_extra "my wa") (by k_extra "my wa") (by k_extra "my wa") | exact se4 (by k_extra "my wa") (by k_extra "my wa") (by k_extra "my wa"))
  k_with "my round" => (first | exact ro1 (by k_extra "my wa") (by k_extra "my wa") (by k_extra "my wa") (by k_extra "my wa") | exact ro2 (by k_extra "my wa") (by k_extra "my wa") (by k_extra "my wa") (by k_extra "my wa") | exact rn1 (by k_extra "my wa") (by k_extra "my wa") (by k_extra "my wa") (by k_extra "my wa") | exact rn2 (by k_extra "my wa") (by k_extra "my wa") (by k_extra "my wa") (by k_extra "my wa") (by k_extra "my wa") (by k_extra "my wa") | exact rn3 (by k_extra "my wa") (by k_extra "my wa") (by k_extra "my wa") (by k_extra "my wa") (by k_extra "my wa") (by k_extra "my wa") (by k_extra "my wa") (by k_extra "my wa") (by k_extra "my wa") | exact rn4 (by k_extra "my wa") (by k_extra "my wa") (by k_extra "my wa") (by k_extra "my wa") (by k_extra "my wa") (by k_extra "my wa") (by k_extra "my wa") (by k_extra "my wa") (by k_extra "my wa"))
  k_with "my nf" => (first | (refine nf_lo (by k_extra "my wa") (by k_extra "my wa") ?_; k_extra "my strip") | (refine' nf_hi ?c9 ?d9 ?a9 ?b9; (case a9 => k_extra "my strip"); (case c9 => k_extra "my wa"); (case d9 => k_extra "my wa"); (case b9 => k_extra "my round")))
  k_with "call ref" => ((k_here; (with_reducible show wpAny _ _ (call (Value.ref 21) _) _ _ _); k_dflt (refine trailing_use (by k_asm) (by k_asm) (by k_asm) (by k_asm) (by k_asm) (by first | exact rfl | assumption) (by ktr_room) (by ktr_units) ?_); intro t9 h9 tk9 hz9 F9 N9; (try k_sweep); (try dsimp only); (try k_fold)))
  k_with "call ref" => ((k_here; (with_reducible show wpAny _ _ (call (Value.ref 71) _) _ _ _); k_dflt (refine ctr_use (c_norm0 _ _ _ _ _ _ _ _ _ _ _ _ _ (by k_extra "my side") (by k_extra "my side") (by k_extra "my side") (by k_extra "my side") (by k_extra "my side")) (by k_asm) (by k_asm) (by k_asm) (by k_asm) (by k_asm) (by first | exact rfl | assumption) (by ktr_room) (by ktr_units) ?_); k_extra "my M"))
  k_with "call ref" => ((k_here; (with_reducible show wpAny _ _ (call (Value.ref 78) _) _ _ _); k_dflt (refine ctr_use (c_norm _ _ _ _ _ _ _ _ _ _ _ _ _ (by k_extra "my side") (by k_extra "my side") (by k_extra "my side") (by k_extra "my side") (by k_extra "my side")) (by k_asm) (by k_asm) (by k_asm) (by k_asm) (by k_asm) (by first | exact rfl | assumption) (by ktr_room) (by ktr_units) ?_); k_extra "my M"))
  k_with "call ref" => ((k_here; (with_reducible show wpAny _ _ (call (Value.ref 21) _) _ _ _); k_dflt (refine trailing_use (by k_asm) (by k_asm) (by k_asm) (by k_asm) (by k_asm) (by first | exact rfl | assumption) (by ktr_room) (by ktr_units) ?_); intro t9 h9 tk9 hz9 F9 N9; (try k_sweep); (try dsimp only); (try k_fold)))
  k_with "my fm" => (first | exact fm_odd (by with_reducible assumption) (by with_reducible assumption) (by omega) | exact fm_two (by with_reducible assumption) (by with_reducible assumption) (by with_reducible assumption) (by with_reducible assumption) (by with_reducible assumption) (by omega) | exact fm_tr (by with_reducible assumption) (by omega))
  k_with "call ref" => ((k_here; (with_reducible show wpAny _ _ (call (Value.ref 86) [_, _]) _ _ _); k_dflt (refine ctr_use (c_fme _ _ _ _ _ (by k_extra "my side")) (by k_asm) (by k_asm) (by k_asm) (by k_asm) (by k_asm) (by first | exact rfl | assumption) (by ktr_room) (by ktr_units) ?_); k_extra "my M"))
  k_with "call ref" => ((k_here; (with_reducible show wpAny _ _ (call (Value.ref 86) [_, _, Value.int 0 _, _]) _ _ _); k_dflt (refine ctr_use (c_fme0 _ _ _ _ _ _ _ (by k_extra "my side")) (by k_asm) (by k_asm) (by k_asm) (by k_asm) (by k_asm) (by first | exact rfl | assumption) (by ktr_room) (by ktr_units) ?_); k_extra "my M"))
  k_with "call ref" => ((k_here; (with_reducible show wpAny _ _ (call (Value.ref 86) [_, _, Value.int _ _, _]) _ _ _); k_dflt (refine ctr_use (c_fmeR _ _ _ _ _ _ _ _ _ (by k_extra "my side") (by k_extra "my side") (by k_extra "my side")) (by k_asm) (by k_asm) (by k_asm) (by k_asm) (by k_asm) (by first | exact rfl | assumption) (by ktr_room) (by ktr_units) ?_); k_extra "my M"))
  k_with "my mps" => (first | with_reducible assumption | (refine MpIn.cons ?_; k_extra "my mps") | (refine MpIn.mono (by with_reducible assumption) ?_; k_extra "my mps"))
  k_with "my mpz" => (first | exact MpIn.zero | k_extra "my mps")
  k_with "compareOp Eq ref ref" => ((k_here; k_dflt (first | refine eq_mp_t (by k_asm) (by k_asm) (by k_asm) (by k_extra "my mpz") (by k_extra "my mpz") (by ktr_units) rfl ?_ | refine eq_mp_f (by k_asm) (by k_asm) (by k_asm) (by k_extra "my mpz") (by k_extra "my mpz") (by ktr_units) (by (try dsimp only [Mp.zero]); omega) ?_ | refine eq_mp_nan (by k_asm) (by k_asm) (by k_asm) (by k_extra "my mps") (by ktr_units) (by (try dsimp only [Mp.zero]); omega) ?_)))
  k_with "call builtin:divmod" => ((k_here; (with_reducible show wpAny _ _ (call (Value.builtin _) [Value.int _ _, Value.int _ _]) _ _ _); refine divmod_hid (by k_asm) (by k_asm) (by first | with_reducible assumption | omega) (by bits_by_make) (by bits_by_make) (by decide) ?_; intro D9 h9 tk9 t91 t92 q9 r9 hq9 hb9 hb99 hb999 hr9 F9 N9))
  k_with "call ref" => ((k_here; (with_reducible show wpAny _ _ (call (Value.ref 78) _) _ _ _); k_dflt (refine ctr_use (c_norm _ _ _ _ _ _ _ _ _ _ _ _ _ (by k_extra "my side") (by k_extra "my side") (by k_extra "my side") (by k_extra "my side") (by k_extra "my side")) (by k_asm) (by k_asm) (by k_asm) (by k_asm) (by k_asm) (by first | exact rfl | assumption) (by ktr_room) (by ktr_units) ?_); k_extra "my M"))
  k_with "my side" => (exact xor1_01 (by with_reducible assumption) (by with_reducible assumption) (by with_reducible assumption))
  k_with "call ref" => ((k_here; (with_reducible show wpAny _ _ (call (Value.ref 78) _) _ _ _); k_dflt (refine ctr_use (c_norm _ _ _ _ _ _ _ _ _ _ _ _ _ (by k_extra "my side") (by k_extra "my side") (by k_extra "my side") (by k_extra "my side") (by k_extra "my side")) (by k_asm) (by k_asm) (by k_asm) (by k_asm) (by k_asm) (by first | exact rfl | assumption) (by ktr_room) (by ktr_units) ?_); k_extra "my M"))
  k_with "my side" => (exact xor1_01 (by with_reducible assumption) (by with_reducible assumption) (by with_reducible assumption))
  k_with "my ex" => ((unfold extraF; first | rw [if_pos (by with_reducible assumption)] | rw [if_neg (by with_reducible assumption)]))
  k_with "my ok" => (first | with_reducible assumption | with_reducible exact ok_zero | exact ok_fme (by k_extra "my side") (by omega) (by omega) | exact ok_rnd (by k_extra "my side") (by k_extra "my side") (by k_extra "my side") (by k_extra "my side") (by k_extra "my side") (by omega) (by omega))
  k_with "my nz" => (first | with_reducible assumption | exact fme_ne (by k_extra "my side"))
  k_with "my side" => (exact xor1_01 (by with_reducible assumption) (by with_reducible assumption) (by first | with_reducible assumption | exact Or.inr rfl))
  k_with "call ref" => ((k_here; (with_reducible show wpAny _ _ (call (Value.ref 78) _) _ _ _); k_dflt (refine ctr_use (c_norm _ _ _ _ _ _ _ _ _ _ _ _ _ (by k_extra "my side") (by k_extra "my side") (by k_extra "my side") (by k_extra "my side") (by k_extra "my side")) (by k_asm) (by k_asm) (by k_asm) (by k_asm) (by k_asm) (by first | exact rfl | assumption) (by ktr_room) (by ktr_units) ?_); k_extra "my M"))
  k_with "call ref" => ((k_here; (with_reducible show wpAny _ _ (call (Value.ref 94) _) _ _ _); k_dflt (refine ctr_use (c_from_int _ _ _ (by k_extra "my side")) (by k_asm) (by k_asm) (by k_asm) (by k_asm) (by k_asm) (by first | exact rfl | assumption) (by ktr_room) (by ktr_units) ?_); k_extra "my M"))
  k_with "call ref" => ((k_here; (with_reducible show wpAny _ _ (call (Value.ref 164) _) _ _ _); k_dflt (refine' use2 (by k_asm) (by k_asm) (by k_asm) (by k_asm) (by k_asm) (by first | exact rfl | assumption) (c_div _ _ _ _ _ _ _ _ _ ?sd0 ?sd1 ?sd2 ?sd3 ?sd4 ?sd5 ?sd6) (by ktr_room) (by ktr_units) ?_; (case sd0 => k_extra "my mp"); (case sd1 => k_extra "my mp"); (case sd2 => k_extra "my ok"); (case sd3 => k_extra "my ok"); (case sd4 => k_extra "my side"); (case sd5 => k_extra "my side"); (case sd6 => k_extra "my nz")); k_extra "my M"))
  k_with "call ref" => ((k_here; (with_reducible show wpAny _ _ (call (Value.ref 141) [_, _, _, _]) _ _ _); k_dflt (refine' use2 (by k_asm) (by k_asm) (by k_asm) (by k_asm) (by k_asm) (by first | exact rfl | assumption) (c_mul _ _ _ _ _ _ _ _ _ ?sd0 ?sd1 ?sd2 ?sd3 ?sd4) (by ktr_room) (by ktr_units) ?_; (case sd0 => k_extra "my mp"); (case sd1 => k_extra "my mp"); (case sd2 => k_extra "my ok"); (case sd3 => k_extra "my ok"); (case sd4 => k_extra "my side")); k_extra "my M"))
  k_with "my xs" => (first | exact xs_neg (by with_reducible assumption) (by with_reducible assumption) (by with_reducible assumption) | exact xs_pos (by omega) (by with_reducible assumption))
  k_with "my side" => (exact mulint_bits (by with_reducible assumption) (by with_reducible assumption) (by omega) (by omega) (by with_reducible assumption) rfl)
  k_with "my side" => (((refine Int.le_trans (Int.le_of_eq (mulint_bits (by with_reducible assumption) (by with_reducible assumption) (by omega) (by omega) (by with_reducible assumption) rfl)) ?_); omega))
  k_with "call ref" => ((k_here; (with_reducible show wpAny _ _ (call (Value.ref 78) _) _ _ _); k_dflt (refine ctr_use (c_norm _ _ _ _ _ _ _ _ _ _ _ _ _ (by k_extra "my side") (by k_extra "my side") (by k_extra "my side") (by k_extra "my side") (by k_extra "my side")) (by k_asm) (by k_asm) (by k_asm) (by k_asm) (by k_asm) (by first | exact rfl | assumption) (by ktr_room) (by ktr_units) ?_); k_extra "my M"))
  k_with "call ref" => ((k_here; (with_reducible show wpAny _ _ (call (Value.ref 86) [_, _, Value.int _ _, _]) _ _ _); k_dflt (refine ctr_use (c_fmeR _ _ _ _ _ _ _ _ _ (by k_extra "my side") (by k_extra "my side") (by k_extra "my side")) (by k_asm) (by k_asm) (by k_asm) (by k_asm) (by k_asm) (by first | exact rfl | assumption) (by ktr_room) (by ktr_units) ?_); k_extra "my M"))
  k_with "compareOp In str str" => (k_extra "my in")
  k_with "call ref" => ((k_here; (with_reducible show wpAny _ _ (call (Value.ref 42) _) _ _ _); k_dflt (refine isqrt_use (by k_asm) (by k_asm) (by k_asm) (by k_asm) (by k_asm) (by first | exact rfl | assumption) (by k_extra "my side") (by k_extra "my side") (by ktr_room) (by ktr_units) ?_); intro t9 h9 tk9 hq9 hb9 F9 N9; (try k_sweep); (try dsimp only); (try k_fold)))
  k_with "call ref" => ((k_here; (with_reducible show wpAny _ _ (call (Value.ref 35) _) _ _ _); k_dflt (refine sqrtrem_use (by k_asm) (by k_asm) (by k_asm) (by k_asm) (by k_asm) (by first | exact rfl | assumption) (by k_extra "my side") (by k_extra "my side") (by ktr_room) (by ktr_units) ?_); intro D9 t91 t92 c9 n9 h9 tk9 q9 r9 hq9 hr9 h19 hb9 hb99 F9 N9 S9 hm9; (try k_sweep); (try dsimp only); (try k_fold)))
  k_with "call builtin:max" => ((k_here; (with_reducible show wpAny _ _ (call (Value.builtin _) [Value.int _ _, Value.int _ _]) _ _ _); (with_unfolding_all refine' max_hid ?hh9 ?F9 ?N9 ?_; (case hh9 => with_unfolding_all rfl); (case F9 => k_asm); (case N9 => k_asm)); intro v9 t9 h9 tk9 hv9 hb9 F9 N9; (try k_sweep); (try dsimp only); (try k_fold)))
  k_with "binaryOp BitAnd int int" => ((k_here; (with_reducible refine and1_hid ?_); intro v9 hv9 hb9))
  k_with "binaryOp Mult int int" => ((k_here; (with_reducible refine mul2_any ?mz ?_); (case mz => with_reducible assumption)))
  k_with "my sq" => (first | exact sq2 (by with_reducible assumption) (by with_reducible assumption) (by with_reducible assumption) (by with_reducible assumption) (by with_reducible assumption) (by with_reducible assumption) (by with_reducible assumption) (by with_reducible assumption) (by with_reducible assumption) | exact sq3 (by with_reducible assumption) (by with_reducible assumption) (by with_reducible assumption) (by with_reducible assumption) (by with_reducible assumption) (by with_reducible assumption) (by with_reducible assumption) (by with_reducible assumption) | exact sq1 (by with_reducible assumption) (by with_reducible assumption) (by with_reducible assumption) (by with_reducible assumption) (by with_reducible assumption))
  k_with "Exists" => ((k_dflt (refine' ⟨_, _, rfl, rfl, ?exq⟩); (case exq => first | exact occ_w _ | kernel_rfl! | exact rfl)))
  k_with "call ref" => ((k_here; (with_reducible show wpAny _ _ (call (Value.ref 78) _) _ _ _); k_dflt (refine ctr_use (c_norm _ _ _ _ _ _ _ _ _ _ _ _ _ (by k_extra "my side") (by k_extra "my side") (by k_extra "my side") (by k_extra "my side") (by k_extra "my side")) (by k_asm) (by k_asm) (by k_asm) (by k_asm) (by k_asm) (by first | exact rfl | assumption) (by ktr_room) (by ktr_units) ?_); k_extra "my M"))
  k_with "call ref" => ((k_here; (with_reducible show wpAny _ _ (call (Value.ref 78) [_, _, _, _, _, Value.str (Str.ofString "d") _]) _ _ _); k_dflt (refine ctr_use (c_norm _ Way.d _ _ _ _ _ _ _ _ _ _ _ (by k_extra "my side") (by k_extra "my side") (by k_extra "my side") (by k_extra "my side") (by k_extra "my side")) (by k_asm) (by k_asm) (by k_asm) (by k_asm) (by k_asm) (by first | exact rfl | assumption) (by ktr_room) (by ktr_units) ?_); k_extra "my M"))
  k_with "my side" => (((with_reducible refine bits_sum ?_ ?_) <;> omega))
  k_with "inplaceOp BitXor int int" => ((k_here; (refine' ixor_hid ?_); intro v9 hv9; (have hx9 := xor00 hv9 (by omega) (by omega)); subst hx9))
  k_with "my as" => (first | with_reducible assumption | omega)
  trivial
theorem hyp1 {p : Int} {x y : Mp} (hy : y.man ≠ 0) (hx : x.man = 0) : hypotF p x y = rnd .n p 0 y.man y.exp := by
  unfold hypotF; rw [if_neg hy, if_pos hx]
theorem hyp2 {p : Int} {x y : Mp} (hy : y.man = 0) : hypotF p x y = rnd .n p 0 x.man x.exp := by
  unfold hypotF; rw [if_pos hy]
theorem hyp3 {p : Int} {x y : Mp} (hy : y.man ≠ 0) (hx : x.man ≠ 0) : hypotF p x y = sqrtF .n p (addF .d (p + 4) (mulX x x) (mulX y y)) := by
  unfold hypotF; rw [if_neg hy, if_neg hx]
theorem su_C16_2 : True := by
  k_with "call ref" => ((k_here; (with_reducible show wpAny _ _ (call (Value.ref 141) [_, _]) _ _ _); k_dflt (refine' use2 (by k_asm) (by k_asm) (by k_asm) (by k_asm) (by k_asm) (by first | exact rfl | assumption) (c_mulX _ _ _ _ _ ?sd0 ?sd1 ?sd2 ?sd3) (by ktr_room) (by ktr_units) ?_; (case sd0 => k_extra "my mp"); (case sd1 => k_extra "my mp"); (case sd2 => k_extra "my ok"); (case sd3 => k_extra "my ok")); k_extra "my M"))
  k_with "call ref" => ((k_here; (with_reducible show wpAny _ _ (call (Value.ref 133) [_, _, Value.int _ _]) _ _ _); k_dflt (refine' use2 (by k_asm) (by k_asm) (by k_asm) (by k_asm) (by k_asm) (by first | exact rfl | assumption) (c_addD _ _ _ _ _ _ _ ?sd0 ?sd1 ?sd2 ?sd3 ?sd4 ?sd5 ?sd6 ?sd7 ?sd8 ?sd9 ?sd10) (by ktr_room) (by ktr_units) ?_; (case sd0 => k_extra "my mp"); (case sd1 => k_extra "my mp"); (case sd2 => k_extra "my ok"); (case sd3 => k_extra "my ok"); (case sd4 => k_extra "my as"); (case sd5 => k_extra "my as"); (case sd6 => k_extra "my as"); (case sd7 => k_extra "my as"); (case sd8 => k_extra "my as"); (case sd9 => k_extra "my as"); (case sd10 => k_extra "my as")); k_extra "my M"))
  k_with "call ref" => ((k_here; (with_reducible show wpAny _ _ (call (Value.ref 180) [_, Value.int _ _, Value.str (Str.ofString "n") _]) _ _ _); k_dflt (refine' use2 (by k_asm) (by k_asm) (by k_asm) (by k_asm) (by k_asm) (by first | exact rfl | assumption) (c_sqrt _ _ _ Way.n _ _ _ ?sd0 ?sd1 ?sd2 ?sd3 ?sd4) (by ktr_room) (by ktr_units) ?_; (case sd0 => k_extra "my mp"); (case sd1 => k_extra "my ok"); (case sd2 => k_extra "my as"); (case sd3 => k_extra "my as"); (case sd4 => k_extra "my as")); k_extra "my M"))
  k_with "call ref" => ((k_here; (with_reducible show wpAny _ _ (call (Value.ref 118) [_, Value.int _ _, Value.str (Str.ofString "n") _]) _ _ _); k_dflt (refine' use2 (by k_asm) (by k_asm) (by k_asm) (by k_asm) (by k_asm) (by first | exact rfl | assumption) (c_absR _ _ _ Way.n _ _ _ ?sd0 ?sd1 ?sd2) (by ktr_room) (by ktr_units) ?_; (case sd0 => k_extra "my mp"); (case sd1 => k_extra "my ok"); (case sd2 => k_extra "my as")); k_extra "my M"))
  trivial
theorem c_hypot {w : World} {mean : ExcName → Option Value} {mg mb : Str → Option Value} (news : List (Addr × Obj)) (v1 v2 : Value) (x y : Mp) (p : Int) (t3 t4 : Tok) (h1 : MpIn news v1 x) (h2 : MpIn news v2 y) (ok1 : Ok x) (ok2 : Ok y) (hp : 1 ≤ p) (hp9 : p ≤ 90) (hb1 : Builtin.Int.intBits x.man ≤ 100) (hb2 : Builtin.Int.intBits y.man ≤ 100) (hx1 : -500 ≤ x.exp) (hx2 : x.exp ≤ 500) (hy1 : -500 ≤ y.exp) (hy2 : y.exp ≤ 500)
    (hne : x.man ≠ 0 ∨ y.man ≠ 0) (hd : x.man ≠ 0 → y.man ≠ 0 → (-50 ≤ x.exp - y.exp ∧ x.exp - y.exp ≤ 50)) :
    Ctr w mean mg mb 188 20 news [v1, v2, .int p t3, .str (Str.ofString "n") t4] (fun r n' => MpIn n' r (hypotF p x y)) := by
  unfold Ctr
  k_fill
  intro dp un gd cn cs a ccd cl outer A₀ base h₀ L m' s Q E B F X N T hk hdp hun hret
  have okxx : Ok (mulX x x) := ok_mulX ok1 ok1 (by omega) (by omega) (by omega) (by omega) (by omega) (by omega)
  have okyy : Ok (mulX y y) := ok_mulX ok2 ok2 (by omega) (by omega) (by omega) (by omega) (by omega) (by omega)
  have mx : x.man ≠ 0 → mulX x x = ⟨0, x.man * x.man, x.exp + x.exp, Builtin.Int.intBits (x.man * x.man)⟩ := fun q => by
    unfold mulX; rw [if_neg (Int.mul_ne_zero q q)]; unfold xor1; rw [if_pos rfl]
  have my : y.man ≠ 0 → mulX y y = ⟨0, y.man * y.man, y.exp + y.exp, Builtin.Int.intBits (y.man * y.man)⟩ := fun q => by
    unfold mulX; rw [if_neg (Int.mul_ne_zero q q)]; unfold xor1; rw [if_pos rfl]
  have hh1 := h1
  have hh2 := h2
  rcases h1 with _ | ⟨hz, hm⟩ <;> rcases h2 with _ | ⟨hz', hm'⟩
  · exact absurd rfl (hne.elim id id)
  · k_extra "my start"
    k_extra "my steps"
    all_goals first
      | exact hret _ _ _ _ (by with_reducible assumption) (by with_reducible assumption) (by k_extra "my sub") (mpIn_cast (by k_extra "my mps") (hyp1 hz' rfl))
      | fail "no"
  · k_extra "my start"
    k_extra "my steps"
    all_goals first
      | exact hret _ _ _ _ (by with_reducible assumption) (by with_reducible assumption) (by k_extra "my sub") (mpIn_cast (by k_extra "my mps") (hyp2 rfl))
      | fail "no"
  · obtain ⟨d1, d2⟩ := hd hz hz'
    have ex := mx hz
    have ey := my hz'
    have sx : (mulX x x).sign = 0 := by rw [ex]
    have sy : (mulX y y).sign = 0 := by rw [ey]
    have nx : (mulX y y).man ≠ 0 := by rw [ey]; exact Int.mul_ne_zero hz' hz'
    have e1 : (mulX x x).exp = x.exp + x.exp := by rw [ex]
    have e2 : (mulX y y).exp = y.exp + y.exp := by rw [ey]
    have oka := addF_facts (w := .d) (p := p + 4) okxx okyy sx sy (by omega) (by omega) (by omega) (by omega) (by omega) (by omega) (by omega) (by omega)
    have oka1 := oka.1
    have oka2 := oka.2
    k_extra "my start"
    k_extra "my steps"
    all_goals first
      | exact hret _ _ _ _ (by with_reducible assumption) (by with_reducible assumption) (by k_extra "my sub") (mpIn_cast (by k_extra "my mps") (hyp3 hz' hz))
      | fail "no"
end
section
def sM (d : Mp) : Int := if d.sign = 0 then d.man else -d.man
def vN (d : Mp) : Int := if d.exp < 0 then sM d else sM d * 2 ^ d.exp.toNat
def vD (d : Mp) : Int := if d.exp < 0 then 1 * 2 ^ (-d.exp).toNat else 1
structure FormOk (d : Mp) (p : Int) : Prop where
  form : d = Mp.zero ∨ ((d.sign = 0 ∨ d.sign = 1) ∧ 0 < d.man ∧ d.man % 2 = 1 ∧ d.bc = Builtin.Int.intBits d.man ∧ d.bc ≤ p)
def SameOk (d : Mp) (m e : Int) : Prop := if e < 0 then vN d * 2 ^ (-e).toNat = m * vD d else vN d = m * 2 ^ e.toNat * vD d
def MostOk (d : Mp) : Prop := (vN d).natAbs ≤ (vD d).natAbs
theorem vD_pos (d : Mp) : 0 < vD d := by
  unfold vD
  split
  · have := p2pos (-d.exp).toNat
    omega
  · decide
theorem sM_bits {d : Mp} (ok : Ok d) : Builtin.Int.intBits (sM d) ≤ 400 := by
  unfold sM
  split
  · exact ok.sz
  · exact bits_of_natAbs_le (by omega) ok.sz
theorem vN_bits {d : Mp} (ok : Ok d) : Builtin.Int.intBits (vN d) ≤ 3400 := by
  have h := sM_bits ok
  have h2 := ok.e2
  unfold vN
  split
  · omega
  · have := (shl_of (a := sM d) (n := d.exp) (by omega)).1
    omega
theorem vD_bits {d : Mp} (ok : Ok d) : Builtin.Int.intBits (vD d) ≤ 3400 := by
  have h2 := ok.e1
  unfold vD
  split
  · have := (shl_of (a := 1) (n := -d.exp) (by omega)).1
    have h1 : Builtin.Int.intBits 1 = 1 := by decide
    omega
  · decide
end
section
theorem subL_sub {keep l l' : List (Addr × Obj)} (h : SubL keep l) (S : Sub l l') : SubL keep l' := by
  induction keep with
  | nil => trivial
  | cons p r ih => exact ⟨S.mem _ h.1, ih h.2⟩
theorem turn_end {h₀ : Heap} {L I : Addr} {it : Obj} {s₁ : Shared} {rest : (Str → Option Value) → List (Addr × Obj) → Prop} {h' : Heap} {tk : Nat} {m' : Str → Option Value} {all keep news0 : List (Addr × Obj)}
    (hl : ∀ p ∈ news0, p.1 < I) (F : Fr h₀ L h' m') (N : News h₀ L h' all) (hI : (I, it) ∈ all) (S : Sub news0 all) (hk : SubL keep news0) (r : ∀ news', Sub news0 news' → rest m' news') :
    UnrEndW h₀ L s₁ [(I, it)] (fun m' n' => SubL keep n' ∧ rest m' n') { s₁ with heap := h', toks := tk } := by
  have S' : Sub news0 (all.filter fun p => p.1 != I) := ⟨fun p hp => List.mem_filter.mpr ⟨S.mem p hp, by
    have := hl p hp
    simp only [bne_iff_ne, ne_eq]
    exact Nat.ne_of_lt this⟩⟩
  refine ⟨h', tk, m', all.filter fun p => p.1 != I, rfl, F, fun p hp => ?_, fun p hp q hq => ?_, subL_sub hk S', r _ S'⟩
  · rcases List.mem_append.mp hp with hp | hp
    · rw [List.mem_singleton.mp hp]; exact N _ hI
    · exact N p (List.mem_filter.mp hp).1
  · rw [List.mem_singleton.mp hq]
    have := (List.mem_filter.mp hp).2
    simpa using this
end
section
theorem su_C15_1 : True := by
  k_with_none
  k_with "my enter" => ((k_dflt (refine' code_def ?k1 ?k2 ?k3 ?k4 ?k5 ?kA ?kF ?kK ?k6 ?k7 ?k8 ?k9 ?kB ?_ ?c2 ?c3 ?c4 ?c5; (case kA => exact rfl); (case kF => exact rfl); (case kK => assumption); (case k1 => k_asm); (case k2 => k_asm); (case k3 => k_asm); (case k4 => k_asm); (case k5 => k_asm); (case k6 => k_is); (case k7 => k_is); (case k8 => ktr_room); (case k9 => first | exact BindsTo.of_eq rfl | exact binds_K (by k_in) rfl (by k_is) rfl rfl rfl); (case c5 => decide); (case kB => exact locs rfl); (case c2 => exact rfl); (case c3 => exact rfl); (case c4 => exact rfl); k_whole; intro g' L' h' FG' F' N' B' X' T'; (try dsimp only); (try k_lift B'); (try k_fold))))
  k_with "my start" => ((refine wpAny_call ?_; k_extra "my enter"; k_extra "my norm"))
  k_with "my steps" => (repeat' (first | (k_unfold; (try dsimp only)) | (k_end; wrow_close) | (law_purse 30000 => walk1) | (law_purse 30000 => (dsimp only; walk1)) | (leave1; try dsimp only) | fail "no step"))
  k_with "eval Subscript" => (k_extra "my cut")
  k_with "my omega" => (((try simp only [bne_iff_ne, beq_iff_eq, decide_eq_true_eq, ne_eq, Bool.not_eq_true', Bool.not_eq_false', beq_eq_false_iff_ne, bne_eq_false_iff_eq, decide_eq_false_iff_not]); omega))
  k_with "ite" => ((k_here; first | (refine ite_pos (by with_reducible assumption) ?_) | (refine ite_neg (by with_reducible assumption) ?_) | (refine ite_pos (by k_extra "my omega") ?_) | (refine ite_neg (by k_extra "my omega") ?_)))
  k_with "my arith" => (first | omega | decide | ((simp only [fdiv2, fdiv2', Int.reduceToNat, Int.toNat_one, Int.reducePow, Int.pow_one] at *); omega))
  k_with "binaryOp LShift int int" => ((k_here; (refine' lshift_hid (k := 5000) (by k_extra "my arith") (by bits_by_make) (by k_extra "my arith") (by decide) ?_); intro v9 hv9 hb9 hs9 hp9))
  k_with "inplaceOp LShift int int" => ((k_here; (refine' ilshift_hid (k := 5000) (by k_extra "my arith") (by bits_by_make) (by k_extra "my arith") (by decide) ?_); intro v9 hv9 hb9 hs9 hp9))
  k_with "binaryOp RShift int int" => ((k_here; (refine' rshift_hid (by k_extra "my arith") ?_); intro v9 hv9 hb9))
  k_with "inplaceOp RShift int int" => ((k_here; (refine' irshift_hid (by k_extra "my arith") ?_); intro v9 hv9 hb9))
  k_with "binaryOp BitAnd int int" => ((k_here; (refine' and_hid ?_); intro v9 hv9))
  k_with "binaryOp BitXor int int" => ((k_here; (refine' xor_hid ?_); intro v9 hv9))
  k_with "inplaceOp BitXor int int" => ((k_here; (refine' ixor_hid ?_); intro v9 hv9))
  k_with "binaryOp Mult int int" => ((k_here; (refine' mul_hid (by bits_by_make) (by bits_by_make) (by decide) ?_); intro v9 hv9 hb9 hz9 hn9))
  k_with "inplaceOp Mult int int" => ((k_here; (refine' imul_hid (by bits_by_make) (by bits_by_make) (by decide) ?_); intro v9 hv9 hb9 hz9 hn9))
  k_with "my open" => ((repeat ((rename Hid _ => hh9); (have hh9' := hh9.out); clear hh9; subst hh9')))
  k_with "binaryOp FloorDiv int int" => ((k_here; (refine' floordiv_int ?mb1 ?_ (Or.inl (PyProof.noPylong_of_log2 ?mb2))); (case mb1 => k_extra "my arith"); (case mb2 => (refine' log_of_bits ?mb3 ?mb4; (case mb3 => bits_by_make); (case mb4 => decide)))))
  k_with "exec" => ((k_here; (with_reducible show wpAny _ _ (PySem.exec (Stmt.While _ _ _ _) _) _ _ _); k_extra "my while"))
  k_with "my mp" => (first | with_reducible assumption | exact MpIn.zero | (refine MpIn.cons ?_; k_extra "my mp") | (refine MpIn.mono (by with_reducible assumption) ?_; k_extra "my mp"))
  k_with "my sub" => (first | with_reducible assumption | exact Sub.refl _ | (refine Sub.cons _ ?_; k_extra "my sub") | (refine Sub.trans ?_ (by with_reducible assumption); k_extra "my sub"))
  k_with "my side" => (first | with_reducible assumption | omega | bits_by_make)
  k_with "my side" => (first | ((with_reducible refine bits_side ?_); omega) | ((with_reducible refine bits_sideN ?_); omega))
  k_with "my I" => ((intro t9 h9 tk9 F9 N9; (try k_sweep); (try dsimp only); (try k_fold)))
  k_with "my M" => ((intro r9 n9 h9 tk9 F9 N9 S9 P9; (try k_sweep); (try dsimp only); (try k_fold)))
  k_with "my bd" => (first | (refine' Bd.cons ?be ?br; (case be => exact rfl); (case br => k_extra "my bd")) | exact Bd.nil rfl)
  k_with "my norm" => (((rename Fr _ _ _ _ => F9); (replace F9 := fr_bd F9 (by k_extra "my bd"))))
  k_with "my seen" => (first | exact Seen.hit | (refine' Seen.skip ?sk; (case sk => k_extra "my seen")))
  k_with "eval Name" => ((k_here; name_kind "globalImplicit"; k_dflt (refine' name_BF ?nb1 ?nb2 ?nb3 ?nb4 ?nb5 ?nb6 ?nb7 ?_; (case nb1 => k_asm); (case nb2 => k_asm); (case nb3 => k_asm); (case nb4 => k_is); (case nb5 => boot_by_name); (case nb6 => decide +kernel); (case nb7 => exact rfl); k_whole)))
  k_with "eval Name" => ((k_here; name_kind "globalImplicit"; k_dflt (refine' name_KF ?nk1 ?nk2 ?nk3 ?nk4 ?nk5 ?nk6 ?_; (case nk1 => k_asm); (case nk2 => k_asm); (case nk3 => k_asm); (case nk4 => k_is); (case nk5 => decide +kernel); (case nk6 => exact rfl); k_whole)))
  k_with "eval Name" => ((k_here; name_kind "local"; k_dflt (refine' ldT ?lk1 ?lk2 ?lk3 ?lk4 ?_; (case lk1 => k_asm); (case lk2 => exact rfl); (case lk3 => decide +kernel); (case lk4 => exact rfl); k_whole)))
  k_with "eval Name" => ((k_here; name_kind "local"; k_dflt (refine' ldS ?ls1 ?ls2 ?ls3 ?ls4 ?ls5 ?_; (case ls1 => k_asm); (case ls2 => with_reducible k_extra "my seen"); (case ls3 => kernel_rfl!); (case ls4 => decide +kernel); (case ls5 => exact rfl); k_whole)))
  k_with "storeName" => ((k_here; k_dflt (refine' store_KF ?st1 ?st2 ?st3 ?st4 ?_; (case st1 => k_asm); (case st2 => k_asm); (case st3 => decide +kernel); (case st4 => exact rfl); k_whole); intro h' F' N'; (try k_sweep)))
  k_with "ite" => ((k_closed; k_dflt (first | refine ite_pos (by decide) ?_ | refine ite_neg (by decide) ?_)))
  k_with "call ref" => ((k_here; (with_reducible show wpAny _ _ (call (Value.ref 28) _) _ _ _); k_dflt (refine ctrI_use (c_isqrt_small _ _ _ (by k_extra "my side") (by k_extra "my side")) (by k_asm) (by k_asm) (by k_asm) (by k_asm) (by k_asm) (by first | exact rfl | assumption) (by ktr_room) (by ktr_units) ?_); k_extra "my I"))
  k_with "call ref" => ((k_here; (with_reducible show wpAny _ _ (call (Value.ref 35) _) _ _ _); k_dflt (refine ctr_use (c_sqrtrem _ _ _ (by k_extra "my side") (by k_extra "my side")) (by k_asm) (by k_asm) (by k_asm) (by k_asm) (by k_asm) (by first | exact rfl | assumption) (by ktr_room) (by ktr_units) ?_); intro r9 n9 h9 tk9 F9 N9 S9 P9; cases P9; (try k_sweep); (try dsimp only); (try k_fold)))
  k_with "my wa" => (first | with_reducible assumption | omega)
  k_with "my strip" => (first | exact se1 (by k_extra "my wa") (by k_extra "my wa") (by k_extra "my wa") (by k_extra "my wa") | exact se2 (by k_extra "my wa") (by k_extra "my wa") (by k_extra "my wa") (by k_extra "my wa") | exact se3 (by k_extra "my wa") (by k_extra "my wa") (by k_extra "my wa") | exact se4 (by k_extra "my wa") (by k_extra "my wa") (by k_extra "my wa"))
  k_with "my round" => (first | exact ro1 (by k_extra "my wa") (by k_extra "my wa") (by k_extra "my wa") (by k_extra "my wa") | exact ro2 (by k_extra "my wa") (by k_extra "my wa") (by k_extra "my wa") (by k_extra "my wa") | exact rn1 (by k_extra "my wa") (by k_extra "my wa") (by k_extra "my wa") (by k_extra "my wa") | exact rn2 (by k_extra "my wa") (by k_extra "my wa") (by k_extra "my wa") (by k_extra "my wa") (by k_extra "my wa") (by k_extra "my wa") | exact rn3 (by k_extra "my wa") (by k_extra "my wa") (by k_extra "my wa") (by k_extra "my wa") (by k_extra "my wa") (by k_extra "my wa") (by k_extra "my wa") (by k_extra "my wa") (by k_extra "my wa") | exact rn4 (by k_extra "my wa") (by k_extra "my wa") (by k_extra "my wa") (by k_extra "my wa") (by k_extra "my wa") (by k_extra "my wa") (by k_extra "my wa") (by k_extra "my wa") (by k_extra "my wa"))
  k_with "my nf" => (first | (refine nf_lo (by k_extra "my wa") (by k_extra "my wa") ?_; k_extra "my strip") | (refine' nf_hi ?c9 ?d9 ?a9 ?b9; (case a9 => k_extra "my strip"); (case c9 => k_extra "my wa"); (case d9 => k_extra "my wa"); (case b9 => k_extra "my round")))
  k_with "call ref" => ((k_here; (with_reducible show wpAny _ _ (call (Value.ref 21) _) _ _ _); k_dflt (refine trailing_use (by k_asm) (by k_asm) (by k_asm) (by k_asm) (by k_asm) (by first | exact rfl | assumption) (by ktr_room) (by ktr_units) ?_); intro t9 h9 tk9 hz9 F9 N9; (try k_sweep); (try dsimp only); (try k_fold)))
  k_with "call ref" => ((k_here; (with_reducible show wpAny _ _ (call (Value.ref 71) _) _ _ _); k_dflt (refine ctr_use (c_norm0 _ _ _ _ _ _ _ _ _ _ _ _ _ (by k_extra "my side") (by k_extra "my side") (by k_extra "my side") (by k_extra "my side") (by k_extra "my side")) (by k_asm) (by k_asm) (by k_asm) (by k_asm) (by k_asm) (by first | exact rfl | assumption) (by ktr_room) (by ktr_units) ?_); k_extra "my M"))
  k_with "call ref" => ((k_here; (with_reducible show wpAny _ _ (call (Value.ref 78) _) _ _ _); k_dflt (refine ctr_use (c_norm _ _ _ _ _ _ _ _ _ _ _ _ _ (by k_extra "my side") (by k_extra "my side") (by k_extra "my side") (by k_extra "my side") (by k_extra "my side")) (by k_asm) (by k_asm) (by k_asm) (by k_asm) (by k_asm) (by first | exact rfl | assumption) (by ktr_room) (by ktr_units) ?_); k_extra "my M"))
  k_with "call ref" => ((k_here; (with_reducible show wpAny _ _ (call (Value.ref 21) _) _ _ _); k_dflt (refine trailing_use (by k_asm) (by k_asm) (by k_asm) (by k_asm) (by k_asm) (by first | exact rfl | assumption) (by ktr_room) (by ktr_units) ?_); intro t9 h9 tk9 hz9 F9 N9; (try k_sweep); (try dsimp only); (try k_fold)))
  k_with "my fm" => (first | exact fm_odd (by with_reducible assumption) (by with_reducible assumption) (by omega) | exact fm_two (by with_reducible assumption) (by with_reducible assumption) (by with_reducible assumption) (by with_reducible assumption) (by with_reducible assumption) (by omega) | exact fm_tr (by with_reducible assumption) (by omega))
  k_with "call ref" => ((k_here; (with_reducible show wpAny _ _ (call (Value.ref 86) [_, _]) _ _ _); k_dflt (refine ctr_use (c_fme _ _ _ _ _ (by k_extra "my side")) (by k_asm) (by k_asm) (by k_asm) (by k_asm) (by k_asm) (by first | exact rfl | assumption) (by ktr_room) (by ktr_units) ?_); k_extra "my M"))
  k_with "call ref" => ((k_here; (with_reducible show wpAny _ _ (call (Value.ref 86) [_, _, Value.int 0 _, _]) _ _ _); k_dflt (refine ctr_use (c_fme0 _ _ _ _ _ _ _ (by k_extra "my side")) (by k_asm) (by k_asm) (by k_asm) (by k_asm) (by k_asm) (by first | exact rfl | assumption) (by ktr_room) (by ktr_units) ?_); k_extra "my M"))
  k_with "call ref" => ((k_here; (with_reducible show wpAny _ _ (call (Value.ref 86) [_, _, Value.int _ _, _]) _ _ _); k_dflt (refine ctr_use (c_fmeR _ _ _ _ _ _ _ _ _ (by k_extra "my side") (by k_extra "my side") (by k_extra "my side")) (by k_asm) (by k_asm) (by k_asm) (by k_asm) (by k_asm) (by first | exact rfl | assumption) (by ktr_room) (by ktr_units) ?_); k_extra "my M"))
  k_with "my mps" => (first | with_reducible assumption | (refine MpIn.cons ?_; k_extra "my mps") | (refine MpIn.mono (by with_reducible assumption) ?_; k_extra "my mps"))
  k_with "my mpz" => (first | exact MpIn.zero | k_extra "my mps")
  k_with "compareOp Eq ref ref" => ((k_here; k_dflt (first | refine eq_mp_t (by k_asm) (by k_asm) (by k_asm) (by k_extra "my mpz") (by k_extra "my mpz") (by ktr_units) rfl ?_ | refine eq_mp_f (by k_asm) (by k_asm) (by k_asm) (by k_extra "my mpz") (by k_extra "my mpz") (by ktr_units) (by (try dsimp only [Mp.zero]); omega) ?_ | refine eq_mp_nan (by k_asm) (by k_asm) (by k_asm) (by k_extra "my mps") (by ktr_units) (by (try dsimp only [Mp.zero]); omega) ?_)))
  k_with "call builtin:divmod" => ((k_here; (with_reducible show wpAny _ _ (call (Value.builtin _) [Value.int _ _, Value.int _ _]) _ _ _); refine divmod_hid (by k_asm) (by k_asm) (by first | with_reducible assumption | omega) (by bits_by_make) (by bits_by_make) (by decide) ?_; intro D9 h9 tk9 t91 t92 q9 r9 hq9 hb9 hb99 hb999 hr9 F9 N9))
  k_with "call ref" => ((k_here; (with_reducible show wpAny _ _ (call (Value.ref 78) _) _ _ _); k_dflt (refine ctr_use (c_norm _ _ _ _ _ _ _ _ _ _ _ _ _ (by k_extra "my side") (by k_extra "my side") (by k_extra "my side") (by k_extra "my side") (by k_extra "my side")) (by k_asm) (by k_asm) (by k_asm) (by k_asm) (by k_asm) (by first | exact rfl | assumption) (by ktr_room) (by ktr_units) ?_); k_extra "my M"))
  k_with "my side" => (exact xor1_01 (by with_reducible assumption) (by with_reducible assumption) (by with_reducible assumption))
  k_with "my for" => ((k_here; (rename Fr _ _ _ _ => lF'); (with_unfolding_all refine' For_turns lF' ?_; k_whole)))
  k_with "my iter" => ((k_here; (with_reducible show wpAny _ _ (pyIter (Value.ref _)) (fun it s₂ => TurnsAt _ _ _ _ _ _ _ _ _ it s₂) _ _); first | ((with_unfolding_all refine' iter_tupTurns ?h ?F ?N ?k ?c ?d ?_; (case h => with_unfolding_all rfl); (case F => k_asm); (case N => k_asm); (case k => k_mem); (case c => exact rfl); (case d => exact rfl); k_whole); intro i' l1) | ((with_unfolding_all refine' iter_tupK ?h ?F ?N ?X ?k ?c ?d ?z ?_; (case h => with_unfolding_all rfl); (case F => k_asm); (case N => k_asm); (case X => k_asm); (case k => k_is); (case c => exact rfl); (case d => exact rfl); (case z => decide); k_whole); intro i' l1)))
  k_with "my turn" => ((refine' turn_end ?tl ?tF ?tN ?tI ?tS ?tk ?_; (case tl => with_reducible assumption); (case tF => k_asm); (case tN => k_asm); (case tI => k_mem); (case tS => k_extra "my sub"); (case tk => first | exact True.intro | exact And.intro (by k_mem) True.intro); intro n9 S9; (try dsimp only)))
  trivial
theorem vn1 {s m e b : Int} (h : e < 0) (hs : s = 0) : vN ⟨s, m, e, b⟩ = m := by
  unfold vN sM; rw [if_pos h, if_pos hs]
theorem vn2 {s m e b : Int} (h : e < 0) (hs : s ≠ 0) : vN ⟨s, m, e, b⟩ = -m := by
  unfold vN sM; rw [if_pos h, if_neg hs]
theorem vn3 {s m e b v : Int} (hv : Hid (v = m * 2 ^ e.toNat)) (h : ¬ e < 0) (hs : s = 0) : vN ⟨s, m, e, b⟩ = v := by
  unfold vN sM; rw [if_neg h, if_pos hs]; exact hv.out.symm
theorem vn4 {s m e b v : Int} (hv : Hid (v = -m * 2 ^ e.toNat)) (h : ¬ e < 0) (hs : s ≠ 0) : vN ⟨s, m, e, b⟩ = v := by
  unfold vN sM; rw [if_neg h, if_neg hs]; exact hv.out.symm
theorem vd1 {s m e b v : Int} (hv : Hid (v = 1 * 2 ^ (-e).toNat)) (h : e < 0) : vD ⟨s, m, e, b⟩ = v := by
  unfold vD; rw [if_pos h]; exact hv.out.symm
theorem vd2 {s m e b : Int} (h : ¬ e < 0) : vD ⟨s, m, e, b⟩ = 1 := by
  unfold vD; rw [if_neg h]
theorem prIn_of {news : List (Addr × Obj)} {a : Addr} {x y x' y' : Int} {t1 t2 : Tok} {c : Nat} (h : (a, tup2 x y t1 t2 c) ∈ news) (e1 : x' = x) (e2 : y' = y) : PrIn news (.ref a) x' y' := by
  subst e1 e2
  exact .tup h
theorem su_C15_2 : True := by
  k_with "my vn" => (first | exact vn1 (by omega) (by omega) | exact vn2 (by omega) (by omega) | exact vn3 (by with_reducible assumption) (by omega) (by omega) | exact vn4 (by with_reducible assumption) (by omega) (by omega))
  k_with "my vd" => (first | exact vd1 (by with_reducible assumption) (by omega) | exact vd2 (by omega))
  trivial
theorem c_value {w : World} {mean : ExcName → Option Value} {mg mb : Str → Option Value} (news : List (Addr × Obj)) (v1 : Value) (x : Mp) (h : MpIn news v1 x) (ok : Ok x) :
    Ctr w mean mg mb 209 2 news [v1] (fun r n' => PrIn n' r (vN x) (vD x)) := by
  unfold Ctr
  k_fill
  intro dp un gd cn cs a ccd cl outer A₀ base h₀ L m' s Q E B F X N T hk hdp hun hret
  have hok := ok
  obtain ⟨u1, u2, u3, u4, u5, u6, u7⟩ := ok
  obtain ⟨xs, xm, xe, xb⟩ := x
  have hh := h
  rcases h with _ | ⟨hz, hm⟩
  all_goals (try dsimp only at hz hm)
  all_goals dsimp only at u1 u2 u3 u4 u5 u6
  all_goals (have hmb := bits_neg u4)
  all_goals k_extra "my start"
  all_goals k_extra "my steps"
  all_goals first
    | exact hret _ _ _ _ (by with_reducible assumption) (by with_reducible assumption) (by k_extra "my sub") (prIn_of (by k_mem) (by k_extra "my vn") (by k_extra "my vd"))
    | fail "no"
section
variable {w : World} {mean : ExcName → Option Value} {mg mb : Str → Option Value} {news : List (Addr × Obj)}
  {dp un : Nat} {gd : Option (List Code)} {cn : Str} {cs : Scope} {a : Addr} {ccd : Value} {cl : List (Str × Addr)} {outer : List Env} {A₀ : Around} {base h₀ : Heap} {L : Addr} {m : Str → Option Value} {s : Shared} {Q E : Value → Shared → Prop}
theorem value_use {v1 : Value} {x : Mp} (B : Below A₀ base outer h₀) (F : Fr h₀ L s.heap m) (X : (hd.heap_39 w.params).In h₀) (N : News h₀ L s.heap news) (T : Top hd.view_39 LS mean mg mb h₀) (hk : cs.kind = .function) (h : MpIn news v1 x) (ok : Ok x)
    (h1 : dp + 2 < recursionLimit) (h2 : un + 8 * 2 < cLine)
    (ret : ∀ (D : Addr) (t1 t2 : Tok) (c : Nat) (n' : List (Addr × Obj)) (h' : Heap) (tk' : Nat) (q r : Int), Hid (q = vN x) → Hid (r = vD x) → Builtin.Int.intBits q ≤ 3400 → Builtin.Int.intBits r ≤ 3400 → 0 < r → Fr h₀ L h' m → News h₀ L h' n' → Sub news n' → (D, tup2 q r t1 t2 c) ∈ n' → Q (.ref D) { s with heap := h', toks := tk' }) :
    wpAny (model PySem.Challenge.rw_aa5010_01.row.prog w) (ktrTop dp un gd cn cs L a ccd cl outer) (call (.ref 209) [v1]) Q E s := ctr_use (c_value news v1 x h ok) B F X N T hk h1 h2 fun r n' h' tk' F' N' S P => by
  cases P with
  | tup h => exact ret _ _ _ _ _ _ _ _ _ ⟨rfl⟩ ⟨rfl⟩ (vN_bits ok) (vD_bits ok) (vD_pos x) F' N' S h
end
theorem su_C15_3 : True := by
  k_with "call ref" => ((k_here; (with_reducible show wpAny _ _ (call (Value.ref 209) _) _ _ _); k_dflt (refine' value_use (by k_asm) (by k_asm) (by k_asm) (by k_asm) (by k_asm) (by first | exact rfl | assumption) ?sd0 ?sd1 (by ktr_room) (by ktr_units) ?_; (case sd0 => k_extra "my mp"); (case sd1 => with_reducible assumption)); intro D9 t91 t92 c9 n9 h9 tk9 q9 r9 hq9 hr9 hb9 hb99 hp9 F9 N9 S9 hm9; (try k_sweep); (try dsimp only); (try k_fold)))
  trivial
theorem beq_t {a b : Int} (h : a = b) : (a == b) = true := by simp [h]
theorem c_same {w : World} {mean : ExcName → Option Value} {mg mb : Str → Option Value} (news : List (Addr × Obj)) (v1 : Value) (x : Mp) (m e : Int) (t2 t3 : Tok) (h : MpIn news v1 x) (ok : Ok x) (hb : Builtin.Int.intBits m ≤ 400) (he1 : -3000 ≤ e) (he2 : e ≤ 3000) (hok : SameOk x m e) :
    Ctr w mean mg mb 223 4 news [v1, .int m t2, .int e t3] (fun r _ => r = .bool true) := by
  unfold Ctr
  k_fill
  intro dp un gd cn cs a ccd cl outer A₀ base h₀ L m' s Q E B F X N T hk hdp hun hret
  k_extra "my start"
  k_extra "my steps"
  all_goals (refine hret _ _ _ _ (by with_reducible assumption) (by with_reducible assumption) (by k_extra "my sub") ?_; refine congrArg Value.bool (beq_t ?_); k_extra "my open")
  · unfold SameOk at hok; rw [if_pos (by omega)] at hok; exact hok
  · unfold SameOk at hok; rw [if_neg (by omega)] at hok; exact hok
theorem c_most {w : World} {mean : ExcName → Option Value} {mg mb : Str → Option Value} (news : List (Addr × Obj)) (v1 : Value) (x : Mp) (h : MpIn news v1 x) (ok : Ok x) (hmo : MostOk x) :
    Ctr w mean mg mb 230 4 news [v1] (fun r _ => r = .bool true) := by
  unfold Ctr
  k_fill
  intro dp un gd cn cs a ccd cl outer A₀ base h₀ L m' s Q E B F X N T hk hdp hun hret
  k_extra "my start"
  k_extra "my steps"
  refine hret _ _ _ _ (by with_reducible assumption) (by with_reducible assumption) (by k_extra "my sub") ?_
  refine congrArg Value.bool (decide_eq_true ?_)
  k_extra "my open"
  have := hmo
  have hd0 := vD_pos x
  unfold MostOk at this
  split <;> omega
theorem su_C15_4 : True := by
  k_with "exec For Name Name cons nil" => (k_extra "my for")
  k_with "pyIter ref" => (k_extra "my iter")
  k_with "UnrEndW" => (k_extra "my turn")
  trivial
theorem eq_z4 {prog : Program} {w : World} {A : Around} {E : Value → Shared → Prop} {s : Shared} {Q : Value → Shared → Prop} {h₀ : Heap} {L : Addr} {m : Str → Option Value} {news : List (Addr × Obj)} {b : Addr} {t1 t2 t3 t4 : Tok} {c : Nat} (F : Fr h₀ L s.heap m) (X : (hd.heap_39 w.params).In h₀) (N : News h₀ L s.heap news) (hm : (b, tup4 0 0 0 0 t1 t2 t3 t4 c) ∈ news) (hu : A.units + 64 < cLine)
    (h : Q (.bool true) s) : wpAny (model prog w) A (compareOp .Eq (.ref 56) (.ref b)) Q E s :=
  eq_dataH (mpIn_reads F X N (MpIn.zero (news := news))) (reads_tuple_at (N.get hm) rfl rfl (ReadsAll.cons (Reads.int _ _) (ReadsAll.cons (Reads.int _ _) (ReadsAll.cons (Reads.int _ _) (ReadsAll.cons (Reads.int _ _) ReadsAll.nil))))) rfl rfl hu (by
    rw [mp_eqv Mp.zero ⟨0, 0, 0, 0⟩, decide_eq_true (show Mp.zero = ⟨0, 0, 0, 0⟩ from rfl)]; exact h)
theorem su_C15_5 : True := by
  k_with "compareOp Eq ref ref" => ((k_here; k_dflt (refine eq_z4 (by k_asm) (by k_asm) (by k_asm) (by k_mem) (by ktr_units) ?_)))
  trivial
theorem c_form {w : World} {mean : ExcName → Option Value} {mg mb : Str → Option Value} (news : List (Addr × Obj)) (v1 : Value) (x : Mp) (p : Int) (t2 : Tok) (h : MpIn news v1 x) (hfo : FormOk x p) :
    Ctr w mean mg mb 202 14 news [v1, .int p t2] (fun r _ => r = .bool true) := by
  unfold Ctr
  k_fill
  intro dp un gd cn cs a ccd cl outer A₀ base h₀ L m' s Q E B F X N T hk hdp hun hret
  have hf := hfo.form
  obtain ⟨xs, xm, xe, xb⟩ := x
  have hh := h
  rcases h with _ | ⟨hz, hm⟩
  · k_extra "my start"
    k_extra "my steps"
    all_goals first
      | (exact hret _ _ _ _ (by with_reducible assumption) (by with_reducible assumption) (by k_extra "my sub") rfl)
      | fail "no"
  · dsimp only at hz hm hf
    rcases hf with hf | ⟨f1, f2, f3, f4, f5⟩
    · exact absurd (congrArg Mp.man hf) hz
    have f6 : xm.fmod 2 = 1 := by rw [Int.fmod_eq_emod_of_nonneg _ (by decide)]; exact f3
    k_extra "my start"
    k_extra "my steps"
    all_goals first
      | (exact hret _ _ _ _ (by with_reducible assumption) (by with_reducible assumption) (by k_extra "my sub") (congrArg Value.bool (decide_eq_true f5)))
      | (exfalso; rcases f1 with rfl | rfl <;> simp_all; done)
      | fail "no"
end
section
abbrev CtrL (w : World) (mean : ExcName → Option Value) (mg mb : Str → Option Value) (f : Addr) (k : Nat) (news : List (Addr × Obj)) (l : Addr) (lv : List Value) (ns : List Int) (vs : List Value) (P : Int → Prop) : Prop :=
  ∀ (dp un : Nat) (gd : Option (List Code)) (cn : Str) (cs : Scope) (a : Addr) (ccd : Value) (cl : List (Str × Addr)) (outer : List Env) (A₀ : Around) (base h₀ : Heap) (L : Addr) (m : Str → Option Value) (s : Shared) (Q E : Value → Shared → Prop),
    Below A₀ base outer h₀ → Fr h₀ L s.heap m → (hd.heap_39 w.params).In h₀ → News h₀ L s.heap news → Top hd.view_39 LS mean mg mb h₀ → cs.kind = .function →
    base.IsList l lv.toArray → IntsAre lv ns → ns.length < 2 ^ 62 →
    dp + k < recursionLimit → un + 8 * k < cLine →
    (∀ (v : Int) (t : Tok) (h' : Heap) (tk' : Nat), P v → Fr h₀ L h' m → News h₀ L h' news → Q (.int v t) { s with heap := h', toks := tk' }) →
    wpAny (model PySem.Challenge.rw_aa5010_01.row.prog w) (ktrTop dp un gd cn cs L a ccd cl outer) (call (.ref f) vs) Q E s
theorem su_C17_1 : True := by
  k_with_none
  k_with "my enter" => ((k_dflt (refine' code_def ?k1 ?k2 ?k3 ?k4 ?k5 ?kA ?kF ?kK ?k6 ?k7 ?k8 ?k9 ?kB ?_ ?c2 ?c3 ?c4 ?c5; (case kA => exact rfl); (case kF => exact rfl); (case kK => assumption); (case k1 => k_asm); (case k2 => k_asm); (case k3 => k_asm); (case k4 => k_asm); (case k5 => k_asm); (case k6 => k_is); (case k7 => k_is); (case k8 => ktr_room); (case k9 => first | exact BindsTo.of_eq rfl | exact binds_K (by k_in) rfl (by k_is) rfl rfl rfl); (case c5 => decide); (case kB => exact locs rfl); (case c2 => exact rfl); (case c3 => exact rfl); (case c4 => exact rfl); k_whole; intro g' L' h' FG' F' N' B' X' T'; (try dsimp only); (try k_lift B'); (try k_fold))))
  k_with "my start" => ((refine wpAny_call ?_; k_extra "my enter"; k_extra "my norm"))
  k_with "my steps" => (repeat' (first | (k_unfold; (try dsimp only)) | (k_end; wrow_close) | (law_purse 30000 => walk1) | (law_purse 30000 => (dsimp only; walk1)) | (leave1; try dsimp only) | fail "no step"))
  k_with "eval Subscript" => (k_extra "my cut")
  k_with "my omega" => (((try simp only [bne_iff_ne, beq_iff_eq, decide_eq_true_eq, ne_eq, Bool.not_eq_true', Bool.not_eq_false', beq_eq_false_iff_ne, bne_eq_false_iff_eq, decide_eq_false_iff_not]); omega))
  k_with "ite" => ((k_here; first | (refine ite_pos (by with_reducible assumption) ?_) | (refine ite_neg (by with_reducible assumption) ?_) | (refine ite_pos (by k_extra "my omega") ?_) | (refine ite_neg (by k_extra "my omega") ?_)))
  k_with "my arith" => (first | omega | decide | ((simp only [fdiv2, fdiv2', Int.reduceToNat, Int.toNat_one, Int.reducePow, Int.pow_one] at *); omega))
  k_with "binaryOp LShift int int" => ((k_here; (refine' lshift_hid (k := 5000) (by k_extra "my arith") (by bits_by_make) (by k_extra "my arith") (by decide) ?_); intro v9 hv9 hb9 hs9 hp9))
  k_with "inplaceOp LShift int int" => ((k_here; (refine' ilshift_hid (k := 5000) (by k_extra "my arith") (by bits_by_make) (by k_extra "my arith") (by decide) ?_); intro v9 hv9 hb9 hs9 hp9))
  k_with "binaryOp RShift int int" => ((k_here; (refine' rshift_hid (by k_extra "my arith") ?_); intro v9 hv9 hb9))
  k_with "inplaceOp RShift int int" => ((k_here; (refine' irshift_hid (by k_extra "my arith") ?_); intro v9 hv9 hb9))
  k_with "binaryOp BitAnd int int" => ((k_here; (refine' and_hid ?_); intro v9 hv9))
  k_with "binaryOp BitXor int int" => ((k_here; (refine' xor_hid ?_); intro v9 hv9))
  k_with "inplaceOp BitXor int int" => ((k_here; (refine' ixor_hid ?_); intro v9 hv9))
  k_with "binaryOp Mult int int" => ((k_here; (refine' mul_hid (by bits_by_make) (by bits_by_make) (by decide) ?_); intro v9 hv9 hb9 hz9 hn9))
  k_with "inplaceOp Mult int int" => ((k_here; (refine' imul_hid (by bits_by_make) (by bits_by_make) (by decide) ?_); intro v9 hv9 hb9 hz9 hn9))
  k_with "my open" => ((repeat ((rename Hid _ => hh9); (have hh9' := hh9.out); clear hh9; subst hh9')))
  k_with "binaryOp FloorDiv int int" => ((k_here; (refine' floordiv_int ?mb1 ?_ (Or.inl (PyProof.noPylong_of_log2 ?mb2))); (case mb1 => k_extra "my arith"); (case mb2 => (refine' log_of_bits ?mb3 ?mb4; (case mb3 => bits_by_make); (case mb4 => decide)))))
  k_with "exec" => ((k_here; (with_reducible show wpAny _ _ (PySem.exec (Stmt.While _ _ _ _) _) _ _ _); k_extra "my while"))
  k_with "my mp" => (first | with_reducible assumption | exact MpIn.zero | (refine MpIn.cons ?_; k_extra "my mp") | (refine MpIn.mono (by with_reducible assumption) ?_; k_extra "my mp"))
  k_with "my sub" => (first | with_reducible assumption | exact Sub.refl _ | (refine Sub.cons _ ?_; k_extra "my sub") | (refine Sub.trans ?_ (by with_reducible assumption); k_extra "my sub"))
  k_with "my side" => (first | with_reducible assumption | omega | bits_by_make)
  k_with "my side" => (first | ((with_reducible refine bits_side ?_); omega) | ((with_reducible refine bits_sideN ?_); omega))
  k_with "my I" => ((intro t9 h9 tk9 F9 N9; (try k_sweep); (try dsimp only); (try k_fold)))
  k_with "my M" => ((intro r9 n9 h9 tk9 F9 N9 S9 P9; (try k_sweep); (try dsimp only); (try k_fold)))
  k_with "my bd" => (first | (refine' Bd.cons ?be ?br; (case be => exact rfl); (case br => k_extra "my bd")) | exact Bd.nil rfl)
  k_with "my norm" => (((rename Fr _ _ _ _ => F9); (replace F9 := fr_bd F9 (by k_extra "my bd"))))
  k_with "my seen" => (first | exact Seen.hit | (refine' Seen.skip ?sk; (case sk => k_extra "my seen")))
  k_with "eval Name" => ((k_here; name_kind "globalImplicit"; k_dflt (refine' name_BF ?nb1 ?nb2 ?nb3 ?nb4 ?nb5 ?nb6 ?nb7 ?_; (case nb1 => k_asm); (case nb2 => k_asm); (case nb3 => k_asm); (case nb4 => k_is); (case nb5 => boot_by_name); (case nb6 => decide +kernel); (case nb7 => exact rfl); k_whole)))
  k_with "eval Name" => ((k_here; name_kind "globalImplicit"; k_dflt (refine' name_KF ?nk1 ?nk2 ?nk3 ?nk4 ?nk5 ?nk6 ?_; (case nk1 => k_asm); (case nk2 => k_asm); (case nk3 => k_asm); (case nk4 => k_is); (case nk5 => decide +kernel); (case nk6 => exact rfl); k_whole)))
  k_with "eval Name" => ((k_here; name_kind "local"; k_dflt (refine' ldT ?lk1 ?lk2 ?lk3 ?lk4 ?_; (case lk1 => k_asm); (case lk2 => exact rfl); (case lk3 => decide +kernel); (case lk4 => exact rfl); k_whole)))
  k_with "eval Name" => ((k_here; name_kind "local"; k_dflt (refine' ldS ?ls1 ?ls2 ?ls3 ?ls4 ?ls5 ?_; (case ls1 => k_asm); (case ls2 => with_reducible k_extra "my seen"); (case ls3 => kernel_rfl!); (case ls4 => decide +kernel); (case ls5 => exact rfl); k_whole)))
  k_with "storeName" => ((k_here; k_dflt (refine' store_KF ?st1 ?st2 ?st3 ?st4 ?_; (case st1 => k_asm); (case st2 => k_asm); (case st3 => decide +kernel); (case st4 => exact rfl); k_whole); intro h' F' N'; (try k_sweep)))
  k_with "ite" => ((k_closed; k_dflt (first | refine ite_pos (by decide) ?_ | refine ite_neg (by decide) ?_)))
  k_with "call ref" => ((k_here; (with_reducible show wpAny _ _ (call (Value.ref 28) _) _ _ _); k_dflt (refine ctrI_use (c_isqrt_small _ _ _ (by k_extra "my side") (by k_extra "my side")) (by k_asm) (by k_asm) (by k_asm) (by k_asm) (by k_asm) (by first | exact rfl | assumption) (by ktr_room) (by ktr_units) ?_); k_extra "my I"))
  k_with "call ref" => ((k_here; (with_reducible show wpAny _ _ (call (Value.ref 35) _) _ _ _); k_dflt (refine ctr_use (c_sqrtrem _ _ _ (by k_extra "my side") (by k_extra "my side")) (by k_asm) (by k_asm) (by k_asm) (by k_asm) (by k_asm) (by first | exact rfl | assumption) (by ktr_room) (by ktr_units) ?_); intro r9 n9 h9 tk9 F9 N9 S9 P9; cases P9; (try k_sweep); (try dsimp only); (try k_fold)))
  k_with "my wa" => (first | with_reducible assumption | omega)
  k_with "my strip" => (first | exact se1 (by k_extra "my wa") (by k_extra "my wa") (by k_extra "my wa") (by k_extra "my wa") | exact se2 (by k_extra "my wa") (by k_extra "my wa") (by k_extra "my wa") (by k_extra "my wa") | exact se3 (by k_extra "my wa") (by k_extra "my wa") (by k_extra "my wa") | exact se4 (by k_extra "my wa") (by k_extra "my wa") (by k_extra "my wa"))
  k_with "my round" => (first | exact ro1 (by k_extra "my wa") (by k_extra "my wa") (by k_extra "my wa") (by k_extra "my wa") | exact ro2 (by k_extra "my wa") (by k_extra "my wa") (by k_extra "my wa") (by k_extra "my wa") | exact rn1 (by k_extra "my wa") (by k_extra "my wa") (by k_extra "my wa") (by k_extra "my wa") | exact rn2 (by k_extra "my wa") (by k_extra "my wa") (by k_extra "my wa") (by k_extra "my wa") (by k_extra "my wa") (by k_extra "my wa") | exact rn3 (by k_extra "my wa") (by k_extra "my wa") (by k_extra "my wa") (by k_extra "my wa") (by k_extra "my wa") (by k_extra "my wa") (by k_extra "my wa") (by k_extra "my wa") (by k_extra "my wa") | exact rn4 (by k_extra "my wa") (by k_extra "my wa") (by k_extra "my wa") (by k_extra "my wa") (by k_extra "my wa") (by k_extra "my wa") (by k_extra "my wa") (by k_extra "my wa") (by k_extra "my wa"))
  k_with "my nf" => (first | (refine nf_lo (by k_extra "my wa") (by k_extra "my wa") ?_; k_extra "my strip") | (refine' nf_hi ?c9 ?d9 ?a9 ?b9; (case a9 => k_extra "my strip"); (case c9 => k_extra "my wa"); (case d9 => k_extra "my wa"); (case b9 => k_extra "my round")))
  k_with "call ref" => ((k_here; (with_reducible show wpAny _ _ (call (Value.ref 21) _) _ _ _); k_dflt (refine trailing_use (by k_asm) (by k_asm) (by k_asm) (by k_asm) (by k_asm) (by first | exact rfl | assumption) (by ktr_room) (by ktr_units) ?_); intro t9 h9 tk9 hz9 F9 N9; (try k_sweep); (try dsimp only); (try k_fold)))
  k_with "call ref" => ((k_here; (with_reducible show wpAny _ _ (call (Value.ref 71) _) _ _ _); k_dflt (refine ctr_use (c_norm0 _ _ _ _ _ _ _ _ _ _ _ _ _ (by k_extra "my side") (by k_extra "my side") (by k_extra "my side") (by k_extra "my side") (by k_extra "my side")) (by k_asm) (by k_asm) (by k_asm) (by k_asm) (by k_asm) (by first | exact rfl | assumption) (by ktr_room) (by ktr_units) ?_); k_extra "my M"))
  k_with "call ref" => ((k_here; (with_reducible show wpAny _ _ (call (Value.ref 78) _) _ _ _); k_dflt (refine ctr_use (c_norm _ _ _ _ _ _ _ _ _ _ _ _ _ (by k_extra "my side") (by k_extra "my side") (by k_extra "my side") (by k_extra "my side") (by k_extra "my side")) (by k_asm) (by k_asm) (by k_asm) (by k_asm) (by k_asm) (by first | exact rfl | assumption) (by ktr_room) (by ktr_units) ?_); k_extra "my M"))
  k_with "call ref" => ((k_here; (with_reducible show wpAny _ _ (call (Value.ref 21) _) _ _ _); k_dflt (refine trailing_use (by k_asm) (by k_asm) (by k_asm) (by k_asm) (by k_asm) (by first | exact rfl | assumption) (by ktr_room) (by ktr_units) ?_); intro t9 h9 tk9 hz9 F9 N9; (try k_sweep); (try dsimp only); (try k_fold)))
  k_with "my fm" => (first | exact fm_odd (by with_reducible assumption) (by with_reducible assumption) (by omega) | exact fm_two (by with_reducible assumption) (by with_reducible assumption) (by with_reducible assumption) (by with_reducible assumption) (by with_reducible assumption) (by omega) | exact fm_tr (by with_reducible assumption) (by omega))
  k_with "call ref" => ((k_here; (with_reducible show wpAny _ _ (call (Value.ref 86) [_, _]) _ _ _); k_dflt (refine ctr_use (c_fme _ _ _ _ _ (by k_extra "my side")) (by k_asm) (by k_asm) (by k_asm) (by k_asm) (by k_asm) (by first | exact rfl | assumption) (by ktr_room) (by ktr_units) ?_); k_extra "my M"))
  k_with "call ref" => ((k_here; (with_reducible show wpAny _ _ (call (Value.ref 86) [_, _, Value.int 0 _, _]) _ _ _); k_dflt (refine ctr_use (c_fme0 _ _ _ _ _ _ _ (by k_extra "my side")) (by k_asm) (by k_asm) (by k_asm) (by k_asm) (by k_asm) (by first | exact rfl | assumption) (by ktr_room) (by ktr_units) ?_); k_extra "my M"))
  k_with "call ref" => ((k_here; (with_reducible show wpAny _ _ (call (Value.ref 86) [_, _, Value.int _ _, _]) _ _ _); k_dflt (refine ctr_use (c_fmeR _ _ _ _ _ _ _ _ _ (by k_extra "my side") (by k_extra "my side") (by k_extra "my side")) (by k_asm) (by k_asm) (by k_asm) (by k_asm) (by k_asm) (by first | exact rfl | assumption) (by ktr_room) (by ktr_units) ?_); k_extra "my M"))
  k_with "call ref" => ((k_here; (with_reducible show wpAny _ _ (call (Value.ref 78) _) _ _ _); k_dflt (refine ctr_use (c_norm _ _ _ _ _ _ _ _ _ _ _ _ _ (by k_extra "my side") (by k_extra "my side") (by k_extra "my side") (by k_extra "my side") (by k_extra "my side")) (by k_asm) (by k_asm) (by k_asm) (by k_asm) (by k_asm) (by first | exact rfl | assumption) (by ktr_room) (by ktr_units) ?_); k_extra "my M"))
  k_with "my side" => (exact xor1_01 (by with_reducible assumption) (by with_reducible assumption) (by with_reducible assumption))
  trivial
theorem fmod_bd {a n : Int} (h : 0 < n) : 0 ≤ a.fmod n ∧ a.fmod n < n := by
  rw [Int.fmod_eq_emod_of_nonneg _ (by omega)]
  exact ⟨Int.emod_nonneg _ (by omega), Int.emod_lt_of_pos _ h⟩
theorem c_draw {w : World} {mean : ExcName → Option Value} {mg mb : Str → Option Value} (news : List (Addr × Obj)) (l : Addr) (lv : List Value) (ns : List Int) (i n : Int) (t1 t2 : Tok) (hi0 : 0 ≤ i) (hi9 : i ≤ 100) (hn : 0 < n) (hn9 : n ≤ 100) :
    CtrL w mean mg mb 195 2 news l lv ns [.ref l, .int i t1, .int n t2] (fun v => 0 ≤ v ∧ v < n) := by
  unfold CtrL
  k_fill
  intro dp un gd cn cs a ccd cl outer A₀ base h₀ L m' s Q E B F X N T hk hl hv hlen hdp hun hret
  k_extra "my start"
  k_extra "my steps"
  all_goals exact hret _ _ _ _ (fmod_bd hn) (by with_reducible assumption) (by with_reducible assumption)
section
variable {w : World} {mean : ExcName → Option Value} {mg mb : Str → Option Value} {f : Addr} {k : Nat} {news : List (Addr × Obj)} {vs : List Value} {l : Addr} {lv : List Value} {ns : List Int} {P : Int → Prop}
  {dp un : Nat} {gd : Option (List Code)} {cn : Str} {cs : Scope} {a : Addr} {ccd : Value} {cl : List (Str × Addr)} {outer : List Env} {A₀ : Around} {base h₀ : Heap} {L : Addr} {m : Str → Option Value} {s : Shared} {Q E : Value → Shared → Prop}
theorem useL (B : Below A₀ base outer h₀) (F : Fr h₀ L s.heap m) (X : (hd.heap_39 w.params).In h₀) (N : News h₀ L s.heap news) (T : Top hd.view_39 LS mean mg mb h₀) (hk : cs.kind = .function)
    (C : CtrL w mean mg mb f k news l lv ns vs P) (hl : base.IsList l lv.toArray) (hv : IntsAre lv ns) (hlen : ns.length < 2 ^ 62)
    (h1 : dp + k < recursionLimit) (h2 : un + 8 * k < cLine)
    (ret : ∀ (v : Int) (t : Tok) (h' : Heap) (tk' : Nat), P v → Fr h₀ L h' m → News h₀ L h' news → Q (.int v t) { s with heap := h', toks := tk' }) :
    wpAny (model PySem.Challenge.rw_aa5010_01.row.prog w) (ktrTop dp un gd cn cs L a ccd cl outer) (call (.ref f) vs) Q E s := C _ _ _ _ _ _ _ _ _ _ _ _ _ _ _ _ _ B F X N T hk hl hv hlen h1 h2 ret
end
theorem mod_hid {prog : Program} {w : World} {A : Around} {E : Value → Shared → Prop} {s : Shared} {a b : Int} {t u : Tok} {Q : Value → Shared → Prop} (hb : 0 < b) (h : ∀ v, Hid (v = a.fmod b) → (0 ≤ v ∧ v < b) → Q (.int v s.toks) { s with toks := s.toks + 1 }) : wpAny (model prog w) A (binaryOp .Mod (.int a t) (.int b u)) Q E s :=
  PyProof.Rows.mod_int' (by omega) (h _ ⟨rfl⟩ (fmod_bd hb))
theorem su_C17_2 : True := by
  k_with "call ref" => ((k_here; (with_reducible show wpAny _ _ (call (Value.ref 195) _) _ _ _); k_dflt (refine' useL (by k_asm) (by k_asm) (by k_asm) (by k_asm) (by k_asm) (by first | exact rfl | assumption) (c_draw _ _ _ _ _ _ _ _ ?sd0 ?sd1 ?sd2 ?sd3) ?sd4 ?sd5 ?sd6 (by ktr_room) (by ktr_units) ?_; (case sd4 => k_asm); (case sd5 => l_ints); (case sd6 => l_fit); (case sd0 => omega); (case sd1 => omega); (case sd2 => omega); (case sd3 => omega)); intro v9 t9 h9 tk9 hv9 F9 N9; (try k_sweep); (try dsimp only); (try k_fold)))
  k_with "eval Call" => ((k_here; (with_reducible show wpAny _ _ (eval (Expr.Call (Expr.Name _ _) _ [] _) _) _ _ _); k_dflt (refine Call_ ?_)))
  trivial
theorem num_end {b v r : Int} (hv : Hid (v = 1 * 2 ^ b.toNat)) (h : 0 ≤ r ∧ r < v) : 0 ≤ r ∧ r < 2 ^ b.toNat := by
  obtain ⟨rfl⟩ := hv
  rw [Int.one_mul] at h
  exact h
theorem su_C17_3 : True := by
  k_with "binaryOp Mod int int" => ((k_here; (with_reducible refine mod_hid ?mz ?_); (case mz => omega); intro v9 hv9 hb9))
  trivial
theorem c_number {w : World} {mean : ExcName → Option Value} {mg mb : Str → Option Value} (news : List (Addr × Obj)) (l : Addr) (lv : List Value) (ns : List Int) (i b : Int) (t1 t2 : Tok) (hi0 : 0 ≤ i) (hi9 : i ≤ 50) (hb0 : 0 ≤ b) (hb9 : b ≤ 100) :
    CtrL w mean mg mb 216 4 news l lv ns [.ref l, .int i t1, .int b t2] (fun v => 0 ≤ v ∧ v < 2 ^ b.toNat) := by
  unfold CtrL
  k_fill
  intro dp un gd cn cs a ccd cl outer A₀ base h₀ L m' s Q E B F X N T hk hl hv hlen hdp hun hret
  k_extra "my start"
  k_extra "my steps"
  all_goals exact hret _ _ _ _ (num_end (by with_reducible assumption) (by with_reducible assumption)) (by with_reducible assumption) (by with_reducible assumption)
end
section
section
variable {M : Model} {A : Around} {E : Value → Shared → Prop} {s : Shared} {h₀ : Heap} {L : Addr} {m : Str → Option Value} {news : List (Addr × Obj)}
theorem fr_same {h : Heap} {x : Str} {v : Value} (F : Fr h₀ L h m) (hx : m x = some v) : Fr h₀ L h (fun y => if y = x then some v else m y) := by
  have e : (fun y => if y = x then some v else m y) = m := by
    funext y
    split
    · rename_i q; rw [q, hx]
    · rfl
  rw [e]; exact F
def SetTo (h₀ : Heap) (L : Addr) (m : Str → Option Value) (news : List (Addr × Obj)) (s : Shared) (x : Str) (P : Int → Prop) (fl : Flow) (s' : Shared) : Prop :=
  ∃ (v : Int) (t : Tok) (h' : Heap) (tk : Nat), fl = .next ∧ s' = { s with heap := h', toks := tk } ∧ Fr h₀ L h' (fun y => if y = x then some (.int v t) else m y) ∧ News h₀ L h' news ∧ P v
theorem via_set {c : Sem Flow} {Q : Flow → Shared → Prop} {a : Int} {t0 : Tok} (x : Str) (P : Int → Int → Prop) (_F : Fr h₀ L s.heap m) (_N : News h₀ L s.heap news) (_hx : m x = some (.int a t0))
    (h1 : wpAny M A c (SetTo h₀ L m news s x (P a)) E s)
    (h2 : ∀ (v : Int) (t : Tok) (h' : Heap) (tk : Nat), P a v → Fr h₀ L h' (fun y => if y = x then some (.int v t) else m y) → News h₀ L h' news → Q .next { s with heap := h', toks := tk }) : wpAny M A c Q E s :=
  wpAny_mono h1 (fun fl s' ⟨v, t, h', tk, e1, e2, F', N', hp⟩ => by subst e1; subst e2; exact h2 v t h' tk hp F' N') fun _ _ h => h
theorem set_new {h' : Heap} {tk : Nat} {x : Str} {P : Int → Prop} {v : Int} {t : Tok} (F : Fr h₀ L h' (fun y => if y = x then some (.int v t) else m y)) (N : News h₀ L h' news) (hp : P v) : SetTo h₀ L m news s x P .next { s with heap := h', toks := tk } := ⟨v, t, h', tk, rfl, rfl, F, N, hp⟩
theorem set_old {h' : Heap} {tk : Nat} {x : Str} {P : Int → Prop} {v : Int} {t : Tok} (F : Fr h₀ L h' m) (N : News h₀ L h' news) (hx : m x = some (.int v t)) (hp : P v) : SetTo h₀ L m news s x P .next { s with heap := h', toks := tk } := ⟨v, t, h', tk, rfl, rfl, fr_same F hx, N, hp⟩
end
end
section
def pw (e : Int) : Rat := (2 : Rat) ^ e
theorem pw_add (a b : Int) : pw (a + b) = pw a * pw b := Rat.zpow_add (by decide) a b
theorem pw_nat (k : Nat) : pw k = ((2 ^ k : Int) : Rat) := by
  unfold pw
  rw [Rat.zpow_natCast]
  simp
theorem pw_pos (e : Int) : 0 < pw e := by
  have h : ∀ k : Nat, 0 < pw k := fun k => by
    rw [pw_nat]
    exact_mod_cast p2pos k
  rcases Int.le_total 0 e with h0 | h0
  · have := h e.toNat
    rwa [Int.toNat_of_nonneg h0] at this
  · have h1 := h (-e).toNat
    rw [Int.toNat_of_nonneg (by omega)] at h1
    have h2 : pw e * pw (-e) = 1 := by
      rw [← pw_add, show e + -e = 0 by omega]
      exact_mod_cast pw_nat 0
    rcases (Rat.le_total : pw e ≤ 0 ∨ 0 ≤ pw e) with h3 | h3
    · have := Rat.mul_nonneg (a := -pw e) (b := pw (-e)) (by grind) (by grind)
      grind
    · grind
theorem pw_zero : pw 0 = 1 := by exact_mod_cast pw_nat 0
theorem pw_one : pw 1 = 2 := by
  have := pw_nat 1
  simpa using this
theorem pw_succ (e : Int) : pw (e + 1) = 2 * pw e := by rw [pw_add, pw_one]; grind
end
section
theorem pw_le_iff {a b : Rat} (e : Int) : a * pw e ≤ b * pw e ↔ a ≤ b := by
  constructor
  · intro h
    exact Rat.le_of_mul_le_mul_right h (pw_pos e)
  · intro h
    exact Rat.mul_le_mul_of_nonneg_right h (Rat.le_of_lt (pw_pos e))
theorem pw_lt_iff {a b : Rat} (e : Int) : a * pw e < b * pw e ↔ a < b := by
  rw [← Rat.not_le, ← Rat.not_le, pw_le_iff]
theorem pw_up (B : Int) (e : Int) (j : Nat) : (B : Rat) * pw (e + j) = ((B * 2 ^ j : Int) : Rat) * pw e := by
  rw [pw_add, pw_nat, Rat.intCast_mul]
  grind
structure Rd (w : Way) (s : Int) (p : Nat) (le lt : Rat → Prop) (q h : Int) : Prop where
  lo : (2 : Int) ^ (p - 1) ≤ q
  hi : q ≤ 2 ^ p
  b1 : le (((2 ^ p : Int) : Rat) * pw h)
  b2 : ¬ le (((2 ^ (p + 1) : Int) : Rat) * pw h)
  n : w = .n → le (((2 * q - 1 : Int) : Rat) * pw h) ∧ ¬ lt (((2 * q + 1 : Int) : Rat) * pw h) ∧ (¬ lt (((2 * q - 1 : Int) : Rat) * pw h) → q % 2 = 0) ∧ (le (((2 * q + 1 : Int) : Rat) * pw h) → q % 2 = 0)
  d : w ≠ .n → wayDn w s = true → le (((2 * q : Int) : Rat) * pw h) ∧ ¬ le (((2 * q + 2 : Int) : Rat) * pw h)
  u : w ≠ .n → wayDn w s = false → lt (((2 * q - 2 : Int) : Rat) * pw h) ∧ ¬ lt (((2 * q : Int) : Rat) * pw h)
theorem cmp_le (B M e : Int) (j : Nat) : (B : Rat) * pw (e + j) ≤ (M : Rat) * pw e ↔ B * 2 ^ j ≤ M := by
  rw [pw_up, pw_le_iff]
  exact Rat.intCast_le_intCast
theorem cmp_lt (B M e : Int) (j : Nat) : (B : Rat) * pw (e + j) < (M : Rat) * pw e ↔ B * 2 ^ j < M := by
  rw [pw_up, pw_lt_iff]
  exact Rat.intCast_lt_intCast
end
section
theorem rd_high (w : Way) (s : Int) {M e : Int} {p k : Nat} (hM : 0 < M) (hp : 1 ≤ p) (hk : Builtin.Int.intBits M = p + k) (hk1 : 1 ≤ k) :
    Rd w s p (fun r => r ≤ (M : Rat) * pw e) (fun r => r < (M : Rat) * pw e) (rdF w s M k) (e + ((k - 1 : Nat) : Int)) := by
  obtain ⟨j, rfl⟩ : ∃ j, k = j + 1 := ⟨k - 1, by omega⟩
  obtain ⟨lo, hi⟩ := rd_bounds w s hM hp hk
  have b1 := bits_lo hM
  have b2 := bits_hi hM
  rw [hk] at b1 b2
  simp only [Nat.add_sub_cancel]
  have h1 := div_mod M (j + 1)
  have h2 := emod_b M (j + 1)
  have hs : (2 : Int) ^ (j + 1) = 2 * 2 ^ j := by rw [Int.pow_succ, Int.mul_comm]
  have e1 : (2 : Int) ^ (p + (j + 1) - 1) = 2 ^ p * 2 ^ j := by rw [show p + (j + 1) - 1 = p + j by omega, Int.pow_add]
  have e2 : (2 : Int) ^ (p + (j + 1)) = 2 ^ (p + 1) * 2 ^ j := by rw [show p + (j + 1) = p + 1 + j by omega, Int.pow_add]
  have hu := p2pos j
  refine ⟨lo, hi, ?_, ?_, ?_, ?_, ?_⟩
  · rw [cmp_le, ← e1]; exact b1
  · rw [cmp_le, ← e2]; omega
  · intro hw
    subst hw
    simp only [cmp_le, cmp_lt]
    unfold rdF
    simp only
    generalize M / 2 ^ (j + 1) = Q at *
    generalize M % 2 ^ (j + 1) = R at *
    rw [hs] at *
    generalize (2 : Int) ^ j = u at *
    have hQ : 2 * u * Q = 2 * (Q * u) := by grind
    have f1 : (2 * Q - 1) * u = 2 * (Q * u) - u := by grind
    have f2 : (2 * Q + 1) * u = 2 * (Q * u) + u := by grind
    have f3 : (2 * (Q + 1) - 1) * u = 2 * (Q * u) + u := by grind
    have f4 : (2 * (Q + 1) + 1) * u = 2 * (Q * u) + 3 * u := by grind
    generalize Q * u = X at *
    split
    · rw [f1, f2]; omega
    · rw [f3, f4]; omega
  · intro hw hd
    simp only [cmp_le]
    have e3 : rdF w s M (j + 1) = M / 2 ^ (j + 1) := by
      cases w <;> first | exact absurd rfl hw | (simp only [rdF]; rw [if_pos hd])
    rw [e3]
    generalize M / 2 ^ (j + 1) = Q at *
    generalize M % 2 ^ (j + 1) = R at *
    rw [hs] at *
    generalize (2 : Int) ^ j = u at *
    have hQ : 2 * u * Q = 2 * (Q * u) := by grind
    have f1 : (2 * Q) * u = 2 * (Q * u) := by grind
    have f2 : (2 * Q + 2) * u = 2 * (Q * u) + 2 * u := by grind
    generalize Q * u = X at *
    rw [f1, f2]; omega
  · intro hw hd
    simp only [cmp_lt]
    have e3 : rdF w s M (j + 1) = if M % 2 ^ (j + 1) = 0 then M / 2 ^ (j + 1) else M / 2 ^ (j + 1) + 1 := by
      cases w <;> first | exact absurd rfl hw | (simp only [rdF]; rw [if_neg (by rw [hd]; decide)])
    rw [e3]
    generalize M / 2 ^ (j + 1) = Q at *
    generalize M % 2 ^ (j + 1) = R at *
    rw [hs] at *
    generalize (2 : Int) ^ j = u at *
    have hQ : 2 * u * Q = 2 * (Q * u) := by grind
    have f1 : (2 * Q - 2) * u = 2 * (Q * u) - 2 * u := by grind
    have f2 : (2 * Q) * u = 2 * (Q * u) := by grind
    have f3 : (2 * (Q + 1) - 2) * u = 2 * (Q * u) := by grind
    have f4 : (2 * (Q + 1)) * u = 2 * (Q * u) + 2 * u := by grind
    generalize Q * u = X at *
    split
    · rw [f1, f2]; omega
    · rw [f3, f4]; omega
end
section
theorem rd_exact (w : Way) (s : Int) {p : Nat} {q h : Int} {V : Rat} (hp : 1 ≤ p) (lo : (2 : Int) ^ (p - 1) ≤ q) (hi : q < 2 ^ p) (hV : V = ((2 * q : Int) : Rat) * pw h) :
    Rd w s p (fun r => r ≤ V) (fun r => r < V) q h := by
  subst hV
  have hs : (2 : Int) ^ p = 2 * 2 ^ (p - 1) := by
    obtain ⟨p', rfl⟩ : ∃ p', p = p' + 1 := ⟨p - 1, by omega⟩
    rw [Int.pow_succ, Nat.add_sub_cancel, Int.mul_comm]
  have hs2 : (2 : Int) ^ (p + 1) = 2 * 2 ^ p := by rw [Int.pow_succ, Int.mul_comm]
  refine ⟨lo, by omega, ?_, ?_, ?_, ?_, ?_⟩ <;> simp only [pw_le_iff, pw_lt_iff, Rat.intCast_le_intCast, Rat.intCast_lt_intCast]
  · omega
  · omega
  · intro _; omega
  · intro _ _; omega
  · intro _ _; omega
theorem rnd_Rd (w : Way) (s : Int) {M e : Int} {p : Nat} (hM : 0 < M) (hp : 1 ≤ p) :
    ∃ q h, rnd w p s M e = enc s q (h + 1) ∧ Rd w s p (fun r => r ≤ (M : Rat) * pw e) (fun r => r < (M : Rat) * pw e) q h := by
  rcases Nat.lt_or_ge p (Builtin.Int.intBits M) with h' | h'
  · obtain ⟨k, hk⟩ : ∃ k, Builtin.Int.intBits M = p + k := ⟨Builtin.Int.intBits M - p, by omega⟩
    refine ⟨_, _, ?_, rd_high w s hM hp hk (by omega)⟩
    rw [rnd, normF_high w hM hp hk (by omega)]
    congr 1
    omega
  · have b1 := bits_lo hM
    have b2 := bits_hi hM
    have b3 := bits_pos hM
    obtain ⟨j, hj⟩ : ∃ j, p = Builtin.Int.intBits M + j := ⟨p - Builtin.Int.intBits M, by omega⟩
    refine ⟨2 ^ j * M, e - j - 1, ?_, rd_exact w s hp ?_ ?_ ?_⟩
    · rw [rnd, normF_low w hM h', enc_shl]
      congr 1
      omega
    · rw [hj, show Builtin.Int.intBits M + j - 1 = j + (Builtin.Int.intBits M - 1) by omega, Int.pow_add]
      exact Int.mul_le_mul_of_nonneg_left b1 (Int.le_of_lt (p2pos j))
    · rw [hj, Nat.add_comm, Int.pow_add]
      exact Int.mul_lt_mul_of_pos_left b2 (p2pos j)
    · have e1 : e = (e - j - 1) + ((j + 1 : Nat) : Int) := by omega
      have := pw_up M (e - j - 1) (j + 1)
      rw [← e1] at this
      rw [this]
      congr 2
      rw [Int.pow_succ]
      grind
theorem sticky (w : Way) (s : Int) {N e : Int} {p : Nat} {le lt : Rat → Prop} {q h : Int} (hN : (2 : Int) ^ p ≤ N) (hlt : ∀ r, lt r → le r)
    (h1 : ∀ B : Int, 0 ≤ B → B ≤ N → lt ((B : Rat) * pw e)) (h2 : ∀ B : Int, N < B → ¬ le ((B : Rat) * pw e))
    (R : Rd w s p (fun r => r ≤ ((2 * N + 1 : Int) : Rat) * pw (e - 1)) (fun r => r < ((2 * N + 1 : Int) : Rat) * pw (e - 1)) q h) : Rd w s p le lt q h := by
  have hh : e ≤ h := by
    rcases Int.lt_or_le h e with hl | hl
    · exfalso
      apply R.b2
      obtain ⟨j, hj⟩ : ∃ j : Nat, e = h + ((j + 1 : Nat) : Int) := ⟨(e - h - 1).toNat, by omega⟩
      have e1 : e - 1 = h + (j : Int) := by omega
      rw [e1, pw_up, pw_le_iff, Rat.intCast_le_intCast, Int.pow_succ]
      have := p2pos j
      have h3 : 2 * 2 ^ p * 1 ≤ (2 * N + 1) * 2 ^ j := Int.mul_le_mul (by omega) (by omega) (by omega) (by have := p2pos p; omega)
      omega
    · exact hl
  obtain ⟨j, rfl⟩ : ∃ j : Nat, h = e + (j : Int) := ⟨(h - e).toNat, by omega⟩
  have key : ∀ B : Int, 0 ≤ B → ((B : Rat) * pw (e + j) ≤ ((2 * N + 1 : Int) : Rat) * pw (e - 1) → lt ((B : Rat) * pw (e + j))) ∧ (¬ (B : Rat) * pw (e + j) < ((2 * N + 1 : Int) : Rat) * pw (e - 1) → ¬ le ((B : Rat) * pw (e + j))) := by
    intro B hB0
    have e2 : e + (j : Int) = (e - 1) + ((j + 1 : Nat) : Int) := by omega
    have c1 := cmp_le B (2 * N + 1) (e - 1) (j + 1)
    have c2 := cmp_lt B (2 * N + 1) (e - 1) (j + 1)
    rw [← e2] at c1 c2
    rw [c1, c2, pw_up, Int.pow_succ]
    have e3 : B * (2 ^ j * 2) = 2 * (B * 2 ^ j) := by grind
    rw [e3]
    have hX := Int.mul_nonneg hB0 (Int.le_of_lt (p2pos j))
    generalize B * 2 ^ j = X at *
    exact ⟨fun q => h1 X hX (by omega), fun q => h2 X (by omega)⟩
  have kle : ∀ B : Int, 0 ≤ B → (B : Rat) * pw (e + j) ≤ ((2 * N + 1 : Int) : Rat) * pw (e - 1) → le ((B : Rat) * pw (e + j)) := fun B hB x => hlt _ ((key B hB).1 x)
  have knle : ∀ B : Int, 0 ≤ B → ¬ (B : Rat) * pw (e + j) ≤ ((2 * N + 1 : Int) : Rat) * pw (e - 1) → ¬ le ((B : Rat) * pw (e + j)) := fun B hB x => (key B hB).2 fun y => x (Rat.le_of_lt y)
  have klt : ∀ B : Int, 0 ≤ B → (B : Rat) * pw (e + j) < ((2 * N + 1 : Int) : Rat) * pw (e - 1) → lt ((B : Rat) * pw (e + j)) := fun B hB x => (key B hB).1 (Rat.le_of_lt x)
  have knlt : ∀ B : Int, 0 ≤ B → ¬ (B : Rat) * pw (e + j) < ((2 * N + 1 : Int) : Rat) * pw (e - 1) → ¬ lt ((B : Rat) * pw (e + j)) := fun B hB x y => (key B hB).2 x (hlt _ y)
  have q0 := R.lo
  have q1 := p2pos (p - 1)
  have q2 := p2pos p
  have q3 := p2pos (p + 1)
  refine ⟨R.lo, R.hi, kle _ (by omega) R.b1, knle _ (by omega) R.b2, fun hw => ?_, fun hw hd => ?_, fun hw hd => ?_⟩
  · obtain ⟨a, b, c, d⟩ := R.n hw
    exact ⟨kle _ (by omega) a, knlt _ (by omega) b, fun x => c fun y => x (klt _ (by omega) y), fun x => d (Classical.byContradiction fun y => knle _ (by omega) y x)⟩
  · obtain ⟨a, b⟩ := R.d hw hd
    exact ⟨kle _ (by omega) a, knle _ (by omega) b⟩
  · obtain ⟨a, b⟩ := R.u hw hd
    exact ⟨klt _ (by omega) a, knlt _ (by omega) b⟩
end
section
structure Cut (le lt : Rat → Prop) : Prop where
  le_of_lt : ∀ r, lt r → le r
  mono : ∀ r r', 0 ≤ r → r ≤ r' → le r' → le r
  mono' : ∀ r r', 0 ≤ r → r < r' → le r' → lt r
theorem cut_rat (V : Rat) : Cut (fun r => r ≤ V) (fun r => r < V) := ⟨fun _ h => Rat.le_of_lt h, fun _ _ _ h h' => Rat.le_trans h h', fun _ _ _ h h' => by grind⟩
theorem pw_mono {a b : Int} (h : a ≤ b) : pw a ≤ pw b := by
  obtain ⟨j, rfl⟩ : ∃ j : Nat, b = a + (j : Int) := ⟨(b - a).toNat, by omega⟩
  have h1 := pw_up 1 a j
  have h2 : ((1 : Int) : Rat) = 1 := rfl
  rw [h2] at h1
  have h3 := (pw_le_iff (a := 1) (b := ((1 * 2 ^ j : Int) : Rat)) a).mpr (by
    have : (1 : Int) ≤ 1 * 2 ^ j := by have := p2pos j; omega
    exact_mod_cast this)
  grind
theorem scale_nn {B h : Int} (hB : 0 ≤ B) : (0 : Rat) ≤ (B : Rat) * pw h := Rat.mul_nonneg (by exact_mod_cast hB) (Rat.le_of_lt (pw_pos h))
theorem Rd.uniq {w : Way} {s : Int} {p : Nat} {le lt : Rat → Prop} {q h q' h' : Int} (C : Cut le lt) (hp : 1 ≤ p) (R : Rd w s p le lt q h) (R' : Rd w s p le lt q' h') : q = q' ∧ h = h' := by
  have hs2 : (2 : Int) ^ (p + 1) = 2 * 2 ^ p := by rw [Int.pow_succ, Int.mul_comm]
  have hpp := p2pos p
  have one : ∀ {q h q' h' : Int}, Rd w s p le lt q h → Rd w s p le lt q' h' → ¬ h < h' := by
    intro q h q' h' R R' hl
    apply R.b2
    refine C.mono _ _ (scale_nn (by omega)) ?_ R'.b1
    obtain ⟨j, hj⟩ : ∃ j : Nat, h' = h + ((j + 1 : Nat) : Int) := ⟨(h' - h - 1).toNat, by omega⟩
    rw [hj, pw_up, pw_le_iff, Rat.intCast_le_intCast, Int.pow_succ]
    have h3 : 2 ^ p * 2 * 1 ≤ 2 ^ p * 2 * (2 : Int) ^ j := Int.mul_le_mul_of_nonneg_left (by have := p2pos j; omega) (by omega)
    rw [Int.pow_succ (2 : Int) j]
    generalize (2 : Int) ^ j = u at *
    generalize (2 : Int) ^ p = P at *
    have h4 : P * (u * 2) = P * 2 * u := by grind
    omega
  have hh : h = h' := by
    have a := one R R'
    have b := one R' R
    omega
  subst hh
  have q0 := p2pos (p - 1)
  have lo1 := R.lo
  have lo2 := R'.lo
  refine ⟨?_, rfl⟩
  have two : ∀ {q q' : Int}, Rd w s p le lt q h → Rd w s p le lt q' h → ¬ q < q' := by
    intro q q' R R' hl
    have lo1 := R.lo
    have lo2 := R'.lo
    have le1 : ∀ {A B : Int}, 0 ≤ A → A ≤ B → le ((B : Rat) * pw h) → le ((A : Rat) * pw h) := fun ha hab hb => C.mono _ _ (scale_nn ha) ((pw_le_iff h).mpr (by exact_mod_cast hab)) hb
    have lt1 : ∀ {A B : Int}, 0 ≤ A → A < B → le ((B : Rat) * pw h) → lt ((A : Rat) * pw h) := fun ha hab hb => C.mono' _ _ (scale_nn ha) ((pw_lt_iff h).mpr (by exact_mod_cast hab)) hb
    by_cases hw : w = .n
    · obtain ⟨a, b, c, d⟩ := R.n hw
      obtain ⟨a', b', c', d'⟩ := R'.n hw
      rcases (show 2 * q + 1 < 2 * q' - 1 ∨ 2 * q + 1 = 2 * q' - 1 by omega) with h1 | h1
      · exact b (lt1 (by omega) h1 a')
      · have e1 := d (by rw [h1]; exact a')
        have e2 := c' (by rw [← h1]; exact b)
        omega
    · cases hd : wayDn w s with
      | true =>
        obtain ⟨a, b⟩ := R.d hw hd
        obtain ⟨a', b'⟩ := R'.d hw hd
        exact b (le1 (by omega) (by omega) a')
      | false =>
        obtain ⟨a, b⟩ := R.u hw hd
        obtain ⟨a', b'⟩ := R'.u hw hd
        rcases (show 2 * q < 2 * q' - 2 ∨ 2 * q = 2 * q' - 2 by omega) with h1 | h1
        · exact b (lt1 (by omega) h1 (C.le_of_lt _ a'))
        · exact b (by rw [h1]; exact a')
  have a := two R R'
  have b := two R' R
  omega
end
section
theorem Rd.congr {w : Way} {s : Int} {p : Nat} {le lt le' lt' : Rat → Prop} {q h : Int} (R : Rd w s p le lt q h) (h1 : ∀ r, le r ↔ le' r) (h2 : ∀ r, lt r ↔ lt' r) : Rd w s p le' lt' q h := by
  have e1 : le = le' := funext fun r => propext (h1 r)
  have e2 : lt = lt' := funext fun r => propext (h2 r)
  subst e1 e2
  exact R
def qle (a b e : Int) (r : Rat) : Prop := r * (b : Rat) ≤ (a : Rat) * pw e
def qlt (a b e : Int) (r : Rat) : Prop := r * (b : Rat) < (a : Rat) * pw e
theorem cpos {b : Int} (h : 0 < b) : (0 : Rat) < (b : Rat) := by exact_mod_cast h
theorem mul_le_iff {a b c : Rat} (h : 0 < c) : a * c ≤ b * c ↔ a ≤ b := ⟨fun x => Rat.le_of_mul_le_mul_right x h, fun x => Rat.mul_le_mul_of_nonneg_right x (Rat.le_of_lt h)⟩
theorem mul_lt_iff {a b c : Rat} (h : 0 < c) : a * c < b * c ↔ a < b := by rw [← Rat.not_le, ← Rat.not_le, mul_le_iff h]
theorem cut_q {a b e : Int} (hb : 0 < b) : Cut (qle a b e) (qlt a b e) := by
  have hb' := cpos hb
  refine ⟨fun r h => Rat.le_of_lt h, fun r r' _ h h' => ?_, fun r r' _ h h' => ?_⟩
  · exact Rat.le_trans ((mul_le_iff hb').mpr h) h'
  · have := (mul_lt_iff hb').mpr h
    unfold qle at h'
    unfold qlt
    grind
theorem div_Rd (w : Way) (s : Int) {a b e : Int} {p k : Nat} (hb : 0 < b) (hp : 1 ≤ p) (hN : (2 : Int) ^ p ≤ (a * 2 ^ k) / b) :
    ((a * 2 ^ k) % b = 0 → ∃ q h, rnd w p s ((a * 2 ^ k) / b) (e - k) = enc s q (h + 1) ∧ Rd w s p (qle a b e) (qlt a b e) q h) ∧
    ((a * 2 ^ k) % b ≠ 0 → ∃ q h, rnd w p s ((a * 2 ^ k) / b * 2 + 1) (e - (k + 1)) = enc s q (h + 1) ∧ Rd w s p (qle a b e) (qlt a b e) q h) := by
  have hb' := cpos hb
  have hpp := p2pos p
  have d1 := Int.mul_ediv_add_emod (a * 2 ^ k) b
  have d2 := Int.emod_nonneg (a * 2 ^ k) (Int.ne_of_gt hb)
  have d3 := Int.emod_lt_of_pos (a * 2 ^ k) hb
  have up : (a : Rat) * pw e = ((a * 2 ^ k : Int) : Rat) * pw (e - k) := by
    have := pw_up a (e - k) k
    rwa [show e - (k : Int) + k = e by omega] at this
  generalize (a * 2 ^ k) / b = N at *
  refine ⟨fun h0 => ?_, fun h0 => ?_⟩
  · obtain ⟨q, h, e1, R⟩ := rnd_Rd w s (M := N) (e := e - k) (p := p) (by omega) hp
    refine ⟨q, h, e1, R.congr (fun r => ?_) (fun r => ?_)⟩
    · unfold qle
      rw [up, ← d1, h0, ← mul_le_iff hb', Int.add_zero, Rat.intCast_mul]
      have : (N : Rat) * pw (e - k) * (b : Rat) = (b : Rat) * (N : Rat) * pw (e - k) := by grind
      rw [this]
    · unfold qlt
      rw [up, ← d1, h0, ← mul_lt_iff hb', Int.add_zero, Rat.intCast_mul]
      have : (N : Rat) * pw (e - k) * (b : Rat) = (b : Rat) * (N : Rat) * pw (e - k) := by grind
      rw [this]
  · obtain ⟨q, h, e1, R⟩ := rnd_Rd w s (M := N * 2 + 1) (e := e - (k + 1)) (p := p) (by omega) hp
    refine ⟨q, h, e1, sticky w s (N := N) (e := e - k) hN (fun r x => Rat.le_of_lt x) (fun B _ hB => ?_) (fun B hB => ?_) ?_⟩
    · unfold qlt
      rw [up]
      have h2 : (B : Rat) * pw (e - k) * (b : Rat) = ((B * b : Int) : Rat) * pw (e - k) := by rw [Rat.intCast_mul]; grind
      rw [h2, pw_lt_iff, Rat.intCast_lt_intCast]
      have := Int.mul_le_mul_of_nonneg_right hB (Int.le_of_lt hb)
      have : N * b = b * N := Int.mul_comm _ _
      omega
    · unfold qle
      rw [up]
      have h2 : (B : Rat) * pw (e - k) * (b : Rat) = ((B * b : Int) : Rat) * pw (e - k) := by rw [Rat.intCast_mul]; grind
      rw [h2, pw_le_iff, Rat.intCast_le_intCast]
      have := Int.mul_le_mul_of_nonneg_right (show N + 1 ≤ B by omega) (Int.le_of_lt hb)
      have : (N + 1) * b = b * N + b := by grind
      omega
    · rw [show e - (k : Int) - 1 = e - (k + 1) by omega, show 2 * N + 1 = N * 2 + 1 by omega]
      exact R
end
section
def sle (M e : Int) (r : Rat) : Prop := r * r ≤ (M : Rat) * pw (e + e)
def slt (M e : Int) (r : Rat) : Prop := r * r < (M : Rat) * pw (e + e)
theorem sq_mono {r r' : Rat} (h0 : 0 ≤ r) (h : r ≤ r') : r * r ≤ r' * r' :=
  Rat.le_trans (Rat.mul_le_mul_of_nonneg_left h h0) (Rat.mul_le_mul_of_nonneg_right h (Rat.le_trans h0 h))
theorem sq_mono' {r r' : Rat} (h0 : 0 ≤ r) (h : r < r') : r * r < r' * r' := by
  have h1 := Rat.mul_le_mul_of_nonneg_left (Rat.le_of_lt h) h0
  have h2 : 0 < r' := by grind
  have h3 := (mul_lt_iff h2).mpr h
  grind
theorem cut_s (M e : Int) : Cut (sle M e) (slt M e) := by
  refine ⟨fun r h => Rat.le_of_lt h, fun r r' h0 h h' => Rat.le_trans (sq_mono h0 h) h', fun r r' h0 h h' => ?_⟩
  have := sq_mono' h0 h
  unfold sle at h'
  unfold slt
  grind
theorem Rd.congr0 {w : Way} {s : Int} {p : Nat} {le lt le' lt' : Rat → Prop} {q h : Int} (R : Rd w s p le lt q h) (h1 : ∀ B : Int, 0 ≤ B → (le ((B : Rat) * pw h) ↔ le' ((B : Rat) * pw h))) (h2 : ∀ B : Int, 0 ≤ B → (lt ((B : Rat) * pw h) ↔ lt' ((B : Rat) * pw h))) : Rd w s p le' lt' q h := by
  have q0 := R.lo
  have q1 := p2pos (p - 1)
  have q2 := p2pos p
  have q3 := p2pos (p + 1)
  refine ⟨R.lo, R.hi, (h1 _ (by omega)).mp R.b1, fun x => R.b2 ((h1 _ (by omega)).mpr x), fun hw => ?_, fun hw hd => ?_, fun hw hd => ?_⟩
  · obtain ⟨a, b, c, d⟩ := R.n hw
    exact ⟨(h1 _ (by omega)).mp a, fun x => b ((h2 _ (by omega)).mpr x), fun x => c fun y => x ((h2 _ (by omega)).mp y), fun x => d ((h1 _ (by omega)).mpr x)⟩
  · obtain ⟨a, b⟩ := R.d hw hd
    exact ⟨(h1 _ (by omega)).mp a, fun x => b ((h1 _ (by omega)).mpr x)⟩
  · obtain ⟨a, b⟩ := R.u hw hd
    exact ⟨(h2 _ (by omega)).mp a, fun x => b ((h2 _ (by omega)).mpr x)⟩
theorem sq_le_iff {a b : Rat} (ha : 0 ≤ a) (hb : 0 ≤ b) : a * a ≤ b * b ↔ a ≤ b := by
  constructor
  · intro h
    rcases (Rat.le_total : a ≤ b ∨ b ≤ a) with h1 | h1
    · exact h1
    · rcases Classical.em (b = a) with e | e
      · rw [e]
        exact Rat.le_refl
      · have := sq_mono' hb (show b < a by grind)
        grind
  · exact sq_mono ha
theorem sq_lt_iff {a b : Rat} (ha : 0 ≤ a) (hb : 0 ≤ b) : a * a < b * b ↔ a < b := by rw [← Rat.not_le, ← Rat.not_le, sq_le_iff hb ha]
theorem sqrt_Rd (w : Way) (s : Int) {M e : Int} {p k : Nat} (hM : 0 < M) (hp : 1 ≤ p) (hN : (2 : Int) ^ p ≤ isqF (M * 2 ^ (k + k))) :
    (M * 2 ^ (k + k) - isqF (M * 2 ^ (k + k)) * isqF (M * 2 ^ (k + k)) = 0 → ∃ q h, rnd w p s (isqF (M * 2 ^ (k + k))) (e - k) = enc s q (h + 1) ∧ Rd w s p (sle M e) (slt M e) q h) ∧
    (M * 2 ^ (k + k) - isqF (M * 2 ^ (k + k)) * isqF (M * 2 ^ (k + k)) ≠ 0 → ∃ q h, rnd w p s (isqF (M * 2 ^ (k + k)) * 2 + 1) (e - (k + 1)) = enc s q (h + 1) ∧ Rd w s p (sle M e) (slt M e) q h) := by
  have hpp := p2pos p
  have hpos := Int.mul_nonneg (Int.le_of_lt hM) (Int.le_of_lt (p2pos (k + k)))
  obtain ⟨d1, d2, d3⟩ := isqF_spec hpos
  have up : (M : Rat) * pw (e + e) = ((M * 2 ^ (k + k) : Int) : Rat) * pw ((e - k) + (e - k)) := by
    have := pw_up M ((e - k) + (e - k)) (k + k)
    rwa [show (e - (k : Int)) + (e - k) + ((k + k : Nat) : Int) = e + e by omega] at this
  have sq : ∀ B : Int, (B : Rat) * pw (e - k) * ((B : Rat) * pw (e - k)) = ((B * B : Int) : Rat) * pw ((e - k) + (e - k)) := fun B => by rw [pw_add, Rat.intCast_mul]; grind
  generalize isqF (M * 2 ^ (k + k)) = N at *
  refine ⟨fun h0 => ?_, fun h0 => ?_⟩
  · obtain ⟨q, h, e1, R⟩ := rnd_Rd w s (M := N) (e := e - k) (p := p) (by omega) hp
    have eN : M * 2 ^ (k + k) = N * N := by omega
    have nn : (0 : Rat) ≤ (N : Rat) * pw (e - k) := scale_nn (by omega)
    refine ⟨q, h, e1, R.congr0 (fun B hB => ?_) (fun B hB => ?_)⟩
    · unfold sle
      rw [up, eN, ← sq, sq_le_iff (scale_nn hB) nn]
    · unfold slt
      rw [up, eN, ← sq, sq_lt_iff (scale_nn hB) nn]
  · obtain ⟨q, h, e1, R⟩ := rnd_Rd w s (M := N * 2 + 1) (e := e - (k + 1)) (p := p) (by omega) hp
    refine ⟨q, h, e1, sticky w s (N := N) (e := e - k) hN (fun r x => Rat.le_of_lt x) (fun B hB0 hB => ?_) (fun B hB => ?_) ?_⟩
    · unfold slt
      rw [up, sq, pw_lt_iff, Rat.intCast_lt_intCast]
      have := Int.mul_le_mul hB hB hB0 (by omega)
      omega
    · unfold sle
      rw [up, sq, pw_le_iff, Rat.intCast_le_intCast]
      have := Int.mul_le_mul (show N + 1 ≤ B by omega) (show N + 1 ≤ B by omega) (by omega) (by omega)
      omega
    · rw [show e - (k : Int) - 1 = e - (k + 1) by omega, show 2 * N + 1 = N * 2 + 1 by omega]
      exact R
end
section
theorem rd_near (s : Int) {M q δ : Int} {k : Nat} (hk : 1 ≤ k) (hM : M = 2 ^ k * q + δ) (h : (-(2 ^ k) < 2 * δ ∧ 2 * δ < 2 ^ k) ∨ ((-(2 ^ k) ≤ 2 * δ ∧ 2 * δ ≤ 2 ^ k) ∧ q % 2 = 0)) : rdF .n s M k = q := by
  have hp := p2pos k
  have hev : (2 : Int) ^ k % 2 = 0 := by
    obtain ⟨j, rfl⟩ : ∃ j, k = j + 1 := ⟨k - 1, by omega⟩
    rw [Int.pow_succ]; omega
  unfold rdF
  simp only
  by_cases h0 : 0 ≤ δ
  · have e := div_eq (M := M) (q := q) (r := δ) (k := k) hM h0 (by omega)
    rw [e.1, e.2, if_pos (by omega)]
  · have e := div_eq (M := M) (q := q - 1) (r := 2 ^ k + δ) (k := k) (by rw [hM]; grind) (by omega) (by omega)
    rw [e.1, e.2, if_neg (by omega)]
    omega
theorem kahan_int (sg : Int) {a q e : Int} {p g s : Nat} (hg : 1 ≤ g) (hgp : g ≤ p) (ha : 0 < a) (hap : a < 2 ^ (p - 1)) (hp : 1 ≤ p) (lo : (2 : Int) ^ (p - 1) ≤ q) (hi : q ≤ 2 ^ p)
    (h1 : (2 * q - 1) * (2 ^ g + 1) ≤ a * 2 ^ (s + 1)) (h2 : a * 2 ^ (s + 1) ≤ (2 * q + 1) * (2 ^ g + 1)) (h3 : 2 ^ p * (2 ^ g + 1) ≤ a * 2 ^ (s + 1)) :
    rnd .n p sg (q * (2 ^ g + 1)) e = enc sg a (e + s) := by
  have hpp : (2 : Int) ^ p = 2 * 2 ^ (p - 1) := by
    obtain ⟨p', rfl⟩ : ∃ p', p = p' + 1 := ⟨p - 1, by omega⟩
    rw [Int.pow_succ, Nat.add_sub_cancel, Int.mul_comm]
  have hg2 : (2 : Int) ^ g = 2 * 2 ^ (g - 1) := by
    obtain ⟨g', rfl⟩ : ∃ g', g = g' + 1 := ⟨g - 1, by omega⟩
    rw [Int.pow_succ, Nat.add_sub_cancel, Int.mul_comm]
  have hs2 : (2 : Int) ^ (s + 1) = 2 * 2 ^ s := by rw [Int.pow_succ, Int.mul_comm]
  have P := p2pos (p - 1)
  have G := p2pos (g - 1)
  have S := p2pos s
  -- s > g
  have hsg : g < s := by
    apply pow_lt
    rcases Int.lt_or_le ((2 : Int) ^ g) (2 ^ s) with h | h
    · exact h
    · exfalso
      have h4 : a * 2 ^ s ≤ a * 2 ^ g := Int.mul_le_mul_of_nonneg_left h (Int.le_of_lt ha)
      have h5 : a * 2 ^ g ≤ 2 ^ (p - 1) * 2 ^ g := Int.mul_le_mul_of_nonneg_right (Int.le_of_lt hap) (by omega)
      rw [hs2, hpp] at h3
      have e1 : 2 * 2 ^ (p - 1) * ((2 : Int) ^ g + 1) = 2 * (2 ^ (p - 1) * 2 ^ g) + 2 * 2 ^ (p - 1) := by grind
      have e2 : a * (2 * (2 : Int) ^ s) = 2 * (a * 2 ^ s) := by grind
      omega
  obtain ⟨t, rfl⟩ : ∃ t, s = g + 1 + t := ⟨s - g - 1, by omega⟩
  have eA : a * (2 : Int) ^ (g + 1 + t) = 2 ^ (g + 1) * (a * 2 ^ t) := by rw [Int.pow_add]; grind
  have eA2 : (2 : Int) ^ (g + 1) = 2 * 2 ^ g := by rw [Int.pow_succ, Int.mul_comm]
  -- the distance
  have hd : -(2 ^ g) ≤ 2 * (q * (2 ^ g + 1) - a * 2 ^ (g + 1 + t)) ∧ 2 * (q * (2 ^ g + 1) - a * 2 ^ (g + 1 + t)) ≤ 2 ^ g := by
    rw [hs2] at h1 h2
    have e2 : a * (2 * (2 : Int) ^ (g + 1 + t)) = 2 * (a * 2 ^ (g + 1 + t)) := by grind
    have e3 : (2 * q - 1) * ((2 : Int) ^ g + 1) = 2 * (q * (2 ^ g + 1)) - 2 ^ g - 1 := by grind
    have e4 : (2 * q + 1) * ((2 : Int) ^ g + 1) = 2 * (q * (2 ^ g + 1)) + 2 ^ g + 1 := by grind
    omega
  have hMlo : (2 : Int) ^ (p + g - 1) ≤ q * (2 ^ g + 1) := by
    rw [show p + g - 1 = (p - 1) + g by omega, Int.pow_add]
    exact Int.mul_le_mul lo (by omega) (by omega) (by omega)
  have hMhi : q * ((2 : Int) ^ g + 1) ≤ 2 ^ (p + g) + 2 ^ p := by
    have := Int.mul_le_mul_of_nonneg_right hi (show (0 : Int) ≤ 2 ^ g + 1 by omega)
    rw [Int.pow_add]
    have e1 : (2 : Int) ^ p * (2 ^ g + 1) = 2 ^ p * 2 ^ g + 2 ^ p := by grind
    omega
  have hM0 : 0 < q * ((2 : Int) ^ g + 1) := Int.lt_of_lt_of_le (p2pos _) hMlo
  have fin : ∀ (k : Nat) (x : Int), 1 ≤ k → Builtin.Int.intBits (q * (2 ^ g + 1)) = p + k → rdF .n sg (q * (2 ^ g + 1)) k = x → a * 2 ^ (g + 1 + t) = 2 ^ k * x → rnd .n p sg (q * (2 ^ g + 1)) e = enc sg a (e + ((g + 1 + t : Nat) : Int)) := by
    intro k x hk hb hr hx
    rw [rnd, normF_high .n hM0 hp hb hk, hr, ← enc_shl, ← hx, Int.mul_comm a, enc_shl]
  by_cases hc : q * ((2 : Int) ^ g + 1) < 2 ^ (p + g)
  · refine fin g (2 * (a * 2 ^ t)) hg ?_ (rd_near sg (δ := q * (2 ^ g + 1) - a * 2 ^ (g + 1 + t)) hg ?_ (.inr ⟨⟨by omega, by omega⟩, by omega⟩)) ?_
    · have := bits_eq (k := p + g - 1) hMlo (by rw [show p + g - 1 + 1 = p + g by omega]; exact hc)
      omega
    · rw [eA, eA2]; grind
    · rw [eA, eA2]; grind
  · refine fin (g + 1) (a * 2 ^ t) (by omega) ?_ (rd_near sg (δ := q * (2 ^ g + 1) - a * 2 ^ (g + 1 + t)) (by omega) ?_ (.inl ⟨by omega, by omega⟩)) ?_
    · have hle : (2 : Int) ^ p ≤ 2 ^ (p + g - 1) := pow_le (by omega)
      have hdd : (2 : Int) ^ (p + g) = 2 * 2 ^ (p + g - 1) := by
        rw [show p + g = (p + g - 1) + 1 by omega, Int.pow_succ, Nat.add_sub_cancel, Int.mul_comm]
      have hdd2 : (2 : Int) ^ (p + g + 1) = 2 * 2 ^ (p + g) := by rw [Int.pow_succ, Int.mul_comm]
      have := p2pos (p + g - 1)
      have := bits_eq (k := p + g) (M := q * (2 ^ g + 1)) (by omega) (by omega)
      omega
    · rw [eA]; grind
    · exact eA
end
section
theorem sq_lt_of {x y : Int} (hy : 0 ≤ y) (h : x * x < y * y) : x < y := by
  rcases Int.lt_or_le x y with h1 | h1
  · exact h1
  · have := Int.mul_le_mul h1 h1 hy (by omega)
    omega
theorem root_near {X Y r : Int} (hX : 1 ≤ X) (hr : 1 ≤ r) (hd1 : X * X - (X - 1) ≤ Y) (hd2 : Y ≤ X * X + (X - 1)) (h1 : (2 * r - 1) * (2 * r - 1) ≤ 4 * Y) (h2 : 4 * Y ≤ (2 * r + 1) * (2 * r + 1)) : r = X := by
  have a := sq_lt_of (x := 2 * r - 1) (y := 2 * X + 1) (by omega) (by
    have : (2 * X + 1) * (2 * X + 1) = 4 * (X * X) + 4 * X + 1 := by grind
    omega)
  have b := sq_lt_of (x := 2 * X - 1) (y := 2 * r + 1) (by omega) (by
    have : (2 * X - 1) * (2 * X - 1) = 4 * (X * X) - 4 * X + 1 := by grind
    omega)
  omega
theorem root_up {X Y r : Int} (hX : 1 ≤ X) (hr : 1 ≤ r) (hd1 : X * X - (2 * X - 2) ≤ Y) (hd2 : Y ≤ X * X) (h1 : (r - 1) * (r - 1) < Y) (h2 : Y ≤ r * r) : r = X := by
  have a := sq_lt_of (x := r - 1) (y := X) (by omega) (by omega)
  have b := sq_lt_of (x := X - 1) (y := r) (by omega) (by
    have : (X - 1) * (X - 1) = X * X - 2 * X + 1 := by grind
    omega)
  omega
theorem root_dn {X Y r : Int} (hX : 1 ≤ X) (hr : 1 ≤ r) (hd1 : X * X ≤ Y) (hd2 : Y ≤ X * X + (2 * X - 2)) (h1 : r * r ≤ Y) (h2 : Y < (r + 1) * (r + 1)) : r = X := by
  have a := sq_lt_of (x := X) (y := r + 1) (by omega) (by omega)
  have b := sq_lt_of (x := r) (y := X + 1) (by omega) (by
    have : (X + 1) * (X + 1) = X * X + 2 * X + 1 := by grind
    omega)
  omega
end
section
theorem rnd_unique {w : Way} {s : Int} {p : Nat} {M e : Int} {le lt : Rat → Prop} {q h : Int} (C : Cut le lt) (hM : 0 < M) (hp : 1 ≤ p) (h1 : ∀ B h : Int, 0 ≤ B → ((B : Rat) * pw h ≤ (M : Rat) * pw e ↔ le ((B : Rat) * pw h))) (h2 : ∀ B h : Int, 0 ≤ B → ((B : Rat) * pw h < (M : Rat) * pw e ↔ lt ((B : Rat) * pw h))) (R : Rd w s p le lt q h) : rnd w p s M e = enc s q (h + 1) := by
  obtain ⟨q', h', e1, R'⟩ := rnd_Rd w s (M := M) (e := e) (p := p) hM hp
  have R2 := R'.congr0 (fun B hB => h1 B h' hB) (fun B hB => h2 B h' hB)
  obtain ⟨a, b⟩ := R2.uniq C hp R
  rw [e1, a, b]
theorem rnd_shl (w : Way) (s : Int) {M e : Int} {p : Nat} (j : Nat) (hM : 0 < M) (hp : 1 ≤ p) : rnd w p s (2 ^ j * M) e = rnd w p s M (e + j) := by
  obtain ⟨q, h, e1, R⟩ := rnd_Rd w s (M := M) (e := e + j) (p := p) hM hp
  rw [e1]
  have e2 : ((2 ^ j * M : Int) : Rat) * pw e = (M : Rat) * pw (e + j) := by
    rw [pw_up, Int.mul_comm]
  exact rnd_unique (cut_rat _) (Int.mul_pos (p2pos j) hM) hp (fun B h _ => by rw [e2]) (fun B h _ => by rw [e2]) R
end
section
def val (d : Mp) : Rat := (sM d : Rat) * pw d.exp
theorem vN_val (d : Mp) : (vN d : Rat) = val d * (vD d : Rat) := by
  unfold vN vD val
  split
  · rename_i h
    have h1 := pw_nat (-d.exp).toNat
    rw [Int.toNat_of_nonneg (by omega)] at h1
    rw [Int.one_mul, ← h1]
    have h2 : pw d.exp * pw (-d.exp) = 1 := by rw [← pw_add, show d.exp + -d.exp = 0 by omega, pw_zero]
    grind
  · rename_i h
    have h1 := pw_nat d.exp.toNat
    rw [Int.toNat_of_nonneg (by omega)] at h1
    rw [Rat.intCast_mul, ← h1]
    have : ((1 : Int) : Rat) = 1 := rfl
    rw [this]
    grind
theorem sgn_enc {s M e : Int} (h : M ≠ 0) : sM (enc s M e) = if s = 0 then odF M else -odF M := by
  unfold sM enc
  rw [if_neg h]
theorem val_enc {s M e : Int} (hM : 0 ≤ M) : val (enc s M e) = (if s = 0 then (M : Rat) else -(M : Rat)) * pw e := by
  by_cases h : M = 0
  · subst h
    have : enc s 0 e = Mp.zero := by unfold enc; rw [if_pos rfl]
    rw [this]
    have e1 : val Mp.zero = 0 := by
      unfold val sM Mp.zero
      simp
    rw [e1]
    have e2 : ((0 : Int) : Rat) = 0 := rfl
    rw [e2]
    split <;> grind
  · obtain ⟨a1, a2, a3, a4, a5⟩ := od_facts (show 0 < M by omega)
    have tz := tz_nonneg M
    have hexp : (enc s M e).exp = e + tzF M := by unfold enc; rw [if_neg h]
    unfold val
    rw [sgn_enc h, hexp]
    have up := pw_up (odF M) e (tzF M).toNat
    rw [Int.toNat_of_nonneg tz] at up
    have e3 : odF M * 2 ^ (tzF M).toNat = M := by rw [Int.mul_comm]; exact a5.symm
    rw [e3] at up
    split
    · exact up
    · rw [Rat.intCast_neg]
      grind
end
section
theorem two_q (q h : Int) : (q : Rat) * pw (h + 1) = ((2 * q : Int) : Rat) * pw h := by
  rw [pw_succ, Rat.intCast_mul]
  have : ((2 : Int) : Rat) = 2 := rfl
  rw [this]
  grind
theorem near_facts {s : Int} {p : Nat} {V : Rat} {q h : Int} (hp : 1 ≤ p) (R : Rd .n s p (fun r => r ≤ V) (fun r => r < V) q h) :
    (q : Rat) * pw (h + 1) - V ≤ pw h ∧ V - (q : Rat) * pw (h + 1) ≤ pw h ∧ ((2 ^ p : Int) : Rat) * pw h ≤ V ∧ ((2 ^ p : Int) : Rat) * pw h ≤ (q : Rat) * pw (h + 1) := by
  obtain ⟨a, b, c, d⟩ := R.n rfl
  have b1 := R.b1
  have lo := R.lo
  rw [two_q]
  have e1 : ((2 * q - 1 : Int) : Rat) = ((2 * q : Int) : Rat) - 1 := by rw [Rat.intCast_sub]; rfl
  have e2 : ((2 * q + 1 : Int) : Rat) = ((2 * q : Int) : Rat) + 1 := by rw [Rat.intCast_add]; rfl
  rw [e1] at a
  rw [e2] at b
  have b' := Rat.not_lt.mp b
  have hpp : (2 : Int) ^ p = 2 * 2 ^ (p - 1) := by
    obtain ⟨p', rfl⟩ : ∃ p', p = p' + 1 := ⟨p - 1, by omega⟩
    rw [Int.pow_succ, Nat.add_sub_cancel, Int.mul_comm]
  refine ⟨by grind, by grind, b1, ?_⟩
  rw [pw_le_iff, Rat.intCast_le_intCast]
  omega
theorem any_facts {w : Way} {s : Int} {p : Nat} {V : Rat} {q h : Int} (R : Rd w s p (fun r => r ≤ V) (fun r => r < V) q h) :
    (q : Rat) * pw (h + 1) - V ≤ 2 * pw h ∧ V - (q : Rat) * pw (h + 1) ≤ 2 * pw h ∧ ((2 ^ p : Int) : Rat) * pw h ≤ V := by
  have b1 := R.b1
  have P := pw_pos h
  rw [two_q]
  have e1 : ((2 * q - 1 : Int) : Rat) = ((2 * q : Int) : Rat) - 1 := by rw [Rat.intCast_sub]; rfl
  have e2 : ((2 * q + 1 : Int) : Rat) = ((2 * q : Int) : Rat) + 1 := by rw [Rat.intCast_add]; rfl
  have e3 : ((2 * q - 2 : Int) : Rat) = ((2 * q : Int) : Rat) - 2 := by rw [Rat.intCast_sub]; rfl
  have e4 : ((2 * q + 2 : Int) : Rat) = ((2 * q : Int) : Rat) + 2 := by rw [Rat.intCast_add]; rfl
  by_cases hw : w = .n
  · obtain ⟨a, b, _, _⟩ := R.n hw
    rw [e1] at a
    rw [e2] at b
    have b' := Rat.not_lt.mp b
    exact ⟨by grind, by grind, b1⟩
  · cases hd : wayDn w s with
    | true =>
      obtain ⟨a, b⟩ := R.d hw hd
      rw [e4] at b
      have b' := Rat.not_le.mp b
      exact ⟨by grind, by grind, b1⟩
    | false =>
      obtain ⟨a, b⟩ := R.u hw hd
      rw [e3] at a
      have b' := Rat.not_lt.mp b
      exact ⟨by grind, by grind, b1⟩
end
section
theorem sle_int (Y g B : Int) : sle Y g ((B : Rat) * pw (g - 1)) ↔ B * B ≤ 4 * Y := by
  unfold sle
  have e1 : (B : Rat) * pw (g - 1) * ((B : Rat) * pw (g - 1)) = ((B * B : Int) : Rat) * pw ((g - 1) + (g - 1)) := by rw [pw_add, Rat.intCast_mul]; grind
  have e2 := pw_up Y ((g - 1) + (g - 1)) 2
  rw [show (g - 1) + (g - 1) + ((2 : Nat) : Int) = g + g by omega] at e2
  rw [e1, e2, pw_le_iff, Rat.intCast_le_intCast, Int.mul_comm Y]
  exact Iff.rfl
theorem slt_int (Y g B : Int) : slt Y g ((B : Rat) * pw (g - 1)) ↔ B * B < 4 * Y := by
  unfold slt
  have e1 : (B : Rat) * pw (g - 1) * ((B : Rat) * pw (g - 1)) = ((B * B : Int) : Rat) * pw ((g - 1) + (g - 1)) := by rw [pw_add, Rat.intCast_mul]; grind
  have e2 := pw_up Y ((g - 1) + (g - 1)) 2
  rw [show (g - 1) + (g - 1) + ((2 : Nat) : Int) = g + g by omega] at e2
  rw [e1, e2, pw_lt_iff, Rat.intCast_lt_intCast, Int.mul_comm Y]
  exact Iff.rfl
theorem binade {w : Way} {s : Int} {p : Nat} {M e q h : Int} {b : Nat} (R : Rd w s p (fun r => r ≤ (M : Rat) * pw e) (fun r => r < (M : Rat) * pw e) q h) (lo : (2 : Int) ^ (p + b) ≤ M) (hi : M < 2 ^ (p + b + 1)) : h = e + b := by
  have b1 := R.b1
  have b2 := R.b2
  have hp := p2pos p
  have hb := p2pos b
  rcases Int.lt_trichotomy h (e + b) with h1 | h1 | h1
  · exfalso
    apply b2
    have m := pw_mono (show h + 1 ≤ e + b by omega)
    rw [pw_succ] at m
    have e1 : ((2 ^ (p + 1) : Int) : Rat) * pw h = ((2 ^ p : Int) : Rat) * (2 * pw h) := by
      rw [Int.pow_succ, Rat.intCast_mul]
      have : ((2 : Int) : Rat) = 2 := rfl
      rw [this]; grind
    have e2 := (cmp_le (2 ^ p) M e b).mpr (by rw [← Int.pow_add]; exact lo)
    have e3 := Rat.mul_le_mul_of_nonneg_left m (show (0 : Rat) ≤ ((2 ^ p : Int) : Rat) by exact_mod_cast Int.le_of_lt hp)
    grind
  · exact h1
  · exfalso
    have m := pw_mono (show e + b + 1 ≤ h by omega)
    have e2 : ¬ ((2 ^ p : Int) : Rat) * pw (e + ((b + 1 : Nat) : Int)) ≤ (M : Rat) * pw e := by
      rw [cmp_le, ← Int.pow_add, show p + (b + 1) = p + b + 1 by omega]
      omega
    rw [show e + ((b + 1 : Nat) : Int) = e + b + 1 by omega] at e2
    have e3 := Rat.mul_le_mul_of_nonneg_left m (show (0 : Rat) ≤ ((2 ^ p : Int) : Rat) by exact_mod_cast Int.le_of_lt hp)
    grind
end
section
def Match (w : Way) (s : Int) (v : Way) : Prop := (w = .n ∧ v = .n) ∨ (w ≠ .n ∧ v ≠ .n ∧ wayDn w s = !wayDn v 0)
theorem pw2 (p : Nat) (hp : 1 ≤ p) : (2 : Int) ^ p = 2 * 2 ^ (p - 1) := by
  obtain ⟨p', rfl⟩ : ∃ p', p = p' + 1 := ⟨p - 1, by omega⟩
  rw [Int.pow_succ, Nat.add_sub_cancel, Int.mul_comm]
theorem square_int {w : Way} {s : Int} {p : Nat} {X g q h : Int} (hp : 2 ≤ p) (lo : (2 : Int) ^ (p - 1) ≤ X) (hi : X < 2 ^ p)
    (R : Rd w s p (fun r => r ≤ ((X * X : Int) : Rat) * pw (g + g)) (fun r => r < ((X * X : Int) : Rat) * pw (g + g)) q h) :
    ∃ j : Nat, h = g + g + j ∧ 2 ^ (j + 1) ≤ 2 * X - 2 ∧ p ≤ j + 2 ∧
      (w = .n → X * X - 2 ^ j ≤ q * 2 ^ (j + 1) ∧ q * 2 ^ (j + 1) ≤ X * X + 2 ^ j) ∧
      (w ≠ .n → wayDn w s = true → q * 2 ^ (j + 1) ≤ X * X ∧ X * X < q * 2 ^ (j + 1) + 2 ^ (j + 1)) ∧
      (w ≠ .n → wayDn w s = false → X * X ≤ q * 2 ^ (j + 1) ∧ q * 2 ^ (j + 1) < X * X + 2 ^ (j + 1)) := by
  have P1 := pw2 p (by omega)
  have P2 := pw2 (p - 1) (by omega)
  rw [show p - 1 - 1 = p - 2 by omega] at P2
  have P0 := p2pos (p - 2)
  have hXX : (2 : Int) ^ (p + (p - 2)) ≤ X * X := by
    have := Int.mul_le_mul lo lo (by omega) (by omega)
    rw [← Int.pow_add, show p - 1 + (p - 1) = p + (p - 2) by omega] at this
    exact this
  have hXX2 : X * X < (2 : Int) ^ (p + (p - 1) + 1) := by
    have := Int.mul_lt_mul hi (Int.le_of_lt hi) (by omega) (by omega)
    rw [← Int.pow_add, show p + p = p + (p - 1) + 1 by omega] at this
    exact this
  have fin : ∀ j : Nat, h = g + g + j → 2 ^ (j + 1) ≤ 2 * X - 2 → p ≤ j + 2 → _ := fun j hj hu hpj => (⟨j, hj, hu, hpj, by
    intro hw
    obtain ⟨a, b, _, _⟩ := R.n hw
    rw [hj, cmp_le] at a
    rw [hj, cmp_lt] at b
    have e1 : (2 * q - 1) * (2 : Int) ^ j = q * 2 ^ (j + 1) - 2 ^ j := by rw [Int.pow_succ]; grind
    have e2 : (2 * q + 1) * (2 : Int) ^ j = q * 2 ^ (j + 1) + 2 ^ j := by rw [Int.pow_succ]; grind
    omega, by
    intro hw hd
    obtain ⟨a, b⟩ := R.d hw hd
    rw [hj, cmp_le] at a b
    have e1 : (2 * q) * (2 : Int) ^ j = q * 2 ^ (j + 1) := by rw [Int.pow_succ]; grind
    have e2 : (2 * q + 2) * (2 : Int) ^ j = q * 2 ^ (j + 1) + 2 ^ (j + 1) := by rw [Int.pow_succ]; grind
    omega, by
    intro hw hd
    obtain ⟨a, b⟩ := R.u hw hd
    rw [hj, cmp_lt] at a b
    have e1 : (2 * q) * (2 : Int) ^ j = q * 2 ^ (j + 1) := by rw [Int.pow_succ]; grind
    have e2 : (2 * q - 2) * (2 : Int) ^ j = q * 2 ^ (j + 1) - 2 ^ (j + 1) := by rw [Int.pow_succ]; grind
    omega⟩ : ∃ j : Nat, h = g + g + j ∧ 2 ^ (j + 1) ≤ 2 * X - 2 ∧ p ≤ j + 2 ∧
      (w = .n → X * X - 2 ^ j ≤ q * 2 ^ (j + 1) ∧ q * 2 ^ (j + 1) ≤ X * X + 2 ^ j) ∧
      (w ≠ .n → wayDn w s = true → q * 2 ^ (j + 1) ≤ X * X ∧ X * X < q * 2 ^ (j + 1) + 2 ^ (j + 1)) ∧
      (w ≠ .n → wayDn w s = false → X * X ≤ q * 2 ^ (j + 1) ∧ q * 2 ^ (j + 1) < X * X + 2 ^ (j + 1)))
  rcases Int.lt_or_le (X * X) (2 ^ (p + (p - 2) + 1)) with hc | hc
  · refine fin (p - 2) (binade R hXX hc) ?_ (by omega)
    rw [show p - 2 + 1 = p - 1 by omega]
    omega
  · have hb := binade R (b := p - 1) (by rw [show p + (p - 1) = p + (p - 2) + 1 by omega]; exact hc) hXX2
    refine fin (p - 1) hb ?_ (by omega)
    rw [show p - 1 + 1 = p by omega, P1]
    have : (2 : Int) ^ (p - 1) < X := by
      refine sq_lt_of (by omega) ?_
      rw [← Int.pow_add, show p - 1 + (p - 1) = p + (p - 2) by omega]
      have : (2 : Int) ^ (p + (p - 2) + 1) = 2 * 2 ^ (p + (p - 2)) := by rw [Int.pow_succ, Int.mul_comm]
      have := p2pos (p + (p - 2))
      omega
    omega
end
section
def av (d : Mp) : Rat := (d.man : Rat) * pw d.exp
def Rnd (w : Way) (s : Int) (p : Nat) (V : Rat) (d : Mp) : Prop := ∃ q h, d = enc s q (h + 1) ∧ Rd w s p (fun r => r ≤ V) (fun r => r < V) q h
def RndS (w : Way) (s : Int) (p : Nat) (Y : Rat) (d : Mp) : Prop := ∃ q h, d = enc s q (h + 1) ∧ Rd w s p (fun r => r * r ≤ Y) (fun r => r * r < Y) q h
theorem cut_root (Y : Rat) : Cut (fun r => r * r ≤ Y) (fun r => r * r < Y) := by
  refine ⟨fun r h => Rat.le_of_lt h, fun r r' h0 h h' => Rat.le_trans (sq_mono h0 h) h', fun r r' h0 h h' => ?_⟩
  have := sq_mono' h0 h
  grind
theorem Rnd.uniq {w : Way} {s : Int} {p : Nat} {V : Rat} {d d' : Mp} (hp : 1 ≤ p) (h : Rnd w s p V d) (h' : Rnd w s p V d') : d = d' := by
  obtain ⟨q, e, rfl, R⟩ := h
  obtain ⟨q', e', rfl, R'⟩ := h'
  obtain ⟨a, b⟩ := R.uniq (cut_rat V) hp R'
  rw [a, b]
theorem RndS.uniq {w : Way} {s : Int} {p : Nat} {V : Rat} {d d' : Mp} (hp : 1 ≤ p) (h : RndS w s p V d) (h' : RndS w s p V d') : d = d' := by
  obtain ⟨q, e, rfl, R⟩ := h
  obtain ⟨q', e', rfl, R'⟩ := h'
  obtain ⟨a, b⟩ := R.uniq (cut_root V) hp R'
  rw [a, b]
theorem rnd_of (w : Way) (s : Int) {M e : Int} {p : Nat} (hM : 0 < M) (hp : 1 ≤ p) : Rnd w s p ((M : Rat) * pw e) (rnd w p s M e) := rnd_Rd w s hM hp
theorem Rnd.exact (w : Way) (s : Int) {M e : Int} {p : Nat} (hM : 0 < M) (hp : 1 ≤ p) (hb : Builtin.Int.intBits M ≤ p) : Rnd w s p ((M : Rat) * pw e) (enc s M e) := by
  have h := rnd_of w s (e := e) hM hp
  rw [rnd, normF_low w hM hb] at h
  exact h
theorem pw_cancel {a b : Rat} {e : Int} (h : a * pw e = b * pw e) : a = b := by
  have h1 := (pw_le_iff (a := a) (b := b) e).mp (by rw [h]; exact Rat.le_refl)
  have h2 := (pw_le_iff (a := b) (b := a) e).mp (by rw [h]; exact Rat.le_refl)
  grind
theorem av_enc {s M e : Int} (hM : 0 ≤ M) : av (enc s M e) = (M : Rat) * pw e := by
  by_cases h : M = 0
  · subst h
    have : enc s 0 e = Mp.zero := by unfold enc; rw [if_pos rfl]
    rw [this]
    have e2 : ((0 : Int) : Rat) = 0 := rfl
    unfold av Mp.zero
    rw [e2]; grind
  · obtain ⟨a1, a2, a3, a4, a5⟩ := od_facts (show 0 < M by omega)
    have tz := tz_nonneg M
    unfold av enc
    rw [if_neg h]
    have up := pw_up (odF M) e (tzF M).toNat
    rw [Int.toNat_of_nonneg tz] at up
    have e3 : odF M * 2 ^ (tzF M).toNat = M := by rw [Int.mul_comm]; exact a5.symm
    rw [e3] at up
    exact up
theorem av_fme {m e : Int} : av (fme m e) = ((m.natAbs : Int) : Rat) * pw e := av_enc (by omega)
theorem av_nn {d : Mp} (h : 0 ≤ d.man) : 0 ≤ av d := Rat.mul_nonneg (by exact_mod_cast h) (Rat.le_of_lt (pw_pos _))
theorem av_pos {d : Mp} (h : 0 < d.man) : 0 < av d := Rat.mul_pos (by exact_mod_cast h) (pw_pos _)
theorem div_rnd {w : Way} {p : Nat} {x y : Mp} {V : Rat} (hp : 1 ≤ p) (hx : 0 < x.man) (hy : 0 < y.man) (hbx : x.bc = Builtin.Int.intBits x.man) (hby : y.bc = Builtin.Int.intBits y.man) (hV : V * av y = av x) : Rnd w (xor1 x.sign y.sign) p V (divF w p x y) := by
  have key : (x.man : Rat) * pw (x.exp - y.exp) = V * (y.man : Rat) := by
    refine pw_cancel (e := y.exp) ?_
    have h1 : (x.man : Rat) * pw (x.exp - y.exp) * pw y.exp = (x.man : Rat) * pw x.exp := by
      have : pw x.exp = pw (x.exp - y.exp) * pw y.exp := by rw [← pw_add]; congr 1; omega
      rw [this]; grind
    rw [h1]
    unfold av at hV
    rw [← hV]; grind
  have hy' := cpos hy
  unfold divF
  rw [if_neg (by omega)]
  split
  · rename_i h1
    have := rnd_of w (xor1 x.sign y.sign) (e := x.exp - y.exp) hx hp
    rw [key, h1] at this
    have e1 : V * ((1 : Int) : Rat) = V := by
      have : ((1 : Int) : Rat) = 1 := rfl
      rw [this]; grind
    rwa [e1] at this
  · have hE : 5 ≤ extraF p x.bc y.bc := by unfold extraF; split <;> omega
    have hE2 : p - x.bc + y.bc + 5 ≤ extraF p x.bc y.bc := by unfold extraF; split <;> omega
    generalize extraF p x.bc y.bc = E at *
    obtain ⟨k, rfl⟩ : ∃ k : Nat, E = k := ⟨E.toNat, by omega⟩
    rw [Int.toNat_natCast]
    have hN : (2 : Int) ^ p ≤ (x.man * 2 ^ k) / y.man := by
      have b1 := bits_lo hx
      have b2 := bits_hi hy
      have b3 := bits_pos hx
      refine (Int.le_ediv_iff_mul_le hy).mpr ?_
      have h1 : (2 : Int) ^ p * y.man ≤ 2 ^ (p + Builtin.Int.intBits y.man) := by
        rw [Int.pow_add]
        exact Int.mul_le_mul_of_nonneg_left (Int.le_of_lt b2) (Int.le_of_lt (p2pos p))
      have h2 : (2 : Int) ^ (Builtin.Int.intBits x.man - 1 + k) ≤ x.man * 2 ^ k := by
        rw [Int.pow_add]
        exact Int.mul_le_mul_of_nonneg_right b1 (Int.le_of_lt (p2pos k))
      have h3 : (2 : Int) ^ (p + Builtin.Int.intBits y.man) ≤ 2 ^ (Builtin.Int.intBits x.man - 1 + k) := pow_le (by omega)
      omega
    have cv : ∀ {s q h}, Rd w s p (qle x.man y.man (x.exp - y.exp)) (qlt x.man y.man (x.exp - y.exp)) q h → Rd w s p (fun r => r ≤ V) (fun r => r < V) q h := fun R => R.congr (fun r => by unfold qle; rw [key, mul_le_iff hy']) (fun r => by unfold qlt; rw [key, mul_lt_iff hy'])
    obtain ⟨d1, d2⟩ := div_Rd w (xor1 x.sign y.sign) (a := x.man) (e := x.exp - y.exp) hy hp hN
    rw [Int.fmod_eq_emod_of_nonneg _ (Int.le_of_lt hy), Int.fdiv_eq_ediv_of_nonneg _ (Int.le_of_lt hy)]
    have e2 : (2 : Int) ^ (1 : Int).toNat = 2 := rfl
    rw [e2]
    split
    · rename_i h0
      obtain ⟨q, h, e, R⟩ := d1 h0
      exact ⟨q, h, e, cv R⟩
    · rename_i h0
      obtain ⟨q, h, e, R⟩ := d2 h0
      exact ⟨q, h, e, cv R⟩
theorem mul_rnd {w : Way} {p : Nat} {x y : Mp} (hp : 1 ≤ p) (hx : 0 < x.man) (hy : 0 < y.man) : Rnd w (xor1 x.sign y.sign) p (av x * av y) (mulF w p x y) := by
  have := rnd_of w (xor1 x.sign y.sign) (e := x.exp + y.exp) (Int.mul_pos hx hy) hp
  have e : ((x.man * y.man : Int) : Rat) * pw (x.exp + y.exp) = av x * av y := by unfold av; rw [pw_add, Rat.intCast_mul]; grind
  rw [e] at this
  exact this
theorem mulI_rnd {w : Way} {p : Nat} {x : Mp} {n : Int} (hp : 1 ≤ p) (hx : 0 < x.man) (hn : n ≠ 0) : Rnd w (xor1 x.sign (sg n)) p (av x * ((n.natAbs : Int) : Rat)) (mulIF w p x n) := by
  have := rnd_of w (xor1 x.sign (sg n)) (e := x.exp) (Int.mul_pos hx (show (0 : Int) < n.natAbs by omega)) hp
  have e : ((x.man * (n.natAbs : Int) : Int) : Rat) * pw x.exp = av x * ((n.natAbs : Int) : Rat) := by unfold av; rw [Rat.intCast_mul]; grind
  rw [e] at this
  unfold mulIF
  rw [if_neg (by omega)]
  exact this
theorem Rd.scale {w : Way} {s : Int} {p : Nat} {V : Rat} {q h : Int} (k : Int) (R : Rd w s p (fun r => r ≤ V) (fun r => r < V) q h) : Rd w s p (fun r => r ≤ V * pw k) (fun r => r < V * pw k) q (h + k) := by
  have e1 : ∀ B : Int, (B : Rat) * pw (h + k) = (B : Rat) * pw h * pw k := fun B => by rw [pw_add]; grind
  have c1 : ∀ B : Int, (B : Rat) * pw (h + k) ≤ V * pw k ↔ (B : Rat) * pw h ≤ V := fun B => by rw [e1, pw_le_iff]
  have c2 : ∀ B : Int, (B : Rat) * pw (h + k) < V * pw k ↔ (B : Rat) * pw h < V := fun B => by rw [e1, pw_lt_iff]
  refine ⟨R.lo, R.hi, (c1 _).mpr R.b1, fun x => R.b2 ((c1 _).mp x), fun hw => ?_, fun hw hd => ?_, fun hw hd => ?_⟩
  · obtain ⟨a, b, c, d⟩ := R.n hw
    exact ⟨(c1 _).mpr a, fun x => b ((c2 _).mp x), fun x => c fun y => x ((c2 _).mpr y), fun x => d ((c1 _).mp x)⟩
  · obtain ⟨a, b⟩ := R.d hw hd
    exact ⟨(c1 _).mpr a, fun x => b ((c1 _).mp x)⟩
  · obtain ⟨a, b⟩ := R.u hw hd
    exact ⟨(c2 _).mpr a, fun x => b ((c2 _).mp x)⟩
theorem shift_enc {s M e k : Int} (hM : 0 ≤ M) : shiftF (enc s M e) k = enc s M (e + k) := by
  by_cases h : M = 0
  · subst h; simp [enc, shiftF, Mp.zero]
  · have h1 := enc_man_ne (s := s) (e := e) h
    unfold shiftF
    rw [if_neg h1]
    unfold enc
    rw [if_neg h, if_neg h]
    simp only [Mp.mk.injEq, true_and, and_true]
    omega
theorem Rnd.q_pos {w : Way} {s : Int} {p : Nat} {le lt : Rat → Prop} {q h : Int} (R : Rd w s p le lt q h) : 0 < q := by
  have := R.lo
  have := p2pos (p - 1)
  omega
theorem Rnd.shift {w : Way} {s : Int} {p : Nat} {V : Rat} {d : Mp} (k : Int) (h : Rnd w s p V d) : Rnd w s p (V * pw k) (shiftF d k) := by
  obtain ⟨q, e, rfl, R⟩ := h
  refine ⟨q, e + k, ?_, R.scale k⟩
  rw [shift_enc (Int.le_of_lt (Rnd.q_pos R))]
  congr 1
  omega
end
section
theorem rdiv_rnd {w : Way} {p : Nat} {n : Int} {y : Mp} {V : Rat} (hp : 1 ≤ p) (hn : n ≠ 0) (hy : 0 < y.man) (hby : y.bc = Builtin.Int.intBits y.man) (hV : V * av y = ((n.natAbs : Int) : Rat)) : Rnd w (xor1 y.sign (sg n)) p V (rdivF w p n y) := by
  have hn1 : (1 : Int) ≤ n.natAbs := by omega
  unfold rdivF
  rw [if_neg hn]
  generalize (n.natAbs : Int) = a at *
  have key : (a : Rat) * pw (-y.exp) = V * (y.man : Rat) := by
    refine pw_cancel (e := y.exp) ?_
    have h1 : (a : Rat) * pw (-y.exp) * pw y.exp = (a : Rat) := by
      have : pw (-y.exp) * pw y.exp = 1 := by rw [← pw_add, ← pw_zero]; congr 1; omega
      grind
    rw [h1, ← hV]
    unfold av
    grind
  have hy' := cpos hy
  have hb1 := bits_pos hy
  have hk : ∃ k : Nat, (p : Int) + y.bc + 5 = k := ⟨((p : Int) + y.bc + 5).toNat, by omega⟩
  obtain ⟨k, hk⟩ := hk
  rw [hk, Int.toNat_natCast]
  have hN : (2 : Int) ^ p ≤ (a * 2 ^ k) / y.man := by
    have b2 := bits_hi hy
    refine (Int.le_ediv_iff_mul_le hy).mpr ?_
    have h1 : (2 : Int) ^ p * y.man ≤ 2 ^ (p + Builtin.Int.intBits y.man) := by
      rw [Int.pow_add]
      exact Int.mul_le_mul_of_nonneg_left (Int.le_of_lt b2) (Int.le_of_lt (p2pos p))
    have h2 : 1 * (2 : Int) ^ k ≤ a * 2 ^ k := Int.mul_le_mul_of_nonneg_right hn1 (Int.le_of_lt (p2pos k))
    have h3 : (2 : Int) ^ (p + Builtin.Int.intBits y.man) ≤ 2 ^ k := pow_le (by omega)
    omega
  have cv : ∀ {s q h}, Rd w s p (qle a y.man (-y.exp)) (qlt a y.man (-y.exp)) q h → Rd w s p (fun r => r ≤ V) (fun r => r < V) q h := fun R => R.congr (fun r => by unfold qle; rw [key, mul_le_iff hy']) (fun r => by unfold qlt; rw [key, mul_lt_iff hy'])
  obtain ⟨d1, d2⟩ := div_Rd w (xor1 y.sign (sg n)) (a := a) (e := -y.exp) hy hp hN
  have e2 : (2 : Int) ^ (1 : Int).toNat = 2 := rfl
  rw [Int.fmod_eq_emod_of_nonneg _ (Int.le_of_lt hy), Int.fdiv_eq_ediv_of_nonneg _ (Int.le_of_lt hy), e2]
  split
  · rename_i h0
    obtain ⟨q, h, e, R⟩ := d1 h0
    exact ⟨q, h, e, cv R⟩
  · rename_i h0
    obtain ⟨q, h, e, R⟩ := d2 h0
    exact ⟨q, h, e, cv R⟩
theorem add_rnd {w : Way} {p : Nat} {x y : Mp} (hp : 1 ≤ p) (hx : 0 ≤ x.man) (hy : 0 < y.man) (hs : y.sign = 0) : Rnd w 0 p (av x + av y) (addF w p x y) := by
  unfold addF
  split
  · rename_i h
    have := rnd_of w 0 (e := y.exp) hy hp
    have e : av x + av y = (y.man : Rat) * pw y.exp := by
      unfold av
      rw [h]
      have : ((0 : Int) : Rat) = 0 := rfl
      rw [this]; grind
    rw [e, hs]
    exact this
  · have hx' : 0 < x.man := by omega
    split
    · rename_i h0
      have := rnd_of w 0 (e := y.exp) (show 0 < y.man + x.man by omega) hp
      have e : av x + av y = ((y.man + x.man : Int) : Rat) * pw y.exp := by
        unfold av
        rw [show x.exp = y.exp by omega, Rat.intCast_add]
        grind
      rw [e]
      exact this
    · split
      · rename_i h0 h1
        obtain ⟨j, hj⟩ : ∃ j : Nat, x.exp - y.exp = j := ⟨(x.exp - y.exp).toNat, by omega⟩
        rw [hj, Int.toNat_natCast]
        have hm := Int.mul_pos hx' (p2pos j)
        have := rnd_of w 0 (e := y.exp) (show 0 < y.man + x.man * 2 ^ j by omega) hp
        have e : av x + av y = ((y.man + x.man * 2 ^ j : Int) : Rat) * pw y.exp := by
          unfold av
          rw [show x.exp = y.exp + j by omega, pw_up, Rat.intCast_add]
          grind
        rw [e]
        exact this
      · rename_i h0 h1
        obtain ⟨j, hj⟩ : ∃ j : Nat, -(x.exp - y.exp) = j := ⟨(-(x.exp - y.exp)).toNat, by omega⟩
        rw [hj, Int.toNat_natCast]
        have hm := Int.mul_pos hy (p2pos j)
        have := rnd_of w 0 (e := x.exp) (show 0 < x.man + y.man * 2 ^ j by omega) hp
        have e : av x + av y = ((x.man + y.man * 2 ^ j : Int) : Rat) * pw x.exp := by
          unfold av
          rw [show y.exp = x.exp + j by omega, pw_up, Rat.intCast_add]
          grind
        rw [e]
        exact this
theorem Rd.mono {w : Way} {s : Int} {p : Nat} {le lt le' lt' : Rat → Prop} {q h q' h' : Int} (C' : Cut le' lt') (i1 : ∀ r, 0 ≤ r → le r → le' r) (i2 : ∀ r, 0 ≤ r → lt r → lt' r) (hp : 1 ≤ p) (R : Rd w s p le lt q h) (R' : Rd w s p le' lt' q' h') : (q : Rat) * pw (h + 1) ≤ (q' : Rat) * pw (h' + 1) := by
  have hs2 : (2 : Int) ^ (p + 1) = 2 * 2 ^ p := by rw [Int.pow_succ, Int.mul_comm]
  have hs1 := pw2 p hp
  have hpp := p2pos p
  have hpm := p2pos (p - 1)
  have lo1 := R.lo
  have lo2 := R'.lo
  have hi1 := R.hi
  have P' := pw_pos (h' + 1)
  rcases Int.lt_trichotomy h h' with hl | hl | hl
  · have m := pw_mono (show h + 1 ≤ h' by omega)
    have a1 : (q : Rat) * pw (h + 1) ≤ ((2 ^ p : Int) : Rat) * pw (h + 1) := (pw_le_iff _).mpr (by exact_mod_cast hi1)
    have a2 : ((2 ^ p : Int) : Rat) * pw (h + 1) ≤ ((2 ^ p : Int) : Rat) * pw h' := Rat.mul_le_mul_of_nonneg_left m (by exact_mod_cast Int.le_of_lt hpp)
    have a3 : ((2 ^ p : Int) : Rat) * pw h' = ((2 ^ (p - 1) : Int) : Rat) * pw (h' + 1) := by rw [two_q, hs1]
    have a4 : ((2 ^ (p - 1) : Int) : Rat) * pw (h' + 1) ≤ (q' : Rat) * pw (h' + 1) := (pw_le_iff _).mpr (by exact_mod_cast lo2)
    grind
  · subst hl
    rw [pw_le_iff, Rat.intCast_le_intCast]
    rcases Int.lt_or_le q' q with hl | hl
    · exfalso
      have le1 : ∀ {A B : Int}, 0 ≤ A → A ≤ B → le' ((B : Rat) * pw h) → le' ((A : Rat) * pw h) := fun ha hab hb => C'.mono _ _ (scale_nn ha) ((pw_le_iff h).mpr (by exact_mod_cast hab)) hb
      have lt1 : ∀ {A B : Int}, 0 ≤ A → A < B → le' ((B : Rat) * pw h) → lt' ((A : Rat) * pw h) := fun ha hab hb => C'.mono' _ _ (scale_nn ha) ((pw_lt_iff h).mpr (by exact_mod_cast hab)) hb
      by_cases hw : w = .n
      · obtain ⟨a, b, c, d⟩ := R.n hw
        obtain ⟨a', b', c', d'⟩ := R'.n hw
        have a2 := i1 _ (scale_nn (by omega)) a
        rcases (show 2 * q' + 1 < 2 * q - 1 ∨ 2 * q' + 1 = 2 * q - 1 by omega) with h1 | h1
        · exact b' (lt1 (by omega) h1 a2)
        · have e1 := d' (by rw [h1]; exact a2)
          have e2 := c (fun x => b' (by rw [h1]; exact i2 _ (scale_nn (by omega)) x))
          omega
      · cases hd : wayDn w s with
        | true =>
          obtain ⟨a, b⟩ := R.d hw hd
          obtain ⟨a', b'⟩ := R'.d hw hd
          exact b' (le1 (by omega) (by omega) (i1 _ (scale_nn (by omega)) a))
        | false =>
          obtain ⟨a, b⟩ := R.u hw hd
          obtain ⟨a', b'⟩ := R'.u hw hd
          have a2 := i2 _ (scale_nn (by omega)) a
          rcases (show 2 * q' < 2 * q - 2 ∨ 2 * q' = 2 * q - 2 by omega) with h1 | h1
          · exact b' (lt1 (by omega) h1 (C'.le_of_lt _ a2))
          · exact b' (by rw [h1]; exact a2)
    · exact hl
  · exfalso
    apply R'.b2
    refine C'.mono _ _ (scale_nn (by omega)) ?_ (i1 _ (scale_nn (by omega)) R.b1)
    have m := pw_mono (show h' + 1 ≤ h by omega)
    have a1 : ((2 ^ (p + 1) : Int) : Rat) * pw h' = ((2 ^ p : Int) : Rat) * pw (h' + 1) := by rw [two_q, hs2]
    rw [a1]
    exact Rat.mul_le_mul_of_nonneg_left m (by exact_mod_cast Int.le_of_lt hpp)
theorem Rnd.av_eq {w : Way} {s : Int} {p : Nat} {V : Rat} {d : Mp} (h : Rnd w s p V d) : ∃ q e, d = enc s q (e + 1) ∧ av d = (q : Rat) * pw (e + 1) ∧ Rd w s p (fun r => r ≤ V) (fun r => r < V) q e := by
  obtain ⟨q, e, rfl, R⟩ := h
  exact ⟨q, e, rfl, av_enc (Int.le_of_lt (Rnd.q_pos R)), R⟩
theorem RndS.av_eq {w : Way} {s : Int} {p : Nat} {V : Rat} {d : Mp} (h : RndS w s p V d) : ∃ q e, d = enc s q (e + 1) ∧ av d = (q : Rat) * pw (e + 1) ∧ Rd w s p (fun r => r * r ≤ V) (fun r => r * r < V) q e := by
  obtain ⟨q, e, rfl, R⟩ := h
  exact ⟨q, e, rfl, av_enc (Int.le_of_lt (Rnd.q_pos R)), R⟩
theorem Rnd.mono {w : Way} {s : Int} {p : Nat} {V V' : Rat} {d d' : Mp} (hp : 1 ≤ p) (hV : V ≤ V') (h : Rnd w s p V d) (h' : Rnd w s p V' d') : av d ≤ av d' := by
  obtain ⟨q, e, rfl, h1, R⟩ := h.av_eq
  obtain ⟨q', e', rfl, h1', R'⟩ := h'.av_eq
  rw [h1, h1']
  exact R.mono (cut_rat V') (fun r _ x => by grind) (fun r _ x => by grind) hp R'
theorem RndS.mono {w : Way} {s : Int} {p : Nat} {V V' : Rat} {d d' : Mp} (hp : 1 ≤ p) (hV : V ≤ V') (h : RndS w s p V d) (h' : RndS w s p V' d') : av d ≤ av d' := by
  obtain ⟨q, e, rfl, h1, R⟩ := h.av_eq
  obtain ⟨q', e', rfl, h1', R'⟩ := h'.av_eq
  rw [h1, h1']
  exact R.mono (cut_root V') (fun r _ x => by grind) (fun r _ x => by grind) hp R'
end
section
theorem root_cut (w : Way) {M f : Int} {p k : Nat} (hw : w ≠ .n) (hd : wayDn w 0 = true) (hM : 0 < M) (hp : 1 ≤ p) (hN : (2 : Int) ^ p ≤ isqF (M * 2 ^ (k + k))) :
    RndS w 0 p ((M : Rat) * pw (f + f)) (rnd w p 0 (isqF (M * 2 ^ (k + k))) (f - k)) := by
  have hpp := p2pos p
  have hpos := Int.mul_nonneg (Int.le_of_lt hM) (Int.le_of_lt (p2pos (k + k)))
  obtain ⟨d1, d2, d3⟩ := isqF_spec hpos
  have up : (M : Rat) * pw (f + f) = ((M * 2 ^ (k + k) : Int) : Rat) * pw ((f - k) + (f - k)) := by
    have := pw_up M ((f - k) + (f - k)) (k + k)
    rwa [show (f - (k : Int)) + (f - k) + ((k + k : Nat) : Int) = f + f by omega] at this
  have sq : ∀ B : Int, (B : Rat) * pw (f - k) * ((B : Rat) * pw (f - k)) = ((B * B : Int) : Rat) * pw ((f - k) + (f - k)) := fun B => by rw [pw_add, Rat.intCast_mul]; grind
  rw [up]
  generalize isqF (M * 2 ^ (k + k)) = N at *
  generalize M * 2 ^ (k + k) = Z at *
  obtain ⟨q, h, e1, R⟩ := rnd_Rd w 0 (M := N) (e := f - k) (p := p) (by omega) hp
  have hh : f - k ≤ h := by
    rcases Int.lt_or_le h (f - k) with hl | hl
    · exfalso
      apply R.b2
      obtain ⟨j, hj⟩ : ∃ j : Nat, f - k = h + ((j + 1 : Nat) : Int) := ⟨(f - k - h - 1).toNat, by omega⟩
      rw [hj, pw_up, pw_le_iff, Rat.intCast_le_intCast, Int.pow_succ, Int.pow_succ]
      have := p2pos j
      have h3 : 2 ^ p * 2 * 1 ≤ N * 2 * 2 ^ j := Int.mul_le_mul (by omega) (by omega) (by omega) (by omega)
      have h4 : N * (2 ^ j * 2) = N * 2 * 2 ^ j := by grind
      omega
    · exact hl
  obtain ⟨j, rfl⟩ : ∃ j : Nat, h = f - k + (j : Int) := ⟨(h - (f - k)).toNat, by omega⟩
  have key : ∀ B : Int, 0 ≤ B → ((B : Rat) * pw (f - k + j) ≤ (N : Rat) * pw (f - k) ↔ (B : Rat) * pw (f - k + j) * ((B : Rat) * pw (f - k + j)) ≤ (Z : Rat) * pw (f - k + (f - k))) := by
    intro B hB
    rw [cmp_le, pw_up, sq, pw_le_iff, Rat.intCast_le_intCast]
    have hX := Int.mul_nonneg hB (Int.le_of_lt (p2pos j))
    generalize B * 2 ^ j = X at *
    constructor
    · intro h
      have := Int.mul_le_mul h h hX d1
      omega
    · intro h
      have := sq_lt_of (x := X) (y := N + 1) (by omega) (by omega)
      omega
  have q0 := R.lo
  have q1 := p2pos (p - 1)
  have q3 := p2pos (p + 1)
  refine ⟨q, _, e1, R.lo, R.hi, (key _ (by omega)).mp R.b1, fun x => R.b2 ((key _ (by omega)).mpr x), fun x => absurd x hw, fun _ _ => ?_, fun _ x => by rw [hd] at x; cases x⟩
  obtain ⟨a, b⟩ := R.d hw hd
  exact ⟨(key _ (by omega)).mp a, fun x => b ((key _ (by omega)).mpr x)⟩
theorem sh_facts (p : Nat) (b : Int) : ∃ k : Nat, sqrtS.shF p b = ((k + k : Nat) : Int) ∧ 2 * (p : Int) - b + 4 ≤ ((k + k : Nat) : Int) := by
  unfold sqrtS.shF
  rw [bitAnd_m1]
  have h1 := Int.le_max_left 4 (2 * (p : Int) - b + 4)
  have h2 := Int.le_max_right 4 (2 * (p : Int) - b + 4)
  generalize max 4 (2 * (p : Int) - b + 4) = x at *
  exact ⟨((x + x % 2) / 2).toNat, by omega, by omega⟩
theorem half_even (x : Int) : (x + x).fdiv 2 = x := by
  rw [Int.fdiv_eq_ediv_of_nonneg _ (by decide)]; omega
theorem sqrtS_rnd (w : Way) {M b f : Int} {p : Nat} (hM : 0 < M) (hb : b = Builtin.Int.intBits M) (hp : 1 ≤ p) : RndS w 0 p ((M : Rat) * pw (f + f)) (sqrtS w p M b (f + f)) := by
  obtain ⟨k, hk, hk2⟩ := sh_facts p b
  have hpos := Int.mul_nonneg (Int.le_of_lt hM) (Int.le_of_lt (p2pos (k + k)))
  have hN : (2 : Int) ^ p ≤ isqF (M * 2 ^ (k + k)) := by
    obtain ⟨d1, d2, d3⟩ := isqF_spec hpos
    have b1 := bits_lo hM
    have b3 := bits_pos hM
    have h2 : (2 : Int) ^ (Builtin.Int.intBits M - 1 + (k + k)) ≤ M * 2 ^ (k + k) := by
      rw [Int.pow_add]
      exact Int.mul_le_mul_of_nonneg_right b1 (Int.le_of_lt (p2pos _))
    have h3 : (2 : Int) ^ (p + p) ≤ 2 ^ (Builtin.Int.intBits M - 1 + (k + k)) := pow_le (by omega)
    rw [Int.pow_add] at h3
    have := sq_lt_of (x := 2 ^ p) (y := isqF (M * 2 ^ (k + k)) + 1) (by omega) (by omega)
    omega
  unfold sqrtS
  rw [hk, Int.toNat_natCast]
  have e1 : (f + f - ((k + k : Nat) : Int)).fdiv 2 = f - k := by
    rw [show f + f - ((k + k : Nat) : Int) = (f - k) + (f - k) by omega, half_even]
  have e3 : (f + f - (((k + k : Nat) : Int) + 2)).fdiv 2 = f - (k + 1) := by
    rw [show f + f - (((k + k : Nat) : Int) + 2) = (f - (k + 1)) + (f - (k + 1)) by omega, half_even]
  have e2 : (2 : Int) ^ (1 : Int).toNat = 2 := rfl
  rw [e1, e3, e2]
  obtain ⟨s1, s2⟩ := sqrt_Rd w 0 (e := f) hM hp hN
  split
  · rename_i hw
    refine root_cut w ?_ ?_ hM hp hN
    · intro h; subst h; revert hw; decide
    · cases w <;> revert hw <;> decide
  · split
    · rename_i h0
      exact s1 h0
    · rename_i h0
      exact s2 h0
theorem sqrt_rnd {w : Way} {p : Nat} {x : Mp} (hp : 1 ≤ p) (hx : 0 < x.man) (hbx : x.bc = Builtin.Int.intBits x.man) : RndS w 0 p (av x) (sqrtF w p x) := by
  unfold sqrtF
  rw [if_neg (by omega), bitAnd_m1]
  split
  · rename_i h0
    obtain ⟨f, hf⟩ : ∃ f, x.exp = f + f := ⟨x.exp / 2, by omega⟩
    unfold av
    rw [hf]
    split
    · rename_i h1
      rw [h1, half_even]
      obtain ⟨q, h, e, R⟩ := rnd_of w 0 (M := 1) (e := f) (p := p) (by decide) hp
      have e1 : ((1 : Int) : Rat) * pw (f + f) = ((1 : Int) : Rat) * pw f * (((1 : Int) : Rat) * pw f) := by
        have : ((1 : Int) : Rat) = 1 := rfl
        rw [pw_add, this]; grind
      rw [e1]
      exact ⟨q, h, e, R.congr0 (fun B hB => (sq_le_iff (scale_nn hB) (scale_nn (by decide))).symm) (fun B hB => (sq_lt_iff (scale_nn hB) (scale_nn (by decide))).symm)⟩
    · exact sqrtS_rnd w hx hbx hp
  · rename_i h0
    obtain ⟨f, hf⟩ : ∃ f, x.exp = f + f + 1 := ⟨x.exp / 2, by omega⟩
    have e2 : (2 : Int) ^ (1 : Int).toNat = 2 := rfl
    have := sqrtS_rnd w (M := x.man * 2) (b := x.bc + 1) (f := f) (p := p) (by omega) (by
      have := bits_shl 1 hx
      rw [show (2 : Int) ^ 1 * x.man = x.man * 2 by omega] at this
      omega) hp
    rw [e2, show x.exp - 1 = f + f by omega]
    have e3 : av x = ((x.man * 2 : Int) : Rat) * pw (f + f) := by
      unfold av
      rw [hf, pw_succ, Rat.intCast_mul]
      have : ((2 : Int) : Rat) = 2 := rfl
      rw [this]; grind
    rw [e3]
    exact this
end
section
theorem way_cases (v : Way) (s : Int) : v ≠ .n → (wayDn v s = true ∨ wayDn v s = false) := fun _ => by cases wayDn v s <;> simp
theorem square_back0 {w back : Way} {s : Int} {p : Nat} {X g : Int} {d : Mp} (hp : 2 ≤ p) (lo : (2 : Int) ^ (p - 1) ≤ X) (hi : X < 2 ^ p) (hm : Match w s back) (R0 : Rnd w s p (((X * X : Int) : Rat) * pw (g + g)) d) : RndS back 0 p (av d) (enc 0 X g) := by
  obtain ⟨q, h, rfl, hav, R⟩ := R0.av_eq
  obtain ⟨j, hj, hu, hpj, c1, c2, c3⟩ := square_int hp lo hi R
  have q0 := R.lo
  have P1 := pw2 p (by omega)
  have PP := p2pos (p - 1)
  have J := p2pos j
  have hJ : (2 : Int) ^ (j + 1) = 2 * 2 ^ j := by rw [Int.pow_succ, Int.mul_comm]
  have hYlo : (2 : Int) ^ (p - 1) * 2 ^ (p - 1) ≤ q * 2 ^ (j + 1) := Int.mul_le_mul q0 (pow_le (by omega)) (by omega) (by omega)
  have e1 : av (enc s q (h + 1)) = ((q * 2 ^ (j + 1) : Int) : Rat) * pw (g + g) := by
    rw [hav, hj, show g + g + (j : Int) + 1 = g + g + ((j + 1 : Nat) : Int) by omega, pw_up]
  rw [e1]
  generalize q * 2 ^ (j + 1) = Y at *
  have hX := Int.mul_le_mul (show X + 1 ≤ 2 ^ p by omega) (show X + 1 ≤ 2 ^ p by omega) (by omega) (by omega)
  have x1 : (X + 1) * (X + 1) = X * X + 2 * X + 1 := by grind
  have x2 : (2 * X - 1) * (2 * X - 1) = 4 * (X * X) - 4 * X + 1 := by grind
  have x3 : (2 * X + 1) * (2 * X + 1) = 4 * (X * X) + 4 * X + 1 := by grind
  have x4 : (2 * X - 2) * (2 * X - 2) = 4 * (X * X) - 8 * X + 4 := by grind
  have x5 : (2 * X + 2) * (2 * X + 2) = 4 * (X * X) + 8 * X + 4 := by grind
  have x6 : (2 * X) * (2 * X) = 4 * (X * X) := by grind
  have p1 : (2 : Int) ^ p * 2 ^ p = 4 * (2 ^ (p - 1) * 2 ^ (p - 1)) := by rw [P1]; grind
  have p2 : (2 : Int) ^ (p + 1) * 2 ^ (p + 1) = 4 * (2 ^ p * 2 ^ p) := by rw [Int.pow_succ]; grind
  have ub : 4 * Y < 2 ^ (p + 1) * 2 ^ (p + 1) := by
    by_cases hw : w = .n
    · have := c1 hw; omega
    · rcases way_cases w s hw with hd | hd
      · have := c2 hw hd; omega
      · have := c3 hw hd; omega
  have Rq : Rd back 0 p (sle Y g) (slt Y g) X (g - 1) := by
    refine ⟨lo, by omega, (sle_int _ _ _).mpr (by omega), fun x => ?_, fun hb => ?_, fun hb hd => ?_, fun hb hd => ?_⟩
    · have := (sle_int _ _ _).mp x
      omega
    · have hw : w = .n := by
        rcases hm with h | h
        · exact h.1
        · exact absurd hb h.2.1
      have := c1 hw
      refine ⟨(sle_int _ _ _).mpr (by omega), fun x => ?_, fun x => ?_, fun x => ?_⟩
      · have := (slt_int _ _ _).mp x
        omega
      · exfalso
        exact x ((slt_int _ _ _).mpr (by omega))
      · have := (sle_int _ _ _).mp x
        omega
    · have hw : w ≠ .n ∧ wayDn w s = false := by
        rcases hm with h | h
        · exact absurd h.2 hb
        · exact ⟨h.1, by rw [h.2.2, hd]; rfl⟩
      have := c3 hw.1 hw.2
      refine ⟨(sle_int _ _ _).mpr (by omega), fun x => ?_⟩
      have := (sle_int _ _ _).mp x
      omega
    · have hw : w ≠ .n ∧ wayDn w s = true := by
        rcases hm with h | h
        · exact absurd h.2 hb
        · exact ⟨h.1, by rw [h.2.2, hd]; rfl⟩
      have := c2 hw.1 hw.2
      refine ⟨(slt_int _ _ _).mpr (by omega), fun x => ?_⟩
      have := (slt_int _ _ _).mp x
      omega
  refine ⟨X, g - 1, ?_, Rq⟩
  congr 1
  omega
theorem full_bits {m : Int} {p : Nat} (hm : 0 < m) (hb : Builtin.Int.intBits m ≤ p) : ∃ (j : Nat) (X : Int), X = 2 ^ j * m ∧ (2 : Int) ^ (p - 1) ≤ X ∧ X < 2 ^ p := by
  have b1 := bits_lo hm
  have b2 := bits_hi hm
  have b3 := bits_pos hm
  refine ⟨p - Builtin.Int.intBits m, _, rfl, ?_, ?_⟩
  · rw [show p - 1 = (p - Builtin.Int.intBits m) + (Builtin.Int.intBits m - 1) by omega, Int.pow_add]
    exact Int.mul_le_mul_of_nonneg_left b1 (Int.le_of_lt (p2pos _))
  · have : (2 : Int) ^ p = 2 ^ (p - Builtin.Int.intBits m) * 2 ^ (Builtin.Int.intBits m) := by rw [← Int.pow_add]; congr 1; omega
    rw [this]
    exact Int.mul_lt_mul_of_pos_left b2 (p2pos _)
theorem square_back {w back : Way} {s : Int} {p : Nat} {m g : Int} {d : Mp} (hp : 2 ≤ p) (h0 : 0 < m) (hb : Builtin.Int.intBits m ≤ p) (hm : Match w s back) (R0 : Rnd w s p ((m : Rat) * pw g * ((m : Rat) * pw g)) d) : RndS back 0 p (av d) (enc 0 m g) := by
  obtain ⟨j, X, hX, lo, hi⟩ := full_bits h0 hb
  have e1 : (m : Rat) * pw g = (X : Rat) * pw (g - j) := by
    have := pw_up m (g - j) j
    rw [show g - (j : Int) + j = g by omega] at this
    rw [this, hX, Int.mul_comm]
  have e2 : (m : Rat) * pw g * ((m : Rat) * pw g) = ((X * X : Int) : Rat) * pw ((g - j) + (g - j)) := by rw [e1, pw_add, Rat.intCast_mul]; grind
  rw [e2] at R0
  have := square_back0 hp lo hi hm R0
  rw [hX, enc_shl] at this
  rwa [show g - (j : Int) + j = g by omega] at this
structure Num (s : Int) (p : Nat) (a b : Int) (d : Mp) : Prop where
  sg : d.sign = s
  mn : 0 < d.man
  od : d.man % 2 = 1
  bc : d.bc = Builtin.Int.intBits d.man
  bp : Builtin.Int.intBits d.man ≤ p
  lo : pw a ≤ av d
  hi : av d ≤ pw b
theorem enc_num {s M e : Int} {p : Nat} {a b : Int} (h : 0 < M) (hb : Builtin.Int.intBits (odF M) ≤ p) (lo : pw a ≤ (M : Rat) * pw e) (hi : (M : Rat) * pw e ≤ pw b) : Num s p a b (enc s M e) := by
  obtain ⟨a1, a2, a3, a4, a5⟩ := od_facts h
  have av := av_enc (s := s) (e := e) (Int.le_of_lt h)
  have e1 : enc s M e = ⟨s, odF M, e + tzF M, Builtin.Int.intBits (odF M)⟩ := by unfold enc; rw [if_neg (by omega)]
  rw [← av] at lo hi
  exact ⟨by rw [e1], by rw [e1]; exact a1, by rw [e1]; exact a2, by rw [e1], by rw [e1]; exact hb, lo, hi⟩
theorem od_bits {M : Int} (h : 0 < M) : Builtin.Int.intBits (odF M) ≤ Builtin.Int.intBits M := by
  obtain ⟨a1, a2, a3, a4, a5⟩ := od_facts h
  have := tz_nonneg M
  omega
theorem od_le {M : Int} {p : Nat} (h : 0 < M) (hp : 1 ≤ p) (hi : M ≤ 2 ^ p) : Builtin.Int.intBits (odF M) ≤ p := by
  rcases Int.lt_or_le M (2 ^ p) with h1 | h1
  · refine Nat.le_trans (od_bits h) (intBits_le ?_)
    have h3 : (M.natAbs : Int) < ((2 ^ p : Nat) : Int) := by rw [kbt_cast]; omega
    exact_mod_cast h3
  · have e : M = 2 ^ p * (2 * 0 + 1) := by omega
    rw [e, od_of]
    exact hp
theorem Rnd.num {w : Way} {s : Int} {p : Nat} {V : Rat} {d : Mp} {a b : Int} (hp : 1 ≤ p) (h : Rnd w s p V d) (lo : pw a ≤ V) (hi : V ≤ pw b) : Num s p a b d := by
  have one : ∀ e : Int, Rnd w s p (pw e) (enc s 1 e) ∧ av (enc s 1 e) = pw e := fun e => by
    have := Rnd.exact w s (M := 1) (e := e) (p := p) (by decide) hp (by have : Builtin.Int.intBits 1 = 1 := by decide
                                                                        omega)
    have e1 : ((1 : Int) : Rat) * pw e = pw e := by
      have : ((1 : Int) : Rat) = 1 := rfl
      rw [this]; grind
    rw [e1] at this
    exact ⟨this, by rw [av_enc (by decide), e1]⟩
  have l1 := Rnd.mono hp lo (one a).1 h
  have l2 := Rnd.mono hp hi h (one b).1
  rw [(one a).2] at l1
  rw [(one b).2] at l2
  obtain ⟨q, e, rfl, hav, R⟩ := h.av_eq
  rw [hav] at l1 l2
  exact enc_num (Rnd.q_pos R) (od_le (Rnd.q_pos R) hp R.hi) l1 l2
theorem pw_sq (a : Int) : pw (a + a) = pw a * pw a := pw_add a a
theorem RndS.num {w : Way} {s : Int} {p : Nat} {V : Rat} {d : Mp} {a b : Int} (hp : 1 ≤ p) (h : RndS w s p V d) (lo : pw (a + a) ≤ V) (hi : V ≤ pw (b + b)) : Num s p a b d := by
  have one : ∀ e : Int, RndS w s p (pw (e + e)) (enc s 1 e) ∧ av (enc s 1 e) = pw e := fun e => by
    obtain ⟨q, h, e0, R⟩ := Rnd.exact w s (M := 1) (e := e) (p := p) (by decide) hp (by have : Builtin.Int.intBits 1 = 1 := by decide
                                                                                        omega)
    have e1 : ((1 : Int) : Rat) * pw e = pw e := by
      have : ((1 : Int) : Rat) = 1 := rfl
      rw [this]; grind
    rw [e1] at R
    refine ⟨⟨q, h, e0, R.congr0 (fun B hB => ?_) (fun B hB => ?_)⟩, by rw [av_enc (by decide), e1]⟩
    · rw [pw_sq, sq_le_iff (scale_nn hB) (Rat.le_of_lt (pw_pos _))]
    · rw [pw_sq, sq_lt_iff (scale_nn hB) (Rat.le_of_lt (pw_pos _))]
  have l1 := RndS.mono hp lo (one a).1 h
  have l2 := RndS.mono hp hi h (one b).1
  rw [(one a).2] at l1
  rw [(one b).2] at l2
  obtain ⟨q, e, rfl, hav, R⟩ := h.av_eq
  rw [hav] at l1 l2
  exact enc_num (Rnd.q_pos R) (od_le (Rnd.q_pos R) hp R.hi) l1 l2
theorem pw_lt_of {a b : Int} (h : pw a ≤ pw b) : a ≤ b := by
  rcases Int.lt_or_le b a with h1 | h1
  · have m := pw_mono (show b + 1 ≤ a by omega)
    rw [pw_succ] at m
    have := pw_pos b
    exfalso
    grind
  · exact h1
theorem Num.exps {s : Int} {p : Nat} {a b : Int} {d : Mp} (h : Num s p a b d) : a - p ≤ d.exp ∧ d.exp ≤ b := by
  have h1 := h.lo
  have h2 := h.hi
  have b2 := bits_hi h.mn
  have b4 : (2 : Int) ^ (Builtin.Int.intBits d.man) ≤ 2 ^ p := pow_le h.bp
  unfold av at h1 h2
  constructor
  · refine Int.sub_right_le_of_le_add (pw_lt_of (Rat.le_trans h1 ?_))
    have := pw_up 1 d.exp p
    have e1 : ((1 : Int) : Rat) = 1 := rfl
    rw [e1] at this
    have e2 : pw (d.exp + p) = ((1 * 2 ^ p : Int) : Rat) * pw d.exp := by grind
    rw [e2, pw_le_iff]
    exact_mod_cast (show d.man ≤ 1 * 2 ^ p by omega)
  · refine pw_lt_of (Rat.le_trans ?_ h2)
    have := (pw_le_iff (a := ((1 : Int) : Rat)) (b := (d.man : Rat)) d.exp).mpr (by exact_mod_cast h.mn)
    have e1 : ((1 : Int) : Rat) = 1 := rfl
    rw [e1] at this
    grind
theorem Num.ok {s : Int} {p : Nat} {a b : Int} {d : Mp} (h : Num s p a b d) (hs : s = 0 ∨ s = 1) (hp : p ≤ 300) (ha : -2000 ≤ a) (hb : b ≤ 2000) : Ok d := by
  have e := h.exps
  have bp := h.bp
  have mn := h.mn
  exact ⟨by rw [h.sg]; exact hs, by omega, h.bc, by omega, by omega, by omega, fun x => by omega⟩
theorem Num.form {s : Int} {p : Nat} {a b : Int} {d : Mp} (h : Num s p a b d) (hs : s = 0 ∨ s = 1) : FormOk d p := ⟨.inr ⟨by rw [h.sg]; exact hs, h.mn, h.od, h.bc, by rw [h.bc]; have := h.bp; omega⟩⟩
end
section
def pz (p : Nat) : Rat := ((2 ^ p : Int) : Rat)
theorem pz_pos (p : Nat) : 0 < pz p := by unfold pz; exact_mod_cast p2pos p
theorem near_bd {s : Int} {p : Nat} {V : Rat} {d : Mp} (hp : 1 ≤ p) (h : Rnd .n s p V d) : (av d - V) * pz p ≤ V ∧ (V - av d) * pz p ≤ V ∧ V * pz p ≤ av d * (pz p + 1) ∧ av d * (pz p + 1) ≤ V * (pz p + 2) := by
  obtain ⟨q, e, rfl, hav, R⟩ := h.av_eq
  obtain ⟨f1, f2, f3, f4⟩ := near_facts hp R
  have lo := R.lo
  have P := pz_pos p
  have H := pw_pos e
  have tq := two_q q e
  rw [hav]
  have hP : pz p = 2 * ((2 ^ (p - 1) : Int) : Rat) := by
    unfold pz
    rw [pw2 p hp, Rat.intCast_mul]; rfl
  have hc : (q : Rat) * pw (e + 1) = pz p * pw e ∨ (pz p + 2) * pw e ≤ (q : Rat) * pw (e + 1) := by
    rcases Int.lt_or_le (2 ^ (p - 1)) q with h1 | h1
    · right
      have h2 : ((2 ^ (p - 1) + 1 : Int) : Rat) ≤ (q : Rat) := by exact_mod_cast h1
      rw [Rat.intCast_add] at h2
      have h3 : ((1 : Int) : Rat) = 1 := rfl
      rw [h3] at h2
      rw [pw_succ]
      have := Rat.mul_le_mul_of_nonneg_right h2 (Rat.le_of_lt H)
      rw [hP]
      clear hP h2 tq f1 f2 f3 f4 hav
      generalize ((2 ^ (p - 1) : Int) : Rat) = A at *
      generalize (q : Rat) = B at *
      generalize pw e = C at *
      grind
    · left
      have h2 : q = 2 ^ (p - 1) := by omega
      rw [h2, hP, pw_succ]
      grind
  change (pz p) * pw e ≤ V at f3
  change (pz p) * pw e ≤ _ at f4
  generalize (q : Rat) * pw (e + 1) = X at *
  generalize pw e = h at *
  generalize pz p = T at *
  have m1 := Rat.mul_le_mul_of_nonneg_right f1 (Rat.le_of_lt P)
  have m2 := Rat.mul_le_mul_of_nonneg_right f2 (Rat.le_of_lt P)
  refine ⟨by grind, by grind, by grind, ?_⟩
  rcases hc with hc | hc
  · have hV : X ≤ V := by grind
    have := Rat.mul_le_mul_of_nonneg_right hV (show (0 : Rat) ≤ T + 2 by grind)
    have : 0 ≤ X := by
      rw [hc]
      exact Rat.mul_nonneg (Rat.le_of_lt P) (Rat.le_of_lt H)
    grind
  · have := Rat.mul_le_mul_of_nonneg_right (show X - h ≤ V by grind) (show (0 : Rat) ≤ T + 2 by grind)
    grind
theorem any_bd {w : Way} {s : Int} {p : Nat} {V : Rat} {d : Mp} (hp : 1 ≤ p) (h : Rnd w s p V d) : (av d - V) * pz (p - 1) ≤ V ∧ (V - av d) * pz (p - 1) ≤ V := by
  obtain ⟨q, e, rfl, hav, R⟩ := h.av_eq
  obtain ⟨f1, f2, f3⟩ := any_facts R
  rw [hav]
  have P := pz_pos (p - 1)
  have hP : ((2 ^ p : Int) : Rat) = 2 * pz (p - 1) := by
    unfold pz
    rw [pw2 p hp, Rat.intCast_mul]; rfl
  rw [hP] at f3
  have m1 := Rat.mul_le_mul_of_nonneg_right f1 (Rat.le_of_lt P)
  have m2 := Rat.mul_le_mul_of_nonneg_right f2 (Rat.le_of_lt P)
  exact ⟨by grind, by grind⟩
theorem near_root {s : Int} {p : Nat} {Y : Rat} {d : Mp} (hp : 1 ≤ p) (h : RndS .n s p Y d) : ∃ H : Rat, 0 < H ∧ pz p * H ≤ av d ∧ (pz p * H) * (pz p * H) ≤ Y ∧ (av d - H) * (av d - H) ≤ Y ∧ Y ≤ (av d + H) * (av d + H) := by
  obtain ⟨q, e, rfl, hav, R⟩ := h.av_eq
  obtain ⟨a, b, _, _⟩ := R.n rfl
  have lo := R.lo
  have e1 : ((2 * q - 1 : Int) : Rat) = ((2 * q : Int) : Rat) - 1 := by rw [Rat.intCast_sub]; rfl
  have e2 : ((2 * q + 1 : Int) : Rat) = ((2 * q : Int) : Rat) + 1 := by rw [Rat.intCast_add]; rfl
  rw [e1] at a
  rw [e2] at b
  have b' := Rat.not_lt.mp b
  refine ⟨pw e, pw_pos e, ?_, R.b1, ?_, ?_⟩
  · rw [hav, two_q]
    unfold pz
    rw [pw_le_iff, Rat.intCast_le_intCast, pw2 p hp]
    omega
  · rw [hav, two_q]
    have e3 : ((2 * q : Int) : Rat) * pw e - pw e = (((2 * q : Int) : Rat) - 1) * pw e := by grind
    rw [e3]
    exact a
  · rw [hav, two_q]
    have e3 : ((2 * q : Int) : Rat) * pw e + pw e = (((2 * q : Int) : Rat) + 1) * pw e := by grind
    rw [e3]
    exact b'
theorem up_root {w : Way} {s : Int} {p : Nat} {Y : Rat} {d : Mp} (hp : 1 ≤ p) (hw : w ≠ .n) (hd : wayDn w s = false) (h : RndS w s p Y d) : ∃ H : Rat, 0 < H ∧ pz p * H ≤ av d ∧ (pz p * H) * (pz p * H) ≤ Y ∧ (av d - 2 * H) * (av d - 2 * H) ≤ Y ∧ Y ≤ av d * av d := by
  obtain ⟨q, e, rfl, hav, R⟩ := h.av_eq
  obtain ⟨a, b⟩ := R.u hw hd
  have lo := R.lo
  have e1 : ((2 * q - 2 : Int) : Rat) = ((2 * q : Int) : Rat) - 2 := by rw [Rat.intCast_sub]; rfl
  rw [e1] at a
  have b' := Rat.not_lt.mp b
  refine ⟨pw e, pw_pos e, ?_, R.b1, ?_, ?_⟩
  · rw [hav, two_q]
    unfold pz
    rw [pw_le_iff, Rat.intCast_le_intCast, pw2 p hp]
    omega
  · rw [hav, two_q]
    have e3 : ((2 * q : Int) : Rat) * pw e - 2 * pw e = (((2 * q : Int) : Rat) - 2) * pw e := by grind
    rw [e3]
    exact Rat.le_of_lt a
  · rw [hav, two_q]
    exact b'
theorem dn_root {w : Way} {s : Int} {p : Nat} {Y : Rat} {d : Mp} (hp : 1 ≤ p) (hw : w ≠ .n) (hd : wayDn w s = true) (h : RndS w s p Y d) : ∃ H : Rat, 0 < H ∧ pz p * H ≤ av d ∧ (pz p * H) * (pz p * H) ≤ Y ∧ Y ≤ (av d + 2 * H) * (av d + 2 * H) ∧ av d * av d ≤ Y := by
  obtain ⟨q, e, rfl, hav, R⟩ := h.av_eq
  obtain ⟨a, b⟩ := R.d hw hd
  have lo := R.lo
  have e1 : ((2 * q + 2 : Int) : Rat) = ((2 * q : Int) : Rat) + 2 := by rw [Rat.intCast_add]; rfl
  rw [e1] at b
  have b' := Rat.le_of_lt (Rat.not_le.mp b)
  refine ⟨pw e, pw_pos e, ?_, R.b1, ?_, ?_⟩
  · rw [hav, two_q]
    unfold pz
    rw [pw_le_iff, Rat.intCast_le_intCast, pw2 p hp]
    omega
  · rw [hav, two_q]
    have e3 : ((2 * q : Int) : Rat) * pw e + 2 * pw e = (((2 * q : Int) : Rat) + 2) * pw e := by grind
    rw [e3]
    exact b'
  · rw [hav, two_q]
    exact a
end
section
theorem mulr {a b c : Rat} (hc : 0 ≤ c) (h : a ≤ b) : a * c ≤ b * c := Rat.mul_le_mul_of_nonneg_right h hc
theorem mnn {a b : Rat} (ha : 0 ≤ a) (hb : 0 ≤ b) : 0 ≤ a * b := Rat.mul_nonneg ha hb
theorem root1 {T H L Y : Rat} (hT : 0 ≤ T) (hH : 0 < H) (h1 : T * H ≤ L) (h4 : Y ≤ (L + H) * (L + H)) : Y * (T * T) ≤ (T + 1) * (T + 1) * (L * L) := by
  have a0 := mnn hT (Rat.le_of_lt hH)
  have a1 : T * (L + H) ≤ (T + 1) * L := by grind
  have a2 := sq_mono (mnn hT (show 0 ≤ L + H by grind)) a1
  have a3 := mulr (mnn hT hT) h4
  grind
theorem root2 {T H L Y : Rat} (hT : 0 ≤ T) (hH : 0 < H) (h1 : T * H ≤ L) (h2 : (T * H) * (T * H) ≤ Y) (h3 : (L - H) * (L - H) ≤ Y) : L * L * (T * T) ≤ (T + 1) * (T + 1) * Y := by
  have a0 := mnn hT (Rat.le_of_lt hH)
  have hL : 0 ≤ L := by grind
  have s := mnn (show 0 ≤ T + 1 by grind) (show 0 ≤ T + 1 by grind)
  rcases (Rat.le_total : (T + 1) * H ≤ L ∨ L ≤ (T + 1) * H) with c | c
  · have a1 : T * L ≤ (T + 1) * (L - H) := by grind
    have a2 := sq_mono (mnn hT hL) a1
    have a3 := mulr s h3
    grind
  · have a1 : T * L ≤ (T + 1) * (T * H) := by
      have := mulr hT c
      grind
    have a2 := sq_mono (mnn hT hL) a1
    have a3 := mulr s h2
    grind
theorem root3 {T H L Y : Rat} (hT : 2 ≤ T) (hH : 0 < H) (h1 : T * H ≤ L) (h2 : (T * H) * (T * H) ≤ Y) (h3 : (L - H) * (L - H) ≤ Y) : 2 * ((L * L - Y) * T) ≤ 5 * Y := by
  have hT0 : 0 ≤ T := by grind
  have H0 := Rat.le_of_lt hH
  have a0 := mnn hT0 H0
  have b0 := mulr H0 hT
  rcases (Rat.le_total : (T + 1) * H ≤ L ∨ L ≤ (T + 1) * H) with c | c
  · have a1 := mulr (show 0 ≤ L - H by grind) (show T * H ≤ L - H by grind)
    have a2 := mnn a0 (show 0 ≤ L - 3 * H by grind)
    have a3 := mulr hT0 h3
    grind
  · have a1 := sq_mono (show 0 ≤ L by grind) c
    have a2 := mulr hT0 a1
    have a3 := mulr hT0 h2
    have a4 := mnn (mnn a0 H0) (show 0 ≤ T - 2 by grind)
    grind
theorem root4 {T H L Y : Rat} (hT : 2 ≤ T) (hH : 0 < H) (hY : 0 ≤ Y) (h1 : T * H ≤ L) (h4 : Y ≤ (L + H) * (L + H)) : 2 * ((Y - L * L) * T) ≤ 5 * Y := by
  have hT0 : 0 ≤ T := by grind
  have H0 := Rat.le_of_lt hH
  have a0 := mnn hT0 H0
  have b0 := mulr H0 hT
  have hL : 0 ≤ L := by grind
  rcases (Rat.le_total : Y ≤ L * L ∨ L * L ≤ Y) with c | c
  · have := mulr hT0 (show Y - L * L ≤ 0 by grind)
    grind
  · have a1 := mulr hT0 h4
    have a2 := mulr hL h1
    have a3 := mulr H0 h1
    have a4 := mulr hL (show 2 * H ≤ L by grind)
    grind
theorem dn8 {T H L Y : Rat} (hT : 1 ≤ T) (hH : 0 < H) (h1 : T * H ≤ L) (h2 : (T * H) * (T * H) ≤ Y) (h3 : Y ≤ (L + 2 * H) * (L + 2 * H)) (h4 : L * L ≤ Y) : (Y - L * L) * T ≤ 8 * Y := by
  have hT0 : 0 ≤ T := by grind
  have H0 := Rat.le_of_lt hH
  have a0 := mnn hT0 H0
  have a1 := mulr hT0 h3
  have a2 := mulr (show 0 ≤ L by grind) h1
  have a3 := mnn (mnn a0 H0) (show 0 ≤ T - 1 by grind)
  grind
theorem up8 {T H L Y : Rat} (hT : 2 ≤ T) (hH : 0 < H) (h1 : T * H ≤ L) (h2 : (T * H) * (T * H) ≤ Y) (h3 : (L - 2 * H) * (L - 2 * H) ≤ Y) : (L * L - Y) * T ≤ 8 * Y := by
  have hT0 : 0 ≤ T := by grind
  have H0 := Rat.le_of_lt hH
  have a0 := mnn hT0 H0
  have b0 := mulr H0 hT
  have a3 := mulr hT0 h3
  have c0 : (L * L - Y) * T ≤ (4 * L - 4 * H) * (T * H) := by grind
  rcases (Rat.le_total : (T + 2) * H ≤ L ∨ L ≤ (T + 2) * H) with c | c
  · have a1 := mulr (show 0 ≤ L - 2 * H by grind) (show T * H ≤ L - 2 * H by grind)
    have a2 := mnn a0 (show 0 ≤ L - 3 * H by grind)
    grind
  · have a1 := mulr a0 c
    have a2 := mnn (mnn a0 H0) (show 0 ≤ T - 1 by grind)
    grind
end
section
def sgr (s : Int) : Rat := if s = 0 then 1 else -1
theorem sgr_sq (s : Int) : sgr s * sgr s = 1 := by unfold sgr; split <;> grind
theorem sgr_or (s : Int) : sgr s = 1 ∨ sgr s = -1 := by unfold sgr; split <;> simp
theorem sgr_xor {a b : Int} (ha : a = 0 ∨ a = 1) (hb : b = 0 ∨ b = 1) : sgr (xor1 a b) = sgr a * sgr b := by
  rcases ha with rfl | rfl <;> rcases hb with rfl | rfl <;> (simp [sgr, xor1]) <;> grind
theorem xor_back {a b : Int} (ha : a = 0 ∨ a = 1) (hb : b = 0 ∨ b = 1) : xor1 (xor1 a b) b = a := by
  rcases ha with rfl | rfl <;> rcases hb with rfl | rfl <;> decide
theorem xor_comm (a b : Int) : xor1 a b = xor1 b a := by unfold xor1; split <;> split <;> omega
theorem sgr_abs (m : Int) : sgr (sg m) * ((m.natAbs : Int) : Rat) = (m : Rat) := by
  rcases Int.lt_or_le m 0 with h | h
  · have e1 : sgr (sg m) = -1 := by unfold sg; rw [if_pos h]; rfl
    rw [e1, show (m.natAbs : Int) = -m by omega, Rat.intCast_neg]; grind
  · have e1 : sgr (sg m) = 1 := by unfold sg; rw [if_neg (by omega)]; rfl
    rw [e1, show (m.natAbs : Int) = m by omega]; grind
theorem val_av (d : Mp) : val d = sgr d.sign * av d := by
  unfold val av sM sgr
  split
  · grind
  · rw [Rat.intCast_neg]; grind
theorem vN_av (d : Mp) : (vN d : Rat) = sgr d.sign * av d * (vD d : Rat) := by rw [vN_val, val_av]
theorem vD_r (d : Mp) : (0 : Rat) < (vD d : Rat) := cpos (vD_pos d)
theorem le_cast {a b : Int} (h : (a : Rat) ≤ (b : Rat)) : a ≤ b := Rat.intCast_le_intCast.mp h
theorem abs_chk {T S : Int} {k : Nat} (h1 : (T : Rat) * pz k ≤ (S : Rat)) (h2 : -(T : Rat) * pz k ≤ (S : Rat)) : (T.natAbs : Int) * 2 ^ k ≤ S := by
  rcases (show (T.natAbs : Int) = T ∨ (T.natAbs : Int) = -T by omega) with e | e
  · rw [e]
    apply le_cast
    rw [Rat.intCast_mul]
    exact h1
  · rw [e]
    apply le_cast
    rw [Rat.intCast_mul, Rat.intCast_neg]
    exact h2
theorem abs_rat {c : Int} {σ r : Rat} (h : (c : Rat) = σ * r) (hs : σ = 1 ∨ σ = -1) (hr : 0 ≤ r) : ((c.natAbs : Int) : Rat) = r := by
  rcases hs with rfl | rfl
  · have h1 : (0 : Rat) ≤ (c : Rat) := by grind
    have h2 : 0 ≤ c := by exact_mod_cast h1
    rw [show (c.natAbs : Int) = c by omega]
    grind
  · have h1 : (c : Rat) ≤ 0 := by grind
    have h2 : c ≤ 0 := by exact_mod_cast h1
    rw [show (c.natAbs : Int) = -c by omega, Rat.intCast_neg]
    grind
theorem av_zero : av Mp.zero = 0 := by
  unfold av Mp.zero
  have : ((0 : Int) : Rat) = 0 := rfl
  rw [this]; grind
theorem vN_zero : vN Mp.zero = 0 := by decide
theorem same_enc (m e : Int) : SameOk (fme m e) m e := by
  have hN : (vN (fme m e) : Rat) = (m : Rat) * pw e * (vD (fme m e) : Rat) := by
    rw [vN_av]
    by_cases h : m = 0
    · subst h
      rw [fme_zero rfl, av_zero]
      have : ((0 : Int) : Rat) = 0 := rfl
      rw [this]; grind
    · have hs : (fme m e).sign = sg m := by
        unfold fme enc
        rw [if_neg (by omega)]
      rw [hs, av_fme, ← sgr_abs m]
      grind
  unfold SameOk
  have h1 := pw_nat e.toNat
  have h2 := pw_nat (-e).toNat
  split
  · rename_i he
    rw [Int.toNat_of_nonneg (by omega)] at h2
    have h3 : pw e * pw (-e) = 1 := by rw [← pw_add, show e + -e = 0 by omega, pw_zero]
    have : ((vN (fme m e) * 2 ^ (-e).toNat : Int) : Rat) = ((m * vD (fme m e) : Int) : Rat) := by
      rw [Rat.intCast_mul, Rat.intCast_mul, ← h2, hN]
      grind
    exact_mod_cast this
  · rename_i he
    rw [Int.toNat_of_nonneg (by omega)] at h1
    have : ((vN (fme m e) : Int) : Rat) = ((m * 2 ^ e.toNat * vD (fme m e) : Int) : Rat) := by
      rw [Rat.intCast_mul, Rat.intCast_mul, ← h1, hN]
    exact_mod_cast this
theorem most_of {d : Mp} (h0 : 0 ≤ av d) (h : av d ≤ 1) : MostOk d := by
  unfold MostOk
  have D := vD_r d
  have e1 := abs_rat (c := vN d) (σ := sgr d.sign) (r := av d * (vD d : Rat)) (by rw [vN_av]; grind) (sgr_or _) (mnn h0 (Rat.le_of_lt D))
  have e2 : (vD d).natAbs = (vD d : Int) := by have := vD_pos d; omega
  have : ((vN d).natAbs : Int) ≤ ((vD d).natAbs : Int) := by
    rw [e2]
    apply le_cast
    rw [e1]
    have := mulr (Rat.le_of_lt D) h
    grind
  exact_mod_cast this
theorem form_zero (p : Int) : FormOk Mp.zero p := ⟨.inl rfl⟩
theorem fme_sign {m e : Int} (h : m ≠ 0) : (fme m e).sign = sg m := by
  unfold fme enc
  rw [if_neg (by omega)]
theorem fme_man {m e : Int} (h : m ≠ 0) : 0 < (fme m e).man := by
  unfold fme enc
  rw [if_neg (by omega)]
  exact (od_facts (show (0 : Int) < m.natAbs by omega)).1
theorem fme_bc {m e : Int} (h : m ≠ 0) : (fme m e).bc = Builtin.Int.intBits (fme m e).man := by
  unfold fme enc
  rw [if_neg (by omega)]
theorem divF_zero (w : Way) (p : Int) (y : Mp) : divF w p Mp.zero y = Mp.zero := by unfold divF; rw [if_pos (by rfl)]
theorem mulF_zl (w : Way) (p : Int) (y : Mp) : mulF w p Mp.zero y = Mp.zero := by
  unfold mulF
  have : Mp.zero.man * y.man = 0 := by unfold Mp.zero; simp
  rw [this, rnd_zero]
theorem Rnd.sign {w : Way} {s : Int} {p : Nat} {V : Rat} {d : Mp} (h : Rnd w s p V d) : d.sign = s ∧ 0 < d.man ∧ d.bc = Builtin.Int.intBits d.man := by
  obtain ⟨q, e, rfl, R⟩ := h
  have hq := Rnd.q_pos R
  obtain ⟨a1, a2, a3, a4, a5⟩ := od_facts hq
  unfold enc
  rw [if_neg (by omega)]
  exact ⟨rfl, a1, rfl⟩
theorem RndS.sign {w : Way} {s : Int} {p : Nat} {V : Rat} {d : Mp} (h : RndS w s p V d) : d.sign = s ∧ 0 < d.man ∧ d.bc = Builtin.Int.intBits d.man := by
  obtain ⟨q, e, rfl, R⟩ := h
  have hq := Rnd.q_pos R
  obtain ⟨a1, a2, a3, a4, a5⟩ := od_facts hq
  unfold enc
  rw [if_neg (by omega)]
  exact ⟨rfl, a1, rfl⟩
end
section
structure B1 (p m s n : Int) : Prop where
  p3 : 3 ≤ p
  p18 : p ≤ 18
  hm : (m.natAbs : Int) < 2 ^ (p - 1).toNat
  s1 : -32 ≤ s
  s2 : s ≤ 31
  hn : ∃ g a : Nat, (n.natAbs : Int) = 2 ^ a * (2 ^ g + 1) ∧ (g : Int) < p ∧ a ≤ 19
theorem bits_lt {m : Int} {k : Nat} (h : (m.natAbs : Int) < 2 ^ k) : Builtin.Int.intBits m ≤ k := by
  refine intBits_le ?_
  have h3 : (m.natAbs : Int) < ((2 ^ k : Nat) : Int) := by rw [kbt_cast]; exact h
  exact_mod_cast h3
theorem av_whole (n : Int) : av (fme n 0) = ((n.natAbs : Int) : Rat) := by rw [av_fme, pw_zero]; grind
section
variable {p m s n : Int} (B : B1 p m s n)
include B
theorem B1.n0 : n ≠ 0 := by
  obtain ⟨g, a, h, _, _⟩ := B.hn
  have := Int.mul_pos (p2pos a) (show (0 : Int) < 2 ^ g + 1 by have := p2pos g; omega)
  omega
theorem B1.nb : (n.natAbs : Int) < 2 ^ 39 := by
  obtain ⟨g, a, h, h2, h3⟩ := B.hn
  have := B.p18
  have a1 : (2 : Int) ^ a ≤ 2 ^ 19 := pow_le (by omega)
  have a2 : (2 : Int) ^ g ≤ 2 ^ 17 := pow_le (by omega)
  have := p2pos a
  have := p2pos g
  have := Int.mul_le_mul a1 (show (2 : Int) ^ g + 1 ≤ 2 ^ 17 + 1 by omega) (by omega) (by omega)
  omega
theorem B1.n1 : (1 : Int) ≤ n.natAbs := by have := B.n0; omega
theorem B1.mb : Builtin.Int.intBits m ≤ (p - 1).toNat := bits_lt B.hm
theorem B1.okx : Ok (fme m s) := ok_fme (by have := B.mb; have := B.p18; have := B.p3; omega) (by have := B.s1; omega) (by have := B.s2; omega)
theorem B1.okw : Ok (fme n 0) := ok_fme (by have := bits_lt B.nb; omega) (by decide) (by decide)
theorem B1.okm : Ok (fme m 0) := ok_fme (by have := B.mb; have := B.p18; have := B.p3; omega) (by decide) (by decide)
theorem B1.wman : (fme n 0).man ≠ 0 := fme_ne B.n0
theorem B1.formx : FormOk (fme m s) p := by
  have := B.mb
  have := B.p3
  by_cases h : m = 0
  · rw [fme_zero h]; exact form_zero p
  · have hb := bits_mono (a := (m.natAbs : Int)) (b := m) (by omega)
    have := od_bits (show (0 : Int) < m.natAbs by omega)
    obtain ⟨a1, a2, a3, a4, a5⟩ := od_facts (show (0 : Int) < m.natAbs by omega)
    refine ⟨.inr ⟨by rw [fme_sign h]; exact sg_b m, fme_man h, ?_, fme_bc h, ?_⟩⟩
    · unfold fme enc
      rw [if_neg (by omega)]
      exact a2
    · unfold fme enc
      rw [if_neg (by omega)]
      show (Builtin.Int.intBits (odF (m.natAbs : Int)) : Int) ≤ p
      omega
omit B in
theorem B1.same_x (_ : B1 p m s n) : SameOk (fme m s) m s := same_enc m s
omit B in
theorem B1.same_w (_ : B1 p m s n) : SameOk (fme n 0) n 0 := same_enc n 0
theorem B1.part_rnd (hm : m ≠ 0) : ∃ V : Rat, V * ((n.natAbs : Int) : Rat) = ((m.natAbs : Int) : Rat) * pw s ∧ 0 < V ∧ Rnd .n (xor1 (sg m) (sg n)) p.toNat V (divF .n p (fme m s) (fme n 0)) := by
  have hn' := cpos (show (0 : Int) < n.natAbs by have := B.n1; omega)
  have hm' := cpos (show (0 : Int) < m.natAbs by omega)
  have hV : ((m.natAbs : Int) : Rat) * pw s / ((n.natAbs : Int) : Rat) * ((n.natAbs : Int) : Rat) = ((m.natAbs : Int) : Rat) * pw s := Rat.div_mul_cancel (by grind)
  generalize ((m.natAbs : Int) : Rat) * pw s / ((n.natAbs : Int) : Rat) = V at hV
  have hp := B.p3
  obtain ⟨P, rfl⟩ : ∃ P : Nat, p = P := ⟨p.toNat, by omega⟩
  rw [Int.toNat_natCast]
  refine ⟨V, hV, ?_, ?_⟩
  · have h1 := Rat.mul_pos hm' (pw_pos s)
    rcases (Rat.le_total : V ≤ 0 ∨ 0 ≤ V) with h | h
    · have := mulr (Rat.le_of_lt hn') h
      grind
    · rcases Classical.em (V = 0) with e | e
      · rw [e] at hV; grind
      · grind
  · have := div_rnd (w := .n) (p := P) (x := fme m s) (y := fme n 0) (V := V) (by omega) (fme_man hm) (fme_man B.n0) (fme_bc hm) (fme_bc B.n0) (by rw [av_whole, av_fme]; exact hV)
    rwa [fme_sign hm, fme_sign B.n0] at this
omit B in
theorem V_uniq {V V' c : Rat} (hc : 0 < c) (h : V * c = V' * c) : V = V' := by
  have h1 := (mul_le_iff (a := V) (b := V') hc).mp (by rw [h]; exact Rat.le_refl)
  have h2 := (mul_le_iff (a := V') (b := V) hc).mp (by rw [h]; exact Rat.le_refl)
  grind
omit B in
theorem V_bd {V c a lo hi : Rat} (hc : 0 < c) (h : V * c = a) (h1 : lo * c ≤ a) (h2 : a ≤ hi * c) : lo ≤ V ∧ V ≤ hi := ⟨(mul_le_iff hc).mp (by rw [h]; exact h1), (mul_le_iff hc).mp (by rw [h]; exact h2)⟩
omit B in
theorem pw_le_nat {m : Int} {k : Nat} (h : (m.natAbs : Int) ≤ 2 ^ k) : ((m.natAbs : Int) : Rat) ≤ pw k := by
  rw [pw_nat]
  exact_mod_cast h
theorem B1.part_num (hm : m ≠ 0) : Num (xor1 (sg m) (sg n)) p.toNat (-100) 100 (divF .n p (fme m s) (fme n 0)) := by
  obtain ⟨V, hV, hpos, R⟩ := B.part_rnd hm
  have hn' := cpos (show (0 : Int) < n.natAbs by have := B.n1; omega)
  have hp := B.p3
  refine R.num (by omega) ?_ ?_
  · refine (mul_le_iff hn').mp ?_
    rw [hV]
    have a1 : ((n.natAbs : Int) : Rat) ≤ pw ((39 : Nat) : Int) := pw_le_nat (Int.le_of_lt B.nb)
    have a2 : pw (-100) * ((n.natAbs : Int) : Rat) ≤ pw (-100) * pw ((39 : Nat) : Int) := Rat.mul_le_mul_of_nonneg_left a1 (Rat.le_of_lt (pw_pos _))
    rw [← pw_add] at a2
    have a3 : pw (-100 + ((39 : Nat) : Int)) ≤ pw s := pw_mono (by have := B.s1; omega)
    have a4 := mulr (Rat.le_of_lt (pw_pos s)) (show (1 : Rat) ≤ ((m.natAbs : Int) : Rat) by exact_mod_cast (show (1 : Int) ≤ m.natAbs by omega))
    grind
  · refine (mul_le_iff hn').mp ?_
    rw [hV]
    have a1 : ((m.natAbs : Int) : Rat) ≤ pw ((40 : Nat) : Int) := pw_le_nat (Int.le_of_lt (Int.lt_of_lt_of_le B.hm (pow_le (by have := B.p18; omega))))
    have a2 := mulr (Rat.le_of_lt (pw_pos s)) a1
    rw [← pw_add] at a2
    have a3 : pw (((40 : Nat) : Int) + s) ≤ pw 100 := pw_mono (by have := B.s2; omega)
    have a4 : pw 100 * 1 ≤ pw 100 * ((n.natAbs : Int) : Rat) := Rat.mul_le_mul_of_nonneg_left (by exact_mod_cast B.n1) (Rat.le_of_lt (pw_pos _))
    grind
theorem B1.okpart : Ok (divF .n p (fme m s) (fme n 0)) := by
  by_cases h : m = 0
  · rw [fme_zero h, divF_zero]
    exact ⟨.inl rfl, by decide, by decide, by decide, by decide, by decide, fun _ => rfl⟩
  · exact (B.part_num h).ok (xor1_b _ _) (by have := B.p18; omega) (by decide) (by decide)
theorem B1.formpart : FormOk (divF .n p (fme m s) (fme n 0)) p := by
  by_cases h : m = 0
  · rw [fme_zero h, divF_zero]
    exact form_zero p
  · have := (B.part_num h).form (xor1_b _ _)
    rwa [Int.toNat_of_nonneg (by have := B.p3; omega)] at this
end
end
section
theorem V_of {a b : Rat} (hb : 0 < b) : ∃ V : Rat, V * b = a := ⟨a / b, Rat.div_mul_cancel (by grind)⟩
theorem shift_zero (k : Int) : shiftF Mp.zero k = Mp.zero := by unfold shiftF; rw [if_pos (by rfl)]
section
variable {p m s n : Int} (B : B1 p m s n)
include B
theorem B1.rat_eq : shiftF (divF .n p (fme m 0) (fme n 0)) s = divF .n p (fme m s) (fme n 0) := by
  by_cases h : m = 0
  · rw [fme_zero h, fme_zero h, divF_zero, shift_zero]
  · obtain ⟨V, hV, hpos, R⟩ := B.part_rnd h
    have hn' := cpos (show (0 : Int) < n.natAbs by have := B.n1; omega)
    obtain ⟨V0, hV0⟩ := V_of (a := ((m.natAbs : Int) : Rat)) hn'
    have hp := B.p3
    obtain ⟨P, rfl⟩ : ∃ P : Nat, p = P := ⟨p.toNat, by omega⟩
    have R0 := div_rnd (w := .n) (p := P) (x := fme m 0) (y := fme n 0) (V := V0) (by omega) (fme_man h) (fme_man B.n0) (fme_bc h) (fme_bc B.n0) (by rw [av_whole, av_whole]; exact hV0)
    have R1 := R0.shift s
    rw [fme_sign h, fme_sign B.n0, show V0 * pw s = V from V_uniq hn' (by rw [hV, ← hV0]; grind)] at R1
    exact R1.uniq (by omega) R
theorem B1.rdiv_eq : shiftF (rdivF .n p m (fme n 0)) s = divF .n p (fme m s) (fme n 0) := by
  by_cases h : m = 0
  · rw [fme_zero h, divF_zero]
    unfold rdivF
    rw [if_pos h, shift_zero]
  · obtain ⟨V, hV, hpos, R⟩ := B.part_rnd h
    have hn' := cpos (show (0 : Int) < n.natAbs by have := B.n1; omega)
    obtain ⟨V0, hV0⟩ := V_of (a := ((m.natAbs : Int) : Rat)) hn'
    have hp := B.p3
    obtain ⟨P, rfl⟩ : ∃ P : Nat, p = P := ⟨p.toNat, by omega⟩
    have R0 := rdiv_rnd (w := .n) (p := P) (n := m) (y := fme n 0) (V := V0) (by omega) h (fme_man B.n0) (fme_bc B.n0) (by rw [av_whole]; exact hV0)
    have R1 := R0.shift s
    rw [fme_sign B.n0, xor_comm, show V0 * pw s = V from V_uniq hn' (by rw [hV, ← hV0]; grind)] at R1
    exact R1.uniq (by omega) R
theorem B1.err : (((vN (divF .n p (fme m s) (fme n 0)) * n * vD (fme m s) - vN (fme m s) * vD (divF .n p (fme m s) (fme n 0))).natAbs : Int)) * 2 ^ p.toNat ≤ ((vN (fme m s)).natAbs : Int) * vD (divF .n p (fme m s) (fme n 0)) := by
  by_cases h : m = 0
  · rw [fme_zero h, divF_zero, vN_zero]
    simp
  · obtain ⟨V, hV, hpos, R⟩ := B.part_rnd h
    have hn' := cpos (show (0 : Int) < n.natAbs by have := B.n1; omega)
    have hp := B.p3
    obtain ⟨f1, f2, _, _⟩ := near_bd (by omega) R
    have sgp := R.sign.1
    have e1 := vN_av (divF .n p (fme m s) (fme n 0))
    have e2 := vN_av (fme m s)
    rw [sgp, sgr_xor (sg_b m) (sg_b n)] at e1
    rw [fme_sign h, av_fme] at e2
    have en := sgr_abs n
    have D1 := vD_r (divF .n p (fme m s) (fme n 0))
    have D2 := vD_r (fme m s)
    rw [← hV] at e2
    have σ1 := sgr_or (sg m)
    have σ2 := sgr_sq (sg n)
    generalize vN (divF .n p (fme m s) (fme n 0)) = a at *
    generalize vD (divF .n p (fme m s) (fme n 0)) = b at *
    generalize vN (fme m s) = c at *
    generalize vD (fme m s) = d at *
    generalize av (divF .n p (fme m s) (fme n 0)) = X at *
    have ec := abs_rat (c := c) (σ := sgr (sg m)) (r := V * ((n.natAbs : Int) : Rat) * (d : Rat)) (by rw [e2]; grind) σ1 (mnn (mnn (Rat.le_of_lt hpos) (Rat.le_of_lt hn')) (Rat.le_of_lt D2))
    have hw := mnn (mnn (Rat.le_of_lt hn') (Rat.le_of_lt D1)) (Rat.le_of_lt D2)
    have t1 := mulr hw f1
    have t2 := mulr hw f2
    generalize ((n.natAbs : Int) : Rat) = N at *
    have eT : ((a * n * d - c * b : Int) : Rat) = sgr (sg m) * ((X - V) * (N * (b : Rat) * (d : Rat))) := by
      rw [Rat.intCast_sub, Rat.intCast_mul, Rat.intCast_mul, Rat.intCast_mul, e1, e2, ← en]
      grind
    refine abs_chk ?_ ?_
    · rw [eT, Rat.intCast_mul, ec]
      generalize pz p.toNat = T at *
      rcases σ1 with e | e <;> rw [e] <;> grind
    · rw [eT, Rat.intCast_mul, ec]
      generalize pz p.toNat = T at *
      rcases σ1 with e | e <;> rw [e] <;> grind
theorem B1.kahan : mulF .n p (divF .n p (fme m s) (fme n 0)) (fme n 0) = fme m s := by
  by_cases h : m = 0
  · rw [fme_zero h, divF_zero, mulF_zl]
  · obtain ⟨V, hV, hpos, R⟩ := B.part_rnd h
    have hn' := cpos (show (0 : Int) < n.natAbs by have := B.n1; omega)
    have hp := B.p3
    have hm := B.hm
    have hmb := B.mb
    obtain ⟨P, rfl⟩ : ∃ P : Nat, p = P := ⟨p.toNat, by omega⟩
    rw [Int.toNat_natCast] at R
    have R2 := mul_rnd (w := .n) (p := P) (x := divF .n P (fme m s) (fme n 0)) (y := fme n 0) (by omega) R.sign.2.1 (fme_man B.n0)
    rw [R.sign.1, fme_sign B.n0, xor_back (sg_b m) (sg_b n), av_whole] at R2
    refine R2.uniq (by omega) ?_
    obtain ⟨g, a, hg, hgp, ha⟩ := B.hn
    have hmp : (0 : Int) < m.natAbs := by omega
    have hmb' : Builtin.Int.intBits (m.natAbs : Int) ≤ P := by
      have := bits_mono (a := (m.natAbs : Int)) (b := m) (by omega)
      omega
    rw [show ((P : Int) - 1).toNat = P - 1 by omega] at hm
    rcases (show g = 0 ∨ 1 ≤ g by omega) with g0 | g1
    · subst g0
      have hg2 : (n.natAbs : Int) = 1 * 2 ^ (a + 1) := by rw [hg, Int.pow_succ]; omega
      have eV : V = ((m.natAbs : Int) : Rat) * pw (s - ((a + 1 : Nat) : Int)) := by
        refine V_uniq hn' ?_
        rw [hV, hg2]
        have := pw_nat (a + 1)
        rw [Int.one_mul, ← this]
        have e1 : pw s = pw (s - ((a + 1 : Nat) : Int)) * pw ((a + 1 : Nat) : Int) := by rw [← pw_add]; congr 1; omega
        rw [e1]; grind
      rw [eV] at R
      have := R.uniq (by omega) (Rnd.exact .n (xor1 (sg m) (sg n)) hmp (by omega) hmb')
      rw [this, av_enc (by omega), ← eV, hV]
      exact Rnd.exact .n (sg m) hmp (by omega) hmb'
    · obtain ⟨q, e, hd, hav, Rq⟩ := R.av_eq
      obtain ⟨c1, c2, _, _⟩ := Rq.n rfl
      have c3 := Rq.b1
      have lo := Rq.lo
      have hi := Rq.hi
      have c2' := Rat.not_lt.mp c2
      have hN : ((n.natAbs : Int) : Rat) = ((2 ^ g + 1 : Int) : Rat) * pw a := by
        rw [hg, Int.mul_comm, Rat.intCast_mul, ← pw_nat]
      -- everything over pw (e + a)
      obtain ⟨t, ht⟩ : ∃ t : Int, t = s - (e + a) := ⟨_, rfl⟩
      have ps : pw s = pw t * pw (e + a) := by rw [← pw_add]; congr 1; omega
      have tr : ∀ A : Int, (A : Rat) * pw e * ((n.natAbs : Int) : Rat) = ((A * (2 ^ g + 1) : Int) : Rat) * pw (e + a) := fun A => by
        rw [hN, pw_add, Rat.intCast_mul]
        generalize ((2 ^ g + 1 : Int) : Rat) = G
        grind
      have k1 := (mul_le_iff hn').mpr c1
      have k2 := (mul_le_iff hn').mpr c2'
      have k3 := (mul_le_iff hn').mpr c3
      rw [tr, hV, ps, ← Rat.mul_assoc, pw_le_iff] at k1 k3
      rw [tr, hV, ps, ← Rat.mul_assoc, pw_le_iff] at k2
      have hPP := pw2 P (by omega)
      have hP1 := p2pos (P - 1)
      have hg0 := p2pos g
      have t1 : 1 ≤ t := by
        rcases Int.lt_or_le t 1 with h1 | h1
        · exfalso
          have m1 := pw_mono (show t ≤ 0 by omega)
          rw [pw_zero] at m1
          have m2 : ((m.natAbs : Int) : Rat) * pw t ≤ ((m.natAbs : Int) : Rat) * 1 := Rat.mul_le_mul_of_nonneg_left m1 (by exact_mod_cast Int.le_of_lt hmp)
          have m3 : ((2 ^ P * (2 ^ g + 1) : Int) : Rat) ≤ ((m.natAbs : Int) : Rat) := by grind
          have m4 := le_cast m3
          have m5 : (2 : Int) ^ P * 1 ≤ 2 ^ P * (2 ^ g + 1) := Int.mul_le_mul_of_nonneg_left (by omega) (by omega)
          omega
        · exact h1
      obtain ⟨S, hS⟩ : ∃ S : Nat, t = ((S + 1 : Nat) : Int) := ⟨(t - 1).toNat, by omega⟩
      rw [hS, pw_nat, ← Rat.intCast_mul] at k1 k2 k3
      have K := kahan_int (sg m) (e := e + 1 + a) g1 (by omega) hmp hm (by omega) lo hi (le_cast k1) (le_cast k2) (le_cast k3)
      rw [show e + 1 + (a : Int) + (S : Int) = s by omega] at K
      have Rf := rnd_of .n (sg m) (M := q * (2 ^ g + 1)) (e := e + 1 + a) (p := P) (Int.mul_pos (by omega) (by omega)) (by omega)
      rw [K] at Rf
      have eV : av (divF .n P (fme m s) (fme n 0)) * ((n.natAbs : Int) : Rat) = ((q * (2 ^ g + 1) : Int) : Rat) * pw (e + 1 + a) := by
        rw [hav, hN, Rat.intCast_mul, pw_add (e + 1)]
        generalize ((2 ^ g + 1 : Int) : Rat) = G
        grind
      rw [eV]
      exact Rf
theorem B1.kahan_int : mulIF .n p (divF .n p (fme m s) (fme n 0)) n = fme m s := by
  by_cases h : m = 0
  · rw [fme_zero h, divF_zero]
    unfold mulIF
    rw [if_pos (by rfl)]
  · obtain ⟨V, hV, hpos, R⟩ := B.part_rnd h
    have K := B.kahan
    have hp := B.p3
    obtain ⟨P, rfl⟩ : ∃ P : Nat, p = P := ⟨p.toNat, by omega⟩
    rw [Int.toNat_natCast] at R
    have R2 := mul_rnd (w := .n) (p := P) (x := divF .n P (fme m s) (fme n 0)) (y := fme n 0) (by omega) R.sign.2.1 (fme_man B.n0)
    have R3 := mulI_rnd (w := .n) (p := P) (x := divF .n P (fme m s) (fme n 0)) (n := n) (by omega) R.sign.2.1 B.n0
    rw [fme_sign B.n0, av_whole] at R2
    exact (R3.uniq (by omega) R2).trans K
end
end
section
section
variable {p m s n : Int} (B : B1 p m s n)
include B
theorem B1.big_ok : Ok (fme (n * 1099511627777) 0) := by
  refine ok_fme (Nat.le_trans (bits_lt (k := 80) ?_) (by decide)) (by decide) (by decide)
  have := B.nb
  omega
theorem B1.big_rnd : Rnd .n 0 p.toNat (1099511627777 : Rat) (fme 1099511627776 0) := by
  have hp := B.p3
  have hp2 := B.p18
  obtain ⟨P, rfl⟩ : ∃ P : Nat, p = P := ⟨p.toNat, by omega⟩
  rw [Int.toNat_natCast]
  have e0 : fme 1099511627776 0 = enc 0 (2 ^ (P - 1)) (40 - P + 1) := by
    have h1 := enc_shl 0 1 0 40
    have h2 := enc_shl 0 1 (40 - P + 1) (P - 1)
    rw [Int.mul_one] at h1 h2
    have h3 : fme 1099511627776 0 = enc 0 (2 ^ 40) 0 := by rfl
    rw [h3, h1, h2]
    congr 1
    omega
  refine ⟨2 ^ (P - 1), 40 - P, e0, ?_⟩
  have hPP := pw2 P (by omega)
  have hP1 := p2pos (P - 1)
  have hh : (22 : Int) ≤ 40 - (P : Int) := by omega
  have m1 := pw_mono hh
  have w22 : pw 22 = 4194304 := by
    have := pw_nat 22
    have e : ((2 ^ 22 : Int) : Rat) = 4194304 := by decide
    rw [e] at this
    exact_mod_cast this
  have w40 : ((2 ^ P : Int) : Rat) * pw (40 - P) = 1099511627776 := by
    rw [← pw_nat, ← pw_add, show (P : Int) + (40 - P) = ((40 : Nat) : Int) by omega, pw_nat]
    decide
  rw [w22] at m1
  have b2 : ((2 * 2 ^ (P - 1) - 1 : Int) : Rat) * pw (40 - P) = 1099511627776 - pw (40 - P) := by
    rw [← hPP, Rat.intCast_sub]
    have : ((1 : Int) : Rat) = 1 := rfl
    rw [this]; grind
  have b3 : ((2 * 2 ^ (P - 1) + 1 : Int) : Rat) * pw (40 - P) = 1099511627776 + pw (40 - P) := by
    rw [← hPP, Rat.intCast_add]
    have : ((1 : Int) : Rat) = 1 := rfl
    rw [this]; grind
  have b4 : ((2 ^ (P + 1) : Int) : Rat) * pw (40 - P) = 2 * 1099511627776 := by
    rw [Int.pow_succ, Rat.intCast_mul, ← w40]
    have : ((2 : Int) : Rat) = 2 := rfl
    rw [this]; grind
  refine ⟨Int.le_refl _, by omega, ?_, ?_, fun _ => ⟨?_, ?_, ?_, ?_⟩, fun h => absurd rfl h, fun h => absurd rfl h⟩
  · rw [w40]; grind
  · rw [b4]; grind
  · rw [b2]; grind
  · rw [b3]; grind
  · intro h
    exfalso
    apply h
    rw [b2]; grind
  · intro h
    exfalso
    rw [b3] at h
    grind
theorem B1.big : divF .n p (fme (n * 1099511627777) 0) (fme n 0) = fme 1099511627776 0 := by
  have R := B.big_rnd
  have h0 : n * 1099511627777 ≠ 0 := by have := B.n0; omega
  have hp := B.p3
  obtain ⟨P, rfl⟩ : ∃ P : Nat, p = P := ⟨p.toNat, by omega⟩
  rw [Int.toNat_natCast] at R
  have R2 := div_rnd (w := .n) (p := P) (x := fme (n * 1099511627777) 0) (y := fme n 0) (V := 1099511627777) (by omega) (fme_man h0) (fme_man B.n0) (fme_bc h0) (fme_bc B.n0) (by
    rw [av_whole, av_whole, show ((n * 1099511627777).natAbs : Int) = 1099511627777 * (n.natAbs : Int) by omega, Rat.intCast_mul]
    rfl)
  rw [fme_sign h0, fme_sign B.n0] at R2
  have e : xor1 (sg (n * 1099511627777)) (sg n) = 0 := by
    have h1 : sg (n * 1099511627777) = sg n := by unfold sg; split <;> split <;> omega
    rw [h1]
    unfold xor1
    rw [if_pos rfl]
  rw [e] at R2
  exact R2.uniq (by omega) R
theorem B1.okrat : Ok (divF .n p (fme m 0) (fme n 0)) := by
  have B' : B1 p m 0 n := ⟨B.p3, B.p18, B.hm, by decide, by decide, B.hn⟩
  exact B'.okpart
theorem B1.okrdiv : Ok (rdivF .n p m (fme n 0)) := by
  have B' : B1 p m 0 n := ⟨B.p3, B.p18, B.hm, by decide, by decide, B.hn⟩
  have h := B'.rdiv_eq
  have h2 := B'.okpart
  rw [← h] at h2
  unfold shiftF at h2
  split at h2
  · exact h2
  · rename_i h0
    have e : ∀ d : Mp, (⟨d.sign, d.man, d.exp + 0, d.bc⟩ : Mp) = d := fun d => by cases d; simp
    rwa [e] at h2
end
end
section
structure T (p m g k : Int) : Prop where
  p3 : 3 ≤ p
  p18 : p ≤ 18
  m0 : 0 ≤ m
  hm : m < 2 ^ p.toNat
  g1 : -8 ≤ g
  g2 : g ≤ 7
  hk : k = m ∨ k = -m
theorem okz : Ok Mp.zero := ⟨.inl rfl, by decide, by decide, by decide, by decide, by decide, fun _ => rfl⟩
theorem negF_z : negF Mp.zero = Mp.zero := by unfold negF; rw [if_pos (by rfl)]
theorem absF_z : absF Mp.zero = Mp.zero := by unfold absF; rw [if_pos (by rfl)]
theorem sqrtF_z (w : Way) (p : Int) : sqrtF w p Mp.zero = Mp.zero := by unfold sqrtF; rw [if_pos (by rfl)]
theorem negF_n {d : Mp} (h : 0 < d.man) : negF d = ⟨1 - d.sign, d.man, d.exp, d.bc⟩ := by unfold negF; rw [if_neg (by omega)]
theorem neg_av (d : Mp) : av (negF d) = av d := by unfold negF av; split <;> rfl
section
variable {p m g k : Int} (B : T p m g k)
include B
theorem T.mb : Builtin.Int.intBits m ≤ p.toNat := bits_lt (by have := B.hm; have := B.m0; omega)
theorem T.kb : Builtin.Int.intBits k ≤ p.toNat := bits_lt (by have := B.hm; have := B.m0; have := B.hk; omega)
theorem T.kabs : (k.natAbs : Int) = m := by have := B.m0; have := B.hk; omega
theorem T.ok : Ok (fme k g) := ok_fme (by have := B.kb; have := B.p18; omega) (by have := B.g1; omega) (by have := B.g2; omega)
theorem T.okp : Ok (fme m g) := ok_fme (by have := B.mb; have := B.p18; omega) (by have := B.g1; omega) (by have := B.g2; omega)
theorem T.plain0 : fme m g = enc 0 m g := by
  unfold fme sg
  rw [if_neg (by have := B.m0; omega), show (m.natAbs : Int) = m by have := B.m0; omega]
theorem T.psign : (fme m g).sign = 0 := by
  rw [B.plain0]
  unfold enc
  split <;> rfl
theorem T.kne (h : m ≠ 0) : k ≠ 0 := by have := B.hk; omega
theorem T.kz (h : m = 0) : k = 0 := by have := B.hk; omega
theorem T.avx : av (fme k g) = (m : Rat) * pw g := by rw [av_fme, B.kabs]
theorem T.avp : av (fme m g) = (m : Rat) * pw g := by rw [av_fme, show (m.natAbs : Int) = m by have := B.m0; omega]
theorem T.abs : absF (fme k g) = fme m g := by
  by_cases h : m = 0
  · rw [fme_zero h, fme_zero (B.kz h), absF_z]
  · have hk := B.kne h
    unfold absF
    rw [if_neg (fme_ne hk), B.plain0]
    unfold fme enc
    rw [if_neg (by omega), if_neg h, B.kabs]
theorem T.bd (h : m ≠ 0) : pw (-8) ≤ (m : Rat) * pw g ∧ (m : Rat) * pw g ≤ pw 25 := by
  have hp := B.p18
  have h1 := B.m0
  have h2 := B.hm
  have e1 := B.g1
  have e2 := B.g2
  constructor
  · have m1 := pw_mono e1
    have := mulr (Rat.le_of_lt (pw_pos g)) (show (1 : Rat) ≤ (m : Rat) by exact_mod_cast (show (1 : Int) ≤ m by omega))
    grind
  · have m1 : (m : Rat) ≤ pw ((18 : Nat) : Int) := by
      rw [pw_nat]
      have : (2 : Int) ^ p.toNat ≤ 2 ^ 18 := pow_le (by omega)
      exact_mod_cast (show m ≤ 2 ^ 18 by omega)
    have m2 := mulr (Rat.le_of_lt (pw_pos g)) m1
    have m3 := pw_mono (show ((18 : Nat) : Int) + g ≤ 25 by omega)
    rw [pw_add] at m3
    exact Rat.le_trans m2 m3
theorem T.num (h : m ≠ 0) : Num 0 p.toNat (-8) 25 (fme m g) := by
  obtain ⟨b1, b2⟩ := B.bd h
  have h0 := B.m0
  rw [B.plain0]
  exact enc_num (by omega) (Nat.le_trans (od_bits (by omega)) B.mb) b1 b2
theorem T.numk (h : m ≠ 0) : Num (sg k) p.toNat (-8) 25 (fme k g) := by
  obtain ⟨b1, b2⟩ := B.bd h
  have h0 := B.m0
  unfold fme
  rw [B.kabs]
  exact enc_num (by omega) (Nat.le_trans (od_bits (by omega)) B.mb) b1 b2
theorem T.pnat : ((p.toNat : Nat) : Int) = p := by have := B.p3; omega
theorem T.formp : FormOk (fme m g) p := by
  by_cases h : m = 0
  · rw [fme_zero h]; exact form_zero p
  · have := (B.num h).form (.inl rfl)
    rwa [B.pnat] at this
theorem T.sq_rnd (w : Way) (h : m ≠ 0) : Rnd w 0 p.toNat ((m : Rat) * pw g * ((m : Rat) * pw g)) (mulF w p (fme k g) (fme k g)) := by
  have hk := B.kne h
  have R := mul_rnd (w := w) (p := p.toNat) (x := fme k g) (y := fme k g) (by have := B.p3; omega) (fme_man hk) (fme_man hk)
  rw [B.avx, B.pnat] at R
  have e : xor1 (fme k g).sign (fme k g).sign = 0 := by unfold xor1; rw [if_pos rfl]
  rwa [e] at R
theorem T.sq_bd (h : m ≠ 0) : pw (-16) ≤ (m : Rat) * pw g * ((m : Rat) * pw g) ∧ (m : Rat) * pw g * ((m : Rat) * pw g) ≤ pw 50 := by
  obtain ⟨b1, b2⟩ := B.bd h
  have p1 := pw_pos (-8)
  rw [show (-16 : Int) = -8 + -8 by decide, show (50 : Int) = 25 + 25 by decide, pw_sq, pw_sq]
  exact ⟨sq_mono (Rat.le_of_lt p1) b1, sq_mono (by grind) b2⟩
theorem T.sq_num (w : Way) (h : m ≠ 0) : Num 0 p.toNat (-16) 50 (mulF w p (fme k g) (fme k g)) := by
  obtain ⟨b1, b2⟩ := B.sq_bd h
  exact (B.sq_rnd w h).num (by have := B.p3; omega) b1 b2
theorem T.sq_zero (w : Way) (h : m = 0) : mulF w p (fme k g) (fme k g) = Mp.zero := by rw [fme_zero (B.kz h), mulF_zl]
theorem T.sq_ok (w : Way) : Ok (mulF w p (fme k g) (fme k g)) := by
  by_cases h : m = 0
  · rw [B.sq_zero w h]; exact okz
  · exact (B.sq_num w h).ok (.inl rfl) (by have := B.p18; omega) (by decide) (by decide)
theorem T.sq_sign (w : Way) : (mulF w p (fme k g) (fme k g)).sign = 0 := by
  by_cases h : m = 0
  · rw [B.sq_zero w h]; rfl
  · exact (B.sq_num w h).sg
theorem T.sq_form (w : Way) : FormOk (mulF w p (fme k g) (fme k g)) p := by
  by_cases h : m = 0
  · rw [B.sq_zero w h]; exact form_zero p
  · have := (B.sq_num w h).form (.inl rfl)
    rwa [B.pnat] at this
theorem T.sq_err (w : Way) : ((vN (mulF w p (fme k g) (fme k g)) * vD (fme m g) * vD (fme m g) - vN (fme m g) * vN (fme m g) * vD (mulF w p (fme k g) (fme k g))).natAbs : Int) * 2 ^ (p - 1).toNat ≤ vN (fme m g) * vN (fme m g) * vD (mulF w p (fme k g) (fme k g)) := by
  by_cases h : m = 0
  · rw [B.sq_zero w h, fme_zero h, vN_zero]
    simp
  · have R := B.sq_rnd w h
    have hp := B.p3
    obtain ⟨f1, f2⟩ := any_bd (by omega) R
    have e1 := vN_av (mulF w p (fme k g) (fme k g))
    have e2 := vN_av (fme m g)
    rw [R.sign.1] at e1
    rw [B.psign, B.avp] at e2
    have s0 : sgr 0 = 1 := rfl
    rw [s0] at e1 e2
    have D1 := vD_r (mulF w p (fme k g) (fme k g))
    have D2 := vD_r (fme m g)
    rw [show (p - 1).toNat = p.toNat - 1 by omega]
    generalize vN (mulF w p (fme k g) (fme k g)) = a at *
    generalize vD (mulF w p (fme k g) (fme k g)) = b at *
    generalize vN (fme m g) = c at *
    generalize vD (fme m g) = d at *
    generalize av (mulF w p (fme k g) (fme k g)) = X at *
    generalize (m : Rat) * pw g = Z at *
    have hw := mnn (mnn (Rat.le_of_lt D1) (Rat.le_of_lt D2)) (Rat.le_of_lt D2)
    have t1 := mulr hw f1
    have t2 := mulr hw f2
    have eT : ((a * d * d - c * c * b : Int) : Rat) = (X - Z * Z) * ((b : Rat) * (d : Rat) * (d : Rat)) := by
      rw [Rat.intCast_sub, Rat.intCast_mul, Rat.intCast_mul, Rat.intCast_mul, Rat.intCast_mul, e1, e2]
      grind
    have eS : ((c * c * b : Int) : Rat) = (Z * Z) * ((b : Rat) * (d : Rat) * (d : Rat)) := by
      rw [Rat.intCast_mul, Rat.intCast_mul, e2]
      grind
    refine abs_chk ?_ ?_
    · rw [eT, eS]
      generalize pz (p.toNat - 1) = W at *
      grind
    · rw [eT, eS]
      generalize pz (p.toNat - 1) = W at *
      grind
theorem T.back (w back : Way) (hm : Match w 0 back) : sqrtF back p (mulF w p (fme k g) (fme k g)) = fme m g := by
  by_cases h : m = 0
  · rw [B.sq_zero w h, fme_zero h, sqrtF_z]
  · have R := B.sq_rnd w h
    have hp := B.p3
    have h0 := B.m0
    have S1 := square_back (by omega) (by omega) B.mb hm R
    have S2 := sqrt_rnd (w := back) (p := p.toNat) (x := mulF w p (fme k g) (fme k g)) (by omega) R.sign.2.1 R.sign.2.2
    rw [B.pnat] at S2
    rw [B.plain0]
    exact S2.uniq (by omega) S1
theorem T.neg_ok : Ok (negF (fme k g)) := by
  have o := B.ok
  by_cases h : m = 0
  · rw [fme_zero (B.kz h), negF_z]; exact okz
  · have hk := fme_man (e := g) (B.kne h)
    rw [negF_n hk]
    exact ⟨by have := o.sg; show 1 - (fme k g).sign = (0 : Int) ∨ 1 - (fme k g).sign = 1; omega, o.mn, o.bc, o.sz, o.e1, o.e2, fun x => absurd x (Int.ne_of_gt hk)⟩
theorem T.msq_rnd (w : Way) (h : m ≠ 0) : Rnd w 1 p.toNat ((m : Rat) * pw g * ((m : Rat) * pw g)) (mulF w p (fme k g) (negF (fme k g))) := by
  have hk := fme_man (e := g) (B.kne h)
  have R := mul_rnd (w := w) (p := p.toNat) (x := fme k g) (y := negF (fme k g)) (by have := B.p3; omega) hk (by rw [negF_n hk]; exact hk)
  rw [neg_av, B.avx, B.pnat] at R
  have e : xor1 (fme k g).sign (negF (fme k g)).sign = 1 := by
    rw [negF_n hk]
    show xor1 (fme k g).sign (1 - (fme k g).sign) = 1
    unfold xor1
    rw [if_neg (by omega)]
  rwa [e] at R
theorem T.msq_num (w : Way) (h : m ≠ 0) : Num 1 p.toNat (-16) 50 (mulF w p (fme k g) (negF (fme k g))) := by
  obtain ⟨b1, b2⟩ := B.sq_bd h
  exact (B.msq_rnd w h).num (by have := B.p3; omega) b1 b2
theorem T.msq_zero (w : Way) (h : m = 0) : mulF w p (fme k g) (negF (fme k g)) = Mp.zero := by rw [fme_zero (B.kz h), mulF_zl]
theorem T.msq_ok (w : Way) : Ok (mulF w p (fme k g) (negF (fme k g))) := by
  by_cases h : m = 0
  · rw [B.msq_zero w h]; exact okz
  · exact (B.msq_num w h).ok (.inr rfl) (by have := B.p18; omega) (by decide) (by decide)
theorem T.msq_form (w : Way) : FormOk (mulF w p (fme k g) (negF (fme k g))) p := by
  by_cases h : m = 0
  · rw [B.msq_zero w h]; exact form_zero p
  · have := (B.msq_num w h).form (.inr rfl)
    rwa [B.pnat] at this
theorem T.nmsq_ok (w : Way) : Ok (negF (mulF w p (fme k g) (negF (fme k g)))) ∧ (negF (mulF w p (fme k g) (negF (fme k g)))).sign = 0 := by
  have o := B.msq_ok w
  by_cases h : m = 0
  · rw [B.msq_zero w h, negF_z]; exact ⟨okz, rfl⟩
  · have N := B.msq_num w h
    rw [negF_n N.mn, N.sg]
    exact ⟨⟨.inl rfl, o.mn, o.bc, o.sz, o.e1, o.e2, fun x => absurd x (Int.ne_of_gt N.mn)⟩, rfl⟩
theorem T.mback (w back : Way) (hm : Match w 1 back) : sqrtF back p (negF (mulF w p (fme k g) (negF (fme k g)))) = fme m g := by
  by_cases h : m = 0
  · rw [B.msq_zero w h, negF_z, fme_zero h, sqrtF_z]
  · have R := B.msq_rnd w h
    have hp := B.p3
    have h0 := B.m0
    have S1 := square_back (by omega) (by omega) B.mb hm R
    have hn := negF_n R.sign.2.1
    have S2 := sqrt_rnd (w := back) (p := p.toNat) (x := negF (mulF w p (fme k g) (negF (fme k g)))) (by omega) (by rw [hn]; exact R.sign.2.1) (by rw [hn]; exact R.sign.2.2)
    rw [B.pnat, neg_av] at S2
    rw [B.plain0]
    exact S2.uniq (by omega) S1
theorem T.root_num (w : Way) (h : m ≠ 0) : Num 0 p.toNat (-4) 13 (sqrtF w p (fme m g)) := by
  have N := B.num h
  have R := sqrt_rnd (w := w) (p := p.toNat) (x := fme m g) (by have := B.p3; omega) N.mn N.bc
  rw [B.pnat] at R
  exact R.num (by have := B.p3; omega) N.lo (Rat.le_trans N.hi (pw_mono (by decide)))
theorem T.root_ok (w : Way) (h : m ≠ 0) : Ok (sqrtF w p (fme m g)) := (B.root_num w h).ok (.inl rfl) (by have := B.p18; omega) (by decide) (by decide)
theorem T.root_form (w : Way) (h : m ≠ 0) : FormOk (sqrtF w p (fme m g)) p := by
  have := (B.root_num w h).form (.inl rfl)
  rwa [B.pnat] at this
theorem T.pz8 : 8 ≤ pz p.toNat ∧ pz p.toNat = 8 * pz (p - 3).toNat := by
  have hp := B.p3
  have e1 : (2 : Int) ^ p.toNat = 8 * 2 ^ (p - 3).toNat := by
    rw [show p.toNat = 3 + (p - 3).toNat by omega, Int.pow_add]
    rfl
  have e2 := p2pos (p - 3).toNat
  unfold pz
  constructor
  · exact_mod_cast (show (8 : Int) ≤ 2 ^ p.toNat by omega)
  · rw [e1, Rat.intCast_mul]; rfl
theorem T.root_over (w : Way) (h : m ≠ 0) (hw : w ≠ .n) : (wayDn w 0 = true → vN (sqrtF w p (fme m g)) * vN (sqrtF w p (fme m g)) * vD (fme m g) - vN (fme m g) * vD (sqrtF w p (fme m g)) * vD (sqrtF w p (fme m g)) ≤ 0 ∧ -(vN (sqrtF w p (fme m g)) * vN (sqrtF w p (fme m g)) * vD (fme m g) - vN (fme m g) * vD (sqrtF w p (fme m g)) * vD (sqrtF w p (fme m g))) * 2 ^ (p - 3).toNat ≤ vN (fme m g) * vD (sqrtF w p (fme m g)) * vD (sqrtF w p (fme m g))) ∧
    (wayDn w 0 = false → -(vN (sqrtF w p (fme m g)) * vN (sqrtF w p (fme m g)) * vD (fme m g) - vN (fme m g) * vD (sqrtF w p (fme m g)) * vD (sqrtF w p (fme m g))) ≤ 0 ∧ (vN (sqrtF w p (fme m g)) * vN (sqrtF w p (fme m g)) * vD (fme m g) - vN (fme m g) * vD (sqrtF w p (fme m g)) * vD (sqrtF w p (fme m g))) * 2 ^ (p - 3).toNat ≤ vN (fme m g) * vD (sqrtF w p (fme m g)) * vD (sqrtF w p (fme m g))) := by
  have N := B.num h
  have hp := B.p3
  have R := sqrt_rnd (w := w) (p := p.toNat) (x := fme m g) (by omega) N.mn N.bc
  rw [B.pnat] at R
  have e1 := vN_av (sqrtF w p (fme m g))
  have e2 := vN_av (fme m g)
  rw [R.sign.1] at e1
  rw [B.psign] at e2
  have s0 : sgr 0 = 1 := rfl
  rw [s0] at e1 e2
  obtain ⟨P8, P3⟩ := B.pz8
  have D1 := vD_r (sqrtF w p (fme m g))
  have D2 := vD_r (fme m g)
  have lem : (wayDn w 0 = true → (av (fme m g) - av (sqrtF w p (fme m g)) * av (sqrtF w p (fme m g))) * pz p.toNat ≤ 8 * av (fme m g) ∧ av (sqrtF w p (fme m g)) * av (sqrtF w p (fme m g)) ≤ av (fme m g)) ∧
      (wayDn w 0 = false → (av (sqrtF w p (fme m g)) * av (sqrtF w p (fme m g)) - av (fme m g)) * pz p.toNat ≤ 8 * av (fme m g) ∧ av (fme m g) ≤ av (sqrtF w p (fme m g)) * av (sqrtF w p (fme m g))) := by
    refine ⟨fun hd => ?_, fun hd => ?_⟩
    · obtain ⟨H, h0, h1, h2, h3, h4⟩ := dn_root (by omega) hw hd R
      exact ⟨dn8 (by grind) h0 h1 h2 h3 h4, h4⟩
    · obtain ⟨H, h0, h1, h2, h3, h4⟩ := up_root (by omega) hw hd R
      exact ⟨up8 (by grind) h0 h1 h2 h3, h4⟩
  generalize vN (sqrtF w p (fme m g)) = a at *
  generalize vD (sqrtF w p (fme m g)) = b at *
  generalize vN (fme m g) = c at *
  generalize vD (fme m g) = d at *
  generalize av (sqrtF w p (fme m g)) = X at *
  generalize av (fme m g) = Z at *
  have eT : ((a * a * d - c * b * b : Int) : Rat) = (X * X - Z) * ((b : Rat) * (b : Rat) * (d : Rat)) := by
    rw [Rat.intCast_sub, Rat.intCast_mul, Rat.intCast_mul, Rat.intCast_mul, Rat.intCast_mul, e1, e2]
    grind
  have eS : ((c * b * b : Int) : Rat) = Z * ((b : Rat) * (b : Rat) * (d : Rat)) := by
    rw [Rat.intCast_mul, Rat.intCast_mul, e2]
    grind
  have hw := mnn (mnn (Rat.le_of_lt D1) (Rat.le_of_lt D1)) (Rat.le_of_lt D2)
  have z0 : ((0 : Int) : Rat) = 0 := rfl
  have pz3 : ((2 ^ (p - 3).toNat : Int) : Rat) = pz (p - 3).toNat := rfl
  generalize a * a * d - c * b * b = O at *
  generalize c * b * b = S at *
  refine ⟨fun hd => ?_, fun hd => ?_⟩
  · obtain ⟨f1, f2⟩ := lem.1 hd
    have t1 := mulr hw f1
    have t2 := mulr hw f2
    refine ⟨le_cast ?_, le_cast ?_⟩
    · rw [eT, z0]; grind
    · rw [Rat.intCast_mul, Rat.intCast_neg, eT, eS, pz3]
      rw [P3] at t1
      generalize pz (p - 3).toNat = W at *
      grind
  · obtain ⟨f1, f2⟩ := lem.2 hd
    have t1 := mulr hw f1
    have t2 := mulr hw f2
    refine ⟨le_cast ?_, le_cast ?_⟩
    · rw [Rat.intCast_neg, eT, z0]; grind
    · rw [Rat.intCast_mul, eT, eS, pz3]
      rw [P3] at t1
      generalize pz (p - 3).toNat = W at *
      grind
end
end
section
theorem canc {a b c : Rat} (hc : 0 < c) (h : a * c ≤ b * c) : a ≤ b := (mul_le_iff hc).mp h
theorem sum8_up {T X Y x2 y2 t L x1 y1 : Rat} (hT : 8 ≤ T) (hL : 0 < L) (hX : 0 ≤ X) (hY : 0 ≤ Y) (hx1 : 0 ≤ x1) (hy1 : 0 ≤ y1)
    (a1 : x1 * L * (T + 1) ≤ X * (T + 2)) (a2 : y1 * L * (T + 1) ≤ Y * (T + 2)) (b1 : X * X * T ≤ x2 * (T + 1)) (b2 : Y * Y * T ≤ y2 * (T + 1)) (c : (x2 + y2) * T ≤ t * (T + 1)) (d : t * (T * T) ≤ (T + 1) * (T + 1) * (L * L)) :
    (x1 * x1 + y1 * y1) * T ≤ T + 8 := by
  have T0 : 0 ≤ T := by grind
  have T1 : 0 ≤ T + 1 := by grind
  have T2 : 0 ≤ T + 2 := by grind
  have T1p : 0 < T + 1 := by grind
  have TT := mnn T0 T0
  have LL := Rat.mul_pos hL hL
  have s1 := sq_mono (mnn (mnn hx1 (Rat.le_of_lt hL)) T1) a1
  have s2 := sq_mono (mnn (mnn hy1 (Rat.le_of_lt hL)) T1) a2
  -- S T^4 ≤ (T+1)^4 L²
  have u1 : (X * X + Y * Y) * T ≤ (x2 + y2) * (T + 1) := by grind
  have u2 : (X * X + Y * Y) * (T * T) ≤ t * ((T + 1) * (T + 1)) := by
    have v1 := mulr T0 u1
    have v2 := mulr T1 c
    grind
  have u3 : (X * X + Y * Y) * (T * T) * (T * T) ≤ (T + 1) * (T + 1) * (L * L) * ((T + 1) * (T + 1)) := by
    have v1 := mulr TT u2
    have v2 := mulr (mnn T1 T1) d
    grind
  have u4 : (x1 * x1 + y1 * y1) * (L * L) * ((T + 1) * (T + 1)) ≤ (X * X + Y * Y) * ((T + 2) * (T + 2)) := by grind
  have u5 : (x1 * x1 + y1 * y1) * (T * T) * (T * T) * ((L * L) * ((T + 1) * (T + 1))) ≤ ((T + 1) * (T + 2)) * ((T + 1) * (T + 2)) * ((L * L) * ((T + 1) * (T + 1))) := by
    have v1 := mulr (mnn TT TT) u4
    have v2 := mulr (mnn T2 T2) u3
    clear s1 s2 u1 u2 u3 u4 a1 a2 b1 b2 c d
    generalize x1 * x1 + y1 * y1 = N at *
    generalize X * X + Y * Y = S at *
    generalize L * L = K at *
    grind
  have u6 := canc (Rat.mul_pos LL (Rat.mul_pos T1p T1p)) u5
  have u7 : ((T + 1) * (T + 2)) * ((T + 1) * (T + 2)) ≤ (T + 8) * T * (T * T) := by
    have w1 := mulr T0 hT
    have w2 := mulr TT hT
    grind
  have T3 : 0 < T * (T * T) := Rat.mul_pos (by grind) (Rat.mul_pos (by grind) (by grind))
  refine canc T3 ?_
  clear s1 s2 u1 u2 u3 u4 u5 a1 a2 b1 b2 c d
  generalize x1 * x1 + y1 * y1 = N at *
  grind
theorem sum8_dn {T X Y x2 y2 t L x1 y1 : Rat} (hT : 8 ≤ T) (hL : 0 < L) (hX : 0 ≤ X) (hY : 0 ≤ Y) (hx1 : 0 ≤ x1) (hy1 : 0 ≤ y1)
    (a1 : X * (T - 1) ≤ x1 * L * T) (a2 : Y * (T - 1) ≤ y1 * L * T) (b1 : x2 * T ≤ X * X * (T + 1)) (b2 : y2 * T ≤ Y * Y * (T + 1)) (c : t * T ≤ (x2 + y2) * (T + 1)) (d : L * L * (T * T) ≤ (T + 1) * (T + 1) * t) :
    T - 8 ≤ (x1 * x1 + y1 * y1) * T := by
  have T0 : 0 ≤ T := by grind
  have Tp : 0 < T := by grind
  have T1 : 0 ≤ T + 1 := by grind
  have Tm : 0 ≤ T - 1 := by grind
  have T1p : 0 < T + 1 := by grind
  have TT := mnn T0 T0
  have LL := Rat.mul_pos hL hL
  have s1 := sq_mono (mnn hX Tm) a1
  have s2 := sq_mono (mnn hY Tm) a2
  have u1 : (x2 + y2) * T ≤ (X * X + Y * Y) * (T + 1) := by grind
  have u2 : t * (T * T) ≤ (X * X + Y * Y) * ((T + 1) * (T + 1)) := by
    have v1 := mulr T0 c
    have v2 := mulr T1 u1
    grind
  have u3 : L * L * (T * T) * (T * T) ≤ (X * X + Y * Y) * ((T + 1) * (T + 1)) * ((T + 1) * (T + 1)) := by
    have v1 := mulr TT d
    have v2 := mulr (mnn T1 T1) u2
    grind
  have u4 : (X * X + Y * Y) * ((T - 1) * (T - 1)) ≤ (x1 * x1 + y1 * y1) * (L * L) * (T * T) := by grind
  have u5 : (T * (T - 1)) * (T * (T - 1)) * ((L * L) * (T * T)) ≤ (x1 * x1 + y1 * y1) * (((T + 1) * (T + 1)) * ((T + 1) * (T + 1))) * ((L * L) * (T * T)) := by
    have v1 := mulr (mnn Tm Tm) u3
    have v2 := mulr (mnn (mnn T1 T1) (mnn T1 T1)) u4
    clear s1 s2 u1 u2 u3 u4 a1 a2 b1 b2 c d
    generalize x1 * x1 + y1 * y1 = N at *
    generalize X * X + Y * Y = S at *
    generalize L * L = K at *
    grind
  have u6 := canc (Rat.mul_pos LL (Rat.mul_pos Tp Tp)) u5
  have u7 : (T - 8) * (((T + 1) * (T + 1)) * ((T + 1) * (T + 1))) ≤ (T * (T - 1)) * (T * (T - 1)) * T := by
    have w1 := mnn TT T0
    have w2 := mnn TT TT
    grind
  have T4 : 0 < ((T + 1) * (T + 1)) * ((T + 1) * (T + 1)) := Rat.mul_pos (Rat.mul_pos T1p T1p) (Rat.mul_pos T1p T1p)
  have u8 := mulr T0 u6
  refine canc T4 ?_
  clear s1 s2 u1 u2 u3 u4 u5 u6 a1 a2 b1 b2 c d
  generalize x1 * x1 + y1 * y1 = N at *
  generalize ((T + 1) * (T + 1)) * ((T + 1) * (T + 1)) = F at *
  grind
theorem hypr3 {T S s L : Rat} (hT : 8 ≤ T) (hs : 0 ≤ s) (a1 : s ≤ S) (a2 : (S - s) * (8 * T) ≤ S) (b1 : 2 * ((L * L - s) * T) ≤ 5 * s) (b2 : 2 * ((s - L * L) * T) ≤ 5 * s) : (L * L - S) * T ≤ 3 * S ∧ (S - L * L) * T ≤ 3 * S := by
  have T0 : 0 ≤ T := by grind
  have h1 := mulr T0 a1
  constructor <;> grind
end
section
theorem Num.exact {s : Int} {p : Nat} {a b : Int} {d : Mp} (w : Way) (hp : 1 ≤ p) (h : Num s p a b d) : d = enc s d.man d.exp ∧ Rnd w s p (av d) d := by
  have e : d = enc s d.man d.exp := by
    have t := tz_odd h.od
    have o : odF d.man = d.man := by unfold odF; rw [t]; simp
    unfold enc
    rw [if_neg (Int.ne_of_gt h.mn), t, o, ← h.bc, ← h.sg]
    cases d
    simp
  refine ⟨e, ?_⟩
  have := Rnd.exact w s (e := d.exp) h.mn hp h.bp
  rw [← e] at this
  exact this
theorem dn_bd {w : Way} {s : Int} {p : Nat} {V : Rat} {d : Mp} (hw : w ≠ .n) (hd : wayDn w s = true) (h : Rnd w s p V d) : av d ≤ V := by
  obtain ⟨q, e, rfl, hav, R⟩ := h.av_eq
  obtain ⟨a, b⟩ := R.d hw hd
  rw [hav, two_q]
  exact a
theorem square_back4 {p : Nat} {X g : Int} {d : Mp} (hp : 3 ≤ p) (lo : (2 : Int) ^ (p - 1) ≤ X) (hi : X < 2 ^ p) (R0 : Rnd .d 0 (p + 4) (((X * X : Int) : Rat) * pw (g + g)) d) : RndS .n 0 p (av d) (enc 0 X g) := by
  have PP := p2pos (p - 1)
  have P1 := pw2 p (by omega)
  have P2 : (2 : Int) ^ 2 ≤ 2 ^ (p - 1) := pow_le (by omega)
  -- Y in whole quarter units
  have le := dn_bd (by decide) (by rfl) R0
  have er := (any_bd (by omega) R0).2
  have lo' : pw (((p - 1 + (p - 1) : Nat) : Int) + (g + g)) ≤ av d := by
    refine (R0.num (a := ((p - 1 + (p - 1) : Nat) : Int) + (g + g)) (b := ((p + p : Nat) : Int) + (g + g)) (by omega) ?_ ?_).lo
    · rw [pw_add, pw_nat, pw_le_iff]
      have := Int.mul_le_mul lo lo (by omega) (by omega)
      rw [← Int.pow_add] at this
      exact_mod_cast this
    · rw [pw_add ((p + p : Nat) : Int), pw_nat, pw_le_iff]
      have := Int.mul_le_mul (Int.le_of_lt hi) (Int.le_of_lt hi) (by omega) (by omega)
      rw [← Int.pow_add] at this
      exact_mod_cast this
  have U := pw_pos (g + g)
  have hr : (X : Rat) ≤ pz p := by
    unfold pz
    exact_mod_cast Int.le_of_lt hi
  have hX4 : (4 : Rat) ≤ (X : Rat) := by exact_mod_cast (show (4 : Int) ≤ X by omega)
  have p8 : pz (p + 4 - 1) = 8 * pz p := by
    unfold pz
    rw [show p + 4 - 1 = 3 + p by omega, Int.pow_add, Rat.intCast_mul]
    rfl
  rw [p8] at er
  have PZ := pz_pos p
  rw [Rat.intCast_mul] at le er
  generalize hY : av d = Y at *
  have key : (X : Rat) * X * pw (g + g) - Y ≤ (X : Rat) * pw (g + g) * (1 / 8) := by
    refine canc PZ ?_
    have := mulr (mnn (show (0 : Rat) ≤ (X : Rat) by grind) (Rat.le_of_lt U)) hr
    generalize pz p = T at *
    generalize pw (g + g) = u at *
    generalize (X : Rat) = x at *
    grind
  have sq : ∀ B : Int, (B : Rat) * pw (g - 1) * ((B : Rat) * pw (g - 1)) = (B : Rat) * (B : Rat) * pw (g + g) * (1 / 4) := fun B => by
    have : pw (g + g) = 4 * (pw (g - 1) * pw (g - 1)) := by
      rw [← pw_add, show g + g = (g - 1 + (g - 1)) + ((2 : Nat) : Int) by omega, pw_add, pw_nat]
      have : ((2 ^ 2 : Int) : Rat) = 4 := by decide
      rw [this]; grind
    rw [this]; grind
  have m1 := mulr (Rat.le_of_lt U) hX4
  have e1 : ((2 * X - 1 : Int) : Rat) = 2 * (X : Rat) - 1 := by rw [Rat.intCast_sub, Rat.intCast_mul]; rfl
  have e2 : ((2 * X + 1 : Int) : Rat) = 2 * (X : Rat) + 1 := by rw [Rat.intCast_add, Rat.intCast_mul]; rfl
  refine ⟨X, g - 1, by congr 1; omega, lo, by omega, ?_, ?_, fun _ => ⟨?_, ?_, ?_, ?_⟩, fun h => absurd rfl h, fun h => absurd rfl h⟩
  · show _ * _ ≤ Y
    rw [sq]
    have e3 : ((2 ^ p : Int) : Rat) * ((2 ^ p : Int) : Rat) * pw (g + g) * (1 / 4) = pw (((p - 1 + (p - 1) : Nat) : Int) + (g + g)) := by
      rw [pw_add ((p - 1 + (p - 1) : Nat) : Int), pw_nat, Int.pow_add, Rat.intCast_mul, P1, Rat.intCast_mul]
      have : ((2 : Int) : Rat) = 2 := rfl
      rw [this]; grind
    rw [e3]; exact lo'
  · show ¬ _ * _ ≤ Y
    rw [sq, Int.pow_succ, Rat.intCast_mul]
    have t2 : ((2 : Int) : Rat) = 2 := rfl
    have hx : (X : Rat) + 1 ≤ pz p := by
      unfold pz
      have : ((X + 1 : Int) : Rat) ≤ ((2 ^ p : Int) : Rat) := by exact_mod_cast hi
      rw [Rat.intCast_add] at this
      exact this
    change ¬ pz p * _ * (pz p * _) * _ * _ ≤ Y
    rw [t2]
    have s1 := sq_mono (show (0 : Rat) ≤ (X : Rat) + 1 by grind) hx
    have s2 := mulr (Rat.le_of_lt U) s1
    generalize pz p = T at *
    generalize pw (g + g) = u at *
    generalize (X : Rat) = x at *
    grind
  · show _ * _ ≤ Y
    rw [sq, e1]
    generalize pw (g + g) = u at *
    generalize (X : Rat) = x at *
    grind
  · show ¬ _ * _ < Y
    rw [sq, e2]
    generalize pw (g + g) = u at *
    generalize (X : Rat) = x at *
    grind
  · intro h
    exfalso
    apply h
    show _ * _ < Y
    rw [sq, e1]
    generalize pw (g + g) = u at *
    generalize (X : Rat) = x at *
    grind
  · intro h
    exfalso
    change _ * _ ≤ Y at h
    rw [sq, e2] at h
    generalize pw (g + g) = u at *
    generalize (X : Rat) = x at *
    grind
theorem square_back5 {p : Nat} {m g : Int} {d : Mp} (hp : 3 ≤ p) (h0 : 0 < m) (hb : Builtin.Int.intBits m ≤ p) (R0 : Rnd .d 0 (p + 4) ((m : Rat) * pw g * ((m : Rat) * pw g)) d) : RndS .n 0 p (av d) (enc 0 m g) := by
  obtain ⟨j, X, hX, lo, hi⟩ := full_bits h0 hb
  have e1 : (m : Rat) * pw g = (X : Rat) * pw (g - j) := by
    have := pw_up m (g - j) j
    rw [show g - (j : Int) + j = g by omega] at this
    rw [this, hX, Int.mul_comm]
  have e2 : (m : Rat) * pw g * ((m : Rat) * pw g) = ((X * X : Int) : Rat) * pw ((g - j) + (g - j)) := by rw [e1, pw_add, Rat.intCast_mul]; grind
  rw [e2] at R0
  have := square_back4 hp lo hi R0
  rw [hX, enc_shl] at this
  rwa [show g - (j : Int) + j = g by omega] at this
end
section
abbrev sqF (p k g : Int) : Mp := mulF .n p (fme k g) (fme k g)
abbrev totF (p k g q h : Int) : Mp := addF .n p (sqF p k g) (sqF p q h)
abbrev lenF (p k g q h : Int) : Mp := sqrtF .n p (totF p k g q h)
abbrev othF (p k g q h : Int) : Mp := hypotF p (fme k g) (fme q h)
structure B2 (p m g k n h q : Int) : Prop where
  tx : T p m g k
  ty : T p n h q
  hn : n ≠ 0
section
variable {p m g k : Int} (B : T p m g k)
include B
theorem T.zn : 0 ≤ (m : Rat) * pw g := Rat.mul_nonneg (by exact_mod_cast B.m0) (Rat.le_of_lt (pw_pos g))
theorem T.zp (h : m ≠ 0) : 0 < (m : Rat) * pw g := by have := (B.bd h).1; have := pw_pos (-8); grind
theorem T.sq_near : (av (sqF p k g) - (m : Rat) * pw g * ((m : Rat) * pw g)) * pz p.toNat ≤ (m : Rat) * pw g * ((m : Rat) * pw g) ∧ ((m : Rat) * pw g * ((m : Rat) * pw g)) * pz p.toNat ≤ av (sqF p k g) * (pz p.toNat + 1) ∧ 0 ≤ av (sqF p k g) := by
  by_cases h : m = 0
  · have e := B.sq_zero .n h
    unfold sqF
    rw [e, av_zero, h]
    have : ((0 : Int) : Rat) = 0 := rfl
    rw [this]
    refine ⟨by grind, by grind, by grind⟩
  · have R := B.sq_rnd .n h
    obtain ⟨a, _, c, _⟩ := near_bd (by have := B.p3; omega) R
    exact ⟨a, c, av_nn (Int.le_of_lt R.sign.2.1)⟩
theorem T.sq_hi : av (sqF p k g) ≤ pw 50 ∧ -34 ≤ (sqF p k g).exp ∧ (sqF p k g).exp ≤ 50 := by
  by_cases h : m = 0
  · have e := B.sq_zero .n h
    unfold sqF
    rw [e, av_zero]
    exact ⟨Rat.le_of_lt (pw_pos _), by decide, by decide⟩
  · have N := B.sq_num .n h
    have := N.exps
    have := B.p18
    exact ⟨N.hi, by unfold sqF; omega, by unfold sqF; omega⟩
theorem T.small : Builtin.Int.intBits (fme k g).man ≤ 100 ∧ -500 ≤ (fme k g).exp ∧ (fme k g).exp ≤ 500 := by
  by_cases h : m = 0
  · rw [fme_zero (B.kz h)]
    decide
  · have N := B.numk h
    have := N.exps
    have := B.p18
    have := N.bp
    exact ⟨by omega, by omega, by omega⟩
theorem T.back_n (h : m ≠ 0) : RndS .n 0 p.toNat (av (sqF p k g)) (fme m g) := by
  have R := B.sq_rnd .n h
  have hp := B.p3
  have h0 := B.m0
  rw [B.plain0]
  exact square_back (by omega) (by omega) B.mb (.inl ⟨rfl, rfl⟩) R
end
section
variable {p m g k n h q : Int} (B : B2 p m g k n h q)
include B
theorem B2.P1 : 1 ≤ p.toNat := by have := B.tx.p3; omega
theorem B2.y2n : Num 0 p.toNat (-16) 50 (sqF p q h) := B.ty.sq_num .n B.hn
theorem B2.y2man : (sqF p q h).man ≠ 0 := Int.ne_of_gt B.y2n.mn
theorem B2.d1 : -100 ≤ (sqF p k g).exp - (sqF p q h).exp := by have := B.tx.sq_hi; have := B.ty.sq_hi; omega
theorem B2.d2 : (sqF p k g).exp - (sqF p q h).exp ≤ 100 := by have := B.tx.sq_hi; have := B.ty.sq_hi; omega
theorem B2.tot_rnd : Rnd .n 0 p.toNat (av (sqF p k g) + av (sqF p q h)) (totF p k g q h) := by
  have := add_rnd (w := .n) (p := p.toNat) (x := sqF p k g) (y := sqF p q h) B.P1 (B.tx.sq_ok .n).mn B.y2n.mn (B.ty.sq_sign .n)
  rwa [B.tx.pnat] at this
theorem B2.tot_num : Num 0 p.toNat (-18) 52 (totF p k g q h) := by
  have N := B.y2n
  have a := B.tx.sq_near.2.2
  have b := B.tx.sq_hi.1
  refine B.tot_rnd.num B.P1 ?_ ?_
  · have := N.lo
    have := pw_mono (show (-18 : Int) ≤ -16 by decide)
    grind
  · have := N.hi
    have e1 := pw_succ 50
    have e2 := pw_mono (show (50 + 1 : Int) ≤ 52 by decide)
    grind
theorem B2.tot_ok : Ok (totF p k g q h) := B.tot_num.ok (.inl rfl) (by have := B.tx.p18; omega) (by decide) (by decide)
theorem B2.tot_sign : (totF p k g q h).sign = 0 := B.tot_num.sg
theorem B2.tot_form : FormOk (totF p k g q h) p := by
  have := B.tot_num.form (.inl rfl)
  rwa [B.tx.pnat] at this
theorem B2.len_rnd : RndS .n 0 p.toNat (av (totF p k g q h)) (lenF p k g q h) := by
  have N := B.tot_num
  have := sqrt_rnd (w := .n) (p := p.toNat) (x := totF p k g q h) B.P1 N.mn N.bc
  rwa [B.tx.pnat] at this
theorem B2.len_num : Num 0 p.toNat (-9) 26 (lenF p k g q h) := B.len_rnd.num B.P1 B.tot_num.lo B.tot_num.hi
theorem B2.len_ok : Ok (lenF p k g q h) := B.len_num.ok (.inl rfl) (by have := B.tx.p18; omega) (by decide) (by decide)
theorem B2.len_man : (lenF p k g q h).man ≠ 0 := Int.ne_of_gt B.len_num.mn
theorem B2.len_form : FormOk (lenF p k g q h) p := by
  have := B.len_num.form (.inl rfl)
  rwa [B.tx.pnat] at this
theorem B2.len_x : (m : Rat) * pw g ≤ av (lenF p k g q h) := by
  by_cases h0 : m = 0
  · rw [h0]
    have := av_nn (Int.le_of_lt B.len_num.mn)
    have e : ((0 : Int) : Rat) = 0 := rfl
    rw [e]; grind
  · have N := B.tx.sq_num .n h0
    have m1 := Rnd.mono B.P1 (show av (sqF p k g) ≤ av (sqF p k g) + av (sqF p q h) by have := B.ty.sq_near.2.2; grind) (N.exact .n B.P1).2 B.tot_rnd
    have m2 := RndS.mono B.P1 m1 (B.tx.back_n h0) B.len_rnd
    rwa [B.tx.avp] at m2
theorem B2.len_y : (n : Rat) * pw h ≤ av (lenF p k g q h) := by
  have N := B.y2n
  have m1 := Rnd.mono B.P1 (show av (sqF p q h) ≤ av (sqF p k g) + av (sqF p q h) by have := B.tx.sq_near.2.2; grind) (N.exact .n B.P1).2 B.tot_rnd
  have m2 := RndS.mono B.P1 m1 (B.ty.back_n B.hn) B.len_rnd
  rwa [B.ty.avp] at m2
omit B in
theorem over_num {p m g k : Int} (A : T p m g k) {L : Mp} (h0 : m ≠ 0) (N : Num 0 p.toNat (-9) 26 L) (hle : (m : Rat) * pw g ≤ av L) :
    ∃ V : Rat, V * av L = (m : Rat) * pw g ∧ Rnd .n (sg k) p.toNat V (divF .n p (fme k g) L) ∧ Num (sg k) p.toNat (-34) 0 (divF .n p (fme k g) L) := by
  have hL := av_pos N.mn
  obtain ⟨V, hV⟩ := V_of (a := (m : Rat) * pw g) hL
  have hk := A.kne h0
  have R := div_rnd (w := .n) (p := p.toNat) (x := fme k g) (y := L) (V := V) (by have := A.p3; omega) (fme_man hk) N.mn (fme_bc hk) N.bc (by rw [A.avx]; exact hV)
  rw [A.pnat, fme_sign hk, N.sg] at R
  have e : xor1 (sg k) 0 = sg k := by
    rcases sg_b k with e | e <;> rw [e] <;> rfl
  rw [e] at R
  refine ⟨V, hV, R, R.num (by have := A.p3; omega) ?_ ?_⟩
  · refine canc hL ?_
    rw [hV]
    have a1 := (A.bd h0).1
    have a2 : pw (-34) * av L ≤ pw (-34) * pw 26 := Rat.mul_le_mul_of_nonneg_left N.hi (Rat.le_of_lt (pw_pos _))
    rw [← pw_add] at a2
    exact Rat.le_trans a2 a1
  · refine canc hL ?_
    rw [hV, pw_zero]
    grind
omit B in
theorem over_ok {p m g k : Int} (A : T p m g k) {L : Mp} (N : Num 0 p.toNat (-9) 26 L) (hle : (m : Rat) * pw g ≤ av L) : Ok (divF .n p (fme k g) L) ∧ FormOk (divF .n p (fme k g) L) p ∧ MostOk (divF .n p (fme k g) L) := by
  by_cases h0 : m = 0
  · rw [fme_zero (A.kz h0), divF_zero]
    exact ⟨okz, form_zero p, most_of (by rw [av_zero]; grind) (by rw [av_zero]; grind)⟩
  · obtain ⟨V, hV, R, N1⟩ := over_num A h0 N hle
    have f := N1.form (sg_b k)
    rw [A.pnat] at f
    refine ⟨N1.ok (sg_b k) (by have := A.p18; omega) (by decide) (by decide), f, most_of (av_nn (Int.le_of_lt N1.mn)) ?_⟩
    have := N1.hi
    rwa [pw_zero] at this
theorem B2.x1 : Ok (divF .n p (fme k g) (lenF p k g q h)) ∧ FormOk (divF .n p (fme k g) (lenF p k g q h)) p ∧ MostOk (divF .n p (fme k g) (lenF p k g q h)) := over_ok B.tx B.len_num B.len_x
theorem B2.y1 : Ok (divF .n p (fme q h) (lenF p k g q h)) ∧ FormOk (divF .n p (fme q h) (lenF p k g q h)) p ∧ MostOk (divF .n p (fme q h) (lenF p k g q h)) := over_ok B.ty B.len_num B.len_y
omit B in
theorem over_near {p m g k : Int} (A : T p m g k) {L : Mp} (N : Num 0 p.toNat (-9) 26 L) (hle : (m : Rat) * pw g ≤ av L) :
    av (divF .n p (fme k g) L) * av L * (pz p.toNat + 1) ≤ (m : Rat) * pw g * (pz p.toNat + 2) ∧ (m : Rat) * pw g * (pz p.toNat - 1) ≤ av (divF .n p (fme k g) L) * av L * pz p.toNat ∧ 0 ≤ av (divF .n p (fme k g) L) := by
  by_cases h0 : m = 0
  · rw [fme_zero (A.kz h0), divF_zero, av_zero, h0]
    have : ((0 : Int) : Rat) = 0 := rfl
    rw [this]
    exact ⟨by grind, by grind, by grind⟩
  · obtain ⟨V, hV, R, N1⟩ := over_num A h0 N hle
    obtain ⟨_, b, _, d⟩ := near_bd (by have := A.p3; omega) R
    have hL := Rat.le_of_lt (av_pos N.mn)
    have t1 := mulr hL b
    have t2 := mulr hL d
    have t3 := av_nn (Int.le_of_lt N1.mn)
    rw [← hV]
    generalize av L = l at *
    generalize av (divF .n p (fme k g) L) = x at *
    generalize pz p.toNat = W at *
    exact ⟨by grind, by grind, t3⟩
omit B in
theorem near_le {x V W : Rat} (h : (x - V) * W ≤ V) : x * W ≤ V * (W + 1) := by grind
theorem B2.sum8 : (av (divF .n p (fme k g) (lenF p k g q h)) * av (divF .n p (fme k g) (lenF p k g q h)) + av (divF .n p (fme q h) (lenF p k g q h)) * av (divF .n p (fme q h) (lenF p k g q h)) - 1) * pz p.toNat ≤ 8 ∧ -(av (divF .n p (fme k g) (lenF p k g q h)) * av (divF .n p (fme k g) (lenF p k g q h)) + av (divF .n p (fme q h) (lenF p k g q h)) * av (divF .n p (fme q h) (lenF p k g q h)) - 1) * pz p.toNat ≤ 8 := by
  obtain ⟨a1, a2, a3⟩ := over_near B.tx B.len_num B.len_x
  obtain ⟨b1, b2, b3⟩ := over_near B.ty B.len_num B.len_y
  obtain ⟨c1, c2, _⟩ := B.tx.sq_near
  obtain ⟨d1, d2, _⟩ := B.ty.sq_near
  obtain ⟨e1, e2, e3, e4⟩ := near_bd B.P1 B.tot_rnd
  obtain ⟨H, h0, h1, h2, h3, h4⟩ := near_root B.P1 B.len_rnd
  have P8 := B.tx.pz8.1
  have r1 := root1 (by grind) h0 h1 h4
  have r2 := root2 (by grind) h0 h1 h2 h3
  have hL := av_pos B.len_num.mn
  have zx := B.tx.zn
  have zy := B.ty.zn
  clear h0 h1 h2 h3 h4
  have u := sum8_up P8 hL zx zy a3 b3 a1 b1 c2 d2 e3 r1
  have w := sum8_dn P8 hL zx zy a3 b3 a2 b2 (near_le c1) (near_le d1) (near_le e1) r2
  clear a1 a2 a3 b1 b2 b3 c1 c2 d1 d2 e1 e2 e3 e4 r1 r2
  generalize av (divF .n p (fme k g) (lenF p k g q h)) = x at *
  generalize av (divF .n p (fme q h) (lenF p k g q h)) = y at *
  generalize pz p.toNat = W at *
  exact ⟨by grind, by grind⟩
end
end
section
theorem mulX_n {x : Mp} (hx : 0 < x.man) : mulX x x = ⟨0, x.man * x.man, x.exp + x.exp, Builtin.Int.intBits (x.man * x.man)⟩ := by
  unfold mulX
  rw [if_neg (Int.ne_of_gt (Int.mul_pos hx hx))]
  have : xor1 x.sign x.sign = 0 := by unfold xor1; rw [if_pos rfl]
  rw [this]
theorem mulX_av {x : Mp} (hx : 0 < x.man) : av (mulX x x) = av x * av x := by
  rw [mulX_n hx]
  unfold av
  rw [pw_add, Rat.intCast_mul]
  grind
section
variable {p m g k n h q : Int} (B : B2 p m g k n h q)
include B
theorem B2.yman : 0 < (fme q h).man := fme_man (B.ty.kne B.hn)
theorem B2.oth0 (h0 : m = 0) : othF p k g q h = enc 0 (fme q h).man (fme q h).exp ∧ Rnd .n 0 p.toNat (av (fme q h)) (othF p k g q h) := by
  have hy := B.yman
  have N := B.ty.numk B.hn
  have e : othF p k g q h = rnd .n p 0 (fme q h).man (fme q h).exp := by
    unfold othF hypotF
    rw [if_neg (Int.ne_of_gt hy), fme_zero (B.tx.kz h0), if_pos (by rfl)]
  have R := rnd_of .n 0 (e := (fme q h).exp) hy B.P1
  rw [B.tx.pnat, ← e] at R
  exact ⟨R.uniq B.P1 (Rnd.exact .n 0 hy B.P1 N.bp), R⟩
theorem B2.oth1 (h0 : m ≠ 0) : ∃ s : Mp, Rnd .d 0 (p.toNat + 4) ((m : Rat) * pw g * ((m : Rat) * pw g) + (n : Rat) * pw h * ((n : Rat) * pw h)) s ∧ RndS .n 0 p.toNat (av s) (othF p k g q h) := by
  have hy := B.yman
  have hx := fme_man (e := g) (B.tx.kne h0)
  have ex := mulX_n hx
  have ey := mulX_n hy
  have R := add_rnd (w := .d) (p := p.toNat + 4) (x := mulX (fme k g) (fme k g)) (y := mulX (fme q h) (fme q h)) (by omega) (by rw [ex]; exact Int.le_of_lt (Int.mul_pos hx hx)) (by rw [ey]; exact Int.mul_pos hy hy) (by rw [ey])
  rw [mulX_av hx, mulX_av hy, B.tx.avx, B.ty.avx, Int.natCast_add, B.tx.pnat] at R
  refine ⟨_, R, ?_⟩
  have S := sqrt_rnd (w := .n) (p := p.toNat) B.P1 R.sign.2.1 R.sign.2.2
  rw [B.tx.pnat] at S
  have e : othF p k g q h = sqrtF .n p (addF .d (p + 4) (mulX (fme k g) (fme k g)) (mulX (fme q h) (fme q h))) := by
    unfold othF hypotF
    rw [if_neg (Int.ne_of_gt hy), if_neg (Int.ne_of_gt hx)]
  rw [e]
  exact S
theorem B2.sum_bd (h0 : m ≠ 0) : pw (-18) ≤ (m : Rat) * pw g * ((m : Rat) * pw g) + (n : Rat) * pw h * ((n : Rat) * pw h) ∧ (m : Rat) * pw g * ((m : Rat) * pw g) + (n : Rat) * pw h * ((n : Rat) * pw h) ≤ pw 52 := by
  obtain ⟨a1, a2⟩ := B.tx.sq_bd h0
  obtain ⟨b1, b2⟩ := B.ty.sq_bd B.hn
  have c1 := pw_mono (show (-18 : Int) ≤ -16 by decide)
  have c2 := pw_pos (-16)
  have c3 := pw_succ 50
  have c4 := pw_mono (show (50 + 1 : Int) ≤ 52 by decide)
  exact ⟨by grind, by grind⟩
theorem B2.oth_num : Num 0 p.toNat (-9) 26 (othF p k g q h) := by
  by_cases h0 : m = 0
  · obtain ⟨_, R⟩ := B.oth0 h0
    have N := B.ty.numk B.hn
    exact R.num B.P1 (Rat.le_trans (pw_mono (by decide)) N.lo) (Rat.le_trans N.hi (pw_mono (by decide)))
  · obtain ⟨s, R, S⟩ := B.oth1 h0
    obtain ⟨a, b⟩ := B.sum_bd h0
    have N := R.num (by omega) a b
    exact S.num B.P1 N.lo N.hi
theorem B2.oth_ok : Ok (othF p k g q h) := B.oth_num.ok (.inl rfl) (by have := B.tx.p18; omega) (by decide) (by decide)
theorem B2.oth_man : (othF p k g q h).man ≠ 0 := Int.ne_of_gt B.oth_num.mn
theorem B2.oth_form : FormOk (othF p k g q h) p := by
  have := B.oth_num.form (.inl rfl)
  rwa [B.tx.pnat] at this
omit B in
theorem back_cut {p m g k : Int} (A : T p m g k) (h0 : m ≠ 0) {W : Rat} {s o : Mp} (hW : (m : Rat) * pw g * ((m : Rat) * pw g) ≤ W) (R : Rnd .d 0 (p.toNat + 4) W s) (S : RndS .n 0 p.toNat (av s) o) : (m : Rat) * pw g ≤ av o := by
  have m0 := A.m0
  have p3 := A.p3
  have R0 := rnd_of .d 0 (M := m * m) (e := g + g) (p := p.toNat + 4) (Int.mul_pos (by omega) (by omega)) (by omega)
  have e : ((m * m : Int) : Rat) * pw (g + g) = (m : Rat) * pw g * ((m : Rat) * pw g) := by rw [pw_add, Rat.intCast_mul]; grind
  rw [e] at R0
  have b := square_back5 (by omega) (by omega) A.mb R0
  have m1 := Rnd.mono (by omega) hW R0 R
  have m2 := RndS.mono (by omega) m1 b S
  rwa [av_enc (by omega)] at m2
theorem B2.oth_x : (m : Rat) * pw g ≤ av (othF p k g q h) := by
  by_cases h0 : m = 0
  · rw [h0]
    have := av_nn (Int.le_of_lt B.oth_num.mn)
    have e : ((0 : Int) : Rat) = 0 := rfl
    rw [e]; grind
  · obtain ⟨s, R, S⟩ := B.oth1 h0
    have zy := B.ty.zn
    have := mnn zy zy
    exact back_cut B.tx h0 (by grind) R S
theorem B2.oth_y : (n : Rat) * pw h ≤ av (othF p k g q h) := by
  by_cases h0 : m = 0
  · obtain ⟨e, R⟩ := B.oth0 h0
    have e2 : av (othF p k g q h) = av (fme q h) := by
      rw [e, av_enc (Int.le_of_lt B.yman)]; rfl
    rw [e2, B.ty.avx]
    exact Rat.le_refl
  · obtain ⟨s, R, S⟩ := B.oth1 h0
    have zx := B.tx.zn
    have := mnn zx zx
    exact back_cut B.ty B.hn (by grind) R S
theorem B2.ox : Ok (divF .n p (fme k g) (othF p k g q h)) ∧ FormOk (divF .n p (fme k g) (othF p k g q h)) p ∧ MostOk (divF .n p (fme k g) (othF p k g q h)) := over_ok B.tx B.oth_num B.oth_x
theorem B2.oy : Ok (divF .n p (fme q h) (othF p k g q h)) ∧ FormOk (divF .n p (fme q h) (othF p k g q h)) p ∧ MostOk (divF .n p (fme q h) (othF p k g q h)) := over_ok B.ty B.oth_num B.oth_y
theorem B2.oth_sym : hypotF p (fme q h) (fme k g) = othF p k g q h := by
  have hy := B.yman
  by_cases h0 : m = 0
  · unfold othF hypotF
    rw [fme_zero (B.tx.kz h0), if_pos (by rfl), if_neg (Int.ne_of_gt hy), if_pos (by rfl)]
  · have hx := fme_man (e := g) (B.tx.kne h0)
    have ex := mulX_n hx
    have ey := mulX_n hy
    unfold othF hypotF
    rw [if_neg (Int.ne_of_gt hx), if_neg (Int.ne_of_gt hy), if_neg (Int.ne_of_gt hy), if_neg (Int.ne_of_gt hx)]
    congr 1
    have R1 := add_rnd (w := .d) (p := p.toNat + 4) (x := mulX (fme k g) (fme k g)) (y := mulX (fme q h) (fme q h)) (by omega) (by rw [ex]; exact Int.le_of_lt (Int.mul_pos hx hx)) (by rw [ey]; exact Int.mul_pos hy hy) (by rw [ey])
    have R2 := add_rnd (w := .d) (p := p.toNat + 4) (x := mulX (fme q h) (fme q h)) (y := mulX (fme k g) (fme k g)) (by omega) (by rw [ey]; exact Int.le_of_lt (Int.mul_pos hy hy)) (by rw [ex]; exact Int.mul_pos hx hx) (by rw [ex])
    rw [Rat.add_comm] at R2
    have := R2.uniq (by omega) R1
    rwa [Int.natCast_add, B.tx.pnat] at this
theorem B2.hyp_bd : (av (othF p k g q h) * av (othF p k g q h) - ((m : Rat) * pw g * ((m : Rat) * pw g) + (n : Rat) * pw h * ((n : Rat) * pw h))) * pz p.toNat ≤ 3 * ((m : Rat) * pw g * ((m : Rat) * pw g) + (n : Rat) * pw h * ((n : Rat) * pw h)) ∧ (((m : Rat) * pw g * ((m : Rat) * pw g) + (n : Rat) * pw h * ((n : Rat) * pw h)) - av (othF p k g q h) * av (othF p k g q h)) * pz p.toNat ≤ 3 * ((m : Rat) * pw g * ((m : Rat) * pw g) + (n : Rat) * pw h * ((n : Rat) * pw h)) := by
  have zy := B.ty.zn
  have zyy := mnn zy zy
  by_cases h0 : m = 0
  · obtain ⟨e, R⟩ := B.oth0 h0
    have e2 : av (othF p k g q h) = (n : Rat) * pw h := by
      rw [e, av_enc (Int.le_of_lt B.yman), ← B.ty.avx]; rfl
    rw [e2, h0]
    have e : ((0 : Int) : Rat) = 0 := rfl
    rw [e]
    generalize (n : Rat) * pw h = Y at *
    generalize pz p.toNat = W at *
    exact ⟨by grind, by grind⟩
  · obtain ⟨s, R, S⟩ := B.oth1 h0
    have a1 := dn_bd (by decide) (by rfl) R
    have a2 := (any_bd (by omega) R).2
    have e8 : pz (p.toNat + 4 - 1) = 8 * pz p.toNat := by
      unfold pz
      rw [show p.toNat + 4 - 1 = 3 + p.toNat by omega, Int.pow_add, Rat.intCast_mul]
      rfl
    rw [e8] at a2
    obtain ⟨H, h0, h1, h2, h3, h4⟩ := near_root B.P1 S
    have P8 := B.tx.pz8.1
    have sn := av_nn (Int.le_of_lt R.sign.2.1)
    have b1 := root3 (show (2 : Rat) ≤ pz p.toNat by grind) h0 h1 h2 h3
    have b2 := root4 (show (2 : Rat) ≤ pz p.toNat by grind) h0 sn h1 h4
    exact hypr3 P8 sn a1 a2 b1 b2
end
end
section
theorem vN0 {d : Mp} (h : d.sign = 0) : (vN d : Rat) = av d * (vD d : Rat) := by
  rw [vN_av, h]
  have : sgr 0 = 1 := rfl
  rw [this]; grind
theorem vN_sq (d : Mp) : (vN d : Rat) * (vN d : Rat) = av d * av d * ((vD d : Rat) * (vD d : Rat)) := by
  rw [vN_av]
  have := sgr_sq d.sign
  generalize sgr d.sign = σ at *
  grind
section
variable {p m g k n h q : Int} (B : B2 p m g k n h q)
include B
theorem B2.tot_err : ((vN (totF p k g q h) * vD (sqF p k g) * vD (sqF p q h) - (vN (sqF p k g) * vD (sqF p q h) + vN (sqF p q h) * vD (sqF p k g)) * vD (totF p k g q h)).natAbs : Int) * 2 ^ p.toNat ≤ (vN (sqF p k g) * vD (sqF p q h) + vN (sqF p q h) * vD (sqF p k g)) * vD (totF p k g q h) := by
  obtain ⟨f1, f2, _, _⟩ := near_bd B.P1 B.tot_rnd
  have e1 := vN0 B.tot_sign
  have e2 := vN0 (B.tx.sq_sign .n)
  have e3 := vN0 (B.ty.sq_sign .n)
  change (vN (sqF p k g) : Rat) = av (sqF p k g) * (vD (sqF p k g) : Rat) at e2
  change (vN (sqF p q h) : Rat) = av (sqF p q h) * (vD (sqF p q h) : Rat) at e3
  have D1 := vD_r (totF p k g q h)
  have D2 := vD_r (sqF p k g)
  have D3 := vD_r (sqF p q h)
  generalize vN (totF p k g q h) = a at *
  generalize vD (totF p k g q h) = b at *
  generalize av (totF p k g q h) = A at *
  generalize vN (sqF p k g) = c at *
  generalize vD (sqF p k g) = d at *
  generalize av (sqF p k g) = C at *
  generalize vN (sqF p q h) = e at *
  generalize vD (sqF p q h) = f at *
  generalize av (sqF p q h) = E at *
  have hw := mnn (mnn (Rat.le_of_lt D1) (Rat.le_of_lt D2)) (Rat.le_of_lt D3)
  have t1 := mulr hw f1
  have t2 := mulr hw f2
  have eT : ((a * d * f - (c * f + e * d) * b : Int) : Rat) = (A - (C + E)) * ((b : Rat) * (d : Rat) * (f : Rat)) := by
    rw [Rat.intCast_sub, Rat.intCast_mul, Rat.intCast_mul, Rat.intCast_mul, Rat.intCast_add, Rat.intCast_mul, Rat.intCast_mul, e1, e2, e3]
    grind
  have eS : (((c * f + e * d) * b : Int) : Rat) = (C + E) * ((b : Rat) * (d : Rat) * (f : Rat)) := by
    rw [Rat.intCast_mul, Rat.intCast_add, Rat.intCast_mul, Rat.intCast_mul, e2, e3]
    grind
  refine abs_chk ?_ ?_
  · rw [eT, eS]
    generalize pz p.toNat = W at *
    grind
  · rw [eT, eS]
    generalize pz p.toNat = W at *
    grind
theorem B2.hyp_err : ((vN (othF p k g q h) * vN (othF p k g q h) * vD (fme k g) * vD (fme k g) * vD (fme q h) * vD (fme q h) - (vN (fme k g) * vN (fme k g) * vD (fme q h) * vD (fme q h) + vN (fme q h) * vN (fme q h) * vD (fme k g) * vD (fme k g)) * vD (othF p k g q h) * vD (othF p k g q h)).natAbs : Int) * 2 ^ p.toNat ≤ 3 * (vN (fme k g) * vN (fme k g) * vD (fme q h) * vD (fme q h) + vN (fme q h) * vN (fme q h) * vD (fme k g) * vD (fme k g)) * vD (othF p k g q h) * vD (othF p k g q h) := by
  obtain ⟨f1, f2⟩ := B.hyp_bd
  have e1 := vN_sq (othF p k g q h)
  have e2 := vN_sq (fme k g)
  have e3 := vN_sq (fme q h)
  rw [B.tx.avx] at e2
  rw [B.ty.avx] at e3
  have D1 := vD_r (othF p k g q h)
  have D2 := vD_r (fme k g)
  have D3 := vD_r (fme q h)
  generalize vN (othF p k g q h) = e at *
  generalize vD (othF p k g q h) = f at *
  generalize av (othF p k g q h) = L at *
  generalize vN (fme k g) = a at *
  generalize vD (fme k g) = b at *
  generalize (m : Rat) * pw g = X at *
  generalize vN (fme q h) = c at *
  generalize vD (fme q h) = d at *
  generalize (n : Rat) * pw h = Y at *
  have hw := mnn (mnn (mnn (Rat.le_of_lt D1) (Rat.le_of_lt D1)) (mnn (Rat.le_of_lt D2) (Rat.le_of_lt D2))) (mnn (Rat.le_of_lt D3) (Rat.le_of_lt D3))
  have t1 := mulr hw f1
  have t2 := mulr hw f2
  have eX : ((a * a * d * d + c * c * b * b : Int) : Rat) = (X * X + Y * Y) * ((b : Rat) * (b : Rat) * ((d : Rat) * (d : Rat))) := by
    rw [Rat.intCast_add, Rat.intCast_mul, Rat.intCast_mul, Rat.intCast_mul, Rat.intCast_mul, Rat.intCast_mul, Rat.intCast_mul, e2, e3]
    grind
  have eT : ((e * e * b * b * d * d - (a * a * d * d + c * c * b * b) * f * f : Int) : Rat) = (L * L - (X * X + Y * Y)) * ((f : Rat) * (f : Rat) * ((b : Rat) * (b : Rat)) * ((d : Rat) * (d : Rat))) := by
    rw [Rat.intCast_sub, Rat.intCast_mul, Rat.intCast_mul, Rat.intCast_mul, Rat.intCast_mul, Rat.intCast_mul, Rat.intCast_mul, Rat.intCast_mul, eX, e1]
    grind
  have eS : ((3 * (a * a * d * d + c * c * b * b) * f * f : Int) : Rat) = 3 * (X * X + Y * Y) * ((f : Rat) * (f : Rat) * ((b : Rat) * (b : Rat)) * ((d : Rat) * (d : Rat))) := by
    rw [Rat.intCast_mul, Rat.intCast_mul, Rat.intCast_mul, eX]
    have : ((3 : Int) : Rat) = 3 := rfl
    rw [this]; grind
  refine abs_chk ?_ ?_
  · rw [eT, eS]
    generalize pz p.toNat = W at *
    generalize (f : Rat) * (f : Rat) * ((b : Rat) * (b : Rat)) * ((d : Rat) * (d : Rat)) = F at *
    generalize X * X + Y * Y = S at *
    grind
  · rw [eT, eS]
    generalize pz p.toNat = W at *
    generalize (f : Rat) * (f : Rat) * ((b : Rat) * (b : Rat)) * ((d : Rat) * (d : Rat)) = F at *
    generalize X * X + Y * Y = S at *
    grind
theorem B2.sum_err : ((vN (divF .n p (fme k g) (lenF p k g q h)) * vN (divF .n p (fme k g) (lenF p k g q h)) * vD (divF .n p (fme q h) (lenF p k g q h)) * vD (divF .n p (fme q h) (lenF p k g q h)) + vN (divF .n p (fme q h) (lenF p k g q h)) * vN (divF .n p (fme q h) (lenF p k g q h)) * vD (divF .n p (fme k g) (lenF p k g q h)) * vD (divF .n p (fme k g) (lenF p k g q h)) - vD (divF .n p (fme k g) (lenF p k g q h)) * vD (divF .n p (fme k g) (lenF p k g q h)) * vD (divF .n p (fme q h) (lenF p k g q h)) * vD (divF .n p (fme q h) (lenF p k g q h))).natAbs : Int) * 2 ^ p.toNat ≤ 8 * vD (divF .n p (fme k g) (lenF p k g q h)) * vD (divF .n p (fme k g) (lenF p k g q h)) * vD (divF .n p (fme q h) (lenF p k g q h)) * vD (divF .n p (fme q h) (lenF p k g q h)) := by
  obtain ⟨f1, f2⟩ := B.sum8
  have e2 := vN_sq (divF .n p (fme k g) (lenF p k g q h))
  have e3 := vN_sq (divF .n p (fme q h) (lenF p k g q h))
  have D2 := vD_r (divF .n p (fme k g) (lenF p k g q h))
  have D3 := vD_r (divF .n p (fme q h) (lenF p k g q h))
  generalize vN (divF .n p (fme k g) (lenF p k g q h)) = a at *
  generalize vD (divF .n p (fme k g) (lenF p k g q h)) = b at *
  generalize av (divF .n p (fme k g) (lenF p k g q h)) = X at *
  generalize vN (divF .n p (fme q h) (lenF p k g q h)) = c at *
  generalize vD (divF .n p (fme q h) (lenF p k g q h)) = d at *
  generalize av (divF .n p (fme q h) (lenF p k g q h)) = Y at *
  have hw := mnn (mnn (Rat.le_of_lt D2) (Rat.le_of_lt D2)) (mnn (Rat.le_of_lt D3) (Rat.le_of_lt D3))
  have t1 := mulr hw f1
  have t2 := mulr hw f2
  have eT : ((a * a * d * d + c * c * b * b - b * b * d * d : Int) : Rat) = (X * X + Y * Y - 1) * ((b : Rat) * (b : Rat) * ((d : Rat) * (d : Rat))) := by
    rw [Rat.intCast_sub, Rat.intCast_add, Rat.intCast_mul, Rat.intCast_mul, Rat.intCast_mul, Rat.intCast_mul, Rat.intCast_mul, Rat.intCast_mul, Rat.intCast_mul, Rat.intCast_mul, Rat.intCast_mul, e2, e3]
    grind
  have eS : ((8 * b * b * d * d : Int) : Rat) = 8 * ((b : Rat) * (b : Rat) * ((d : Rat) * (d : Rat))) := by
    rw [Rat.intCast_mul, Rat.intCast_mul, Rat.intCast_mul, Rat.intCast_mul]
    have : ((8 : Int) : Rat) = 8 := rfl
    rw [this]; grind
  refine abs_chk ?_ ?_
  · rw [eT, eS]
    generalize pz p.toNat = W at *
    generalize (b : Rat) * (b : Rat) * ((d : Rat) * (d : Rat)) = F at *
    generalize X * X + Y * Y = S at *
    grind
  · rw [eT, eS]
    generalize pz p.toNat = W at *
    generalize (b : Rat) * (b : Rat) * ((d : Rat) * (d : Rat)) = F at *
    generalize X * X + Y * Y = S at *
    grind
end
end
section
theorem T.kb18 {p m g k : Int} (B : T p m g k) : Builtin.Int.intBits k ≤ 18 := by have := B.kb; have := B.p18; omega
theorem T.mb18 {p m g k : Int} (B : T p m g k) : Builtin.Int.intBits m ≤ 18 := by have := B.mb; have := B.p18; omega
theorem T.ge1 {p m g k : Int} (B : T p m g k) : -3000 ≤ g ∧ g ≤ 3000 := by have := B.g1; have := B.g2; omega
theorem b2_of {p m g k n0 n h q : Int} (hp : 3 ≤ p ∧ p ≤ 18) (hm : 0 ≤ m ∧ m < 2 ^ p.toNat) (hn0 : 0 ≤ n0 ∧ n0 < 2 ^ p.toNat) (hg : -8 ≤ g ∧ g ≤ 7) (hh : -8 ≤ h ∧ h ≤ 7) (hn : (n0 ≠ 0 ∧ n = n0) ∨ (n0 = 0 ∧ n = 1)) (hk : k = m ∨ k = -m) (hq : q = n ∨ q = -n) : B2 p m g k n h q := by
  have e : (2 : Int) ^ 1 ≤ 2 ^ p.toNat := pow_le (by omega)
  exact ⟨⟨hp.1, hp.2, hm.1, hm.2, hg.1, hg.2, hk⟩, ⟨hp.1, hp.2, by omega, by omega, hh.1, hh.2, hq⟩, by omega⟩
theorem over_ok2 {w : Way} {O v S : Int} {k : Nat} {a : Int} (h : (wayDn w 0 = true → O ≤ 0 ∧ -O * 2 ^ k ≤ S) ∧ (wayDn w 0 = false → -O ≤ 0 ∧ O * 2 ^ k ≤ S)) (ha : a = O) (hv : (wayDn w 0 = true ∧ v = a) ∨ (wayDn w 0 = false ∧ v = -a)) : v ≤ 0 ∧ -v * 2 ^ k ≤ S := by
  subst ha
  rcases hv with ⟨h1, rfl⟩ | ⟨h1, rfl⟩
  · exact h.1 h1
  · have := h.2 h1
    rw [Int.neg_neg]
    exact this
theorem T.ex2 {p m g k : Int} (B : T p m g k) : (fme k g).man ≠ 0 → -8 ≤ (fme k g).exp ∧ (fme k g).exp ≤ 25 := by
  intro h
  by_cases h0 : m = 0
  · rw [fme_zero (B.kz h0)] at h
    exact absurd rfl h
  · have N := B.numk h0
    have e := N.exps
    have hk := B.kne h0
    have tz := tz_nonneg (k.natAbs : Int)
    have g1 := B.g1
    have e1 : (fme k g).exp = g + tzF (k.natAbs : Int) := by
      unfold fme enc
      rw [if_neg (by omega)]
    omega
theorem B2.expd {p m g k n h q : Int} (B : B2 p m g k n h q) : (fme k g).man ≠ 0 → (fme q h).man ≠ 0 → (-50 ≤ (fme k g).exp - (fme q h).exp ∧ (fme k g).exp - (fme q h).exp ≤ 50) := by
  intro h1 h2
  have a := B.tx.ex2 h1
  have b := B.ty.ex2 h2
  omega
theorem B2.expd2 {p m g k n h q : Int} (B : B2 p m g k n h q) : (fme q h).man ≠ 0 → (fme k g).man ≠ 0 → (-50 ≤ (fme q h).exp - (fme k g).exp ∧ (fme q h).exp - (fme k g).exp ≤ 50) := by
  intro h1 h2
  have a := B.ty.ex2 h1
  have b := B.tx.ex2 h2
  omega
theorem bsub {a b : Int} {m k N : Nat} (h1 : Builtin.Int.intBits a ≤ m) (h2 : Builtin.Int.intBits b ≤ k) (h : m + k + 1 ≤ N ∨ (m ≤ k ∧ k + 1 ≤ N) ∨ (k ≤ m ∧ m + 1 ≤ N)) : Builtin.Int.intBits (a - b) ≤ N := by
  have a1 := natAbs_lt_pow_bits a
  have a2 := natAbs_lt_pow_bits b
  rcases (show m ≤ k ∨ k ≤ m by omega) with c | c
  · have e1 := Nat.pow_le_pow_right (show 0 < 2 by decide) (Nat.le_trans h1 c)
    have e2 := Nat.pow_le_pow_right (show 0 < 2 by decide) h2
    refine Nat.le_trans (intBits_le (k := k + 1) ?_) (by omega)
    rw [Nat.pow_succ]
    omega
  · have e1 := Nat.pow_le_pow_right (show 0 < 2 by decide) h1
    have e2 := Nat.pow_le_pow_right (show 0 < 2 by decide) (Nat.le_trans h2 c)
    refine Nat.le_trans (intBits_le (k := m + 1) ?_) (by omega)
    rw [Nat.pow_succ]
    omega
theorem bnegN {a : Int} {m : Nat} (h : Builtin.Int.intBits a ≤ m) : Builtin.Int.intBits (-a) ≤ m := bits_of_natAbs_le (b := a) (by omega) h
theorem badd {a b : Int} {m k N : Nat} (h1 : Builtin.Int.intBits a ≤ m) (h2 : Builtin.Int.intBits b ≤ k) (h : m + k + 1 ≤ N ∨ (m ≤ k ∧ k + 1 ≤ N) ∨ (k ≤ m ∧ m + 1 ≤ N)) : Builtin.Int.intBits (a + b) ≤ N := by
  have := bsub h1 (bnegN h2) h
  rwa [Int.sub_neg] at this
end
section
section
variable {M : Model} {A : Around} {E : Value → Shared → Prop} {s : Shared} {h₀ : Heap} {L : Addr} {m : Str → Option Value} {news : List (Addr × Obj)}
theorem via_set0 {c : Sem Flow} {Q : Flow → Shared → Prop} (x : Str) (P : Int → Prop) (_F : Fr h₀ L s.heap m) (_N : News h₀ L s.heap news)
    (h1 : wpAny M A c (SetTo h₀ L m news s x P) E s)
    (h2 : ∀ (v : Int) (t : Tok) (h' : Heap) (tk : Nat), P v → Fr h₀ L h' (fun y => if y = x then some (.int v t) else m y) → News h₀ L h' news → Q .next { s with heap := h', toks := tk }) : wpAny M A c Q E s :=
  wpAny_mono h1 (fun fl s' ⟨v, t, h', tk, e1, e2, F', N', hp⟩ => by subst e1; subst e2; exact h2 v t h' tk hp F' N') fun _ _ h => h
end
theorem n_end {p gap at' v1 v2 : Int} (h1 : 0 ≤ gap ∧ gap < p) (h2 : 0 ≤ at' ∧ at' < 20) (e1 : Hid (v1 = 1 * 2 ^ (at' + gap).toNat)) (e2 : Hid (v2 = 1 * 2 ^ at'.toNat)) : ∃ g a : Nat, v1 + v2 = 2 ^ a * (2 ^ g + 1) ∧ (g : Int) < p ∧ a ≤ 19 := by
  obtain ⟨rfl⟩ := e1
  obtain ⟨rfl⟩ := e2
  refine ⟨gap.toNat, at'.toNat, ?_, by omega, by omega⟩
  rw [show (at' + gap).toNat = at'.toNat + gap.toNat by omega, Int.pow_add]
  grind
theorem b1_of {p m0 m s n0 n : Int} (hp : 3 ≤ p ∧ p ≤ 18) (hm : 0 ≤ m0 ∧ m0 < 2 ^ (p - 1).toNat) (hs : -32 ≤ s ∧ s ≤ 31) (hn : ∃ g a : Nat, n0 = 2 ^ a * (2 ^ g + 1) ∧ (g : Int) < p ∧ a ≤ 19) (h1 : m = m0 ∨ m = -m0) (h2 : n = n0 ∨ n = -n0) : B1 p m s n := by
  refine ⟨hp.1, hp.2, by omega, hs.1, hs.2, ?_⟩
  obtain ⟨g, a, e, e1, e2⟩ := hn
  have := Int.mul_pos (p2pos a) (show (0 : Int) < 2 ^ g + 1 by have := p2pos g; omega)
  exact ⟨g, a, by omega, e1, e2⟩
theorem B1.bm {p m s n : Int} (B : B1 p m s n) : Builtin.Int.intBits m ≤ 20 := by have := B.mb; have := B.p18; have := B.p3; omega
theorem B1.bn {p m s n : Int} (B : B1 p m s n) : Builtin.Int.intBits n ≤ 40 := by have := bits_lt B.nb; omega
theorem not_gt {a b : Int} (h : a ≤ b) : ¬ (decide (a > b) = true) := by simp only [decide_eq_true_eq]; omega
theorem ne_mp_no {w : World} {A : Around} {E : Value → Shared → Prop} {s : Shared} {Q : Value → Shared → Prop} {h₀ : Heap} {L : Addr} {m : Str → Option Value} {news : List (Addr × Obj)} {prog : Program} {v1 v2 : Value} {d e : Mp} (F : Fr h₀ L s.heap m) (X : (hd.heap_39 w.params).In h₀) (N : News h₀ L s.heap news) (h1 : MpIn news v1 d) (h2 : MpIn news v2 e) (hu : A.units + 64 < cLine) (hde : d = e)
    (h : Q (.bool false) s) : wpAny (model prog w) A (compareOp .NotEq v1 v2) Q E s :=
  ne_mp F X N h1 h2 hu (by rw [decide_eq_true hde]; exact h)
theorem shl40 {prog : Program} {w : World} {A : Around} {E : Value → Shared → Prop} {s : Shared} {t u : Tok} {Q : Value → Shared → Prop} (h : Q (.int 1099511627776 s.toks) { s with toks := s.toks + 1 }) : wpAny (model prog w) A (binaryOp .LShift (.int 1 t) (.int 40 u)) Q E s := lshift_int (by decide) (kbm_shl (m := 1) (by decide) (by decide) (by decide)) h
theorem mul_big {prog : Program} {w : World} {A : Around} {E : Value → Shared → Prop} {s : Shared} {a : Int} {t u : Tok} {Q : Value → Shared → Prop} (ha : Builtin.Int.intBits a ≤ 40) (h : ∀ v, v = a * 1099511627777 → Builtin.Int.intBits v ≤ 90 → Q (.int v s.toks) { s with toks := s.toks + 1 }) : wpAny (model prog w) A (binaryOp .Mult (.int a t) (.int (1099511627776 + 1) u)) Q E s :=
  PyProof.Rows.mul_int (h _ rfl (Nat.le_trans (bits_mul (n := 41) ha (by decide)) (by decide))) (mulOk_of_bits ha (show Builtin.Int.intBits (1099511627776 + 1) ≤ 41 by decide) (by decide))
theorem abs_if (x : Int) [inst : Decidable (x < 0)] : (if x < 0 then -x else x) = (x.natAbs : Int) := by split <;> omega
end
section
section
variable {M : Model} {A : Around} {E : Value → Shared → Prop} {s : Shared} {h₀ : Heap} {L : Addr} {m : Str → Option Value} {news : List (Addr × Obj)}
def After (h₀ : Heap) (L : Addr) (news : List (Addr × Obj)) (s : Shared) (R : (Str → Option Value) → List (Addr × Obj) → Prop) (fl : Flow) (s' : Shared) : Prop :=
  ∃ (h' : Heap) (tk : Nat) (m' : Str → Option Value) (n' : List (Addr × Obj)), fl = .next ∧ s' = { s with heap := h', toks := tk } ∧ Fr h₀ L h' m' ∧ News h₀ L h' n' ∧ Sub news n' ∧ R m' n'
theorem via {c : Sem Flow} {Q : Flow → Shared → Prop} (R : (Str → Option Value) → List (Addr × Obj) → Prop) (_N : News h₀ L s.heap news)
    (h1 : wpAny M A c (After h₀ L news s R) E s)
    (h2 : ∀ (h' : Heap) (tk : Nat) (m' : Str → Option Value) (n' : List (Addr × Obj)), Fr h₀ L h' m' → News h₀ L h' n' → Sub news n' → R m' n' → Q .next { s with heap := h', toks := tk }) : wpAny M A c Q E s :=
  wpAny_mono h1 (fun fl s' ⟨h', tk, m', n', e1, e2, F', N', S', hp⟩ => by subst e1; subst e2; exact h2 h' tk m' n' F' N' S' hp) fun _ _ h => h
def RMp (m : Str → Option Value) (x : Str) (d : Mp) (m' : Str → Option Value) (n' : List (Addr × Obj)) : Prop := ∃ r, m' = (fun y => if y = x then some r else m y) ∧ MpIn n' r d
def RMp2 (m : Str → Option Value) (x1 x2 : Str) (d1 d2 : Mp) (m' : Str → Option Value) (n' : List (Addr × Obj)) : Prop := ∃ r1 r2, m' = (fun y => if y = x1 then some r1 else if y = x2 then some r2 else m y) ∧ MpIn n' r1 d1 ∧ MpIn n' r2 d2
def RVal (m : Str → Option Value) (x1 x2 : Str) (d : Mp) (m' : Str → Option Value) (_ : List (Addr × Obj)) : Prop := ∃ t1 t2, m' = (fun y => if y = x2 then some (.int (vD d) t2) else if y = x1 then some (.int (vN d) t1) else m y)
def RInt (m : Str → Option Value) (x : Str) (P : Int → Prop) (m' : Str → Option Value) (_ : List (Addr × Obj)) : Prop := ∃ v t, m' = (fun y => if y = x then some (.int v t) else m y) ∧ P v
def RSame (m : Str → Option Value) (m' : Str → Option Value) (_ : List (Addr × Obj)) : Prop := m' = m
variable {h' : Heap} {tk : Nat} {n' : List (Addr × Obj)}
theorem a_mp {x : Str} {d : Mp} {r : Value} (F : Fr h₀ L h' (fun y => if y = x then some r else m y)) (N : News h₀ L h' n') (S : Sub news n') (hp : MpIn n' r d) : After h₀ L news s (RMp m x d) .next { s with heap := h', toks := tk } := ⟨h', tk, _, n', rfl, rfl, F, N, S, r, rfl, hp⟩
theorem a_mp2 {x1 x2 : Str} {d1 d2 : Mp} {r1 r2 : Value} (F : Fr h₀ L h' (fun y => if y = x1 then some r1 else if y = x2 then some r2 else m y)) (N : News h₀ L h' n') (S : Sub news n') (hp : MpIn n' r1 d1) (hp2 : MpIn n' r2 d2) : After h₀ L news s (RMp2 m x1 x2 d1 d2) .next { s with heap := h', toks := tk } := ⟨h', tk, _, n', rfl, rfl, F, N, S, r1, r2, rfl, hp, hp2⟩
theorem a_val {x1 x2 : Str} {d : Mp} {q r : Int} {t1 t2 : Tok} (F : Fr h₀ L h' (fun y => if y = x2 then some (.int r t2) else if y = x1 then some (.int q t1) else m y)) (N : News h₀ L h' n') (S : Sub news n') (e1 : Hid (q = vN d)) (e2 : Hid (r = vD d)) : After h₀ L news s (RVal m x1 x2 d) .next { s with heap := h', toks := tk } := by
  obtain ⟨rfl⟩ := e1
  obtain ⟨rfl⟩ := e2
  exact ⟨h', tk, _, n', rfl, rfl, F, N, S, t1, t2, rfl⟩
theorem a_int {x : Str} {P : Int → Prop} {v : Int} {t : Tok} (F : Fr h₀ L h' (fun y => if y = x then some (.int v t) else m y)) (N : News h₀ L h' n') (S : Sub news n') (hp : P v) : After h₀ L news s (RInt m x P) .next { s with heap := h', toks := tk } := ⟨h', tk, _, n', rfl, rfl, F, N, S, v, t, rfl, hp⟩
theorem a_int_old {x : Str} {P : Int → Prop} {v : Int} {t : Tok} (F : Fr h₀ L h' m) (N : News h₀ L h' n') (S : Sub news n') (hx : m x = some (.int v t)) (hp : P v) : After h₀ L news s (RInt m x P) .next { s with heap := h', toks := tk } := ⟨h', tk, _, n', rfl, rfl, fr_same F hx, N, S, v, t, rfl, hp⟩
theorem a_same (F : Fr h₀ L h' m) (N : News h₀ L h' n') (S : Sub news n') : After h₀ L news s (RSame m) .next { s with heap := h', toks := tk } := ⟨h', tk, _, n', rfl, rfl, F, N, S, rfl⟩
theorem via_mp {c : Sem Flow} {Q : Flow → Shared → Prop} (x : Str) (d : Mp) (_F : Fr h₀ L s.heap m) (N : News h₀ L s.heap news) (h1 : wpAny M A c (After h₀ L news s (RMp m x d)) E s)
    (h2 : ∀ (r : Value) (n' : List (Addr × Obj)) (h' : Heap) (tk : Nat), MpIn n' r d → Fr h₀ L h' (fun y => if y = x then some r else m y) → News h₀ L h' n' → Sub news n' → Q .next { s with heap := h', toks := tk }) : wpAny M A c Q E s :=
  via _ N h1 fun h' tk m' n' F' N' S' ⟨r, e, hp⟩ => by subst e; exact h2 r n' h' tk hp F' N' S'
theorem via_mp2 {c : Sem Flow} {Q : Flow → Shared → Prop} (x1 x2 : Str) (d1 d2 : Mp) (_F : Fr h₀ L s.heap m) (N : News h₀ L s.heap news) (h1 : wpAny M A c (After h₀ L news s (RMp2 m x1 x2 d1 d2)) E s)
    (h2 : ∀ (r1 r2 : Value) (n' : List (Addr × Obj)) (h' : Heap) (tk : Nat), MpIn n' r1 d1 → MpIn n' r2 d2 → Fr h₀ L h' (fun y => if y = x1 then some r1 else if y = x2 then some r2 else m y) → News h₀ L h' n' → Sub news n' → Q .next { s with heap := h', toks := tk }) : wpAny M A c Q E s :=
  via _ N h1 fun h' tk m' n' F' N' S' ⟨r1, r2, e, hp, hp2⟩ => by subst e; exact h2 r1 r2 n' h' tk hp hp2 F' N' S'
theorem via_val {c : Sem Flow} {Q : Flow → Shared → Prop} (x1 x2 : Str) (d : Mp) (_F : Fr h₀ L s.heap m) (N : News h₀ L s.heap news) (h1 : wpAny M A c (After h₀ L news s (RVal m x1 x2 d)) E s)
    (h2 : ∀ (t1 t2 : Tok) (n' : List (Addr × Obj)) (h' : Heap) (tk : Nat), Fr h₀ L h' (fun y => if y = x2 then some (.int (vD d) t2) else if y = x1 then some (.int (vN d) t1) else m y) → News h₀ L h' n' → Sub news n' → Q .next { s with heap := h', toks := tk }) : wpAny M A c Q E s :=
  via _ N h1 fun h' tk m' n' F' N' S' ⟨t1, t2, e⟩ => by subst e; exact h2 t1 t2 n' h' tk F' N' S'
theorem via_i {c : Sem Flow} {Q : Flow → Shared → Prop} (x : Str) (P : Int → Prop) (_F : Fr h₀ L s.heap m) (N : News h₀ L s.heap news) (h1 : wpAny M A c (After h₀ L news s (RInt m x P)) E s)
    (h2 : ∀ (v : Int) (t : Tok) (n' : List (Addr × Obj)) (h' : Heap) (tk : Nat), P v → Fr h₀ L h' (fun y => if y = x then some (.int v t) else m y) → News h₀ L h' n' → Sub news n' → Q .next { s with heap := h', toks := tk }) : wpAny M A c Q E s :=
  via _ N h1 fun h' tk m' n' F' N' S' ⟨v, t, e, hp⟩ => by subst e; exact h2 v t n' h' tk hp F' N' S'
theorem via_is {c : Sem Flow} {Q : Flow → Shared → Prop} {a : Int} {t0 : Tok} (x : Str) (P : Int → Int → Prop) (F : Fr h₀ L s.heap m) (N : News h₀ L s.heap news) (_hx : m x = some (.int a t0)) (h1 : wpAny M A c (After h₀ L news s (RInt m x (P a))) E s)
    (h2 : ∀ (v : Int) (t : Tok) (n' : List (Addr × Obj)) (h' : Heap) (tk : Nat), P a v → Fr h₀ L h' (fun y => if y = x then some (.int v t) else m y) → News h₀ L h' n' → Sub news n' → Q .next { s with heap := h', toks := tk }) : wpAny M A c Q E s :=
  via_i x (P a) F N h1 h2
theorem via_chk {c : Sem Flow} {Q : Flow → Shared → Prop} (_F : Fr h₀ L s.heap m) (N : News h₀ L s.heap news) (h1 : wpAny M A c (After h₀ L news s (RSame m)) E s)
    (h2 : ∀ (n' : List (Addr × Obj)) (h' : Heap) (tk : Nat), Fr h₀ L h' m → News h₀ L h' n' → Sub news n' → Q .next { s with heap := h', toks := tk }) : wpAny M A c Q E s :=
  via _ N h1 fun h' tk m' n' F' N' S' e => by
    have e' : m' = m := e
    subst e'; exact h2 n' h' tk F' N' S'
end
end
section
open PySem PySem.W PyProof.Rows PySem.Calls PyProof.V PySem.Spec
section
variable {prog : Program} {w : World} {A : Around} {E : Value → Shared → Prop} {h₀ : Heap} {env : Env} {target : Expr} {body : List Stmt} {Q : Flow → Shared → Prop} {s : Shared}
theorem items_inv {ws : List (Addr × String)} {keep : List (Addr × Obj)} (J : (Str → Option Value) → List (Addr × Obj) → Prop) (P : Value → Prop)
    (step : ∀ v m news, P v → J m news → ∀ h tk, Fr h₀ env.locals h m → AllObj ws (fun its => News h₀ env.locals h (its ++ news) → wpAny (model prog w) A (assign target env v) (fun _ s₂ => wpAny (model prog w) A (execs body env) (UnrPostW h₀ env.locals { s with heap := h, toks := tk } its (fun m' n' => SubL keep n' ∧ J m' n') Q) E s₂) E { s with heap := h, toks := tk }))
    (fin : ∀ m news, J m news → ∀ h tk, Fr h₀ env.locals h m → News h₀ env.locals h news → Q .next { s with heap := h, toks := tk }) :
    ∀ (vs : List Value), (∀ v ∈ vs, P v) → ∀ m news, J m news → ItemsRest prog w A E h₀ env target body Q s ws keep (vs.map .val) m news := by
  intro vs
  induction vs with
  | nil => exact fun _ m news hJ => fun h tk F N => fin m news hJ h tk F N
  | cons v r ih =>
    intro hP m news hJ
    have lift : ∀ (h : Heap) (tk : Nat) (its : List (Addr × Obj)) (f : Flow) (s₂ : Shared), UnrPostW h₀ env.locals { s with heap := h, toks := tk } its (fun m' n' => SubL keep n' ∧ J m' n') Q f s₂ → UnrPostW h₀ env.locals { s with heap := h, toks := tk } its (fun m' n' => SubL keep n' ∧ ItemsRest prog w A E h₀ env target body Q s ws keep (r.map .val) m' n') Q f s₂ := by
      intro h tk its f s₂ x
      cases f with
      | ret v => exact x
      | brk => exact x
      | next =>
        obtain ⟨h', tk', m', n', e, F', N', o, k, j⟩ := x
        exact ⟨h', tk', m', n', e, F', N', o, k, ih (fun v hv => hP v (List.mem_cons_of_mem _ hv)) m' n' j⟩
      | cont =>
        obtain ⟨h', tk', m', n', e, F', N', o, k, j⟩ := x
        exact ⟨h', tk', m', n', e, F', N', o, k, ih (fun v hv => hP v (List.mem_cons_of_mem _ hv)) m' n' j⟩
    have up : ∀ (ws' : List (Addr × String)) (k k' : List (Addr × Obj) → Prop), (∀ its, k its → k' its) → AllObj ws' k → AllObj ws' k' := by
      intro ws'
      induction ws' with
      | nil => exact fun k k' hk x => hk _ x
      | cons p q ih2 => exact fun k k' hk x o ho => ih2 _ _ (fun its => hk _) (x o ho)
    refine ItemsRest.val fun h tk F => up _ _ _ (fun its x N => ?_) (step v m news (hP v (List.mem_cons_self ..)) hJ h tk F)
    exact wpAny_mono (x N) (fun _ s₂ h₂ => wpAny_mono h₂ (fun f s₃ p => lift h tk its f s₃ p) fun _ _ e => e) fun _ _ e => e
def Off (S : List Str) (m m' : Str → Option Value) : Prop := ∀ y, y ∉ S → m' y = m y
def AllV (P : Value → Prop) : List Value → Prop
  | [] => True
  | v :: r => P v ∧ AllV P r
theorem AllV.at {P : Value → Prop} : ∀ {vs : List Value}, AllV P vs → ∀ v ∈ vs, P v
  | [], _, _, h => nomatch h
  | _ :: _, x, v, h => by
    rcases List.mem_cons.mp h with rfl | h
    · exact x.1
    · exact AllV.at x.2 v h
theorem iter_inv {ax : Addr} {lo : Obj} {vs : List Value} {n : Nat} {m₀ : Str → Option Value} {news : List (Addr × Obj)} (S : List Str) (P : List (Addr × Obj) → Value → Prop)
    (hh : A.handled = none) (F : Fr h₀ env.locals s.heap m₀) (N : News h₀ env.locals s.heap news) (hm : (ax, lo) ∈ news) (hc : lo.cls = .type "tuple") (hd : lo.data = .seq vs.toArray n)
    (hP : AllV (P news) vs)
    (step : ∀ I v m news' it h tk, (∀ p ∈ news, p.1 < I) → P news v → Off S m₀ m → Sub news news' → Fr h₀ env.locals h m → News h₀ env.locals h ((I, it) :: news') → wpAny (model prog w) A (assign target env v) (fun _ s₂ => wpAny (model prog w) A (execs body env) (UnrPostW h₀ env.locals { s with heap := h, toks := tk } [(I, it)] (fun m' n' => SubL [(ax, lo)] n' ∧ Off S m₀ m' ∧ Sub news n') Q) E s₂) E { s with heap := h, toks := tk })
    (fin : ∀ m news' h tk, Off S m₀ m → Sub news news' → Fr h₀ env.locals h m → News h₀ env.locals h news' → Q .next { s with heap := h, toks := tk }) :
    wpAny (model prog w) A (pyIter (.ref ax)) (fun it s₂ => TurnsAt prog w A h₀ env target body Q E it s₂) E s := by
  refine iter_tupTurns hh F N hm hc hd fun I hI => ?_
  refine items_inv (fun m' n' => Off S m₀ m' ∧ Sub news n') (P news) (fun v m news' hv hJ h tk F' => ?_) (fun m news' hJ h tk F' N' => fin m news' h tk hJ.1 hJ.2 F' N') vs hP.at m₀ news ⟨fun _ _ => rfl, Sub.refl _⟩
  exact fun o _ N' => step I v m news' o h tk hI hv hJ.1 hJ.2 F' N'
end
section
variable {M : Model} {A : Around} {E : Value → Shared → Prop} {s : Shared} {h₀ : Heap} {L : Addr} {m : Str → Option Value} {news n' : List (Addr × Obj)}
def ROff (S : List Str) (m : Str → Option Value) (m' : Str → Option Value) (_ : List (Addr × Obj)) : Prop := Off S m m'
theorem a_off {S : List Str} {h' : Heap} {tk : Nat} {m' : Str → Option Value} (F : Fr h₀ L h' m') (N : News h₀ L h' n') (hs : Sub news n') (hp : Off S m m') : After h₀ L news s (ROff S m) .next { s with heap := h', toks := tk } := ⟨h', tk, _, n', rfl, rfl, F, N, hs, hp⟩
theorem via_off {c : Sem Flow} {Q : Flow → Shared → Prop} (S : List Str) (_F : Fr h₀ L s.heap m) (N : News h₀ L s.heap news) (h1 : wpAny M A c (After h₀ L news s (ROff S m)) E s)
    (h2 : ∀ (m' : Str → Option Value) (n' : List (Addr × Obj)) (h' : Heap) (tk : Nat), Off S m m' → Fr h₀ L h' m' → News h₀ L h' n' → Sub news n' → Q .next { s with heap := h', toks := tk }) : wpAny M A c Q E s :=
  via _ N h1 fun h' tk m' n' F' N' S' e => h2 m' n' h' tk e F' N' S'
theorem off5 {a b c d e : Str} {m' : Str → Option Value} (h : Off [a, b, c, d, e] m m') : ∃ o1 o2 o3 o4 o5 : Option Value, m' = fun y => if y = a then o1 else if y = b then o2 else if y = c then o3 else if y = d then o4 else if y = e then o5 else m y := by
  refine ⟨m' a, m' b, m' c, m' d, m' e, funext fun y => ?_⟩
  repeat (split; · rename_i q; rw [q])
  exact h y (by simp only [List.mem_cons, List.not_mem_nil, or_false, not_or]; exact ⟨by assumption, by assumption, by assumption, by assumption, by assumption⟩)
theorem off_split {a : Str} {S : List Str} {m' : Str → Option Value} (h : Off (a :: S) m m') : ∃ o : Option Value, Off S (fun y => if y = a then o else m y) m' := by
  refine ⟨m' a, fun y hy => ?_⟩
  show m' y = if y = a then m' a else m y
  split
  · rename_i q; rw [q]
  · rename_i q
    exact h y (by simp only [List.mem_cons, not_or]; exact ⟨q, hy⟩)
theorem off_nil {m' : Str → Option Value} (h : Off [] m m') : m' = m := funext fun y => h y (by simp)
end
abbrev tup3v (v1 v2 v3 : Value) (c : Nat) : Obj := { cls := .type "tuple", data := .seq #[v1, v2, v3] c }
abbrev tup2v (v1 v2 : Value) (c : Nat) : Obj := { cls := .type "tuple", data := .seq #[v1, v2] c }
def PT (p : Int) (news : List (Addr × Obj)) (v : Value) : Prop := ∃ (D : Addr) (tv : Value) (m g k : Int) (t1 t2 : Tok) (c : Nat), v = .ref D ∧ (D, tup3v tv (.int m t1) (.int g t2) c) ∈ news ∧ T p m g k ∧ MpIn news tv (fme k g)
def PW (s : Int) (news : List (Addr × Obj)) (v : Value) : Prop := ∃ (D : Addr) (w b : Way) (s1 s2 : Str) (t1 t2 : Tok) (c : Nat), v = .ref D ∧ (D, tup2v (.str s1 t1) (.str s2 t2) c) ∈ news ∧ s1 = w.str ∧ s2 = b.str ∧ Match w s b
def PO (_ : List (Addr × Obj)) (v : Value) : Prop := ∃ (w : Way) (s1 : Str) (t1 : Tok), v = .str s1 t1 ∧ s1 = w.str ∧ w ≠ .n
end
section
theorem su_C22_1 : True := by
  k_with_none
  k_with "my enter" => ((k_dflt (refine' code_def ?k1 ?k2 ?k3 ?k4 ?k5 ?kA ?kF ?kK ?k6 ?k7 ?k8 ?k9 ?kB ?_ ?c2 ?c3 ?c4 ?c5; (case kA => exact rfl); (case kF => exact rfl); (case kK => assumption); (case k1 => k_asm); (case k2 => k_asm); (case k3 => k_asm); (case k4 => k_asm); (case k5 => k_asm); (case k6 => k_is); (case k7 => k_is); (case k8 => ktr_room); (case k9 => first | exact BindsTo.of_eq rfl | exact binds_K (by k_in) rfl (by k_is) rfl rfl rfl); (case c5 => decide); (case kB => exact locs rfl); (case c2 => exact rfl); (case c3 => exact rfl); (case c4 => exact rfl); k_whole; intro g' L' h' FG' F' N' B' X' T'; (try dsimp only); (try k_lift B'); (try k_fold))))
  k_with "my start" => ((refine wpAny_call ?_; k_extra "my enter"; k_extra "my norm"))
  k_with "my steps" => (repeat' (first | (k_unfold; (try dsimp only)) | (k_end; wrow_close) | (law_purse 30000 => walk1) | (law_purse 30000 => (dsimp only; walk1)) | (leave1; try dsimp only) | fail "no step"))
  k_with "eval Subscript" => (k_extra "my cut")
  k_with "my omega" => (((try simp only [bne_iff_ne, beq_iff_eq, decide_eq_true_eq, ne_eq, Bool.not_eq_true', Bool.not_eq_false', beq_eq_false_iff_ne, bne_eq_false_iff_eq, decide_eq_false_iff_not]); omega))
  k_with "ite" => ((k_here; first | (refine ite_pos (by with_reducible assumption) ?_) | (refine ite_neg (by with_reducible assumption) ?_) | (refine ite_pos (by k_extra "my omega") ?_) | (refine ite_neg (by k_extra "my omega") ?_)))
  k_with "my arith" => (first | omega | decide | ((simp only [fdiv2, fdiv2', Int.reduceToNat, Int.toNat_one, Int.reducePow, Int.pow_one] at *); omega))
  k_with "binaryOp LShift int int" => ((k_here; (refine' lshift_hid (k := 5000) (by k_extra "my arith") (by bits_by_make) (by k_extra "my arith") (by decide) ?_); intro v9 hv9 hb9 hs9 hp9))
  k_with "inplaceOp LShift int int" => ((k_here; (refine' ilshift_hid (k := 5000) (by k_extra "my arith") (by bits_by_make) (by k_extra "my arith") (by decide) ?_); intro v9 hv9 hb9 hs9 hp9))
  k_with "binaryOp RShift int int" => ((k_here; (refine' rshift_hid (by k_extra "my arith") ?_); intro v9 hv9 hb9))
  k_with "inplaceOp RShift int int" => ((k_here; (refine' irshift_hid (by k_extra "my arith") ?_); intro v9 hv9 hb9))
  k_with "binaryOp BitAnd int int" => ((k_here; (refine' and_hid ?_); intro v9 hv9))
  k_with "binaryOp BitXor int int" => ((k_here; (refine' xor_hid ?_); intro v9 hv9))
  k_with "inplaceOp BitXor int int" => ((k_here; (refine' ixor_hid ?_); intro v9 hv9))
  k_with "binaryOp Mult int int" => ((k_here; (refine' mul_hid (by bits_by_make) (by bits_by_make) (by decide) ?_); intro v9 hv9 hb9 hz9 hn9))
  k_with "inplaceOp Mult int int" => ((k_here; (refine' imul_hid (by bits_by_make) (by bits_by_make) (by decide) ?_); intro v9 hv9 hb9 hz9 hn9))
  k_with "my open" => ((repeat ((rename Hid _ => hh9); (have hh9' := hh9.out); clear hh9; subst hh9')))
  k_with "binaryOp FloorDiv int int" => ((k_here; (refine' floordiv_int ?mb1 ?_ (Or.inl (PyProof.noPylong_of_log2 ?mb2))); (case mb1 => k_extra "my arith"); (case mb2 => (refine' log_of_bits ?mb3 ?mb4; (case mb3 => bits_by_make); (case mb4 => decide)))))
  k_with "exec" => ((k_here; (with_reducible show wpAny _ _ (PySem.exec (Stmt.While _ _ _ _) _) _ _ _); k_extra "my while"))
  k_with "my mp" => (first | with_reducible assumption | exact MpIn.zero | (refine MpIn.cons ?_; k_extra "my mp") | (refine MpIn.mono (by with_reducible assumption) ?_; k_extra "my mp"))
  k_with "my sub" => (first | with_reducible assumption | exact Sub.refl _ | (refine Sub.cons _ ?_; k_extra "my sub") | (refine Sub.trans ?_ (by with_reducible assumption); k_extra "my sub"))
  k_with "my side" => (first | with_reducible assumption | omega | bits_by_make)
  k_with "my side" => (first | ((with_reducible refine bits_side ?_); omega) | ((with_reducible refine bits_sideN ?_); omega))
  k_with "my I" => ((intro t9 h9 tk9 F9 N9; (try k_sweep); (try dsimp only); (try k_fold)))
  k_with "my M" => ((intro r9 n9 h9 tk9 F9 N9 S9 P9; (try k_sweep); (try dsimp only); (try k_fold)))
  k_with "my bd" => (first | (refine' Bd.cons ?be ?br; (case be => exact rfl); (case br => k_extra "my bd")) | exact Bd.nil rfl)
  k_with "my norm" => (((rename Fr _ _ _ _ => F9); (replace F9 := fr_bd F9 (by k_extra "my bd"))))
  k_with "my seen" => (first | exact Seen.hit | (refine' Seen.skip ?sk; (case sk => k_extra "my seen")))
  k_with "eval Name" => ((k_here; name_kind "globalImplicit"; k_dflt (refine' name_BF ?nb1 ?nb2 ?nb3 ?nb4 ?nb5 ?nb6 ?nb7 ?_; (case nb1 => k_asm); (case nb2 => k_asm); (case nb3 => k_asm); (case nb4 => k_is); (case nb5 => boot_by_name); (case nb6 => decide +kernel); (case nb7 => exact rfl); k_whole)))
  k_with "eval Name" => ((k_here; name_kind "globalImplicit"; k_dflt (refine' name_KF ?nk1 ?nk2 ?nk3 ?nk4 ?nk5 ?nk6 ?_; (case nk1 => k_asm); (case nk2 => k_asm); (case nk3 => k_asm); (case nk4 => k_is); (case nk5 => decide +kernel); (case nk6 => exact rfl); k_whole)))
  k_with "eval Name" => ((k_here; name_kind "local"; k_dflt (refine' ldT ?lk1 ?lk2 ?lk3 ?lk4 ?_; (case lk1 => k_asm); (case lk2 => exact rfl); (case lk3 => decide +kernel); (case lk4 => exact rfl); k_whole)))
  k_with "eval Name" => ((k_here; name_kind "local"; k_dflt (refine' ldS ?ls1 ?ls2 ?ls3 ?ls4 ?ls5 ?_; (case ls1 => k_asm); (case ls2 => with_reducible k_extra "my seen"); (case ls3 => kernel_rfl!); (case ls4 => decide +kernel); (case ls5 => exact rfl); k_whole)))
  k_with "storeName" => ((k_here; k_dflt (refine' store_KF ?st1 ?st2 ?st3 ?st4 ?_; (case st1 => k_asm); (case st2 => k_asm); (case st3 => decide +kernel); (case st4 => exact rfl); k_whole); intro h' F' N'; (try k_sweep)))
  k_with "ite" => ((k_closed; k_dflt (first | refine ite_pos (by decide) ?_ | refine ite_neg (by decide) ?_)))
  k_with "call ref" => ((k_here; (with_reducible show wpAny _ _ (call (Value.ref 28) _) _ _ _); k_dflt (refine ctrI_use (c_isqrt_small _ _ _ (by k_extra "my side") (by k_extra "my side")) (by k_asm) (by k_asm) (by k_asm) (by k_asm) (by k_asm) (by first | exact rfl | assumption) (by ktr_room) (by ktr_units) ?_); k_extra "my I"))
  k_with "call ref" => ((k_here; (with_reducible show wpAny _ _ (call (Value.ref 35) _) _ _ _); k_dflt (refine ctr_use (c_sqrtrem _ _ _ (by k_extra "my side") (by k_extra "my side")) (by k_asm) (by k_asm) (by k_asm) (by k_asm) (by k_asm) (by first | exact rfl | assumption) (by ktr_room) (by ktr_units) ?_); intro r9 n9 h9 tk9 F9 N9 S9 P9; cases P9; (try k_sweep); (try dsimp only); (try k_fold)))
  k_with "my wa" => (first | with_reducible assumption | omega)
  k_with "my strip" => (first | exact se1 (by k_extra "my wa") (by k_extra "my wa") (by k_extra "my wa") (by k_extra "my wa") | exact se2 (by k_extra "my wa") (by k_extra "my wa") (by k_extra "my wa") (by k_extra "my wa") | exact se3 (by k_extra "my wa") (by k_extra "my wa") (by k_extra "my wa") | exact se4 (by k_extra "my wa") (by k_extra "my wa") (by k_extra "my wa"))
  k_with "my round" => (first | exact ro1 (by k_extra "my wa") (by k_extra "my wa") (by k_extra "my wa") (by k_extra "my wa") | exact ro2 (by k_extra "my wa") (by k_extra "my wa") (by k_extra "my wa") (by k_extra "my wa") | exact rn1 (by k_extra "my wa") (by k_extra "my wa") (by k_extra "my wa") (by k_extra "my wa") | exact rn2 (by k_extra "my wa") (by k_extra "my wa") (by k_extra "my wa") (by k_extra "my wa") (by k_extra "my wa") (by k_extra "my wa") | exact rn3 (by k_extra "my wa") (by k_extra "my wa") (by k_extra "my wa") (by k_extra "my wa") (by k_extra "my wa") (by k_extra "my wa") (by k_extra "my wa") (by k_extra "my wa") (by k_extra "my wa") | exact rn4 (by k_extra "my wa") (by k_extra "my wa") (by k_extra "my wa") (by k_extra "my wa") (by k_extra "my wa") (by k_extra "my wa") (by k_extra "my wa") (by k_extra "my wa") (by k_extra "my wa"))
  k_with "my nf" => (first | (refine nf_lo (by k_extra "my wa") (by k_extra "my wa") ?_; k_extra "my strip") | (refine' nf_hi ?c9 ?d9 ?a9 ?b9; (case a9 => k_extra "my strip"); (case c9 => k_extra "my wa"); (case d9 => k_extra "my wa"); (case b9 => k_extra "my round")))
  k_with "call ref" => ((k_here; (with_reducible show wpAny _ _ (call (Value.ref 21) _) _ _ _); k_dflt (refine trailing_use (by k_asm) (by k_asm) (by k_asm) (by k_asm) (by k_asm) (by first | exact rfl | assumption) (by ktr_room) (by ktr_units) ?_); intro t9 h9 tk9 hz9 F9 N9; (try k_sweep); (try dsimp only); (try k_fold)))
  k_with "call ref" => ((k_here; (with_reducible show wpAny _ _ (call (Value.ref 71) _) _ _ _); k_dflt (refine ctr_use (c_norm0 _ _ _ _ _ _ _ _ _ _ _ _ _ (by k_extra "my side") (by k_extra "my side") (by k_extra "my side") (by k_extra "my side") (by k_extra "my side")) (by k_asm) (by k_asm) (by k_asm) (by k_asm) (by k_asm) (by first | exact rfl | assumption) (by ktr_room) (by ktr_units) ?_); k_extra "my M"))
  k_with "call ref" => ((k_here; (with_reducible show wpAny _ _ (call (Value.ref 78) _) _ _ _); k_dflt (refine ctr_use (c_norm _ _ _ _ _ _ _ _ _ _ _ _ _ (by k_extra "my side") (by k_extra "my side") (by k_extra "my side") (by k_extra "my side") (by k_extra "my side")) (by k_asm) (by k_asm) (by k_asm) (by k_asm) (by k_asm) (by first | exact rfl | assumption) (by ktr_room) (by ktr_units) ?_); k_extra "my M"))
  k_with "call ref" => ((k_here; (with_reducible show wpAny _ _ (call (Value.ref 21) _) _ _ _); k_dflt (refine trailing_use (by k_asm) (by k_asm) (by k_asm) (by k_asm) (by k_asm) (by first | exact rfl | assumption) (by ktr_room) (by ktr_units) ?_); intro t9 h9 tk9 hz9 F9 N9; (try k_sweep); (try dsimp only); (try k_fold)))
  k_with "my fm" => (first | exact fm_odd (by with_reducible assumption) (by with_reducible assumption) (by omega) | exact fm_two (by with_reducible assumption) (by with_reducible assumption) (by with_reducible assumption) (by with_reducible assumption) (by with_reducible assumption) (by omega) | exact fm_tr (by with_reducible assumption) (by omega))
  k_with "call ref" => ((k_here; (with_reducible show wpAny _ _ (call (Value.ref 86) [_, _]) _ _ _); k_dflt (refine ctr_use (c_fme _ _ _ _ _ (by k_extra "my side")) (by k_asm) (by k_asm) (by k_asm) (by k_asm) (by k_asm) (by first | exact rfl | assumption) (by ktr_room) (by ktr_units) ?_); k_extra "my M"))
  k_with "call ref" => ((k_here; (with_reducible show wpAny _ _ (call (Value.ref 86) [_, _, Value.int 0 _, _]) _ _ _); k_dflt (refine ctr_use (c_fme0 _ _ _ _ _ _ _ (by k_extra "my side")) (by k_asm) (by k_asm) (by k_asm) (by k_asm) (by k_asm) (by first | exact rfl | assumption) (by ktr_room) (by ktr_units) ?_); k_extra "my M"))
  k_with "call ref" => ((k_here; (with_reducible show wpAny _ _ (call (Value.ref 86) [_, _, Value.int _ _, _]) _ _ _); k_dflt (refine ctr_use (c_fmeR _ _ _ _ _ _ _ _ _ (by k_extra "my side") (by k_extra "my side") (by k_extra "my side")) (by k_asm) (by k_asm) (by k_asm) (by k_asm) (by k_asm) (by first | exact rfl | assumption) (by ktr_room) (by ktr_units) ?_); k_extra "my M"))
  k_with "my mps" => (first | with_reducible assumption | (refine MpIn.cons ?_; k_extra "my mps") | (refine MpIn.mono (by with_reducible assumption) ?_; k_extra "my mps"))
  k_with "my mpz" => (first | exact MpIn.zero | k_extra "my mps")
  k_with "compareOp Eq ref ref" => ((k_here; k_dflt (first | refine eq_mp_t (by k_asm) (by k_asm) (by k_asm) (by k_extra "my mpz") (by k_extra "my mpz") (by ktr_units) rfl ?_ | refine eq_mp_f (by k_asm) (by k_asm) (by k_asm) (by k_extra "my mpz") (by k_extra "my mpz") (by ktr_units) (by (try dsimp only [Mp.zero]); omega) ?_ | refine eq_mp_nan (by k_asm) (by k_asm) (by k_asm) (by k_extra "my mps") (by ktr_units) (by (try dsimp only [Mp.zero]); omega) ?_)))
  k_with "call builtin:divmod" => ((k_here; (with_reducible show wpAny _ _ (call (Value.builtin _) [Value.int _ _, Value.int _ _]) _ _ _); refine divmod_hid (by k_asm) (by k_asm) (by first | with_reducible assumption | omega) (by bits_by_make) (by bits_by_make) (by decide) ?_; intro D9 h9 tk9 t91 t92 q9 r9 hq9 hb9 hb99 hb999 hr9 F9 N9))
  k_with "call ref" => ((k_here; (with_reducible show wpAny _ _ (call (Value.ref 78) _) _ _ _); k_dflt (refine ctr_use (c_norm _ _ _ _ _ _ _ _ _ _ _ _ _ (by k_extra "my side") (by k_extra "my side") (by k_extra "my side") (by k_extra "my side") (by k_extra "my side")) (by k_asm) (by k_asm) (by k_asm) (by k_asm) (by k_asm) (by first | exact rfl | assumption) (by ktr_room) (by ktr_units) ?_); k_extra "my M"))
  k_with "my side" => (exact xor1_01 (by with_reducible assumption) (by with_reducible assumption) (by with_reducible assumption))
  k_with "call ref" => ((k_here; (with_reducible show wpAny _ _ (call (Value.ref 78) _) _ _ _); k_dflt (refine ctr_use (c_norm _ _ _ _ _ _ _ _ _ _ _ _ _ (by k_extra "my side") (by k_extra "my side") (by k_extra "my side") (by k_extra "my side") (by k_extra "my side")) (by k_asm) (by k_asm) (by k_asm) (by k_asm) (by k_asm) (by first | exact rfl | assumption) (by ktr_room) (by ktr_units) ?_); k_extra "my M"))
  k_with "my side" => (exact xor1_01 (by with_reducible assumption) (by with_reducible assumption) (by with_reducible assumption))
  k_with "my ex" => ((unfold extraF; first | rw [if_pos (by with_reducible assumption)] | rw [if_neg (by with_reducible assumption)]))
  k_with "my ok" => (first | with_reducible assumption | with_reducible exact ok_zero | exact ok_fme (by k_extra "my side") (by omega) (by omega) | exact ok_rnd (by k_extra "my side") (by k_extra "my side") (by k_extra "my side") (by k_extra "my side") (by k_extra "my side") (by omega) (by omega))
  k_with "my nz" => (first | with_reducible assumption | exact fme_ne (by k_extra "my side"))
  k_with "my side" => (exact xor1_01 (by with_reducible assumption) (by with_reducible assumption) (by first | with_reducible assumption | exact Or.inr rfl))
  k_with "call ref" => ((k_here; (with_reducible show wpAny _ _ (call (Value.ref 78) _) _ _ _); k_dflt (refine ctr_use (c_norm _ _ _ _ _ _ _ _ _ _ _ _ _ (by k_extra "my side") (by k_extra "my side") (by k_extra "my side") (by k_extra "my side") (by k_extra "my side")) (by k_asm) (by k_asm) (by k_asm) (by k_asm) (by k_asm) (by first | exact rfl | assumption) (by ktr_room) (by ktr_units) ?_); k_extra "my M"))
  k_with "call ref" => ((k_here; (with_reducible show wpAny _ _ (call (Value.ref 94) _) _ _ _); k_dflt (refine ctr_use (c_from_int _ _ _ (by k_extra "my side")) (by k_asm) (by k_asm) (by k_asm) (by k_asm) (by k_asm) (by first | exact rfl | assumption) (by ktr_room) (by ktr_units) ?_); k_extra "my M"))
  k_with "call ref" => ((k_here; (with_reducible show wpAny _ _ (call (Value.ref 164) _) _ _ _); k_dflt (refine' use2 (by k_asm) (by k_asm) (by k_asm) (by k_asm) (by k_asm) (by first | exact rfl | assumption) (c_div _ _ _ _ _ _ _ _ _ ?sd0 ?sd1 ?sd2 ?sd3 ?sd4 ?sd5 ?sd6) (by ktr_room) (by ktr_units) ?_; (case sd0 => k_extra "my mp"); (case sd1 => k_extra "my mp"); (case sd2 => k_extra "my ok"); (case sd3 => k_extra "my ok"); (case sd4 => k_extra "my side"); (case sd5 => k_extra "my side"); (case sd6 => k_extra "my nz")); k_extra "my M"))
  k_with "call ref" => ((k_here; (with_reducible show wpAny _ _ (call (Value.ref 141) [_, _, _, _]) _ _ _); k_dflt (refine' use2 (by k_asm) (by k_asm) (by k_asm) (by k_asm) (by k_asm) (by first | exact rfl | assumption) (c_mul _ _ _ _ _ _ _ _ _ ?sd0 ?sd1 ?sd2 ?sd3 ?sd4) (by ktr_room) (by ktr_units) ?_; (case sd0 => k_extra "my mp"); (case sd1 => k_extra "my mp"); (case sd2 => k_extra "my ok"); (case sd3 => k_extra "my ok"); (case sd4 => k_extra "my side")); k_extra "my M"))
  k_with "my xs" => (first | exact xs_neg (by with_reducible assumption) (by with_reducible assumption) (by with_reducible assumption) | exact xs_pos (by omega) (by with_reducible assumption))
  k_with "my side" => (exact mulint_bits (by with_reducible assumption) (by with_reducible assumption) (by omega) (by omega) (by with_reducible assumption) rfl)
  k_with "my side" => (((refine Int.le_trans (Int.le_of_eq (mulint_bits (by with_reducible assumption) (by with_reducible assumption) (by omega) (by omega) (by with_reducible assumption) rfl)) ?_); omega))
  k_with "call ref" => ((k_here; (with_reducible show wpAny _ _ (call (Value.ref 78) _) _ _ _); k_dflt (refine ctr_use (c_norm _ _ _ _ _ _ _ _ _ _ _ _ _ (by k_extra "my side") (by k_extra "my side") (by k_extra "my side") (by k_extra "my side") (by k_extra "my side")) (by k_asm) (by k_asm) (by k_asm) (by k_asm) (by k_asm) (by first | exact rfl | assumption) (by ktr_room) (by ktr_units) ?_); k_extra "my M"))
  k_with "call ref" => ((k_here; (with_reducible show wpAny _ _ (call (Value.ref 86) [_, _, Value.int _ _, _]) _ _ _); k_dflt (refine ctr_use (c_fmeR _ _ _ _ _ _ _ _ _ (by k_extra "my side") (by k_extra "my side") (by k_extra "my side")) (by k_asm) (by k_asm) (by k_asm) (by k_asm) (by k_asm) (by first | exact rfl | assumption) (by ktr_room) (by ktr_units) ?_); k_extra "my M"))
  k_with "compareOp In str str" => (k_extra "my in")
  k_with "call ref" => ((k_here; (with_reducible show wpAny _ _ (call (Value.ref 42) _) _ _ _); k_dflt (refine isqrt_use (by k_asm) (by k_asm) (by k_asm) (by k_asm) (by k_asm) (by first | exact rfl | assumption) (by k_extra "my side") (by k_extra "my side") (by ktr_room) (by ktr_units) ?_); intro t9 h9 tk9 hq9 hb9 F9 N9; (try k_sweep); (try dsimp only); (try k_fold)))
  k_with "call ref" => ((k_here; (with_reducible show wpAny _ _ (call (Value.ref 35) _) _ _ _); k_dflt (refine sqrtrem_use (by k_asm) (by k_asm) (by k_asm) (by k_asm) (by k_asm) (by first | exact rfl | assumption) (by k_extra "my side") (by k_extra "my side") (by ktr_room) (by ktr_units) ?_); intro D9 t91 t92 c9 n9 h9 tk9 q9 r9 hq9 hr9 h19 hb9 hb99 F9 N9 S9 hm9; (try k_sweep); (try dsimp only); (try k_fold)))
  k_with "call builtin:max" => ((k_here; (with_reducible show wpAny _ _ (call (Value.builtin _) [Value.int _ _, Value.int _ _]) _ _ _); (with_unfolding_all refine' max_hid ?hh9 ?F9 ?N9 ?_; (case hh9 => with_unfolding_all rfl); (case F9 => k_asm); (case N9 => k_asm)); intro v9 t9 h9 tk9 hv9 hb9 F9 N9; (try k_sweep); (try dsimp only); (try k_fold)))
  k_with "binaryOp BitAnd int int" => ((k_here; (with_reducible refine and1_hid ?_); intro v9 hv9 hb9))
  k_with "binaryOp Mult int int" => ((k_here; (with_reducible refine mul2_any ?mz ?_); (case mz => with_reducible assumption)))
  k_with "my sq" => (first | exact sq2 (by with_reducible assumption) (by with_reducible assumption) (by with_reducible assumption) (by with_reducible assumption) (by with_reducible assumption) (by with_reducible assumption) (by with_reducible assumption) (by with_reducible assumption) (by with_reducible assumption) | exact sq3 (by with_reducible assumption) (by with_reducible assumption) (by with_reducible assumption) (by with_reducible assumption) (by with_reducible assumption) (by with_reducible assumption) (by with_reducible assumption) (by with_reducible assumption) | exact sq1 (by with_reducible assumption) (by with_reducible assumption) (by with_reducible assumption) (by with_reducible assumption) (by with_reducible assumption))
  k_with "Exists" => ((k_dflt (refine' ⟨_, _, rfl, rfl, ?exq⟩); (case exq => first | exact occ_w _ | kernel_rfl! | exact rfl)))
  k_with "call ref" => ((k_here; (with_reducible show wpAny _ _ (call (Value.ref 78) _) _ _ _); k_dflt (refine ctr_use (c_norm _ _ _ _ _ _ _ _ _ _ _ _ _ (by k_extra "my side") (by k_extra "my side") (by k_extra "my side") (by k_extra "my side") (by k_extra "my side")) (by k_asm) (by k_asm) (by k_asm) (by k_asm) (by k_asm) (by first | exact rfl | assumption) (by ktr_room) (by ktr_units) ?_); k_extra "my M"))
  k_with "call ref" => ((k_here; (with_reducible show wpAny _ _ (call (Value.ref 78) [_, _, _, _, _, Value.str (Str.ofString "d") _]) _ _ _); k_dflt (refine ctr_use (c_norm _ Way.d _ _ _ _ _ _ _ _ _ _ _ (by k_extra "my side") (by k_extra "my side") (by k_extra "my side") (by k_extra "my side") (by k_extra "my side")) (by k_asm) (by k_asm) (by k_asm) (by k_asm) (by k_asm) (by first | exact rfl | assumption) (by ktr_room) (by ktr_units) ?_); k_extra "my M"))
  k_with "my side" => (((with_reducible refine bits_sum ?_ ?_) <;> omega))
  k_with "inplaceOp BitXor int int" => ((k_here; (refine' ixor_hid ?_); intro v9 hv9; (have hx9 := xor00 hv9 (by omega) (by omega)); subst hx9))
  k_with "my as" => (first | with_reducible assumption | omega)
  k_with "call ref" => ((k_here; (with_reducible show wpAny _ _ (call (Value.ref 141) [_, _]) _ _ _); k_dflt (refine' use2 (by k_asm) (by k_asm) (by k_asm) (by k_asm) (by k_asm) (by first | exact rfl | assumption) (c_mulX _ _ _ _ _ ?sd0 ?sd1 ?sd2 ?sd3) (by ktr_room) (by ktr_units) ?_; (case sd0 => k_extra "my mp"); (case sd1 => k_extra "my mp"); (case sd2 => k_extra "my ok"); (case sd3 => k_extra "my ok")); k_extra "my M"))
  k_with "call ref" => ((k_here; (with_reducible show wpAny _ _ (call (Value.ref 133) [_, _, Value.int _ _]) _ _ _); k_dflt (refine' use2 (by k_asm) (by k_asm) (by k_asm) (by k_asm) (by k_asm) (by first | exact rfl | assumption) (c_addD _ _ _ _ _ _ _ ?sd0 ?sd1 ?sd2 ?sd3 ?sd4 ?sd5 ?sd6 ?sd7 ?sd8 ?sd9 ?sd10) (by ktr_room) (by ktr_units) ?_; (case sd0 => k_extra "my mp"); (case sd1 => k_extra "my mp"); (case sd2 => k_extra "my ok"); (case sd3 => k_extra "my ok"); (case sd4 => k_extra "my as"); (case sd5 => k_extra "my as"); (case sd6 => k_extra "my as"); (case sd7 => k_extra "my as"); (case sd8 => k_extra "my as"); (case sd9 => k_extra "my as"); (case sd10 => k_extra "my as")); k_extra "my M"))
  k_with "call ref" => ((k_here; (with_reducible show wpAny _ _ (call (Value.ref 180) [_, Value.int _ _, Value.str (Str.ofString "n") _]) _ _ _); k_dflt (refine' use2 (by k_asm) (by k_asm) (by k_asm) (by k_asm) (by k_asm) (by first | exact rfl | assumption) (c_sqrt _ _ _ Way.n _ _ _ ?sd0 ?sd1 ?sd2 ?sd3 ?sd4) (by ktr_room) (by ktr_units) ?_; (case sd0 => k_extra "my mp"); (case sd1 => k_extra "my ok"); (case sd2 => k_extra "my as"); (case sd3 => k_extra "my as"); (case sd4 => k_extra "my as")); k_extra "my M"))
  k_with "call ref" => ((k_here; (with_reducible show wpAny _ _ (call (Value.ref 118) [_, Value.int _ _, Value.str (Str.ofString "n") _]) _ _ _); k_dflt (refine' use2 (by k_asm) (by k_asm) (by k_asm) (by k_asm) (by k_asm) (by first | exact rfl | assumption) (c_absR _ _ _ Way.n _ _ _ ?sd0 ?sd1 ?sd2) (by ktr_room) (by ktr_units) ?_; (case sd0 => k_extra "my mp"); (case sd1 => k_extra "my ok"); (case sd2 => k_extra "my as")); k_extra "my M"))
  k_with "my for" => ((k_here; (rename Fr _ _ _ _ => lF'); (with_unfolding_all refine' For_turns lF' ?_; k_whole)))
  k_with "my iter" => ((k_here; (with_reducible show wpAny _ _ (pyIter (Value.ref _)) (fun it s₂ => TurnsAt _ _ _ _ _ _ _ _ _ it s₂) _ _); first | ((with_unfolding_all refine' iter_tupTurns ?h ?F ?N ?k ?c ?d ?_; (case h => with_unfolding_all rfl); (case F => k_asm); (case N => k_asm); (case k => k_mem); (case c => exact rfl); (case d => exact rfl); k_whole); intro i' l1) | ((with_unfolding_all refine' iter_tupK ?h ?F ?N ?X ?k ?c ?d ?z ?_; (case h => with_unfolding_all rfl); (case F => k_asm); (case N => k_asm); (case X => k_asm); (case k => k_is); (case c => exact rfl); (case d => exact rfl); (case z => decide); k_whole); intro i' l1)))
  k_with "my turn" => ((refine' turn_end ?tl ?tF ?tN ?tI ?tS ?tk ?_; (case tl => with_reducible assumption); (case tF => k_asm); (case tN => k_asm); (case tI => k_mem); (case tS => k_extra "my sub"); (case tk => first | exact True.intro | exact And.intro (by k_mem) True.intro); intro n9 S9; (try dsimp only)))
  k_with "my vn" => (first | exact vn1 (by omega) (by omega) | exact vn2 (by omega) (by omega) | exact vn3 (by with_reducible assumption) (by omega) (by omega) | exact vn4 (by with_reducible assumption) (by omega) (by omega))
  k_with "my vd" => (first | exact vd1 (by with_reducible assumption) (by omega) | exact vd2 (by omega))
  k_with "call ref" => ((k_here; (with_reducible show wpAny _ _ (call (Value.ref 209) _) _ _ _); k_dflt (refine' value_use (by k_asm) (by k_asm) (by k_asm) (by k_asm) (by k_asm) (by first | exact rfl | assumption) ?sd0 ?sd1 (by ktr_room) (by ktr_units) ?_; (case sd0 => k_extra "my mp"); (case sd1 => with_reducible assumption)); intro D9 t91 t92 c9 n9 h9 tk9 q9 r9 hq9 hr9 hb9 hb99 hp9 F9 N9 S9 hm9; (try k_sweep); (try dsimp only); (try k_fold)))
  k_with "exec For Name Name cons nil" => (k_extra "my for")
  k_with "pyIter ref" => (k_extra "my iter")
  k_with "UnrEndW" => (k_extra "my turn")
  k_with "compareOp Eq ref ref" => ((k_here; k_dflt (refine eq_z4 (by k_asm) (by k_asm) (by k_asm) (by k_mem) (by ktr_units) ?_)))
  k_with "call ref" => ((k_here; (with_reducible show wpAny _ _ (call (Value.ref 195) _) _ _ _); k_dflt (refine' useL (by k_asm) (by k_asm) (by k_asm) (by k_asm) (by k_asm) (by first | exact rfl | assumption) (c_draw _ _ _ _ _ _ _ _ ?sd0 ?sd1 ?sd2 ?sd3) ?sd4 ?sd5 ?sd6 (by ktr_room) (by ktr_units) ?_; (case sd4 => k_asm); (case sd5 => l_ints); (case sd6 => l_fit); (case sd0 => omega); (case sd1 => omega); (case sd2 => omega); (case sd3 => omega)); intro v9 t9 h9 tk9 hv9 F9 N9; (try k_sweep); (try dsimp only); (try k_fold)))
  k_with "eval Call" => ((k_here; (with_reducible show wpAny _ _ (eval (Expr.Call (Expr.Name _ _) _ [] _) _) _ _ _); k_dflt (refine Call_ ?_)))
  k_with "binaryOp Mod int int" => ((k_here; (with_reducible refine mod_hid ?mz ?_); (case mz => omega); intro v9 hv9 hb9))
  k_with "call ref" => ((k_here; (with_reducible show wpAny _ _ (call (Value.ref 216) _) _ _ _); k_dflt (refine' useL (by k_asm) (by k_asm) (by k_asm) (by k_asm) (by k_asm) (by first | exact rfl | assumption) (c_number _ _ _ _ _ _ _ _ ?sd0 ?sd1 ?sd2 ?sd3) ?sd4 ?sd5 ?sd6 (by ktr_room) (by ktr_units) ?_; (case sd4 => k_asm); (case sd5 => l_ints); (case sd6 => l_fit); (case sd0 => omega); (case sd1 => omega); (case sd2 => omega); (case sd3 => omega)); intro v9 t9 h9 tk9 hv9 F9 N9; (try k_sweep); (try dsimp only); (try k_fold)))
  k_with "my one" => (first | (k_unfold; (try dsimp only)) | (law_purse 30000 => walk1) | (law_purse 30000 => (dsimp only; walk1)) | (leave1; try dsimp only) | fail "no step")
  trivial
local macro_rules | `(tactic| k_mem) => `(tactic| first | with_reducible assumption | with_reducible exact List.mem_cons_self | (with_reducible refine List.mem_cons_of_mem _ ?_; k_mem) | (with_reducible refine Sub.get (by with_reducible assumption) ?_; k_mem))
local macro_rules | `(tactic| ktr_room) => `(tactic| exact Nat.le_of_ble_eq_true (by rfl))
local macro_rules | `(tactic| ktr_units) => `(tactic| exact Nat.le_of_ble_eq_true (by rfl))
theorem su_C22_2 : True := by
  k_with "my go" => (repeat' (k_extra "my one"))
  k_with "to exec" => (repeat' ((fail_if_success (with_reducible show wpAny _ _ (PySem.exec _ _) _ _ _)); k_extra "my one"))
  k_with "to iter" => (repeat' ((fail_if_success (with_reducible show wpAny _ _ (pyIter _) _ _ _)); k_extra "my one"))
  k_with "my P" => (first | omega | exact ⟨by with_reducible assumption, Or.inl ⟨rfl, rfl⟩⟩ | exact ⟨bnegN (by with_reducible assumption), Or.inr ⟨rfl, rfl⟩⟩ | exact ⟨(by k_extra "my open"; rfl), bsub (by with_reducible assumption) (by with_reducible assumption) (by decide)⟩ | exact ⟨(by k_extra "my open"; rfl), badd (by with_reducible assumption) (by with_reducible assumption) (by decide)⟩ | with_reducible assumption | exact Or.inl rfl | exact Or.inr rfl | exact n_end (by with_reducible assumption) (by with_reducible assumption) (by with_reducible assumption) (by with_reducible assumption))
  k_with "SetTo" => (first | (refine' set_new ?jF ?jN ?jp; (case jF => k_asm); (case jN => k_asm); (case jp => k_extra "my P")) | (refine' set_old ?jF ?jN ?jx ?jp; (case jF => k_asm); (case jN => k_asm); (case jx => exact rfl); (case jp => k_extra "my P")))
  k_with "After" => (first | (refine' a_same ?jF ?jN ?jS; (case jF => k_asm); (case jN => k_asm); (case jS => k_extra "my sub")) | (refine' a_mp ?jF ?jN ?jS ?jP; (case jF => k_asm); (case jN => k_asm); (case jS => k_extra "my sub"); (case jP => k_extra "my mp")) | (refine' a_mp2 ?jF ?jN ?jS ?jP ?jQ; (case jF => k_asm); (case jN => k_asm); (case jS => k_extra "my sub"); (case jP => k_extra "my mp"); (case jQ => k_extra "my mp")) | (refine' a_val ?jF ?jN ?jS ?jP ?jQ; (case jF => k_asm); (case jN => k_asm); (case jS => k_extra "my sub"); (case jP => with_reducible assumption); (case jQ => with_reducible assumption)) | (refine' a_int ?jF ?jN ?jS ?jP; (case jF => k_asm); (case jN => k_asm); (case jS => k_extra "my sub"); (case jP => k_extra "my P")) | (refine' a_int_old ?jF ?jN ?jS ?jx ?jP; (case jF => k_asm); (case jN => k_asm); (case jS => k_extra "my sub"); (case jx => exact rfl); (case jP => k_extra "my P")))
  k_with "my check" => ((k_extra "my open"; (try simp only [abs_if]); first | with_reducible assumption | omega | fail "check"))
  k_with "ite" => ((k_here; (with_reducible refine ite_neg (not_gt ?chk) ?_); (case chk => k_extra "my check")))
  k_with "binaryOp LShift int int" => ((k_here; (with_reducible refine shl40 ?_)))
  k_with "binaryOp Mult int int" => ((k_here; (with_reducible refine mul_big (by with_reducible assumption) ?_); intro v9 hv9 hb9; subst hv9))
  k_with "my side" => (decide)
  k_with "my ok" => (with_reducible assumption)
  k_with "my mp" => (first | with_reducible assumption | with_reducible exact MpIn.zero | (with_reducible apply MpIn.cons; k_extra "my mp") | (with_reducible apply MpIn.mono; (with_reducible assumption); k_extra "my mp"))
  k_with "call ref" => ((k_here; (with_reducible show wpAny _ _ (call (Value.ref 209) _) _ _ _); k_dflt (refine' value_use (by k_asm) (by k_asm) (by k_asm) (by k_asm) (by k_asm) (by first | exact rfl | assumption) ?sd0 ?sd1 (by ktr_room) (by ktr_units) ?_; (case sd0 => k_extra "my mp"); (case sd1 => with_reducible assumption)); intro D9 t91 t92 c9 n9 h9 tk9 q9 r9 hq9 hr9 hb9 hb99 hp9 F9 N9 S9 hm9; (try k_sweep); (try dsimp only); (try k_fold)))
  k_with "call ref" => ((k_here; (with_reducible show wpAny _ _ (call (Value.ref 164) [_, _, Value.int _ _, Value.str (Str.ofString "n") _]) _ _ _); k_dflt (refine' use2 (by k_asm) (by k_asm) (by k_asm) (by k_asm) (by k_asm) (by first | exact rfl | assumption) (c_div _ _ _ _ _ Way.n _ _ _ ?sd0 ?sd1 ?sd2 ?sd3 ?sd4 ?sd5 ?sd6) (by ktr_room) (by ktr_units) ?_; (case sd0 => k_extra "my mp"); (case sd1 => k_extra "my mp"); (case sd2 => k_extra "my ok"); (case sd3 => k_extra "my ok"); (case sd4 => k_extra "my as"); (case sd5 => k_extra "my as"); (case sd6 => k_extra "my as")); k_extra "my M"))
  k_with "call ref" => ((k_here; (with_reducible show wpAny _ _ (call (Value.ref 102) [_, _, Value.int _ _, Value.str (Str.ofString "n") _]) _ _ _); k_dflt (refine' use2 (by k_asm) (by k_asm) (by k_asm) (by k_asm) (by k_asm) (by first | exact rfl | assumption) (c_from_rational _ Way.n _ _ _ _ _ _ _ ?sd0 ?sd1 ?sd2 ?sd3 ?sd4) (by ktr_room) (by ktr_units) ?_; (case sd0 => k_extra "my as"); (case sd1 => k_extra "my as"); (case sd2 => k_extra "my as"); (case sd3 => k_extra "my as"); (case sd4 => k_extra "my as")); k_extra "my M"))
  k_with "call ref" => ((k_here; (with_reducible show wpAny _ _ (call (Value.ref 172) [_, _, Value.int _ _, Value.str (Str.ofString "n") _]) _ _ _); k_dflt (refine' use2 (by k_asm) (by k_asm) (by k_asm) (by k_asm) (by k_asm) (by first | exact rfl | assumption) (c_rdiv _ _ _ Way.n _ _ _ _ _ ?sd0 ?sd1 ?sd2 ?sd3 ?sd4 ?sd5) (by ktr_room) (by ktr_units) ?_; (case sd0 => k_extra "my mp"); (case sd1 => k_extra "my ok"); (case sd2 => k_extra "my as"); (case sd3 => k_extra "my as"); (case sd4 => k_extra "my as"); (case sd5 => k_extra "my as")); k_extra "my M"))
  k_with "call ref" => ((k_here; (with_reducible show wpAny _ _ (call (Value.ref 149) [_, _, Value.int _ _, Value.str (Str.ofString "n") _]) _ _ _); k_dflt (refine' use2 (by k_asm) (by k_asm) (by k_asm) (by k_asm) (by k_asm) (by first | exact rfl | assumption) (c_mul_int _ _ _ Way.n _ _ _ _ _ ?sd0 ?sd1 ?sd2 ?sd3 ?sd4 ?sd5) (by ktr_room) (by ktr_units) ?_; (case sd0 => k_extra "my mp"); (case sd1 => k_extra "my ok"); (case sd2 => k_extra "my as"); (case sd3 => k_extra "my as"); (case sd4 => k_extra "my as"); (case sd5 => k_extra "my as")); k_extra "my M"))
  k_with "call ref" => ((k_here; (with_reducible show wpAny _ _ (call (Value.ref 133) [_, _, Value.int _ _, Value.str (Str.ofString "n") _]) _ _ _); k_dflt (refine' use2 (by k_asm) (by k_asm) (by k_asm) (by k_asm) (by k_asm) (by first | exact rfl | assumption) (c_add _ _ _ _ _ Way.n _ _ _ ?sd0 ?sd1 ?sd2 ?sd3 ?sd4 ?sd5 ?sd6 ?sd7 ?sd8 ?sd9 ?sd10) (by ktr_room) (by ktr_units) ?_; (case sd0 => k_extra "my mp"); (case sd1 => k_extra "my mp"); (case sd2 => k_extra "my ok"); (case sd3 => k_extra "my ok"); (case sd4 => k_extra "my as"); (case sd5 => k_extra "my as"); (case sd6 => k_extra "my as"); (case sd7 => k_extra "my as"); (case sd8 => k_extra "my as"); (case sd9 => k_extra "my as"); (case sd10 => k_extra "my as")); k_extra "my M"))
  k_with "call ref" => ((k_here; (with_reducible show wpAny _ _ (call (Value.ref 141) [_, _, Value.int _ _, _]) _ _ _); k_dflt (refine' use2 (by k_asm) (by k_asm) (by k_asm) (by k_asm) (by k_asm) (by first | exact rfl | assumption) (c_mul _ _ _ _ _ _ _ _ _ ?sd0 ?sd1 ?sd2 ?sd3 ?sd4) (by ktr_room) (by ktr_units) ?_; (case sd0 => k_extra "my mp"); (case sd1 => k_extra "my mp"); (case sd2 => k_extra "my ok"); (case sd3 => k_extra "my ok"); (case sd4 => k_extra "my as")); k_extra "my M"))
  k_with "call ref" => ((k_here; (with_reducible show wpAny _ _ (call (Value.ref 141) [_, _, Value.int _ _, Value.str (Str.ofString "n") _]) _ _ _); k_dflt (refine' use2 (by k_asm) (by k_asm) (by k_asm) (by k_asm) (by k_asm) (by first | exact rfl | assumption) (c_mul _ _ _ _ _ Way.n _ _ _ ?sd0 ?sd1 ?sd2 ?sd3 ?sd4) (by ktr_room) (by ktr_units) ?_; (case sd0 => k_extra "my mp"); (case sd1 => k_extra "my mp"); (case sd2 => k_extra "my ok"); (case sd3 => k_extra "my ok"); (case sd4 => k_extra "my as")); k_extra "my M"))
  k_with "call ref" => ((k_here; (with_reducible show wpAny _ _ (call (Value.ref 180) [_, Value.int _ _, _]) _ _ _); k_dflt (refine' use2 (by k_asm) (by k_asm) (by k_asm) (by k_asm) (by k_asm) (by first | exact rfl | assumption) (c_sqrt _ _ _ _ _ _ _ ?sd0 ?sd1 ?sd2 ?sd3 ?sd4) (by ktr_room) (by ktr_units) ?_; (case sd0 => k_extra "my mp"); (case sd1 => k_extra "my ok"); (case sd2 => k_extra "my as"); (case sd3 => k_extra "my as"); (case sd4 => k_extra "my as")); k_extra "my M"))
  k_with "call ref" => ((k_here; (with_reducible show wpAny _ _ (call (Value.ref 180) [_, Value.int _ _, Value.str (Str.ofString "n") _]) _ _ _); k_dflt (refine' use2 (by k_asm) (by k_asm) (by k_asm) (by k_asm) (by k_asm) (by first | exact rfl | assumption) (c_sqrt _ _ _ Way.n _ _ _ ?sd0 ?sd1 ?sd2 ?sd3 ?sd4) (by ktr_room) (by ktr_units) ?_; (case sd0 => k_extra "my mp"); (case sd1 => k_extra "my ok"); (case sd2 => k_extra "my as"); (case sd3 => k_extra "my as"); (case sd4 => k_extra "my as")); k_extra "my M"))
  k_with "call ref" => ((k_here; (with_reducible show wpAny _ _ (call (Value.ref 188) [_, _, Value.int _ _, _]) _ _ _); k_dflt (refine' use2 (by k_asm) (by k_asm) (by k_asm) (by k_asm) (by k_asm) (by first | exact rfl | assumption) (c_hypot _ _ _ _ _ _ _ _ ?sd0 ?sd1 ?sd2 ?sd3 ?sd4 ?sd5 ?sd6 ?sd7 ?sd8 ?sd9 ?sd10 ?sd11 ?sd12 ?sd13) (by ktr_room) (by ktr_units) ?_; (case sd0 => k_extra "my mp"); (case sd1 => k_extra "my mp"); (case sd2 => k_extra "my ok"); (case sd3 => k_extra "my ok"); (case sd4 => k_extra "my as"); (case sd5 => k_extra "my as"); (case sd6 => k_extra "my as"); (case sd7 => k_extra "my as"); (case sd8 => k_extra "my as"); (case sd9 => k_extra "my as"); (case sd10 => k_extra "my as"); (case sd11 => k_extra "my as"); (case sd12 => k_extra "my as"); (case sd13 => k_extra "my as")); k_extra "my M"))
  k_with "call ref" => ((k_here; (with_reducible show wpAny _ _ (call (Value.ref 110) [_]) _ _ _); k_dflt (refine' use2 (by k_asm) (by k_asm) (by k_asm) (by k_asm) (by k_asm) (by first | exact rfl | assumption) (c_neg _ _ _ ?sd0 ?sd1) (by ktr_room) (by ktr_units) ?_; (case sd0 => k_extra "my mp"); (case sd1 => k_extra "my ok")); k_extra "my M"))
  k_with "call ref" => ((k_here; (with_reducible show wpAny _ _ (call (Value.ref 118) [_]) _ _ _); k_dflt (refine' use2 (by k_asm) (by k_asm) (by k_asm) (by k_asm) (by k_asm) (by first | exact rfl | assumption) (c_abs _ _ _ ?sd0 ?sd1) (by ktr_room) (by ktr_units) ?_; (case sd0 => k_extra "my mp"); (case sd1 => k_extra "my ok")); k_extra "my M"))
  k_with "call ref" => ((k_here; (with_reducible show wpAny _ _ (call (Value.ref 156) [_, _]) _ _ _); k_dflt (refine' use2 (by k_asm) (by k_asm) (by k_asm) (by k_asm) (by k_asm) (by first | exact rfl | assumption) (c_shift _ _ _ _ _ ?sd0 ?sd1) (by ktr_room) (by ktr_units) ?_; (case sd0 => k_extra "my mp"); (case sd1 => k_extra "my ok")); k_extra "my M"))
  k_with "call ref" => ((k_here; (with_reducible show wpAny _ _ (call (Value.ref 202) [_, _]) _ _ _); k_dflt (refine' use2B (by k_asm) (by k_asm) (by k_asm) (by k_asm) (by k_asm) (by first | exact rfl | assumption) (c_form _ _ _ _ _ ?sd0 ?sd1) (by ktr_room) (by ktr_units) ?_; (case sd0 => k_extra "my mp"); (case sd1 => k_extra "my as")); intro h9 tk9 F9 N9; (try k_sweep); (try dsimp only); (try k_fold)))
  k_with "call ref" => ((k_here; (with_reducible show wpAny _ _ (call (Value.ref 223) [_, _, _]) _ _ _); k_dflt (refine' use2B (by k_asm) (by k_asm) (by k_asm) (by k_asm) (by k_asm) (by first | exact rfl | assumption) (c_same _ _ _ _ _ _ _ ?sd0 ?sd1 ?sd2 ?sd3 ?sd4 ?sd5) (by ktr_room) (by ktr_units) ?_; (case sd0 => k_extra "my mp"); (case sd1 => k_extra "my ok"); (case sd2 => k_extra "my as"); (case sd3 => k_extra "my as"); (case sd4 => k_extra "my as"); (case sd5 => k_extra "my as")); intro h9 tk9 F9 N9; (try k_sweep); (try dsimp only); (try k_fold)))
  k_with "call ref" => ((k_here; (with_reducible show wpAny _ _ (call (Value.ref 230) [_]) _ _ _); k_dflt (refine' use2B (by k_asm) (by k_asm) (by k_asm) (by k_asm) (by k_asm) (by first | exact rfl | assumption) (c_most _ _ _ ?sd0 ?sd1 ?sd2) (by ktr_room) (by ktr_units) ?_; (case sd0 => k_extra "my mp"); (case sd1 => k_extra "my ok"); (case sd2 => k_extra "my as")); intro h9 tk9 F9 N9; (try k_sweep); (try dsimp only); (try k_fold)))
  k_with "my as" => (first | with_reducible assumption | omega)
  k_with "compareOp NotEq" => ((k_here; k_dflt (refine' ne_mp_no (by k_asm) (by k_asm) (by k_asm) ?sd0 ?sd1 (by ktr_units) ?sd2 ?_; (case sd0 => k_extra "my mp"); (case sd2 => first | with_reducible assumption | with_reducible exact Eq.symm (by with_reducible assumption)); (case sd1 => k_extra "my mp"))))
  k_with "UnrEndW" => (k_extra "my turn")
  trivial
theorem good_true {cl : Str → Option Addr} {mean : ExcName → Option Value} {args : List WData} {s₁ s' : Shared} {L : Addr} {m : Str → Option Value} (F : Fr s₁.heap L s'.heap m) (hg : s'.gens = #[]) (hos : s'.os = s₁.os) :
    GoodW PySem.Challenge.rw_aa5010_01.row.claim cl mean args s₁ (.ok (.ret (.bool true))) s' :=
  goodW_bool F hg (raisesW_false (by wrow_none_raised)) (postW_of (by wrow_shape) (by wtm_val) (by w_fin)) hos
theorem su_C22_3 : True := by
  k_with "GoodW" => (((with_reducible refine' good_true ?ga ?gb ?gc); (case ga => with_reducible assumption); (case gb => first | with_reducible assumption | assumption); (case gc => rfl)))
  trivial
theorem lawT : PySem.Challenge.rw_aa5010_01.Holds := hd (by
  k_go0
  all_goals k_extra "my norm"
  all_goals try k_fold
  k_extra "to exec"
  refine' via_set0 ?x1a ?x1b ?xF1 ?xN1 ?ha1 ?hb1
  case x1a => exact ((Str.ofString "p"))
  case x1b => exact (fun v => 3 ≤ v ∧ v ≤ 18)
  case xF1 => k_asm
  case xN1 => k_asm
  case ha1 => ((try k_fold); k_extra "my go")
  case' hb1 => (intro pv pt h9 tk9 hp F9 N9; (try k_sweep))
  k_extra "to exec"
  refine' via_set0 ?x2a ?x2b ?xF2 ?xN2 ?ha2 ?hb2
  case x2a => exact ((Str.ofString "m"))
  case x2b => exact (fun v => 0 ≤ v ∧ v < 2 ^ (pv - 1).toNat)
  case xF2 => k_asm
  case xN2 => k_asm
  case ha2 => ((try k_fold); k_extra "my go")
  case' hb2 => (intro mv mt h9 tk9 hm F9 N9; (try k_sweep))
  k_extra "to exec"
  refine' via_set0 ?x3a ?x3b ?xF3 ?xN3 ?ha3 ?hb3
  case x3a => exact ((Str.ofString "s"))
  case x3b => exact (fun v => -32 ≤ v ∧ v ≤ 31)
  case xF3 => k_asm
  case xN3 => k_asm
  case ha3 => ((try k_fold); k_extra "my go")
  case' hb3 => (intro sv st h9 tk9 hs F9 N9; (try k_sweep))
  k_extra "to exec"
  refine' via_set0 ?x4a ?x4b ?xF4 ?xN4 ?ha4 ?hb4
  case x4a => exact ((Str.ofString "gap"))
  case x4b => exact (fun v => 0 ≤ v ∧ v < pv)
  case xF4 => k_asm
  case xN4 => k_asm
  case ha4 => ((try k_fold); k_extra "my go")
  case' hb4 => (intro gapv gapt h9 tk9 hgap F9 N9; (try k_sweep))
  k_extra "to exec"
  refine' via_set0 ?x5a ?x5b ?xF5 ?xN5 ?ha5 ?hb5
  case x5a => exact ((Str.ofString "at"))
  case x5b => exact (fun v => 0 ≤ v ∧ v < 20)
  case xF5 => k_asm
  case xN5 => k_asm
  case ha5 => ((try k_fold); k_extra "my go")
  case' hb5 => (intro atv att h9 tk9 hat F9 N9; (try k_sweep))
  k_extra "to exec"
  refine' via_set0 ?x6a ?x6b ?xF6 ?xN6 ?ha6 ?hb6
  case x6a => exact ((Str.ofString "n"))
  case x6b => exact (fun v => ∃ g a : Nat, v = 2 ^ a * (2 ^ g + 1) ∧ (g : Int) < pv ∧ a ≤ 19)
  case xF6 => k_asm
  case xN6 => k_asm
  case ha6 => ((try k_fold); k_extra "my go")
  case' hb6 => (intro nv nt h9 tk9 hn F9 N9; (try k_sweep))
  k_extra "to exec"
  refine' via_is ?x7a ?x7b ?xF7 ?xN7 ?xh7 ?ha7 ?hb7
  case x7a => exact ((Str.ofString "m"))
  case x7b => exact (fun a v => v = a ∨ v = -a)
  case xF7 => k_asm
  case xN7 => k_asm
  case xh7 => exact rfl
  case ha7 => ((try k_fold); k_extra "my go")
  case' hb7 => (intro mm mmt n9 h9 tk9 hmm F9 N9 S9; (try k_sweep))
  k_extra "to exec"
  refine' via_is ?x8a ?x8b ?xF8 ?xN8 ?xh8 ?ha8 ?hb8
  case x8a => exact ((Str.ofString "n"))
  case x8b => exact (fun a v => v = a ∨ v = -a)
  case xF8 => k_asm
  case xN8 => k_asm
  case xh8 => exact rfl
  case ha8 => ((try k_fold); k_extra "my go")
  case' hb8 => (intro nn nnt n9 h9 tk9 hnn F9 N9 S9; (try k_sweep))
  have HB : B1 pv mm sv nn := b1_of hp hm hs hn hmm hnn
  clear hm hn hmm hnn
  have fbm := HB.bm
  have fbn := HB.bn
  have fn0 := HB.n0
  have fokx := HB.okx
  have fokw := HB.okw
  have fwman := HB.wman
  have fokpart := HB.okpart
  k_extra "to exec"
  refine' via_mp2 ?x9a ?x9b ?x9c ?x9d ?xF9 ?xN9 ?ha9 ?hb9
  case x9a => exact ((Str.ofString "x"))
  case x9b => exact ((Str.ofString "whole"))
  case x9c => exact (fme mm sv)
  case x9d => exact (fme nn 0)
  case xF9 => k_asm
  case xN9 => k_asm
  case ha9 => ((try k_fold); k_extra "my go")
  case' hb9 => (intro r1 r2 n9 h9 tk9 p1 p2 F9 N9 S9; (try k_sweep))
  k_extra "to exec"
  refine' via_mp ?x10a ?x10b ?xF10 ?xN10 ?ha10 ?hb10
  case x10a => exact ((Str.ofString "part"))
  case x10b => exact (divF .n pv (fme mm sv) (fme nn 0))
  case xF10 => k_asm
  case xN10 => k_asm
  case ha10 => ((try k_fold); k_extra "my go")
  case' hb10 => (intro rp n9 h9 tk9 p_rp F9 N9 S9; (try k_sweep))
  have ff1 := HB.formx
  have ff2 := HB.same_x
  have ff3 := HB.same_w
  have ff4 := HB.formpart
  k_extra "to exec"
  refine' via_chk  ?xF11 ?xN11 ?ha11 ?hb11
  case xF11 => k_asm
  case xN11 => k_asm
  case ha11 => ((try k_fold); k_extra "my go")
  case' hb11 => (intro n9 h9 tk9 F9 N9 S9; (try k_sweep))
  clear ff1 ff2 ff3 ff4
  have ff1 := HB.rat_eq
  have ff2 := HB.rdiv_eq
  have ff3 := HB.okrat
  have ff4 := HB.okrdiv
  k_extra "to exec"
  refine' via_chk  ?xF12 ?xN12 ?ha12 ?hb12
  case xF12 => k_asm
  case xN12 => k_asm
  case ha12 => ((try k_fold); k_extra "my go")
  case' hb12 => (intro n9 h9 tk9 F9 N9 S9; (try k_sweep))
  clear ff1 ff2 ff3 ff4
  k_extra "to exec"
  refine' via_val ?x13a ?x13b ?x13c ?xF13 ?xN13 ?ha13 ?hb13
  case x13a => exact ((Str.ofString "a"))
  case x13b => exact ((Str.ofString "b"))
  case x13c => exact (divF .n pv (fme mm sv) (fme nn 0))
  case xF13 => k_asm
  case xN13 => k_asm
  case ha13 => ((try k_fold); k_extra "my go")
  case' hb13 => (intro t1 t2 n9 h9 tk9 F9 N9 S9; (try k_sweep))
  k_extra "to exec"
  refine' via_val ?x14a ?x14b ?x14c ?xF14 ?xN14 ?ha14 ?hb14
  case x14a => exact ((Str.ofString "c"))
  case x14b => exact ((Str.ofString "d"))
  case x14c => exact (fme mm sv)
  case xF14 => k_asm
  case xN14 => k_asm
  case ha14 => ((try k_fold); k_extra "my go")
  case' hb14 => (intro t1 t2 n9 h9 tk9 F9 N9 S9; (try k_sweep))
  have ff1 := HB.err
  have fa := vN_bits fokpart
  have fb := vD_bits fokpart
  have fc := vN_bits fokx
  have fd := vD_bits fokx
  k_extra "to exec"
  refine' via_chk  ?xF15 ?xN15 ?ha15 ?hb15
  case xF15 => k_asm
  case xN15 => k_asm
  case ha15 => ((try k_fold); k_extra "my go")
  case' hb15 => (intro n9 h9 tk9 F9 N9 S9; (try k_sweep))
  clear fa fb fc fd ff1
  have ff1 := HB.kahan
  have ff2 := HB.kahan_int
  k_extra "to exec"
  refine' via_chk  ?xF16 ?xN16 ?ha16 ?hb16
  case xF16 => k_asm
  case xN16 => k_asm
  case ha16 => ((try k_fold); k_extra "my go")
  case' hb16 => (intro n9 h9 tk9 F9 N9 S9; (try k_sweep))
  clear ff1 ff2
  have ff1 := HB.big_ok
  have ff2 := HB.big
  k_extra "to exec"
  refine' via_chk  ?xF17 ?xN17 ?ha17 ?hb17
  case xF17 => k_asm
  case xN17 => k_asm
  case ha17 => ((try k_fold); k_extra "my go")
  case' hb17 => (intro n9 h9 tk9 F9 N9 S9; (try k_sweep))
  clear ff1 ff2
  clear fbm fbn fn0 fokx fokw fwman fokpart HB
  k_extra "to exec"
  refine' via_set0 ?x18a ?x18b ?xF18 ?xN18 ?ha18 ?hb18
  case x18a => exact ((Str.ofString "m"))
  case x18b => exact (fun v => 0 ≤ v ∧ v < 2 ^ pv.toNat)
  case xF18 => k_asm
  case xN18 => k_asm
  case ha18 => ((try k_fold); k_extra "my go")
  case' hb18 => (intro mv mt h9 tk9 hm F9 N9; (try k_sweep))
  k_extra "to exec"
  refine' via_set0 ?x19a ?x19b ?xF19 ?xN19 ?ha19 ?hb19
  case x19a => exact ((Str.ofString "n"))
  case x19b => exact (fun v => 0 ≤ v ∧ v < 2 ^ pv.toNat)
  case xF19 => k_asm
  case xN19 => k_asm
  case ha19 => ((try k_fold); k_extra "my go")
  case' hb19 => (intro nv nt h9 tk9 hn F9 N9; (try k_sweep))
  k_extra "to exec"
  refine' via_set0 ?x20a ?x20b ?xF20 ?xN20 ?ha20 ?hb20
  case x20a => exact ((Str.ofString "g"))
  case x20b => exact (fun v => -8 ≤ v ∧ v ≤ 7)
  case xF20 => k_asm
  case xN20 => k_asm
  case ha20 => ((try k_fold); k_extra "my go")
  case' hb20 => (intro ggv ggt h9 tk9 hgg F9 N9; (try k_sweep))
  k_extra "to exec"
  refine' via_set0 ?x21a ?x21b ?xF21 ?xN21 ?ha21 ?hb21
  case x21a => exact ((Str.ofString "h"))
  case x21b => exact (fun v => -8 ≤ v ∧ v ≤ 7)
  case xF21 => k_asm
  case xN21 => k_asm
  case ha21 => ((try k_fold); k_extra "my go")
  case' hb21 => (intro hhv hht h9 tk9 hhh F9 N9; (try k_sweep))
  k_extra "to exec"
  refine' via_is ?x22a ?x22b ?xF22 ?xN22 ?xh22 ?ha22 ?hb22
  case x22a => exact ((Str.ofString "n"))
  case x22b => exact (fun a v => (a ≠ 0 ∧ v = a) ∨ (a = 0 ∧ v = 1))
  case xF22 => k_asm
  case xN22 => k_asm
  case xh22 => exact rfl
  case ha22 => ((try k_fold); k_extra "my go")
  case' hb22 => (intro nn nnt n9 h9 tk9 hnn F9 N9 S9; (try k_sweep))
  k_extra "to exec"
  refine' via_i ?x23a ?x23b ?xF23 ?xN23 ?ha23 ?hb23
  case x23a => exact ((Str.ofString "k"))
  case x23b => exact (fun v => v = mv ∨ v = -mv)
  case xF23 => k_asm
  case xN23 => k_asm
  case ha23 => ((try k_fold); k_extra "my go")
  case' hb23 => (intro kkv kkt n9 h9 tk9 hkk F9 N9 S9; (try k_sweep))
  k_extra "to exec"
  refine' via_i ?x24a ?x24b ?xF24 ?xN24 ?ha24 ?hb24
  case x24a => exact ((Str.ofString "q"))
  case x24b => exact (fun v => v = nn ∨ v = -nn)
  case xF24 => k_asm
  case xN24 => k_asm
  case ha24 => ((try k_fold); k_extra "my go")
  case' hb24 => (intro qqv qqt n9 h9 tk9 hqq F9 N9 S9; (try k_sweep))
  have HT : B2 pv mv ggv kkv nn hhv qqv := b2_of hp hm hn hgg hhh hnn hkk hqq
  clear hm hn hgg hhh hnn hkk hqq
  have fb1 := HT.tx.kb18
  have fb2 := HT.ty.kb18
  have fb3 := HT.tx.mb18
  have fb4 := HT.ty.mb18
  have fokx := HT.tx.ok
  have foky := HT.ty.ok
  k_extra "to exec"
  refine' via_mp2 ?x25a ?x25b ?x25c ?x25d ?xF25 ?xN25 ?ha25 ?hb25
  case x25a => exact ((Str.ofString "x"))
  case x25b => exact ((Str.ofString "y"))
  case x25c => exact (fme kkv ggv)
  case x25d => exact (fme qqv hhv)
  case xF25 => k_asm
  case xN25 => k_asm
  case ha25 => ((try k_fold); k_extra "my go")
  case' hb25 => (intro r1 r2 n9 h9 tk9 p1 p2 F9 N9 S9; (try k_sweep))
  k_extra "to exec"
  refine' via_off ?xL2 ?xLF2 ?xLN2 ?haL2 ?hbL2
  case xL2 => exact [(Str.ofString "t"), (Str.ofString "v"), (Str.ofString "e"), (Str.ofString "plain"), (Str.ofString "c"), (Str.ofString "d"), (Str.ofString "way"), (Str.ofString "back"), (Str.ofString "square"), (Str.ofString "a"), (Str.ofString "b")]
  case xLF2 => k_asm
  case xLN2 => k_asm
  case haL2 =>
    (try k_fold)
    refine' For_turns ?yF2 ?_ ?yS2 ?yE2
    case yF2 => k_asm
    case yS2 => (intro _; rfl)
    case yE2 => passes_own
    k_whole
    k_extra "to iter"
    refine' iter_inv ?zz2 ?zp2 ?zh2 ?zF2 ?zN2 ?zk2 ?zc2 ?zd2 ?zP2 ?zS2 ?zE2
    case zz2 => exact [(Str.ofString "t"), (Str.ofString "v"), (Str.ofString "e"), (Str.ofString "plain"), (Str.ofString "c"), (Str.ofString "d"), (Str.ofString "way"), (Str.ofString "back"), (Str.ofString "square"), (Str.ofString "a"), (Str.ofString "b")]
    case zp2 => exact (PT pv)
    case zh2 => with_unfolding_all rfl
    case zF2 => k_asm
    case zN2 => k_asm
    case zk2 => k_mem
    case zc2 => exact rfl
    case zd2 => exact rfl
    case zP2 => exact ⟨⟨_, _, _, _, _, _, _, _, rfl, (by k_mem), HT.tx, (by k_extra "my mp")⟩, ⟨_, _, _, _, _, _, _, _, rfl, (by k_mem), HT.ty, (by k_extra "my mp")⟩, trivial⟩
    case zE2 => (intro m9 n9 h9 tk9 o9 S9 F9 N9; (try k_sweep); exact a_off F9 N9 (by k_extra "my sub") o9)
    case zS2 =>
      intro I9 v9 m9 n9 it9 h9 tk9 lt9 P9 o9 S9 F9 N9
      (try k_sweep)
      obtain ⟨D, tv, mm, gg, kk, t1, t2, c9, rfl, hD, HA, hmp⟩ := P9
      have foka := HA.ok
      have fka := HA.kb18
      have fma := HA.mb18
      obtain ⟨o0, o9⟩ := off_split o9
      obtain ⟨o1, o9⟩ := off_split o9
      obtain ⟨o2, o9⟩ := off_split o9
      obtain ⟨o3, o9⟩ := off_split o9
      obtain ⟨o4, o9⟩ := off_split o9
      obtain ⟨o5, o9⟩ := off_split o9
      obtain ⟨o6, o9⟩ := off_split o9
      obtain ⟨o7, o9⟩ := off_split o9
      obtain ⟨o8, o9⟩ := off_split o9
      obtain ⟨o9, o9⟩ := off_split o9
      obtain ⟨o10, o9⟩ := off_split o9
      have o9 := off_nil o9
      subst o9
      k_extra "to exec"
      refine' via_mp ?x31a ?x31b ?xF31 ?xN31 ?ha31 ?hb31
      case x31a => exact ((Str.ofString "plain"))
      case x31b => exact (fme mm gg)
      case xF31 => k_asm
      case xN31 => k_asm
      case ha31 => ((try k_fold); k_extra "my go")
      case' hb31 => (intro rpl n9 h9 tk9 p_rpl F9 N9 S9; (try k_sweep))
      have fe1 := HA.abs
      have fe2 := HA.formp
      have fe3 := same_enc mm gg
      have fokp := HA.okp
      have fge := HA.ge1
      k_extra "to exec"
      refine' via_chk  ?xF32 ?xN32 ?ha32 ?hb32
      case xF32 => k_asm
      case xN32 => k_asm
      case ha32 => ((try k_fold); k_extra "my go")
      case' hb32 => (intro n9 h9 tk9 F9 N9 S9; (try k_sweep))
      clear fe1 fe2 fe3
      k_extra "to exec"
      refine' via_val ?x33a ?x33b ?x33c ?xF33 ?xN33 ?ha33 ?hb33
      case x33a => exact ((Str.ofString "c"))
      case x33b => exact ((Str.ofString "d"))
      case x33c => exact (fme mm gg)
      case xF33 => k_asm
      case xN33 => k_asm
      case ha33 => ((try k_fold); k_extra "my go")
      case' hb33 => (intro t1 t2 n9 h9 tk9 F9 N9 S9; (try k_sweep))
      have fc := vN_bits fokp
      have fd := vD_bits fokp
      k_extra "to exec"
      refine' via_off ?xL1 ?xLF1 ?xLN1 ?haL1 ?hbL1
      case xL1 => exact [(Str.ofString "way"), (Str.ofString "back"), (Str.ofString "square"), (Str.ofString "a"), (Str.ofString "b")]
      case xLF1 => k_asm
      case xLN1 => k_asm
      case haL1 =>
        (try k_fold)
        refine' For_turns ?yF1 ?_ ?yS1 ?yE1
        case yF1 => k_asm
        case yS1 => (intro _; rfl)
        case yE1 => passes_own
        k_whole
        k_extra "to iter"
        refine' iter_inv ?zz1 ?zp1 ?zh1 ?zF1 ?zN1 ?zk1 ?zc1 ?zd1 ?zP1 ?zS1 ?zE1
        case zz1 => exact [(Str.ofString "way"), (Str.ofString "back"), (Str.ofString "square"), (Str.ofString "a"), (Str.ofString "b")]
        case zp1 => exact (PW 0)
        case zh1 => with_unfolding_all rfl
        case zF1 => k_asm
        case zN1 => k_asm
        case zk1 => k_mem
        case zc1 => exact rfl
        case zd1 => exact rfl
        case zP1 => (refine' ⟨⟨_, .n, .n, _, _, _, _, _, rfl, ?q1a0, ?q1b0, ?q1c0, ?q1d0⟩, ⟨_, .f, .c, _, _, _, _, _, rfl, ?q1a1, ?q1b1, ?q1c1, ?q1d1⟩, ⟨_, .c, .f, _, _, _, _, _, rfl, ?q1a2, ?q1b2, ?q1c2, ?q1d2⟩, ⟨_, .d, .u, _, _, _, _, _, rfl, ?q1a3, ?q1b3, ?q1c3, ?q1d3⟩, ⟨_, .u, .d, _, _, _, _, _, rfl, ?q1a4, ?q1b4, ?q1c4, ?q1d4⟩, trivial⟩; (case q1a0 => k_mem); (case q1b0 => rfl); (case q1c0 => rfl); (case q1d0 => (unfold Match; decide)); (case q1a1 => k_mem); (case q1b1 => rfl); (case q1c1 => rfl); (case q1d1 => (unfold Match; decide)); (case q1a2 => k_mem); (case q1b2 => rfl); (case q1c2 => rfl); (case q1d2 => (unfold Match; decide)); (case q1a3 => k_mem); (case q1b3 => rfl); (case q1c3 => rfl); (case q1d3 => (unfold Match; decide)); (case q1a4 => k_mem); (case q1b4 => rfl); (case q1c4 => rfl); (case q1d4 => (unfold Match; decide)))
        case zE1 => (intro m9 n9 h9 tk9 o9 S9 F9 N9; (try k_sweep); exact a_off F9 N9 (by k_extra "my sub") o9)
        case zS1 =>
          intro I9 v9 m9 n9 it9 h9 tk9 lt9 P9 o9 S9 F9 N9
          (try k_sweep)
          obtain ⟨D, w9, b9, s1, s2, t1, t2, c9, rfl, hD, rfl, rfl, hM⟩ := P9
          obtain ⟨o0, o9⟩ := off_split o9
          obtain ⟨o1, o9⟩ := off_split o9
          obtain ⟨o2, o9⟩ := off_split o9
          obtain ⟨o3, o9⟩ := off_split o9
          obtain ⟨o4, o9⟩ := off_split o9
          have o9 := off_nil o9
          subst o9
          k_extra "to exec"
          refine' via_mp ?x26a ?x26b ?xF26 ?xN26 ?ha26 ?hb26
          case x26a => exact ((Str.ofString "square"))
          case x26b => exact (mulF w9 pv (fme kk gg) (fme kk gg))
          case xF26 => k_asm
          case xN26 => k_asm
          case ha26 => ((try k_fold); k_extra "my go")
          case' hb26 => (intro rsq n9 h9 tk9 p_rsq F9 N9 S9; (try k_sweep))
          have ff1 := HA.sq_form w9
          k_extra "to exec"
          refine' via_chk  ?xF27 ?xN27 ?ha27 ?hb27
          case xF27 => k_asm
          case xN27 => k_asm
          case ha27 => ((try k_fold); k_extra "my go")
          case' hb27 => (intro n9 h9 tk9 F9 N9 S9; (try k_sweep))
          clear ff1
          have ff1 := HA.sq_ok w9
          k_extra "to exec"
          refine' via_val ?x28a ?x28b ?x28c ?xF28 ?xN28 ?ha28 ?hb28
          case x28a => exact ((Str.ofString "a"))
          case x28b => exact ((Str.ofString "b"))
          case x28c => exact (mulF w9 pv (fme kk gg) (fme kk gg))
          case xF28 => k_asm
          case xN28 => k_asm
          case ha28 => ((try k_fold); k_extra "my go")
          case' hb28 => (intro t1 t2 n9 h9 tk9 F9 N9 S9; (try k_sweep))
          have ff2 := HA.sq_err w9
          have fa := vN_bits ff1
          have fb := vD_bits ff1
          k_extra "to exec"
          refine' via_chk  ?xF29 ?xN29 ?ha29 ?hb29
          case xF29 => k_asm
          case xN29 => k_asm
          case ha29 => ((try k_fold); k_extra "my go")
          case' hb29 => (intro n9 h9 tk9 F9 N9 S9; (try k_sweep))
          clear ff2 fa fb
          have ff2 := HA.back w9 b9 hM
          have ff3 := HA.sq_sign w9
          k_extra "to exec"
          refine' via_chk  ?xF30 ?xN30 ?ha30 ?hb30
          case xF30 => k_asm
          case xN30 => k_asm
          case ha30 => ((try k_fold); k_extra "my go")
          case' hb30 => (intro n9 h9 tk9 F9 N9 S9; (try k_sweep))
          k_extra "my go"
          all_goals first
            | with_reducible assumption
            | (refine ⟨?_, by with_reducible assumption⟩; intro y hy; simp only [List.mem_cons, List.not_mem_nil, or_false, not_or] at hy; simp only [hy, if_false])
            | (intro y hy; simp only [List.mem_cons, List.not_mem_nil, or_false, not_or] at hy; simp only [hy, if_false])
      case' hbL1 =>
        intro m9 n9 h9 tk9 o9 F9 N9 S9
        (try k_sweep)
        obtain ⟨o0, o9⟩ := off_split o9
        obtain ⟨o1, o9⟩ := off_split o9
        obtain ⟨o2, o9⟩ := off_split o9
        obtain ⟨o3, o9⟩ := off_split o9
        obtain ⟨o4, o9⟩ := off_split o9
        have o9 := off_nil o9
        subst o9
      k_extra "my go"
      all_goals first
        | with_reducible assumption
        | (refine ⟨?_, by with_reducible assumption⟩; intro y hy; simp only [List.mem_cons, List.not_mem_nil, or_false, not_or] at hy; simp only [hy, if_false])
        | (intro y hy; simp only [List.mem_cons, List.not_mem_nil, or_false, not_or] at hy; simp only [hy, if_false])
  case' hbL2 =>
    intro m9 n9 h9 tk9 o9 F9 N9 S9
    (try k_sweep)
    obtain ⟨o0, o9⟩ := off_split o9
    obtain ⟨o1, o9⟩ := off_split o9
    obtain ⟨o2, o9⟩ := off_split o9
    obtain ⟨o3, o9⟩ := off_split o9
    obtain ⟨o4, o9⟩ := off_split o9
    obtain ⟨o5, o9⟩ := off_split o9
    obtain ⟨o6, o9⟩ := off_split o9
    obtain ⟨o7, o9⟩ := off_split o9
    obtain ⟨o8, o9⟩ := off_split o9
    obtain ⟨o9, o9⟩ := off_split o9
    obtain ⟨o10, o9⟩ := off_split o9
    have o9 := off_nil o9
    subst o9
  k_extra "to exec"
  refine' via_mp2 ?x34a ?x34b ?x34c ?x34d ?xF34 ?xN34 ?ha34 ?hb34
  case x34a => exact ((Str.ofString "minus"))
  case x34b => exact ((Str.ofString "plain"))
  case x34c => exact (negF (fme kkv ggv))
  case x34d => exact (fme mv ggv)
  case xF34 => k_asm
  case xN34 => k_asm
  case ha34 => ((try k_fold); k_extra "my go")
  case' hb34 => (intro rmi rpl n9 h9 tk9 p_mi p_pl F9 N9 S9; (try k_sweep))
  have fokn := HT.tx.neg_ok
  have fokpl := HT.tx.okp
  k_extra "to exec"
  refine' via_off ?xL3 ?xLF3 ?xLN3 ?haL3 ?hbL3
  case xL3 => exact [(Str.ofString "way"), (Str.ofString "back"), (Str.ofString "square")]
  case xLF3 => k_asm
  case xLN3 => k_asm
  case haL3 =>
    (try k_fold)
    refine' For_turns ?yF3 ?_ ?yS3 ?yE3
    case yF3 => k_asm
    case yS3 => (intro _; rfl)
    case yE3 => passes_own
    k_whole
    k_extra "to iter"
    refine' iter_inv ?zz3 ?zp3 ?zh3 ?zF3 ?zN3 ?zk3 ?zc3 ?zd3 ?zP3 ?zS3 ?zE3
    case zz3 => exact [(Str.ofString "way"), (Str.ofString "back"), (Str.ofString "square")]
    case zp3 => exact (PW 1)
    case zh3 => with_unfolding_all rfl
    case zF3 => k_asm
    case zN3 => k_asm
    case zk3 => k_mem
    case zc3 => exact rfl
    case zd3 => exact rfl
    case zP3 => (refine' ⟨⟨_, .n, .n, _, _, _, _, _, rfl, ?q2a0, ?q2b0, ?q2c0, ?q2d0⟩, ⟨_, .f, .f, _, _, _, _, _, rfl, ?q2a1, ?q2b1, ?q2c1, ?q2d1⟩, ⟨_, .c, .c, _, _, _, _, _, rfl, ?q2a2, ?q2b2, ?q2c2, ?q2d2⟩, ⟨_, .d, .u, _, _, _, _, _, rfl, ?q2a3, ?q2b3, ?q2c3, ?q2d3⟩, ⟨_, .u, .d, _, _, _, _, _, rfl, ?q2a4, ?q2b4, ?q2c4, ?q2d4⟩, trivial⟩; (case q2a0 => k_mem); (case q2b0 => rfl); (case q2c0 => rfl); (case q2d0 => (unfold Match; decide)); (case q2a1 => k_mem); (case q2b1 => rfl); (case q2c1 => rfl); (case q2d1 => (unfold Match; decide)); (case q2a2 => k_mem); (case q2b2 => rfl); (case q2c2 => rfl); (case q2d2 => (unfold Match; decide)); (case q2a3 => k_mem); (case q2b3 => rfl); (case q2c3 => rfl); (case q2d3 => (unfold Match; decide)); (case q2a4 => k_mem); (case q2b4 => rfl); (case q2c4 => rfl); (case q2d4 => (unfold Match; decide)))
    case zE3 => (intro m9 n9 h9 tk9 o9 S9 F9 N9; (try k_sweep); exact a_off F9 N9 (by k_extra "my sub") o9)
    case zS3 =>
      intro I9 v9 m9 n9 it9 h9 tk9 lt9 P9 o9 S9 F9 N9
      (try k_sweep)
      obtain ⟨D, w9, b9, s1, s2, t1, t2, c9, rfl, hD, rfl, rfl, hM⟩ := P9
      obtain ⟨o0, o9⟩ := off_split o9
      obtain ⟨o1, o9⟩ := off_split o9
      obtain ⟨o2, o9⟩ := off_split o9
      have o9 := off_nil o9
      subst o9
      k_extra "to exec"
      refine' via_mp ?x35a ?x35b ?xF35 ?xN35 ?ha35 ?hb35
      case x35a => exact ((Str.ofString "square"))
      case x35b => exact (mulF w9 pv (fme kkv ggv) (negF (fme kkv ggv)))
      case xF35 => k_asm
      case xN35 => k_asm
      case ha35 => ((try k_fold); k_extra "my go")
      case' hb35 => (intro rsq n9 h9 tk9 p_rsq F9 N9 S9; (try k_sweep))
      have ff1 := HT.tx.msq_form w9
      have ff2 := HT.tx.mback w9 b9 hM
      have ff3 := HT.tx.msq_ok w9
      have ff4 := (HT.tx.nmsq_ok w9).1
      have ff5 := (HT.tx.nmsq_ok w9).2
      k_extra "to exec"
      refine' via_chk  ?xF36 ?xN36 ?ha36 ?hb36
      case xF36 => k_asm
      case xN36 => k_asm
      case ha36 => ((try k_fold); k_extra "my go")
      case' hb36 => (intro n9 h9 tk9 F9 N9 S9; (try k_sweep))
      k_extra "my go"
      all_goals first
        | with_reducible assumption
        | (refine ⟨?_, by with_reducible assumption⟩; intro y hy; simp only [List.mem_cons, List.not_mem_nil, or_false, not_or] at hy; simp only [hy, if_false])
        | (intro y hy; simp only [List.mem_cons, List.not_mem_nil, or_false, not_or] at hy; simp only [hy, if_false])
  case' hbL3 =>
    intro m9 n9 h9 tk9 o9 F9 N9 S9
    (try k_sweep)
    obtain ⟨o0, o9⟩ := off_split o9
    obtain ⟨o1, o9⟩ := off_split o9
    obtain ⟨o2, o9⟩ := off_split o9
    have o9 := off_nil o9
    subst o9
  clear fokn fokpl
  k_extra "to exec"
  refine' via_mp ?x37a ?x37b ?xF37 ?xN37 ?ha37 ?hb37
  case x37a => exact ((Str.ofString "plain"))
  case x37b => exact (fme nn hhv)
  case xF37 => k_asm
  case xN37 => k_asm
  case ha37 => ((try k_fold); k_extra "my go")
  case' hb37 => (intro rpl n9 h9 tk9 p_rpl F9 N9 S9; (try k_sweep))
  have fokpl := HT.ty.okp
  have fpls := HT.ty.psign
  k_extra "to exec"
  refine' via_val ?x38a ?x38b ?x38c ?xF38 ?xN38 ?ha38 ?hb38
  case x38a => exact ((Str.ofString "c"))
  case x38b => exact ((Str.ofString "d"))
  case x38c => exact (fme nn hhv)
  case xF38 => k_asm
  case xN38 => k_asm
  case ha38 => ((try k_fold); k_extra "my go")
  case' hb38 => (intro t1 t2 n9 h9 tk9 F9 N9 S9; (try k_sweep))
  have fc := vN_bits fokpl
  have fd := vD_bits fokpl
  k_extra "to exec"
  refine' via_off ?xL4 ?xLF4 ?xLN4 ?haL4 ?hbL4
  case xL4 => exact [(Str.ofString "way"), (Str.ofString "root"), (Str.ofString "a"), (Str.ofString "b"), (Str.ofString "over")]
  case xLF4 => k_asm
  case xLN4 => k_asm
  case haL4 =>
    (try k_fold)
    refine' For_turns ?yF4 ?_ ?yS4 ?yE4
    case yF4 => k_asm
    case yS4 => (intro _; rfl)
    case yE4 => passes_own
    k_whole
    k_extra "to iter"
    refine' iter_inv ?zz4 ?zp4 ?zh4 ?zF4 ?zN4 ?zk4 ?zc4 ?zd4 ?zP4 ?zS4 ?zE4
    case zz4 => exact [(Str.ofString "way"), (Str.ofString "root"), (Str.ofString "a"), (Str.ofString "b"), (Str.ofString "over")]
    case zp4 => exact (PO)
    case zh4 => with_unfolding_all rfl
    case zF4 => k_asm
    case zN4 => k_asm
    case zk4 => k_mem
    case zc4 => exact rfl
    case zd4 => exact rfl
    case zP4 => exact ⟨⟨.f, _, _, rfl, rfl, by decide⟩, ⟨.d, _, _, rfl, rfl, by decide⟩, ⟨.c, _, _, rfl, rfl, by decide⟩, ⟨.u, _, _, rfl, rfl, by decide⟩, trivial⟩
    case zE4 => (intro m9 n9 h9 tk9 o9 S9 F9 N9; (try k_sweep); exact a_off F9 N9 (by k_extra "my sub") o9)
    case zS4 =>
      intro I9 v9 m9 n9 it9 h9 tk9 lt9 P9 o9 S9 F9 N9
      (try k_sweep)
      obtain ⟨w9, s1, t1, rfl, rfl, hw9⟩ := P9
      obtain ⟨o0, o9⟩ := off_split o9
      obtain ⟨o1, o9⟩ := off_split o9
      obtain ⟨o2, o9⟩ := off_split o9
      obtain ⟨o3, o9⟩ := off_split o9
      obtain ⟨o4, o9⟩ := off_split o9
      have o9 := off_nil o9
      subst o9
      k_extra "to exec"
      refine' via_mp ?x39a ?x39b ?xF39 ?xN39 ?ha39 ?hb39
      case x39a => exact ((Str.ofString "root"))
      case x39b => exact (sqrtF w9 pv (fme nn hhv))
      case xF39 => k_asm
      case xN39 => k_asm
      case ha39 => ((try k_fold); k_extra "my go")
      case' hb39 => (intro rrt n9 h9 tk9 p_rrt F9 N9 S9; (try k_sweep))
      have ff1 := HT.ty.root_form w9 HT.hn
      k_extra "to exec"
      refine' via_chk  ?xF40 ?xN40 ?ha40 ?hb40
      case xF40 => k_asm
      case xN40 => k_asm
      case ha40 => ((try k_fold); k_extra "my go")
      case' hb40 => (intro n9 h9 tk9 F9 N9 S9; (try k_sweep))
      clear ff1
      have ff1 := HT.ty.root_ok w9 HT.hn
      k_extra "to exec"
      refine' via_val ?x41a ?x41b ?x41c ?xF41 ?xN41 ?ha41 ?hb41
      case x41a => exact ((Str.ofString "a"))
      case x41b => exact ((Str.ofString "b"))
      case x41c => exact (sqrtF w9 pv (fme nn hhv))
      case xF41 => k_asm
      case xN41 => k_asm
      case ha41 => ((try k_fold); k_extra "my go")
      case' hb41 => (intro t1 t2 n9 h9 tk9 F9 N9 S9; (try k_sweep))
      have fa := vN_bits ff1
      have fb := vD_bits ff1
      k_extra "to exec"
      refine' via_i ?x42a ?x42b ?xF42 ?xN42 ?ha42 ?hb42
      case x42a => exact ((Str.ofString "over"))
      case x42b => exact (fun v => (v = vN (sqrtF w9 pv (fme nn hhv)) * vN (sqrtF w9 pv (fme nn hhv)) * vD (fme nn hhv) - vN (fme nn hhv) * vD (sqrtF w9 pv (fme nn hhv)) * vD (sqrtF w9 pv (fme nn hhv)) ∧ Builtin.Int.intBits v ≤ 12000))
      case xF42 => k_asm
      case xN42 => k_asm
      case ha42 => ((try k_fold); k_extra "my go")
      case' hb42 => (intro ovv ovt n9 h9 tk9 hov F9 N9 S9; (try k_sweep))
      have fov := hov.2
      k_extra "to exec"
      refine' via_is ?x43a ?x43b ?xF43 ?xN43 ?xh43 ?ha43 ?hb43
      case x43a => exact ((Str.ofString "over"))
      case x43b => exact (fun a v => (Builtin.Int.intBits v ≤ 12000) ∧ ((wayDn w9 0 = true ∧ v = a) ∨ (wayDn w9 0 = false ∧ v = -a)))
      case xF43 => k_asm
      case xN43 => k_asm
      case xh43 => exact rfl
      case ha43 => ((try k_fold); cases w9 <;> first | exact absurd rfl hw9 | k_extra "my go")
      case' hb43 => (intro ov2 ov2t n9 h9 tk9 hov2 F9 N9 S9; (try k_sweep))
      have ff2 := over_ok2 (HT.ty.root_over w9 HT.hn hw9) hov.1 hov2.2
      have ff3 := ff2.1
      have ff4 := ff2.2
      have ff5 := hov2.1
      clear ff2 hov hov2
      k_extra "to exec"
      refine' via_chk  ?xF44 ?xN44 ?ha44 ?hb44
      case xF44 => k_asm
      case xN44 => k_asm
      case ha44 => ((try k_fold); k_extra "my go")
      case' hb44 => (intro n9 h9 tk9 F9 N9 S9; (try k_sweep))
      k_extra "my go"
      all_goals first
        | with_reducible assumption
        | (refine ⟨?_, by with_reducible assumption⟩; intro y hy; simp only [List.mem_cons, List.not_mem_nil, or_false, not_or] at hy; simp only [hy, if_false])
        | (intro y hy; simp only [List.mem_cons, List.not_mem_nil, or_false, not_or] at hy; simp only [hy, if_false])
  case' hbL4 =>
    intro m9 n9 h9 tk9 o9 F9 N9 S9
    (try k_sweep)
    obtain ⟨o0, o9⟩ := off_split o9
    obtain ⟨o1, o9⟩ := off_split o9
    obtain ⟨o2, o9⟩ := off_split o9
    obtain ⟨o3, o9⟩ := off_split o9
    obtain ⟨o4, o9⟩ := off_split o9
    have o9 := off_nil o9
    subst o9
  clear fokpl fpls fc fd
  k_extra "to exec"
  refine' via_mp2 ?x45a ?x45b ?x45c ?x45d ?xF45 ?xN45 ?ha45 ?hb45
  case x45a => exact ((Str.ofString "x2"))
  case x45b => exact ((Str.ofString "y2"))
  case x45c => exact (sqF pv kkv ggv)
  case x45d => exact (sqF pv qqv hhv)
  case xF45 => k_asm
  case xN45 => k_asm
  case ha45 => ((try k_fold); k_extra "my go")
  case' hb45 => (intro rx2 ry2 n9 h9 tk9 p_x2 p_y2 F9 N9 S9; (try k_sweep))
  have fokx2 := HT.tx.sq_ok .n
  have foky2 := HT.ty.sq_ok .n
  have fsx2 := HT.tx.sq_sign .n
  have fsy2 := HT.ty.sq_sign .n
  have fym := HT.y2man
  have fd1 := HT.d1
  have fd2 := HT.d2
  k_extra "to exec"
  refine' via_mp ?x46a ?x46b ?xF46 ?xN46 ?ha46 ?hb46
  case x46a => exact ((Str.ofString "total"))
  case x46b => exact (totF pv kkv ggv qqv hhv)
  case xF46 => k_asm
  case xN46 => k_asm
  case ha46 => ((try k_fold); k_extra "my go")
  case' hb46 => (intro rto n9 h9 tk9 p_rto F9 N9 S9; (try k_sweep))
  clear fsx2 fsy2 fym fd1 fd2
  have fokt := HT.tot_ok
  have fst := HT.tot_sign
  k_extra "to exec"
  refine' via_val ?x47a ?x47b ?x47c ?xF47 ?xN47 ?ha47 ?hb47
  case x47a => exact ((Str.ofString "a"))
  case x47b => exact ((Str.ofString "b"))
  case x47c => exact (totF pv kkv ggv qqv hhv)
  case xF47 => k_asm
  case xN47 => k_asm
  case ha47 => ((try k_fold); k_extra "my go")
  case' hb47 => (intro t1 t2 n9 h9 tk9 F9 N9 S9; (try k_sweep))
  k_extra "to exec"
  refine' via_val ?x48a ?x48b ?x48c ?xF48 ?xN48 ?ha48 ?hb48
  case x48a => exact ((Str.ofString "c"))
  case x48b => exact ((Str.ofString "d"))
  case x48c => exact (sqF pv kkv ggv)
  case xF48 => k_asm
  case xN48 => k_asm
  case ha48 => ((try k_fold); k_extra "my go")
  case' hb48 => (intro t1 t2 n9 h9 tk9 F9 N9 S9; (try k_sweep))
  k_extra "to exec"
  refine' via_val ?x49a ?x49b ?x49c ?xF49 ?xN49 ?ha49 ?hb49
  case x49a => exact ((Str.ofString "e"))
  case x49b => exact ((Str.ofString "f"))
  case x49c => exact (sqF pv qqv hhv)
  case xF49 => k_asm
  case xN49 => k_asm
  case ha49 => ((try k_fold); k_extra "my go")
  case' hb49 => (intro t1 t2 n9 h9 tk9 F9 N9 S9; (try k_sweep))
  have fa := vN_bits fokt
  have fb := vD_bits fokt
  have fc := vN_bits fokx2
  have fd := vD_bits fokx2
  have fe := vN_bits foky2
  have ff := vD_bits foky2
  have ff1 := HT.tot_form
  have ff2 := HT.tot_err
  k_extra "to exec"
  refine' via_chk  ?xF50 ?xN50 ?ha50 ?hb50
  case xF50 => k_asm
  case xN50 => k_asm
  case ha50 => ((try k_fold); k_extra "my go")
  case' hb50 => (intro n9 h9 tk9 F9 N9 S9; (try k_sweep))
  clear fa fb fc fd fe ff ff1 ff2 fokx2 foky2
  k_extra "to exec"
  refine' via_mp ?x51a ?x51b ?xF51 ?xN51 ?ha51 ?hb51
  case x51a => exact ((Str.ofString "length"))
  case x51b => exact (lenF pv kkv ggv qqv hhv)
  case xF51 => k_asm
  case xN51 => k_asm
  case ha51 => ((try k_fold); k_extra "my go")
  case' hb51 => (intro rle n9 h9 tk9 p_rle F9 N9 S9; (try k_sweep))
  have fokl := HT.len_ok
  have fml := HT.len_man
  k_extra "to exec"
  refine' via_mp2 ?x52a ?x52b ?x52c ?x52d ?xF52 ?xN52 ?ha52 ?hb52
  case x52a => exact ((Str.ofString "x1"))
  case x52b => exact ((Str.ofString "y1"))
  case x52c => exact (divF .n pv (fme kkv ggv) (lenF pv kkv ggv qqv hhv))
  case x52d => exact (divF .n pv (fme qqv hhv) (lenF pv kkv ggv qqv hhv))
  case xF52 => k_asm
  case xN52 => k_asm
  case ha52 => ((try k_fold); k_extra "my go")
  case' hb52 => (intro rx1 ry1 n9 h9 tk9 p_x1 p_y1 F9 N9 S9; (try k_sweep))
  have fs1 := HT.tx.small
  have fs2 := HT.ty.small
  have fs3 : (fme kkv ggv).man ≠ 0 ∨ (fme qqv hhv).man ≠ 0 := Or.inr (Int.ne_of_gt HT.yman)
  have fs4 : (fme kkv ggv).man ≠ 0 → (fme qqv hhv).man ≠ 0 → (-50 ≤ (fme kkv ggv).exp - (fme qqv hhv).exp ∧ (fme kkv ggv).exp - (fme qqv hhv).exp ≤ 50) := HT.expd
  k_extra "to exec"
  refine' via_mp ?x53a ?x53b ?xF53 ?xN53 ?ha53 ?hb53
  case x53a => exact ((Str.ofString "other"))
  case x53b => exact (othF pv kkv ggv qqv hhv)
  case xF53 => k_asm
  case xN53 => k_asm
  case ha53 => ((try k_fold); k_extra "my go")
  case' hb53 => (intro rot n9 h9 tk9 p_rot F9 N9 S9; (try k_sweep))
  have fs5 : (fme qqv hhv).man ≠ 0 ∨ (fme kkv ggv).man ≠ 0 := Or.inl (Int.ne_of_gt HT.yman)
  have fs6 : (fme qqv hhv).man ≠ 0 → (fme kkv ggv).man ≠ 0 → (-50 ≤ (fme qqv hhv).exp - (fme kkv ggv).exp ∧ (fme qqv hhv).exp - (fme kkv ggv).exp ≤ 50) := HT.expd2
  have ff1 := HT.len_form
  have ff2 := HT.oth_form
  have ff3 := HT.oth_sym
  k_extra "to exec"
  refine' via_chk  ?xF54 ?xN54 ?ha54 ?hb54
  case xF54 => k_asm
  case xN54 => k_asm
  case ha54 => ((try k_fold); k_extra "my go")
  case' hb54 => (intro n9 h9 tk9 F9 N9 S9; (try k_sweep))
  clear fs1 fs2 fs3 fs4 fs5 fs6 ff1 ff2 ff3
  have foko := HT.oth_ok
  k_extra "to exec"
  refine' via_val ?x55a ?x55b ?x55c ?xF55 ?xN55 ?ha55 ?hb55
  case x55a => exact ((Str.ofString "a"))
  case x55b => exact ((Str.ofString "b"))
  case x55c => exact (fme kkv ggv)
  case xF55 => k_asm
  case xN55 => k_asm
  case ha55 => ((try k_fold); k_extra "my go")
  case' hb55 => (intro t1 t2 n9 h9 tk9 F9 N9 S9; (try k_sweep))
  k_extra "to exec"
  refine' via_val ?x56a ?x56b ?x56c ?xF56 ?xN56 ?ha56 ?hb56
  case x56a => exact ((Str.ofString "c"))
  case x56b => exact ((Str.ofString "d"))
  case x56c => exact (fme qqv hhv)
  case xF56 => k_asm
  case xN56 => k_asm
  case ha56 => ((try k_fold); k_extra "my go")
  case' hb56 => (intro t1 t2 n9 h9 tk9 F9 N9 S9; (try k_sweep))
  k_extra "to exec"
  refine' via_val ?x57a ?x57b ?x57c ?xF57 ?xN57 ?ha57 ?hb57
  case x57a => exact ((Str.ofString "e"))
  case x57b => exact ((Str.ofString "f"))
  case x57c => exact (othF pv kkv ggv qqv hhv)
  case xF57 => k_asm
  case xN57 => k_asm
  case ha57 => ((try k_fold); k_extra "my go")
  case' hb57 => (intro t1 t2 n9 h9 tk9 F9 N9 S9; (try k_sweep))
  have fa := vN_bits fokx
  have fb := vD_bits fokx
  have fc := vN_bits foky
  have fd := vD_bits foky
  have fe := vN_bits foko
  have ff := vD_bits foko
  k_extra "to exec"
  refine' via_i ?x58a ?x58b ?xF58 ?xN58 ?ha58 ?hb58
  case x58a => exact ((Str.ofString "exact"))
  case x58b => exact (fun v => (v = vN (fme kkv ggv) * vN (fme kkv ggv) * vD (fme qqv hhv) * vD (fme qqv hhv) + vN (fme qqv hhv) * vN (fme qqv hhv) * vD (fme kkv ggv) * vD (fme kkv ggv) ∧ Builtin.Int.intBits v ≤ 14000))
  case xF58 => k_asm
  case xN58 => k_asm
  case ha58 => ((try k_fold); k_extra "my go")
  case' hb58 => (intro exv ext n9 h9 tk9 hex F9 N9 S9; (try k_sweep))
  have ff1 := HT.hyp_err
  rw [← hex.1] at ff1
  have ff2 := hex.2
  clear hex
  k_extra "to exec"
  refine' via_chk  ?xF59 ?xN59 ?ha59 ?hb59
  case xF59 => k_asm
  case xN59 => k_asm
  case ha59 => ((try k_fold); k_extra "my go")
  case' hb59 => (intro n9 h9 tk9 F9 N9 S9; (try k_sweep))
  clear ff1 ff2 fa fb fc fd fe ff
  have fmo := HT.oth_man
  have ff1 := HT.ox.1
  have ff2 := HT.ox.2.2
  have ff3 := HT.oy.1
  have ff4 := HT.oy.2.2
  k_extra "to exec"
  refine' via_chk  ?xF60 ?xN60 ?ha60 ?hb60
  case xF60 => k_asm
  case xN60 => k_asm
  case ha60 => ((try k_fold); k_extra "my go")
  case' hb60 => (intro n9 h9 tk9 F9 N9 S9; (try k_sweep))
  clear ff1 ff2 ff3 ff4
  have fx1 := HT.x1.1
  have fy1 := HT.y1.1
  have ff1 := HT.x1.2.1
  have ff2 := HT.x1.2.2
  have ff3 := HT.y1.2.1
  have ff4 := HT.y1.2.2
  k_extra "to exec"
  refine' via_chk  ?xF61 ?xN61 ?ha61 ?hb61
  case xF61 => k_asm
  case xN61 => k_asm
  case ha61 => ((try k_fold); k_extra "my go")
  case' hb61 => (intro n9 h9 tk9 F9 N9 S9; (try k_sweep))
  clear ff1 ff2 ff3 ff4
  k_extra "to exec"
  refine' via_val ?x62a ?x62b ?x62c ?xF62 ?xN62 ?ha62 ?hb62
  case x62a => exact ((Str.ofString "a"))
  case x62b => exact ((Str.ofString "b"))
  case x62c => exact (divF .n pv (fme kkv ggv) (lenF pv kkv ggv qqv hhv))
  case xF62 => k_asm
  case xN62 => k_asm
  case ha62 => ((try k_fold); k_extra "my go")
  case' hb62 => (intro t1 t2 n9 h9 tk9 F9 N9 S9; (try k_sweep))
  k_extra "to exec"
  refine' via_val ?x63a ?x63b ?x63c ?xF63 ?xN63 ?ha63 ?hb63
  case x63a => exact ((Str.ofString "c"))
  case x63b => exact ((Str.ofString "d"))
  case x63c => exact (divF .n pv (fme qqv hhv) (lenF pv kkv ggv qqv hhv))
  case xF63 => k_asm
  case xN63 => k_asm
  case ha63 => ((try k_fold); k_extra "my go")
  case' hb63 => (intro t1 t2 n9 h9 tk9 F9 N9 S9; (try k_sweep))
  have fa := vN_bits fx1
  have fb := vD_bits fx1
  have fc := vN_bits fy1
  have fd := vD_bits fy1
  have ff1 := HT.sum_err
  k_extra "to exec"
  refine' via_chk  ?xF64 ?xN64 ?ha64 ?hb64
  case xF64 => k_asm
  case xN64 => k_asm
  case ha64 => ((try k_fold); k_extra "my go")
  case' hb64 => (intro n9 h9 tk9 F9 N9 S9; (try k_sweep))
  clear fa fb fc fd ff1
  have ff1 := same_enc kkv ggv
  have ff2 := same_enc qqv hhv
  have fg1 := HT.tx.ge1
  have fg2 := HT.ty.ge1
  k_extra "my go"
)
end
end Mine
theorem PySem.Challenge.cw_aa5010_01_holds : PySem.Challenge.rw_aa5010_01.Holds := by
  exact Mine.lawT
