import PyProof.Rows.All
import Wide.All
import OpenK.AllK
import Wide.FinOn
import PySem.Challenge.RW_ln0030_01
set_option Elab.async false
set_option compiler.extract_closed false
set_option rowWalk.seconds 0
set_option linter.unusedVariables false
open PySem PySem.W PyProof.Rows PySem.Calls
namespace Mine
section
/-- a limb: within 8 * sz bits -/
def R (sz : Nat) (a : Int) : Prop := 0 ≤ a ∧ a < 2 ^ (8 * sz)
theorem two_pos (k : Nat) : (0 : Int) < 2 ^ k := kbt_pos k
theorem bits_of {k : Nat} {a : Int} (h0 : 0 ≤ a) (h1 : a < 2 ^ k) : Builtin.Int.intBits a ≤ k := by
  rw [intBits_le_iff]
  have : ((a.natAbs : Nat) : Int) < ((2 ^ k : Nat) : Int) := by rw [kbt_cast]; omega
  exact Int.ofNat_lt.mp this
theorem R.bits {sz : Nat} {a : Int} (h : R sz a) : Builtin.Int.intBits a ≤ 8 * sz := bits_of h.1 h.2
theorem R.mod (sz : Nat) (a : Int) : R sz (a % 2 ^ (8 * sz)) := ⟨Int.emod_nonneg _ (Int.ne_of_gt (two_pos _)), Int.emod_lt_of_pos _ (two_pos _)⟩
theorem R.mulOk {sz : Nat} {a b : Int} (ha : R sz a) (hb : R sz b) (h : sz ≤ 8) : IntMulOk a b := mulOk_of_bits ha.bits hb.bits (by omega)
theorem R.zero (sz : Nat) : R sz 0 := ⟨Int.le_refl _, two_pos _⟩
theorem R.shlOk {sz k : Nat} {a : Int} (ha : R sz a) (hk : k ≤ 8 * sz) (h : sz ≤ 8) : (Builtin.Int.intBits a : Int) + (k : Int) ≤ 2 ^ 27 := by
  have := ha.bits; omega
theorem shr_lt {sz k : Nat} {a : Int} (ha : R sz a) : R sz (a / 2 ^ k) := by
  refine ⟨Int.ediv_nonneg ha.1 (Int.le_of_lt (two_pos k)), Int.lt_of_le_of_lt (Int.ediv_le_self _ ha.1) ha.2⟩
theorem or_disj {k y : Int} {b : Nat} (hk : 0 ≤ k) (h0 : 0 ≤ y) (h1 : y < 2 ^ b) : Builtin.bitOr (k * 2 ^ b) y = k * 2 ^ b + y := by
  have hx : 0 ≤ k * 2 ^ b := Int.mul_nonneg hk (Int.le_of_lt (two_pos b))
  rw [bitOr_and]
  have : Builtin.bitAnd (k * 2 ^ b) y = 0 := by
    unfold Builtin.bitAnd
    rw [decide_eq_true hx, decide_eq_true h0]
    dsimp only
    obtain ⟨k, rfl⟩ := Int.eq_ofNat_of_zero_le hk
    obtain ⟨y, rfl⟩ := Int.eq_ofNat_of_zero_le h0
    have e : ((k : Int) * 2 ^ b).toNat = 2 ^ b * k := by
      rw [← kbt_cast, ← Int.natCast_mul, Int.toNat_natCast, Nat.mul_comm]
    rw [e, Int.toNat_natCast]
    have hy : y < 2 ^ b := by rw [← kbt_cast] at h1; exact Int.ofNat_lt.mp h1
    have : 2 ^ b * k &&& y = 0 := by
      apply Nat.eq_of_testBit_eq
      intro i
      rw [Nat.testBit_and, Nat.zero_testBit, Nat.testBit_two_pow_mul]
      by_cases hi : i < b
      · simp [Nat.not_le.mpr hi]
      · have : y.testBit i = false := Nat.testBit_lt_two_pow (Nat.lt_of_lt_of_le hy (Nat.pow_le_pow_right (by decide) (by omega)))
        simp [this]
    rw [this]; rfl
  omega
theorem or_disj' {k y : Int} {b : Nat} (hk : 0 ≤ k) (h0 : 0 ≤ y) (h1 : y < 2 ^ b) : Builtin.bitOr y (k * 2 ^ b) = y + k * 2 ^ b := by
  rw [bitOr_comm, or_disj hk h0 h1]; omega
theorem pow_split {m k : Nat} (h : k ≤ m) : (2 : Int) ^ m = 2 ^ (m - k) * 2 ^ k := by
  rw [← Int.pow_add, Nat.sub_add_cancel h]
/-- the low part of a limb that was moved up -/
theorem shl_mod {m k : Nat} (a : Int) (h : k ≤ m) : (a * 2 ^ k) % 2 ^ m = (a % 2 ^ (m - k)) * 2 ^ k := by
  rw [pow_split h, Int.mul_comm a, Int.mul_comm (2 ^ (m - k)), Int.mul_emod_mul_of_pos _ _ (two_pos k), Int.mul_comm]
theorem ediv_lt_pow {m k : Nat} {a : Int} (h : k ≤ m) (h1 : a < 2 ^ m) : a / 2 ^ (m - k) < 2 ^ k := by
  refine Int.ediv_lt_of_lt_mul (two_pos _) ?_
  rw [Int.mul_comm, ← pow_split h]; exact h1
theorem rotl_val {m k : Nat} {a : Int} (h : k ≤ m) (h0 : 0 ≤ a) (h1 : a < 2 ^ m) : Builtin.bitOr ((a * 2 ^ k) % 2 ^ m) (a / 2 ^ (m - k)) = (a * 2 ^ k) % 2 ^ m + a / 2 ^ (m - k) := by
  rw [shl_mod a h]
  exact or_disj (Int.emod_nonneg _ (Int.ne_of_gt (two_pos _))) (Int.ediv_nonneg h0 (Int.le_of_lt (two_pos _))) (ediv_lt_pow h h1)
theorem rotr_val {m k : Nat} {a : Int} (h : k ≤ m) (h0 : 0 ≤ a) (h1 : a < 2 ^ m) : Builtin.bitOr (a / 2 ^ k) ((a * 2 ^ (m - k)) % 2 ^ m) = a / 2 ^ k + (a * 2 ^ (m - k)) % 2 ^ m := by
  have e : m - (m - k) = k := by omega
  rw [shl_mod a (Nat.sub_le m k), e]
  refine or_disj' (Int.emod_nonneg _ (Int.ne_of_gt (two_pos _))) (Int.ediv_nonneg h0 (Int.le_of_lt (two_pos _))) ?_
  have := ediv_lt_pow (k := m - k) (Nat.sub_le m k) h1
  rwa [e] at this
theorem bit_top0 {k : Nat} {x : Int} (h0 : 0 ≤ x) (h1 : x < 2 ^ (k + 1)) (h : Builtin.bitAnd x (2 ^ k) = 0) : x * 2 < 2 ^ (k + 1) := by
  rw [kbt_bit] at h
  have hp := two_pos k
  have e : (2 : Int) ^ (k + 1) = 2 * 2 ^ k := by rw [Int.pow_succ, Int.mul_comm]
  rw [e] at h1 ⊢
  have hq : x / 2 ^ k < 2 := Int.ediv_lt_of_lt_mul hp (by omega)
  have hq0 : 0 ≤ x / 2 ^ k := Int.ediv_nonneg h0 (Int.le_of_lt hp)
  have h2 : x / 2 ^ k % 2 = 0 := by
    rcases Int.mul_eq_zero.mp h with h | h
    · exact h
    · omega
  have h3 : x / 2 ^ k = 0 := by omega
  have h4 := Int.emod_add_mul_ediv x (2 ^ k)
  rw [h3] at h4
  have h5 := Int.emod_lt_of_pos x hp
  omega
theorem bit_top1 {k : Nat} {x : Int} (h0 : 0 ≤ x) (h : Builtin.bitAnd x (2 ^ k) ≠ 0) : 2 ^ k ≤ x := by
  rw [kbt_bit] at h
  have hp := two_pos k
  by_cases hx : x < 2 ^ k
  · exfalso
    rw [Int.ediv_eq_zero_of_lt h0 hx] at h
    simp at h
  · omega
theorem bit_low (x : Int) : Builtin.bitAnd x 1 = x % 2 := kbt_mask x 1
/-- what clz tells -/
def Clz (sz : Nat) (a b : Int) : Prop := ∃ k : Nat, b = (k : Int) ∧ k ≤ 8 * sz ∧ a * 2 ^ k < 2 ^ (8 * sz) ∧ (k < 8 * sz → 2 ^ (8 * sz) ≤ 2 * (a * 2 ^ k))
def Ctz (sz : Nat) (a b : Int) : Prop := ∃ (k : Nat) (c : Int), b = (k : Int) ∧ k ≤ 8 * sz ∧ a = c * 2 ^ k ∧ 0 ≤ c ∧ (k < 8 * sz → c % 2 = 1)
theorem clz_turn {sz n : Nat} {c a : Int} (hs : 0 < sz) (e : c = a * 2 ^ n) (hc : R sz c) (hb : Builtin.bitAnd c (2 ^ (8 * sz - 1)) = 0) : c * 2 = a * 2 ^ (n + 1) ∧ R sz (c * 2) := by
  refine ⟨by rw [e, Int.pow_succ, Int.mul_assoc], by have := hc.1; omega, ?_⟩
  have e8 : 8 * sz = (8 * sz - 1) + 1 := by omega
  have := bit_top0 hc.1 (by rw [← e8]; exact hc.2) hb
  rwa [← e8] at this
theorem clz_stop {sz n : Nat} {c a : Int} (hs : 0 < sz) (hn : n < 8 * sz) (e : c = a * 2 ^ n) (hc : R sz c) (hb : Builtin.bitAnd c (2 ^ (8 * sz - 1)) ≠ 0) : Clz sz a (n : Int) := by
  refine ⟨n, rfl, Nat.le_of_lt hn, by rw [← e]; exact hc.2, fun _ => ?_⟩
  have := bit_top1 hc.1 hb
  rw [← e]
  have e8 : (2 : Int) ^ (8 * sz) = 2 * 2 ^ (8 * sz - 1) := by
    rw [show 8 * sz = (8 * sz - 1) + 1 by omega, Int.pow_succ, Int.mul_comm]; simp
  rw [e8]; omega
theorem clz_end {sz n : Nat} {c a : Int} (hn : n = 8 * sz) (e : c = a * 2 ^ n) (hc : R sz c) : Clz sz a (n : Int) :=
  ⟨n, rfl, Nat.le_of_eq hn, by rw [← e]; exact hc.2, fun h => absurd h (by omega)⟩
theorem ctz_turn {n : Nat} {c a : Int} (e : a = c * 2 ^ n) (hc : 0 ≤ c) (hb : Builtin.bitAnd c 1 = 0) : a = (c / 2) * 2 ^ (n + 1) ∧ 0 ≤ c / 2 := by
  rw [bit_low] at hb
  refine ⟨?_, by omega⟩
  rw [e, Int.pow_succ, Int.mul_comm (2 ^ n) 2, ← Int.mul_assoc]
  congr 1; omega
theorem ctz_stop {sz n : Nat} {c a : Int} (hn : n < 8 * sz) (e : a = c * 2 ^ n) (hc : 0 ≤ c) (hb : Builtin.bitAnd c 1 ≠ 0) : Ctz sz a (n : Int) :=
  ⟨n, c, rfl, Nat.le_of_lt hn, e, hc, fun _ => by rw [bit_low] at hb; omega⟩
theorem ctz_end {sz n : Nat} {c a : Int} (hn : n = 8 * sz) (e : a = c * 2 ^ n) (hc : 0 ≤ c) : Ctz sz a (n : Int) :=
  ⟨n, c, rfl, Nat.le_of_eq hn, e, hc, fun h => absurd h (by omega)⟩
end
section
set_option maxRecDepth 100000

/-- a code that holds no bytearray's memory -/
def cleanC : Code → Bool
  | .builtin id _ => !(Builtin.Bytes.decodersThatHold ++ ["bytearray.__contains__", "bytearray.__mod__", "bytearray.__rmod__", "_struct.pack_into.held", "bytearray.find.held"]).contains id
  | _ => true
def clean (Γ : Ctx) : Prop := cleanC Γ.code = true ∧ ∀ x ∈ Γ.below, cleanC x.1 = true

/-- wpAny over the clean stacks alone -/
def wpC {α : Type} (M : Model) (A : Around) (t : Sem α) (Q : α → Shared → Prop) (E : Value → Shared → Prop) (s : Shared) : Prop :=
  ∀ Γ p, Γ.In A → clean Γ → Sem.wp M Γ t (fun a _ s' => Q a s') (fun e _ s' => E e s') p s
def codeC (M : Model) (A : Around) (c : Code) (R : Result → Shared → Prop) (s : Shared) : Prop :=
  ∀ Γ p, Γ.code = c → Γ.Below A → clean Γ → wpCode M Γ R p s

section
variable {α β : Type} {M : Model} {A : Around} {E : Value → Shared → Prop} {s : Shared}
theorem wpC_any {t : Sem α} {Q : α → Shared → Prop} (h : wpAny M A t Q E s) : wpC M A t Q E s := fun Γ p hΓ _ => h Γ p hΓ
theorem codeC_any {c : Code} {R : Result → Shared → Prop} (h : codeAny M A c R s) : codeC M A c R s := fun Γ p hc hΓ _ => h Γ p hc hΓ
theorem wpC_mono {t : Sem α} {Q Q' : α → Shared → Prop} {E' : Value → Shared → Prop} (h : wpC M A t Q E s)
    (hQ : ∀ a s, Q a s → Q' a s) (hE : ∀ e s, E e s → E' e s) : wpC M A t Q' E' s :=
  fun Γ p hΓ hc => Sem.wp_mono M Γ t (fun a _ s => hQ a s) (fun e _ s => hE e s) p s (h Γ p hΓ hc)
theorem wpC_bind {m : Sem α} {f : α → Sem β} {Q : β → Shared → Prop} (h : wpC M A m (fun a s' => wpC M A (f a) Q E s') E s) : wpC M A (m >>= f) Q E s := fun Γ p hΓ hc => by
  rw [Sem.wp_bind']
  exact Sem.wp_mono M Γ m (fun a p' s' h' => h' Γ p' hΓ hc) (fun _ _ _ h' => h') p s (h Γ p hΓ hc)
/-- what comes first is walked as ever -/
theorem wpC_first {m : Sem α} {f : α → Sem β} {Q : β → Shared → Prop} (h : wpAny M A m (fun a s' => wpC M A (f a) Q E s') E s) : wpC M A (m >>= f) Q E s := wpC_bind (wpC_any h)
theorem wpC_pure {a : α} {Q : α → Shared → Prop} (h : Q a s) : wpC M A (pure a) Q E s := fun _ _ _ _ => h
theorem wpC_holding {vs : List Value} {m : Sem α} {Q : α → Shared → Prop} (h : wpC M A m Q E s) : wpC M A (holding vs m) Q E s :=
  fun Γ p hΓ hc => by rw [Sem.wp_holding]; exact h Γ p hΓ hc
theorem wpC_operate {vs : List Value} {m : Sem Value} {Q : Value → Shared → Prop} (h : wpC M A m Q E s) : wpC M A (operate vs m) Q E s :=
  fun Γ p hΓ hc => by rw [Sem.wp_operate]; exact h Γ p hΓ hc
theorem wpC_keep {vs : List Value} {m : Sem α} {Q : α → Shared → Prop} (h : wpC M A m Q E s) : wpC M A (m.keep vs) Q E s :=
  fun Γ p hΓ hc => by rw [Sem.wp_keep]; exact h Γ p hΓ hc
theorem wpC_onRaise {m : Sem α} {k : Value → Sem Unit} {Q : α → Shared → Prop}
    (h : wpC M A m Q (fun e s' => wpC M A (k e) (fun _ s'' => E e s'') E s') s) : wpC M A (m.onRaise k) Q E s := fun Γ p hΓ hc => by
  rw [Sem.wp_onRaise]
  exact Sem.wp_mono M Γ m (fun _ _ _ h' => h') (fun e p' s' h' => h' Γ p' hΓ hc) p s (h Γ p hΓ hc)
theorem wpC_weaken {A' : Around} {t : Sem α} {Q : α → Shared → Prop} (h : wpC M A' t Q E s)
    (hh : A.handled = A'.handled) (hd : A.depth ≤ A'.depth) (hf : A.frames = A'.frames) (hg : A'.guards = none) (hu : A.units ≤ A'.units) : wpC M A t Q E s :=
  fun Γ p hΓ hc => h Γ p ⟨hΓ.1.trans hh, Nat.le_trans hΓ.2.1 hd, fun l hl => hΓ.2.2.1 l (hf.trans hl), fun g q => (by rw [hg] at q; cases q), Nat.le_trans hΓ.2.2.2.2 hu⟩ hc
theorem clean_enter {Γ : Ctx} {c : Code} {h : Option Value} {p : Pos} (hc : clean Γ) (h1 : cleanC c = true) : clean (Γ.enter c h p) :=
  ⟨h1, fun x hx => by rcases List.mem_cons.mp hx with rfl | hx; exact hc.1; exact hc.2 x hx⟩
theorem wpC_run {c : Code} {h : Option Value} {Q : Flow → Shared → Prop} (hcl : cleanC c = true)
    (hc : codeC M (A.mark h) c (fun r s' => match r with | .ok f => Q f s' | .error e => E e s') s) (hnb : h ≠ some byPass := by intro x; cases x) :
    wpC M A (run c h) Q E s := fun Γ p hΓ hcc => by rw [Sem.wp_run]; exact hc _ p rfl (hΓ.enter c h p hnb) (clean_enter hcc hcl)
theorem wpC_runValue {c : Code} {Q : Value → Shared → Prop} (hcl : cleanC c = true)
    (hc : codeC M A c (fun r s' => match r with | .ok (.ret v) => Q v s' | .ok _ => False | .error e => E e s') s) :
    wpC M A (runValue c) Q E s := fun Γ p hΓ hcc => by rw [Sem.wp_runValue]; exact hc _ p rfl (hΓ.enter c none p (by intro x; cases x)) (clean_enter hcc hcl)
theorem wpC_call {f : Value} {pos : List Value} {kw : List (Str × Value)} {Q : Value → Shared → Prop}
    (hc : codeC M A (.call f ⟨pos, kw⟩) (fun r s' => match r with | .ok (.ret v) => Q v s' | .ok _ => False | .error e => E e s') s) :
    wpC M A (call f pos kw) Q E s := wpC_runValue rfl hc
theorem codeC_mono {c : Code} {R R' : Result → Shared → Prop} (h : codeC M A c R s) (hR : ∀ r s, R r s → R' r s) : codeC M A c R' s :=
  fun Γ p hc hΓ hcc => wpCode_mono hR (h Γ p hc hΓ hcc)
theorem codeC_of_tree {c : Code} {R : Result → Shared → Prop}
    (h : wpC M (A.under c) (M.den c) (fun fin s' => match fin with | .done f => R (.ok f) s' | .again c' => c'.quiet = true ∧ cleanC c' = true ∧ codeC M A c' R s')
      (fun e s' => R (.error e) s') s) : codeC M A c R s := fun Γ p hc hΓ hcc => by
  rw [wpCode_iff_wp, hc]
  refine Sem.wp_mono M Γ _ (fun fin p' s' h' => ?_) (fun _ _ _ h' => h') p s (h Γ p (hc ▸ hΓ.in) hcc)
  cases fin with
  | done f => exact h'
  | again c' => exact ⟨h'.1, h'.2.2 (Γ.goto c') p' rfl (hΓ.goto c') ⟨h'.2.1, hcc.2⟩⟩
end

theorem nots {id : String} {a b c d e : String} {l : List String} (h : (l ++ [a, b, c, d, e]).contains id = false) : l.contains id = false ∧ id ≠ a ∧ id ≠ b ∧ id ≠ c ∧ id ≠ d ∧ id ≠ e := by
  have key : ∀ x ∈ l ++ [a, b, c, d, e], id ≠ x := fun x hx e1 => by
    rw [e1, List.contains_iff_mem.mpr hx] at h
    cases h
  refine ⟨?_, key _ (by simp), key _ (by simp), key _ (by simp), key _ (by simp), key _ (by simp)⟩
  cases hc : l.contains id with
  | false => rfl
  | true => exact absurd rfl (key id (List.mem_append_left _ (List.contains_iff_mem.mp hc)))
theorem exported_clean {M : Model} {A : Around} {E : Value → Shared → Prop} {s : Shared} {v : Value} {Q : Bool → Shared → Prop} (h : Q false s) : wpC M A (Builtin.Bytes.exported v) Q E s := by
  intro Γ p hΓ hc
  unfold Builtin.Bytes.exported
  have hall : ∀ x ∈ (Γ.code, p) :: Γ.below, cleanC x.1 = true := fun x hx => by
    rcases List.mem_cons.mp hx with rfl | hx
    · exact hc.1
    · exact hc.2 x hx
  rw [Sem.wp_bind']
  show Q (List.any _ _) s
  have : ∀ (f : Code × Pos → Bool), (∀ x, cleanC x.1 = true → f x = false) → ((Γ.code, p) :: Γ.below).any f = false := fun f hf => by
    rw [List.any_eq_false]
    intro x hx
    rw [hf x (hall x hx)]; exact Bool.false_ne_true
  rw [this]
  · exact h
  · rintro ⟨c, q⟩ hx
    cases c with
    | builtin id args =>
      have hx' : (Builtin.Bytes.decodersThatHold ++ ["bytearray.__contains__", "bytearray.__mod__", "bytearray.__rmod__", "_struct.pack_into.held", "bytearray.find.held"]).contains id = false := by
        have e : (!(Builtin.Bytes.decodersThatHold ++ ["bytearray.__contains__", "bytearray.__mod__", "bytearray.__rmod__", "_struct.pack_into.held", "bytearray.find.held"]).contains id) = true := hx
        rwa [Bool.not_eq_true'] at e
      obtain ⟨h0, h1, h2, h3, h4, h5⟩ := nots hx'
      delta Builtin.Bytes.exported.match_1
      refine (dif_neg h1).trans ?_
      refine (dif_neg h2).trans ?_
      refine (dif_neg h3).trans ?_
      refine (dif_neg h4).trans ?_
      refine (dif_neg h5).trans ?_
      obtain ⟨pos, kw⟩ := args
      cases pos with
      | nil => rfl
      | cons v r =>
        show (_ && Builtin.Bytes.decodersThatHold.contains id) = false
        rw [h0, Bool.and_false]
    | _ => rfl
end
section
set_option maxRecDepth 100000

theorem caller_clean : clean (⟨.builtin "claim.caller" {}, none, none, [], none⟩ : Ctx) := ⟨by decide +kernel, fun _ h => (nomatch h)⟩

/-- a thread that the caller starts: its stack is clean -/
theorem threadC {prog : Program} {w : World} {t : Sem Fin} {s : Shared} {R : Result → Shared → Prop} (hreg : s.asleep)
    (h : wpC (model prog w) callerA t (fun fin s' => ∃ f, fin = .done f ∧ (R (.ok f) s' ∧ leftWithCleanup s'.gens = false)) (fun e s' => R (.error e) s' ∧ leftWithCleanup s'.gens = false) s) :
    ∃ n r s' s'', runN (denote table) prog w n s ⟨t, .builtin "claim.caller" {}, default, []⟩ = .halted (outcomeOf r) s' ∧
      schedN (denote table) prog w n (.single s ⟨t, .builtin "claim.caller" {}, default, []⟩) = .halted (outcomeOf r) s' ∧ s'.forget = s''.forget ∧ R r s'' := by
  have h₀ := h _ default caller_in caller_clean
  have h₁ := Sem.wp_mono (model prog w) _ t (post' := Sem.finPost (model prog w) ⟨.builtin "claim.caller" {}, none, none, [], none⟩ fun r s' => R r s' ∧ leftWithCleanup s'.gens = false)
    (fun fin p' s' (h' : ∃ f, fin = .done f ∧ (R (.ok f) s' ∧ leftWithCleanup s'.gens = false)) => by obtain ⟨f, rfl, hf⟩ := h'; exact hf) (fun _ _ _ h' => h') default s h₀
  obtain ⟨n, r, s₁, s₂, hs, hn, hfo, hR⟩ := wp_halts_full (M := model prog w) (R := R) hreg h₁
  exact ⟨n, r, s₂, s₁, hn, hs, hfo, hR⟩

theorem callFromC {c : ClaimW} {tree : List Value → Sem Fin} {w : World} {s : Shared} {free : Addr → Prop} {gens : Prop} {kept : Heap → Prop} (hz : s.asleep) (hgens : s.gens = #[])
    (hspec : ∀ args, c.pre args = true → WData.layableAll args = true → ∀ ord : List DictEntry → List DictEntry, (∀ l, (ord l).Perm l) →
      ∃ vs s₁, layAllW c.records (classAt s.heap) w.params ord args s = some (vs, s₁) ∧
        wpC (model c.prog w) callerA (tree vs) (fun fin s' => ∃ f, fin = .done f ∧ (c.Ends s args vs s₁ (.ok f) s' ∧ s'.os = s.os ∧ AllBare s'.gens ∧ kept s'.heap))
          (fun e s' => c.Ends s args vs s₁ (.error e) s' ∧ s'.os = s.os ∧ AllBare s'.gens ∧ kept s'.heap) s₁) :
    c.CallFrom (fun vs => ⟨tree vs, .builtin "claim.caller" {}, default, []⟩) w free gens kept s := by
  intro args hpre hlay ord hord
  obtain ⟨vs, s₁, hlaid, hcode⟩ := hspec args hpre hlay ord hord
  have hal := layAllW_rest _ _ _ hlaid
  obtain ⟨k, r, s', s'', hrun, hsched, hfo, hcase, hos, hkp⟩ := threadC (prog := c.prog) (w := w) (t := tree vs) (s := s₁) (R := fun r s' => c.Ends s args vs s₁ r s' ∧ s'.os = s.os ∧ kept s'.heap)
    (Shared.asleep_of_life hal.2.2.2 hz)
    (wpC_mono hcode (fun _ _ ⟨f, e, h1, h2, h3, h4⟩ => ⟨f, e, ⟨h1, h2, h4⟩, leftWithCleanup_false_of_bare h3⟩) fun _ _ ⟨h1, h2, h3, h4⟩ => ⟨⟨h1, h2, h4⟩, leftWithCleanup_false_of_bare h3⟩)
  obtain ⟨eh, _, _, eo, _⟩ := Shared.forget_eq hfo
  have hcase := hcase.congr eh
  rw [← eh] at hkp
  rw [← eo] at hos
  have hlife : s'.heap.life = s.heap.life := (runN_life _ _ _ hrun).trans hal.2.2.2
  refine ⟨vs, s₁, hlaid, k, _, s', hsched, ?_, (fun _ i x hx => by rw [hgens] at hx; simp at hx), hkp, by rw [hlife], Shared.rest_eq hos⟩
  rcases hcase with ⟨v, rfl, d1, d2, d3, d4, d5⟩ | ⟨e, ob, cls, rfl, d1, d2, d3, d4, d5⟩
  · exact .inl ⟨v, rfl, d1, d2, d3, fun b o y _ => d4 b o y, d5⟩
  · exact .inr ⟨e, ob, cls, rfl, d1, d2, d3, d4, fun b o y _ => d5 b o y⟩

/-- the walk that is asked: over the clean stacks -/
def WalkC (q : Program) (loose : List Str) (XP : (Str → Option Value) → Heap → Prop) (YP : World → Heap → Prop) (r : RowW) (d : DefRec) (kwd : List (Str × Expr)) : Prop :=
  ∀ (w : World) (s₀ s₁ : Shared) (mg mb : Str → Option Value), Ground q loose r.records XP w s₀ mg mb s₁.heap → YP w s₁.heap → ∀ (a : Addr) (o : Obj) (pm cd doc dV kV : Value), s₁.heap.get? a = some o →
    o.data = .func { docDef d.name d.params d.body d.scope pm cd doc with defaults := dV, kwdefaults := kV } → s₁.heap.CodeRec cd d.name → Dflts mg s₁.heap d.params kwd dV kV → mg d.name = some (.ref a) → s₁.gens = #[] →
    ∀ (args : List WData) (vals : List Value) (as : List Addr), r.claim.pre args = true → WData.layableAll args = true → ReadsAllW r.records (classAt s₀.heap) s₁.heap vals args as → WellAll w.params s₁.heap vals args → (∀ a ∈ as, (a == sysModules) = false) →
      wpC (model r.prog w) callerA (PySem.call (.ref a) vals) (fun v s' => GoodWG r.claim (classAt s₀.heap) (ExcName.means s₀.heap) args s₁ (.ok (.ret v)) s')
        (fun e s' => GoodWG r.claim (classAt s₀.heap) (ExcName.means s₀.heap) args s₁ (.error e) s') s₁

namespace PySem.W
/-- the head, as the kit's, but for the clean stacks alone -/
theorem holds_open {r : OpenRow} {q : Program} {loose : List Str} {Xt : Shared → Bool} {XP : (Str → Option Value) → Heap → Prop} {α : Type} {Yf : Shared → α} {Ya : World → α} {YP : World → Heap → Prop} {d : DefRec} {kwd : List (Str × Expr)} {N : Nat}
    (left : LeftO r.prog q loose Xt Yf Ya N) (hY : ∀ w s, Yf s = Ya w → YP w s.heap) (hYk : ∀ w h h', YP w h → (∀ b o, h.get? b = some o → h'.get? b = some o) → YP w h')
    (hX : ∀ s, Xt s = true → XP (s.heap.nsMap mainGlobals) s.heap) (hXk : ∀ mg h h', XP mg h → (∀ b o, h.get? b = some o → h'.get? b = some o) → XP mg h')
    (hdef : defOf q r.name = some (d, kwd)) (hp : r.prog.theDef r.name = some (d.params, d.body, d.scope)) (hk : kwWritten? d.params.kwonlyargs d.params.kw_defaults = some kwd) (hRf : ∀ s, Xt s = true → RecFacts r.records s.heap) (hwr : (!r.writes || r.records.isEmpty) = true)
    (k1 : r.wellSaid = true) (ok : (chainsOk q && opensWell r.prog && (frees r.toRowW && r.within.isEmpty)) = true) (hb : r.prog.bare) (hw : r.toRowW.promised)
    (call : WalkC q loose XP YP r.toRowW d kwd) : r.Holds := by
  simp only [Bool.and_eq_true] at ok
  obtain ⟨⟨hch, o1⟩, k5, k6⟩ := ok
  obtain ⟨hsame, hu, ha, hap, hm⟩ := frees_parts k5
  have hwi : r.toRowW.claim.within = [] := List.isEmpty_iff.mp k6
  have hi := ident_freeW hu ha hap
  refine ⟨k1, hw, ⟨hb, o1, by show r.makers.map _ = []; rw [hm]; rfl⟩, hw.witness, fun w => ⟨(left.behind hX hch w).1, fun s' hs' => ?_⟩⟩
  obtain ⟨s₀, hf, hg0, s, hT, hz, hgens, hg, G00, y⟩ := (left.behind (XP := fun mg h => XP mg h ∧ RecFacts r.records h) (fun s hs => ⟨hX s hs, hRf s hs⟩) hch w).2 s' hs'
  have G0 : Ground q loose [] XP w s (s.heap.nsMap mainGlobals) (s.heap.nsMap builtinsNs) s.heap := ⟨G00.T, G00.B, G00.D, G00.TE, G00.TD, G00.W, G00.X.1, G00.cls, G00.has, G00.apart, G00.once, G00.K⟩
  have RF := G00.X.2
  have hgens : s.gens = #[] := Array.eq_empty_of_size_eq_zero (beq_iff_eq.mp hgens)
  have G : Ground q loose r.records XP w s _ _ s.heap := RF.ground G0
  refine ⟨s₀, hf, hg0, s, hT, fun n hn => ?_, RF.1, RF.2.1, callFromC (c := r.toRowW.claim) hz hgens fun args hpre hlay ord hord => ?_⟩
  · obtain rfl : n = r.name := by split at hn <;> simp_all
    exact pinned_of_view hg G0 hdef hp hk
  · obtain ⟨⟨vs, s₁⟩, hlaid⟩ := Option.isSome_iff_exists.mp (layAllW_isSome (P := w.params) (ord := ord) G.has args r.args s (pre_splitW hpre).1)
    have keeps := layAllW_keeps _ _ _ hlaid
    have hal := layAllW_rest _ _ _ hlaid
    obtain ⟨as, hrd, hin, hold⟩ := reads_layAllW hord _ _ _ hlaid hlay s₁.heap (fun _ _ e => e)
    have L : Laid r.records w s s₁ args vs as := ⟨⟨ord, hord, hlaid⟩, hrd, hin, hold, keeps, hal.1.trans hgens, hal.2.2.1⟩
    have G₁ := G.keeps hXk keeps
    obtain ⟨a, o, pm, cd, doc, dV, kV, h1, h2, h3, h4, h5⟩ := G₁.fn hdef
    have walk := call w s s₁ _ _ G₁ (hYk _ _ _ (hY w s y) keeps) a o pm cd doc dV kV h2 h3 h4 h5 (defOf_name hdef ▸ h1) L.gens args vs as hpre hlay L.reads L.well (L.low G.low)
    have fin : ∀ res s', GoodWG r.toRowW.claim (classAt s.heap) (ExcName.means s.heap) args s₁ res s' →
        r.toRowW.claim.Ends s args vs s₁ res s' ∧ s'.os = s.os ∧ AllBare s'.gens ∧ (r.writes = true → namesKept r.prog r.keeps s.heap s'.heap ∧ ∀ x ∈ r.records, ∀ a, classAt s.heap x.1 = some a → recordClass s'.heap a x.1 (x.2.map (·.1)) = true) := fun res s' g => by
      have z := g.laid (c := r.toRowW.claim) hsame hwi hi L
      exact ⟨z.1, z.2.1, z.2.2, fun q => ⟨namesKept_of hT hg r.keeps keeps g.2.1.old, noTable hwr q⟩⟩
    refine ⟨vs, s₁, hlaid, wpC_first (wpAny_nsGet G₁.T.g ?_)⟩
    rw [h1]
    exact wpC_bind (wpC_mono walk (fun v s' g => wpC_pure ⟨_, rfl, fin _ _ g⟩) fun e s' g => fin _ _ g)
end PySem.W
end
section
set_option maxRecDepth 100000
set_option maxHeartbeats 8000000
/-- the text less its two names for the file -/
def view0 : Program := { PySem.Challenge.pw_ln0030_01 with main := { PySem.Challenge.pw_ln0030_01.main with body := (PySem.Challenge.pw_ln0030_01.main.body.eraseIdx 6).eraseIdx 1 } }
/-- what the heap is made by: no head yet -/
theorem no_head {P : Prop} (H : Hook) (_ : True) (h : H = H → P) : P := h rfl
section
local macro_rules | `(tactic| o_law) => `(tactic| refine holds_law (by kernel_rfl) fun said => ?_)
local macro_rules | `(tactic| o_head $H) => `(tactic| refine no_head $H ?hw ?hc)
local macro_rules | `(tactic| w_witness2) => `(tactic| exact trivial)
open_top hd for PySem.Challenge.rw_ln0030_01
end
end
section
theorem mod_two {s W : Int} (h0 : 0 ≤ s) (h1 : s < 2 * W) : (s % W = s ∧ s < W) ∨ (s % W = s - W ∧ W ≤ s) := by
  by_cases h : s < W
  · exact .inl ⟨Int.emod_eq_of_lt h0 h, h⟩
  · refine .inr ⟨?_, by omega⟩
    have e : s = (s - W) + W := by omega
    conv => lhs; rw [e]
    rw [Int.add_emod_right]
    exact Int.emod_eq_of_lt (by omega) (by omega)
theorem mod_neg {s W : Int} (h0 : -W ≤ s) (h1 : s < W) : (s % W = s ∧ 0 ≤ s) ∨ (s % W = s + W ∧ s < 0) := by
  by_cases h : 0 ≤ s
  · exact .inl ⟨Int.emod_eq_of_lt h h1, h⟩
  · refine .inr ⟨?_, by omega⟩
    rw [← Int.add_emod_right]
    exact Int.emod_eq_of_lt (by omega) (by omega)
/-- a saturating sum or difference is another than the plain one exactly where it overflows -/
theorem sat_up {s p W : Int} (h0 : 0 ≤ s) (hm : (p = s ∧ s < W) ∨ (p = s - W ∧ W ≤ s)) (hW : 0 < W) (hs : s + 2 ≤ 2 * W) : (if (max (min s (W - 1)) 0 != p) = true then (1 : Int) else 0) = if s < W then 0 else 1 := by
  rcases hm with ⟨e, h⟩ | ⟨e, h⟩
  · rw [if_pos h, Int.min_eq_left (by omega), Int.max_eq_left h0, e]; simp
  · rw [if_neg (show ¬ s < W by omega), Int.min_eq_right (by omega), Int.max_eq_left (by omega), e, if_pos]
    rw [bne_iff_ne]; omega
theorem sat_dn {s p W : Int} (h1 : s < W) (hm : (p = s ∧ 0 ≤ s) ∨ (p = s + W ∧ s < 0)) (hp : 0 < p ∨ 0 ≤ s) : (if (max (min s (W - 1)) 0 != p) = true then (1 : Int) else 0) = if 0 ≤ s then 0 else 1 := by
  rw [Int.min_eq_left (by omega)]
  rcases hm with ⟨e, h⟩ | ⟨e, h⟩
  · rw [if_pos h, Int.max_eq_left h, e]; simp
  · rw [if_neg (show ¬ (0 : Int) ≤ s by omega), Int.max_eq_right (by omega), if_pos]
    rw [bne_iff_ne]; omega
/-- the carry that the law tells -/
def carryOf (W a b c : Int) : Int :=
  (if (max (min (a + b) (W - 1)) 0 != (a + b) % W) = true then 1 else 0) + if (max (min ((a + b) % W + c) (W - 1)) 0 != ((a + b) % W + c) % W) = true then 1 else 0
theorem carry_eq {W a b c : Int} (ha : 0 ≤ a ∧ a < W) (hb : 0 ≤ b ∧ b < W) (hc : 0 ≤ c ∧ c < W) :
    ((a + b) % W + c) % W + W * carryOf W a b c = a + b + c ∧ 0 ≤ carryOf W a b c ∧ carryOf W a b c ≤ 2 := by
  obtain ⟨a0, a1⟩ := ha
  obtain ⟨b0, b1⟩ := hb
  obtain ⟨c0, c1⟩ := hc
  have hW : 0 < W := Int.lt_of_le_of_lt a0 a1
  have m1 := mod_two (s := a + b) (W := W) (Int.add_nonneg a0 b0) (by omega)
  have p0 := Int.emod_nonneg (a + b) (Int.ne_of_gt hW)
  have p1 := Int.emod_lt_of_pos (a + b) hW
  have m2 := mod_two (s := (a + b) % W + c) (W := W) (Int.add_nonneg p0 c0) (by omega)
  unfold carryOf
  rw [sat_up (Int.add_nonneg a0 b0) m1 hW (by omega), sat_up (Int.add_nonneg p0 c0) m2 hW (by omega)]
  generalize (a + b) % W = p at m1 m2
  generalize (p + c) % W = q at m2
  clear a0 a1 b0 b1 c0 c1 p0 p1 hW
  rcases m1 with ⟨e1, h1⟩ | ⟨e1, h1⟩
  · rw [if_pos h1]
    rcases m2 with ⟨e2, h2⟩ | ⟨e2, h2⟩
    · rw [if_pos h2, e2, e1]; simp
    · rw [if_neg (Int.not_lt.mpr h2), e2, e1]; simp; try omega
  · rw [if_neg (Int.not_lt.mpr h1)]
    rcases m2 with ⟨e2, h2⟩ | ⟨e2, h2⟩
    · rw [if_pos h2, e2, e1]; simp; try omega
    · rw [if_neg (Int.not_lt.mpr h2), e2, e1]; simp; try omega
/-- the borrow that the law tells -/
def borrowOf (W a b c : Int) : Int :=
  (if (max (min (a - b) (W - 1)) 0 != (a - b) % W) = true then 1 else 0) + if (max (min ((a - b) % W - c) (W - 1)) 0 != ((a - b) % W - c) % W) = true then 1 else 0
theorem borrow_eq {W a b c : Int} (hW : 2 ≤ W) (ha : 0 ≤ a ∧ a < W) (hb : 0 ≤ b ∧ b < W) (hc : 0 ≤ c ∧ c ≤ 1) :
    ((a - b) % W - c) % W - W * borrowOf W a b c = a - b - c ∧ 0 ≤ borrowOf W a b c ∧ borrowOf W a b c ≤ 1 := by
  obtain ⟨a0, a1⟩ := ha
  obtain ⟨b0, b1⟩ := hb
  obtain ⟨c0, c1⟩ := hc
  have hW0 : 0 < W := by omega
  have m1 := mod_neg (s := a - b) (W := W) (by omega) (by omega)
  have p0 := Int.emod_nonneg (a - b) (Int.ne_of_gt hW0)
  have p1 := Int.emod_lt_of_pos (a - b) hW0
  have m2 := mod_neg (s := (a - b) % W - c) (W := W) (by omega) (by omega)
  unfold borrowOf
  rw [sat_dn (by omega) m1 (by omega), sat_dn (by omega) m2 (by omega)]
  generalize (a - b) % W = p at m1 m2 p0 p1
  generalize (p - c) % W = q at m2
  rcases m1 with ⟨e1, h1⟩ | ⟨e1, h1⟩
  · rw [if_pos h1]
    rcases m2 with ⟨e2, h2⟩ | ⟨e2, h2⟩
    · rw [if_pos h2, e2, e1]; simp
    · rw [if_neg (Int.not_le.mpr h2), e2, e1]; simp; try omega
  · rw [if_neg (Int.not_le.mpr h1)]
    rcases m2 with ⟨e2, h2⟩ | ⟨e2, h2⟩
    · rw [if_pos h2, e2, e1]; simp; try omega
    · omega

theorem sq_pow (sz : Nat) : (2 : Int) ^ (8 * sz) = 2 ^ (4 * sz) * 2 ^ (4 * sz) := by rw [← Int.pow_add]; congr 1; omega
/-- a half of a limb -/
def Hf (sz : Nat) (a : Int) : Prop := 0 ≤ a ∧ a < 2 ^ (4 * sz)
theorem halves_eq {sz : Nat} {a : Int} (ha : R sz a) : a * 2 ^ (4 * sz) % 2 ^ (8 * sz) / 2 ^ (4 * sz) + 2 ^ (4 * sz) * (a / 2 ^ (4 * sz)) = a ∧ Hf sz (a * 2 ^ (4 * sz) % 2 ^ (8 * sz) / 2 ^ (4 * sz)) ∧ Hf sz (a / 2 ^ (4 * sz)) := by
  have e : 8 * sz - 4 * sz = 4 * sz := by omega
  have hp := two_pos (4 * sz)
  rw [shl_mod a (show 4 * sz ≤ 8 * sz by omega), e, Int.mul_ediv_cancel _ (Int.ne_of_gt hp)]
  refine ⟨Int.emod_add_mul_ediv _ _, ⟨Int.emod_nonneg _ (Int.ne_of_gt hp), Int.emod_lt_of_pos _ hp⟩, Int.ediv_nonneg ha.1 (Int.le_of_lt hp), ?_⟩
  have := ediv_lt_pow (m := 8 * sz) (k := 4 * sz) (by omega) ha.2
  rwa [e] at this
theorem Hf.mul {sz : Nat} {a b : Int} (ha : Hf sz a) (hb : Hf sz b) : 0 ≤ a * b ∧ a * b + 2 * 2 ^ (4 * sz) ≤ 2 ^ (8 * sz) + 1 := by
  refine ⟨Int.mul_nonneg ha.1 hb.1, ?_⟩
  have h1 : a * b ≤ (2 ^ (4 * sz) - 1) * (2 ^ (4 * sz) - 1) := Int.mul_le_mul (by have := ha.2; omega) (by have := hb.2; omega) hb.1 (by have := two_pos (4 * sz); omega)
  rw [sq_pow]
  rw [Int.sub_mul, Int.mul_sub] at h1
  omega
theorem Hf.R {sz : Nat} {a : Int} (ha : Hf sz a) : R sz a := by
  refine ⟨ha.1, Int.lt_of_lt_of_le ha.2 ?_⟩
  rw [sq_pow]
  have := two_pos (4 * sz)
  have h2 : 2 ^ (4 * sz) * 1 ≤ (2 : Int) ^ (4 * sz) * 2 ^ (4 * sz) := Int.mul_le_mul_of_nonneg_left (by omega) (by omega)
  omega
end
section
theorem upper_ring {a0 a1 b0 b1 H r0 r1 q0 q1 ml mh : Int} (h1 : r0 + H * q0 = a0 * b0) (h2 : ml + H * mh = a1 * b0 + q0) (h3 : r1 + H * q1 = a0 * b1 + ml) :
    r0 + H * r1 + H * H * (a1 * b1 + mh + q1) = (a0 + H * a1) * (b0 + H * b1) := by grind
theorem upper_eq {sz : Nat} {a0 a1 b0 b1 ml mh : Int} (ha0 : Hf sz a0) (ha1 : Hf sz a1) (hb0 : Hf sz b0) (hb1 : Hf sz b1) (hm : ml + 2 ^ (4 * sz) * mh = (a1 * b0 % 2 ^ (8 * sz) + a0 * b0 % 2 ^ (8 * sz) / 2 ^ (4 * sz)) % 2 ^ (8 * sz)) (hml : Hf sz ml) (hmh : Hf sz mh) :
    ((a1 * b1 % 2 ^ (8 * sz) + mh) % 2 ^ (8 * sz) + (a0 * b1 % 2 ^ (8 * sz) + ml) % 2 ^ (8 * sz) / 2 ^ (4 * sz)) % 2 ^ (8 * sz) = (a0 + 2 ^ (4 * sz) * a1) * (b0 + 2 ^ (4 * sz) * b1) / 2 ^ (8 * sz) := by
  have p00 := ha0.mul hb0
  have p01 := ha0.mul hb1
  have p10 := ha1.mul hb0
  have p11 := ha1.mul hb1
  have hW := sq_pow sz
  have hH := two_pos (4 * sz)
  obtain ⟨l0, l1⟩ := hml
  obtain ⟨m0, m1⟩ := hmh
  have r0 := Int.emod_add_mul_ediv (a0 * b0) (2 ^ (4 * sz))
  have r0a := Int.emod_nonneg (a0 * b0) (Int.ne_of_gt hH)
  have r0b := Int.emod_lt_of_pos (a0 * b0) hH
  have q0a := Int.ediv_nonneg p00.1 (Int.le_of_lt hH)
  have q0b : a0 * b0 / 2 ^ (4 * sz) < 2 ^ (4 * sz) := Int.ediv_lt_of_lt_mul hH (by rw [← hW]; omega)
  rw [Int.emod_eq_of_lt p10.1 (by omega), Int.emod_eq_of_lt p00.1 (by omega), Int.emod_eq_of_lt (by omega) (by omega)] at hm
  rw [Int.emod_eq_of_lt p11.1 (by omega), Int.emod_eq_of_lt p01.1 (by omega), Int.emod_eq_of_lt (a := a1 * b1 + mh) (by omega) (by omega), Int.emod_eq_of_lt (a := a0 * b1 + ml) (by omega) (by omega)]
  have r1 := Int.emod_add_mul_ediv (a0 * b1 + ml) (2 ^ (4 * sz))
  have r1a := Int.emod_nonneg (a0 * b1 + ml) (Int.ne_of_gt hH)
  have r1b := Int.emod_lt_of_pos (a0 * b1 + ml) hH
  have q1a := Int.ediv_nonneg (a := a0 * b1 + ml) (by omega) (Int.le_of_lt hH)
  have q1b : (a0 * b1 + ml) / 2 ^ (4 * sz) < 2 ^ (4 * sz) := Int.ediv_lt_of_lt_mul hH (by rw [← hW]; omega)
  rw [Int.emod_eq_of_lt (by omega) (by omega)]
  have key := upper_ring r0 hm r1
  rw [← hW] at key
  have hlt : a0 * b0 % 2 ^ (4 * sz) + 2 ^ (4 * sz) * ((a0 * b1 + ml) % 2 ^ (4 * sz)) < 2 ^ (8 * sz) := by
    have : 2 ^ (4 * sz) * ((a0 * b1 + ml) % 2 ^ (4 * sz)) ≤ 2 ^ (4 * sz) * (2 ^ (4 * sz) - 1) := Int.mul_le_mul_of_nonneg_left (by omega) (by omega)
    rw [Int.mul_sub, ← hW] at this
    omega
  exact ((kbt_unique (two_pos (8 * sz)) key (by have := Int.mul_nonneg (Int.le_of_lt hH) r1a; omega) hlt).1).symm
end
section
set_option maxRecDepth 100000

noncomputable abbrev LO : List Str := looseW view0 [Str.ofString "u8", Str.ofString "u16", Str.ofString "u64"]

/-- a pure call: what stood stands, tl is new, Post says what comes back -/
def Spec (w : World) (D U : Nat) (f : Addr) (vs : List Value) (need : List (Addr × Obj)) (Post : Value → List (Addr × Obj) → Prop) : Prop :=
  ∀ (prog : Program) (mean : ExcName → Option Value) (mg mb : Str → Option Value) (cn : Str) (cs : Scope) (a : Addr) (ccd : Value) (cl : List (Str × Addr)) (outer : List Env) (A₀ : Around) (base h₀ : Heap) (L : Addr) (m : Str → Option Value) (s : Shared)
    (Q E : Value → Shared → Prop),
    Below A₀ base outer h₀ → Fr h₀ L s.heap m → (hd.heap_1 w.params).In h₀ → News h₀ L s.heap need → Top view0 LO mean mg mb h₀ → cs.kind = .function →
    (∀ r tl h' tk', s.heap.StaysIn h' → (∀ p ∈ tl, s.heap.get? p.1 = none ∧ h'.get? p.1 = some p.2) → Post r tl → Q r { s with heap := h', toks := tk' }) →
    wpAny (model prog w) (ktrTop D U none cn cs L a ccd cl outer) (call (.ref f) vs) Q E s

theorem weaken {α : Type} {M : Model} {A A' : Around} {t : Sem α} {Q : α → Shared → Prop} {E : Value → Shared → Prop} {s : Shared} (h : wpAny M A' t Q E s)
    (hh : A.handled = A'.handled) (hd : A.depth ≤ A'.depth) (hf : A.frames = A'.frames) (hg : A'.guards = none) (hu : A.units ≤ A'.units) : wpAny M A t Q E s :=
  fun Γ p hΓ => h Γ p ⟨hΓ.1.trans hh, Nat.le_trans hΓ.2.1 hd, fun l hl => hΓ.2.2.1 l (hf.trans hl), fun g q => (by rw [hg] at q; cases q), Nat.le_trans hΓ.2.2.2.2 hu⟩

theorem fr_stays {h₀ h h' : Heap} {L : Addr} {m : Str → Option Value} (F : Fr h₀ L h m) (k : h.StaysIn h') : Fr h₀ L h' m := by
  obtain ⟨⟨oL, es, ep, hL, r⟩, kp, ab⟩ := F
  exact ⟨⟨oL, es, ep, k _ _ hL, r⟩, fun b o e => k _ _ (kp b o e), ab⟩
theorem news_stays {h₀ h h' : Heap} {L : Addr} {news : List (Addr × Obj)} (N : News h₀ L h news) (k : h.StaysIn h') : News h₀ L h' news :=
  fun p hp => ⟨k _ _ (N p hp).1, (N p hp).2⟩
theorem news_more {h₀ h h' : Heap} {L : Addr} {m : Str → Option Value} {tl news : List (Addr × Obj)} (F : Fr h₀ L h m) (N : News h₀ L h news) (k : h.StaysIn h')
    (ht : ∀ p ∈ tl, h.get? p.1 = none ∧ h'.get? p.1 = some p.2) : News h₀ L h' (tl ++ news) := by
  intro p hp
  rcases List.mem_append.mp hp with q | q
  · refine ⟨(ht p q).2, fun e => ?_, ?_⟩
    · obtain ⟨oL, es, ep, hL, r⟩ := F.ns
      have := (ht p q).1; rw [e, hL] at this; cases this
    · cases e : h₀.get? p.1 with
      | none => rfl
      | some o => have := (ht p q).1; rw [F.keep _ _ e] at this; cases this
  · exact news_stays N k p q

/-- all of tl lies apart from all of news -/
noncomputable def Apart : List (Addr × Obj) → List (Addr × Obj) → Prop
  | [], _ => True
  | p :: r, news => AllNe p.1 news ∧ Apart r news
where AllNe (d : Addr) : List (Addr × Obj) → Prop
  | [] => True
  | q :: r => @Ne Nat q.1 d ∧ AllNe d r
theorem allNe_of {d : Addr} : ∀ {news : List (Addr × Obj)}, (∀ q ∈ news, q.1 ≠ d) → Apart.AllNe d news
  | [], _ => trivial
  | q :: _, h => ⟨h q (.head _), allNe_of fun p hp => h p (.tail _ hp)⟩
theorem apart_of : ∀ {tl news : List (Addr × Obj)}, (∀ p ∈ tl, ∀ q ∈ news, q.1 ≠ p.1) → Apart tl news
  | [], _, _ => trivial
  | p :: _, _, h => ⟨allNe_of (h p (.head _)), apart_of fun x hx => h x (.tail _ hx)⟩

theorem Spec.use {w : World} {D U : Nat} {f : Addr} {vs : List Value} {need : List (Addr × Obj)} {Post : Value → List (Addr × Obj) → Prop} (S : Spec w D U f vs need Post)
    {prog : Program} {mean : ExcName → Option Value} {mg mb : Str → Option Value} {cn : Str} {cs : Scope} {a : Addr} {ccd : Value} {cl : List (Str × Addr)} {outer : List Env} {A A₀ : Around} {base h₀ : Heap} {L : Addr} {m : Str → Option Value} {s : Shared}
    {Q E : Value → Shared → Prop} {news : List (Addr × Obj)}
    (B : Below A₀ base outer h₀) (F : Fr h₀ L s.heap m) (X : (hd.heap_1 w.params).In h₀) (N : News h₀ L s.heap news) (T : Top view0 LO mean mg mb h₀)
    (hh : A.handled = none) (hf : A.frames = some (envX cn cs L a ccd cl :: outer)) (hd : A.depth ≤ D) (hu : A.units ≤ U)
    (hk : cs.kind = .function) (hneed : ∀ p ∈ need, p ∈ news)
    (ret : ∀ r tl h' tk', Fr h₀ L h' m → News h₀ L h' (tl ++ news) → Apart tl news → Post r tl → Q r { s with heap := h', toks := tk' }) :
    wpAny (model prog w) A (call (.ref f) vs) Q E s := by
  refine weaken (A' := ktrTop D U none cn cs L a ccd cl outer) (S prog mean mg mb cn cs a ccd cl outer A₀ base h₀ L m s Q E B F X (fun p hp => N p (hneed p hp)) T hk fun r tl h' tk' k ht hp => ?_) hh hd hf rfl hu
  refine ret r tl h' tk' (fr_stays F k) (news_more F N k ht) (apart_of fun p hp q hq e => ?_) hp
  have := (ht p hp).1
  rw [← e, (N q hq).1] at this; cases this

section
variable {prog : Program} {w : World} {A₀ A : Around} {s : Shared} {base h₀ : Heap} {outer : List Env} {L : Addr} {m mg mb : Str → Option Value} {env : Env} {news : List (Addr × Obj)} {K : Frag} {p : Program} {loose : List Str} {mean : ExcName → Option Value}
  {R : Result → Shared → Prop} {name qual : Str} {params : Arguments} {body : List Stmt} {scope : Scope} {dV kV doc pm cdv ct oc : Value} {an od : Option Addr} {osl : Array (Option Value)} {f : Addr} {args : Args} {binds : List (Str × Value)}

/-- where the callee's ground lies: all that stood, but for the hidden -/
def Ground0 (h g : Heap) (need : List (Addr × Obj)) : Prop := ∀ b o, h.get? b = some o → (∀ p ∈ need, p.1 ≠ b) → g.get? b = some o

theorem enter (B : Below A₀ base outer h₀) (F : Fr h₀ L s.heap m) (X₀ : K.In h₀) (N : News h₀ L s.heap news) (T : Top p loose mean mg mb h₀) (hA : A.frames = some (env :: outer)) (hf : env.frame = some L) (hke : env.scope.kind = .function)
    (ho : K.lookup f = some ⟨oc, od, .func (fnOf name qual params body scope dV kV doc pm an cdv ct), osl⟩) (hcd : codeIn K cdv qual = true) (hroom : A.depth < recursionLimit)
    (hbind : BindsTo s (fnOf name qual params body scope dV kV doc pm an cdv ct) args binds) (hloc : ∀ y ∈ binds, scope.names.lookup y.1 = some .local)
    (h : ∀ g L' h₁, Ground0 s.heap g news → (∀ b, g.get? b = none → (∀ p ∈ news, p.1 ≠ b) → s.heap.get? b = none) → Fr g L' h₁ (fun y => binds.reverse.lookup y) → News g L' h₁ news → Below A base (env :: outer) g → K.In g → Top p loose mean mg mb g →
      wpAny (model prog w) (A.deeper (envOf qual scope L' f cdv)) (execs body (envOf qual scope L' f cdv))
        (fun fl s' => R (.ok (.ret (match fl with | .ret v => v | _ => .none))) s')
        (fun e s' => wpAny (model prog w) (A.deeper (envOf qual scope L' f cdv)) (leaving (envOf qual scope L' f cdv) e) (fun _ s'' => R (.error e) s'') (fun e' s'' => R (.error e') s'') s')
        { s with heap := h₁, toks := s.toks + binds.length })
    (hco : scope.isCoroutine = false) (hgen : scope.isGenerator = false) (hk : scope.kind = .function)
    (hcell : ∀ x ∈ scope.names, x.2 ≠ .cell) : codeAny (model prog w) A (.call (.ref f) args) R s := by
  obtain ⟨FG, BG, st, lv⟩ := groundX (R := R) B F N hA hf hke
  refine codeAny_call_def (fd := fnOf name qual params body scope dV kV doc pm an cdv ct) (body := body) (binds := binds) hroom ((X₀.keeps F.keep) _ _ ho) rfl (T.nolimit.keeps F.keep) (codeRec_of (X₀.keeps F.keep) hcd) rfl hbind hcell hloc (fun h₁ hns hk₁ => ?_) hco hgen hk
  refine h _ s.heap.objs.size h₁ (fun b o e q => hideAll_get _ e fun q' => ?_) (fun b e q => ?_) ⟨hns, fun b o e => hk₁ b o (of_hideAll _ e), Nat.le_of_eq (hideAll_size _ _)⟩
    (fun p hp => ⟨hk₁ _ _ (N p hp).1, Nat.ne_of_lt (Heap.lt_size (N p hp).1), hideAll_none _ (List.mem_map_of_mem hp)⟩) BG (X₀.keeps st) (T.keeps st)
  · obtain ⟨p, hp, e'⟩ := List.mem_map.mp q'
    exact q p hp e'
  · cases e' : s.heap.get? b with
    | none => rfl
    | some o =>
      have := hideAll_get (news.map (·.1)) e' (fun q' => by obtain ⟨p, hp, e''⟩ := List.mem_map.mp q'; exact q p hp e'')
      rw [e] at this; cases this
end

/-- the way back -/
theorem back {g h h' : Heap} {L' : Addr} {m' : Str → Option Value} {need news' tl : List (Addr × Obj)} (G : Ground0 h g need) (G' : ∀ b, g.get? b = none → (∀ p ∈ need, p.1 ≠ b) → h.get? b = none)
    (N₀ : ∀ p ∈ need, h.get? p.1 = some p.2) (F : Fr g L' h' m') (N : News g L' h' news') (hn : ∀ p ∈ need, p ∈ news') (ht : ∀ p ∈ tl, p ∈ news') (ha : ∀ p ∈ need, ∀ q ∈ tl, p.1 ≠ q.1) :
    h.StaysIn h' ∧ ∀ p ∈ tl, h.get? p.1 = none ∧ h'.get? p.1 = some p.2 := by
  refine ⟨fun b o e => ?_, fun p hp => ⟨G' p.1 (N p (ht p hp)).2.2 fun q hq => ha q hq p hp, (N p (ht p hp)).1⟩⟩
  by_cases q : ∃ p ∈ need, p.1 = b
  · obtain ⟨p, hp, rfl⟩ := q
    have := N₀ p hp
    rw [e] at this; cases this
    exact (N p (hn p hp)).1
  · exact F.keep b o (G b o e fun p hp e' => q ⟨p, hp, e'⟩)


section
variable {g h' h₀ : Heap} {s : Shared} {L L' : Addr} {m' : Str → Option Value} {need news' tl : List (Addr × Obj)} {Post : Value → List (Addr × Obj) → Prop} {Q : Value → Shared → Prop} {r : Value} {tk' : Nat}
abbrev Ret (s : Shared) (Post : Value → List (Addr × Obj) → Prop) (Q : Value → Shared → Prop) : Prop :=
  ∀ r tl h' tk', s.heap.StaysIn h' → (∀ p ∈ tl, s.heap.get? p.1 = none ∧ h'.get? p.1 = some p.2) → Post r tl → Q r { s with heap := h', toks := tk' }
theorem fin (ret : Ret s Post Q) (G : Ground0 s.heap g need) (G' : ∀ b, g.get? b = none → (∀ p ∈ need, p.1 ≠ b) → s.heap.get? b = none) (N : News h₀ L s.heap need) (F' : Fr g L' h' m') (N' : News g L' h' news')
    (hn : ∀ p ∈ need, p ∈ news') (ht : ∀ p ∈ tl, p ∈ news') (ha : ∀ p ∈ need, ∀ q ∈ tl, p.1 ≠ q.1) (hp : Post r tl) : Q r { s with heap := h', toks := tk' } :=
  let ⟨a, b⟩ := back G G' (fun p hp => (N p hp).1) F' N' hn ht ha
  ret r tl h' tk' a b hp
theorem fin0 (ret : Ret s Post Q) (G : Ground0 s.heap g need) (G' : ∀ b, g.get? b = none → (∀ p ∈ need, p.1 ≠ b) → s.heap.get? b = none) (N : News h₀ L s.heap need) (F' : Fr g L' h' m') (N' : News g L' h' news')
    (hn : ∀ p ∈ need, p ∈ news') (hp : Post r []) : Q r { s with heap := h', toks := tk' } :=
  fin (tl := []) ret G G' N F' N' hn (fun _ h => (nomatch h)) (fun _ _ _ h => (nomatch h)) hp
end
/-- one int comes back, nothing is made -/
def PI (v : Int) (r : Value) (tl : List (Addr × Obj)) : Prop := tl = [] ∧ ∃ t, r = .int v t
theorem pi_mk {a b : Int} {t : Tok} (h : a = b) : PI b (.int a t) [] := ⟨rfl, t, by rw [h]⟩
/-- one int of which P holds -/
def PP (P : Int → Prop) (r : Value) (tl : List (Addr × Obj)) : Prop := tl = [] ∧ ∃ v t, r = .int v t ∧ P v
theorem pp_mk {P : Int → Prop} {a : Int} {t : Tok} (h : P a) : PP P (.int a t) [] := ⟨rfl, a, t, rfl, h⟩
theorem sub_nil {news : List (Addr × Obj)} : ∀ p ∈ ([] : List (Addr × Obj)), p ∈ news := fun _ h => (nomatch h)
theorem sub_cons {p : Addr × Obj} {r news : List (Addr × Obj)} (h : p ∈ news) (h' : ∀ p ∈ r, p ∈ news) : ∀ q ∈ p :: r, q ∈ news := fun q hq => by
  rcases List.mem_cons.mp hq with rfl | hq
  · exact h
  · exact h' q hq
/-- a call that hands back one int -/
theorem Spec.useI {w : World} {D U : Nat} {f : Addr} {vs : List Value} {need : List (Addr × Obj)} {v : Int} (S : Spec w D U f vs need (fun r tl => PI v r tl))
    {prog : Program} {mean : ExcName → Option Value} {mg mb : Str → Option Value} {cn : Str} {cs : Scope} {a : Addr} {ccd : Value} {cl : List (Str × Addr)} {outer : List Env} {A A₀ : Around} {base h₀ : Heap} {L : Addr} {m : Str → Option Value} {s : Shared}
    {Q E : Value → Shared → Prop} {news : List (Addr × Obj)}
    (B : Below A₀ base outer h₀) (F : Fr h₀ L s.heap m) (X : (hd.heap_1 w.params).In h₀) (N : News h₀ L s.heap news) (T : Top view0 LO mean mg mb h₀)
    (hh : A.handled = none) (hf : A.frames = some (envX cn cs L a ccd cl :: outer)) (hd : A.depth ≤ D) (hu : A.units ≤ U)
    (hk : cs.kind = .function) (hneed : ∀ p ∈ need, p ∈ news)
    (ret : ∀ t h' tk', Fr h₀ L h' m → News h₀ L h' news → Q (.int v t) { s with heap := h', toks := tk' }) : wpAny (model prog w) A (call (.ref f) vs) Q E s :=
  S.use B F X N T hh hf hd hu hk hneed fun r tl h' tk' F' N' _ P => by
    obtain ⟨rfl, t, rfl⟩ := P
    exact ret t h' tk' F' N'
theorem Spec.useO {w : World} {D U : Nat} {f : Addr} {vs : List Value} {need : List (Addr × Obj)} {v : Int} (S : Spec w D U f vs need (fun r tl => PI v r tl))
    {prog : Program} {mean : ExcName → Option Value} {mg mb : Str → Option Value} {cn : Str} {cs : Scope} {a : Addr} {ccd : Value} {cl : List (Str × Addr)} {outer : List Env} {A A₀ : Around} {base h₀ : Heap} {L : Addr} {m : Str → Option Value} {s : Shared}
    {Q E : Value → Shared → Prop} {news : List (Addr × Obj)}
    (B : Below A₀ base outer h₀) (F : Fr h₀ L s.heap m) (X : (hd.heap_1 w.params).In h₀) (N : News h₀ L s.heap news) (T : Top view0 LO mean mg mb h₀)
    (hh : A.handled = none) (hf : A.frames = some (envX cn cs L a ccd cl :: outer)) (hd : A.depth ≤ D) (hu : A.units ≤ U)
    (hk : cs.kind = .function) (hneed : ∀ p ∈ need, p ∈ news)
    (ret : ∀ u t h' tk', u = v → Fr h₀ L h' m → News h₀ L h' news → Q (.int u t) { s with heap := h', toks := tk' }) : wpAny (model prog w) A (call (.ref f) vs) Q E s :=
  S.useI B F X N T hh hf hd hu hk hneed fun t h' tk' F' N' => ret v t h' tk' rfl F' N'
theorem Spec.useP {w : World} {D U : Nat} {f : Addr} {vs : List Value} {need : List (Addr × Obj)} {P : Int → Prop} (S : Spec w D U f vs need (fun r tl => PP P r tl))
    {prog : Program} {mean : ExcName → Option Value} {mg mb : Str → Option Value} {cn : Str} {cs : Scope} {a : Addr} {ccd : Value} {cl : List (Str × Addr)} {outer : List Env} {A A₀ : Around} {base h₀ : Heap} {L : Addr} {m : Str → Option Value} {s : Shared}
    {Q E : Value → Shared → Prop} {news : List (Addr × Obj)}
    (B : Below A₀ base outer h₀) (F : Fr h₀ L s.heap m) (X : (hd.heap_1 w.params).In h₀) (N : News h₀ L s.heap news) (T : Top view0 LO mean mg mb h₀)
    (hh : A.handled = none) (hf : A.frames = some (envX cn cs L a ccd cl :: outer)) (hd : A.depth ≤ D) (hu : A.units ≤ U)
    (hk : cs.kind = .function) (hneed : ∀ p ∈ need, p ∈ news)
    (ret : ∀ u t h' tk', P u → Fr h₀ L h' m → News h₀ L h' news → Q (.int u t) { s with heap := h', toks := tk' }) : wpAny (model prog w) A (call (.ref f) vs) Q E s :=
  S.use B F X N T hh hf hd hu hk hneed fun r tl h' tk' F' N' _ P => by
    obtain ⟨rfl, u, t, rfl, hu⟩ := P
    exact ret u t h' tk' hu F' N'
section
variable {M : Model} {A : Around} {E : Value → Shared → Prop} {s : Shared} {h₀ : Heap} {L a : Addr} {m : Str → Option Value} {cn : Str} {cs : Scope} {ccd : Value} {cl : List (Str × Addr)} {news : List (Addr × Obj)} {x : Str} {Q : Unit → Shared → Prop}
/-- an int is stored: its token and the count of tokens are not said -/
theorem storeX_I {v : Int} {t : Tok} (F : Fr h₀ L s.heap m) (N : News h₀ L s.heap news)
    (h : ∀ h' tk t', Fr h₀ L h' (fun y => if y = x then some (.int v t') else m y) → News h₀ L h' news → Q () { s with heap := h', toks := tk })
    (hk : cs.kind = .function := by rfl) (hx : (envX cn cs L a ccd cl).kindOf x = some .local := by rfl) : wpAny M A (storeName (envX cn cs L a ccd cl) x (.int v t)) Q E s :=
  storeX_L F N (fun h' F' N' => h h' _ t F' N') hk hx
end
end
section
set_option maxRecDepth 100000
example : (PySem.Challenge.rw_ln0030_01, hd.heap_1) = (PySem.Challenge.rw_ln0030_01, hd.heap_1) := by
  k_fill
  rfl
/-- the three kinds: where they stand, their octets -/
inductive Kind : Addr → Nat → Prop where
  | u8 : Kind 170 1
  | u16 : Kind 173 2
  | u64 : Kind 176 8

section
variable {prog : Program} {w : World} {A : Around} {E : Value → Shared → Prop} {s : Shared} {h₀ : Heap} {L x : Addr} {sz : Nat} {m : Str → Option Value}

theorem at_bits_length {expr : Bool} {Q : Value → Shared → Prop} (KI : Kind x sz) (F : Fr h₀ L s.heap m) (X₀ : (hd.heap_1 w.params).In h₀)
    (h : ∀ t, Q (.int ((8 * sz : Nat) : Int) t) { s with toks := s.toks + 1 }) : wpAny (model prog w) A (getAttr (.ref x) (Str.ofString "bits_length") expr) Q E s := by
  cases KI
  all_goals k_dflt (refine' get_own ?k1 ?k2 ?k3 ?k4 ?k5 ?k6 ?k7 ?k8 ?k9 ?_; (case k1 => k_asm); (case k2 => k_asm); (case k3 => k_inst); (case k4 => k_is); (case k5 => k_is); (case k6 => k_is); (case k7 => k_is); (case k8 => k_get); (case k9 => k_handed); k_whole)
  all_goals exact h _
theorem at_byte_length {expr : Bool} {Q : Value → Shared → Prop} (KI : Kind x sz) (F : Fr h₀ L s.heap m) (X₀ : (hd.heap_1 w.params).In h₀)
    (h : ∀ t, Q (.int ((sz : Nat) : Int) t) { s with toks := s.toks + 1 }) : wpAny (model prog w) A (getAttr (.ref x) (Str.ofString "byte_length") expr) Q E s := by
  cases KI
  all_goals k_dflt (refine' get_own ?k1 ?k2 ?k3 ?k4 ?k5 ?k6 ?k7 ?k8 ?k9 ?_; (case k1 => k_asm); (case k2 => k_asm); (case k3 => k_inst); (case k4 => k_is); (case k5 => k_is); (case k6 => k_is); (case k7 => k_is); (case k8 => k_get); (case k9 => k_handed); k_whole)
  all_goals exact h _
theorem at_mask {expr : Bool} {Q : Value → Shared → Prop} (KI : Kind x sz) (F : Fr h₀ L s.heap m) (X₀ : (hd.heap_1 w.params).In h₀)
    (h : ∀ t, Q (.int (2 ^ (8 * sz) - 1) t) { s with toks := s.toks + 1 }) : wpAny (model prog w) A (getAttr (.ref x) (Str.ofString "mask") expr) Q E s := by
  cases KI
  all_goals k_dflt (refine' get_own ?k1 ?k2 ?k3 ?k4 ?k5 ?k6 ?k7 ?k8 ?k9 ?_; (case k1 => k_asm); (case k2 => k_asm); (case k3 => k_inst); (case k4 => k_is); (case k5 => k_is); (case k6 => k_is); (case k7 => k_is); (case k8 => k_get); (case k9 => k_handed); k_whole)
  all_goals exact h _
theorem at_mask_sign {expr : Bool} {Q : Value → Shared → Prop} (KI : Kind x sz) (F : Fr h₀ L s.heap m) (X₀ : (hd.heap_1 w.params).In h₀)
    (h : ∀ t, Q (.int (2 ^ (8 * sz - 1)) t) { s with toks := s.toks + 1 }) : wpAny (model prog w) A (getAttr (.ref x) (Str.ofString "mask_sign") expr) Q E s := by
  cases KI
  all_goals k_dflt (refine' get_own ?k1 ?k2 ?k3 ?k4 ?k5 ?k6 ?k7 ?k8 ?k9 ?_; (case k1 => k_asm); (case k2 => k_asm); (case k3 => k_inst); (case k4 => k_is); (case k5 => k_is); (case k6 => k_is); (case k7 => k_is); (case k8 => k_get); (case k9 => k_handed); k_whole)
  all_goals exact h _
theorem at_max {expr : Bool} {Q : Value → Shared → Prop} (KI : Kind x sz) (F : Fr h₀ L s.heap m) (X₀ : (hd.heap_1 w.params).In h₀)
    (h : ∀ t, Q (.int (2 ^ (8 * sz) - 1) t) { s with toks := s.toks + 1 }) : wpAny (model prog w) A (getAttr (.ref x) (Str.ofString "max") expr) Q E s := by
  cases KI
  all_goals k_dflt (refine' get_own ?k1 ?k2 ?k3 ?k4 ?k5 ?k6 ?k7 ?k8 ?k9 ?_; (case k1 => k_asm); (case k2 => k_asm); (case k3 => k_inst); (case k4 => k_is); (case k5 => k_is); (case k6 => k_is); (case k7 => k_is); (case k8 => k_get); (case k9 => k_handed); k_whole)
  all_goals exact h _
theorem at_min {expr : Bool} {Q : Value → Shared → Prop} (KI : Kind x sz) (F : Fr h₀ L s.heap m) (X₀ : (hd.heap_1 w.params).In h₀)
    (h : ∀ t, Q (.int 0 t) { s with toks := s.toks + 1 }) : wpAny (model prog w) A (getAttr (.ref x) (Str.ofString "min") expr) Q E s := by
  cases KI
  all_goals k_dflt (refine' get_own ?k1 ?k2 ?k3 ?k4 ?k5 ?k6 ?k7 ?k8 ?k9 ?_; (case k1 => k_asm); (case k2 => k_asm); (case k3 => k_inst); (case k4 => k_is); (case k5 => k_is); (case k6 => k_is); (case k7 => k_is); (case k8 => k_get); (case k9 => k_handed); k_whole)
  all_goals exact h _
theorem me_from_bytearray {pl : Sem Bool} {Q : Value × List Value → Shared → Prop} (KI : Kind x sz) (F : Fr h₀ L s.heap m) (X₀ : (hd.heap_1 w.params).In h₀)
    (h : Q (.ref 42, [.ref x]) s) : wpAny (model prog w) A (getMethod (.ref x) (Str.ofString "from_bytearray") pl) Q E s := by
  cases KI
  all_goals k_dflt (refine' method_inst ?k1 ?k2 ?k3 ?k4 ?k5 ?k6 ?k7 ?_; (case k1 => k_asm); (case k2 => k_asm); (case k3 => k_inst); (case k4 => k_is); (case k5 => k_is); (case k6 => k_is); (case k7 => k_get); k_whole)
  all_goals exact h
theorem me_into_bytearray {pl : Sem Bool} {Q : Value × List Value → Shared → Prop} (KI : Kind x sz) (F : Fr h₀ L s.heap m) (X₀ : (hd.heap_1 w.params).In h₀)
    (h : Q (.ref 49, [.ref x]) s) : wpAny (model prog w) A (getMethod (.ref x) (Str.ofString "into_bytearray") pl) Q E s := by
  cases KI
  all_goals k_dflt (refine' method_inst ?k1 ?k2 ?k3 ?k4 ?k5 ?k6 ?k7 ?_; (case k1 => k_asm); (case k2 => k_asm); (case k3 => k_inst); (case k4 => k_is); (case k5 => k_is); (case k6 => k_is); (case k7 => k_get); k_whole)
  all_goals exact h
theorem me_fit {pl : Sem Bool} {Q : Value × List Value → Shared → Prop} (KI : Kind x sz) (F : Fr h₀ L s.heap m) (X₀ : (hd.heap_1 w.params).In h₀)
    (h : Q (.ref 56, [.ref x]) s) : wpAny (model prog w) A (getMethod (.ref x) (Str.ofString "fit") pl) Q E s := by
  cases KI
  all_goals k_dflt (refine' method_inst ?k1 ?k2 ?k3 ?k4 ?k5 ?k6 ?k7 ?_; (case k1 => k_asm); (case k2 => k_asm); (case k3 => k_inst); (case k4 => k_is); (case k5 => k_is); (case k6 => k_is); (case k7 => k_get); k_whole)
  all_goals exact h
theorem me_sat {pl : Sem Bool} {Q : Value × List Value → Shared → Prop} (KI : Kind x sz) (F : Fr h₀ L s.heap m) (X₀ : (hd.heap_1 w.params).In h₀)
    (h : Q (.ref 63, [.ref x]) s) : wpAny (model prog w) A (getMethod (.ref x) (Str.ofString "sat") pl) Q E s := by
  cases KI
  all_goals k_dflt (refine' method_inst ?k1 ?k2 ?k3 ?k4 ?k5 ?k6 ?k7 ?_; (case k1 => k_asm); (case k2 => k_asm); (case k3 => k_inst); (case k4 => k_is); (case k5 => k_is); (case k6 => k_is); (case k7 => k_get); k_whole)
  all_goals exact h
theorem me_add {pl : Sem Bool} {Q : Value × List Value → Shared → Prop} (KI : Kind x sz) (F : Fr h₀ L s.heap m) (X₀ : (hd.heap_1 w.params).In h₀)
    (h : Q (.ref 70, [.ref x]) s) : wpAny (model prog w) A (getMethod (.ref x) (Str.ofString "add") pl) Q E s := by
  cases KI
  all_goals k_dflt (refine' method_inst ?k1 ?k2 ?k3 ?k4 ?k5 ?k6 ?k7 ?_; (case k1 => k_asm); (case k2 => k_asm); (case k3 => k_inst); (case k4 => k_is); (case k5 => k_is); (case k6 => k_is); (case k7 => k_get); k_whole)
  all_goals exact h
theorem me_add_sat {pl : Sem Bool} {Q : Value × List Value → Shared → Prop} (KI : Kind x sz) (F : Fr h₀ L s.heap m) (X₀ : (hd.heap_1 w.params).In h₀)
    (h : Q (.ref 77, [.ref x]) s) : wpAny (model prog w) A (getMethod (.ref x) (Str.ofString "add_sat") pl) Q E s := by
  cases KI
  all_goals k_dflt (refine' method_inst ?k1 ?k2 ?k3 ?k4 ?k5 ?k6 ?k7 ?_; (case k1 => k_asm); (case k2 => k_asm); (case k3 => k_inst); (case k4 => k_is); (case k5 => k_is); (case k6 => k_is); (case k7 => k_get); k_whole)
  all_goals exact h
theorem me_sub {pl : Sem Bool} {Q : Value × List Value → Shared → Prop} (KI : Kind x sz) (F : Fr h₀ L s.heap m) (X₀ : (hd.heap_1 w.params).In h₀)
    (h : Q (.ref 84, [.ref x]) s) : wpAny (model prog w) A (getMethod (.ref x) (Str.ofString "sub") pl) Q E s := by
  cases KI
  all_goals k_dflt (refine' method_inst ?k1 ?k2 ?k3 ?k4 ?k5 ?k6 ?k7 ?_; (case k1 => k_asm); (case k2 => k_asm); (case k3 => k_inst); (case k4 => k_is); (case k5 => k_is); (case k6 => k_is); (case k7 => k_get); k_whole)
  all_goals exact h
theorem me_sub_sat {pl : Sem Bool} {Q : Value × List Value → Shared → Prop} (KI : Kind x sz) (F : Fr h₀ L s.heap m) (X₀ : (hd.heap_1 w.params).In h₀)
    (h : Q (.ref 91, [.ref x]) s) : wpAny (model prog w) A (getMethod (.ref x) (Str.ofString "sub_sat") pl) Q E s := by
  cases KI
  all_goals k_dflt (refine' method_inst ?k1 ?k2 ?k3 ?k4 ?k5 ?k6 ?k7 ?_; (case k1 => k_asm); (case k2 => k_asm); (case k3 => k_inst); (case k4 => k_is); (case k5 => k_is); (case k6 => k_is); (case k7 => k_get); k_whole)
  all_goals exact h
theorem me_mul {pl : Sem Bool} {Q : Value × List Value → Shared → Prop} (KI : Kind x sz) (F : Fr h₀ L s.heap m) (X₀ : (hd.heap_1 w.params).In h₀)
    (h : Q (.ref 98, [.ref x]) s) : wpAny (model prog w) A (getMethod (.ref x) (Str.ofString "mul") pl) Q E s := by
  cases KI
  all_goals k_dflt (refine' method_inst ?k1 ?k2 ?k3 ?k4 ?k5 ?k6 ?k7 ?_; (case k1 => k_asm); (case k2 => k_asm); (case k3 => k_inst); (case k4 => k_is); (case k5 => k_is); (case k6 => k_is); (case k7 => k_get); k_whole)
  all_goals exact h
theorem me_div {pl : Sem Bool} {Q : Value × List Value → Shared → Prop} (KI : Kind x sz) (F : Fr h₀ L s.heap m) (X₀ : (hd.heap_1 w.params).In h₀)
    (h : Q (.ref 105, [.ref x]) s) : wpAny (model prog w) A (getMethod (.ref x) (Str.ofString "div") pl) Q E s := by
  cases KI
  all_goals k_dflt (refine' method_inst ?k1 ?k2 ?k3 ?k4 ?k5 ?k6 ?k7 ?_; (case k1 => k_asm); (case k2 => k_asm); (case k3 => k_inst); (case k4 => k_is); (case k5 => k_is); (case k6 => k_is); (case k7 => k_get); k_whole)
  all_goals exact h
theorem me_rem {pl : Sem Bool} {Q : Value × List Value → Shared → Prop} (KI : Kind x sz) (F : Fr h₀ L s.heap m) (X₀ : (hd.heap_1 w.params).In h₀)
    (h : Q (.ref 112, [.ref x]) s) : wpAny (model prog w) A (getMethod (.ref x) (Str.ofString "rem") pl) Q E s := by
  cases KI
  all_goals k_dflt (refine' method_inst ?k1 ?k2 ?k3 ?k4 ?k5 ?k6 ?k7 ?_; (case k1 => k_asm); (case k2 => k_asm); (case k3 => k_inst); (case k4 => k_is); (case k5 => k_is); (case k6 => k_is); (case k7 => k_get); k_whole)
  all_goals exact h
theorem me_shl {pl : Sem Bool} {Q : Value × List Value → Shared → Prop} (KI : Kind x sz) (F : Fr h₀ L s.heap m) (X₀ : (hd.heap_1 w.params).In h₀)
    (h : Q (.ref 119, [.ref x]) s) : wpAny (model prog w) A (getMethod (.ref x) (Str.ofString "shl") pl) Q E s := by
  cases KI
  all_goals k_dflt (refine' method_inst ?k1 ?k2 ?k3 ?k4 ?k5 ?k6 ?k7 ?_; (case k1 => k_asm); (case k2 => k_asm); (case k3 => k_inst); (case k4 => k_is); (case k5 => k_is); (case k6 => k_is); (case k7 => k_get); k_whole)
  all_goals exact h
theorem me_shr {pl : Sem Bool} {Q : Value × List Value → Shared → Prop} (KI : Kind x sz) (F : Fr h₀ L s.heap m) (X₀ : (hd.heap_1 w.params).In h₀)
    (h : Q (.ref 126, [.ref x]) s) : wpAny (model prog w) A (getMethod (.ref x) (Str.ofString "shr") pl) Q E s := by
  cases KI
  all_goals k_dflt (refine' method_inst ?k1 ?k2 ?k3 ?k4 ?k5 ?k6 ?k7 ?_; (case k1 => k_asm); (case k2 => k_asm); (case k3 => k_inst); (case k4 => k_is); (case k5 => k_is); (case k6 => k_is); (case k7 => k_get); k_whole)
  all_goals exact h
theorem me_rotl {pl : Sem Bool} {Q : Value × List Value → Shared → Prop} (KI : Kind x sz) (F : Fr h₀ L s.heap m) (X₀ : (hd.heap_1 w.params).In h₀)
    (h : Q (.ref 133, [.ref x]) s) : wpAny (model prog w) A (getMethod (.ref x) (Str.ofString "rotl") pl) Q E s := by
  cases KI
  all_goals k_dflt (refine' method_inst ?k1 ?k2 ?k3 ?k4 ?k5 ?k6 ?k7 ?_; (case k1 => k_asm); (case k2 => k_asm); (case k3 => k_inst); (case k4 => k_is); (case k5 => k_is); (case k6 => k_is); (case k7 => k_get); k_whole)
  all_goals exact h
theorem me_rotr {pl : Sem Bool} {Q : Value × List Value → Shared → Prop} (KI : Kind x sz) (F : Fr h₀ L s.heap m) (X₀ : (hd.heap_1 w.params).In h₀)
    (h : Q (.ref 140, [.ref x]) s) : wpAny (model prog w) A (getMethod (.ref x) (Str.ofString "rotr") pl) Q E s := by
  cases KI
  all_goals k_dflt (refine' method_inst ?k1 ?k2 ?k3 ?k4 ?k5 ?k6 ?k7 ?_; (case k1 => k_asm); (case k2 => k_asm); (case k3 => k_inst); (case k4 => k_is); (case k5 => k_is); (case k6 => k_is); (case k7 => k_get); k_whole)
  all_goals exact h
theorem me_clz {pl : Sem Bool} {Q : Value × List Value → Shared → Prop} (KI : Kind x sz) (F : Fr h₀ L s.heap m) (X₀ : (hd.heap_1 w.params).In h₀)
    (h : Q (.ref 147, [.ref x]) s) : wpAny (model prog w) A (getMethod (.ref x) (Str.ofString "clz") pl) Q E s := by
  cases KI
  all_goals k_dflt (refine' method_inst ?k1 ?k2 ?k3 ?k4 ?k5 ?k6 ?k7 ?_; (case k1 => k_asm); (case k2 => k_asm); (case k3 => k_inst); (case k4 => k_is); (case k5 => k_is); (case k6 => k_is); (case k7 => k_get); k_whole)
  all_goals exact h
theorem me_ctz {pl : Sem Bool} {Q : Value × List Value → Shared → Prop} (KI : Kind x sz) (F : Fr h₀ L s.heap m) (X₀ : (hd.heap_1 w.params).In h₀)
    (h : Q (.ref 154, [.ref x]) s) : wpAny (model prog w) A (getMethod (.ref x) (Str.ofString "ctz") pl) Q E s := by
  cases KI
  all_goals k_dflt (refine' method_inst ?k1 ?k2 ?k3 ?k4 ?k5 ?k6 ?k7 ?_; (case k1 => k_asm); (case k2 => k_asm); (case k3 => k_inst); (case k4 => k_is); (case k5 => k_is); (case k6 => k_is); (case k7 => k_get); k_whole)
  all_goals exact h
end
end
section
set_option maxRecDepth 100000
namespace FB
theorem mro : mroOf (.type "bytearray") = pure [.type "bytearray", .type "object"] := by rw [mroOf_type]; kernel_rfl
theorem lookup_new : typeLookup (.type "bytearray") "__new__" = pure (some (.builtin "bytearray.__new__")) := by rw [typeLookup_type, builtinLookup_eq_fast]; kernel_rfl
theorem slot_init : Slot "bytearray" "__init__" "bytearray.__init__" :=
  .of (owner := "bytearray") (n := "__init__") (by rw [typeLookup_type, builtinLookup_eq_fast]; kernel_rfl) (by decide +kernel) (by decide +kernel) (by decide +kernel)
    (by first | exact .inl (by decide +kernel) | exact .inr (by decide +kernel)) (by rw [isSubtype_type]; kernel_rfl)
theorem called : TypeCalled "bytearray" "bytearray.__new__" "bytearray.__init__" :=
  ⟨by decide +kernel, by decide +kernel, ⟨_, _, mro⟩, madeBy_type mro lookup_new (by decide +kernel), by decide +kernel, by rw [isSubtype_type]; kernel_rfl, slot_init⟩
theorem typeCall (a : Value) : checkTypeCall "bytearray" ⟨[a], []⟩ = pure () := by kernel_rfl
theorem newCall (a : Value) : checkBuiltinCall "bytearray.__new__" ⟨[.type "bytearray", a], []⟩ = pure () := by kernel_rfl
theorem entry_new : entryFor table "bytearray.__new__" = some Builtin.«list.__new__» := entryFor_alias (id' := "list.__new__") (by kernel_rfl) (by first | rfl | decide +kernel) (by decide +kernel) (by kernel_rfl)
theorem entry_init : entryFor table "bytearray.__init__" = some Builtin.«bytearray.__init__» := entryFor_of_tree (by kernel_rfl)
theorem plain_new : plainId "bytearray.__new__" = true := by decide +kernel
theorem sub_self : isSubtype (.type "bytearray") (.type "bytearray") = pure true := by rw [isSubtype_type]; kernel_rfl
set_option maxRecDepth 1000000 in
set_option maxHeartbeats 4000000 in
theorem owner_new : ("bytearray.__new__".splitOn ".__new__").headD "" = "bytearray" := by simp +decide [String.splitOn, String.splitOnAux]
theorem plain_init : plainId "bytearray.__init__" = true := by decide +kernel
theorem bind_init (v : Value) : Builtin.Bytes.bindOptional "bytearray.__init__" "bytearray" ["source", "encoding", "errors"] [v] [] = pure [some v, none, none] := by kernel_rfl
theorem noIndex : typeLookup (.type "bytes") "__index__" = pure none := by rw [typeLookup_type, builtinLookup_eq_fast]; kernel_rfl
theorem buffer_bytes : typeLookup (.type "bytes") "__buffer__" = pure (some (.builtin "bytes.__buffer__")) := by rw [typeLookup_type, builtinLookup_eq_fast]; kernel_rfl
theorem release_bytes : typeLookup (.type "bytes") "__release_buffer__" = pure none := by rw [typeLookup_type, builtinLookup_eq_fast]; kernel_rfl
theorem release_ba : typeLookup (.type "bytearray") "__release_buffer__" = pure (some (.builtin "bytearray.__release_buffer__")) := by rw [typeLookup_type, builtinLookup_eq_fast]; kernel_rfl
theorem args_init (a b : Value) : argsOk "bytearray.__init__" ⟨[a, b], []⟩ := by unfold argsOk; kernel_rfl
end FB
section
variable {prog : Program} {w : World} {A : Around} {E : Value → Shared → Prop} {s : Shared}
theorem code_ba_new (a : Value) {Q₁ : Value → Shared → Prop}
    (h : Q₁ (.ref s.heap.objs.size) { s with heap := s.heap.push { cls := .type "bytearray", data := .bytearray #[] } }) :
    codeAny (model prog w) A (.call (.builtin "bytearray.__new__") ⟨[.type "bytearray", a], []⟩) (wants Q₁ E) s := by
  refine codeAny_of_tree ?_
  show wpAny _ A.in1 (do checkBuiltinCall "bytearray.__new__" ⟨[.type "bytearray", a], []⟩; again (.builtin "bytearray.__new__" ⟨[.type "bytearray", a], []⟩)) _ _ s
  refine wpAny_bind (wpAny_of_eq (FB.newCall a) (wpAny_pure ⟨plainId_quiet FB.plain_new _, codeAny_builtin_stack FB.entry_new rfl fun p st => ?_⟩))
  rw [Around.under_plainId FB.plain_new _]
  have hsub := FB.sub_self
  have hown := FB.owner_new
  obtain ⟨hp, g, d, tk, os⟩ := s
  simp only [hown]
  wp_walk
  exact h
theorem codeC_builtin {id : String} {args : Args} {b : Builtin} {R : Result → Shared → Prop} (hb : entryFor table id = some b)
    (h : wpC (model prog w) (A.under (.builtin id args)) (b args) (fun fin s' => match fin with | .done f => R (.ok f) s' | .again c' => c'.quiet = true ∧ cleanC c' = true ∧ codeC (model prog w) A c' R s')
      (fun e s' => R (.error e) s') s) : codeC (model prog w) A (.builtin id args) R s := by
  refine codeC_of_tree ?_
  have hden : (model prog w).den (.builtin id args) = b args := by
    show (match entryFor table id with | some b => b args | none => unsupported ((withoutEnding? id "#data").getD id)) = _
    rw [hb]
  rw [hden]; exact h
theorem wpC_if_false {α : Type} {M : Model} {c : Bool} {a b : Sem α} {Q : α → Shared → Prop} (hc : c = false) (h : wpC M A b Q E s) : wpC M A (if c = true then a else b) Q E s := by
  subst hc; exact h
theorem wpC_if_true {α : Type} {M : Model} {c : Bool} {a b : Sem α} {Q : α → Shared → Prop} (hc : c = true) (h : wpC M A a Q E s) : wpC M A (if c = true then a else b) Q E s := by
  subst hc; exact h

def baObj (b : Array UInt8) : Obj := { cls := .type "bytearray", data := .bytearray b }
theorem own_release_ba {a : Addr} {Q : Bool → Shared → Prop} (hT : s.TypeIs (.ref a) "bytearray") (h : Q false s) : wpAny (model prog w) A (Builtin.Bytes.ownRelease (.ref a)) Q E s := by
  unfold Builtin.Bytes.ownRelease Builtin.Bytes.slotIsOwn
  refine wpAny_bind (wpAny_bind (wpAny_specialOf hT FB.release_ba ?_))
  dsimp only
  refine KFB.if_not (by decide +kernel) ?_
  rw [show ("bytearray.__release_buffer__".dropRight ("__release_buffer__".length + 1)) = "bytearray" by decide +kernel]
  exact wpAny_isInstance hT FB.sub_self (wpAny_pure h)
theorem own_release_bytes {b : Array UInt8} {t : Tok} {Q : Bool → Shared → Prop} (h : Q false s) : wpAny (model prog w) A (Builtin.Bytes.ownRelease (.bytes b t)) Q E s := by
  unfold Builtin.Bytes.ownRelease Builtin.Bytes.slotIsOwn
  refine wpAny_bind (wpAny_bind (wpAny_specialOf (PySem.W.typeIs_bytes _ _ _) FB.release_bytes ?_))
  exact wpAny_pure (wpAny_pure h)
theorem buffer_of_bytes {id : String} {full : Bool} {b : Array UInt8} {t : Tok} {Q : Option (Array UInt8) → Shared → Prop} (h : Q (some b) s) : wpAny (model prog w) A (Builtin.Bytes.buffer? id (.bytes b t) full) Q E s := by
  unfold Builtin.Bytes.buffer?
  refine wpAny_bind (wpAny_specialOf (PySem.W.typeIs_bytes _ _ _) FB.buffer_bytes ?_)
  dsimp only
  refine wpAny_bind ?_
  unfold Builtin.Bytes.slotIsOwn
  refine wpAny_bind (wpAny_specialOf (PySem.W.typeIs_bytes _ _ _) FB.buffer_bytes ?_)
  dsimp only
  refine KFB.if_not (by decide +kernel) ?_
  rw [show ("bytes.__buffer__".dropRight ("__buffer__".length + 1)) = "bytes" by decide +kernel]
  refine wpAny_isInstance (PySem.W.typeIs_bytes _ _ _) F.bm_sub ?_
  refine KFB.if_not rfl ?_
  refine wpAny_bind (wpAny_specialOf (PySem.W.typeIs_bytes _ _ _) FB.buffer_bytes ?_)
  refine wpAny_bind (own_release_bytes ?_)
  refine KFB.if_not rfl ?_
  exact wpAny_bind (wpAny_bind (wpAny_pure (wpAny_pure (wpAny_pure h))))
theorem write_ba {a : Addr} {b : Array UInt8} {f : Array UInt8 → Array UInt8} {Q : Unit → Shared → Prop} (ho : s.heap.get? a = some (baObj b)) (hz : (f b).size ≤ sizeLine)
    (h : ∀ h', h'.get? a = some (baObj (f b)) → Heap.SameBut a s.heap h' → Q () { s with heap := h' }) : wpAny (model prog w) A (Builtin.Bytes.write (.ref a) f) Q E s := by
  unfold Builtin.Bytes.write
  show wpAny _ _ (updateBytearray a f) _ _ _
  unfold updateBytearray
  refine wpAny_bind (wpAny_load ho ?_)
  show wpAny _ _ (update a (Obj.mapBytearray f) >>= fun _ => lookBehind a) _ _ _
  refine wpAny_bind (wpAny_update ho ?_)
  have h2 : (s.heap.update a (Obj.mapBytearray f)).get? a = some (baObj (f b)) := Heap.get?_update_self (Obj.mapBytearray f) ho rfl
  refine wpAny_lookBehind h2 ?_ (h _ h2 (Heap.SameBut.update ..))
  show (if (f b).size > sizeLine then some "bytearray:memory" else none) = none
  rw [if_neg (Nat.not_lt.mpr hz)]
theorem init_ba {a : Addr} {b : Array UInt8} {t : Tok} {Q : Fin → Shared → Prop} (ho : s.heap.get? a = some (baObj #[])) (hz : b.size ≤ sizeLine)
    (h : ∀ h', h'.get? a = some (baObj b) → Heap.SameBut a s.heap h' → Q (.done (.ret .none)) { s with heap := h' }) :
    wpC (model prog w) A (Builtin.«bytearray.__init__» ⟨[.ref a, .bytes b t], []⟩) Q E s := by
  have hT : s.TypeIs (.ref a) "bytearray" := ⟨_, ho, rfl⟩
  unfold Builtin.«bytearray.__init__»
  dsimp only
  refine wpC_first (own_release_ba hT ?_)
  refine wpC_if_false rfl ?_
  refine wpC_first (wpAny_of_eq (FB.bind_init _) ?_)
  dsimp only
  refine wpC_first (wpAny_of_eq (a := ()) rfl ?_)
  refine wpC_first (wpAny_of_eq (a := ()) rfl ?_)
  refine wpC_bind (wpC_bind (exported_clean ?_))
  show wpC _ _ (Builtin.Bytes.exportsOf (.ref a) >>= fun n => pure (decide (n > 0))) _ _ _
  have hx : ∀ (Q' : Nat → Shared → Prop), Q' 0 s → wpAny (model prog w) A (Builtin.Bytes.exportsOf (.ref a)) Q' E s := fun Q' h' => by
    unfold Builtin.Bytes.exportsOf
    exact wpAny_bind (wpAny_load ho (wpAny_pure h'))
  refine wpC_first (hx _ (wpC_pure (wpC_if_false rfl (wpC_any ?_))))
  refine wpAny_bind (write_ba ho (Nat.zero_le _) fun h1 g1 sb1 => ?_)
  refine wpAny_bind (wpAny_of_eq (a := none) rfl ?_)
  refine KFB.if_not rfl ?_
  refine wpAny_bind (wpAny_of_eq (a := ()) rfl ?_)
  refine wpAny_bind (wpAny_specialOf (PySem.W.typeIs_bytes _ _ _) FB.noIndex ?_)
  refine KFB.if_not rfl ?_
  refine wpAny_bind (buffer_of_bytes ?_)
  refine wpAny_bind (wpAny_rule ?_)
  refine wpAny_bind (write_ba (f := fun _ => b) g1 hz fun h2 g2 sb2 => ?_)
  exact wpAny_pure (h h2 g2 (sb1.trans sb2))
theorem call_ba {b : Array UInt8} {t : Tok} {Q : Value → Shared → Prop} (hz : b.size ≤ sizeLine)
    (h : ∀ h', s.heap.StaysIn h' → h'.get? s.heap.objs.size = some (baObj b) → Q (.ref s.heap.objs.size) { s with heap := h' }) : wpC (model prog w) A (call (.type "bytearray") [.bytes b t]) Q E s := by
  refine wpC_call (codeC_of_tree ?_)
  show wpC _ _ (callAny (.type "bytearray") _) _ _ _
  refine wpC_pure ⟨Code.quiet_builtin _ (by decide +kernel), rfl, codeC_builtin F.entry_type_call ?_⟩
  rw [Around.under_plain (weight_type_call_type "bytearray" _ []) rfl]
  unfold Builtin.«type.__call__»
  dsimp only
  refine wpC_if_false (by decide +kernel) ?_
  refine wpC_if_false FB.called.canCreate ?_
  refine wpC_first (wpAny_of_eq (FB.typeCall _) ?_)
  refine wpC_first (wpAny_of_eq FB.mro ?_)
  refine wpC_if_false rfl ?_
  refine wpC_first (wpAny_of_eq FB.called.made ?_)
  dsimp only
  refine wpC_first (wpAny_pure ?_)
  refine wpC_first (wpAny_holding (wpAny_call (code_ba_new (.bytes b t) ?_)))
  have ho : (s.heap.push { cls := .type "bytearray", data := .bytearray #[] }).get? s.heap.objs.size = some (baObj #[]) := Heap.get?_push_size _ rfl
  have hT : ({ s with heap := s.heap.push { cls := .type "bytearray", data := .bytearray #[] } } : Shared).TypeIs (.ref s.heap.objs.size) "bytearray" := ⟨_, ho, rfl⟩
  refine wpC_first (wpAny_isInstance hT FB.sub_self ?_)
  refine wpC_if_false rfl ?_
  refine wpC_bind (wpC_holding ?_)
  unfold callSpecial?
  refine wpC_first (wpAny_specialOf hT FB.slot_init.lookup ?_)
  dsimp only
  refine wpC_holding ?_
  refine wpC_first (wpAny_of_eq (FB.slot_init.bind _) ?_)
  dsimp only
  refine wpC_bind (wpC_call (codeC_of_tree ?_))
  show wpC _ _ (do checkBuiltinCall "bytearray.__init__" ⟨[.ref s.heap.objs.size, .bytes b t], []⟩; again (.builtin "bytearray.__init__" ⟨[.ref s.heap.objs.size, .bytes b t], []⟩)) _ _ _
  refine wpC_first (FB.slot_init.check _ _ _ _ _ _ _ _ hT (FB.args_init _ _) ?_)
  refine wpC_pure ⟨plainId_quiet FB.plain_init _, rfl, codeC_builtin FB.entry_init ?_⟩
  refine init_ba ho hz fun h' g sb => ?_
  refine wpC_pure ?_
  dsimp only
  refine wpC_if_false rfl ?_
  refine wpC_pure (h h' (fun c o e => ?_) g)
  exact sb.extBut c o (Nat.ne_of_lt (Heap.lt_size e)) (Heap.get?_push_of_some _ e)
end
end
section
set_option maxRecDepth 100000
namespace FB
theorem slot_len : Slot "bytearray" "__len__" "bytearray.__len__" :=
  .of (owner := "bytearray") (n := "__len__") (by rw [typeLookup_type, builtinLookup_eq_fast]; kernel_rfl) (by decide +kernel) (by decide +kernel) (by decide +kernel)
    (by first | exact .inl (by decide +kernel) | exact .inr (by decide +kernel)) (by rw [isSubtype_type]; kernel_rfl)
theorem entry_len : entryFor table "bytearray.__len__" = some Builtin.«bytearray.__len__» := entryFor_of_tree (by kernel_rfl)
theorem args_len (a : Value) : argsOk "bytearray.__len__" ⟨[a], []⟩ := by unfold argsOk; kernel_rfl
theorem slot_iter : Slot "bytearray" "__iter__" "bytearray.__iter__" :=
  .of (owner := "bytearray") (n := "__iter__") (by rw [typeLookup_type, builtinLookup_eq_fast]; kernel_rfl) (by decide +kernel) (by decide +kernel) (by decide +kernel)
    (by first | exact .inl (by decide +kernel) | exact .inr (by decide +kernel)) (by rw [isSubtype_type]; kernel_rfl)
theorem entry_iter : entryFor table "bytearray.__iter__" = some Builtin.«bytearray.__iter__» := entryFor_of_tree (by kernel_rfl)
theorem args_iter (a : Value) : argsOk "bytearray.__iter__" ⟨[a], []⟩ := by unfold argsOk; kernel_rfl
theorem slot_next : Slot "bytearray_iterator" "__next__" "bytearray_iterator.__next__" :=
  .of (owner := "bytearray_iterator") (n := "__next__") (by rw [typeLookup_type, builtinLookup_eq_fast]; kernel_rfl) (by decide +kernel) (by decide +kernel) (by decide +kernel)
    (by first | exact .inl (by decide +kernel) | exact .inr (by decide +kernel)) (by rw [isSubtype_type]; kernel_rfl)
theorem entry_next : entryFor table "bytearray_iterator.__next__" = some Builtin.«bytearray_iterator.__next__» := entryFor_of_tree (by kernel_rfl)
theorem args_next (a : Value) : argsOk "bytearray_iterator.__next__" ⟨[a], []⟩ := by unfold argsOk; kernel_rfl
theorem slot_self : Slot "bytearray_iterator" "__iter__" "bytearray_iterator.__iter__" :=
  .of (owner := "bytearray_iterator") (n := "__iter__") (by rw [typeLookup_type, builtinLookup_eq_fast]; kernel_rfl) (by decide +kernel) (by decide +kernel) (by decide +kernel)
    (by first | exact .inl (by decide +kernel) | exact .inr (by decide +kernel)) (by rw [isSubtype_type]; kernel_rfl)
theorem entry_self : entryFor table "bytearray_iterator.__iter__" = some Builtin.«dict_keyiterator.__iter__» := entryFor_alias (id' := "dict_keyiterator.__iter__") (by kernel_rfl) rfl (by decide +kernel) (by kernel_rfl)
theorem args_self (a : Value) : argsOk "bytearray_iterator.__iter__" ⟨[a], []⟩ := by unfold argsOk; kernel_rfl
theorem no_bytes : typeLookup (.type "bytearray") "__bytes__" = pure none := by rw [typeLookup_type, builtinLookup_eq_fast]; kernel_rfl
theorem buffer_ba : typeLookup (.type "bytearray") "__buffer__" = pure (some (.builtin "bytearray.__buffer__")) := by rw [typeLookup_type, builtinLookup_eq_fast]; kernel_rfl
end FB
section
variable {prog : Program} {w : World} {A : Around} {E : Value → Shared → Prop} {s : Shared}
theorem payload_ba {a : Addr} {b : Array UInt8} {Q : Array UInt8 → Shared → Prop} (ho : s.heap.get? a = some (baObj b)) (h : Q b s) : wpAny (model prog w) A (Builtin.Bytes.payload (.ref a)) Q E s := by
  unfold Builtin.Bytes.payload Builtin.Bytes.payload?
  exact wpAny_bind (wpAny_bind (wpAny_load ho (wpAny_pure (wpAny_pure h))))
theorem len_ba {a : Addr} {b : Array UInt8} {Q : Value → Shared → Prop} (ho : s.heap.get? a = some (baObj b)) (hz : b.size ≤ sizeLine)
    (h : Q (.int (b.size : Int) (s.toks + 1)) { s with toks := s.toks + 1 + 1 }) : wpAny (model prog w) A (call (.builtin "len") [.ref a]) Q E s := by
  have hT : s.TypeIs (.ref a) "bytearray" := ⟨_, ho, rfl⟩
  have hz' := hz
  rw [sizeLine_eq] at hz'
  refine PyProof.Rows.call_len_slot (n := (b.size : Int)) hT FB.slot_len (fun Q' hq => ?_) (by omega) (by omega) h
  refine wpAny_call_entry FB.slot_len hT FB.entry_len ?_ (FB.args_len _)
  show wpAny _ _ (do retInt (← Builtin.Bytes.payload (.ref a)).size) _ _ _
  exact wpAny_bind (payload_ba ho (wpAny_bind (wpAny_mkInt (wpAny_pure ⟨_, rfl, hq⟩))))
theorem hint_ba {a : Addr} {b : Array UInt8} {Q : Bool → Shared → Prop} (ho : s.heap.get? a = some (baObj b)) (h : Q false s) : wpAny (model prog w) A (Builtin.List.listLengthHint (.ref a)) Q E s := by
  have hT : s.TypeIs (.ref a) "bytearray" := ⟨_, ho, rfl⟩
  unfold Builtin.List.listLengthHint
  refine wpAny_bind (wpAny_specialOf hT FB.slot_len.lookup ?_)
  dsimp only
  rw [show splitId "bytearray.__len__" = some ("bytearray", "__len__") by decide +kernel]
  dsimp only
  refine wpAny_bind (wpAny_isInstance hT FB.sub_self ?_)
  refine KFB.if_not rfl ?_
  refine KFB.if_so (by decide +kernel) ?_
  exact wpAny_bind (wpAny_typeOf hT (wpAny_pure h))
def IsBaIter (h : Heap) (I a : Addr) (i : Nat) : Prop := ∃ o, h.get? I = some o ∧ o.cls = .type "bytearray_iterator" ∧ o.data = .fields #[.ref a, .int i 0]
theorem iter_typeIs {I a : Addr} {i : Nat} (y : IsBaIter s.heap I a i) : s.TypeIs (.ref I) "bytearray_iterator" := let ⟨o, ho, hc, _⟩ := y; ⟨o, ho, hc⟩
theorem pyIter_ba {a : Addr} {b : Array UInt8} {Q : Value → Shared → Prop} (ho : s.heap.get? a = some (baObj b))
    (hQ : Q (.ref s.heap.objs.size) { s with heap := s.heap.push { cls := .type "bytearray_iterator", data := .fields #[.ref a, .int 0 0] } }) : wpAny (model prog w) A (pyIter (.ref a)) Q E s := by
  have hT : s.TypeIs (.ref a) "bytearray" := ⟨_, ho, rfl⟩
  refine wpAny_pyIter_slot hT FB.slot_iter (wpAny_call_entry FB.slot_iter hT FB.entry_iter ?_ (FB.args_iter _))
  show wpAny _ _ (do ret (← newFields "bytearray_iterator" [.ref a, rawInt 0])) _ _ s
  exact wpAny_bind (wpAny_newObj_type (wpAny_pure ⟨_, rfl, "bytearray_iterator", _, ⟨_, Heap.get?_push_size _ rfl, rfl⟩, FB.slot_next.lookup, hQ⟩))
theorem pyIter_self {I a : Addr} {i : Nat} {Q : Value → Shared → Prop} (hit : IsBaIter s.heap I a i) (h : Q (.ref I) s) : wpAny (model prog w) A (pyIter (.ref I)) Q E s := by
  refine wpAny_pyIter_slot (iter_typeIs hit) FB.slot_self (wpAny_call_entry FB.slot_self (iter_typeIs hit) FB.entry_self ?_ (FB.args_self _))
  show wpAny _ _ (ret (.ref I)) _ _ s
  exact wpAny_pure ⟨_, rfl, "bytearray_iterator", _, iter_typeIs hit, FB.slot_next.lookup, h⟩
theorem next_item {I a : Addr} {i : Nat} {b : Array UInt8} {c : UInt8} {Q : Option Value → Shared → Prop} (hit : IsBaIter s.heap I a i) (hb : s.heap.get? a = some (baObj b)) (hx : b[i]? = some c)
    (hQ : ∀ h', IsBaIter h' I a (i + 1) → Heap.SameBut I s.heap h' → Q (some (.int (c.toNat : Int) s.toks)) { s with heap := h', toks := s.toks + 1 }) : wpAny (model prog w) A (pyNext (.ref I)) Q E s := by
  obtain ⟨o, ho, hc, hd⟩ := id hit
  unfold pyNext
  refine wpAny_bind (wpAny_attempt (wpAny_callSpecial?_slot (name := PySem.Str.ofString "__next__") (iter_typeIs hit) FB.slot_next
    (wpAny_call_entry FB.slot_next (iter_typeIs hit) FB.entry_next ?_ (FB.args_next _))))
  show wpAny _ _ (field (.ref I) 0 >>= _) _ _ s
  refine wpAny_bind (wpAny_field ho hd (x := .ref a) rfl ?_)
  refine wpAny_bind (wpAny_load hb ?_)
  show wpAny _ _ (field (.ref I) 1 >>= _) _ _ s
  refine wpAny_bind (wpAny_field ho hd (x := .int i 0) rfl ?_)
  simp only [Int.toNat_natCast, hx]
  refine wpAny_bind (wpAny_setField ho hd (by simp) (wpAny_bind (wpAny_mkInt (wpAny_pure ⟨_, rfl, wpAny_pure (hQ _ ?_ (Heap.SameBut.update ..))⟩))))
  exact ⟨_, Heap.get?_update_self _ ho (Obj.isFreed_of_fields (Obj.data_mapFields hd _)), (Obj.cls_mapFields ..).trans hc, by
    rw [Obj.data_mapFields hd]; simp [rawInt]⟩
theorem next_end {I a : Addr} {i : Nat} {b : Array UInt8} {Q : Option Value → Shared → Prop} (hh : A.handled = none) (hit : IsBaIter s.heap I a i) (hb : s.heap.get? a = some (baObj b)) (hx : b[i]? = none)
    (hQ : ∀ h', Heap.ExtBut I s.heap h' → Q none { s with heap := h' }) : wpAny (model prog w) A (pyNext (.ref I)) Q E s := by
  obtain ⟨o, ho, hc, hd⟩ := id hit
  unfold pyNext
  refine wpAny_bind (wpAny_attempt (wpAny_callSpecial?_slot (name := PySem.Str.ofString "__next__") (iter_typeIs hit) FB.slot_next
    (wpAny_call_entry FB.slot_next (iter_typeIs hit) FB.entry_next ?_ (FB.args_next _))))
  show wpAny _ _ (field (.ref I) 0 >>= _) _ _ s
  refine wpAny_bind (wpAny_field ho hd (x := .ref a) rfl ?_)
  refine wpAny_bind (wpAny_load hb ?_)
  show wpAny _ _ (field (.ref I) 1 >>= _) _ _ s
  refine wpAny_bind (wpAny_field ho hd (x := .int i 0) rfl ?_)
  simp only [Int.toNat_natCast, hx]
  refine wpAny_bind (wpAny_rule (wpAny_bind (wpAny_setField ho hd (by simp) (wpAny_bind (wpAny_letGo ?_)))))
  show wpAny _ _ (newExc (.type "StopIteration") [] >>= _) _ _ _
  refine wpAny_bind ?_
  simp only [newExc, newTuple]
  refine wpAny_bind (wpAny_newObj_type ?_ (by size_fits))
  refine wpAny_bind (m := firstArgMember _ _) (wpAny_of_eq (a := Value.none) (by first | rfl | (simp only [firstArgMember]; rfl)) ?_)
  refine wpAny_newObj_type ?_ (by size_fits)
  simp only [raiseNew]
  refine wpAny_bind (wpAny_handled ?_)
  rw [show A.in1.handled = none from hh]
  refine wpAny_bind (wpAny_pure (wpAny_throw ?_))
  refine wpAny_bind (wpAny_isInstance (T := "StopIteration") (b := true) ⟨_, Heap.get?_push_size _ rfl, rfl⟩ isSubtype_stop ?_)
  exact wpAny_pure (hQ _ (((Heap.SameBut.update ..).extBut.push _).push _))
end
theorem intsAre_of : ∀ {vs : List Value} {ns : List Int}, vs.length = ns.length → (∀ (i : Nat) (v : Value), vs[i]? = some v → ∃ n t, ns[i]? = some n ∧ v = Value.int n t) → IntsAre vs ns
  | [], [], _, _ => .nil
  | v :: vs, n :: ns, hl, h => by
    obtain ⟨n', t, e, rfl⟩ := h 0 v rfl
    cases e
    exact .cons _ _ (intsAre_of (by simpa using hl) fun i v hv => h (i + 1) v (by simpa using hv))
  | [], _ :: _, hl, _ => by simp at hl
  | _ :: _, [], hl, _ => by simp at hl
theorem walks_ba {prog : Program} {w : World} {A : Around} (hh : A.handled = none) (I a : Addr) (hne : a ≠ I) (b : Array UInt8) :
    Walks prog w A I [I, a] [I] b.size (fun i v => ∃ c u, b[i]? = some c ∧ v = .int (c.toNat : Int) u) (fun i h => IsBaIter h I a i ∧ h.get? a = some (baObj b)) where
  sub := fun _ hb => List.mem_cons.mpr (.inl (List.mem_singleton.mp hb))
  frame := fun _ _ _ st hk => let ⟨⟨o, ho, r⟩, hb⟩ := st; ⟨⟨o, hk I (by simp) o ho, r⟩, hk a (by simp) _ hb⟩
  item := fun i s Q E hi st hQ => by
    refine next_item st.1 st.2 (c := b[i]) (by simp [hi]) fun h' hit' hs' => ?_
    exact hQ _ h' (s.toks + 1) ⟨_, _, by simp [hi], rfl⟩ ⟨hit', (hs'.extBut a _ hne st.2)⟩ fun b o hb e => hs'.extBut b o (fun h => hb (by simp [h])) e
  done := fun s Q E st hQ => next_end hh st.1 st.2 (by simp) fun h' he' => hQ h' s.toks fun b o hb e => he' b o (fun h => hb (by simp [h])) e
  self := fun _ _ _ _ st hQ => pyIter_self st.1 hQ
section
variable {prog : Program} {w : World} {A : Around} {E : Value → Shared → Prop} {s : Shared}
theorem extend_ba {R : Result → Shared → Prop} {a : Addr} {b : Array UInt8} (hh : A.handled = none) (hb : s.heap.get? a = some (baObj b)) (hz : b.size ≤ sizeLine) (S : Addr) (res : Value) (c₀ : Nat) (hS : s.heap.get? S = some { cls := .type "list", data := .seq #[] c₀ })
    (hR : ∀ h' tk acc' c', (∀ b o, b ≠ S → s.heap.get? b = some o → h'.get? b = some o) → h'.get? S = some { cls := .type "list", dict := none, data := .seq acc' c', slots := #[] } →
      ItemsOf (fun i v => ∃ c u, b[i]? = some c ∧ v = .int (c.toNat : Int) u) acc' b.size → R (.ok (.ret res)) { s with heap := h', toks := tk }) :
    wpAny (model prog w) A.in1 (Builtin.List.listExtendWith (.ref S) (.ref a) res)
      (fun fin s' => match fin with | .done f => R (.ok f) s' | .again c' => c'.quiet = true ∧ codeAny (model prog w) A c' R s') (fun e s' => R (.error e) s') s := by
  have hSa : S ≠ a := fun e => by rw [e, hb] at hS; simp [baObj] at hS
  have hSlt : S < s.heap.objs.size := Heap.lt_size hS
  have hSI : S ≠ s.heap.objs.size := Nat.ne_of_lt hSlt
  have hSf : S ∉ [s.heap.objs.size, a] := fun hm => by
    rcases List.mem_cons.mp hm with e | hm
    · exact hSI e
    · exact hSa (List.mem_singleton.mp hm)
  have hne : a ≠ s.heap.objs.size := Nat.ne_of_lt (Heap.lt_size hb)
  have W := (walks_ba (prog := prog) (w := w) (A := A.in1) hh s.heap.objs.size a hne b).toS
  unfold Builtin.List.listExtendWith
  refine wpAny_bind (wpAny_typeOf (T := "bytearray") ⟨_, hb, rfl⟩ ?_)
  have h1 : Builtin.List.listSameRef (.ref S) (.ref a) = false := by simp [Builtin.List.listSameRef, hSa]
  have h2 : (Value.type "bytearray" == Value.type "list") = false := by decide
  have h3 : (Value.type "bytearray" == Value.type "tuple") = false := by decide
  simp only [h1, h2, h3, Bool.or_false, Bool.false_eq_true, if_false]
  refine wpAny_bind (pyIter_ba hb ?_)
  have hb₁ := Heap.get?_push_of_some { cls := .type "bytearray_iterator", data := .fields #[.ref a, .int 0 0] } hb
  have hS₁ := Heap.get?_push_of_some { cls := .type "bytearray_iterator", data := .fields #[.ref a, .int 0 0] } hS
  refine wpAny_bind (wpAny_holding (hint_ba hb₁ ?_))
  refine KFB.if_not (by decide +kernel) ?_
  refine wpAny_pure ⟨plainId_quiet F.plain_extend_loop _, ?_⟩
  refine codeAny_extend_loopS W hz S hSf res b.size 0 _ #[] c₀ rfl (Nat.zero_le _) ⟨⟨_, Heap.get?_push_size _ rfl, rfl, rfl⟩, hb₁⟩ hS₁ (ItemsOf.nil _) fun s' acc' c' hm hS' hacc => ?_
  rw [Moved.eq_with hm]
  refine hR s'.heap s'.toks acc' c' (fun d o hd e => hm.heap d o (fun hmem => ?_) (Heap.get?_push_of_some _ e)) hS' hacc
  rcases List.mem_cons.mp hmem with e' | hmem
  · exact hd e'
  · exact absurd (Heap.lt_size e) (by rw [List.mem_singleton.mp hmem]; exact Nat.lt_irrefl _)
/-- list(data) of a bytearray: its octets -/
theorem call_list_ba {a : Addr} {b : Array UInt8} {Q : Value → Shared → Prop} (hh : A.handled = none) (hb : s.heap.get? a = some (baObj b)) (hz : b.size ≤ sizeLine)
    (hQ : ∀ h' tk vs n, s.heap.StaysIn h' → h'.get? s.heap.objs.size = some (listOf vs.toArray n) → IntsAre vs (KBw.bInts b) → Q (.ref s.heap.objs.size) { s with heap := h', toks := tk }) :
    wpAny (model prog w) A (call (.type "list") [.ref a]) Q E s := by
  refine callType_codes (Q₁ := fun obj s₁ => obj = .ref s.heap.objs.size ∧ s₁ = { s with heap := s.heap.push { cls := .type "list", data := .seq #[] } }) F.called_list (F.typeCall_list_1 _) F.entry_list_init
    (code_list_new _ ⟨rfl, rfl⟩) fun obj s₁ h₁ => ?_
  obtain ⟨rfl, rfl⟩ := h₁
  have hS : (s.heap.push { cls := .type "list", data := .seq #[] }).get? s.heap.objs.size = some { cls := .type "list", data := .seq #[] } := Heap.get?_push_size _ rfl
  refine ⟨⟨_, hS, rfl⟩, F.args_list_init_2 _ _, ?_⟩
  show wpAny _ _ (do let old ← Builtin.List.listItems (.ref s.heap.objs.size); Builtin.List.listUpdate (.ref s.heap.objs.size) (fun _ => #[]); letGo old.toList.reverse; Builtin.List.listExtendWith (.ref s.heap.objs.size) (.ref a) .none) _ _ _
  refine wpAny_bind ?_
  unfold Builtin.List.listItems
  refine wpAny_bind (wpAny_seqItems hS rfl (wpAny_pure ?_))
  show wpAny _ _ (updateSeq s.heap.objs.size (fun _ => #[]) >>= fun _ => letGo (#[] : Array Value).toList.reverse >>= fun _ => Builtin.List.listExtendWith (.ref s.heap.objs.size) (.ref a) .none) _ _ _
  refine wpAny_bind (wpAny_updateSeq hS rfl ?_)
  have hS₂ := Heap.get?_update_self (Obj.mapSeq (fun _ => (#[] : Array Value))) hS rfl
  have oth : ∀ d o, d ≠ s.heap.objs.size → s.heap.get? d = some o → ((s.heap.push { cls := .type "list", data := .seq #[] }).update s.heap.objs.size (Obj.mapSeq (fun _ => (#[] : Array Value)))).get? d = some o :=
    fun d o hd e => (Heap.get?_update_other _ _ (Ne.symm hd)).trans (Heap.get?_push_of_some _ e)
  refine wpAny_bind (wpAny_letGo ?_)
  refine extend_ba (A := A.in1) hh (oth a _ (Nat.ne_of_lt (Heap.lt_size hb)) hb) hz _ .none _ hS₂ fun h' tk acc' c' hk hS' hacc => ?_
  refine ⟨rfl, hQ h' tk acc'.toList c' (fun d o e => hk d o (Nat.ne_of_lt (Heap.lt_size e)) (oth d o (Nat.ne_of_lt (Heap.lt_size e)) e)) (by simpa using hS') ?_⟩
  refine intsAre_of (by rw [KBw.ints_length, Array.length_toList]; exact hacc.1) fun i v hv => ?_
  obtain ⟨c, u, hc, rfl⟩ := hacc.2 i v (by simpa using hv)
  exact ⟨_, u, KBw.ints_get hc, rfl⟩

def signedF : List (Str × Value) := [(Str.ofString "signed", .bool false)]
theorem bound_fb {a : Addr} {u : Tok} {Q : List (Option Value) → Shared → Prop} (h : Q [some (.ref a), some (.str (Str.ofString "little") u), some (.bool false)] s) :
    wpAny (model prog w) A (Builtin.Int.intBindNamed "from_bytes" ["bytes", "byteorder", "signed"] 1 2 [.ref a, .str (Str.ofString "little") u] signedF) Q E s :=
  wpAny_of_eq (by kernel_rfl) h
theorem tree_fb {a : Addr} {b : Array UInt8} {u : Tok} {P : Fin → Shared → Prop} (ho : s.heap.get? a = some (baObj b)) (hl : b.size ≤ 8) (h : P (.done (.ret (.int (KFB.value (KBw.bInts b).reverse) s.toks))) { s with toks := s.toks + 1 }) :
    wpAny (model prog w) A (Builtin.«int.from_bytes» ⟨[.type "int", .ref a, .str (Str.ofString "little") u], signedF⟩) P E s := by
  have hv : ((b.toList.reverse.foldl (fun (acc : Nat) (b : UInt8) => acc * 256 + b.toNat) 0 : Nat) : Int) = KFB.value (KBw.bInts b).reverse := by
    rw [KFB.fold_cast, List.map_reverse]
    rfl
  have hn : b.toList.reverse.foldl (fun (acc : Nat) (b : UInt8) => acc * 256 + b.toNat) 0 < 2 ^ 64 := by
    have h1 := KFB.fold_lt b.toList.reverse 0
    rw [Nat.zero_add, Nat.one_mul, List.length_reverse, Array.length_toList] at h1
    have h2 : 256 ^ b.size ≤ 256 ^ 8 := Nat.pow_le_pow_right (by decide) hl
    omega
  unfold Builtin.«int.from_bytes»
  refine wpAny_bind (wpAny_of_eq (a := true) KFB.type_int ?_)
  refine KFB.if_not rfl ?_
  refine wpAny_bind (wpAny_of_eq (a := true) F.conv_sub_int ?_)
  refine KFB.if_not rfl ?_
  refine wpAny_bind (bound_fb ?_)
  refine wpAny_bind (wpAny_of_eq (a := PySem.Str.ofString "little") (by kernel_rfl) ?_)
  refine wpAny_bind (wpAny_of_eq (a := false) rfl ?_)
  refine wpAny_bind (wpAny_of_eq (a := true) (by kernel_rfl) ?_)
  refine wpAny_bind ?_
  have hT : s.TypeIs (.ref a) "bytearray" := ⟨_, ho, rfl⟩
  show wpAny _ _ (specialOf (.ref a) (Str.ofString "__bytes__") >>= _) _ _ _
  refine wpAny_bind (wpAny_specialOf hT FB.no_bytes ?_)
  dsimp only
  refine wpAny_bind (wpAny_bind (wpAny_load ho (wpAny_pure ?_)))
  refine KFB.if_so rfl ?_
  refine wpAny_bind (wpAny_specialOf hT FB.buffer_ba ?_)
  refine wpAny_bind (wpAny_specialOf hT FB.release_ba ?_)
  refine wpAny_bind (wpAny_isInstance hT FB.sub_self ?_)
  refine KFB.if_not rfl ?_
  refine wpAny_bind (wpAny_bind (wpAny_load ho (wpAny_pure ?_)))
  refine wpAny_pure ?_
  show wpAny _ _ (mkIntGrown (b.toList.reverse.foldl (fun (acc : Int) (b : UInt8) => acc * 256 + (b.toNat : Int)) ((0 : Nat) : Int)) >>= fun v => _) _ _ _
  rw [KFB.foldI_eq]
  refine wpAny_bind (KFB.grown hn ?_)
  rw [hv]
  refine KFB.if_so (by decide +kernel) ?_
  exact wpAny_bind (wpAny_pure (wpAny_pure h))
theorem check_fb {a : Addr} {u : Tok} : checkBoundCall "int.from_bytes" ⟨[.type "int", .ref a, .str (Str.ofString "little") u], signedF⟩ = pure () := by first | kernel_rfl | rfl
/-- int.from_bytes(data, 'little', signed=False) of a bytearray -/
theorem call_fb {x a : Addr} {b : Array UInt8} {u : Tok} {Q : Value → Shared → Prop} (hx : KFB.StandsAt x s.heap) (ho : s.heap.get? a = some (baObj b)) (hl : b.size ≤ 8)
    (h : ∀ t k, Q (.int (KFB.value (KBw.bInts b).reverse) t) { s with toks := k }) : wpAny (model prog w) A (call (.ref x) [.ref a, .str (Str.ofString "little") u] signedF) Q E s := by
  refine wpAny_call (codeAny_of_tree ?_)
  show wpAny _ A.in1 (callAny (.ref x) ⟨[.ref a, .str (Str.ofString "little") u], signedF⟩) _ _ s
  simp only [callAny]
  refine wpAny_bind (wpAny_load hx ?_)
  simp only [KFB.bound, show (Value.type "builtin_function_or_method" == Value.type "method" || Value.type "builtin_function_or_method" == Value.type "builtin_function_or_method" || Value.type "builtin_function_or_method" == Value.type "method-wrapper") = true by decide, if_true]
  refine KFB.if_so (by decide) ?_
  refine wpAny_bind (wpAny_of_eq (a := ()) check_fb ?_)
  refine wpAny_bind (wpAny_pure (wpAny_pure ?_))
  exact ⟨KFB.quiet_fb, codeAny_builtin KFB.entry_fb (tree_fb ho hl (h _ _))⟩
theorem callWith_fbK {M : Model} {pos : Pos} {u : Addr} {first : List Value} {args : List (Bool × Sem Value)} {kws : List (Option Str × Sem Value)} {Q : Value → Shared → Prop} (hplain : args.any (·.1) = false) (hkw : kws.any (·.1.isNone) = false)
    (h : wpAny M A (evalArgs (.ref u) true args kws) (fun x s₁ => KFB.StandsAt u s₁.heap ∧ wpAny M A (call (.ref u) (first ++ x.pos) x.kw) Q E s₁) E s) : wpAny M A (callWith pos (.ref u) first args kws) Q E s := by
  unfold callWith
  refine wpAny_bind (wpAny_holding (wpAny_mono h (fun x s₁ h₁ => wpAny_bind (wpAny_standAt ?_)) fun _ _ x => x))
  obtain ⟨ho, hcall⟩ := h₁
  simp only [hplain, hkw, Bool.or_false]
  refine wpAny_bind (m := keeperOf (.ref u)) ?_
  unfold keeperOf
  refine wpAny_bind (wpAny_load ho ?_)
  simp only [KFB.bound, show (Value.type "builtin_function_or_method" != Value.type "method") = true by decide, show (Value.type "builtin_function_or_method" == Value.type "builtin_function_or_method" || Value.type "builtin_function_or_method" == Value.type "method-wrapper") = true by decide, if_true]
  refine wpAny_pure ?_
  exact wpAny_bind (wpAny_mono hcall (fun r s₂ hr => wpAny_bind (wpAny_holding (wpAny_point (wpAny_pure hr)))) fun _ _ x => x)
theorem callWith_fbE {M : Model} {pos : Pos} {u : Addr} {first : List Value} {env : Env} {e : Expr} {rest : List Expr} {kws : List Keyword} {Q : Value → Shared → Prop}
    (h : wpAny M A (spliced (backTo pos (starEach (e :: rest) env))) (fun vs s₁ => wpAny M A (evalAll ((backToKw pos (keywordEach kws env)).map (·.2)))
      (fun kvs s₂ => KFB.StandsAt u s₂.heap ∧ wpAny M A (call (.ref u) (first ++ vs) (((backToKw pos (keywordEach kws env)).filterMap (·.1)).zip kvs)) Q E s₂) E s₁) E s)
    (he : backTo pos (starEach (e :: rest) env) = (false, eval e env) :: backTo pos (starEach rest env) := by rfl)
    (hplain : (backTo pos (starEach (e :: rest) env)).any (·.1) = false := by rfl)
    (hall : (backToKw pos (keywordEach kws env)).all (·.1.isSome) = true := by rfl)
    (hkw : (backToKw pos (keywordEach kws env)).any (·.1.isNone) = false := by rfl) :
    wpAny M A (callWith pos (.ref u) first (backTo pos (starEach (e :: rest) env)) (backToKw pos (keywordEach kws env))) Q E s := by
  refine callWith_fbK hplain hkw ?_
  rw [he] at h ⊢
  exact evalArgs_kw hall h
theorem callWith_kwF {M : Model} {pos : Pos} {id : String} {first : List Value} {env : Env} {e : Expr} {rest : List Expr} {kws : List Keyword} {Q : Value → Shared → Prop}
    (h : wpAny M A (spliced (backTo pos (starEach (e :: rest) env))) (fun vs s₁ => wpAny M A (evalAll ((backToKw pos (keywordEach kws env)).map (·.2)))
      (fun kvs s₂ => wpAny M A (call (.builtin id) (first ++ vs) (((backToKw pos (keywordEach kws env)).filterMap (·.1)).zip kvs)) Q E s₂) E s₁) E s)
    (he : backTo pos (starEach (e :: rest) env) = (false, eval e env) :: backTo pos (starEach rest env) := by rfl)
    (hplain : (backTo pos (starEach (e :: rest) env)).any (·.1) = false := by rfl)
    (hall : (backToKw pos (keywordEach kws env)).all (·.1.isSome) = true := by rfl)
    (hkw : (backToKw pos (keywordEach kws env)).any (·.1.isNone) = false := by rfl) :
    wpAny M A (callWith pos (.builtin id) first (backTo pos (starEach (e :: rest) env)) (backToKw pos (keywordEach kws env))) Q E s := by
  refine callWith_builtin_kwB hplain hkw ?_
  rw [he] at h ⊢
  exact evalArgs_kwB hall h
theorem args_tb (a b c : Value) : argsOk "int.to_bytes" ⟨[a, b, c], signedF⟩ := by unfold argsOk; kernel_rfl
/-- n.to_bytes(k, 'little', signed=False) -/
theorem call_tb {x : Int} {k : Nat} {t u v : Tok} {Q : Value → Shared → Prop} (hk : k ≤ 8) (h0 : 0 ≤ x) (h1 : x < 256 ^ k) (h : ∀ (b : Array UInt8) t' k', KBw.bInts b = KTBy.little k x → Q (.bytes b t') { s with toks := k' }) :
    wpAny (model prog w) A (call (.builtin "int.to_bytes") [.int x t, .int (k : Int) u, .str (Str.ofString "little") v] signedF) Q E s := by
  have hb := KTBy.bits_le (k := k) rfl h0 h1
  refine wpAny_call (codeAny_call_builtin KTBy.slot.plain KTBy.entry (KTBy.slot.check _ _ _ _ _ _ _ _ (typeIs_int s x t) (args_tb _ _ _) ?_))
  show wpAny _ _ (Builtin.Int.intOfSelf (.int x t) >>= fun y => _) _ _ s
  refine wpAny_bind (wpAny_of_eq (a := x) rfl ?_)
  show wpAny _ _ (Builtin.Int.intBindNamed "to_bytes" ["length", "byteorder", "signed"] 0 2 [.int (k : Int) u, .str (PySem.Str.ofString "little") v] signedF >>= fun l => _) _ _ s
  refine wpAny_bind (wpAny_of_eq (a := [some (.int (k : Int) u), some (.str (PySem.Str.ofString "little") v), some (.bool false)]) (by kernel_rfl) ?_)
  show wpAny _ _ (Builtin.Int.intIndex "int.to_bytes" (.int (k : Int) u) >>= fun n => _) _ _ s
  refine wpAny_bind (wpAny_of_eq (a := (k : Int)) rfl ?_)
  refine KTBy.if_not (by show (decide ((k : Int) < -(2 ^ 63 : Int)) || decide ((k : Int) ≥ 2 ^ 63)) = false; rw [decide_eq_false (show ¬ ((k : Int) < -(2 ^ 63 : Int)) by omega), decide_eq_false (show ¬ ((k : Int) ≥ 2 ^ 63) by omega)]; rfl) ?_
  refine wpAny_bind (wpAny_of_eq (a := PySem.Str.ofString "little") (by kernel_rfl) ?_)
  refine wpAny_bind (wpAny_of_eq (a := false) rfl ?_)
  refine wpAny_bind (wpAny_of_eq (a := true) (by kernel_rfl) ?_)
  refine wpAny_ite_false (decide_eq_false (show ¬ ((k : Int) < 0) by omega)) ?_
  refine wpAny_ite_false (decide_eq_false (show ¬ ((k : Int) > 2 ^ 63 - 1 - 33) by omega)) ?_
  refine wpAny_ite_false (decide_eq_false (show ¬ ((k : Int) > (sizeLine : Int)) by rw [sizeLine_eq]; omega)) ?_
  refine KTBy.if_not (by show (decide (x < 0) && !false) = false; rw [decide_eq_false (show ¬ x < 0 by omega)]; rfl) ?_
  refine KTBy.if_not (by show (_ && decide ((Builtin.Int.intBits x : Int) > 8 * (k : Int))) = false; rw [decide_eq_false (show ¬ ((Builtin.Int.intBits x : Int) > 8 * (k : Int)) by omega), Bool.and_false]) ?_
  refine wpAny_bind (wpAny_mkBytes (wpAny_pure (h _ _ _ ?_)) (by show (KTBy.low x (Int.toNat (k : Int))).length ≤ sizeLine; rw [KTBy.low_length, Int.toNat_natCast, sizeLine_eq]; omega))
  show (List.map (fun c : UInt8 => ((c.toNat : Nat) : Int)) (KTBy.low x (Int.toNat (k : Int)))) = KTBy.little k x
  rw [Int.toNat_natCast, KTBy.low_ints h0 h1, ← KTBy.little_eq]
end
end
section
set_option maxRecDepth 100000

/-- a pure call, over the clean stacks -/
def SpecC (w : World) (D U : Nat) (f : Addr) (vs : List Value) (need : List (Addr × Obj)) (Post : Value → List (Addr × Obj) → Prop) : Prop :=
  ∀ (prog : Program) (mean : ExcName → Option Value) (mg mb : Str → Option Value) (cn : Str) (cs : Scope) (a : Addr) (ccd : Value) (cl : List (Str × Addr)) (outer : List Env) (A₀ : Around) (base h₀ : Heap) (L : Addr) (m : Str → Option Value) (s : Shared)
    (Q E : Value → Shared → Prop),
    Below A₀ base outer h₀ → Fr h₀ L s.heap m → (hd.heap_1 w.params).In h₀ → News h₀ L s.heap need → Top view0 LO mean mg mb h₀ → cs.kind = .function →
    (∀ r tl h' tk', s.heap.StaysIn h' → (∀ p ∈ tl, s.heap.get? p.1 = none ∧ h'.get? p.1 = some p.2) → Post r tl → Q r { s with heap := h', toks := tk' }) →
    wpC (model prog w) (ktrTop D U none cn cs L a ccd cl outer) (call (.ref f) vs) Q E s

theorem SpecC.use {w : World} {D U : Nat} {f : Addr} {vs : List Value} {need : List (Addr × Obj)} {Post : Value → List (Addr × Obj) → Prop} (S : SpecC w D U f vs need Post)
    {prog : Program} {mean : ExcName → Option Value} {mg mb : Str → Option Value} {cn : Str} {cs : Scope} {a : Addr} {ccd : Value} {cl : List (Str × Addr)} {outer : List Env} {A A₀ : Around} {base h₀ : Heap} {L : Addr} {m : Str → Option Value} {s : Shared}
    {Q E : Value → Shared → Prop} {news : List (Addr × Obj)}
    (B : Below A₀ base outer h₀) (F : Fr h₀ L s.heap m) (X : (hd.heap_1 w.params).In h₀) (N : News h₀ L s.heap news) (T : Top view0 LO mean mg mb h₀)
    (hh : A.handled = none) (hf : A.frames = some (envX cn cs L a ccd cl :: outer)) (hd : A.depth ≤ D) (hu : A.units ≤ U)
    (hk : cs.kind = .function) (hneed : ∀ p ∈ need, p ∈ news)
    (ret : ∀ r tl h' tk', Fr h₀ L h' m → News h₀ L h' (tl ++ news) → Apart tl news → Post r tl → Q r { s with heap := h', toks := tk' }) :
    wpC (model prog w) A (call (.ref f) vs) Q E s := by
  refine wpC_weaken (A' := ktrTop D U none cn cs L a ccd cl outer) (S prog mean mg mb cn cs a ccd cl outer A₀ base h₀ L m s Q E B F X (fun p hp => N p (hneed p hp)) T hk fun r tl h' tk' k ht hp => ?_) hh hd hf rfl hu
  refine ret r tl h' tk' (fr_stays F k) (news_more F N k ht) (apart_of fun p hp q hq e => ?_) hp
  have := (ht p hp).1
  rw [← e, (N q hq).1] at this; cases this
theorem SpecC.any {w : World} {D U : Nat} {f : Addr} {vs : List Value} {need : List (Addr × Obj)} {Post : Value → List (Addr × Obj) → Prop} (S : Spec w D U f vs need Post) : SpecC w D U f vs need Post :=
  fun prog mean mg mb cn cs a ccd cl outer A₀ base h₀ L m s Q E B F X N T hk ret => wpC_any (S prog mean mg mb cn cs a ccd cl outer A₀ base h₀ L m s Q E B F X N T hk ret)

theorem fin1 {g h₁ h₂ h₀ : Heap} {s : Shared} {L L' : Addr} {m' : Str → Option Value} {need news' : List (Addr × Obj)} {Post : Value → List (Addr × Obj) → Prop} {Q : Value → Shared → Prop} {tk' : Nat} {o : Obj}
    (ret : Ret s Post Q) (G : Ground0 s.heap g need) (G' : ∀ b, g.get? b = none → (∀ p ∈ need, p.1 ≠ b) → s.heap.get? b = none) (N : News h₀ L s.heap need) (F' : Fr g L' h₁ m') (N' : News g L' h₁ news') (hn : ∀ p ∈ need, p ∈ news')
    (st : h₁.StaysIn h₂) (ho : h₂.get? h₁.objs.size = some o) (hp : Post (.ref h₁.objs.size) [(h₁.objs.size, o)]) : Q (.ref h₁.objs.size) { s with heap := h₂, toks := tk' } := by
  obtain ⟨a, _⟩ := back (tl := []) G G' (fun p hp => (N p hp).1) F' N' hn (fun _ h => (nomatch h)) (fun _ _ _ h => (nomatch h))
  refine ret _ _ h₂ tk' (fun b o e => st b o (a b o e)) (fun p hp => ?_) hp
  rw [List.mem_singleton.mp hp]
  refine ⟨?_, ho⟩
  cases e : s.heap.get? h₁.objs.size with
  | none => rfl
  | some o' => exact absurd (Heap.lt_size (a _ _ e)) (Nat.lt_irrefl _)
section
variable {prog : Program} {w : World} {A : Around} {s : Shared} {R : Result → Shared → Prop}
theorem codeC_func {body : List Stmt} {env : Env}
    (h : wpC (model prog w) (A.deeper env) (execs body env) (fun f s' => R (.ok (.ret (match f with | .ret v => v | _ => .none))) s')
      (fun e s' => wpC (model prog w) (A.deeper env) (leaving env e) (fun _ s'' => R (.error e) s'') (fun e' s'' => R (.error e') s'') s') s) :
    codeC (model prog w) A (.func body env) R s := by
  refine codeC_of_tree ?_
  show wpC _ (A.deeper env) (do point; match ← (execs body env).onRaise (leaving env) with | .ret v => ret v | _ => ret .none) _ _ s
  refine wpC_first (wpAny_point (wpC_bind (wpC_onRaise (wpC_mono h (fun f s' h' => ?_) fun _ _ h' => h'))))
  cases f <;> exact wpC_pure h'
theorem codeC_call_function {a : Addr} {args : Args} {o : Obj} {fd : FuncData} {body : List Stmt} (hroom : A.depth < recursionLimit) (ho : s.heap.get? a = some o)
    (hd' : o.data = .func fd) (hco : fd.scope.isCoroutine = false) (hgen : fd.scope.isGenerator = false) (hbody : fd.body = .stmts body) (hcd : s.heap.CodeRec fd.code fd.qualname)
    (h : wpAny (model prog w) A.in1 (bindArgs fd args) (fun binds s₁ =>
      wpAny (model prog w) A.in1 (newFunctionEnv fd.scope fd.globals fd.closure binds (fd.qualname ++ ".<locals>.") (some a) fd.code none fd.builtins)
        (fun env s₂ => s₂.heap.NoLimit ∧ codeC (model prog w) A (.func body env) R s₂) (fun e s' => R (.error e) s') s₁) (fun e s' => R (.error e) s') s) :
    codeC (model prog w) A (.call (.ref a) args) R s := by
  refine codeC_of_tree (wpC_any ?_)
  show wpAny _ A.in1 (callAny (.ref a) args) _ _ s
  simp only [callAny]
  refine wpAny_bind (wpAny_load ho ?_)
  obtain ⟨c, oc, vs, tq, hc, hoc, hdc, hq⟩ := hcd
  simp only [hd', callFunction, hco, hgen, hbody, hc]
  rw [hc] at h
  refine wpAny_bind (m := field (.ref c) 1) (wpAny_field hoc hdc hq (wpAny_bind (wpAny_pure ?_)))
  exact wpAny_bind (wpAny_mono h (fun binds s₁ h₁ => wpAny_bind (wpAny_mono h₁ (fun env s₂ h₂ => wpAny_bind (wpAny_enterFrame h₂.1 hroom
    (wpAny_pure ⟨rfl, rfl, h₂.2⟩))) fun _ _ h' => h')) fun _ _ h' => h')
end

section
variable {prog : Program} {w : World} {A₀ A : Around} {s : Shared} {base h₀ : Heap} {outer : List Env} {L : Addr} {m mg mb : Str → Option Value} {env : Env} {news : List (Addr × Obj)} {K : Frag} {p : Program} {loose : List Str} {mean : ExcName → Option Value}
  {R : Result → Shared → Prop} {name qual : Str} {params : Arguments} {body : List Stmt} {scope : Scope} {dV kV doc pm cdv ct oc : Value} {an od : Option Addr} {osl : Array (Option Value)} {f : Addr} {args : Args} {binds : List (Str × Value)}
theorem ground_of (N : News h₀ L s.heap news) : Ground0 s.heap (hideAll s.heap (news.map (·.1))) news ∧ ∀ b, (hideAll s.heap (news.map (·.1))).get? b = none → (∀ p ∈ news, p.1 ≠ b) → s.heap.get? b = none := by
  refine ⟨fun b o e q => hideAll_get _ e fun q' => ?_, fun b e q => ?_⟩
  · obtain ⟨p, hp, e'⟩ := List.mem_map.mp q'
    exact q p hp e'
  · cases e' : s.heap.get? b with
    | none => rfl
    | some o =>
      have := hideAll_get (news.map (·.1)) e' (fun q' => by obtain ⟨p, hp, e''⟩ := List.mem_map.mp q'; exact q p hp e'')
      rw [e] at this; cases this
theorem enterC (B : Below A₀ base outer h₀) (F : Fr h₀ L s.heap m) (X₀ : K.In h₀) (N : News h₀ L s.heap news) (T : Top p loose mean mg mb h₀) (hA : A.frames = some (env :: outer)) (hf : env.frame = some L) (hke : env.scope.kind = .function)
    (ho : K.lookup f = some ⟨oc, od, .func (fnOf name qual params body scope dV kV doc pm an cdv ct), osl⟩) (hcd : codeIn K cdv qual = true) (hroom : A.depth < recursionLimit)
    (hbind : BindsTo s (fnOf name qual params body scope dV kV doc pm an cdv ct) args binds) (hloc : ∀ y ∈ binds, scope.names.lookup y.1 = some .local)
    (h : ∀ g L' h₁, Ground0 s.heap g news → (∀ b, g.get? b = none → (∀ p ∈ news, p.1 ≠ b) → s.heap.get? b = none) → Fr g L' h₁ (fun y => binds.reverse.lookup y) → News g L' h₁ news → Below A base (env :: outer) g → K.In g → Top p loose mean mg mb g →
      wpC (model prog w) (A.deeper (envOf qual scope L' f cdv)) (execs body (envOf qual scope L' f cdv))
        (fun fl s' => R (.ok (.ret (match fl with | .ret v => v | _ => .none))) s')
        (fun e s' => wpC (model prog w) (A.deeper (envOf qual scope L' f cdv)) (leaving (envOf qual scope L' f cdv) e) (fun _ s'' => R (.error e) s'') (fun e' s'' => R (.error e') s'') s')
        { s with heap := h₁, toks := s.toks + binds.length })
    (hco : scope.isCoroutine = false) (hgen : scope.isGenerator = false) (hk : scope.kind = .function)
    (hcell : ∀ x ∈ scope.names, x.2 ≠ .cell) : codeC (model prog w) A (.call (.ref f) args) R s := by
  obtain ⟨FG, BG, st, lv⟩ := groundX (R := R) B F N hA hf hke
  obtain ⟨g1, g2⟩ := ground_of N
  refine codeC_call_function (fd := fnOf name qual params body scope dV kV doc pm an cdv ct) (body := body) hroom ((X₀.keeps F.keep) _ _ ho) rfl hco hgen rfl (codeRec_of (X₀.keeps F.keep) hcd) (hbind _ _ _ _ ?_)
  refine wpAny_newFunctionEnv hcell hloc (fun h₁ hns hsb => ⟨(T.nolimit.keeps F.keep).fresh _ hsb, codeC_func ?_⟩) hk
  have hk₁ : ∀ b o, s.heap.get? b = some o → h₁.get? b = some o := fun b o e => hsb.extBut b o (Nat.ne_of_lt (Heap.lt_size e)) (Heap.get?_push_of_some _ e)
  exact h _ s.heap.objs.size h₁ g1 g2 ⟨hns, fun b o e => hk₁ b o (of_hideAll _ e), Nat.le_of_eq (hideAll_size _ _)⟩
    (fun p hp => ⟨hk₁ _ _ (N p hp).1, Nat.ne_of_lt (Heap.lt_size (N p hp).1), hideAll_none _ (List.mem_map_of_mem hp)⟩) BG (X₀.keeps st) (T.keeps st)
theorem enterCC (B : Below A₀ base outer h₀) (F : Fr h₀ L s.heap m) (X₀ : K.In h₀) (N : News h₀ L s.heap news) (T : Top p loose mean mg mb h₀) (hA : A.frames = some (env :: outer)) (hf : env.frame = some L) (hke : env.scope.kind = .function)
    (ho : K.lookup f = some ⟨oc, od, .func (fnOf name qual params body scope dV kV doc pm an cdv ct), osl⟩) (hcd : codeIn K cdv qual = true) (hroom : A.depth < recursionLimit)
    (hbind : BindsTo s (fnOf name qual params body scope dV kV doc pm an cdv ct) args binds) (hkind : (binds.all fun y => scope.names.lookup y.1 == some .local || scope.names.lookup y.1 == some .cell) = true)
    (hnd : ((cellsFrom 0 scope.names []).map (·.1)).Nodup)
    (h : ∀ g L' h₁ tk cells, Ground0 s.heap g news → (∀ b, g.get? b = none → (∀ p ∈ news, p.1 ≠ b) → s.heap.get? b = none) → Fr g L' h₁ (bindL (envOfC qual scope L' f cdv).kindOf binds fun _ => none) → News g L' h₁ (cells ++ news) →
      CellsAre (bindC (envOfC qual scope L' f cdv).kindOf binds fun _ => none) (cellsFrom (L' + 1) scope.names []) cells → Below A base (env :: outer) g → K.In g → Top p loose mean mg mb g → (∀ p ∈ news, p.1 < L') →
      wpC (model prog w) (A.deeper (envOfC qual scope L' f cdv)) (execs body (envOfC qual scope L' f cdv))
        (fun fl s' => R (.ok (.ret (match fl with | .ret v => v | _ => .none))) s')
        (fun e s' => wpC (model prog w) (A.deeper (envOfC qual scope L' f cdv)) (leaving (envOfC qual scope L' f cdv) e) (fun _ s'' => R (.error e) s'') (fun e' s'' => R (.error e') s'') s')
        { s with heap := h₁, toks := tk })
    (hco : scope.isCoroutine = false) (hgen : scope.isGenerator = false) (hk : scope.kind = .function) : codeC (model prog w) A (.call (.ref f) args) R s := by
  obtain ⟨FG, BG, st, lv⟩ := groundX (R := R) B F N hA hf hke
  obtain ⟨g1, g2⟩ := ground_of N
  refine codeC_call_function (fd := fnOf name qual params body scope dV kV doc pm an cdv ct) (body := body) hroom ((X₀.keeps F.keep) _ _ ho) rfl hco hgen rfl (codeRec_of (X₀.keeps F.keep) hcd) (hbind _ _ _ _ ?_)
  refine wpAny_newFunctionEnv_cells hk (kindsX hkind _) fun env' he s' x => ?_
  subst he
  refine ⟨((T.nolimit.keeps F.keep)).keeps x.toInCall.keep, codeC_func ?_⟩
  obtain ⟨h₁, tk, rfl, _⟩ := x.done
  have hk₁ := x.toInCall.keep
  obtain ⟨cells, NC, Y⟩ := Cl.news (h₀ := s.heap) (Nat.le_refl _) fun n c hm => ⟨x.cell n c (lookup_of_mem_nodup (cellsFrom_names scope.names 0 (s.heap.objs.size + 1) [] [] rfl ▸ hnd) hm), x.above n c hm⟩
  refine h _ s.heap.objs.size h₁ tk cells g1 g2 ⟨x.toInCall.ns, fun b o e => hk₁ b o (of_hideAll _ e), Nat.le_of_eq (hideAll_size _ _)⟩ (fun p hp => ?_) Y BG (X₀.keeps st) (T.keeps st) (fun p hp => Heap.lt_size (N p hp).1)
  rcases List.mem_append.mp hp with hp | hp
  · refine ⟨(NC p hp).1, (NC p hp).2.1, ?_⟩
    cases q : (hideAll s.heap (news.map (·.1))).get? p.1 with
    | none => rfl
    | some o => have := of_hideAll _ q; rw [(NC p hp).2.2] at this; cases this
  · exact ⟨hk₁ _ _ (N p hp).1, Nat.ne_of_lt (Heap.lt_size (N p hp).1), hideAll_none _ (List.mem_map_of_mem hp)⟩
end
end
section
set_option maxRecDepth 100000
section
variable {M : Model} {A : Around} {E : Value → Shared → Prop} {s : Shared} {env : Env}
theorem wpC_standAt {pos : Pos} {Q : Unit → Shared → Prop} (h : Q () s) : wpC M A (standAt pos) Q E s := fun _ _ _ _ => h
theorem wpC_point {Q : Unit → Shared → Prop} (h : Q () s) : wpC M A point Q E s := fun _ _ _ _ => h
theorem wpC_noE {α : Type} {t : Sem α} {Q : α → Shared → Prop} (h : wpC M A t Q (fun _ _ => False) s) : wpC M A t Q E s := wpC_mono h (fun _ _ x => x) fun _ _ x => x.elim
theorem any_operate {vs : List Value} {m : Sem Value} {Q : Value → Shared → Prop} (h : wpAny M A m Q E s) : wpAny M A (operate vs m) Q E s := fun Γ p hΓ => by rw [Sem.wp_operate]; exact h Γ p hΓ
theorem execsC {st : Stmt} {rest : List Stmt} {Q : Flow → Shared → Prop} (h : wpC M A (exec st env) (fun f s' => match f with | .next => wpC M A (execs rest env) Q E s' | f => Q f s') E s) : wpC M A (execs (st :: rest) env) Q E s := by
  rw [execs_cons]
  refine wpC_bind (wpC_mono h (fun f s' h' => ?_) fun _ _ x => x)
  cases f <;> first | exact h' | exact wpC_pure h'
/-- a statement that is walked as ever -/
theorem execsA {st : Stmt} {rest : List Stmt} {Q : Flow → Shared → Prop} (h : wpAny M A (exec st env) (fun f s' => match f with | .next => wpC M A (execs rest env) Q E s' | f => Q f s') E s) : wpC M A (execs (st :: rest) env) Q E s := execsC (wpC_any h)
theorem execsC_nil {Q : Flow → Shared → Prop} (h : Q .next s) : wpC M A (execs [] env) Q E s := fun _ _ _ _ => h
theorem returnC {e : Expr} {pos : Pos} {Q : Flow → Shared → Prop} (h : wpC M A (eval e env) (fun v s' => Q (.ret v) s') E s) : wpC M A (exec (.Return (some e) pos) env) Q E s := by
  rw [exec_Return_some]
  exact wpC_bind (wpC_standAt (wpC_bind (wpC_mono h (fun _ _ x => wpC_pure x) fun _ _ x => x)))
theorem assignC {x : Str} {pos' pos : Pos} {value : Expr} {Q : Flow → Shared → Prop} (h : wpC M A (eval value env) (fun v s₁ => wpAny M A (storeName env x v) (fun _ => Q .next) E s₁) E s)
    (hs : swapsWith value (some (.Name x pos')) pos.line env = pure false := by rfl) : wpC M A (exec (.Assign [.Name x pos'] value pos) env) Q E s := by
  rw [exec_Assign_Name env x pos' value pos hs]
  exact wpC_bind (wpC_standAt (wpC_bind (wpC_mono h (fun v s₁ h₁ => wpC_bind (wpC_standAt (wpC_first (wpAny_bindName (wpAny_mono h₁ (fun _ _ q => wpC_pure q) fun _ _ x => x))))) fun _ _ x => x)))
theorem ifC {test : Expr} {body orelse : List Stmt} {pos : Pos} {Q : Flow → Shared → Prop} (h : wpC M A (isTrue test env (eval test env)) (fun b s' => if b then wpC M A (execs body env) Q E s' else wpC M A (execs orelse env) Q E s') E s) :
    wpC M A (exec (.If test body orelse pos) env) Q E s := by
  rw [exec_If]
  refine wpC_bind (wpC_standAt (wpC_bind (wpC_mono h (fun b s' h' => ?_) fun _ _ x => x)))
  cases b <;> exact h'
theorem cmpC {l r : Expr} {op : CmpOp} {pos : Pos} {whole : Sem Value} {Q : Bool → Shared → Prop}
    (h : wpC M A (eval l env) (fun a s₁ => wpAny M A (eval r env) (fun b s₂ => wpAny M A (compareOp op a b) (fun c s₃ => wpAny M A (truthy c) Q E s₃) E s₂) E s₁) E s)
    (hm : markedBehindIn op r (eval r env) = eval r env := by rfl) : wpC M A (isTrue (.Compare l [op] [r] pos) env whole) Q E s := by
  rw [isTrue_Compare1, hm]
  refine wpC_bind (wpC_mono h (fun a s₁ h₁ => ?_) fun _ _ x => x)
  exact wpC_any (wpAny_bind (wpAny_holding (wpAny_mono h₁ (fun b s₂ h₂ => wpAny_bind (wpAny_standAt (wpAny_bind (any_operate (wpAny_mono h₂ (fun c s₃ h₃ => wpAny_holding h₃) fun _ _ x => x))))) fun _ _ x => x)))
theorem orC {x y : Expr} {pos : Pos} {whole : Sem Value} {Q : Bool → Shared → Prop}
    (h : wpC M A (isTrue x env (eval x env)) (fun b s' => if b then Q true s' else wpC M A (isTrue y env (eval y env)) Q E s') E s) : wpC M A (isTrue (.BoolOp .Or [x, y] pos) env whole) Q E s := by
  show wpC M A (isTrue x env (eval x env) >>= fun b => match BoolOp.Or, b with | .And, false => pure false | .Or, true => pure true | _, _ => (isTrue y env (eval y env) >>= fun b => match BoolOp.Or, b with | .And, false => pure false | .Or, true => pure true | _, _ => pure false)) Q E s
  refine wpC_bind (wpC_mono h (fun b s' h' => ?_) fun _ _ x => x)
  cases b with
  | true => exact wpC_pure h'
  | false =>
    refine wpC_bind (wpC_mono h' (fun b s'' h'' => ?_) fun _ _ x => x)
    cases b <;> exact wpC_pure h''
theorem notC {f : Expr} {args : List Expr} {kws : List Keyword} {cpos pos : Pos} {whole : Sem Value} {Q : Bool → Shared → Prop}
    (h : wpC M A (eval (.Call f args kws cpos) env) (fun v s' => wpAny M A (truthy v) (fun b => Q (!b)) E s') E s) : wpC M A (isTrue (.UnaryOp .Not (.Call f args kws cpos) pos) env whole) Q E s := by
  show wpC M A ((eval (.Call f args kws cpos) env >>= fun v => standAt cpos >>= fun _ => holding [v] (truthy v)) >>= fun b => pure (!b)) Q E s
  refine wpC_bind (wpC_bind (wpC_mono h (fun v s' h' => ?_) fun _ _ x => x))
  exact wpC_bind (wpC_standAt (wpC_holding (wpC_any (wpAny_mono h' (fun b s'' q => wpC_pure q) fun _ _ x => x))))
theorem binC {l r : Expr} {op : Operator} {pos : Pos} {Q : Value → Shared → Prop}
    (h : wpAny M A (eval l env) (fun a s₁ => wpC M A (eval r env) (fun b s₂ => wpAny M A (binaryOp op a b) Q E s₂) E s₁) E s) : wpC M A (eval (.BinOp l op r pos) env) Q E s := by
  show wpC M A (eval l env >>= fun a => holding [a] (eval r env) >>= fun b => standAt pos >>= fun _ => operate [a, b] (binaryOp op a b)) Q E s
  refine wpC_first (wpAny_mono h (fun a s₁ h₁ => ?_) fun _ _ x => x)
  exact wpC_bind (wpC_holding (wpC_mono h₁ (fun b s₂ h₂ => wpC_bind (wpC_standAt (wpC_operate (wpC_any h₂)))) fun _ _ x => x))

theorem callWithCC {pos : Pos} {f : Value} {first : List Value} {P : Heap → Prop} {args : List (Bool × Sem Value)} {keywords : List (Option Str × Sem Value)} {Q : Value → Shared → Prop} (hplain : (args.any (·.1) || keywords.any (·.1.isNone)) = false)
    (hk : ∀ h, P h → ∃ k, (k = Keeper.frame ∨ k = Keeper.machine ∨ k = Keeper.boundFrame) ∧ Looks M h (keeperOf f) k)
    (h : wpC M A (evalArgs f true args keywords) (fun a s₁ => P s₁.heap ∧ wpC M A (call f (first ++ a.pos) a.kw) Q E s₁) E s) : wpC M A (callWith pos f first args keywords) Q E s := by
  unfold callWith
  refine wpC_bind (wpC_holding (wpC_mono h (fun a s₁ h₁ => wpC_bind (wpC_standAt ?_)) fun _ _ x => x))
  obtain ⟨k, hk', L⟩ := hk _ h₁.1
  simp only [hplain]
  refine wpC_first (L.here ?_)
  have tail : ∀ {t : Sem Value}, wpC M A t Q E s₁ → wpC M A (t >>= fun r => holding [r] point >>= fun _ => pure r) Q E s₁ :=
    fun ht => wpC_bind (wpC_mono ht (fun r s₂ hr => wpC_bind (wpC_holding (wpC_point (wpC_pure hr)))) fun _ _ x => x)
  have marked (mk : Value) : wpC M A (callMarked mk f (first ++ a.pos) a.kw) Q E s₁ := by unfold callMarked; exact wpC_keep h₁.2
  rcases hk' with rfl | rfl | rfl <;> dsimp only <;> first | exact tail h₁.2 | (split <;> first | exact tail h₁.2 | exact tail (marked _))
theorem evalArgsC {f : Value} {x : Sem Value} {Q : Args → Shared → Prop} (h : wpC M A x (fun v s' => Q ⟨[v], []⟩ s') E s) : wpC M A (evalArgs f true [(false, x)] []) Q E s := by
  unfold evalArgs
  show wpC M A (spliced [(false, x)] >>= _) Q E s
  refine wpC_bind ?_
  show wpC M A (x >>= fun v => _) _ E s
  refine wpC_bind (wpC_mono h (fun v s' h' => ?_) fun _ _ x => x)
  refine wpC_any (wpAny_bind (wpAny_pure (wpAny_bind (wpAny_holding (wpAny_pure (wpAny_pure ?_))))))
  refine wpC_holding (wpC_any ?_)
  exact wpAny_bind (wpAny_pure (wpAny_bind (wpAny_pure (wpAny_pure h'))))
theorem keeper_type (T : String) (h : Heap) (_ : True) : ∃ k, (k = Keeper.frame ∨ k = Keeper.machine ∨ k = Keeper.boundFrame) ∧ Looks M h (keeperOf (.type T)) k := ⟨.machine, .inr (.inl rfl), .now⟩
/-- T(e): e as ever, the making over the clean stacks -/
theorem callTypeC {n : Str} {np pos : Pos} {e : Expr} {T : String} {Q : Value → Shared → Prop}
    (h : wpAny M A (eval (.Name n np) env) (fun t s₁ => t = .type T ∧ wpC M A (eval e env) (fun v s₂ => wpC M A (call (.type T) [v]) Q E s₂) E s₁) E s)
    (he : starEach [e] env = [(false, eval e env)] := by rfl) : wpC M A (eval (.Call (.Name n np) [e] [] pos) env) Q E s := by
  show wpC M A (eval (.Name n np) env >>= fun f => callWith pos f [] (backTo pos (starEach [e] env)) (backToKw pos (keywordEach [] env))) Q E s
  refine wpC_first (wpAny_mono h (fun t s₁ h₁ => ?_) fun _ _ x => x)
  obtain ⟨rfl, h₁⟩ := h₁
  rw [he]
  exact callWithCC rfl (keeper_type T) (evalArgsC (wpC_mono h₁ (fun v s₂ h₂ => ⟨trivial, h₂⟩) fun _ _ x => x))
/-- f(e, ..): the arguments as ever, the call over the clean stacks -/
theorem callFnC {n : Str} {np pos : Pos} {e : Expr} {rest : List Expr} {K : Frag} {f : Addr} {Q : Value → Shared → Prop} (hk : keepIn K (.ref f) = true)
    (h : wpAny M A (eval (.Name n np) env) (fun t s₁ => t = .ref f ∧ wpAny M A (spliced (backTo pos (starEach (e :: rest) env))) (fun vs s₂ => K.In s₂.heap ∧ wpC M A (call (.ref f) vs) Q E s₂) E s₁) E s)
    (he : starEach (e :: rest) env = (false, eval e env) :: starEach rest env := by rfl) (hplain : (backTo pos (starEach rest env)).any (·.1) = false := by rfl) : wpC M A (eval (.Call (.Name n np) (e :: rest) [] pos) env) Q E s := by
  show wpC M A (eval (.Name n np) env >>= fun f => callWith pos f [] (backTo pos (starEach (e :: rest) env)) (backToKw pos (keywordEach [] env))) Q E s
  refine wpC_first (wpAny_mono h (fun t s₁ h₁ => ?_) fun _ _ x => x)
  obtain ⟨rfl, h₁⟩ := h₁
  rw [he] at h₁ ⊢
  exact callWithCC (by show ((false || (backTo pos (starEach rest env)).any (·.1)) || false) = false; rw [hplain]; rfl) (keeps_K hk) (wpC_any (evalArgs_plain h₁))
/-- o.m(e): a method of the text's own -/
theorem callMethC {n name : Str} {np apos pos : Pos} {e : Expr} {K : Frag} {f : Addr} {x : Value} {Q : Value → Shared → Prop} (hk : keepIn K (.ref f) = true) (hline : (apos.endLine == pos.line) = true)
    (h : wpAny M A (eval (.Name n np) env) (fun o s₁ => o = x ∧ wpAny M A (getMethod x name (do return (← importBound (.Name n np) env).getD true)) (fun fm s₂ => fm = (.ref f, [x]) ∧
      wpC M A (eval e env) (fun v s₃ => K.In s₃.heap ∧ wpC M A (call (.ref f) [x, v]) Q E s₃) E s₂) E s₁) E s)
    (he : starEach [e] env = [(false, eval e env)] := by rfl) : wpC M A (eval (.Call (.Attribute (.Name n np) name apos) [e] [] pos) env) Q E s := by
  show wpC M A (eval (.Name n np) env >>= fun ov => standAt apos.atName >>= fun _ => methodCall (.Name n np) name apos pos env ov 1 (backTo pos (starEach [e] env)) (backToKw pos (keywordEach [] env))) Q E s
  refine wpC_first (wpAny_mono h (fun o s₁ h₁ => ?_) fun _ _ x => x)
  obtain ⟨rfl, h₁⟩ := h₁
  refine wpC_bind (wpC_standAt ?_)
  unfold methodCall
  rw [he]
  refine wpC_first (wpAny_holding (wpAny_mono (show wpAny M A (calleeOf true (.Name n np) env o name) _ E s₁ from h₁) (fun fm s₂ h₂ => ?_) fun _ _ x => x))
  obtain ⟨rfl, h₂⟩ := h₂
  dsimp only
  refine wpC_first (wpAny_of_eq (a := pos) (show methodCallPos true (.Name n np) env apos pos = pure pos by unfold methodCallPos; rw [hline]; rfl) ?_)
  exact callWithCC rfl (keeps_K hk) (evalArgsC (wpC_mono h₂ (fun v s₃ h₃ => h₃) fun _ _ x => x))
end
end
section
set_option maxRecDepth 100000
section
variable {α β : Type} {M : Model} {A : Around} {E : Value → Shared → Prop} {s : Shared}
theorem wpC_attempt {m : Sem α} {Q : Except Value α → Shared → Prop} (h : wpC M A m (fun a => Q (.ok a)) (fun e => Q (.error e)) s) : wpC M A m.attempt Q E s := fun Γ p hΓ hc => by rw [Sem.wp_attempt]; exact h Γ p hΓ hc
theorem wpC_of_eq {t t' : Sem α} (e : t = t') {Q : α → Shared → Prop} (h : wpC M A t' Q E s) : wpC M A t Q E s := e ▸ h
end
section
variable {prog : Program} {w : World} {A : Around} {E : Value → Shared → Prop} {s : Shared} {h₀ : Heap} {L : Addr} {m : Str → Option Value} {env : Env} {R : Result → Shared → Prop}
theorem compStartC {elt target iter ifs rest scope pos it acc env}
    (h0 : codeC (model prog w) A (.compLoop (.ListComp elt (⟨target, iter, ifs, 0⟩ :: rest) scope pos) 0 it acc env) R s)
    (h : wpAny (model prog w) A (pyIter it) (fun it' s' => codeC (model prog w) A (.compLoop (.ListComp elt (⟨target, iter, ifs, 0⟩ :: rest) scope pos) 0 it' acc env) R s') (fun _ _ => False) s) :
    codeC (model prog w) A (.compStart (.ListComp elt (⟨target, iter, ifs, 0⟩ :: rest) scope pos) 0 it acc env) R s := by
  refine codeC_of_tree (wpC_any ?_)
  show wpAny _ _ ((compStart (.ListComp elt (⟨target, iter, ifs, 0⟩ :: rest) scope pos) 0 it acc env).onRaise (fun x => do noteFrame x env; standAt theWindowsPlace)) _ _ s
  refine wpAny_notedAt ?_
  unfold compStart
  show wpAny _ _ (ask >>= _) _ _ s
  refine wpAny_bind (wpAny_askSetting (wpAny_ite ?_))
  split
  · first
      | exact wpAny_bind (wpAny_pure (wpAny_pure ⟨rfl, rfl, h0⟩))
      | exact wpAny_pure ⟨rfl, rfl, h0⟩
  · first
      | exact wpAny_bind (wpAny_rule (wpAny_bind (wpAny_standAt (wpAny_bind (wpAny_mono h (fun it' s' h' => wpAny_pure ⟨rfl, rfl, h'⟩) fun _ _ x => x.elim)))))
      | (refine wpAny_bind (wpAny_rule ?_); show wpAny _ _ (standAt iter.pos >>= _) _ _ s; exact wpAny_bind (wpAny_standAt (wpAny_bind (wpAny_mono h (fun it' s' h' => wpAny_pure ⟨rfl, rfl, h'⟩) fun _ _ x => x.elim))))
theorem compTurnC {elt target iter : Expr} {scope : Scope} {pos : Pos} {it acc : Value} {env : Env}
    (turn : wpAny (model prog w) A (pyNext it) (fun r s₁ => match r with
      | none => R (.ok .next) s₁
      | some v => wpAny (model prog w) A (assign target env v) (fun _ s₂ => wpC (model prog w) A (eval elt env) (fun x s₃ =>
          wpAny (model prog w) A (call (.builtin "list.append") [acc, x]) (fun _ s₄ => codeC (model prog w) A (.compLoop (.ListComp elt [⟨target, iter, [], 0⟩] scope pos) 0 it acc env) R s₄) (fun _ _ => False) s₃)
          (fun _ _ => False) s₂) (fun _ _ => False) s₁) (fun _ _ => False) s)
    (ht : ∀ v, letOwnedTupleGo target it v = pure () := by intro _; rfl) :
    codeC (model prog w) A (.compLoop (.ListComp elt [⟨target, iter, [], 0⟩] scope pos) 0 it acc env) R s := by
  refine codeC_of_tree ?_
  show wpC _ A ((compTurn (.ListComp elt [⟨target, iter, [], 0⟩] scope pos) 0 it acc env).onRaise (fun x => do noteFrame x env; theTreesLotGoes x)) _ _ s
  refine wpC_onRaise (wpC_mono (Q := fun fin s' => match fin with | .done f => R (.ok f) s' | .again c' => c'.quiet = true ∧ cleanC c' = true ∧ codeC (model prog w) A c' R s') (E := fun _ _ => False) ?_ (fun _ _ h => h) fun _ _ h => h.elim)
  rw [compTurn_list1]
  refine wpC_first (wpAny_standAt (wpC_first (wpAny_mono turn (fun r s₁ h₁ => ?_) fun _ _ h' => h')))
  cases r with
  | none => exact wpC_pure h₁
  | some v =>
    dsimp only at h₁ ⊢
    refine wpC_bind (wpC_of_eq (ht v) (wpC_pure (wpC_first (wpAny_mono h₁ (fun _ s₂ h₂ => ?_) fun _ _ h' => h'))))
    refine wpC_bind (wpC_bind (wpC_mono h₂ (fun x s₃ h₃ => ?_) fun _ _ h' => h'))
    refine wpC_first (wpAny_mono h₃ (fun _ s₄ h₄ => ?_) fun _ _ h' => h')
    exact wpC_pure (wpC_pure ⟨rfl, rfl, h₄⟩)

def Halt (P : Prop) : Prop := P
theorem halt {P : Prop} (h : P) : Halt P := h
theorem callTypeH {n : Str} {np pos : Pos} {e : Expr} {T : String} {Q : Value → Shared → Prop}
    (h : wpAny (model prog w) A (eval (.Name n np) env) (fun t s₁ => Halt (t = .type T ∧ wpC (model prog w) A (eval e env) (fun v s₂ => wpC (model prog w) A (call (.type T) [v]) Q E s₂) E s₁)) E s)
    (he : starEach [e] env = [(false, eval e env)] := by rfl) : wpC (model prog w) A (eval (.Call (.Name n np) [e] [] pos) env) Q E s := callTypeC h he
theorem callFnH {n : Str} {np pos : Pos} {e : Expr} {rest : List Expr} {K : Frag} {f : Addr} {Q : Value → Shared → Prop} (hk : keepIn K (.ref f) = true)
    (h : wpAny (model prog w) A (eval (.Name n np) env) (fun t s₁ => Halt (t = .ref f ∧ wpAny (model prog w) A (spliced (backTo pos (starEach (e :: rest) env))) (fun vs s₂ => Halt (K.In s₂.heap ∧ wpC (model prog w) A (call (.ref f) vs) Q E s₂)) E s₁)) E s)
    (he : starEach (e :: rest) env = (false, eval e env) :: starEach rest env := by rfl) (hplain : (backTo pos (starEach rest env)).any (·.1) = false := by rfl) : wpC (model prog w) A (eval (.Call (.Name n np) (e :: rest) [] pos) env) Q E s := callFnC hk h he hplain
theorem callMethH {n name : Str} {np apos pos : Pos} {e : Expr} {K : Frag} {f : Addr} {x : Value} {Q : Value → Shared → Prop} (hk : keepIn K (.ref f) = true) (hline : (apos.endLine == pos.line) = true)
    (h : wpAny (model prog w) A (eval (.Name n np) env) (fun o s₁ => Halt (o = x ∧ wpAny (model prog w) A (getMethod x name (do return (← importBound (.Name n np) env).getD true)) (fun fm s₂ => Halt (fm = (.ref f, [x]) ∧
      wpC (model prog w) A (eval e env) (fun v s₃ => K.In s₃.heap ∧ wpC (model prog w) A (call (.ref f) [x, v]) Q E s₃) E s₂)) E s₁)) E s)
    (he : starEach [e] env = [(false, eval e env)] := by rfl) : wpC (model prog w) A (eval (.Call (.Attribute (.Name n np) name apos) [e] [] pos) env) Q E s := callMethC hk hline h he
/-- the turns of a comprehension, over the clean stacks -/
noncomputable def CompRestC (prog : Program) (w : World) (A : Around) (h₀ : Heap) (L : Addr) (m : Str → Option Value) (env : Env) (elt : Expr) (x : Str) (scope : Scope) (cl : List (Str × Addr)) (s : Shared) (P : Nat → Value → Prop)
    (Fin : List Value → List (Addr × Obj) → Prop) : Nat → Nat → List Value → List (Addr × Obj) → Prop
  | 0, _, ys, news => Fin ys news
  | k + 1, i, ys, news => ∀ v I oI C oC D m₂ h tk, P i v → LCg.NsObj oC m₂ → m₂ x = some v → Fr h₀ L h m → News h₀ L h ((I, oI) :: (C, oC) :: (D, LCg.lst ys) :: news) → LCg.Off3 I C D news → ((@Ne Nat I C) ∧ (@Ne Nat I D) ∧ (@Ne Nat C D)) →
      wpC (model prog w) A (eval elt (compEnvC scope cl C env)) (LCg.CompEnd h₀ L m { s with heap := h, toks := tk } I oI C oC D (LCg.lst ys) (fun _ => True) (fun y news' => CompRestC prog w A h₀ L m env elt x scope cl s P Fin k (i + 1) (ys ++ [y]) news')) (fun _ _ => False) { s with heap := h, toks := tk }
theorem CompRestC.zero {elt : Expr} {x : Str} {scope : Scope} {cl : List (Str × Addr)} {P : Nat → Value → Prop} {Fin : List Value → List (Addr × Obj) → Prop} {i : Nat} {ys : List Value} {news : List (Addr × Obj)} (h : Fin ys news) :
    CompRestC prog w A h₀ L m env elt x scope cl s P Fin 0 i ys news := h
theorem CompRestC.succ {elt : Expr} {x : Str} {scope : Scope} {cl : List (Str × Addr)} {P : Nat → Value → Prop} {Fin : List Value → List (Addr × Obj) → Prop} {k i : Nat} {ys : List Value} {news : List (Addr × Obj)}
    (h : ∀ v I oI C oC D m₂ h tk, P i v → LCg.NsObj oC m₂ → m₂ x = some v → Fr h₀ L h m → News h₀ L h ((I, oI) :: (C, oC) :: (D, LCg.lst ys) :: news) → LCg.Off3 I C D news → ((@Ne Nat I C) ∧ (@Ne Nat I D) ∧ (@Ne Nat C D)) →
      wpC (model prog w) A (eval elt (compEnvC scope cl C env)) (LCg.CompEnd h₀ L m { s with heap := h, toks := tk } I oI C oC D (LCg.lst ys) (fun _ => True) (fun y news' => CompRestC prog w A h₀ L m env elt x scope cl s P Fin k (i + 1) (ys ++ [y]) news')) (fun _ _ => False) { s with heap := h, toks := tk }) :
    CompRestC prog w A h₀ L m env elt x scope cl s P Fin (k + 1) i ys news := h

theorem blockC {elt iter : Expr} {x : Str} {px : Pos} {scope : Scope} {cl : List (Str × Addr)} {pos : Pos} {s₂ : Shared} {I : Addr} {n : Nat} {P : Nat → Value → Prop} {St : Nat → Heap → Prop} {news : List (Addr × Obj)}
    {Fin : List Value → List (Addr × Obj) → Prop} {RR : Value → Addr → Result → Shared → Prop}
    (W : Walks prog w A I [I] [I] n P St) (hsz : n ≤ sizeLine) (hIo : ∀ i h, St i h → ∃ o, h.get? I = some o)
    (hcell : ∀ y ∈ scope.names, y.2 ≠ .cell) (hkind : scope.kind = .function) (hx : scope.names.lookup x = some .local) (hst : St 0 s₂.heap) (hIlt : I < s₂.heap.objs.size)
    (F : Fr h₀ L s₂.heap m) (N : News h₀ L s₂.heap news) (hIL : L ≠ I) (hI₀ : h₀.get? I = none) (off : ∀ p ∈ news, p.1 ≠ I)
    (R : CompRestC prog w A h₀ L m env elt x scope cl s₂ P Fin n 0 [] news)
    (hRR : ∀ D C h tk m' ys news', Fr h₀ L h m → News h₀ L h ((D, LCg.lst ys) :: news') → LCg.Off1 D news' → h.Ns C m' → h₀.get? C = none → h₀.get? D = none → C ≠ L → D ≠ L → C ≠ D → (∀ p ∈ news', p.1 ≠ C) → Fin ys news' → RR (.ref D) C (.ok .next) { s₂ with heap := h, toks := tk }) :
    wpAny (model prog w) A (newList []) (fun acc s₃ => wpAny (model prog w) A (newFunctionEnv scope env.globals cl [] env.qual none .none (some env)) (fun cenv s₄ =>
      codeC (model prog w) A (.compStart (.ListComp elt [⟨.Name x px, iter, [], 0⟩] scope pos) 0 (.ref I) acc { cenv with scope := relabel scope env }) (RR acc cenv.locals) s₄) E s₃) E s₂ := by
  refine wpAny_newObj_type (wpAny_newFunctionEnv hcell (by intro y hy; simp at hy) (fun h₁ hns₁ hsb₁ => ?_) hkind)
  dsimp only at hns₁ hsb₁ ⊢
  generalize hH2 : s₂.heap.push { cls := .type "list", dict := none, data := .seq ([] : List Value).toArray } = H2 at hns₁ hsb₁ ⊢
  have hC : H2.objs.size = s₂.heap.objs.size + 1 := by rw [← hH2, Heap.size_push]
  have hDC : s₂.heap.objs.size ≠ H2.objs.size := by rw [hC]; exact Nat.ne_of_lt (Nat.lt_succ_self _)
  have below : ∀ b, b < s₂.heap.objs.size → b ≠ H2.objs.size ∧ b ≠ s₂.heap.objs.size := fun b hb => ⟨by rw [hC]; exact Nat.ne_of_lt (Nat.lt_succ_of_lt hb), Nat.ne_of_lt hb⟩
  have old : ∀ b o, s₂.heap.get? b = some o → h₁.get? b = some o := fun b o e => hsb₁.extBut b o (below b (Heap.lt_size e)).1 (Heap.get?_push_of_some _ (hH2 ▸ Heap.get?_push_of_some _ e))
  have hacc : h₁.get? s₂.heap.objs.size = some (LCg.lst []) := hsb₁.extBut _ _ hDC (Heap.get?_push_of_some _ (hH2 ▸ Heap.get?_push_size _ rfl))
  have hst₁ : St 0 h₁ := W.frame _ _ _ hst fun b _ o e => old b o e
  have fresh : ∀ a, s₂.heap.objs.size ≤ a → s₂.heap.get? a = none := fun a ha => by
    cases e : s₂.heap.get? a with
    | none => rfl
    | some o' => exact absurd (Heap.lt_size e) (Nat.not_lt.mpr ha)
  have fresh₀ : ∀ a, s₂.heap.objs.size ≤ a → h₀.get? a = none := fun a ha => by
    cases e : h₀.get? a with
    | none => rfl
    | some o' => have := F.keep a o' e; rw [fresh a ha] at this; cases this
  have hD₀ : h₀.get? s₂.heap.objs.size = none := fresh₀ _ (Nat.le_refl _)
  have hC₀ : h₀.get? H2.objs.size = none := fresh₀ _ (by rw [hC]; exact Nat.le_succ _)
  have hLlt : L < s₂.heap.objs.size := F.ns.lt
  have hDL : s₂.heap.objs.size ≠ L := Ne.symm (below L hLlt).2
  have hCL : H2.objs.size ≠ L := Ne.symm (below L hLlt).1
  have hCI : I ≠ H2.objs.size := (below I hIlt).1
  have hDI : I ≠ s₂.heap.objs.size := (below I hIlt).2
  have off₀ : LCg.Off3 I H2.objs.size s₂.heap.objs.size news := LCg.Off3.of fun p hp => ⟨off p hp, (below _ (Heap.lt_size (N p hp).1)).1, (below _ (Heap.lt_size (N p hp).1)).2⟩
  have loop : ∀ (k i : Nat) (h' : Heap) (tk : Nat) (ys : List Value) (m' : Str → Option Value) (news' : List (Addr × Obj)), i + k = n → ys.length = i → St i h' → Fr h₀ L h' m → h'.Ns H2.objs.size m' → News h₀ L h' ((s₂.heap.objs.size, LCg.lst ys) :: news') →
      LCg.Off3 I H2.objs.size s₂.heap.objs.size news' → CompRestC prog w A h₀ L m env elt x scope cl s₂ P Fin k i ys news' →
      codeC (model prog w) A (.compLoop (.ListComp elt [⟨.Name x px, iter, [], 0⟩] scope pos) 0 (.ref I) (.ref s₂.heap.objs.size) (compEnvC scope cl H2.objs.size env))
        (RR (.ref s₂.heap.objs.size) H2.objs.size) { s₂ with heap := h', toks := tk } := by
    intro k
    induction k with
    | zero =>
      intro i h' tk ys m' news' hi hyl hst' F' hn' N' off' R'
      obtain rfl : i = n := by omega
      refine compTurnC (W.done _ _ _ hst' fun h₂ tk₂ hk₂ => ?_)
      have off3 := off'.mem
      exact hRR _ _ h₂ tk₂ _ ys news' (LCg.fr_but F' hk₂ hIL hI₀) (LCg.news_but N' hk₂ fun p hp => by
          rcases List.mem_cons.mp hp with rfl | hp
          · exact Ne.symm hDI
          · exact (off3 p hp).1) off'.one (hn'.at' fun o e => hk₂ _ o (by simpa using Ne.symm hCI) e) hC₀ hD₀ hCL hDL (Ne.symm hDC) (fun p hp => (off3 p hp).2.1) R'
    | succ k ih =>
      intro i h' tk ys m' news' hi hyl hst' F' hn' N' off' R'
      refine compTurnC (W.item i _ _ _ (by omega) hst' fun v h₂ tk₂ hPv hst₂ hk₂ => ?_)
      refine wpAny_assign_Name (wpAny_storeName_local (lookup_relabel_local hx) (hn'.at' fun o e => hk₂ _ o (by simpa using Ne.symm hCI) e) (fun h₃ hn₃ hs₃ => ?_) (by simp [compEnvC, relabel, hkind]))
      have hst₃ : St (i + 1) h₃ := W.frame _ _ _ hst₂ fun b hb o e => hs₃.extBut b o (fun q => by rw [List.mem_singleton.mp hb] at q; exact hCI q) e
      obtain ⟨oI, heI⟩ := hIo _ _ hst₃
      obtain ⟨oC, heC, hoC⟩ := LCg.ns_obj hn₃
      have F₃ : Fr h₀ L h₃ m := (LCg.fr_but F' hk₂ hIL hI₀).change hs₃ hCL hC₀
      have off3 := off'.mem
      have N₂ : News h₀ L h₂ ((s₂.heap.objs.size, LCg.lst ys) :: news') := LCg.news_but N' hk₂ fun p hp => by
        rcases List.mem_cons.mp hp with rfl | hp
        · exact Ne.symm hDI
        · exact (off3 p hp).1
      have N₃ : News h₀ L h₃ ((I, oI) :: (H2.objs.size, oC) :: (s₂.heap.objs.size, LCg.lst ys) :: news') := fun p hp => by
        rcases List.mem_cons.mp hp with rfl | hp
        · exact ⟨heI, Ne.symm hIL, hI₀⟩
        · rcases List.mem_cons.mp hp with rfl | hp
          · exact ⟨heC, hCL, hC₀⟩
          · have z := N₂ p hp
            refine ⟨hs₃.extBut _ _ ?_ z.1, z.2⟩
            rcases List.mem_cons.mp hp with rfl | hp
            · exact hDC
            · exact (off3 p hp).2.1
      refine wpC_mono (R' v I oI H2.objs.size oC s₂.heap.objs.size _ h₃ _ hPv hoC (by simp) F₃ N₃ off' ⟨hCI, hDI, Ne.symm hDC⟩) (fun y s₄ h₄ => ?_) fun _ _ e => e
      obtain ⟨h₄, tk₄, news₄, rfl, F₄, N₄, off₄, hS₄, R₄⟩ := h₄
      have zI := (N₄ (I, oI) List.mem_cons_self).1
      have zC := (N₄ (H2.objs.size, oC) (List.mem_cons_of_mem _ List.mem_cons_self)).1
      have zD := (N₄ (s₂.heap.objs.size, LCg.lst ys) (List.mem_cons_of_mem _ (List.mem_cons_of_mem _ List.mem_cons_self))).1
      have N₄' : News h₀ L h₄ news₄ := fun p hp => N₄ p (List.mem_cons_of_mem _ (List.mem_cons_of_mem _ (List.mem_cons_of_mem _ hp)))
      have hst₄ : St (i + 1) h₄ := W.frame _ _ _ hst₃ fun b hb o e => by
        rw [List.mem_singleton.mp hb] at e ⊢
        rw [heI] at e; cases e; exact zI
      refine append_at (hsz := by show ys.toArray.size ≤ sizeLine; rw [List.size_toArray, hyl]; omega) zD fun h₅ hs₅ hD₅ => ?_
      have off4 := off₄.mem
      refine ih (i + 1) h₅ tk₄ (ys ++ [y]) _ news₄ (by omega) (by rw [List.length_append, List.length_singleton, hyl]) (W.frame _ _ _ hst₄ fun b hb o e => hs₅.extBut b o (fun q => by rw [List.mem_singleton.mp hb] at q; exact hDI q) e) (F₄.change hs₅ hDL hD₀)
        ((hoC.ns zC).sameBut hs₅ (Ne.symm hDC)) (fun p hp => ?_) off₄ R₄
      rcases List.mem_cons.mp hp with rfl | hp
      · exact ⟨hD₅.trans (congrArg some (LCg.lst_snoc ys y)), hDL, hD₀⟩
      · exact ⟨hs₅.extBut _ _ (off4 p hp).2.2 (N₄' p hp).1, (N₄' p hp).2⟩
  have go := loop n 0 h₁ (s₂.toks + ([] : List (Str × Value)).length) [] _ news (by omega) rfl hst₁ (F.keeps old) hns₁ (fun p hp => by
    rcases List.mem_cons.mp hp with rfl | hp
    · exact ⟨hacc, hDL, hD₀⟩
    · exact ⟨old _ _ (N p hp).1, (N p hp).2⟩) off₀ R
  exact compStartC go (W.self 0 _ _ _ hst₁ go)

theorem comprehensionC {e : Expr} {scope : Scope} {pos : Pos} {newAcc first : Sem Value} {g : Comprehension} {gs : List Comprehension} {cl : List (Str × Addr)} {Q : Value → Shared → Prop}
    (hcl : clausesOf e = g :: gs) (hs : ∀ x, foldedSetIterable g.iter env x = pure x) (hclos : closureFor scope env = pure cl)
    (hkind : scope.kind = .function) (hnames : ∀ x ∈ scope.names, x.2 = .local → scope.names.lookup x.1 = some .local) (hq : ∀ it acc cenv, cleanC (.compStart e 0 it acc cenv) = true)
    (h : wpAny (model prog w) A first (fun x s₁ => wpAny (model prog w) A (pyIter x) (fun it s₂ => wpAny (model prog w) A newAcc (fun acc s₃ =>
      wpAny (model prog w) A (newFunctionEnv scope env.globals cl [] env.qual none .none (some env)) (fun cenv s₄ =>
        codeC (model prog w) A (.compStart e 0 it acc { cenv with scope := relabel scope env }) (fun r s' => match r with
          | .ok _ => ∃ m, s'.heap.Ns cenv.locals m ∧ ∀ h', Heap.SameBut cenv.locals s'.heap h' → Q acc { s' with heap := h' }
          | .error _ => False) s₄) E s₃) E s₂) E s₁) E s) :
    wpC (model prog w) A (comprehension e scope env pos newAcc false first none) Q E s := by
  unfold comprehension
  rw [hclos, hcl]
  refine wpC_first (wpAny_mono h (fun x s₁ h₁ => wpC_first (wpAny_standAt (wpC_first (wpAny_of_eq (hs x) (wpC_first (wpAny_holding (wpAny_mono h₁ (fun it s₂ h₂ => ?_) fun _ _ h' => h'))))))) fun _ _ h' => h')
  refine wpC_first (wpAny_mono h₂ (fun acc s₃ h₃ => wpC_first (wpAny_pure (wpC_first (wpAny_mono h₃ (fun cenv s₄ h₄ => ?_) fun _ _ h' => h')))) fun _ _ h' => h')
  dsimp only
  have hv : ∀ x ∈ (scope.names.filter fun x => (x.2 == .local || x.2 == .cell) && x.1 != (".0" : Str)).reverse, x.2 = .local →
      Env.kindOf { cenv with scope := relabel scope env } x.1 = some .local := fun x hx hl => lookup_relabel_local (hnames x (List.mem_filter.mp (List.mem_reverse.mp hx)).1 hl)
  refine wpC_holding (wpC_bind (wpC_attempt (wpC_holding (wpC_run (hq _ _ _) (codeC_mono h₄ fun r s' hr => ?_)))))
  cases r with
  | ok f =>
    obtain ⟨m, hn, hr⟩ := hr
    exact wpC_any (wpAny_bind (wpAny_holding (wpAny_comp_letGo (cenv := { cenv with scope := relabel scope env }) hkind _ s' m hv hn fun h' m' _ hs' => wpAny_pure (hr h' hs'))))
  | error x => exact hr.elim

/-- a list comprehension over a range, over the clean stacks -/
theorem listCompC {elt iter : Expr} {x : Str} {px : Pos} {scope : Scope} {cl : List (Str × Addr)} {pos : Pos} {Q : Value → Shared → Prop}
    (_F : Fr h₀ L s.heap m) (hh : A.handled = none) (hclos : closureFor scope env = pure cl) (hcell : ∀ y ∈ scope.names, y.2 ≠ .cell) (hkind : scope.kind = .function)
    (hnames : ∀ y ∈ scope.names, y.2 = .local → scope.names.lookup y.1 = some .local) (hx : scope.names.lookup x = some .local)
    (h : wpAny (model prog w) A (eval iter env) (fun xv s₁ => Halt (∃ r a b t u v n news, xv = .ref r ∧ Fr h₀ L s₁.heap m ∧ News h₀ L s₁.heap news ∧ IsRange s₁.heap r a b 1 t u v ∧ Builtin.Range.small a b 1 = true ∧ Builtin.Range.rangeSize a b 1 = ((n : Nat) : Int) ∧ n ≤ sizeLine ∧
      ∀ g, CompRestC prog w A h₀ L m env elt x scope cl { s₁ with heap := g } (fun i v => ∃ t, v = .int (a + (i : Int)) t) (LCg.FinE h₀ L m { s₁ with heap := g } Q) n 0 [] news)) E s)
    (hs : ∀ x, foldedSetIterable iter env x = pure x := by intro _; rfl) :
    wpC (model prog w) A (eval (.ListComp elt [⟨.Name x px, iter, [], 0⟩] scope pos) env) Q E s := by
  rw [eval_ListComp]
  refine comprehensionC rfl hs hclos hkind hnames (fun _ _ _ => rfl) (wpAny_mono h (fun xv s₁ h₁ => ?_) fun _ _ e => e)
  obtain ⟨r, a, b, t, u, v, n, news, rfl, F, N, hr, hsm, hn, hsz, R⟩ := h₁
  refine wpAny_pyIter_range hr hsm ?_
  refine blockC (RR := fun acc C r s' => match r with
          | .ok _ => ∃ m, s'.heap.Ns C m ∧ ∀ h', Heap.SameBut C s'.heap h' → Q acc { s' with heap := h' }
          | .error _ => False) (LCg.range_walks hh a n) hsz (fun i h st => ⟨_, st⟩) hcell hkind hx (by show IsRangeIter _ _ _ _ _; rw [hn]; simpa using Heap.get?_push_size _ rfl) ?_
      (F.keeps fun _ _ e => Heap.get?_push_of_some _ e) (N.grown fun _ _ e => Heap.get?_push_of_some _ e) (Nat.ne_of_lt F.ns.lt) (next_is_new F) (fun p hp => Nat.ne_of_lt (Heap.lt_size (N p hp).1)) (R _) ?_
  · show s₁.heap.objs.size < (s₁.heap.push _).objs.size
    rw [Heap.size_push]; exact Nat.lt_succ_self _
  · intro D C h tk m' ys news' F' N' o1 hn hC₀ hD₀ hCL hDL hCD offC fin
    refine ⟨m', hn, fun h'' hs'' => fin D h'' tk (F'.change hs'' hCL hC₀) (fun p hp => ?_) o1⟩
    refine ⟨hs''.extBut _ _ ?_ (N' p hp).1, (N' p hp).2⟩
    rcases List.mem_cons.mp hp with rfl | hp
    · exact Ne.symm hCD
    · exact offC p hp
end
end
section
set_option maxRecDepth 100000
section
variable {prog : Program} {w : World} {A : Around} {E : Value → Shared → Prop} {s : Shared} {env : Env} {R : Result → Shared → Prop}
/-- one turn of a for loop, over the clean stacks -/
theorem forTurnC {target : Expr} {it : Value} {body : List Stmt}
    (turn : wpAny (model prog w) A (pyNext it) (fun r s₁ => match r with
      | none => R (.ok .next) s₁
      | some v => wpAny (model prog w) A (letOwnedTupleGo target it v) (fun _ s₁' => wpAny (model prog w) A (assign target env v) (fun _ s₂ => wpC (model prog w) A (execs body env) (fun f s₃ => match f with
          | .next | .cont => codeC (model prog w) A (.forLoop target it body [] env) R s₃
          | .brk => R (.ok .next) s₃
          | .ret v => R (.ok (.ret v)) s₃) (fun _ _ => False) s₂) (fun _ _ => False) s₁') (fun _ _ => False) s₁) (fun _ _ => False) s) :
    codeC (model prog w) A (.forLoop target it body [] env) R s := by
  refine codeC_of_tree ?_
  show wpC _ A ((forTurn target it body [] env).onRaise (fun x => do noteFrame x env; theTreesLotGoes x)) _ _ s
  refine wpC_onRaise (wpC_mono (Q := fun fin s' => match fin with | .done f => R (.ok f) s' | .again c' => c'.quiet = true ∧ cleanC c' = true ∧ codeC (model prog w) A c' R s') (E := fun _ _ => False) ?_ (fun _ _ h => h) fun _ _ h => h.elim)
  simp only [forTurn]
  refine wpC_first (wpAny_standAt (wpC_first (wpAny_onRaise (wpAny_mono turn (fun r s₁ h₁ => ?_) fun _ _ h' => h'.elim))))
  cases r with
  | none => exact wpC_pure ⟨rfl, rfl, codeC_any (codeAny_block (wpAny_execs_nil h₁))⟩
  | some v =>
    refine wpC_first (wpAny_mono h₁ (fun _ s₁' h₁' => wpC_first (wpAny_mono h₁' (fun _ s₂ h₂ => wpC_bind (wpC_mono h₂ (fun f s₃ h₃ => ?_) fun _ _ h' => h')) fun _ _ h' => h')) fun _ _ h' => h')
    cases f with
    | next => exact wpC_pure ⟨rfl, rfl, h₃⟩
    | cont => exact wpC_pure ⟨rfl, rfl, h₃⟩
    | brk => exact wpC_pure h₃
    | ret v => exact wpC_pure h₃
theorem forC {target iter : Expr} {body : List Stmt} {pos : Pos} {Q : Flow → Shared → Prop}
    (h : wpAny (model prog w) A (eval iter env) (fun x s₁ => wpAny (model prog w) A (pyIter x) (fun it s₂ =>
      codeC (model prog w) A (.forLoop target it body [] env) (fun r s' => match r with | .ok f => Q f s' | .error _ => False) s₂) E s₁) E s)
    (hs : ∀ x, foldedSetIterable iter env x = pure x := by intro _; rfl) :
    wpC (model prog w) A (exec (.For target iter body [] pos) env) Q E s := by
  rw [exec_For]
  refine wpC_first (wpAny_standAt (wpC_first (wpAny_mono h (fun x s₁ h₁ => wpC_first (wpAny_of_eq (hs x) (wpC_first (wpAny_standAt (wpC_first (wpAny_holding
    (wpAny_mono h₁ (fun it s₂ h₂ => ?_) fun _ _ h' => h'))))))) fun _ _ h' => h')))
  unfold runOwn
  refine wpC_onRaise (wpC_mono (Q := Q) (E := fun _ _ => False) (wpC_run rfl (codeC_mono h₂ fun r s' hr => ?_)) (fun _ _ h => h) fun _ _ h => h.elim)
  cases r <;> exact hr
end
section
variable {prog : Program} {w : World} {A : Around} {E : Value → Shared → Prop} {s : Shared} {env : Env} {h₀ : Heap} {target : Expr} {body : List Stmt} {Q : Flow → Shared → Prop}
/-- the turns of a loop over a list, over the clean stacks -/
noncomputable def ListRestC (prog : Program) (w : World) (A : Around) (h₀ : Heap) (env : Env) (target : Expr) (body : List Stmt) (Q : Flow → Shared → Prop) (s : Shared) (I : Addr) (lp : Addr × Obj) : List Value → (Str → Option Value) → List (Addr × Obj) → Prop
  | [], m, news => ∀ h tk, Fr h₀ env.locals h m → News h₀ env.locals h news → Q .next { s with heap := h, toks := tk }
  | v :: r, m, news => ∀ (it : Obj) h tk, it.cls = .type "list_iterator" → Fr h₀ env.locals h m → News h₀ env.locals h ((I, it) :: news) →
      wpAny (model prog w) A (assign target env v) (fun _ s₂ => wpC (model prog w) A (execs body env) (UnrPost h₀ env.locals { s with heap := h, toks := tk } I it (fun m' n' => lp ∈ n' ∧ ListRestC prog w A h₀ env target body Q s I lp r m' n') Q) (fun _ _ => False) s₂) (fun _ _ => False) { s with heap := h, toks := tk }
theorem iter_listC {ax : Addr} {lo : Obj} {vs : List Value} {n : Nat} {m₀ : Str → Option Value} {news : List (Addr × Obj)}
    (hh : A.handled = none) (F : Fr h₀ env.locals s.heap m₀) (N : News h₀ env.locals s.heap news) (hm : (ax, lo) ∈ news) (hc : lo.cls = .type "list") (hd : lo.data = .seq vs.toArray n)
    (rest₀ : ∀ I : Addr, (∀ p ∈ news, p.1 < I) → ListRestC prog w A h₀ env target body Q s I (ax, lo) vs m₀ news) :
    wpAny (model prog w) A (pyIter (.ref ax)) (fun it s₂ => codeC (model prog w) A (.forLoop target it body [] env) (fun r s' => match r with | .ok f => Q f s' | .error _ => False) s₂) E s := by
  have hax := N _ hm
  have hl : s.heap.IsList ax vs.toArray := ⟨lo, hax.1, hc, n, hd⟩
  have hlt : ax < s.heap.objs.size := Heap.lt_size hax.1
  have hne : ax ≠ s.heap.objs.size := Nat.ne_of_lt hlt
  refine wpAny_pyIter_list hl ?_
  have rest := rest₀ s.heap.objs.size fun p hp => Heap.lt_size (N p hp).1
  have W := Walks.list (prog := prog) (w := w) hh s.heap.objs.size ax hne vs.toArray
  have hnew := next_is_new F
  have hlen : vs.toArray.size = vs.length := by simp
  rw [hlen] at W
  have hIL : env.locals ≠ s.heap.objs.size := Nat.ne_of_lt F.ns.lt
  have hoff₀ : ∀ p ∈ news, p.1 ≠ s.heap.objs.size := fun p hp => Nat.ne_of_lt (Heap.lt_size (N p hp).1)
  have loop : ∀ (k i : Nat) (h : Heap) (tk : Nat) (m : Str → Option Value) (news' : List (Addr × Obj)), i + k = vs.length → h.IsListIter s.heap.objs.size ax i ∧ h.IsList ax vs.toArray → Fr h₀ env.locals h m → News h₀ env.locals h news' →
      (∀ p ∈ news', p.1 ≠ s.heap.objs.size) → (ax, lo) ∈ news' → ListRestC prog w A h₀ env target body Q s s.heap.objs.size (ax, lo) (vs.drop i) m news' →
      codeC (model prog w) A (.forLoop target (.ref s.heap.objs.size) body [] env) (fun r s' => match r with | .ok f => Q f s' | .error _ => False) { s with heap := h, toks := tk } := by
    intro k
    induction k with
    | zero =>
      intro i h tk m news' hi hst F' N' off' hm' R'
      obtain rfl : i = vs.length := by omega
      refine forTurnC (W.done _ _ _ hst fun h₂ tk₂ hk₂ => ?_)
      rw [List.drop_length] at R'
      exact R' h₂ tk₂ (LCg.fr_but F' hk₂ hIL hnew) (LCg.news_but N' hk₂ off')
    | succ k ih =>
      intro i h tk m news' hi hst F' N' off' hm' R'
      have hlt' : i < vs.length := by omega
      refine forTurnC (W.item i _ _ _ hlt' hst fun v h₂ tk₂ hPv hst₂ hk₂ => ?_)
      have hdrop : vs.drop i = v :: vs.drop (i + 1) := by
        have hv : vs[i]? = some v := by simpa using hPv
        rw [List.drop_eq_getElem_cons hlt']
        congr 1
        exact Option.some.inj ((List.getElem?_eq_getElem hlt').symm.trans hv)
      rw [hdrop] at R'
      refine letGo_listiter hst₂.1 ?_
      obtain ⟨it, hit, hic, hid⟩ := hst₂.1
      have F₂ := LCg.fr_but F' hk₂ hIL hnew
      have N₂ := LCg.news_but N' hk₂ off'
      refine wpAny_mono (R' it h₂ tk₂ hic F₂ fun p hp => ?_) (fun _ s₂ h₃ => wpC_mono h₃ (fun f s₃ h₄ => ?_) fun _ _ e => e) fun _ _ e => e
      · rcases List.mem_cons.mp hp with rfl | hp
        · exact ⟨hit, Ne.symm hIL, hnew⟩
        · exact N₂ p hp
      · have up : UnrEnd h₀ env.locals { s with heap := h₂, toks := tk₂ } s.heap.objs.size it (fun m' n' => (ax, lo) ∈ n' ∧ ListRestC prog w A h₀ env target body Q s s.heap.objs.size (ax, lo) (vs.drop (i + 1)) m' n') s₃ →
            codeC (model prog w) A (.forLoop target (.ref s.heap.objs.size) body [] env) (fun r s' => match r with | .ok f => Q f s' | .error _ => False) s₃ := by
          rintro ⟨h', tk', m', news'', rfl, F'', N'', ho, hmm, r⟩
          refine ih (i + 1) h' tk' m' news'' (by omega) (W.frame _ _ _ hst₂ fun b hb o e => ?_) F'' (fun p hp => N'' p (.tail _ hp)) ho hmm r
          rcases List.mem_cons.mp hb with rfl | hb
          · rw [hit] at e; cases e; exact (N'' _ (.head _)).1
          · rw [List.mem_singleton.mp hb] at e ⊢
            rw [(N₂ _ hm').1] at e; cases e
            exact (N'' _ (.tail _ hmm)).1
        cases f with
        | ret v => exact h₄
        | brk => exact h₄
        | next => exact up h₄
        | cont => exact up h₄
  refine loop vs.length 0 _ _ m₀ news (by omega) ⟨⟨_, Heap.get?_push_size _ rfl, rfl, rfl⟩, hl.at fun o e => Heap.get?_push_of_some _ e⟩ (F.push _) (fun p hp => ⟨Heap.get?_push_of_some _ (N p hp).1, (N p hp).2⟩) hoff₀ hm (by rw [List.drop_zero]; exact rest)
end
section
variable {prog : Program} {w : World} {A : Around} {E : Value → Shared → Prop} {s : Shared} {env : Env} {h₀ : Heap} {x : Str} {px : Pos} {body : List Stmt} {Q : Flow → Shared → Prop}
theorem fr_congr {L : Addr} {h : Heap} {m m' : Str → Option Value} (F : Fr h₀ L h m) (e : ∀ y, m y = m' y) : Fr h₀ L h m' := (funext e : m = m') ▸ F
theorem list_restC {σ : Type} {I : Addr} {lp : Addr × Obj} {vs₀ : List Value} {m₀ : Str → Option Value} (Led : σ → List (Addr × Obj)) (P : Nat → σ → Prop) (hx : env.kindOf x = some .local)
    (hp : (env.scope.kind == .class || (env.scope.kind == .module && env.locals != env.globals)) = false) (hlp : ∀ c, lp ∈ Led c)
    (turn : ∀ (c : σ) (i : Nat) (v : Value) (it : Obj) h tk, vs₀[i]? = some v → P i c → it.cls = .type "list_iterator" → (∀ p ∈ Led c, p.1 ≠ I) →
      Fr h₀ env.locals h (fun y => if y = x then some v else m₀ y) → News h₀ env.locals h ((I, it) :: Led c) →
      wpC (model prog w) A (execs body env) (UnrPost h₀ env.locals { s with heap := h, toks := tk } I it (fun m' n' => ∃ c', n' = Led c' ∧ (∀ z, z ≠ x → m' z = m₀ z) ∧ P (i + 1) c') Q) (fun _ _ => False) { s with heap := h, toks := tk })
    (done : ∀ (c : σ) (u : Str → Option Value) h tk, P vs₀.length c → Fr h₀ env.locals h (fun y => if y = x then u y else m₀ y) → News h₀ env.locals h (Led c) → Q .next { s with heap := h, toks := tk }) :
    ∀ (vs : List Value) (i : Nat) (c : σ) (m : Str → Option Value), i ≤ vs₀.length → vs₀.drop i = vs → P i c → (∀ p ∈ Led c, p.1 ≠ I) → (∀ z, z ≠ x → m z = m₀ z) → ListRestC prog w A h₀ env (.Name x px) body Q s I lp vs m (Led c) := by
  intro vs
  induction vs with
  | nil =>
    intro i c m hle hd hP off hm h tk F N
    have hi : vs₀.length ≤ i := by simpa using hd
    obtain rfl : i = vs₀.length := Nat.le_antisymm hle hi
    refine done c m h tk hP (fr_congr F fun y => ?_) N
    by_cases e : y = x
    · rw [if_pos e]
    · rw [if_neg e]; exact hm y e
  | cons v r ih =>
    intro i c m _ hd hP off hm it h tk hic F N
    have hlt : i < vs₀.length := by
      apply Nat.lt_of_not_le; intro hge
      rw [List.drop_eq_nil_of_le hge] at hd; cases hd
    rw [List.drop_eq_getElem_cons hlt] at hd
    injection hd with hv hr
    refine wpAny_assign_Name (wpAny_storeName_local hx F.ns (fun h₂ hn₂ hs₂ => ?_) hp)
    have F₂ := F.set hn₂ hs₂
    have N₂ := N.set hs₂
    refine wpC_mono (turn c i v it h₂ _ (by rw [List.getElem?_eq_getElem hlt, hv]) hP hic off (fr_congr F₂ fun y => ?_) N₂) (fun f s₂ h₃ => ?_) fun _ _ e => e
    · by_cases e : y = x
      · rw [if_pos e, if_pos e]
      · rw [if_neg e, if_neg e]; exact hm y e
    · have up : UnrEnd h₀ env.locals { s with heap := h₂, toks := tk } I it (fun m' n' => ∃ c', n' = Led c' ∧ (∀ z, z ≠ x → m' z = m₀ z) ∧ P (i + 1) c') s₂ →
          UnrEnd h₀ env.locals { s with heap := h, toks := tk } I it (fun m' n' => lp ∈ n' ∧ ListRestC prog w A h₀ env (.Name x px) body Q s I lp r m' n') s₂ := by
        rintro ⟨h', tk', m', news', rfl, F', N', ho, c', rfl, hm', hP'⟩
        exact ⟨h', tk', m', _, rfl, F', N', ho, hlp c', ih (i + 1) c' m' hlt hr hP' ho hm'⟩
      cases f with
      | ret v => exact h₃
      | brk => exact h₃
      | next => exact up h₃
      | cont => exact up h₃
end
end
section
set_option maxRecDepth 100000
set_option maxHeartbeats 4000000
example : (PySem.Challenge.rw_ln0030_01, hd.heap_1) = (PySem.Challenge.rw_ln0030_01, hd.heap_1) := by
  k_fill
  w_top off
  rfl
local macro_rules | `(tactic| k_call_by "at" $t $s) => `(tactic| ((with_reducible show wpAny _ _ (getAttr (Value.ref _) (PySem.Str.ofString $s) _) _ _ _); with_reducible refine $t (by assumption) (by k_asm) (by k_asm) ?_; intro _))
local macro_rules | `(tactic| k_call_by "me" $t $s) => `(tactic| ((with_reducible show wpAny _ _ (getMethod (Value.ref _) (PySem.Str.ofString $s) _) _ _ _); with_reducible refine $t (by assumption) (by k_asm) (by k_asm) ?_))
local macro_rules | `(tactic| walk_at "getAttr ref") => `(tactic| first | k_call_by "at" at_min "min" | k_call_by "at" at_max "max" | k_call_by "at" at_mask "mask" | k_call_by "at" at_mask_sign "mask_sign" | k_call_by "at" at_byte_length "byte_length" | k_call_by "at" at_bits_length "bits_length")
local macro_rules | `(tactic| walk_at "getMethod ref") => `(tactic| first | k_call_by "me" me_fit "fit" | k_call_by "me" me_sat "sat" | k_call_by "me" me_add_sat "add_sat" | k_call_by "me" me_add "add" | k_call_by "me" me_sub_sat "sub_sat" | k_call_by "me" me_sub "sub" | k_call_by "me" me_mul "mul" | k_call_by "me" me_div "div" | k_call_by "me" me_rem "rem" | k_call_by "me" me_shl "shl" | k_call_by "me" me_shr "shr" | k_call_by "me" me_rotl "rotl" | k_call_by "me" me_rotr "rotr" | k_call_by "me" me_clz "clz" | k_call_by "me" me_ctz "ctz" | k_call_by "me" me_from_bytearray "from_bytearray" | k_call_by "me" me_into_bytearray "into_bytearray")
local macro_rules | `(tactic| k_call_by "I" $t) => `(tactic| k_dflt ((refine Spec.useI $t (by k_asm) (by k_asm) (by k_asm) (by k_asm) (by k_asm) rfl rfl (Nat.le_of_ble_eq_true rfl) (Nat.le_of_ble_eq_true rfl) (by first | exact rfl | assumption) (by walk_at "mine need") ?_); intro t9 h9 tk9 F9 N9; (try k_sweep); (try dsimp only)))
local macro_rules | `(tactic| k_call_by "P" $t) => `(tactic| k_dflt ((refine Spec.useP $t (by k_asm) (by k_asm) (by k_asm) (by k_asm) (by k_asm) rfl rfl (Nat.le_of_ble_eq_true rfl) (Nat.le_of_ble_eq_true rfl) (by first | exact rfl | assumption) (by walk_at "mine need") ?_); intro u9 t9 h9 tk9 hu9 F9 N9; (try k_sweep); (try dsimp only)))
local macro_rules | `(tactic| walk_at "eval Name") => `(tactic| k_dflt ((refine' nameX_L ?F ?v ?_ ?a ?b; (case F => k_asm); (case a => rfl); (case b => rfl); (case v => exact Eq.refl (some _)); k_whole)))
local macro_rules | `(tactic| walk_at "storeName") => `(tactic| k_dflt ((refine' storeX_I ?F ?N ?_ ?a ?b; (case F => k_asm); (case N => k_asm); (case a => rfl); (case b => rfl); k_whole); intro h' tk' t' F' N'; (try k_sweep)))
local macro_rules | `(tactic| walk_at "mine need") => `(tactic| first | exact sub_nil | (refine' sub_cons ?m1 ?m2; (case m1 => k_mem); (case m2 => walk_at "mine need")))
local macro_rules | `(tactic| walk_at "mine cj") => `(tactic| first | exact And.left (by first | with_reducible assumption | exact And.right (by first | with_reducible assumption | exact And.right (by first | with_reducible assumption | exact And.right (by first | with_reducible assumption | exact And.right (by first | with_reducible assumption | exact And.right (by first | with_reducible assumption | exact And.right (by first | with_reducible assumption | exact And.right (by first | with_reducible assumption | exact And.right (by first | with_reducible assumption | exact And.right (by first | with_reducible assumption | exact And.right (by first | with_reducible assumption | exact And.right (by first | with_reducible assumption | exact And.right (by first | with_reducible assumption | exact And.right (by with_reducible assumption)))))))))))))))
local macro_rules | `(tactic| walk_at "mine cjr") => `(tactic| exact And.right (by first | with_reducible assumption | exact And.right (by first | with_reducible assumption | exact And.right (by first | with_reducible assumption | exact And.right (by first | with_reducible assumption | exact And.right (by first | with_reducible assumption | exact And.right (by first | with_reducible assumption | exact And.right (by first | with_reducible assumption | exact And.right (by first | with_reducible assumption | exact And.right (by first | with_reducible assumption | exact And.right (by first | with_reducible assumption | exact And.right (by first | with_reducible assumption | exact And.right (by first | with_reducible assumption | exact And.right (by first | with_reducible assumption | exact And.right (by with_reducible assumption)))))))))))))))
local macro_rules | `(tactic| k_ne) => `(tactic| (refine neN ?_; (try dsimp only); first | with_reducible assumption | (with_reducible exact Ne.symm (by assumption)) | (with_reducible exact Nat.ne_of_lt (by assumption)) | (with_reducible exact Nat.ne_of_gt (by assumption)) | exact Nat.succ_ne_self _ | exact Ne.symm (Nat.succ_ne_self _) | (with_reducible exact Nat.ne_of_lt (Nat.lt_succ_of_lt (by assumption))) | (with_reducible exact Nat.ne_of_gt (Nat.lt_succ_of_lt (by assumption))) | (with_reducible exact Nat.ne_of_lt (Nat.lt_succ_of_lt (Nat.lt_succ_of_lt (by assumption)))) | (with_reducible exact Nat.ne_of_gt (Nat.lt_succ_of_lt (Nat.lt_succ_of_lt (by assumption)))) | exact Ne.symm (by walk_at "mine cj") | exact Nat.ne_of_lt (by walk_at "mine cj") | exact Nat.ne_of_gt (by walk_at "mine cj") | walk_at "mine cj" | exact Nat.ne_of_lt (by walk_at "mine cjr") | exact Nat.ne_of_gt (by walk_at "mine cjr") | exact Nat.ne_of_lt (Nat.lt_succ_of_lt (by walk_at "mine cj")) | exact Nat.ne_of_gt (Nat.lt_succ_of_lt (by walk_at "mine cj")) | exact Nat.ne_of_lt (Nat.lt_succ_of_lt (Nat.lt_succ_of_lt (by walk_at "mine cj"))) | exact Nat.ne_of_gt (Nat.lt_succ_of_lt (Nat.lt_succ_of_lt (by walk_at "mine cj"))) | exact Nat.ne_of_lt (Nat.lt_succ_of_lt (by walk_at "mine cjr")) | exact Nat.ne_of_gt (Nat.lt_succ_of_lt (by walk_at "mine cjr")) | exact Nat.ne_of_lt (Nat.lt_succ_of_lt (Nat.lt_succ_of_lt (by walk_at "mine cjr"))) | exact Nat.ne_of_gt (Nat.lt_succ_of_lt (Nat.lt_succ_of_lt (by walk_at "mine cjr"))) | omega))
section
set_option maxRecDepth 100000
set_option maxHeartbeats 4000000
theorem Kind.le8 {x : Addr} {sz : Nat} (KI : Kind x sz) : sz ≤ 8 := by cases KI <;> decide
theorem Kind.pos {x : Addr} {sz : Nat} (KI : Kind x sz) : 0 < sz := by cases KI <;> decide
section
variable {prog : Program} {w : World} {A : Around} {E : Value → Shared → Prop} {s : Shared} {x : Addr} {sz k : Nat} {a b : Int} {t u : Tok} {Q : Value → Shared → Prop}
theorem op_mask (h : Q (.int (a % 2 ^ (8 * sz)) s.toks) { s with toks := s.toks + 1 }) : wpAny (model prog w) A (binaryOp .BitAnd (.int a t) (.int (2 ^ (8 * sz) - 1) u)) Q E s :=
  and_int (by rw [kbt_mask]; exact h)
theorem turn_and (KI : Kind x sz) (hb : b = (k : Int)) (hk : k < 8 * sz) : Builtin.bitAnd b (((8 * sz : Nat) : Int) - 1) = (k : Int) := by
  subst hb
  cases KI
  · show Builtin.bitAnd _ (2 ^ 3 - 1) = _
    rw [kbt_mask]; omega
  · show Builtin.bitAnd _ (2 ^ 4 - 1) = _
    rw [kbt_mask]; omega
  · show Builtin.bitAnd _ (2 ^ 6 - 1) = _
    rw [kbt_mask]; omega
theorem op_turn (KI : Kind x sz) (hb : b = (k : Int)) (hk : k < 8 * sz) (h : Q (.int (k : Int) s.toks) { s with toks := s.toks + 1 }) : wpAny (model prog w) A (binaryOp .BitAnd (.int b t) (.int (((8 * sz : Nat) : Int) - 1) u)) Q E s :=
  and_int (by rw [turn_and KI hb hk]; exact h)
theorem op_turnM (hb : b = (k : Int)) (hk : k < 8 * sz) (h : Q (.int (k : Int) s.toks) { s with toks := s.toks + 1 }) : wpAny (model prog w) A (binaryOp .Mod (.int b t) (.int ((8 * sz : Nat) : Int) u)) Q E s := by
  subst hb
  refine mod_int' (by omega) ?_
  rw [Int.fmod_eq_emod_of_nonneg _ (by omega), Int.emod_eq_of_lt (by omega) (by omega)]; exact h
theorem op_shl (KI : Kind x sz) (ha : R sz a) (hk : k < 8 * sz) (h : Q (.int (a * 2 ^ k) s.toks) { s with toks := s.toks + 1 }) : wpAny (model prog w) A (binaryOp .LShift (.int a t) (.int (k : Int) u)) Q E s :=
  lshift_int (Int.natCast_nonneg _) (ha.shlOk (Nat.le_of_lt hk) KI.le8) (by rw [Int.toNat_natCast]; exact h)
theorem op_shlS (KI : Kind x sz) (ha : R sz a) (hk : k < 8 * sz) (h : Q (.int (a * 2 ^ (8 * sz - k)) s.toks) { s with toks := s.toks + 1 }) : wpAny (model prog w) A (binaryOp .LShift (.int a t) (.int (((8 * sz : Nat) : Int) - (k : Int)) u)) Q E s := by
  rw [show ((8 * sz : Nat) : Int) - (k : Int) = ((8 * sz - k : Nat) : Int) by omega]
  exact lshift_int (Int.natCast_nonneg _) (ha.shlOk (Nat.sub_le _ _) KI.le8) (by rw [Int.toNat_natCast]; exact h)
theorem op_shr (h : Q (.int (a / 2 ^ k) s.toks) { s with toks := s.toks + 1 }) : wpAny (model prog w) A (binaryOp .RShift (.int a t) (.int (k : Int) u)) Q E s :=
  rshift_int (Int.natCast_nonneg _) (by rw [Int.toNat_natCast, Int.fdiv_eq_ediv_of_nonneg _ (Int.le_of_lt (two_pos k))]; exact h)
theorem op_shrS (hk : k < 8 * sz) (h : Q (.int (a / 2 ^ (8 * sz - k)) s.toks) { s with toks := s.toks + 1 }) : wpAny (model prog w) A (binaryOp .RShift (.int a t) (.int (((8 * sz : Nat) : Int) - (k : Int)) u)) Q E s := by
  rw [show ((8 * sz : Nat) : Int) - (k : Int) = ((8 * sz - k : Nat) : Int) by omega]
  exact op_shr h
theorem op_mul (KI : Kind x sz) (ha : R sz a) (hb : R sz b) (h : Q (.int (a * b) s.toks) { s with toks := s.toks + 1 }) : wpAny (model prog w) A (binaryOp .Mult (.int a t) (.int b u)) Q E s :=
  mul_int h (ha.mulOk hb KI.le8)
theorem noPy {y : Int} (h0 : 0 < y) (h : Builtin.Int.intBits y ≤ 9000) : Builtin.divisionGoesByPylong a y = false := by
  refine PyProof.noPylong_of_log2 ?_
  unfold Builtin.Int.intBits at h
  rw [if_neg (by simp; omega)] at h; omega
theorem op_div (hb : 0 < b) (hz : Builtin.Int.intBits b ≤ 9000) (h : Q (.int (a / b) s.toks) { s with toks := s.toks + 1 }) : wpAny (model prog w) A (binaryOp .FloorDiv (.int a t) (.int b u)) Q E s :=
  floordiv_int (by omega) (by rw [Int.fdiv_eq_ediv_of_nonneg _ (by omega)]; exact h) (.inl (noPy hb hz))
theorem op_mod (hb : 0 < b) (h : Q (.int (a % b) s.toks) { s with toks := s.toks + 1 }) : wpAny (model prog w) A (binaryOp .Mod (.int a t) (.int b u)) Q E s :=
  mod_int' (by omega) (by rw [Int.fmod_eq_emod_of_nonneg _ (by omega)]; exact h)
end
local macro_rules | `(tactic| walk_at "binaryOp BitAnd int int") => `(tactic| first | (with_reducible refine op_turn (by assumption) (by assumption) (by assumption) ?_) | (with_reducible refine op_mask ?_))
local macro_rules | `(tactic| walk_at "binaryOp Mod int int") => `(tactic| (with_reducible refine op_turnM (by assumption) (by assumption) ?_))
local macro_rules | `(tactic| walk_at "binaryOp LShift int int") => `(tactic| first | (with_reducible refine op_shlS (by assumption) (by assumption) (by assumption) ?_) | (with_reducible refine op_shl (by assumption) (by assumption) (by assumption) ?_))
local macro_rules | `(tactic| walk_at "binaryOp RShift int int") => `(tactic| first | (with_reducible refine op_shrS (by assumption) ?_) | (with_reducible refine op_shr ?_))
theorem fit_spec (w : World) {x : Addr} {sz : Nat} (KI : Kind x sz) (n : Int) (tn : Tok) :
    Spec w 440 900 56 [.ref x, .int n tn] [] (fun r tl => PI (n % 2 ^ (8 * sz)) r tl) := by
  intro prog mean mg mb cn cs a₀ ccd cl outer A₀ base h₀ L m s Q E B F X N T hk ret
  refine wpAny_call ?_
  k_dflt (refine' enter (binds := [(Str.ofString "self", .ref x), (Str.ofString "n", .int n tn)]) ?k1 ?k2 ?k3 ?k4 ?k5 ?kA ?kF ?kK ?k6 ?k7 ?k8 ?k9 ?kB ?_ ?c2 ?c3 ?c4 ?c5; (case kA => exact rfl); (case kF => exact rfl); (case kK => assumption); (case k1 => k_asm); (case k2 => k_asm); (case k3 => k_asm); (case k4 => k_asm); (case k5 => k_asm); (case k6 => k_is); (case k7 => k_is); (case k8 => exact Nat.le_of_ble_eq_true rfl); (case k9 => exact BindsTo.of_eq rfl); (case c5 => decide); (case kB => exact locs rfl); (case c2 => exact rfl); (case c3 => exact rfl); (case c4 => exact rfl); k_whole)
  intro g' L' h' G1 G2 F' N' B' X' T'
  clear B F X T hk
  dsimp only
  k_fold
  k_steps
  all_goals ((try dsimp only); refine fin0 ret G1 G2 N (by k_asm) (by k_asm) (by walk_at "mine need") (pi_mk ?_))
  all_goals rfl
theorem sat_spec (w : World) {x : Addr} {sz : Nat} (KI : Kind x sz) (n : Int) (tn : Tok) :
    Spec w 440 900 63 [.ref x, .int n tn] [] (fun r tl => PI (max (min n (2 ^ (8 * sz) - 1)) 0) r tl) := by
  intro prog mean mg mb cn cs a₀ ccd cl outer A₀ base h₀ L m s Q E B F X N T hk ret
  refine wpAny_call ?_
  k_dflt (refine' enter (binds := [(Str.ofString "self", .ref x), (Str.ofString "n", .int n tn)]) ?k1 ?k2 ?k3 ?k4 ?k5 ?kA ?kF ?kK ?k6 ?k7 ?k8 ?k9 ?kB ?_ ?c2 ?c3 ?c4 ?c5; (case kA => exact rfl); (case kF => exact rfl); (case kK => assumption); (case k1 => k_asm); (case k2 => k_asm); (case k3 => k_asm); (case k4 => k_asm); (case k5 => k_asm); (case k6 => k_is); (case k7 => k_is); (case k8 => exact Nat.le_of_ble_eq_true rfl); (case k9 => exact BindsTo.of_eq rfl); (case c5 => decide); (case kB => exact locs rfl); (case c2 => exact rfl); (case c3 => exact rfl); (case c4 => exact rfl); k_whole)
  intro g' L' h' G1 G2 F' N' B' X' T'
  clear B F X T hk
  dsimp only
  k_fold
  k_steps
  all_goals ((try dsimp only); refine fin0 ret G1 G2 N (by k_asm) (by k_asm) (by walk_at "mine need") (pi_mk ?_))
  all_goals (generalize (2 : Int) ^ (8 * sz) = W9; (repeat' split) <;> omega)
local macro_rules | `(tactic| walk_at "call ref") => `(tactic| ((with_reducible show wpAny _ _ (call (Value.ref 56) _ _) _ _ _); k_call_by "I" (fit_spec _ (by assumption) _ _)))
local macro_rules | `(tactic| walk_at "call ref") => `(tactic| ((with_reducible show wpAny _ _ (call (Value.ref 63) _ _) _ _ _); k_call_by "I" (sat_spec _ (by assumption) _ _)))
theorem add_spec (w : World) {x : Addr} {sz : Nat} (KI : Kind x sz) (a b : Int) (ta tb : Tok) :
    Spec w 439 880 70 [.ref x, .int a ta, .int b tb] [] (fun r tl => PI ((a + b) % 2 ^ (8 * sz)) r tl) := by
  intro prog mean mg mb cn cs a₀ ccd cl outer A₀ base h₀ L m s Q E B F X N T hk ret
  refine wpAny_call ?_
  k_dflt (refine' enter (binds := [(Str.ofString "self", .ref x), (Str.ofString "a", .int a ta), (Str.ofString "b", .int b tb)]) ?k1 ?k2 ?k3 ?k4 ?k5 ?kA ?kF ?kK ?k6 ?k7 ?k8 ?k9 ?kB ?_ ?c2 ?c3 ?c4 ?c5; (case kA => exact rfl); (case kF => exact rfl); (case kK => assumption); (case k1 => k_asm); (case k2 => k_asm); (case k3 => k_asm); (case k4 => k_asm); (case k5 => k_asm); (case k6 => k_is); (case k7 => k_is); (case k8 => exact Nat.le_of_ble_eq_true rfl); (case k9 => exact BindsTo.of_eq rfl); (case c5 => decide); (case kB => exact locs rfl); (case c2 => exact rfl); (case c3 => exact rfl); (case c4 => exact rfl); k_whole)
  intro g' L' h' G1 G2 F' N' B' X' T'
  clear B F X T hk
  dsimp only
  k_fold
  k_steps
  all_goals ((try dsimp only); refine fin0 ret G1 G2 N (by k_asm) (by k_asm) (by walk_at "mine need") (pi_mk ?_))
  all_goals rfl
theorem add_sat_spec (w : World) {x : Addr} {sz : Nat} (KI : Kind x sz) (a b : Int) (ta tb : Tok) :
    Spec w 439 880 77 [.ref x, .int a ta, .int b tb] [] (fun r tl => PI (max (min (a + b) (2 ^ (8 * sz) - 1)) 0) r tl) := by
  intro prog mean mg mb cn cs a₀ ccd cl outer A₀ base h₀ L m s Q E B F X N T hk ret
  refine wpAny_call ?_
  k_dflt (refine' enter (binds := [(Str.ofString "self", .ref x), (Str.ofString "a", .int a ta), (Str.ofString "b", .int b tb)]) ?k1 ?k2 ?k3 ?k4 ?k5 ?kA ?kF ?kK ?k6 ?k7 ?k8 ?k9 ?kB ?_ ?c2 ?c3 ?c4 ?c5; (case kA => exact rfl); (case kF => exact rfl); (case kK => assumption); (case k1 => k_asm); (case k2 => k_asm); (case k3 => k_asm); (case k4 => k_asm); (case k5 => k_asm); (case k6 => k_is); (case k7 => k_is); (case k8 => exact Nat.le_of_ble_eq_true rfl); (case k9 => exact BindsTo.of_eq rfl); (case c5 => decide); (case kB => exact locs rfl); (case c2 => exact rfl); (case c3 => exact rfl); (case c4 => exact rfl); k_whole)
  intro g' L' h' G1 G2 F' N' B' X' T'
  clear B F X T hk
  dsimp only
  k_fold
  k_steps
  all_goals ((try dsimp only); refine fin0 ret G1 G2 N (by k_asm) (by k_asm) (by walk_at "mine need") (pi_mk ?_))
  all_goals rfl
theorem sub_spec (w : World) {x : Addr} {sz : Nat} (KI : Kind x sz) (a b : Int) (ta tb : Tok) :
    Spec w 439 880 84 [.ref x, .int a ta, .int b tb] [] (fun r tl => PI ((a - b) % 2 ^ (8 * sz)) r tl) := by
  intro prog mean mg mb cn cs a₀ ccd cl outer A₀ base h₀ L m s Q E B F X N T hk ret
  refine wpAny_call ?_
  k_dflt (refine' enter (binds := [(Str.ofString "self", .ref x), (Str.ofString "a", .int a ta), (Str.ofString "b", .int b tb)]) ?k1 ?k2 ?k3 ?k4 ?k5 ?kA ?kF ?kK ?k6 ?k7 ?k8 ?k9 ?kB ?_ ?c2 ?c3 ?c4 ?c5; (case kA => exact rfl); (case kF => exact rfl); (case kK => assumption); (case k1 => k_asm); (case k2 => k_asm); (case k3 => k_asm); (case k4 => k_asm); (case k5 => k_asm); (case k6 => k_is); (case k7 => k_is); (case k8 => exact Nat.le_of_ble_eq_true rfl); (case k9 => exact BindsTo.of_eq rfl); (case c5 => decide); (case kB => exact locs rfl); (case c2 => exact rfl); (case c3 => exact rfl); (case c4 => exact rfl); k_whole)
  intro g' L' h' G1 G2 F' N' B' X' T'
  clear B F X T hk
  dsimp only
  k_fold
  k_steps
  all_goals ((try dsimp only); refine fin0 ret G1 G2 N (by k_asm) (by k_asm) (by walk_at "mine need") (pi_mk ?_))
  all_goals rfl
theorem sub_sat_spec (w : World) {x : Addr} {sz : Nat} (KI : Kind x sz) (a b : Int) (ta tb : Tok) :
    Spec w 439 880 91 [.ref x, .int a ta, .int b tb] [] (fun r tl => PI (max (min (a - b) (2 ^ (8 * sz) - 1)) 0) r tl) := by
  intro prog mean mg mb cn cs a₀ ccd cl outer A₀ base h₀ L m s Q E B F X N T hk ret
  refine wpAny_call ?_
  k_dflt (refine' enter (binds := [(Str.ofString "self", .ref x), (Str.ofString "a", .int a ta), (Str.ofString "b", .int b tb)]) ?k1 ?k2 ?k3 ?k4 ?k5 ?kA ?kF ?kK ?k6 ?k7 ?k8 ?k9 ?kB ?_ ?c2 ?c3 ?c4 ?c5; (case kA => exact rfl); (case kF => exact rfl); (case kK => assumption); (case k1 => k_asm); (case k2 => k_asm); (case k3 => k_asm); (case k4 => k_asm); (case k5 => k_asm); (case k6 => k_is); (case k7 => k_is); (case k8 => exact Nat.le_of_ble_eq_true rfl); (case k9 => exact BindsTo.of_eq rfl); (case c5 => decide); (case kB => exact locs rfl); (case c2 => exact rfl); (case c3 => exact rfl); (case c4 => exact rfl); k_whole)
  intro g' L' h' G1 G2 F' N' B' X' T'
  clear B F X T hk
  dsimp only
  k_fold
  k_steps
  all_goals ((try dsimp only); refine fin0 ret G1 G2 N (by k_asm) (by k_asm) (by walk_at "mine need") (pi_mk ?_))
  all_goals rfl
theorem shl_spec (w : World) {x : Addr} {sz : Nat} (KI : Kind x sz) (a b : Int) (ta tb : Tok) {k : Nat} (ha : R sz a) (hb : b = (k : Int)) (hk : k < 8 * sz) :
    Spec w 439 880 119 [.ref x, .int a ta, .int b tb] [] (fun r tl => PI ((a * 2 ^ k) % 2 ^ (8 * sz)) r tl) := by
  intro prog mean mg mb cn cs a₀ ccd cl outer A₀ base h₀ L m s Q E B F X N T hk ret
  refine wpAny_call ?_
  k_dflt (refine' enter (binds := [(Str.ofString "self", .ref x), (Str.ofString "a", .int a ta), (Str.ofString "b", .int b tb)]) ?k1 ?k2 ?k3 ?k4 ?k5 ?kA ?kF ?kK ?k6 ?k7 ?k8 ?k9 ?kB ?_ ?c2 ?c3 ?c4 ?c5; (case kA => exact rfl); (case kF => exact rfl); (case kK => assumption); (case k1 => k_asm); (case k2 => k_asm); (case k3 => k_asm); (case k4 => k_asm); (case k5 => k_asm); (case k6 => k_is); (case k7 => k_is); (case k8 => exact Nat.le_of_ble_eq_true rfl); (case k9 => exact BindsTo.of_eq rfl); (case c5 => decide); (case kB => exact locs rfl); (case c2 => exact rfl); (case c3 => exact rfl); (case c4 => exact rfl); k_whole)
  intro g' L' h' G1 G2 F' N' B' X' T'
  clear B F X T hk
  dsimp only
  k_fold
  k_steps
  all_goals ((try dsimp only); refine fin0 ret G1 G2 N (by k_asm) (by k_asm) (by walk_at "mine need") (pi_mk ?_))
  all_goals rfl
theorem shr_spec (w : World) {x : Addr} {sz : Nat} (KI : Kind x sz) (a b : Int) (ta tb : Tok) {k : Nat} (ha : R sz a) (hb : b = (k : Int)) (hk : k < 8 * sz) :
    Spec w 439 880 126 [.ref x, .int a ta, .int b tb] [] (fun r tl => PI (a / 2 ^ k) r tl) := by
  intro prog mean mg mb cn cs a₀ ccd cl outer A₀ base h₀ L m s Q E B F X N T hk ret
  refine wpAny_call ?_
  k_dflt (refine' enter (binds := [(Str.ofString "self", .ref x), (Str.ofString "a", .int a ta), (Str.ofString "b", .int b tb)]) ?k1 ?k2 ?k3 ?k4 ?k5 ?kA ?kF ?kK ?k6 ?k7 ?k8 ?k9 ?kB ?_ ?c2 ?c3 ?c4 ?c5; (case kA => exact rfl); (case kF => exact rfl); (case kK => assumption); (case k1 => k_asm); (case k2 => k_asm); (case k3 => k_asm); (case k4 => k_asm); (case k5 => k_asm); (case k6 => k_is); (case k7 => k_is); (case k8 => exact Nat.le_of_ble_eq_true rfl); (case k9 => exact BindsTo.of_eq rfl); (case c5 => decide); (case kB => exact locs rfl); (case c2 => exact rfl); (case c3 => exact rfl); (case c4 => exact rfl); k_whole)
  intro g' L' h' G1 G2 F' N' B' X' T'
  clear B F X T hk
  dsimp only
  k_fold
  k_steps
  all_goals ((try dsimp only); refine fin0 ret G1 G2 N (by k_asm) (by k_asm) (by walk_at "mine need") (pi_mk ?_))
  all_goals (have q := shr_lt (k := k) ha; exact Int.emod_eq_of_lt q.1 q.2)
theorem rotl_spec (w : World) {x : Addr} {sz : Nat} (KI : Kind x sz) (a b : Int) (ta tb : Tok) {k : Nat} (ha : R sz a) (hb : b = (k : Int)) (hk : k < 8 * sz) :
    Spec w 439 880 133 [.ref x, .int a ta, .int b tb] [] (fun r tl => PI ((a * 2 ^ k) % 2 ^ (8 * sz) + a / 2 ^ (8 * sz - k)) r tl) := by
  intro prog mean mg mb cn cs a₀ ccd cl outer A₀ base h₀ L m s Q E B F X N T hk ret
  refine wpAny_call ?_
  k_dflt (refine' enter (binds := [(Str.ofString "self", .ref x), (Str.ofString "a", .int a ta), (Str.ofString "b", .int b tb)]) ?k1 ?k2 ?k3 ?k4 ?k5 ?kA ?kF ?kK ?k6 ?k7 ?k8 ?k9 ?kB ?_ ?c2 ?c3 ?c4 ?c5; (case kA => exact rfl); (case kF => exact rfl); (case kK => assumption); (case k1 => k_asm); (case k2 => k_asm); (case k3 => k_asm); (case k4 => k_asm); (case k5 => k_asm); (case k6 => k_is); (case k7 => k_is); (case k8 => exact Nat.le_of_ble_eq_true rfl); (case k9 => exact BindsTo.of_eq rfl); (case c5 => decide); (case kB => exact locs rfl); (case c2 => exact rfl); (case c3 => exact rfl); (case c4 => exact rfl); k_whole)
  intro g' L' h' G1 G2 F' N' B' X' T'
  clear B F X T hk
  dsimp only
  k_fold
  k_steps
  all_goals ((try dsimp only); refine fin0 ret G1 G2 N (by k_asm) (by k_asm) (by walk_at "mine need") (pi_mk ?_))
  all_goals exact rotl_val (Nat.le_of_lt hk) ha.1 ha.2
theorem rotr_spec (w : World) {x : Addr} {sz : Nat} (KI : Kind x sz) (a b : Int) (ta tb : Tok) {k : Nat} (ha : R sz a) (hb : b = (k : Int)) (hk : k < 8 * sz) :
    Spec w 439 880 140 [.ref x, .int a ta, .int b tb] [] (fun r tl => PI (a / 2 ^ k + (a * 2 ^ (8 * sz - k)) % 2 ^ (8 * sz)) r tl) := by
  intro prog mean mg mb cn cs a₀ ccd cl outer A₀ base h₀ L m s Q E B F X N T hk ret
  refine wpAny_call ?_
  k_dflt (refine' enter (binds := [(Str.ofString "self", .ref x), (Str.ofString "a", .int a ta), (Str.ofString "b", .int b tb)]) ?k1 ?k2 ?k3 ?k4 ?k5 ?kA ?kF ?kK ?k6 ?k7 ?k8 ?k9 ?kB ?_ ?c2 ?c3 ?c4 ?c5; (case kA => exact rfl); (case kF => exact rfl); (case kK => assumption); (case k1 => k_asm); (case k2 => k_asm); (case k3 => k_asm); (case k4 => k_asm); (case k5 => k_asm); (case k6 => k_is); (case k7 => k_is); (case k8 => exact Nat.le_of_ble_eq_true rfl); (case k9 => exact BindsTo.of_eq rfl); (case c5 => decide); (case kB => exact locs rfl); (case c2 => exact rfl); (case c3 => exact rfl); (case c4 => exact rfl); k_whole)
  intro g' L' h' G1 G2 F' N' B' X' T'
  clear B F X T hk
  dsimp only
  k_fold
  k_steps
  all_goals ((try dsimp only); refine fin0 ret G1 G2 N (by k_asm) (by k_asm) (by walk_at "mine need") (pi_mk ?_))
  all_goals exact rotr_val (Nat.le_of_lt hk) ha.1 ha.2
local macro_rules | `(tactic| walk_at "binaryOp Mult int int") => `(tactic| ((with_reducible refine op_mul (by assumption) (by assumption) (by assumption) ?_)))
theorem mul_spec (w : World) {x : Addr} {sz : Nat} (KI : Kind x sz) (a b : Int) (ta tb : Tok) (ha : R sz a) (hb : R sz b) :
    Spec w 439 880 98 [.ref x, .int a ta, .int b tb] [] (fun r tl => PI ((a * b) % 2 ^ (8 * sz)) r tl) := by
  intro prog mean mg mb cn cs a₀ ccd cl outer A₀ base h₀ L m s Q E B F X N T hk ret
  refine wpAny_call ?_
  k_dflt (refine' enter (binds := [(Str.ofString "self", .ref x), (Str.ofString "a", .int a ta), (Str.ofString "b", .int b tb)]) ?k1 ?k2 ?k3 ?k4 ?k5 ?kA ?kF ?kK ?k6 ?k7 ?k8 ?k9 ?kB ?_ ?c2 ?c3 ?c4 ?c5; (case kA => exact rfl); (case kF => exact rfl); (case kK => assumption); (case k1 => k_asm); (case k2 => k_asm); (case k3 => k_asm); (case k4 => k_asm); (case k5 => k_asm); (case k6 => k_is); (case k7 => k_is); (case k8 => exact Nat.le_of_ble_eq_true rfl); (case k9 => exact BindsTo.of_eq rfl); (case c5 => decide); (case kB => exact locs rfl); (case c2 => exact rfl); (case c3 => exact rfl); (case c4 => exact rfl); k_whole)
  intro g' L' h' G1 G2 F' N' B' X' T'
  clear B F X T hk
  dsimp only
  k_fold
  k_steps
  all_goals ((try dsimp only); refine fin0 ret G1 G2 N (by k_asm) (by k_asm) (by walk_at "mine need") (pi_mk ?_))
  all_goals rfl
local macro_rules | `(tactic| walk_at "binaryOp FloorDiv int int") => `(tactic| ((with_reducible refine op_div (by assumption) (by assumption) ?_)))
theorem div_spec (w : World) {x : Addr} {sz : Nat} (KI : Kind x sz) (a b : Int) (ta tb : Tok) (hb : 0 < b) (hz : Builtin.Int.intBits b ≤ 9000) :
    Spec w 439 880 105 [.ref x, .int a ta, .int b tb] [] (fun r tl => PI (a / b) r tl) := by
  intro prog mean mg mb cn cs a₀ ccd cl outer A₀ base h₀ L m s Q E B F X N T hk ret
  refine wpAny_call ?_
  k_dflt (refine' enter (binds := [(Str.ofString "self", .ref x), (Str.ofString "a", .int a ta), (Str.ofString "b", .int b tb)]) ?k1 ?k2 ?k3 ?k4 ?k5 ?kA ?kF ?kK ?k6 ?k7 ?k8 ?k9 ?kB ?_ ?c2 ?c3 ?c4 ?c5; (case kA => exact rfl); (case kF => exact rfl); (case kK => assumption); (case k1 => k_asm); (case k2 => k_asm); (case k3 => k_asm); (case k4 => k_asm); (case k5 => k_asm); (case k6 => k_is); (case k7 => k_is); (case k8 => exact Nat.le_of_ble_eq_true rfl); (case k9 => exact BindsTo.of_eq rfl); (case c5 => decide); (case kB => exact locs rfl); (case c2 => exact rfl); (case c3 => exact rfl); (case c4 => exact rfl); k_whole)
  intro g' L' h' G1 G2 F' N' B' X' T'
  clear B F X T hk
  dsimp only
  k_fold
  k_steps
  all_goals ((try dsimp only); refine fin0 ret G1 G2 N (by k_asm) (by k_asm) (by walk_at "mine need") (pi_mk ?_))
  all_goals rfl
local macro_rules | `(tactic| walk_at "binaryOp Mod int int") => `(tactic| ((with_reducible refine op_mod (by assumption) ?_)))
theorem rem_spec (w : World) {x : Addr} {sz : Nat} (KI : Kind x sz) (a b : Int) (ta tb : Tok) (hb : 0 < b) :
    Spec w 439 880 112 [.ref x, .int a ta, .int b tb] [] (fun r tl => PI (a % b) r tl) := by
  intro prog mean mg mb cn cs a₀ ccd cl outer A₀ base h₀ L m s Q E B F X N T hk ret
  refine wpAny_call ?_
  k_dflt (refine' enter (binds := [(Str.ofString "self", .ref x), (Str.ofString "a", .int a ta), (Str.ofString "b", .int b tb)]) ?k1 ?k2 ?k3 ?k4 ?k5 ?kA ?kF ?kK ?k6 ?k7 ?k8 ?k9 ?kB ?_ ?c2 ?c3 ?c4 ?c5; (case kA => exact rfl); (case kF => exact rfl); (case kK => assumption); (case k1 => k_asm); (case k2 => k_asm); (case k3 => k_asm); (case k4 => k_asm); (case k5 => k_asm); (case k6 => k_is); (case k7 => k_is); (case k8 => exact Nat.le_of_ble_eq_true rfl); (case k9 => exact BindsTo.of_eq rfl); (case c5 => decide); (case kB => exact locs rfl); (case c2 => exact rfl); (case c3 => exact rfl); (case c4 => exact rfl); k_whole)
  intro g' L' h' G1 G2 F' N' B' X' T'
  clear B F X T hk
  dsimp only
  k_fold
  k_steps
  all_goals ((try dsimp only); refine fin0 ret G1 G2 N (by k_asm) (by k_asm) (by walk_at "mine need") (pi_mk ?_))
  all_goals rfl
end
section
set_option maxRecDepth 100000
set_option maxHeartbeats 4000000

section
variable {prog : Program} {w : World} {A : Around} {E : Value → Shared → Prop} {s : Shared} {x : Addr} {sz k : Nat} {a b : Int} {t u : Tok} {Q : Value → Shared → Prop}
theorem op_shl1 (KI : Kind x sz) (ha : R sz a) (h : Q (.int (a * 2) s.toks) { s with toks := s.toks + 1 }) : wpAny (model prog w) A (binaryOp .LShift (.int a t) (.int 1 u)) Q E s :=
  lshift_int (by decide) (by have := ha.shlOk (k := 1) (by have := KI.pos; omega) KI.le8; exact this) (by simpa using h)
end
local macro_rules | `(tactic| walk_at "binaryOp LShift int int") => `(tactic| ((with_reducible refine op_shl1 (by assumption) (by assumption) ?_)))
theorem small8 {x : Addr} {sz : Nat} (KI : Kind x sz) : Builtin.Range.small 0 ((8 * sz : Nat) : Int) 1 = true := by cases KI <;> decide +kernel
theorem size8 {x : Addr} {sz : Nat} (KI : Kind x sz) : Builtin.Range.rangeSize 0 ((8 * sz : Nat) : Int) 1 = ((8 * sz : Nat) : Int) := by cases KI <;> decide +kernel
theorem clz_spec (w : World) {x : Addr} {sz : Nat} (KI : Kind x sz) (a : Int) (ta : Tok) (ha : R sz a) :
    Spec w 439 880 147 [.ref x, .int a ta] [] (fun r tl => PP (Clz sz a) r tl) := by
  intro prog mean mg mb cn cs a₀ ccd cl outer A₀ base h₀ L m s Q E B F X N T hk ret
  refine wpAny_call ?_
  k_dflt (refine' enter (binds := [(Str.ofString "self", .ref x), (Str.ofString "a", .int a ta)]) ?k1 ?k2 ?k3 ?k4 ?k5 ?kA ?kF ?kK ?k6 ?k7 ?k8 ?k9 ?kB ?_ ?c2 ?c3 ?c4 ?c5; (case kA => exact rfl); (case kF => exact rfl); (case kK => assumption); (case k1 => k_asm); (case k2 => k_asm); (case k3 => k_asm); (case k4 => k_asm); (case k5 => k_asm); (case k6 => k_is); (case k7 => k_is); (case k8 => exact Nat.le_of_ble_eq_true rfl); (case k9 => exact BindsTo.of_eq rfl); (case c5 => decide); (case kB => exact locs rfl); (case c2 => exact rfl); (case c3 => exact rfl); (case c4 => exact rfl); k_whole)
  intro g' L' h' G1 G2 F' N' B' X' T'
  clear B F X T hk
  dsimp only
  k_fold
  k_steps
  refine' kst_range (σ := (Int × Tok) × (Int × Tok)) (fun _ => []) (fun c => [(Str.ofString "b", .int c.1.1 c.1.2), (Str.ofString "a", .int c.2.1 c.2.2)]) (fun _ => True) []
    (fun pre c => c.1.1 = (pre.length : Int) ∧ c.2.1 = a * 2 ^ pre.length ∧ R sz c.2.1) ((0, ?tk0), (a, ta)) rfl (by assumption) (small8 KI) (size8 KI) (by assumption) (by assumption) trivial ?hk ?hp ?turn ?done
  case hk =>
    intro p hp
    rcases List.mem_cons.mp hp with rfl | hp
    · exact rfl
    rcases List.mem_cons.mp hp with rfl | hp
    · exact rfl
    · cases hp
  case hp => exact ⟨rfl, by simp, ha⟩
  case turn =>
    rintro ⟨⟨b1, tb1⟩, c1, tc1⟩ pre k t u h tk own hk hlen hoff _ ⟨e1, e2, e3⟩ F1 N1
    dsimp only [kstB] at F1 e1 e2 e3
    simp only [List.nil_append] at N1
    k_steps
    · dsimp only
      refine fin0 ret G1 G2 N (by k_asm) (by k_asm) (by walk_at "mine need") (pp_mk ?_)
      rw [e1]
      exact clz_stop KI.pos hlen e2 e3 (by assumption)
    · have e4 := clz_turn KI.pos e2 e3 (by omega)
      refine' kst_end ((b1 + 1, ?t1), (c1 * 2, ?t2)) (by k_asm) (by k_asm) sub_nil (fun _ hp => hp) rfl trivial ?hk ?hr ?hp
      case hk =>
        intro p hp
        rcases List.mem_cons.mp hp with rfl | hp
        · exact rfl
        rcases List.mem_cons.mp hp with rfl | hp
        · exact rfl
        · cases hp
      case hr =>
        intro z h1 h2 _
        have hb := h2 _ (.head _)
        have ha := h2 _ (.tail _ (.head _))
        simp [h1, hb, ha]
      case hp => exact ⟨by simp [e1], by simpa using e4.1, e4.2⟩
  case done =>
    rintro ⟨⟨b1, tb1⟩, c1, tc1⟩ u h tk _ ⟨e1, e2, e3⟩ F1 N1
    dsimp only [kstB] at F1 N1 e1 e2 e3
    rw [rangeKs_length] at e1 e2
    k_steps
    · dsimp only
      refine fin0 ret G1 G2 N (by k_asm) (by k_asm) (by walk_at "mine need") (pp_mk ?_)
      rw [e1]
      exact clz_end rfl e2 e3
section
variable {prog : Program} {w : World} {A : Around} {E : Value → Shared → Prop} {s : Shared} {a : Int} {t u : Tok} {Q : Value → Shared → Prop}
theorem op_shr1 (h : Q (.int (a / 2) s.toks) { s with toks := s.toks + 1 }) : wpAny (model prog w) A (binaryOp .RShift (.int a t) (.int 1 u)) Q E s :=
  rshift_int (by decide) (by rw [Int.fdiv_eq_ediv_of_nonneg _ (by decide)]; simpa using h)
end
local macro_rules | `(tactic| walk_at "binaryOp RShift int int") => `(tactic| ((with_reducible refine op_shr1 ?_)))
theorem ctz_spec (w : World) {x : Addr} {sz : Nat} (KI : Kind x sz) (a : Int) (ta : Tok) (ha : R sz a) :
    Spec w 439 880 154 [.ref x, .int a ta] [] (fun r tl => PP (Ctz sz a) r tl) := by
  intro prog mean mg mb cn cs a₀ ccd cl outer A₀ base h₀ L m s Q E B F X N T hk ret
  refine wpAny_call ?_
  k_dflt (refine' enter (binds := [(Str.ofString "self", .ref x), (Str.ofString "a", .int a ta)]) ?k1 ?k2 ?k3 ?k4 ?k5 ?kA ?kF ?kK ?k6 ?k7 ?k8 ?k9 ?kB ?_ ?c2 ?c3 ?c4 ?c5; (case kA => exact rfl); (case kF => exact rfl); (case kK => assumption); (case k1 => k_asm); (case k2 => k_asm); (case k3 => k_asm); (case k4 => k_asm); (case k5 => k_asm); (case k6 => k_is); (case k7 => k_is); (case k8 => exact Nat.le_of_ble_eq_true rfl); (case k9 => exact BindsTo.of_eq rfl); (case c5 => decide); (case kB => exact locs rfl); (case c2 => exact rfl); (case c3 => exact rfl); (case c4 => exact rfl); k_whole)
  intro g' L' h' G1 G2 F' N' B' X' T'
  clear B F X T hk
  dsimp only
  k_fold
  k_steps
  refine' kst_range (σ := (Int × Tok) × (Int × Tok)) (fun _ => []) (fun c => [(Str.ofString "b", .int c.1.1 c.1.2), (Str.ofString "a", .int c.2.1 c.2.2)]) (fun _ => True) []
    (fun pre c => c.1.1 = (pre.length : Int) ∧ a = c.2.1 * 2 ^ pre.length ∧ 0 ≤ c.2.1) ((0, ?tk0), (a, ta)) rfl (by assumption) (small8 KI) (size8 KI) (by assumption) (by assumption) trivial ?hk ?hp ?turn ?done
  case hk =>
    intro p hp
    rcases List.mem_cons.mp hp with rfl | hp
    · exact rfl
    rcases List.mem_cons.mp hp with rfl | hp
    · exact rfl
    · cases hp
  case hp => exact ⟨rfl, by simp, ha.1⟩
  case turn =>
    rintro ⟨⟨b1, tb1⟩, c1, tc1⟩ pre k t u h tk own hk hlen hoff _ ⟨e1, e2, e3⟩ F1 N1
    dsimp only [kstB] at F1 e1 e2 e3
    simp only [List.nil_append] at N1
    k_steps
    · dsimp only
      refine fin0 ret G1 G2 N (by k_asm) (by k_asm) (by walk_at "mine need") (pp_mk ?_)
      rw [e1]
      exact ctz_stop hlen e2 e3 (by assumption)
    · have e4 := ctz_turn e2 e3 (by omega)
      refine' kst_end ((b1 + 1, ?t1), (c1 / 2, ?t2)) (by k_asm) (by k_asm) sub_nil (fun _ hp => hp) rfl trivial ?hk ?hr ?hp
      case hk =>
        intro p hp
        rcases List.mem_cons.mp hp with rfl | hp
        · exact rfl
        rcases List.mem_cons.mp hp with rfl | hp
        · exact rfl
        · cases hp
      case hr =>
        intro z h1 h2 _
        have hb := h2 _ (.head _)
        have ha := h2 _ (.tail _ (.head _))
        simp [h1, hb, ha]
      case hp => exact ⟨by simp [e1], by simpa using e4.1, e4.2⟩
  case done =>
    rintro ⟨⟨b1, tb1⟩, c1, tc1⟩ u h tk _ ⟨e1, e2, e3⟩ F1 N1
    dsimp only [kstB] at F1 N1 e1 e2 e3
    rw [rangeKs_length] at e1 e2
    k_steps
    · dsimp only
      refine fin0 ret G1 G2 N (by k_asm) (by k_asm) (by walk_at "mine need") (pp_mk ?_)
      rw [e1]
      exact ctz_end rfl e2 e3
end
section
abbrev tupO (vs : Array Value) : Obj := { cls := .type "tuple", data := .seq vs }
/-- a pair of ints comes back -/
def PT (P : Int → Int → Prop) (r : Value) (tl : List (Addr × Obj)) : Prop := ∃ q a b t u, r = .ref q ∧ tl = [(q, tupO #[.int a t, .int b u])] ∧ P a b
/-- a call that hands back a new pair of ints -/
theorem Spec.useT {w : World} {D U : Nat} {f : Addr} {vs : List Value} {need : List (Addr × Obj)} {P : Int → Int → Prop} (S : Spec w D U f vs need (fun r tl => PT P r tl))
    {prog : Program} {mean : ExcName → Option Value} {mg mb : Str → Option Value} {cn : Str} {cs : Scope} {a : Addr} {ccd : Value} {cl : List (Str × Addr)} {outer : List Env} {A A₀ : Around} {base h₀ : Heap} {L : Addr} {m : Str → Option Value} {s : Shared}
    {Q E : Value → Shared → Prop} {news : List (Addr × Obj)}
    (B : Below A₀ base outer h₀) (F : Fr h₀ L s.heap m) (X : (hd.heap_1 w.params).In h₀) (N : News h₀ L s.heap news) (T : Top view0 LO mean mg mb h₀)
    (hh : A.handled = none) (hf : A.frames = some (envX cn cs L a ccd cl :: outer)) (hd : A.depth ≤ D) (hu : A.units ≤ U)
    (hk : cs.kind = .function) (hneed : ∀ p ∈ need, p ∈ news)
    (ret : ∀ q a b t u h' tk', Fr h₀ L h' m → News h₀ L h' ((q, tupO #[.int a t, .int b u]) :: news) → Apart.AllNe q news → P a b → Q (.ref q) { s with heap := h', toks := tk' }) : wpAny (model prog w) A (call (.ref f) vs) Q E s :=
  S.use B F X N T hh hf hd hu hk hneed fun r tl h' tk' F' N' Ap P => by
    obtain ⟨q, a, b, t, u, rfl, rfl, hp⟩ := P
    exact ret q a b t u h' tk' F' N' Ap.1 hp
theorem ap_nil {tl : List (Addr × Obj)} : ∀ p ∈ ([] : List (Addr × Obj)), ∀ q ∈ tl, p.1 ≠ q.1 := fun _ h => (nomatch h)
theorem ap_cons {p : Addr × Obj} {need tl : List (Addr × Obj)} (h : ∀ q ∈ tl, p.1 ≠ q.1) (h' : ∀ p ∈ need, ∀ q ∈ tl, p.1 ≠ q.1) : ∀ x ∈ p :: need, ∀ q ∈ tl, x.1 ≠ q.1 := fun x hx => by
  rcases List.mem_cons.mp hx with rfl | hx
  · exact h
  · exact h' x hx
theorem ne_nil {d : Addr} : ∀ q ∈ ([] : List (Addr × Obj)), d ≠ q.1 := fun _ h => (nomatch h)
theorem ne_cons {d : Addr} {q : Addr × Obj} {tl : List (Addr × Obj)} (h : d ≠ q.1) (h' : ∀ q ∈ tl, d ≠ q.1) : ∀ x ∈ q :: tl, d ≠ x.1 := fun x hx => by
  rcases List.mem_cons.mp hx with rfl | hx
  · exact h
  · exact h' x hx
theorem R.two {x : Addr} {sz : Nat} {d : Int} (KI : Kind x sz) (h : 0 ≤ d ∧ d ≤ 2) : R sz d := by
  refine ⟨h.1, Int.lt_of_le_of_lt h.2 ?_⟩
  cases KI <;> decide
theorem R.one {x : Addr} {sz : Nat} {d : Int} (KI : Kind x sz) (h : 0 ≤ d ∧ d ≤ 1) : R sz d := R.two KI ⟨h.1, by omega⟩
theorem Kind.two {x : Addr} {sz : Nat} (KI : Kind x sz) : (2 : Int) ≤ 2 ^ (8 * sz) := by cases KI <;> decide
theorem Spec.opq {w : World} {D U : Nat} {f : Addr} {vs : List Value} {need : List (Addr × Obj)} {v : Int} (S : Spec w D U f vs need (fun r tl => PI v r tl)) : Spec w D U f vs need (fun r tl => PP (fun u => u = v) r tl) :=
  fun prog mean mg mb cn cs a ccd cl outer A₀ base h₀ L m s Q E B F X N T hk ret => S prog mean mg mb cn cs a ccd cl outer A₀ base h₀ L m s Q E B F X N T hk fun r tl h' tk' k ht hp => by
    obtain ⟨e1, t, e2⟩ := hp
    exact ret r tl h' tk' k ht ⟨e1, v, t, e2, rfl⟩
theorem R.of_mod {sz : Nat} {u v : Int} (h : u = v % 2 ^ (8 * sz)) : R sz u := h ▸ R.mod _ _
theorem R.of_rem {sz : Nat} {u a b : Int} (h : u = a % b) (hb : 0 < b) (hb2 : b < 2 ^ (4 * sz)) : R sz u ∧ 0 ≤ u ∧ u < b := by
  have h0 := Int.emod_nonneg a (Int.ne_of_gt hb)
  have h1 := Int.emod_lt_of_pos a hb
  rw [← h] at h0 h1
  exact ⟨Hf.R ⟨h0, by omega⟩, h0, h1⟩
/-- new lists of three, four, five ints -/
def PL4 (P : Int → Int → Int → Int → Prop) (r : Value) (tl : List (Addr × Obj)) : Prop := ∃ q a b c d t1 t2 t3 t4 n, r = .ref q ∧ tl = [(q, listOf #[.int a t1, .int b t2, .int c t3, .int d t4] n)] ∧ P a b c d
def PL3 (P : Int → Int → Int → Prop) (r : Value) (tl : List (Addr × Obj)) : Prop := ∃ q a b c t1 t2 t3 n, r = .ref q ∧ tl = [(q, listOf #[.int a t1, .int b t2, .int c t3] n)] ∧ P a b c
def PL5 (P : Int → Int → Int → Int → Int → Prop) (r : Value) (tl : List (Addr × Obj)) : Prop := ∃ q a b c d e t1 t2 t3 t4 t5 n, r = .ref q ∧ tl = [(q, listOf #[.int a t1, .int b t2, .int c t3, .int d t4, .int e t5] n)] ∧ P a b c d e
/-- a pair: a new list of three ints, an int -/
def PTL (P : Int → Int → Int → Int → Prop) (r : Value) (tl : List (Addr × Obj)) : Prop :=
  ∃ q l a b c d t1 t2 t3 t4 n, r = .ref q ∧ tl = [(q, tupO #[.ref l, .int d t4]), (l, listOf #[.int a t1, .int b t2, .int c t3] n)] ∧ @Ne Nat q l ∧ P a b c d
def v3 (W a b c : Int) : Int := a + W * (b + W * c)
def v4 (W a b c d : Int) : Int := a + W * (b + W * (c + W * d))
def v5 (W a b c d e : Int) : Int := a + W * (b + W * (c + W * (d + W * e)))
theorem sum_eq {W a0 a1 a2 b0 b1 b2 o0 o1 o2 c0 c1 c2 : Int} (h0 : o0 + W * c0 = a0 + b0 + 0) (h1 : o1 + W * c1 = a1 + b1 + c0) (h2 : o2 + W * c2 = a2 + b2 + c1) : v4 W o0 o1 o2 c2 = v3 W a0 a1 a2 + v3 W b0 b1 b2 := by
  unfold v4 v3; grind
theorem diff_eq {W a0 a1 a2 b0 b1 b2 o0 o1 o2 c0 c1 c2 : Int} (h0 : o0 - W * c0 = a0 - b0 - 0) (h1 : o1 - W * c1 = a1 - b1 - c0) (h2 : o2 - W * c2 = a2 - b2 - c1) : v3 W o0 o1 o2 - W * W * W * c2 = v3 W a0 a1 a2 - v3 W b0 b1 b2 := by
  unfold v3; grind
section
variable {prog : Program} {w : World} {A : Around} {E : Value → Shared → Prop} {s : Shared} {x : Addr} {sz : Nat} {a b c : Int} {t u : Tok} {Q : Value → Shared → Prop}
theorem op_borrow (KI : Kind x sz) (ha : R sz a) (hb : R sz b) (hc : 0 ≤ c ∧ c ≤ 1)
    (h : ∀ d, ((a - b) % 2 ^ (8 * sz) - c) % 2 ^ (8 * sz) - 2 ^ (8 * sz) * d = a - b - c → 0 ≤ d ∧ d ≤ 1 → Q (.int d s.toks) { s with toks := s.toks + 1 }) :
    wpAny (model prog w) A (binaryOp .Add (.int (if (max (min (a - b) (2 ^ (8 * sz) - 1)) 0 != (a - b) % 2 ^ (8 * sz)) = true then 1 else 0) t)
      (.int (if (max (min ((a - b) % 2 ^ (8 * sz) - c) (2 ^ (8 * sz) - 1)) 0 != ((a - b) % 2 ^ (8 * sz) - c) % 2 ^ (8 * sz)) = true then 1 else 0) u)) Q E s := by
  have := borrow_eq (KI.two) ha hb hc
  exact add_int (h _ this.1 this.2)
end
/-- a list of ints that stands -/
abbrev intL (ns : List Int) (vs : List Value) (n : Nat) : Obj := listOf vs.toArray n
/-- a new list of ints comes back -/
def PL (P : List Int → Prop) (r : Value) (tl : List (Addr × Obj)) : Prop := ∃ q vs n ns, r = .ref q ∧ tl = [(q, listOf vs n)] ∧ IntsAre vs.toList ns ∧ P ns

def StopP (P : Prop) : Prop := P
theorem stop_here {P : Prop} (h : StopP P) : P := h
theorem stop_out {P : Prop} (h : P) : StopP P := h
section
variable {prog : Program} {w : World} {A₀ A : Around} {s : Shared} {base h₀ : Heap} {outer : List Env} {L : Addr} {m mg mb : Str → Option Value} {env : Env} {news : List (Addr × Obj)} {K : Frag} {p : Program} {loose : List Str} {mean : ExcName → Option Value}
  {R : Result → Shared → Prop} {name qual : Str} {params : Arguments} {body : List Stmt} {scope : Scope} {dV kV doc pm cdv ct oc : Value} {an od : Option Addr} {osl : Array (Option Value)} {f : Addr} {args : Args} {binds : List (Str × Value)}
theorem ground_of2 (N : News h₀ L s.heap news) : Ground0 s.heap (hideAll s.heap (news.map (·.1))) news ∧ ∀ b, (hideAll s.heap (news.map (·.1))).get? b = none → (∀ p ∈ news, p.1 ≠ b) → s.heap.get? b = none := by
  refine ⟨fun b o e q => hideAll_get _ e fun q' => ?_, fun b e q => ?_⟩
  · obtain ⟨p, hp, e'⟩ := List.mem_map.mp q'
    exact q p hp e'
  · cases e' : s.heap.get? b with
    | none => rfl
    | some o =>
      have := hideAll_get (news.map (·.1)) e' (fun q' => by obtain ⟨p, hp, e''⟩ := List.mem_map.mp q'; exact q p hp e'')
      rw [e] at this; cases this
theorem enterX (B : Below A₀ base outer h₀) (F : Fr h₀ L s.heap m) (X₀ : K.In h₀) (N : News h₀ L s.heap news) (T : Top p loose mean mg mb h₀) (hA : A.frames = some (env :: outer)) (hf : env.frame = some L) (hke : env.scope.kind = .function)
    (ho : K.lookup f = some ⟨oc, od, .func (fnOf name qual params body scope dV kV doc pm an cdv ct), osl⟩) (hcd : codeIn K cdv qual = true) (hroom : A.depth < recursionLimit)
    (hbind : BindsTo s (fnOf name qual params body scope dV kV doc pm an cdv ct) args binds) (hkind : (binds.all fun y => scope.names.lookup y.1 == some .local || scope.names.lookup y.1 == some .cell) = true)
    (hnd : ((cellsFrom 0 scope.names []).map (·.1)).Nodup)
    (h : ∀ g L' h₁ tk cells, Ground0 s.heap g news → (∀ b, g.get? b = none → (∀ p ∈ news, p.1 ≠ b) → s.heap.get? b = none) → Fr g L' h₁ (bindL (envOfC qual scope L' f cdv).kindOf binds fun _ => none) → News g L' h₁ (cells ++ news) →
      CellsAre (bindC (envOfC qual scope L' f cdv).kindOf binds fun _ => none) (cellsFrom (L' + 1) scope.names []) cells → Below A base (env :: outer) g → K.In g → Top p loose mean mg mb g → (∀ p ∈ news, p.1 < L') →
      wpAny (model prog w) (A.deeper (envOfC qual scope L' f cdv)) (execs body (envOfC qual scope L' f cdv))
        (fun fl s' => R (.ok (.ret (match fl with | .ret v => v | _ => .none))) s')
        (fun e s' => wpAny (model prog w) (A.deeper (envOfC qual scope L' f cdv)) (leaving (envOfC qual scope L' f cdv) e) (fun _ s'' => R (.error e) s'') (fun e' s'' => R (.error e') s'') s')
        { s with heap := h₁, toks := tk })
    (hco : scope.isCoroutine = false) (hgen : scope.isGenerator = false) (hk : scope.kind = .function) : codeAny (model prog w) A (.call (.ref f) args) R s := by
  obtain ⟨FG, BG, st, lv⟩ := groundX (R := R) B F N hA hf hke
  obtain ⟨g1, g2⟩ := ground_of2 N
  refine codeAny_call_function (fd := fnOf name qual params body scope dV kV doc pm an cdv ct) (body := body) hroom ((X₀.keeps F.keep) _ _ ho) rfl hco hgen rfl (codeRec_of (X₀.keeps F.keep) hcd) (hbind _ _ _ _ ?_)
  refine wpAny_newFunctionEnv_cells hk (kindsX hkind _) fun env' he s' x => ?_
  subst he
  refine ⟨((T.nolimit.keeps F.keep)).keeps x.toInCall.keep, codeAny_func ?_⟩
  obtain ⟨h₁, tk, rfl, _⟩ := x.done
  have hk₁ := x.toInCall.keep
  obtain ⟨cells, NC, Y⟩ := Cl.news (h₀ := s.heap) (Nat.le_refl _) fun n c hm => ⟨x.cell n c (lookup_of_mem_nodup (cellsFrom_names scope.names 0 (s.heap.objs.size + 1) [] [] rfl ▸ hnd) hm), x.above n c hm⟩
  refine h _ s.heap.objs.size h₁ tk cells g1 g2 ⟨x.toInCall.ns, fun b o e => hk₁ b o (of_hideAll _ e), Nat.le_of_eq (hideAll_size _ _)⟩ (fun p hp => ?_) Y BG (X₀.keeps st) (T.keeps st) (fun p hp => Heap.lt_size (N p hp).1)
  rcases List.mem_append.mp hp with hp | hp
  · refine ⟨(NC p hp).1, (NC p hp).2.1, ?_⟩
    cases q : (hideAll s.heap (news.map (·.1))).get? p.1 with
    | none => rfl
    | some o => have := of_hideAll _ q; rw [(NC p hp).2.2] at this; cases this
  · exact ⟨hk₁ _ _ (N p hp).1, Nat.ne_of_lt (Heap.lt_size (N p hp).1), hideAll_none _ (List.mem_map_of_mem hp)⟩
end
/-- one pair taken out of the ledger -/
inductive Cut (I : Addr) (it : Obj) : List (Addr × Obj) → List (Addr × Obj) → Prop
  | here {r : List (Addr × Obj)} : Cut I it ((I, it) :: r) r
  | there {p : Addr × Obj} {r r' : List (Addr × Obj)} : Cut I it r r' → Cut I it (p :: r) (p :: r')
theorem Cut.mem {I : Addr} {it : Obj} {r r' : List (Addr × Obj)} (h : Cut I it r r') : (I, it) ∈ r := by
  induction h with
  | here => exact .head _
  | there _ ih => exact .tail _ ih
theorem Cut.sub {I : Addr} {it : Obj} {r r' : List (Addr × Obj)} (h : Cut I it r r') : ∀ p ∈ r', p ∈ r := by
  induction h with
  | here => exact fun p hp => .tail _ hp
  | there _ ih =>
    intro p hp
    rcases List.mem_cons.mp hp with rfl | hp
    · exact .head _
    · exact .tail _ (ih p hp)
theorem subL_of {all : List (Addr × Obj)} : ∀ {l : List (Addr × Obj)}, (∀ p ∈ l, p ∈ all) → SubL l all
  | [], _ => trivial
  | p :: _, h => ⟨h p (.head _), subL_of fun q hq => h q (.tail _ hq)⟩
theorem unr_cut {h₀ : Heap} {L I : Addr} {it : Obj} {rest : (Str → Option Value) → List (Addr × Obj) → Prop} {s₁ : Shared} {h' : Heap} {tk : Nat} {m' : Str → Option Value} {all news' : List (Addr × Obj)} (F : Fr h₀ L h' m') (N : News h₀ L h' all)
    (cut : Cut I it all news') (off : OffI I it news') (r : rest m' news') : UnrEnd h₀ L s₁ I it rest { s₁ with heap := h', toks := tk } :=
  UnrEnd.intro3 F N news' cut.mem (subL_of cut.sub) off r
end
section
theorem le_mulR {a b : Int} (ha : 0 ≤ a) (hb : 0 < b) : a ≤ a * b := by
  have := Int.mul_le_mul_of_nonneg_left (show (1 : Int) ≤ b by omega) ha
  simpa using this
section
variable {W K J : Int}
theorem mul_mod_KJ (hJ : 0 < J) (hK : 0 < K) (hW : W = K * J) (a : Int) : a * K % W = (a % J) * K ∧ a * K / W = a / J := by
  subst hW
  constructor
  · rw [Int.mul_comm a K, Int.mul_emod_mul_of_pos _ _ hK, Int.mul_comm]
  · rw [Int.mul_comm a K, Int.mul_ediv_mul_of_pos _ _ hK]
theorem small_mod {W a : Int} (h0 : 0 ≤ a) (h : a < W) : a % W = a := Int.emod_eq_of_lt h0 h
theorem sh_step (hJ : 0 < J) (hK : 0 < K) (hW : W = K * J) {a s : Int} (ha : 0 ≤ a ∧ a < W) (hs : 0 ≤ s ∧ s < K) :
    (a * K % W + s) % W + W * ((a * K % W + a / J - a * K % W) % W) = a * K + s ∧ (0 ≤ (a * K % W + s) % W ∧ (a * K % W + s) % W < W) ∧ 0 ≤ (a * K % W + a / J - a * K % W) % W ∧ (a * K % W + a / J - a * K % W) % W < K := by
  obtain ⟨e1, e2⟩ := mul_mod_KJ hJ hK hW a
  have hWp : 0 < W := hW ▸ Int.mul_pos hK hJ
  have hq0 : 0 ≤ a / J := Int.ediv_nonneg ha.1 (Int.le_of_lt hJ)
  have hq1 : a / J < K := Int.ediv_lt_of_lt_mul hJ (hW ▸ ha.2)
  have hKW : K ≤ W := by rw [hW]; exact le_mulR (Int.le_of_lt hK) hJ
  have hm := Int.emod_add_mul_ediv (a * K) W
  have hr0 := Int.emod_nonneg a (Int.ne_of_gt hJ)
  have hr1 := Int.emod_lt_of_pos a hJ
  have hb : (a % J) * K ≤ (J - 1) * K := Int.mul_le_mul_of_nonneg_right (by omega) (Int.le_of_lt hK)
  have hb0 : 0 ≤ (a % J) * K := Int.mul_nonneg hr0 (Int.le_of_lt hK)
  have hb2 : (J - 1) * K = W - K := by rw [hW, Int.sub_mul, Int.mul_comm]; omega
  have e3 : a * K % W + a / J - a * K % W = a / J := by omega
  rw [e3, small_mod hq0 (by omega), small_mod (a := a * K % W + s) (by rw [e1]; omega) (by rw [e1]; omega)]
  refine ⟨?_, ⟨by rw [e1]; omega, by rw [e1]; omega⟩, hq0, hq1⟩
  rw [e2] at hm; omega
theorem bk_step (hJ : 0 < J) (hK : 0 < K) (hW : W = K * J) {a t c : Int} (ha : 0 ≤ a ∧ a < W) (hc : 0 ≤ c ∧ c < K) (ht : t = c * J) :
    ∃ c', (a / K + t) % W * K + c' = a + W * c ∧ (0 ≤ c' ∧ c' < K) ∧ (a / K + a * J % W - a / K) % W = c' * J ∧ (0 ≤ (a / K + t) % W ∧ (a / K + t) % W < W) := by
  obtain ⟨e1, e2⟩ := mul_mod_KJ (W := W) hK hJ (by rw [hW, Int.mul_comm]) a
  have hWp : 0 < W := hW ▸ Int.mul_pos hK hJ
  have hq0 : 0 ≤ a / K := Int.ediv_nonneg ha.1 (Int.le_of_lt hK)
  have hq1 : a / K < J := Int.ediv_lt_of_lt_mul hK (by rw [Int.mul_comm, ← hW]; exact ha.2)
  have hr0 := Int.emod_nonneg a (Int.ne_of_gt hK)
  have hr1 := Int.emod_lt_of_pos a hK
  have hd := Int.emod_add_mul_ediv a K
  have e3 : a / K + a * J % W - a / K = a * J % W := by omega
  have hb : c * J ≤ (K - 1) * J := Int.mul_le_mul_of_nonneg_right (by omega) (Int.le_of_lt hJ)
  have hb0 : 0 ≤ c * J := Int.mul_nonneg hc.1 (Int.le_of_lt hJ)
  have hb2 : (K - 1) * J = W - J := by rw [hW, Int.sub_mul]; omega
  have hx0 : 0 ≤ a / K + t := by omega
  have hx1 : a / K + t < W := by omega
  rw [e3, Int.emod_emod, small_mod hx0 hx1]
  refine ⟨a % K, ?_, ⟨hr0, hr1⟩, e1, hx0, hx1⟩
  rw [ht, Int.add_mul]
  have : c * J * K = W * c := by rw [hW]; grind
  rw [this, Int.mul_comm (a / K) K]; omega
end
section
variable {W K J : Int}
theorem shifted_eq (hJ : 0 < J) (hK : 0 < K) (hW : W = K * J) {a0 a1 a2 o0 o1 o2 o3 s0 s1 : Int} (ha0 : 0 ≤ a0 ∧ a0 < W) (ha1 : 0 ≤ a1 ∧ a1 < W) (ha2 : 0 ≤ a2 ∧ a2 < W)
    (h0 : o0 = (a0 * K % W + 0) % W) (hs0 : s0 = (a0 * K % W + a0 / J - a0 * K % W) % W) (h1 : o1 = (a1 * K % W + s0) % W) (hs1 : s1 = (a1 * K % W + a1 / J - a1 * K % W) % W)
    (h2 : o2 = (a2 * K % W + s1) % W) (h3 : o3 = (a2 * K % W + a2 / J - a2 * K % W) % W) :
    v4 W o0 o1 o2 o3 = v3 W a0 a1 a2 * K ∧ (0 ≤ o0 ∧ o0 < W) ∧ (0 ≤ o1 ∧ o1 < W) ∧ (0 ≤ o2 ∧ o2 < W) ∧ (0 ≤ o3 ∧ o3 < W) := by
  obtain ⟨e0, r0, c0⟩ := sh_step hJ hK hW ha0 (s := 0) ⟨Int.le_refl _, hK⟩
  rw [← hs0] at e0 c0
  obtain ⟨e1, r1, c1⟩ := sh_step hJ hK hW ha1 c0
  rw [← hs1] at e1 c1
  obtain ⟨e2, r2, c2⟩ := sh_step hJ hK hW ha2 c1
  rw [← h3] at e2 c2
  rw [← h0] at e0 r0; rw [← h1] at e1 r1; rw [← h2] at e2 r2
  have hKW : K ≤ W := by rw [hW]; exact le_mulR (Int.le_of_lt hK) hJ
  refine ⟨?_, r0, r1, r2, c2.1, by omega⟩
  unfold v4 v3
  grind
theorem back_eq (hJ : 0 < J) (hK : 0 < K) (hW : W = K * J) {a0 a1 a2 a3 o0 o1 o2 o3 s1 s2 s3 : Int} (ha0 : 0 ≤ a0 ∧ a0 < W) (ha1 : 0 ≤ a1 ∧ a1 < W) (ha2 : 0 ≤ a2 ∧ a2 < W) (ha3 : 0 ≤ a3 ∧ a3 < W)
    (h3 : o3 = (a3 / K + 0) % W) (hs3 : s3 = (a3 / K + a3 * J % W - a3 / K) % W) (h2 : o2 = (a2 / K + s3) % W) (hs2 : s2 = (a2 / K + a2 * J % W - a2 / K) % W)
    (h1 : o1 = (a1 / K + s2) % W) (hs1 : s1 = (a1 / K + a1 * J % W - a1 / K) % W) (h0 : o0 = (a0 / K + s1) % W) :
    (∃ r, 0 ≤ r ∧ r < K ∧ v4 W o0 o1 o2 o3 * K + r = v4 W a0 a1 a2 a3) ∧ (0 ≤ o0 ∧ o0 < W) ∧ (0 ≤ o1 ∧ o1 < W) ∧ (0 ≤ o2 ∧ o2 < W) ∧ (0 ≤ o3 ∧ o3 < W) := by
  obtain ⟨c3, e3, b3, t3, r3⟩ := bk_step hJ hK hW ha3 (t := 0) (c := 0) ⟨Int.le_refl _, hK⟩ (by simp)
  rw [← hs3] at t3
  obtain ⟨c2, e2, b2, t2, r2⟩ := bk_step hJ hK hW ha2 b3 t3
  rw [← hs2] at t2
  obtain ⟨c1, e1, b1, t1, r1⟩ := bk_step hJ hK hW ha1 b2 t2
  rw [← hs1] at t1
  obtain ⟨c0, e0, b0, t0, r0⟩ := bk_step hJ hK hW ha0 b1 t1
  rw [← h3] at e3 r3; rw [← h2] at e2 r2; rw [← h1] at e1 r1; rw [← h0] at e0 r0
  refine ⟨⟨c0, b0.1, b0.2, ?_⟩, r0, r1, r2, r3⟩
  unfold v4
  grind
end
theorem pow_split2 {n k : Nat} (h : k ≤ n) : (2 : Int) ^ n = 2 ^ k * 2 ^ (n - k) := by rw [← Int.pow_add]; congr 1; omega
theorem pow_pos2 (n : Nat) : (0 : Int) < 2 ^ n := Int.pow_pos (by decide)
/-- one limb of the long division -/
theorem div_limb {H W b r a l h x1 n1 y1 d1 q1 r1 x2 n2 y2 d2 q2 r2 : Int} (hH : 0 < H) (hW : W = H * H) (hb : 0 < b) (hbH : b < H) (e9 : r2 = n2 % b) (e8 : q2 = (y2 + d2) % W) (e7 : y2 = q1 * H % W) (e6 : d2 = n2 / b) (e5 : n2 = (x2 + l) % W) (e4 : x2 = r1 * H % W)
    (f9 : r1 = n1 % b) (f8 : q1 = (y1 + d1) % W) (f7 : y1 = 0 * H % W) (f6 : d1 = n1 / b) (f5 : n1 = (x1 + h) % W) (f4 : x1 = r * H % W) (hs : l + H * h = a) (hl : 0 ≤ l ∧ l < H) (hh : 0 ≤ h ∧ h < H) (hr : 0 ≤ r ∧ r < b) :
    r * W + a = b * q2 + r2 ∧ (0 ≤ q2 ∧ q2 < W) ∧ 0 ≤ r2 ∧ r2 < b := by
  have hWp : 0 < W := hW ▸ Int.mul_pos hH hH
  have key : ∀ r c : Int, 0 ≤ r ∧ r < b → 0 ≤ c ∧ c < H → (r * H % W + c) % W = r * H + c ∧ 0 ≤ (r * H + c) / b ∧ (r * H + c) / b < H := by
    intro r c hr hc
    have h1 : r * H ≤ (b - 1) * H := Int.mul_le_mul_of_nonneg_right (by omega) (Int.le_of_lt hH)
    have h2 : (b - 1) * H = b * H - H := by rw [Int.sub_mul]; omega
    have h3 : b * H ≤ (H - 1) * H := Int.mul_le_mul_of_nonneg_right (by omega) (Int.le_of_lt hH)
    have h4 : (H - 1) * H = W - H := by rw [hW, Int.sub_mul]; omega
    have h0 : 0 ≤ r * H := Int.mul_nonneg hr.1 (Int.le_of_lt hH)
    rw [small_mod (a := r * H) h0 (by omega), small_mod (by omega) (by omega)]
    refine ⟨rfl, Int.ediv_nonneg (by omega) (Int.le_of_lt hb), Int.ediv_lt_of_lt_mul hb (by rw [Int.mul_comm H b]; omega)⟩
  have z : (0 : Int) * H % W = 0 := by simp
  obtain ⟨g1, g2, g3⟩ := key r h hr hh
  rw [f4] at f5; rw [g1] at f5
  have hr1 : 0 ≤ r1 ∧ r1 < b := f9 ▸ ⟨Int.emod_nonneg _ (Int.ne_of_gt hb), Int.emod_lt_of_pos _ hb⟩
  obtain ⟨g4, g5, g6⟩ := key r1 l hr1 hl
  rw [e4] at e5; rw [g4] at e5
  have hHW : H ≤ W := by rw [hW]; exact le_mulR (Int.le_of_lt hH) hH
  rw [f7, z] at f8
  rw [← f5, ← f6] at g2 g3
  rw [← e5, ← e6] at g5 g6
  have hq1 : q1 = d1 := by rw [f8, Int.zero_add]; exact small_mod g2 (by omega)
  have h1 : q1 * H ≤ (H - 1) * H := Int.mul_le_mul_of_nonneg_right (by omega) (Int.le_of_lt hH)
  have h4 : (H - 1) * H = W - H := by rw [hW, Int.sub_mul]; omega
  have h0 : 0 ≤ q1 * H := Int.mul_nonneg (by omega) (Int.le_of_lt hH)
  rw [e7, small_mod h0 (by omega), small_mod (by omega) (by omega)] at e8
  have hr2 : 0 ≤ r2 ∧ r2 < b := e9 ▸ ⟨Int.emod_nonneg _ (Int.ne_of_gt hb), Int.emod_lt_of_pos _ hb⟩
  have m1 := Int.emod_add_mul_ediv n1 b
  have m2 := Int.emod_add_mul_ediv n2 b
  rw [← f9, ← f6, ← hq1] at m1
  rw [← e9, ← e6] at m2
  refine ⟨?_, ⟨by omega, by omega⟩, hr2⟩
  subst hW
  grind
/-- one step of the long product -/
theorem pr_step {W x a b c o d : Int} (hx : 0 ≤ x ∧ x < W) (ha : 0 ≤ a ∧ a < W) (hb : 0 ≤ b ∧ b < W) (hc : 0 ≤ c ∧ c < W) (ho : 0 ≤ o ∧ o < W) (h : o + W * d = x + a * b % W + c) (hd : 0 ≤ d) :
    o + W * ((a * b / W + d) % W) = x + a * b + c ∧ 0 ≤ (a * b / W + d) % W ∧ (a * b / W + d) % W < W := by
  have hWp : 0 < W := by omega
  have hab0 : 0 ≤ a * b := Int.mul_nonneg ha.1 hb.1
  have h1 : a * b ≤ (W - 1) * b := Int.mul_le_mul_of_nonneg_right (by omega) hb.1
  have h2 : (W - 1) * b ≤ (W - 1) * (W - 1) := Int.mul_le_mul_of_nonneg_left (by omega) (by omega)
  have h3 : (W - 1) * (W - 1) = W * W - 2 * W + 1 := by grind
  have m := Int.emod_add_mul_ediv (a * b) W
  have q0 : 0 ≤ a * b / W := Int.ediv_nonneg hab0 (Int.le_of_lt hWp)
  have hs : o + W * (a * b / W + d) = x + a * b + c := by rw [Int.mul_add]; omega
  have lt : a * b / W + d < W := by
    refine Int.lt_of_mul_lt_mul_left (a := W) ?_ (Int.le_of_lt hWp)
    omega
  rw [small_mod (by omega) lt]
  exact ⟨hs, by omega, lt⟩
theorem div_fin {W b a0 a1 a2 q0 q1 q2 r ra rb : Int} (k0 : ra * W + a0 = b * q0 + r ∧ (0 ≤ q0 ∧ q0 < W) ∧ 0 ≤ r ∧ r < b) (k1 : rb * W + a1 = b * q1 + ra ∧ (0 ≤ q1 ∧ q1 < W) ∧ 0 ≤ ra ∧ ra < b)
    (k2 : 0 * W + a2 = b * q2 + rb ∧ (0 ≤ q2 ∧ q2 < W) ∧ 0 ≤ rb ∧ rb < b) : v3 W a0 a1 a2 = b * v3 W q0 q1 q2 + r ∧ ((0 ≤ q0 ∧ q0 < W) ∧ (0 ≤ q1 ∧ q1 < W) ∧ (0 ≤ q2 ∧ q2 < W)) ∧ 0 ≤ r ∧ r < b := by
  refine ⟨?_, ⟨k0.2.1, k1.2.1, k2.2.1⟩, k0.2.2⟩
  have h0 := k0.1
  have h1 := k1.1
  have h2 := k2.1
  unfold v3
  grind
end
section
def ClzW (n : Nat) (a b : Int) : Prop := ∃ k : Nat, b = (k : Int) ∧ k ≤ n ∧ a * 2 ^ k < 2 ^ n ∧ (k < n → 2 ^ n ≤ 2 * (a * 2 ^ k))
def CtzW (n : Nat) (a b : Int) : Prop := ∃ (k : Nat) (c : Int), b = (k : Int) ∧ k ≤ n ∧ a = c * 2 ^ k ∧ 0 ≤ c ∧ (k < n → c % 2 = 1)
theorem clzW_go {n sz : Nat} {T A a c : Int} (h : ClzW n T A) (hA : A = (n : Int)) (hT : 0 ≤ T) (hc : Clz sz a c) : ClzW (n + 8 * sz) (a + 2 ^ (8 * sz) * T) (A + c) := by
  obtain ⟨k, e, h1, h2, _⟩ := h
  obtain ⟨j, e', g1, g2, g3⟩ := hc
  have hk : k = n := by omega
  subst hk
  have hp := pow_pos2 k
  have T0 : T = 0 := by
    have : T < 1 := Int.lt_of_mul_lt_mul_right (a := 2 ^ k) (by simpa using h2) (Int.le_of_lt hp)
    omega
  have ex : a * 2 ^ (k + j) = 2 ^ k * (a * 2 ^ j) := by rw [Int.pow_add]; grind
  refine ⟨k + j, by omega, by omega, ?_, fun hlt => ?_⟩
  · rw [T0, Int.mul_zero, Int.add_zero, ex, Int.pow_add]
    exact Int.mul_lt_mul_of_pos_left g2 hp
  · rw [T0, Int.mul_zero, Int.add_zero, ex, Int.pow_add]
    have := Int.mul_le_mul_of_nonneg_left (g3 (by omega)) (Int.le_of_lt hp)
    grind
theorem clzW_stay {n sz : Nat} {T A a : Int} (h : ClzW n T A) (hA : A ≠ (n : Int)) (ha : R sz a) : ClzW (n + 8 * sz) (a + 2 ^ (8 * sz) * T) A := by
  obtain ⟨k, e, h1, h2, h3⟩ := h
  have hk : k < n := by omega
  have hp := pow_pos2 k
  have hW := pow_pos2 (8 * sz)
  have hs := pow_split2 (n := n) (k := k) h1
  have T1 : T < 2 ^ (n - k) := Int.lt_of_mul_lt_mul_right (a := 2 ^ k) (by rw [Int.mul_comm (2 ^ (n - k)), ← hs]; exact h2) (Int.le_of_lt hp)
  have T2 : (T + 1) * 2 ^ k ≤ 2 ^ n := by rw [hs, Int.mul_comm (2 ^ k)]; exact Int.mul_le_mul_of_nonneg_right (by omega) (Int.le_of_lt hp)
  have ex : (a + 2 ^ (8 * sz) * T) * 2 ^ k = a * 2 ^ k + 2 ^ (8 * sz) * (T * 2 ^ k) := by grind
  have a0 : 0 ≤ a * 2 ^ k := Int.mul_nonneg ha.1 (Int.le_of_lt hp)
  have a1 : a * 2 ^ k < 2 ^ (8 * sz) * 2 ^ k := Int.mul_lt_mul_of_pos_right ha.2 hp
  refine ⟨k, e, by omega, ?_, fun _ => ?_⟩
  · rw [ex, Int.pow_add, Int.mul_comm (2 ^ n)]
    have := Int.mul_le_mul_of_nonneg_left T2 (Int.le_of_lt hW)
    grind
  · rw [ex, Int.pow_add, Int.mul_comm (2 ^ n)]
    have := Int.mul_le_mul_of_nonneg_left (h3 hk) (Int.le_of_lt hW)
    grind
theorem ctzW_go {n sz : Nat} {B b a c : Int} (h : CtzW n B b) (hb : b = (n : Int)) (hB : 0 ≤ B ∧ B < 2 ^ n) (hc : Ctz sz a c) : CtzW (n + 8 * sz) (B + 2 ^ n * a) (b + c) := by
  obtain ⟨k, x, e, h1, h2, h0, _⟩ := h
  obtain ⟨j, y, e', g1, g2, g0, g3⟩ := hc
  have hk : k = n := by omega
  subst hk
  have hp := pow_pos2 k
  have x0 : x = 0 := by
    have : x < 1 := Int.lt_of_mul_lt_mul_right (a := 2 ^ k) (by rw [← h2]; simpa using hB.2) (Int.le_of_lt hp)
    omega
  subst x0
  refine ⟨k + j, y, by omega, by omega, ?_, g0, fun hlt => g3 (by omega)⟩
  rw [h2, g2, Int.pow_add]; grind
theorem ctzW_stay {n sz : Nat} {B b a : Int} (h : CtzW n B b) (hb : b ≠ (n : Int)) (ha : R sz a) : CtzW (n + 8 * sz) (B + 2 ^ n * a) b := by
  obtain ⟨k, x, e, h1, h2, h0, h3⟩ := h
  have hk : k < n := by omega
  have hs := pow_split2 (n := n) (k := k) h1
  have hs2 : (2 : Int) ^ (n - k) = 2 * 2 ^ (n - k - 1) := by rw [← Int.pow_succ']; congr 1; omega
  have hp := pow_pos2 (n - k)
  refine ⟨k, x + 2 ^ (n - k) * a, e, by omega, ?_, ?_, fun _ => ?_⟩
  · rw [h2, hs]; grind
  · have := Int.mul_nonneg (Int.le_of_lt hp) ha.1; omega
  · have := h3 hk
    rw [hs2, Int.mul_assoc]; omega
/-- the top limbs and the bottom limbs -/
noncomputable def topL (sz : Nat) (l : List Int) : Nat → Int
  | 0 => 0
  | j + 1 => l.getD (2 - j) 0 + 2 ^ (8 * sz) * topL sz l j
noncomputable def lowL (sz : Nat) (l : List Int) : Nat → Int
  | 0 => 0
  | j + 1 => lowL sz l j + 2 ^ (8 * sz * j) * l.getD j 0
theorem getD_R {sz : Nat} : ∀ {l : List Int}, (∀ a ∈ l, R sz a) → ∀ i, R sz (l.getD i 0)
  | [], _, _ => R.zero _
  | a :: _, h, 0 => h a (.head _)
  | _ :: l, h, i + 1 => getD_R (l := l) (fun a ha => h a (.tail _ ha)) i
theorem topL_nonneg {sz : Nat} {l : List Int} (h : ∀ a ∈ l, R sz a) : ∀ j, 0 ≤ topL sz l j
  | 0 => Int.le_refl _
  | j + 1 => Int.add_nonneg (getD_R h _).1 (Int.mul_nonneg (Int.le_of_lt (pow_pos2 _)) (topL_nonneg h j))
theorem lowL_lt {sz : Nat} {l : List Int} (h : ∀ a ∈ l, R sz a) : ∀ j, 0 ≤ lowL sz l j ∧ lowL sz l j < 2 ^ (8 * sz * j)
  | 0 => ⟨Int.le_refl _, by simp [lowL]⟩
  | j + 1 => by
    have ih := lowL_lt h j
    have r := getD_R h j
    have hp := pow_pos2 (8 * sz * j)
    have m0 := Int.mul_nonneg (Int.le_of_lt hp) r.1
    have m1 : 2 ^ (8 * sz * j) * l.getD j 0 ≤ 2 ^ (8 * sz * j) * (2 ^ (8 * sz) - 1) := Int.mul_le_mul_of_nonneg_left (by have := r.2; omega) (Int.le_of_lt hp)
    have e : (2 : Int) ^ (8 * sz * (j + 1)) = 2 ^ (8 * sz * j) * 2 ^ (8 * sz) := by rw [← Int.pow_add]; rfl
    rw [Int.mul_sub, Int.mul_one, ← e] at m1
    refine ⟨Int.add_nonneg ih.1 m0, ?_⟩
    show lowL sz l j + 2 ^ (8 * sz * j) * l.getD j 0 < _
    omega
theorem top3 {sz : Nat} {a0 a1 a2 : Int} : topL sz [a0, a1, a2] 3 = v3 (2 ^ (8 * sz)) a0 a1 a2 := by
  show a0 + 2 ^ (8 * sz) * (a1 + 2 ^ (8 * sz) * (a2 + 2 ^ (8 * sz) * 0)) = _
  unfold v3; grind
theorem low3 {sz : Nat} {a0 a1 a2 : Int} : lowL sz [a0, a1, a2] 3 = v3 (2 ^ (8 * sz)) a0 a1 a2 := by
  show 0 + 2 ^ (8 * sz * 0) * a0 + 2 ^ (8 * sz * 1) * a1 + 2 ^ (8 * sz * 2) * a2 = _
  have e : (2 : Int) ^ (8 * sz * 2) = 2 ^ (8 * sz) * 2 ^ (8 * sz) := by rw [← Int.pow_add]; congr 1; omega
  rw [e, Nat.mul_zero, Nat.mul_one, Int.pow_zero]
  unfold v3; grind
/-- what the loop over the limbs holds -/
def Nou (sz : Nat) (l : List Int) (j : Nat) (A B : Int) : Prop := ClzW (8 * sz * j) (topL sz l j) A ∧ CtzW (8 * sz * j) (lowL sz l j) B
theorem nou0 (sz : Nat) (l : List Int) : Nou sz l 0 0 0 := ⟨⟨0, rfl, Nat.le_refl _, by show (0 : Int) * _ < _; simp, fun h => absurd h (by simp)⟩, ⟨0, 0, rfl, Nat.le_refl _, rfl, by decide, fun h => absurd h (by simp)⟩⟩
theorem nou_top {sz : Nat} {l : List Int} {j : Nat} {A B A' : Int} (hl : ∀ a ∈ l, R sz a) (h : Nou sz l j A B) (hA : (A = ((8 * sz : Nat) : Int) * j ∧ ∃ c, A' = A + c ∧ Clz sz (l.getD (2 - j) 0) c) ∨ (A ≠ ((8 * sz : Nat) : Int) * j ∧ A' = A)) : ClzW (8 * sz * (j + 1)) (topL sz l (j + 1)) A' := by
  rcases hA with ⟨h1, c, rfl, h2⟩ | ⟨h1, rfl⟩
  · exact clzW_go h.1 (by rw [h1]; simp) (topL_nonneg hl j) h2
  · exact clzW_stay h.1 (fun e => h1 (by rw [e]; simp)) (getD_R hl _)
theorem nou_low {sz : Nat} {l : List Int} {j : Nat} {A B B' : Int} (hl : ∀ a ∈ l, R sz a) (h : Nou sz l j A B) (hB : (B = ((8 * sz : Nat) : Int) * j ∧ ∃ c, B' = B + c ∧ Ctz sz (l.getD j 0) c) ∨ (B ≠ ((8 * sz : Nat) : Int) * j ∧ B' = B)) : CtzW (8 * sz * (j + 1)) (lowL sz l (j + 1)) B' := by
  rcases hB with ⟨h1, c, rfl, h2⟩ | ⟨h1, rfl⟩
  · exact ctzW_go h.2 (by rw [h1]; simp) (lowL_lt hl j) h2
  · exact ctzW_stay h.2 (fun e => h1 (by rw [e]; simp)) (getD_R hl _)
theorem nou_top2 {sz : Nat} {l : List Int} {j : Nat} {A B k v : Int} (hl : ∀ a ∈ l, R sz a) (hv : v = ((8 * sz : Nat) : Int)) (hk : k = 0 + (j : Int)) (hj : j < 3) (h : Nou sz l j A B) :
    (∀ c, A = v * k → Clz sz (l.getD (3 - 1 - k).toNat 0) c → ClzW (8 * sz * (j + 1)) (topL sz l (j + 1)) (A + c)) ∧ (A ≠ v * k → ClzW (8 * sz * (j + 1)) (topL sz l (j + 1)) A) := by
  have e1 : (3 - 1 - k).toNat = 2 - j := by omega
  have e2 : v * k = ((8 * sz : Nat) : Int) * j := by rw [hv, hk, Int.zero_add]
  rw [e1, e2]
  exact ⟨fun c h1 h2 => nou_top hl h (.inl ⟨h1, c, rfl, h2⟩), fun h1 => nou_top hl h (.inr ⟨h1, rfl⟩)⟩
theorem nou_low2 {sz : Nat} {l : List Int} {j : Nat} {A B k v : Int} (hl : ∀ a ∈ l, R sz a) (hv : v = ((8 * sz : Nat) : Int)) (hk : k = 0 + (j : Int)) (h : Nou sz l j A B) :
    (∀ c, B = v * k → Ctz sz (l.getD k.toNat 0) c → CtzW (8 * sz * (j + 1)) (lowL sz l (j + 1)) (B + c)) ∧ (B ≠ v * k → CtzW (8 * sz * (j + 1)) (lowL sz l (j + 1)) B) := by
  have e1 : k.toNat = j := by omega
  have e2 : v * k = ((8 * sz : Nat) : Int) * j := by rw [hv, hk, Int.zero_add]
  rw [e1, e2]
  exact ⟨fun c h1 h2 => nou_low hl h (.inl ⟨h1, c, rfl, h2⟩), fun h1 => nou_low hl h (.inr ⟨h1, rfl⟩)⟩
end
section
set_option maxRecDepth 100000
def RngS {σ : Type} (I : Addr) (Led : σ → List (Addr × Obj)) (ps : σ → List (Str × Value)) (x : Str) (stored : List Str) (m₀ : Str → Option Value) (P : σ → Prop) (m : Str → Option Value) (nx : List (Addr × Obj)) : Prop :=
  ∃ c : σ, nx = Led c ∧ (∀ p ∈ Led c, p.1 ≠ I) ∧ (∀ p ∈ ps c, m p.1 = some p.2) ∧ (∀ z, z ≠ x → (∀ p ∈ ps c, z ≠ p.1) → stored.contains z = false → m z = m₀ z) ∧ P c
theorem rng_end {σ : Type} {I : Addr} {it : Obj} {Led : σ → List (Addr × Obj)} {ps : σ → List (Str × Value)} {x : Str} {stored : List Str} {m₀ m' : Str → Option Value} {P : σ → Prop} {h₀ h' : Heap} {L : Addr} {all : List (Addr × Obj)} {s₁ : Shared} {tk : Nat} (c : σ)
    (F : Fr h₀ L h' m') (N : News h₀ L h' all) (hI : (I, it) ∈ all) (hn : ∀ p ∈ Led c, p ∈ all) (off : OffI I it (Led c)) (hk : ∀ p ∈ ps c, m' p.1 = some p.2)
    (hr : ∀ z, z ≠ x → (∀ p ∈ ps c, z ≠ p.1) → stored.contains z = false → m' z = m₀ z) (hp : P c) : UnrEnd h₀ L s₁ I it (RngS I Led ps x stored m₀ P) { s₁ with heap := h', toks := tk } := by
  have off' : ∀ p ∈ Led c, p.1 ≠ I := fun p hp e => by
    rcases off.at p hp with h | h
    · exact h e
    · have h1 := (N _ (hn p hp)).1
      have h2 := (N _ hI).1
      rw [e] at h1
      exact h (congrArg Obj.cls (Option.some.inj (h1.symm.trans h2)))
  refine ⟨h', tk, m', Led c, rfl, F, fun p hp => ?_, off', c, rfl, off', hk, hr, hp⟩
  rcases List.mem_cons.mp hp with rfl | hp
  · exact N _ hI
  · exact N _ (hn p hp)
section
variable {prog : Program} {w : World} {A : Around} {E : Value → Shared → Prop} {s : Shared} {env : Env} {h₀ : Heap} {x : Str} {body : List Stmt} {Q : Flow → Shared → Prop}
theorem rng_rest {σ : Type} {I : Addr} {a₀ : Int} {n : Nat} {m₀ : Str → Option Value} (Led : σ → List (Addr × Obj)) (ps : σ → List (Str × Value)) (stored : List Str) (P : Nat → σ → Prop)
    (turn : ∀ (c : σ) (i : Nat) t (u : Str → Option Value) h tk, i < n → P i c → (∀ p ∈ Led c, p.1 ≠ I) →
      Fr h₀ env.locals h (fun y => if y = x then some (.int (a₀ + (i : Int)) t) else kstB (fun z => if stored.contains z then u z else m₀ z) (ps c) y) →
      News h₀ env.locals h ((I, itR (a₀ + ((i + 1 : Nat) : Int)) ((n : Int) - ((i + 1 : Nat) : Int))) :: Led c) →
      wpAny (model prog w) A (execs body env) (UnrPost h₀ env.locals { s with heap := h, toks := tk } I (itR (a₀ + ((i + 1 : Nat) : Int)) ((n : Int) - ((i + 1 : Nat) : Int))) (RngS I Led ps x stored m₀ (P (i + 1))) Q) E { s with heap := h, toks := tk })
    (done : ∀ (c : σ) (u : Str → Option Value) h tk, P n c → Fr h₀ env.locals h (fun y => if y = x then u y else kstB (fun z => if stored.contains z then u z else m₀ z) (ps c) y) → News h₀ env.locals h (Led c) → Q .next { s with heap := h, toks := tk }) :
    ∀ (k i : Nat) (c : σ) (m : Str → Option Value), i + k = n → P i c → (∀ p ∈ Led c, p.1 ≠ I) → (∀ p ∈ ps c, m p.1 = some p.2) → (∀ z, z ≠ x → (∀ p ∈ ps c, z ≠ p.1) → stored.contains z = false → m z = m₀ z) →
      RangeRest prog w A E h₀ env x body Q s I a₀ n k i m (Led c) := by
  intro k
  induction k with
  | zero =>
    intro i c m hi hp off h1 h2
    obtain rfl : i = n := by omega
    exact RangeRest.zero fun h tk F N => done c m h tk hp (kst_frOut h1 h2 F) N
  | succ k ih =>
    intro i c m hi hp off h1 h2
    refine RangeRest.succ fun t h tk F N => ?_
    refine wpAny_mono (turn c i t m h tk (by omega) hp off (kst_fr h1 h2 F) N) (fun f s₂ p => ?_) fun _ _ e => e
    have up : UnrEnd h₀ env.locals { s with heap := h, toks := tk } I (itR (a₀ + ((i + 1 : Nat) : Int)) ((n : Int) - ((i + 1 : Nat) : Int))) (RngS I Led ps x stored m₀ (P (i + 1))) s₂ →
        UnrEnd h₀ env.locals { s with heap := h, toks := tk } I (itR (a₀ + ((i + 1 : Nat) : Int)) ((n : Int) - ((i + 1 : Nat) : Int))) (RangeRest prog w A E h₀ env x body Q s I a₀ n k (i + 1)) s₂ := by
      rintro ⟨h', tk', m', news', e, F', N', ho, c', rfl, off', h1', h2', hp'⟩
      exact ⟨h', tk', m', _, e, F', N', ho, ih (i + 1) c' m' (by omega) hp' off' h1' h2'⟩
    cases f with
    | ret v => exact p
    | brk => exact p
    | next => exact up p
    | cont => exact up p
theorem rng_inv {σ : Type} {r : Addr} {a₀ b₀ : Int} {t₀ u₀ v₀ : Tok} {n : Nat} {m₀ : Str → Option Value} (Led : σ → List (Addr × Obj)) (ps : σ → List (Str × Value)) (stored : List Str) (P : Nat → σ → Prop) (c₀ : σ)
    (hh : A.handled = none) (hr : IsRange s.heap r a₀ b₀ 1 t₀ u₀ v₀) (hsmall : Builtin.Range.small a₀ b₀ 1 = true) (hn : Builtin.Range.rangeSize a₀ b₀ 1 = (n : Int)) (F : Fr h₀ env.locals s.heap m₀) {news : List (Addr × Obj)} (N : News h₀ env.locals s.heap news) (hsub : ∀ p ∈ Led c₀, p ∈ news)
    (hk : ∀ p ∈ ps c₀, m₀ p.1 = some p.2) (hp : P 0 c₀)
    (turn : ∀ (I : Addr) (c : σ) (i : Nat) t (u : Str → Option Value) h tk, i < n → P i c → (∀ p ∈ Led c, p.1 ≠ I) →
      Fr h₀ env.locals h (fun y => if y = x then some (.int (a₀ + (i : Int)) t) else kstB (fun z => if stored.contains z then u z else m₀ z) (ps c) y) →
      News h₀ env.locals h ((I, itR (a₀ + ((i + 1 : Nat) : Int)) ((n : Int) - ((i + 1 : Nat) : Int))) :: Led c) →
      wpAny (model prog w) A (execs body env) (UnrPost h₀ env.locals { s with heap := h, toks := tk } I (itR (a₀ + ((i + 1 : Nat) : Int)) ((n : Int) - ((i + 1 : Nat) : Int))) (RngS I Led ps x stored m₀ (P (i + 1))) Q) E { s with heap := h, toks := tk })
    (done : ∀ (c : σ) (u : Str → Option Value) h tk, P n c → Fr h₀ env.locals h (fun y => if y = x then u y else kstB (fun z => if stored.contains z then u z else m₀ z) (ps c) y) → News h₀ env.locals h (Led c) → Q .next { s with heap := h, toks := tk }) :
    wpAny (model prog w) A (pyIter (.ref r)) (fun it s₂ => LoopAtV prog w A h₀ env x body Q E it s₂) E s :=
  iter_rangeUnr hh hr hsmall hn F (fun p hp => N p (hsub p hp)) fun I hI => rng_rest Led ps stored P (fun c i t u h tk => turn I c i t u h tk) done n 0 c₀ m₀ (Nat.zero_add _) hp (fun p hp => Nat.ne_of_lt (hI p hp)) hk (fun _ _ _ _ => rfl)
end
/-- all of it lies off I -/
theorem allOff {I : Addr} {l : List (Addr × Obj)} (h : ∀ p ∈ l, p.1 ≠ I) : Apart.AllNe I l := allNe_of h
/-- limbs of any number -/
noncomputable def vL (W : Int) : List Int → Int
  | [] => 0
  | q :: r => q + W * vL W r
structure DivI (sz : Nat) (l : List Int) (b : Int) (i : Nat) (ns : List Int) (r : Int) : Prop where
  len : ns.length = i
  eq : topL sz l i = b * vL (2 ^ (8 * sz)) ns + r
  all : ∀ q ∈ ns, R sz q
  lo : 0 ≤ r
  hi : r < b
theorem DivI.next {sz : Nat} {l ns : List Int} {b r q r' a : Int} {i : Nat} (d : DivI sz l b i ns r) (ha : a = l.getD (2 - i) 0) (h : r * 2 ^ (8 * sz) + a = b * q + r' ∧ (0 ≤ q ∧ q < 2 ^ (8 * sz)) ∧ 0 ≤ r' ∧ r' < b) : DivI sz l b (i + 1) (q :: ns) r' := by
  refine ⟨by rw [List.length_cons, d.len], ?_, fun p hp => ?_, h.2.2.1, h.2.2.2⟩
  · show l.getD (2 - i) 0 + 2 ^ (8 * sz) * topL sz l i = b * (q + 2 ^ (8 * sz) * vL (2 ^ (8 * sz)) ns) + r'
    rw [d.eq, ← ha]
    have := h.1
    grind
  · rcases List.mem_cons.mp hp with rfl | hp
    · exact h.2.1
    · exact d.all p hp
theorem DivI.done {sz : Nat} {a0 a1 a2 b r : Int} {ns : List Int} (d : DivI sz [a0, a1, a2] b 3 ns r) : ∃ q0 q1 q2, ns = [q0, q1, q2] ∧ v3 (2 ^ (8 * sz)) a0 a1 a2 = b * v3 (2 ^ (8 * sz)) q0 q1 q2 + r ∧ (R sz q0 ∧ R sz q1 ∧ R sz q2) ∧ 0 ≤ r ∧ r < b := by
  obtain ⟨h1, h2, h3, h4, h5⟩ := d
  match ns, h1 with
  | [q0, q1, q2], _ =>
    refine ⟨q0, q1, q2, rfl, ?_, ⟨h3 _ (by simp), h3 _ (by simp), h3 _ (by simp)⟩, h4, h5⟩
    rw [top3] at h2
    rw [h2]
    show b * (q0 + 2 ^ (8 * sz) * (q1 + 2 ^ (8 * sz) * (q2 + 2 ^ (8 * sz) * 0))) + r = _
    unfold v3; simp
theorem ints3 {vs : List Value} {q0 q1 q2 : Int} (h : IntsAre vs [q0, q1, q2]) : ∃ t0 t1 t2, vs = [.int q0 t0, .int q1 t1, .int q2 t2] := by
  obtain _ | ⟨_, _, h⟩ := h
  obtain _ | ⟨_, _, h⟩ := h
  obtain _ | ⟨_, _, h⟩ := h
  cases h
  exact ⟨_, _, _, rfl⟩
theorem allNe_get {d : Addr} {p : Addr × Obj} {news : List (Addr × Obj)} (h : Apart.AllNe d news) (hp : p ∈ news) : @Ne Nat p.1 d := by
  induction news with
  | nil => cases hp
  | cons q r ih =>
    have h' : @Ne Nat q.1 d ∧ Apart.AllNe d r := h
    rcases List.mem_cons.mp hp with e | hp
    · rw [e]; exact h'.1
    · exact ih h'.2 hp
theorem ap_ne {q a : Addr} {o o' : Obj} {news : List (Addr × Obj)} (h : Apart [(q, o)] news) (hp : (a, o') ∈ news) : @Ne Nat a q := allNe_get h.1 hp
/-- a turn of a comprehension that has made one object -/
theorem comp_end1 {h₀ : Heap} {L I C D q : Addr} {m : Str → Option Value} {s₁ : Shared} {oI oC oD o : Obj} {S : List (Addr × Obj) → Prop} {rest : Value → List (Addr × Obj) → Prop} {y : Value} {h' : Heap} {tk : Nat} {news : List (Addr × Obj)}
    (F : Fr h₀ L h' m) (N : News h₀ L h' ((q, o) :: (I, oI) :: (C, oC) :: (D, oD) :: news)) (A : Apart [(q, o)] ((I, oI) :: (C, oC) :: (D, oD) :: news)) (off : LCg.Off3 I C D news) (hS : S ((q, o) :: news)) (r : rest y ((q, o) :: news)) :
    LCg.CompEnd h₀ L m s₁ I oI C oC D oD S rest y { s₁ with heap := h', toks := tk } := by
  refine LCg.CompEnd.intro F N ((q, o) :: news) (fun p hp => ?_) ⟨⟨Ne.symm A.1.1, Ne.symm A.1.2.1, Ne.symm A.1.2.2.1⟩, off⟩ hS r
  rcases List.mem_cons.mp hp with rfl | hp
  · exact .tail _ (.head _)
  rcases List.mem_cons.mp hp with rfl | hp
  · exact .tail _ (.tail _ (.head _))
  rcases List.mem_cons.mp hp with rfl | hp
  · exact .tail _ (.tail _ (.tail _ (.head _)))
  rcases List.mem_cons.mp hp with rfl | hp
  · exact .head _
  · exact .tail _ (.tail _ (.tail _ (.tail _ hp)))
theorem off1_ne {D a : Addr} {o' : Obj} {news : List (Addr × Obj)} (h : LCg.Off1 D news) (hp : (a, o') ∈ news) : @Ne Nat a D := by
  induction news with
  | nil => cases hp
  | cons q r ih =>
    have h' : @Ne Nat q.1 D ∧ LCg.Off1 D r := h
    rcases List.mem_cons.mp hp with e | hp
    · rw [← e] at h'; exact h'.1
    · exact ih h'.2 hp
theorem off_ne {I a : Addr} {o' : Obj} {news : List (Addr × Obj)} (h : Apart.AllNe I news) (hp : (a, o') ∈ news) : @Ne Nat a I := allNe_get h hp
/-- one row of the long product -/
theorem pr_row {W x0 x1 a b0 b1 o0 o1 d0 d1 : Int} (hx0 : 0 ≤ x0 ∧ x0 < W) (hx1 : 0 ≤ x1 ∧ x1 < W) (ha : 0 ≤ a ∧ a < W) (hb0 : 0 ≤ b0 ∧ b0 < W) (hb1 : 0 ≤ b1 ∧ b1 < W) (h0 : o0 + W * d0 = x0 + a * b0 % W + 0) (h1 : o1 + W * d1 = x1 + a * b1 % W + (a * b0 / W + d0) % W)
    (r0 : 0 ≤ o0 ∧ o0 < W) (r1 : 0 ≤ o1 ∧ o1 < W) (hd0 : 0 ≤ d0 ∧ d0 ≤ 2) (hd1 : 0 ≤ d1 ∧ d1 ≤ 2) :
    o0 + W * (o1 + W * ((a * b1 / W + d1) % W)) = x0 + W * x1 + a * (b0 + W * b1) ∧ 0 ≤ (a * b1 / W + d1) % W ∧ (a * b1 / W + d1) % W < W := by
  obtain ⟨e0, c0⟩ := pr_step hx0 ha hb0 ⟨Int.le_refl _, by omega⟩ r0 h0 hd0.1
  obtain ⟨e1, c1⟩ := pr_step hx1 ha hb1 c0 r1 h1 hd1.1
  refine ⟨?_, c1⟩
  grind
/-- what the long product holds after i rows -/
def PrI (sz : Nat) (a0 a1 a2 b0 b1 : Int) (i : Nat) (o0 o1 o2 o3 o4 : Int) : Prop :=
  (R sz o0 ∧ R sz o1 ∧ R sz o2 ∧ R sz o3 ∧ R sz o4) ∧
  match i with
  | 0 => o0 = 0 ∧ o1 = 0 ∧ o2 = 0 ∧ o3 = 0 ∧ o4 = 0
  | 1 => o0 + 2 ^ (8 * sz) * (o1 + 2 ^ (8 * sz) * o2) = a0 * (b0 + 2 ^ (8 * sz) * b1) ∧ o3 = 0 ∧ o4 = 0
  | 2 => o0 + 2 ^ (8 * sz) * (o1 + 2 ^ (8 * sz) * (o2 + 2 ^ (8 * sz) * o3)) = (a0 + 2 ^ (8 * sz) * a1) * (b0 + 2 ^ (8 * sz) * b1) ∧ o4 = 0
  | _ => v5 (2 ^ (8 * sz)) o0 o1 o2 o3 o4 = v3 (2 ^ (8 * sz)) a0 a1 a2 * (b0 + 2 ^ (8 * sz) * b1)
theorem PrI.r0 {sz : Nat} {a0 a1 a2 b0 b1 o0 o1 o2 o3 o4 : Int} (h : PrI sz a0 a1 a2 b0 b1 0 o0 o1 o2 o3 o4) {p0 p1 c : Int} (h0 : R sz p0) (h1 : R sz p1)
    (e : p0 + 2 ^ (8 * sz) * (p1 + 2 ^ (8 * sz) * c) = o0 + 2 ^ (8 * sz) * o1 + a0 * (b0 + 2 ^ (8 * sz) * b1) ∧ 0 ≤ c ∧ c < 2 ^ (8 * sz)) : PrI sz a0 a1 a2 b0 b1 1 p0 p1 c o3 o4 := by
  obtain ⟨⟨_, _, _, k3, k4⟩, z0, z1, z2, z3, z4⟩ := h
  refine ⟨⟨h0, h1, e.2, k3, k4⟩, ?_, z3, z4⟩
  rw [e.1, z0, z1]; omega
theorem PrI.r1 {sz : Nat} {a0 a1 a2 b0 b1 o0 o1 o2 o3 o4 : Int} (h : PrI sz a0 a1 a2 b0 b1 1 o0 o1 o2 o3 o4) {p1 p2 c : Int} (h1 : R sz p1) (h2 : R sz p2)
    (e : p1 + 2 ^ (8 * sz) * (p2 + 2 ^ (8 * sz) * c) = o1 + 2 ^ (8 * sz) * o2 + a1 * (b0 + 2 ^ (8 * sz) * b1) ∧ 0 ≤ c ∧ c < 2 ^ (8 * sz)) : PrI sz a0 a1 a2 b0 b1 2 o0 p1 p2 c o4 := by
  obtain ⟨⟨k0, _, _, k3, k4⟩, z0, z3, z4⟩ := h
  refine ⟨⟨k0, h1, h2, e.2, k4⟩, ?_, z4⟩
  have := e.1
  rw [this]; grind
theorem PrI.r2 {sz : Nat} {a0 a1 a2 b0 b1 o0 o1 o2 o3 o4 : Int} (h : PrI sz a0 a1 a2 b0 b1 2 o0 o1 o2 o3 o4) {p2 p3 c : Int} (h2 : R sz p2) (h3 : R sz p3)
    (e : p2 + 2 ^ (8 * sz) * (p3 + 2 ^ (8 * sz) * c) = o2 + 2 ^ (8 * sz) * o3 + a2 * (b0 + 2 ^ (8 * sz) * b1) ∧ 0 ≤ c ∧ c < 2 ^ (8 * sz)) : PrI sz a0 a1 a2 b0 b1 3 o0 o1 p2 p3 c := by
  obtain ⟨⟨k0, k1, _, k3, k4⟩, z0, z4⟩ := h
  refine ⟨⟨k0, k1, h2, h3, e.2⟩, ?_⟩
  have := e.1
  show v5 _ _ _ _ _ _ = _
  unfold v5 v3
  rw [this]; grind
end
local macro_rules | `(tactic| k_call_by "T" $t) => `(tactic| k_dflt ((refine Spec.useT $t (by k_asm) (by k_asm) (by k_asm) (by k_asm) (by k_asm) rfl rfl (Nat.le_of_ble_eq_true rfl) (Nat.le_of_ble_eq_true rfl) (by first | exact rfl | assumption) (by walk_at "mine need") ?_); intro q9 a9 b9 t9 u9 h9 tk9 F9 N9 A9 hp9; (dsimp only [Apart.AllNe] at A9); (have hp91 := hp9.1); (have hp92 := hp9.2.1); (have hp93 := hp9.2.2); (clear hp9); (try k_sweep); (try dsimp only)))
local macro_rules | `(tactic| walk_at "mine ne") => `(tactic| first | exact ne_nil | (refine' ne_cons ?m1 ?m2; (case m1 => k_ne); (case m2 => walk_at "mine ne")))
local macro_rules | `(tactic| walk_at "mine apart") => `(tactic| first | exact ap_nil | (refine' ap_cons ?m1 ?m2; (case m1 => walk_at "mine ne"); (case m2 => walk_at "mine apart")))
section
set_option maxRecDepth 100000
set_option maxHeartbeats 4000000
local macro_rules | `(tactic| walk_at "call builtin:len") => `(tactic| ((with_reducible show wpAny _ _ (call (Value.builtin "len") [Value.ref _]) _ _ _); k_dflt (refine' len_ba (News.get ?kN ?km) ?hz ?_; (case kN => k_asm); (case km => k_mem); (case hz => assumption); k_whole)))
local macro_rules | `(tactic| walk_at "callWith ref") => `(tactic| ((with_reducible show wpAny _ _ (callWith _ (Value.ref _) _ (backTo _ (starEach (_ :: _) _)) (backToKw _ (keywordEach (_ :: _) _))) _ _ _); kfb_any; k_dflt (refine callWith_fbE ?_)))
local macro_rules | `(tactic| walk_at "call ref") => `(tactic| (kfb_any; k_dflt (refine' call_fb (KFB.at_of ?kN ?km) (News.get ?kN2 ?km2) ?hl ?_; (case kN => k_asm); (case km => k_mem); (case kN2 => k_asm); (case km2 => k_mem); (case hl => assumption); k_whole; intro _ _)))
theorem from_ba_spec (w : World) {x : Addr} {sz : Nat} (KI : Kind x sz) (d : Addr) (b : Array UInt8) (hb : b.size = sz) (hz : b.size ≤ sizeLine) (h8 : b.size ≤ 8) :
    Spec w 439 880 42 [.ref x, .ref d] [(d, baObj b)] (fun r tl => PI (KFB.value (KBw.bInts b).reverse) r tl) := by
  intro prog mean mg mb cn cs a₀ ccd cl outer A₀ base h₀ L m s Q E B F X N T hk ret
  refine wpAny_call ?_
  k_dflt (refine' enter (binds := [(Str.ofString "self", .ref x), (Str.ofString "data", .ref d)]) ?k1 ?k2 ?k3 ?k4 ?k5 ?kA ?kF ?kK ?k6 ?k7 ?k8 ?k9 ?kB ?_ ?c2 ?c3 ?c4 ?c5; (case kA => exact rfl); (case kF => exact rfl); (case kK => assumption); (case k1 => k_asm); (case k2 => k_asm); (case k3 => k_asm); (case k4 => k_asm); (case k5 => k_asm); (case k6 => k_is); (case k7 => k_is); (case k8 => exact Nat.le_of_ble_eq_true rfl); (case k9 => exact BindsTo.of_eq rfl); (case c5 => decide); (case kB => exact locs rfl); (case c2 => exact rfl); (case c3 => exact rfl); (case c4 => exact rfl); k_whole)
  intro g' L' h' G1 G2 F' N' B' X' T'
  clear B F X T hk
  dsimp only
  k_fold
  k_steps
  · (try dsimp only); refine fin0 ret G1 G2 N (by k_asm) (by k_asm) (by walk_at "mine need") (pi_mk rfl)
  · exfalso; omega
end
section
set_option maxRecDepth 100000
set_option maxHeartbeats 4000000
local macro_rules | `(tactic| walk_at "call builtin:int.to_bytes") => `(tactic| (k_dflt (refine' call_tb ?h8 ?h0 ?h1 ?_; (case h8 => assumption); (case h0 => assumption); (case h1 => assumption); k_whole; intro _ _ _ _)))
theorem pow256 (k : Nat) : (256 : Int) ^ k = 2 ^ (8 * k) := by rw [Int.pow_mul]; rfl
theorem into_ba_spec (w : World) {x : Addr} {sz : Nat} (KI : Kind x sz) (n : Int) (tn : Tok) (hn : R sz n) :
    SpecC w 439 880 49 [.ref x, .int n tn] [] (fun r tl => ∃ d b, r = .ref d ∧ tl = [(d, baObj b)] ∧ KBw.bInts b = KTBy.little sz n) := by
  intro prog mean mg mb cn cs a₀ ccd cl outer A₀ base h₀ L m s Q E B F X N T hk ret
  refine wpC_call ?_
  k_dflt (refine' enterC (binds := [(Str.ofString "self", .ref x), (Str.ofString "n", .int n tn)]) ?k1 ?k2 ?k3 ?k4 ?k5 ?kA ?kF ?kK ?k6 ?k7 ?k8 ?k9 ?kB ?_ ?c2 ?c3 ?c4 ?c5; (case kA => exact rfl); (case kF => exact rfl); (case kK => assumption); (case k1 => k_asm); (case k2 => k_asm); (case k3 => k_asm); (case k4 => k_asm); (case k5 => k_asm); (case k6 => k_is); (case k7 => k_is); (case k8 => exact Nat.le_of_ble_eq_true rfl); (case k9 => exact BindsTo.of_eq rfl); (case c5 => decide); (case kB => exact locs rfl); (case c2 => exact rfl); (case c3 => exact rfl); (case c4 => exact rfl); k_whole)
  intro g' L' h' G1 G2 F' N' B' X' T'
  clear B F X T hk
  dsimp only
  refine wpC_noE ?_
  have h8 := KI.le8
  have h0 := hn.1
  have h1 : n < 256 ^ sz := by rw [pow256]; exact hn.2
  refine execsC (returnC (callTypeC (T := "bytearray") ?_))
  walk1
  refine ⟨rfl, wpC_any ?_⟩
  k_steps
  dsimp only
  refine callWith_kwF ?_
  k_steps
  · rename_i t1 b1 t2 k2 hb
    have hsz : b1.size = sz := by rw [← KBw.ints_length, hb, KTBy.little_length]
    refine call_ba (by rw [hsz, sizeLine_eq]; omega) fun h2 st2 g2 => ?_
    exact fin1 (s := s) ret G1 G2 N (by k_asm) (by k_asm) sub_nil st2 g2 ⟨_, _, rfl, rfl, hb⟩
end
section
/-- the octets' value, the lowest first -/
def valR (l : List Int) : Int := KFB.value l.reverse
theorem valR_cons (d : Int) (l : List Int) : valR (d :: l) = valR l * 256 + d := by
  unfold valR KFB.value
  rw [List.reverse_cons, List.foldl_append]
  rfl
theorem valR_append : ∀ (l r : List Int), valR (l ++ r) = valR l + 256 ^ l.length * valR r
  | [], r => by simp [valR, KFB.value]
  | d :: l, r => by
    rw [List.cons_append, valR_cons, valR_cons, valR_append l r, List.length_cons, Int.pow_succ]
    grind
theorem valR_little : ∀ (m : Nat) (x : Int), valR (KTBy.little m x) = x % 256 ^ m
  | 0, x => by simp [KTBy.little, valR, KFB.value, Int.emod_one]
  | m + 1, x => by
    rw [KTBy.little_eq]
    rw [List.range_succ_eq_map, List.map_cons, List.map_map, valR_cons]
    have e : (List.range m).map ((fun i => x / 256 ^ i % 256) ∘ Nat.succ) = KTBy.little m (x / 256) := by
      rw [KTBy.little_eq]
      refine List.map_congr_left fun i _ => ?_
      show x / 256 ^ (i + 1) % 256 = x / 256 / 256 ^ i % 256
      rw [Int.ediv_ediv_of_nonneg (by decide), Int.pow_succ, Int.mul_comm]
    rw [e, valR_little m (x / 256), Int.pow_zero, Int.ediv_one]
    have h1 := Int.emod_add_mul_ediv x 256
    have h2 := Int.emod_add_mul_ediv (x / 256) (256 ^ m)
    have h3 : x / 256 / 256 ^ m = x / 256 ^ (m + 1) := by rw [Int.ediv_ediv_of_nonneg (by decide), Int.pow_succ, Int.mul_comm]
    have h4 := Int.emod_add_mul_ediv x (256 ^ (m + 1))
    rw [h3] at h2
    have h5 : (256 : Int) ^ (m + 1) = 256 ^ m * 256 := Int.pow_succ ..
    rw [h5] at h4 ⊢
    grind
theorem octs_eq (n : Int) (m : Nat) : List.map (fun k' : Int => (n / 256 ^ k'.toNat).fmod 256) (rangeKs 0 m) = KTBy.little m n := by
  rw [KTBy.little_eq, rangeKs, List.map_map]
  refine List.map_congr_left fun i _ => ?_
  show (n / 256 ^ (0 + (i : Int)).toNat).fmod 256 = _
  rw [Int.fmod_eq_emod_of_nonneg _ (by decide)]
  congr 3
  omega
theorem little_slice (n : Int) (a b m : Nat) (h : a + b ≤ m) : ((KTBy.little m n).drop a).take b = KTBy.little b (n / 256 ^ a) := by
  apply List.ext_getElem
  · simp [KTBy.little_length]; omega
  · intro i h1 h2
    simp only [KTBy.little_eq]
    simp
    rw [Int.ediv_ediv_of_nonneg (Int.le_of_lt (Int.pow_pos (by decide))), ← Int.pow_add]
theorem slice_ints {sz j : Nat} {v n : Int} {ws : List Value} (hv : v = (sz : Int)) (hj : j < 3)
    (h : IntsAre ws (List.take (min (v * (0 + (j : Int)) + v).toNat (List.map (fun k' : Int => (n / 256 ^ k'.toNat).fmod 256) (rangeKs 0 (3 * v - 0).toNat)).length - (v * (0 + (j : Int))).toNat)
      (List.drop (v * (0 + (j : Int))).toNat (List.map (fun k' : Int => (n / 256 ^ k'.toNat).fmod 256) (rangeKs 0 (3 * v - 0).toNat))))) : IntsAre ws (KTBy.little sz (n / 256 ^ (sz * j))) := by
  rw [octs_eq, KTBy.little_length] at h
  have e1 : (v * (0 + (j : Int))).toNat = sz * j := by
    rw [hv, Int.zero_add, ← Int.natCast_mul, Int.toNat_natCast]
  have e2 : (v * (0 + (j : Int)) + v).toNat = sz * j + sz := by
    rw [hv, Int.zero_add, ← Int.natCast_mul, ← Int.natCast_add, Int.toNat_natCast]
  have e3 : (3 * v - 0).toNat = 3 * sz := by omega
  have e4 : sz * j + sz ≤ 3 * sz := by
    have : j = 0 ∨ j = 1 ∨ j = 2 := by omega
    rcases this with rfl | rfl | rfl <;> omega
  rw [e1, e2, e3, show min (sz * j + sz) (3 * sz) - sz * j = sz by omega, little_slice _ _ _ _ e4] at h
  exact h
theorem little_in : ∀ (m : Nat) (x : Int), KBa.In (KTBy.little m x) := fun m x k hk => by
  rw [KTBy.little_eq] at hk
  obtain ⟨i, _, rfl⟩ := List.mem_map.mp hk
  exact ⟨Int.emod_nonneg _ (by decide), by have := Int.emod_lt_of_pos (x / 256 ^ i) (show (0 : Int) < 256 by decide); omega⟩
theorem from_ba2_spec (w : World) {x : Addr} {sz : Nat} (KI : Kind x sz) (d : Addr) (y : Int) :
    Spec w 439 880 42 [.ref x, .ref d] [(d, baObj (byteArr (KTBy.little sz y)))] (fun r tl => PI (y % 2 ^ (8 * sz)) r tl) := by
  have hs : (byteArr (KTBy.little sz y)).size = sz := by rw [byteArr_size, KTBy.little_length]
  have := from_ba_spec w KI d (byteArr (KTBy.little sz y)) hs (by rw [hs, sizeLine_eq]; have := KI.le8; omega) (by rw [hs]; exact KI.le8)
  have e : KFB.value (KBw.bInts (byteArr (KTBy.little sz y))).reverse = y % 2 ^ (8 * sz) := by
    rw [KBa.ints_make (little_in _ _)]
    show valR _ = _
    rw [valR_little, pow256]
  rw [e] at this
  exact this
/-- three limbs of a number -/
theorem limbs_eq {sz : Nat} {n : Int} (hn : 0 ≤ n ∧ n < 2 ^ (24 * sz)) :
    v3 (2 ^ (8 * sz)) (n / 256 ^ (sz * 0) % 2 ^ (8 * sz)) (n / 256 ^ (sz * 1) % 2 ^ (8 * sz)) (n / 256 ^ (sz * 2) % 2 ^ (8 * sz)) = n := by
  have hW := pow_pos2 (8 * sz)
  have e1 : (256 : Int) ^ (sz * 1) = 2 ^ (8 * sz) := by rw [pow256, Nat.mul_one]
  have e2 : (256 : Int) ^ (sz * 2) = 2 ^ (8 * sz) * 2 ^ (8 * sz) := by rw [pow256, ← Int.pow_add]; congr 1; omega
  have e3 : (2 : Int) ^ (24 * sz) = 2 ^ (8 * sz) * (2 ^ (8 * sz) * 2 ^ (8 * sz)) := by rw [← Int.pow_add, ← Int.pow_add]; congr 1; omega
  rw [e1, e2, Nat.mul_zero, Int.pow_zero, Int.ediv_one, ← Int.ediv_ediv_of_nonneg (Int.le_of_lt hW)]
  rw [e3] at hn
  generalize (2 : Int) ^ (8 * sz) = W at *
  have h1 := Int.emod_add_mul_ediv n W
  have h2 := Int.emod_add_mul_ediv (n / W) W
  have h3 : n / W / W < W := by
    refine Int.ediv_lt_of_lt_mul hW (Int.ediv_lt_of_lt_mul hW ?_)
    have := hn.2
    grind
  have h4 : 0 ≤ n / W / W := Int.ediv_nonneg (Int.ediv_nonneg hn.1 (Int.le_of_lt hW)) (Int.le_of_lt hW)
  rw [Int.emod_eq_of_lt h4 h3]
  unfold v3
  grind
section
variable {prog : Program} {w : World} {A : Around} {E : Value → Shared → Prop} {s : Shared} {h₀ : Heap} {L : Addr} {m : Str → Option Value} {news : List (Addr × Obj)}
theorem call_baN {b : Array UInt8} {t : Tok} {Q : Value → Shared → Prop} (F : Fr h₀ L s.heap m) (N : News h₀ L s.heap news) (hz : b.size ≤ sizeLine)
    (h : ∀ d h', Fr h₀ L h' m → News h₀ L h' ((d, baObj b) :: news) → (∀ p ∈ news, p.1 < d) → Q (.ref d) { s with heap := h' }) : wpC (model prog w) A (call (.type "bytearray") [.bytes b t]) Q E s := by
  refine call_ba hz fun h' st g => h _ h' (fr_stays F st) (fun p hp => ?_) fun p hp => Heap.lt_size (N p hp).1
  rcases List.mem_cons.mp hp with rfl | hp
  · refine ⟨g, fun e => ?_, next_is_new F⟩
    exact absurd F.ns.lt (by rw [← e]; exact Nat.lt_irrefl _)
  · exact news_stays N st p hp
end
end
section
/-- the octets of some limbs -/
def octs (sz : Nat) (ns : List Int) : List Int := ns.flatMap (KTBy.little sz)
theorem octs_snoc (sz : Nat) (ns : List Int) (a : Int) : octs sz (ns ++ [a]) = octs sz ns ++ KTBy.little sz a := by simp [octs]
theorem octs_take {sz i : Nat} {ns : List Int} {a : Int} (h : ns[i]? = some a) : octs sz (ns.take (i + 1)) = octs sz (ns.take i) ++ KTBy.little sz a := by
  rw [List.take_add_one, h]; exact octs_snoc _ _ _
theorem octs_length (sz : Nat) : ∀ ns : List Int, (octs sz ns).length = ns.length * sz
  | [] => by simp [octs]
  | a :: r => by
    have := octs_length sz r
    unfold octs at *
    rw [List.flatMap_cons, List.length_append, KTBy.little_length, this, List.length_cons, Nat.add_mul]; omega
theorem valR_octs {sz : Nat} : ∀ {ns : List Int}, (∀ a ∈ ns, R sz a) → valR (octs sz ns) = vL (2 ^ (8 * sz)) ns
  | [], _ => by simp [octs, valR, KFB.value, vL]
  | a :: r, h => by
    have ih := valR_octs (ns := r) fun b hb => h b (.tail _ hb)
    have ha := h a (.head _)
    unfold octs at *
    rw [List.flatMap_cons, valR_append, ih, valR_little, KTBy.little_length, pow256, Int.emod_eq_of_lt ha.1 ha.2]
    rfl
theorem octs_in {sz : Nat} {ns : List Int} : KBa.In (octs sz ns) := fun k hk => by
  obtain ⟨a, _, h⟩ := List.mem_flatMap.mp hk
  exact little_in sz a k h
theorem valR_sum : ∀ (os : List Int), (List.map (fun i : Nat => os.getD i 0 * 256 ^ i) (List.range os.length)).sum = valR os
  | [] => by simp [valR, KFB.value]
  | d :: r => by
    rw [valR_cons, ← valR_sum r, List.length_cons, List.range_succ_eq_map, List.map_cons, List.map_map, List.sum_cons]
    have e : List.map ((fun i : Nat => (d :: r).getD i 0 * 256 ^ i) ∘ Nat.succ) (List.range r.length) = List.map (fun i : Nat => (r.getD i 0 * 256 ^ i) * 256) (List.range r.length) := by
      refine List.map_congr_left fun i _ => ?_
      show (d :: r).getD (i + 1) 0 * 256 ^ (i + 1) = _
      rw [List.getD_cons_succ, Int.pow_succ, Int.mul_assoc]
    rw [e]
    have f : ∀ l : List Nat, (List.map (fun i : Nat => (r.getD i 0 * 256 ^ i) * 256) l).sum = (List.map (fun i : Nat => r.getD i 0 * 256 ^ i) l).sum * 256 := by
      intro l
      induction l with
      | nil => simp
      | cons a l ih => rw [List.map_cons, List.sum_cons, ih, List.map_cons, List.sum_cons, Int.add_mul]
    rw [f, List.getD_cons_zero, Int.pow_zero, Int.mul_one, Int.add_comm]
theorem octs_bound {sz : Nat} {ns : List Int} (i : Nat) : 0 ≤ (octs sz ns).getD i 0 ∧ (octs sz ns).getD i 0 < 2 ^ 8 := by
  rcases Nat.lt_or_ge i (octs sz ns).length with h | h
  · rw [List.getD_eq_getElem?_getD, List.getElem?_eq_getElem h]
    have := octs_in (sz := sz) (ns := ns) _ (List.getElem_mem h)
    exact ⟨this.1, by have := this.2; simp at *; omega⟩
  · rw [List.getD_eq_getElem?_getD, List.getElem?_eq_none h]; decide
end
section
theorem vL3 (W a b c : Int) : vL W [a, b, c] = v3 W a b c := by simp [vL, v3]
theorem vL4 (W a b c d : Int) : vL W [a, b, c, d] = v4 W a b c d := by simp [vL, v4]
theorem vL5 (W a b c d e : Int) : vL W [a, b, c, d, e] = v5 W a b c d e := by simp [vL, v5]
theorem pow3 (sz : Nat) : (2 : Int) ^ (24 * sz) = 2 ^ (8 * sz) * 2 ^ (8 * sz) * 2 ^ (8 * sz) := by rw [← Int.pow_add, ← Int.pow_add]; congr 1; omega
theorem pow2 (sz : Nat) : (2 : Int) ^ (16 * sz) = 2 ^ (8 * sz) * 2 ^ (8 * sz) := by rw [← Int.pow_add]; congr 1; omega
theorem pair_lt {W M a r : Int} (hW : 0 < W) (ha : 0 ≤ a ∧ a < W) (hr : 0 ≤ r ∧ r < M) : 0 ≤ a + W * r ∧ a + W * r < W * M := by
  have h1 := Int.mul_nonneg (Int.le_of_lt hW) hr.1
  have h2 : W * (r + 1) ≤ W * M := Int.mul_le_mul_of_nonneg_left (by omega) (Int.le_of_lt hW)
  rw [Int.mul_add, Int.mul_one] at h2
  omega
theorem v3_lt {sz : Nat} {a b c : Int} (ha : R sz a) (hb : R sz b) (hc : R sz c) : 0 ≤ v3 (2 ^ (8 * sz)) a b c ∧ v3 (2 ^ (8 * sz)) a b c < 2 ^ (24 * sz) := by
  rw [pow3]
  have hW := pow_pos2 (8 * sz)
  have := pair_lt hW ha (pair_lt hW hb hc)
  rw [← Int.mul_assoc] at this
  exact this
/-- the difference -/
theorem same_diff {sz : Nat} {X Y o0 o1 o2 d : Int} (hX : 0 ≤ X ∧ X < 2 ^ (24 * sz)) (hY : 0 ≤ Y ∧ Y < 2 ^ (24 * sz)) (h : v3 (2 ^ (8 * sz)) o0 o1 o2 - 2 ^ (8 * sz) * 2 ^ (8 * sz) * 2 ^ (8 * sz) * d = X - Y) (hR : R sz o0 ∧ R sz o1 ∧ R sz o2) (hd : 0 ≤ d ∧ d ≤ 1) :
    vL (2 ^ (8 * sz)) [o0, o1, o2] = (X - Y) % 2 ^ (24 * sz) ∧ d = if X < Y then 1 else 0 := by
  have hv := v3_lt hR.1 hR.2.1 hR.2.2
  rw [← pow3] at h
  rw [vL3]
  generalize v3 (2 ^ (8 * sz)) o0 o1 o2 = V at *
  generalize (2 : Int) ^ (24 * sz) = M at *
  have hdd : d = 0 ∨ d = 1 := by omega
  rcases hdd with rfl | rfl
  · rw [Int.mul_zero, Int.sub_zero] at h
    rw [if_neg (by omega), ← h, Int.emod_eq_of_lt hv.1 hv.2]
    exact ⟨rfl, rfl⟩
  · rw [Int.mul_one] at h
    rw [if_pos (by omega)]
    refine ⟨?_, rfl⟩
    rw [← h, Int.sub_emod_right, Int.emod_eq_of_lt hv.1 hv.2]
/-- the product -/
theorem low_two {sz : Nat} {b0 b1 b2 Y : Int} (hR : R sz b0 ∧ R sz b1 ∧ R sz b2) (h : v3 (2 ^ (8 * sz)) b0 b1 b2 = Y) : b0 + 2 ^ (8 * sz) * b1 = Y % 2 ^ (16 * sz) := by
  have hW := pow_pos2 (8 * sz)
  have := pair_lt hW hR.1 hR.2.1
  rw [← pow2] at this
  rw [← h]
  unfold v3
  have e : b0 + 2 ^ (8 * sz) * (b1 + 2 ^ (8 * sz) * b2) = (b0 + 2 ^ (8 * sz) * b1) + 2 ^ (16 * sz) * b2 := by rw [pow2]; grind
  rw [e, Int.add_mul_emod_self_left, Int.emod_eq_of_lt this.1 this.2]
/-- the quotient -/
theorem same_div {X b q r : Int} (h : X = b * q + r) (h0 : 0 ≤ r) (h1 : r < b) : q = X / b ∧ r = X % b := by
  have := kbt_unique (a := X) (by omega) (show r + b * q = X by omega) h0 h1
  exact ⟨this.1.symm, this.2.symm⟩
/-- limbs are told by their value -/
theorem digit {W a b r s : Int} (hW : 0 < W) (ha : 0 ≤ a ∧ a < W) (hb : 0 ≤ b ∧ b < W) (h : a + W * r = b + W * s) : a = b ∧ r = s := by
  have h1 : (a + W * r) % W = a := by rw [Int.add_mul_emod_self_left, Int.emod_eq_of_lt ha.1 ha.2]
  have h2 : (b + W * s) % W = b := by rw [Int.add_mul_emod_self_left, Int.emod_eq_of_lt hb.1 hb.2]
  have e : a = b := by rw [← h1, ← h2, h]
  refine ⟨e, ?_⟩
  subst e
  exact Int.eq_of_mul_eq_mul_left (Int.ne_of_gt hW) (by omega : W * r = W * s)
theorem same_back {sz k : Nat} {X a0 a1 a2 o0 o1 o2 o3 s0 s1 s2 s3 : Int} (hX : v3 (2 ^ (8 * sz)) a0 a1 a2 = X) (hA : R sz a0 ∧ R sz a1 ∧ R sz a2) (hS : v4 (2 ^ (8 * sz)) s0 s1 s2 s3 = X * 2 ^ k)
    (hB : ∃ r, 0 ≤ r ∧ r < 2 ^ k ∧ v4 (2 ^ (8 * sz)) o0 o1 o2 o3 * 2 ^ k + r = v4 (2 ^ (8 * sz)) s0 s1 s2 s3) (hO : R sz o0 ∧ R sz o1 ∧ R sz o2 ∧ R sz o3) : [o0, o1, o2, o3] = [a0, a1, a2, 0] := by
  obtain ⟨r, r0, r1, e⟩ := hB
  have hK := pow_pos2 k
  have hW := pow_pos2 (8 * sz)
  rw [hS, Int.mul_comm _ (2 ^ k), Int.mul_comm X] at e
  have e2 := (digit hK ⟨r0, r1⟩ ⟨Int.le_refl 0, hK⟩ (show r + 2 ^ k * v4 (2 ^ (8 * sz)) o0 o1 o2 o3 = 0 + 2 ^ k * X by omega)).2
  rw [← hX] at e2
  unfold v4 v3 at e2
  obtain ⟨d0, e3⟩ := digit hW hO.1 hA.1 e2
  obtain ⟨d1, e4⟩ := digit hW hO.2.1 hA.2.1 e3
  obtain ⟨d2, e5⟩ := digit hW hO.2.2.1 hA.2.2 (show o2 + 2 ^ (8 * sz) * o3 = a2 + 2 ^ (8 * sz) * 0 by omega)
  rw [d0, d1, d2, e5]
/-- the noughts -/
theorem nou_zero {sz : Nat} {a0 a1 a2 A B : Int} (h : Nou sz [a0, a1, a2] 3 A B) (h0 : v3 (2 ^ (8 * sz)) a0 a1 a2 = 0) : A = ((24 * sz : Nat) : Int) ∧ B = ((24 * sz : Nat) : Int) := by
  obtain ⟨⟨k, e, k1, k2, k3⟩, ⟨j, c, e', j1, j2, j3, j4⟩⟩ := h
  rw [top3, h0] at k2 k3
  rw [low3, h0] at j2
  have hn := pow_pos2 (8 * sz * 3)
  have hp := pow_pos2 j
  constructor
  · rw [e]
    rcases Nat.lt_or_ge k (8 * sz * 3) with hk | hk
    · have := k3 hk; rw [Int.zero_mul, Int.mul_zero] at this; omega
    · omega
  · rw [e']
    rcases Nat.lt_or_ge j (8 * sz * 3) with hk | hk
    · have := j4 hk
      rcases Int.mul_eq_zero.mp j2.symm with h | h <;> omega
    · omega
theorem nou_one {sz : Nat} {a0 a1 a2 A B X : Int} (h : Nou sz [a0, a1, a2] 3 A B) (hX : v3 (2 ^ (8 * sz)) a0 a1 a2 = X) (h0 : X ≠ 0) (hx : 0 ≤ X ∧ X < 2 ^ (24 * sz)) :
    ∃ k j : Nat, A = (k : Int) ∧ B = (j : Int) ∧ k + 1 ≤ 24 * sz ∧ j < 24 * sz ∧ X / 2 ^ (24 * sz - 1 - k) = 1 ∧ X / 2 ^ j % 2 = 1 ∧ X % 2 ^ j = 0 := by
  obtain ⟨⟨k, e, k1, k2, k3⟩, ⟨j, c, e', j1, j2, j3, j4⟩⟩ := h
  rw [top3, hX] at k2 k3
  rw [low3, hX] at j2
  have e24 : 8 * sz * 3 = 24 * sz := by omega
  rw [e24] at k1 k2 k3 j1 j4
  have hn := pow_pos2 (24 * sz)
  have hk : k < 24 * sz := by
    rcases Nat.lt_or_ge k (24 * sz) with hk | hk
    · exact hk
    · have : k = 24 * sz := by omega
      rw [this] at k2
      have h1 : 1 * 2 ^ (24 * sz) ≤ X * 2 ^ (24 * sz) := Int.mul_le_mul_of_nonneg_right (by omega) (Int.le_of_lt hn)
      omega
  have hj : j < 24 * sz := by
    rcases Nat.lt_or_ge j (24 * sz) with hk | hk
    · exact hk
    · have ej : j = 24 * sz := by omega
      rw [ej] at j2
      have hc : 1 ≤ c := by
        rcases Int.lt_or_le c 1 with h | h
        · have : c = 0 := by omega
          rw [this, Int.zero_mul] at j2; omega
        · exact h
      have h1 : 1 * 2 ^ (24 * sz) ≤ c * 2 ^ (24 * sz) := Int.mul_le_mul_of_nonneg_right hc (Int.le_of_lt hn)
      omega
  refine ⟨k, j, e, e', hk, hj, ?_, ?_, ?_⟩
  · have hs : (2 : Int) ^ (24 * sz) = 2 * 2 ^ (24 * sz - 1 - k) * 2 ^ k := by
      rw [← Int.pow_succ', ← Int.pow_add]; congr 1; omega
    have hp := pow_pos2 k
    have hq := pow_pos2 (24 * sz - 1 - k)
    have h3 := k3 hk
    rw [hs] at k2 h3
    have u : X < 2 * 2 ^ (24 * sz - 1 - k) := Int.lt_of_mul_lt_mul_right k2 (Int.le_of_lt hp)
    have l : 2 ^ (24 * sz - 1 - k) ≤ X := by
      refine Int.le_of_mul_le_mul_right (a := 2 ^ k) ?_ hp
      rw [Int.mul_assoc] at h3
      omega
    generalize (2 : Int) ^ (24 * sz - 1 - k) = D at *
    exact (kbt_unique hq (show (X - D) + D * 1 = X by omega) (by omega) (by omega)).1
  · rw [j2, Int.mul_ediv_cancel _ (Int.ne_of_gt (pow_pos2 j))]; exact j4 hj
  · rw [j2]; exact Int.mul_emod_left _ _
end
section
local macro_rules | `(tactic| walk_at "mine range") => `(tactic| first | assumption | exact R.mod _ _ | exact R.zero _ | exact R.two (by assumption) (by assumption) | exact R.one (by assumption) (by assumption) | (exact shr_lt (by walk_at "mine range")))
local macro_rules | `(tactic| walk_at "call ref") => `(tactic| first | ((with_reducible show wpAny _ _ (call (Value.ref 70) _ _) _ _ _); k_call_by "I" (add_spec _ (by assumption) _ _ _ _)) | ((with_reducible show wpAny _ _ (call (Value.ref 77) _ _) _ _ _); k_call_by "I" (add_sat_spec _ (by assumption) _ _ _ _)) | ((with_reducible show wpAny _ _ (call (Value.ref 84) _ _) _ _ _); k_call_by "I" (sub_spec _ (by assumption) _ _ _ _)) | ((with_reducible show wpAny _ _ (call (Value.ref 91) _ _) _ _ _); k_call_by "I" (sub_sat_spec _ (by assumption) _ _ _ _)) | ((with_reducible show wpAny _ _ (call (Value.ref 98) _ _) _ _ _); k_call_by "I" (mul_spec _ (by assumption) _ _ _ _ (by walk_at "mine range") (by walk_at "mine range"))) | ((with_reducible show wpAny _ _ (call (Value.ref 105) _ _) _ _ _); k_call_by "I" (div_spec _ (by assumption) _ _ _ _ (by assumption) (by assumption))) | ((with_reducible show wpAny _ _ (call (Value.ref 112) _ _) _ _ _); k_call_by "I" (rem_spec _ (by assumption) _ _ _ _ (by assumption))) | ((with_reducible show wpAny _ _ (call (Value.ref 119) _ _) _ _ _); k_call_by "I" (shl_spec _ (by assumption) _ _ _ _ (by walk_at "mine range") (by assumption) (by assumption))) | ((with_reducible show wpAny _ _ (call (Value.ref 126) _ _) _ _ _); k_call_by "I" (shr_spec _ (by assumption) _ _ _ _ (by walk_at "mine range") (by assumption) (by assumption))) | ((with_reducible show wpAny _ _ (call (Value.ref 133) _ _) _ _ _); k_call_by "I" (rotl_spec _ (by assumption) _ _ _ _ (by walk_at "mine range") (by assumption) (by assumption))) | ((with_reducible show wpAny _ _ (call (Value.ref 140) _ _) _ _ _); k_call_by "I" (rotr_spec _ (by assumption) _ _ _ _ (by walk_at "mine range") (by assumption) (by assumption))))
set_option maxRecDepth 100000
set_option maxHeartbeats 4000000
theorem carried_spec (w : World) {x : Addr} {sz : Nat} (KI : Kind x sz) (a b c : Int) (ta tb tc : Tok) (ha : R sz a) (hb : R sz b) (hc : R sz c) :
    Spec w 438 860 201 [.ref x, .int a ta, .int b tb, .int c tc] [] (fun r tl => PT (fun o d => o + 2 ^ (8 * sz) * d = a + b + c ∧ R sz o ∧ (0 ≤ d ∧ d ≤ 2)) r tl) := by
  intro prog mean mg mb cn cs a₀ ccd cl outer A₀ base h₀ L m s Q E B F X N T hk ret
  refine wpAny_call ?_
  k_dflt (refine' enter (binds := [(Str.ofString "kind", .ref x), (Str.ofString "left", .int a ta), (Str.ofString "right", .int b tb), (Str.ofString "carry", .int c tc)]) ?k1 ?k2 ?k3 ?k4 ?k5 ?kA ?kF ?kK ?k6 ?k7 ?k8 ?k9 ?kB ?_ ?c2 ?c3 ?c4 ?c5; (case kA => exact rfl); (case kF => exact rfl); (case kK => assumption); (case k1 => k_asm); (case k2 => k_asm); (case k3 => k_asm); (case k4 => k_asm); (case k5 => k_asm); (case k6 => k_is); (case k7 => k_is); (case k8 => exact Nat.le_of_ble_eq_true rfl); (case k9 => exact BindsTo.of_eq rfl); (case c5 => decide); (case kB => exact locs rfl); (case c2 => exact rfl); (case c3 => exact rfl); (case c4 => exact rfl); k_whole)
  intro g' L' h' G1 G2 F' N' B' X' T'
  clear B F X T hk
  dsimp only
  k_fold
  k_steps
  all_goals ((try dsimp only); refine' fin (tl := ?tl) ret G1 G2 N ?f1 ?f2 ?f3 ?f4 ?f5 ⟨_, _, _, _, _, rfl, rfl, ?f6⟩; (case f1 => k_asm); (case f2 => k_asm); (case f3 => walk_at "mine need"); (case f4 => walk_at "mine need"); (case f5 => walk_at "mine apart"))
  all_goals exact ⟨(carry_eq ha hb hc).1, R.mod _ _, (carry_eq ha hb hc).2⟩
theorem halves_spec (w : World) {x : Addr} {sz : Nat} (KI : Kind x sz) (h a : Int) (th ta : Tok) (ha : R sz a) (hh : h = ((4 * sz : Nat) : Int)) :
    Spec w 438 860 222 [.ref x, .int h th, .int a ta] [] (fun r tl => PT (fun o d => o + 2 ^ (4 * sz) * d = a ∧ Hf sz o ∧ Hf sz d) r tl) := by
  intro prog mean mg mb cn cs a₀ ccd cl outer A₀ base h₀ L m s Q E B F X N T hk ret
  refine wpAny_call ?_
  k_dflt (refine' enter (binds := [(Str.ofString "kind", .ref x), (Str.ofString "half", .int h th), (Str.ofString "limb", .int a ta)]) ?k1 ?k2 ?k3 ?k4 ?k5 ?kA ?kF ?kK ?k6 ?k7 ?k8 ?k9 ?kB ?_ ?c2 ?c3 ?c4 ?c5; (case kA => exact rfl); (case kF => exact rfl); (case kK => assumption); (case k1 => k_asm); (case k2 => k_asm); (case k3 => k_asm); (case k4 => k_asm); (case k5 => k_asm); (case k6 => k_is); (case k7 => k_is); (case k8 => exact Nat.le_of_ble_eq_true rfl); (case k9 => exact BindsTo.of_eq rfl); (case c5 => decide); (case kB => exact locs rfl); (case c2 => exact rfl); (case c3 => exact rfl); (case c4 => exact rfl); k_whole)
  intro g' L' h' G1 G2 F' N' B' X' T'
  clear B F X T hk
  dsimp only
  k_fold
  have hk : 4 * sz < 8 * sz := by have := KI.pos; omega
  k_steps
  all_goals ((try dsimp only); refine' fin (tl := ?tl) ret G1 G2 N ?f1 ?f2 ?f3 ?f4 ?f5 ⟨_, _, _, _, _, rfl, rfl, ?f6⟩; (case f1 => k_asm); (case f2 => k_asm); (case f3 => walk_at "mine need"); (case f4 => walk_at "mine need"); (case f5 => walk_at "mine apart"))
  all_goals exact halves_eq ha
local macro_rules | `(tactic| walk_at "call ref") => `(tactic| ((with_reducible show wpAny _ _ (call (Value.ref 201) _ _) _ _ _); k_call_by "T" (carried_spec _ (by assumption) _ _ _ _ _ _ (by walk_at "mine range") (by walk_at "mine range") (by walk_at "mine range"))))
local macro_rules | `(tactic| walk_at "call ref") => `(tactic| ((with_reducible show wpAny _ _ (call (Value.ref 222) _ _) _ _ _); k_call_by "T" (halves_spec _ (by assumption) _ _ _ _ (by walk_at "mine range") (by assumption))))
theorem upper_spec (w : World) {x : Addr} {sz : Nat} (KI : Kind x sz) (h a0 a1 b0 b1 : Int) (th ta0 ta1 tb0 tb1 : Tok) (p q : Addr) (hpq : p ≠ q) (hh : h = ((4 * sz : Nat) : Int)) (ha0 : Hf sz a0) (ha1 : Hf sz a1) (hb0 : Hf sz b0) (hb1 : Hf sz b1) :
    Spec w 437 840 229 [.ref x, .int h th, .ref p, .ref q] [(p, tupO #[.int a0 ta0, .int a1 ta1]), (q, tupO #[.int b0 tb0, .int b1 tb1])] (fun r tl => PI ((a0 + 2 ^ (4 * sz) * a1) * (b0 + 2 ^ (4 * sz) * b1) / 2 ^ (8 * sz)) r tl) := by
  intro prog mean mg mb cn cs a₀ ccd cl outer A₀ base h₀ L m s Q E B F X N T hk ret
  refine wpAny_call ?_
  k_dflt (refine' enter (binds := [(Str.ofString "kind", .ref x), (Str.ofString "half", .int h th), (Str.ofString "one", .ref p), (Str.ofString "two", .ref q)]) ?k1 ?k2 ?k3 ?k4 ?k5 ?kA ?kF ?kK ?k6 ?k7 ?k8 ?k9 ?kB ?_ ?c2 ?c3 ?c4 ?c5; (case kA => exact rfl); (case kF => exact rfl); (case kK => assumption); (case k1 => k_asm); (case k2 => k_asm); (case k3 => k_asm); (case k4 => k_asm); (case k5 => k_asm); (case k6 => k_is); (case k7 => k_is); (case k8 => exact Nat.le_of_ble_eq_true rfl); (case k9 => exact BindsTo.of_eq rfl); (case c5 => decide); (case kB => exact locs rfl); (case c2 => exact rfl); (case c3 => exact rfl); (case c4 => exact rfl); k_whole)
  intro g' L' h' G1 G2 F' N' B' X' T'
  clear B F X T hk
  dsimp only
  k_fold
  have hk : 4 * sz < 8 * sz := by have := KI.pos; omega
  have ra0 := ha0.R
  have ra1 := ha1.R
  have rb0 := hb0.R
  have rb1 := hb1.R
  k_steps
  all_goals ((try dsimp only); refine fin0 ret G1 G2 N (by k_asm) (by k_asm) (by walk_at "mine need") (pi_mk ?_))
  all_goals exact upper_eq ha0 ha1 hb0 hb1 (by assumption) (by assumption) (by assumption)
section
set_option maxRecDepth 100000
set_option maxHeartbeats 4000000
theorem sum_spec (w : World) {x : Addr} {sz : Nat} (KI : Kind x sz) (a0 a1 a2 : Int) (ta0 ta1 ta2 : Tok) (ha0 : R sz a0) (ha1 : R sz a1) (ha2 : R sz a2) (l : Addr) (nl : Nat)(b0 b1 b2 : Int) (tb0 tb1 tb2 : Tok) (hb0 : R sz b0) (hb1 : R sz b1) (hb2 : R sz b2) (k : Addr) (nk : Nat) (hlk : l ≠ k) :
    Spec w 437 840 208 [.ref x, .ref l, .ref k] [(l, listOf #[.int a0 ta0, .int a1 ta1, .int a2 ta2] nl), (k, listOf #[.int b0 tb0, .int b1 tb1, .int b2 tb2] nk)] (fun r tl => PL4 (fun o0 o1 o2 o3 => v4 (2 ^ (8 * sz)) o0 o1 o2 o3 = v3 (2 ^ (8 * sz)) a0 a1 a2 + v3 (2 ^ (8 * sz)) b0 b1 b2 ∧ (R sz o0 ∧ R sz o1 ∧ R sz o2 ∧ R sz o3)) r tl) := by
  intro prog mean mg mb cn cs a₀ ccd cl outer A₀ base h₀ L m s Q E B F X N T hk ret
  refine wpAny_call ?_
  k_dflt (refine' enter (binds := [(Str.ofString "kind", .ref x), (Str.ofString "left", .ref l), (Str.ofString "right", .ref k)]) ?k1 ?k2 ?k3 ?k4 ?k5 ?kA ?kF ?kK ?k6 ?k7 ?k8 ?k9 ?kB ?_ ?c2 ?c3 ?c4 ?c5; (case kA => exact rfl); (case kF => exact rfl); (case kK => assumption); (case k1 => k_asm); (case k2 => k_asm); (case k3 => k_asm); (case k4 => k_asm); (case k5 => k_asm); (case k6 => k_is); (case k7 => k_is); (case k8 => exact Nat.le_of_ble_eq_true rfl); (case k9 => exact BindsTo.of_eq rfl); (case c5 => decide); (case kB => exact locs rfl); (case c2 => exact rfl); (case c3 => exact rfl); (case c4 => exact rfl); k_whole)
  intro g' L' h' G1 G2 F' N' B' X' T'
  clear B F X T hk
  dsimp only
  k_fold
  have hlk9 := neN hlk
  k_steps
  all_goals ((try dsimp only); refine' fin (tl := ?tl) ret G1 G2 N ?f1 ?f2 ?f3 ?f4 ?f5 ⟨_, _, _, _, _, _, _, _, _, _, rfl, rfl, ?f6⟩; (case f1 => k_asm); (case f2 => k_asm); (case f3 => walk_at "mine need"); (case f4 => walk_at "mine need"); (case f5 => walk_at "mine apart"))
  all_goals exact ⟨sum_eq (by assumption) (by assumption) (by assumption), by assumption, by assumption, by assumption, R.two KI (by assumption)⟩
local macro_rules | `(tactic| walk_at "binaryOp Add int int") => `(tactic| ((with_reducible refine op_borrow (by assumption) (by assumption) (by assumption) (by first | assumption | exact ⟨by decide, by decide⟩) ?_); intro d9 hd9 he9))
theorem difference_spec (w : World) {x : Addr} {sz : Nat} (KI : Kind x sz) (a0 a1 a2 : Int) (ta0 ta1 ta2 : Tok) (ha0 : R sz a0) (ha1 : R sz a1) (ha2 : R sz a2) (l : Addr) (nl : Nat)(b0 b1 b2 : Int) (tb0 tb1 tb2 : Tok) (hb0 : R sz b0) (hb1 : R sz b1) (hb2 : R sz b2) (k : Addr) (nk : Nat) (hlk : l ≠ k) :
    Spec w 437 840 215 [.ref x, .ref l, .ref k] [(l, listOf #[.int a0 ta0, .int a1 ta1, .int a2 ta2] nl), (k, listOf #[.int b0 tb0, .int b1 tb1, .int b2 tb2] nk)] (fun r tl => PTL (fun o0 o1 o2 d => v3 (2 ^ (8 * sz)) o0 o1 o2 - 2 ^ (8 * sz) * 2 ^ (8 * sz) * 2 ^ (8 * sz) * d = v3 (2 ^ (8 * sz)) a0 a1 a2 - v3 (2 ^ (8 * sz)) b0 b1 b2 ∧ (R sz o0 ∧ R sz o1 ∧ R sz o2) ∧ 0 ≤ d ∧ d ≤ 1) r tl) := by
  intro prog mean mg mb cn cs a₀ ccd cl outer A₀ base h₀ L m s Q E B F X N T hk ret
  refine wpAny_call ?_
  k_dflt (refine' enter (binds := [(Str.ofString "kind", .ref x), (Str.ofString "left", .ref l), (Str.ofString "right", .ref k)]) ?k1 ?k2 ?k3 ?k4 ?k5 ?kA ?kF ?kK ?k6 ?k7 ?k8 ?k9 ?kB ?_ ?c2 ?c3 ?c4 ?c5; (case kA => exact rfl); (case kF => exact rfl); (case kK => assumption); (case k1 => k_asm); (case k2 => k_asm); (case k3 => k_asm); (case k4 => k_asm); (case k5 => k_asm); (case k6 => k_is); (case k7 => k_is); (case k8 => exact Nat.le_of_ble_eq_true rfl); (case k9 => exact BindsTo.of_eq rfl); (case c5 => decide); (case kB => exact locs rfl); (case c2 => exact rfl); (case c3 => exact rfl); (case c4 => exact rfl); k_whole)
  intro g' L' h' G1 G2 F' N' B' X' T'
  clear B F X T hk
  dsimp only
  k_fold
  have hlk9 := neN hlk
  k_steps
  all_goals ((try dsimp only); refine' fin (tl := ?tl) ret G1 G2 N ?f1 ?f2 ?f3 ?f4 ?f5 ⟨_, _, _, _, _, _, _, _, _, _, _, rfl, rfl, ?f6⟩; (case f1 => k_asm); (case f2 => k_asm); (case f3 => walk_at "mine need"); (case f4 => walk_at "mine need"); (case f5 => walk_at "mine apart"))
  all_goals exact ⟨(by k_ne), diff_eq (by assumption) (by assumption) (by assumption), ⟨R.mod _ _, R.mod _ _, R.mod _ _⟩, by assumption⟩
end
local macro_rules | `(tactic| walk_at "UnrEnd") => `(tactic| k_dflt ((refine' unr_cut ?cF ?cN ?cc ?co ?_); (case cF => assumption); (case cN => assumption); (case cc => repeat (first | with_reducible exact Cut.here | with_reducible refine Cut.there ?_)); (case co => k_offL); (first | (refine ⟨by k_mem, ?_⟩) | skip)))
section
set_option maxRecDepth 100000
set_option maxHeartbeats 4000000
local macro_rules | `(tactic| walk_at "mine pad") => `(tactic| skip)
theorem shifted_spec (w : World) {x : Addr} {sz : Nat} (KI : Kind x sz) (u : Int) (tu : Tok) {k : Nat} (a0 a1 a2 : Int) (ta0 ta1 ta2 : Tok) (ha0 : R sz a0) (ha1 : R sz a1) (ha2 : R sz a2) (l : Addr) (nl : Nat) (hu : u = (k : Int)) (hk : k < 8 * sz) :
    Spec w 437 840 248 [.ref x, .ref l, .int u tu] [(l, listOf #[.int a0 ta0, .int a1 ta1, .int a2 ta2] nl)] (fun r tl => PL4 (fun o0 o1 o2 o3 => v4 (2 ^ (8 * sz)) o0 o1 o2 o3 = v3 (2 ^ (8 * sz)) a0 a1 a2 * 2 ^ k ∧ R sz o0 ∧ R sz o1 ∧ R sz o2 ∧ R sz o3) r tl) := by
  intro prog mean mg mb cn cs a₀ ccd cl outer A₀ base h₀ L m s Q E B F X N T hk ret
  refine wpAny_call ?_
  k_dflt (refine' enter (binds := [(Str.ofString "kind", .ref x), (Str.ofString "left", .ref l), (Str.ofString "turn", .int u tu)]) ?k1 ?k2 ?k3 ?k4 ?k5 ?kA ?kF ?kK ?k6 ?k7 ?k8 ?k9 ?kB ?_ ?c2 ?c3 ?c4 ?c5; (case kA => exact rfl); (case kF => exact rfl); (case kK => assumption); (case k1 => k_asm); (case k2 => k_asm); (case k3 => k_asm); (case k4 => k_asm); (case k5 => k_asm); (case k6 => k_is); (case k7 => k_is); (case k8 => exact Nat.le_of_ble_eq_true rfl); (case k9 => exact BindsTo.of_eq rfl); (case c5 => decide); (case kB => exact locs rfl); (case c2 => exact rfl); (case c3 => exact rfl); (case c4 => exact rfl); k_whole)
  intro g' L' h' G1 G2 F' N' B' X' T'
  clear B F X T hk
  dsimp only
  k_fold
  k_steps
  all_goals ((try dsimp only); refine' fin (tl := ?tl) ret G1 G2 N ?f1 ?f2 ?f3 ?f4 ?f5 ⟨_, _, _, _, _, _, _, _, _, _, rfl, rfl, ?f6⟩; (case f1 => k_asm); (case f2 => k_asm); (case f3 => walk_at "mine need"); (case f4 => walk_at "mine need"); (case f5 => walk_at "mine apart"))
  all_goals exact shifted_eq (pow_pos2 _) (pow_pos2 _) (pow_split2 (Nat.le_of_lt hk)) ha0 ha1 ha2 rfl rfl rfl rfl rfl rfl
end
section
set_option maxRecDepth 100000
set_option maxHeartbeats 4000000
theorem shifted_back_spec (w : World) {x : Addr} {sz : Nat} (KI : Kind x sz) (u : Int) (tu : Tok) {k : Nat} (a0 a1 a2 : Int) (ta0 ta1 ta2 : Tok) (ha0 : R sz a0) (ha1 : R sz a1) (ha2 : R sz a2) (l : Addr) (nl : Nat) (a3 : Int) (ta3 : Tok) (ha3 : R sz a3) (hu : u = (k : Int)) (hk : k < 8 * sz) :
    Spec w 437 840 255 [.ref x, .ref l, .int u tu] [(l, listOf #[.int a0 ta0, .int a1 ta1, .int a2 ta2, .int a3 ta3] nl)] (fun r tl => PL4 (fun o0 o1 o2 o3 => (∃ r, 0 ≤ r ∧ r < 2 ^ k ∧ v4 (2 ^ (8 * sz)) o0 o1 o2 o3 * 2 ^ k + r = v4 (2 ^ (8 * sz)) a0 a1 a2 a3) ∧ R sz o0 ∧ R sz o1 ∧ R sz o2 ∧ R sz o3) r tl) := by
  intro prog mean mg mb cn cs a₀ ccd cl outer A₀ base h₀ L m s Q E B F X N T hk ret
  refine wpAny_call ?_
  k_dflt (refine' enter (binds := [(Str.ofString "kind", .ref x), (Str.ofString "limbs", .ref l), (Str.ofString "turn", .int u tu)]) ?k1 ?k2 ?k3 ?k4 ?k5 ?kA ?kF ?kK ?k6 ?k7 ?k8 ?k9 ?kB ?_ ?c2 ?c3 ?c4 ?c5; (case kA => exact rfl); (case kF => exact rfl); (case kK => assumption); (case k1 => k_asm); (case k2 => k_asm); (case k3 => k_asm); (case k4 => k_asm); (case k5 => k_asm); (case k6 => k_is); (case k7 => k_is); (case k8 => exact Nat.le_of_ble_eq_true rfl); (case k9 => exact BindsTo.of_eq rfl); (case c5 => decide); (case kB => exact locs rfl); (case c2 => exact rfl); (case c3 => exact rfl); (case c4 => exact rfl); k_whole)
  intro g' L' h' G1 G2 F' N' B' X' T'
  clear B F X T hk
  dsimp only
  k_fold
  k_steps
  all_goals ((try dsimp only); refine' fin (tl := ?tl) ret G1 G2 N ?f1 ?f2 ?f3 ?f4 ?f5 ⟨_, _, _, _, _, _, _, _, _, _, rfl, rfl, ?f6⟩; (case f1 => k_asm); (case f2 => k_asm); (case f3 => walk_at "mine need"); (case f4 => walk_at "mine need"); (case f5 => walk_at "mine apart"))
  all_goals exact back_eq (pow_pos2 _) (pow_pos2 _) (pow_split2 (Nat.le_of_lt hk)) ha0 ha1 ha2 ha3 rfl rfl rfl rfl rfl rfl rfl
end
section
set_option maxRecDepth 100000
set_option maxHeartbeats 4000000
section
theorem allP {P : (Int × Tok) × (Int × Tok) → Prop} (h : ∀ a s b t, P ((a, s), (b, t))) : ∀ c, P c := fun ⟨⟨_, _⟩, _, _⟩ => h _ _ _ _
local macro_rules | `(tactic| walk_at "call ref") => `(tactic| ((with_reducible show wpAny _ _ (call (Value.ref 147) _ _) _ _ _); k_call_by "P" (clz_spec _ (by assumption) _ _ (by walk_at "mine range"))))
local macro_rules | `(tactic| walk_at "call ref") => `(tactic| ((with_reducible show wpAny _ _ (call (Value.ref 154) _ _) _ _ _); k_call_by "P" (ctz_spec _ (by assumption) _ _ (by walk_at "mine range"))))
local macro_rules | `(tactic| walk_at "mine range") => `(tactic| exact getD_R (by assumption) _)
local macro_rules | `(tactic| walk_at "pyIter ref") => `(tactic| refine stop_here ?_)
theorem noughts_spec (w : World) {x : Addr} {sz : Nat} (KI : Kind x sz) (v : Int) (tv : Tok) (a0 a1 a2 : Int) (ta0 ta1 ta2 : Tok) (ha0 : R sz a0) (ha1 : R sz a1) (ha2 : R sz a2) (l : Addr) (nl : Nat) (hv : v = ((8 * sz : Nat) : Int)) :
    Spec w 437 840 262 [.ref x, .int v tv, .ref l] [(l, listOf #[.int a0 ta0, .int a1 ta1, .int a2 ta2] nl)] (fun r tl => PT (fun A B => Nou sz [a0, a1, a2] 3 A B) r tl) := by
  intro prog mean mg mb cn cs a₀ ccd cl outer A₀ base h₀ L m s Q E B F X N T hk ret
  refine wpAny_call ?_
  k_dflt (refine' enter (binds := [(Str.ofString "kind", .ref x), (Str.ofString "wide", .int v tv), (Str.ofString "left", .ref l)]) ?k1 ?k2 ?k3 ?k4 ?k5 ?kA ?kF ?kK ?k6 ?k7 ?k8 ?k9 ?kB ?_ ?c2 ?c3 ?c4 ?c5; (case kA => exact rfl); (case kF => exact rfl); (case kK => assumption); (case k1 => k_asm); (case k2 => k_asm); (case k3 => k_asm); (case k4 => k_asm); (case k5 => k_asm); (case k6 => k_is); (case k7 => k_is); (case k8 => exact Nat.le_of_ble_eq_true rfl); (case k9 => exact BindsTo.of_eq rfl); (case c5 => decide); (case kB => exact locs rfl); (case c2 => exact rfl); (case c3 => exact rfl); (case c4 => exact rfl); k_whole)
  intro g' L' h' G1 G2 F' N' B' X' T'
  clear B F X T hk
  dsimp only
  k_fold
  have hal : ∀ a ∈ [a0, a1, a2], R sz a := by
    intro a ha
    simp only [List.mem_cons, List.not_mem_nil, or_false] at ha
    rcases ha with rfl | rfl | rfl <;> assumption
  k_steps
  refine stop_out ?_
  refine' kst_range (σ := (Int × Tok) × (Int × Tok)) (fun _ => [(l, listOf #[.int a0 ta0, .int a1 ta1, .int a2 ta2] nl)]) (fun c => [(Str.ofString "above", .int c.1.1 c.1.2), (Str.ofString "below", .int c.2.1 c.2.2)]) (fun _ => True) []
    (fun pre c => Nou sz [a0, a1, a2] pre.length c.1.1 c.2.1) ((0, ?tk0), (0, ?tk1)) rfl (by assumption) (by decide) (n := 3) (by decide) (by assumption) (by assumption) trivial ?hk ?hp ?turn ?done
  case hk =>
    intro p hp
    rcases List.mem_cons.mp hp with rfl | hp
    · exact rfl
    rcases List.mem_cons.mp hp with rfl | hp
    · exact rfl
    · cases hp
  case hp => exact nou0 _ _
  case turn =>
    refine allP ?_
    intro b1 tb1 c1 tc1 pre k t u h tk own hk hlen hoff _ e1 F1 N1
    dsimp only [kstB] at F1 e1
    simp only [List.cons_append, List.nil_append] at N1
    have q1 := nou_top2 hal hv hk hlen e1
    have q2 := nou_low2 hal hv hk e1
    k_steps
    all_goals (
      refine' kst_end ((_, _), (_, _)) (by k_asm) (by k_asm) (by walk_at "mine need") (fun _ hp => .tail _ hp) rfl trivial ?hk ?hr ?hp
      case hk =>
        intro p hp
        rcases List.mem_cons.mp hp with rfl | hp
        · exact rfl
        rcases List.mem_cons.mp hp with rfl | hp
        · exact rfl
        · cases hp
      case hr =>
        intro z h1 h2 _
        have hb := h2 _ (.head _)
        have ha := h2 _ (.tail _ (.head _))
        simp [h1, hb, ha]
      case hp =>
        dsimp only
        rw [List.length_append, List.length_singleton]
        first
          | exact ⟨q1.1 _ (by assumption) (by assumption), q2.1 _ (by assumption) (by assumption)⟩
          | exact ⟨q1.1 _ (by assumption) (by assumption), q2.2 (by assumption)⟩
          | exact ⟨q1.2 (by assumption), q2.1 _ (by assumption) (by assumption)⟩
          | exact ⟨q1.2 (by assumption), q2.2 (by assumption)⟩)
  case done =>
    refine allP ?_
    intro b1 tb1 c1 tc1 u h tk _ e1 F1 N1
    dsimp only [kstB] at F1 N1 e1
    rw [rangeKs_length] at e1
    k_steps
    all_goals ((try dsimp only); refine' fin (tl := ?tl) ret G1 G2 N ?f1 ?f2 ?f3 ?f4 ?f5 ⟨_, _, _, _, _, rfl, rfl, ?f6⟩; (case f1 => k_asm); (case f2 => k_asm); (case f3 => walk_at "mine need"); (case f4 => walk_at "mine need"); (case f5 => walk_at "mine apart"))
    all_goals exact e1
end
end
section
set_option maxRecDepth 100000
set_option maxHeartbeats 4000000
theorem allD {P : (Addr × List Value × List Int × Nat) × Int × Tok → Prop} (h : ∀ D vs ns cap r t, P ((D, vs, ns, cap), (r, t))) : ∀ c, P c := fun ⟨⟨_, _, _, _⟩, _, _⟩ => h _ _ _ _ _ _
local macro_rules | `(tactic| walk_at "call ref") => `(tactic| ((with_reducible show wpAny _ _ (call (Value.ref 70) _ _) _ _ _); k_dflt ((refine Spec.useO (add_spec _ (by assumption) _ _ _ _) (by k_asm) (by k_asm) (by k_asm) (by k_asm) (by k_asm) rfl rfl (Nat.le_of_ble_eq_true rfl) (Nat.le_of_ble_eq_true rfl) (by first | exact rfl | assumption) (by walk_at "mine need") ?_); intro u9 t9 h9 tk9 hu9 F9 N9; (have hR9 := R.of_mod hu9); (try k_sweep); (try dsimp only))))
local macro_rules | `(tactic| walk_at "call ref") => `(tactic| ((with_reducible show wpAny _ _ (call (Value.ref 119) _ _) _ _ _); k_dflt ((refine Spec.useO (shl_spec _ (by assumption) _ _ _ _ (by walk_at "mine range") (by assumption) (by assumption)) (by k_asm) (by k_asm) (by k_asm) (by k_asm) (by k_asm) rfl rfl (Nat.le_of_ble_eq_true rfl) (Nat.le_of_ble_eq_true rfl) (by first | exact rfl | assumption) (by walk_at "mine need") ?_); intro u9 t9 h9 tk9 hu9 F9 N9; (have hR9 := R.of_mod hu9); (try k_sweep); (try dsimp only))))
local macro_rules | `(tactic| walk_at "call ref") => `(tactic| ((with_reducible show wpAny _ _ (call (Value.ref 105) _ _) _ _ _); k_dflt ((refine Spec.useO (div_spec _ (by assumption) _ _ _ _ (by assumption) (by assumption)) (by k_asm) (by k_asm) (by k_asm) (by k_asm) (by k_asm) rfl rfl (Nat.le_of_ble_eq_true rfl) (Nat.le_of_ble_eq_true rfl) (by first | exact rfl | assumption) (by walk_at "mine need") ?_); intro u9 t9 h9 tk9 hu9 F9 N9; skip; (try k_sweep); (try dsimp only))))
local macro_rules | `(tactic| walk_at "call ref") => `(tactic| ((with_reducible show wpAny _ _ (call (Value.ref 112) _ _) _ _ _); k_dflt ((refine Spec.useO (rem_spec _ (by assumption) _ _ _ _ (by assumption)) (by k_asm) (by k_asm) (by k_asm) (by k_asm) (by k_asm) rfl rfl (Nat.le_of_ble_eq_true rfl) (Nat.le_of_ble_eq_true rfl) (by first | exact rfl | assumption) (by walk_at "mine need") ?_); intro u9 t9 h9 tk9 hu9 F9 N9; (have hR9 := R.of_rem hu9 (by assumption) (by assumption)); (have hR91 := hR9.1); (have hR92 := hR9.2.1); (have hR93 := hR9.2.2); (clear hR9); (try k_sweep); (try dsimp only))))
local macro_rules | `(tactic| walk_at "binaryOp Add ref ref") => `(tactic| ((with_reducible show wpAny _ _ (binaryOp _ (Value.ref _) (Value.ref _)) _ _ _); k_dflt (refine' kmk_add_ints ?F ?N ?a ?b ?i ?j ?_ ?z; (case F => k_asm); (case N => k_asm); (case a => kmk_list); (case b => kmk_list); (case i => l_ints); (case j => l_ints); (case z => (simp only [sizeLine_eq, List.length_cons, List.length_nil]; omega))); intro D' ws' h' F' N' l1 hI'; (try k_lt l1); (try k_sweep)))
local macro_rules | `(tactic| walk_at "UnrEnd") => `(tactic| ((with_reducible show UnrEnd _ _ _ _ _ (RngS _ _ _ _ _ _ _) _); refine stop_here ?_))
local macro_rules | `(tactic| walk_at "mine range") => `(tactic| exact getD_R (by assumption) _)
local macro_rules | `(tactic| walk_at "pyIter ref") => `(tactic| ((with_reducible show wpAny _ _ (pyIter (Value.ref _)) (fun it s₂ => LoopAtV _ _ _ _ _ (Str.ofString "place") _ _ _ it s₂) _ _); refine stop_here ?_))
theorem divided_spec (w : World) {x : Addr} {sz : Nat} (KI : Kind x sz) (h b : Int) (th tb : Tok) (a0 a1 a2 : Int) (ta0 ta1 ta2 : Tok) (ha0 : R sz a0) (ha1 : R sz a1) (ha2 : R sz a2) (l : Addr) (nl : Nat) (hh : h = ((4 * sz : Nat) : Int)) (hb : 0 < b) (hb2 : b < 2 ^ (4 * sz)) (hz : Builtin.Int.intBits b ≤ 9000) :
    Spec w 437 840 241 [.ref x, .int h th, .ref l, .int b tb] [(l, listOf #[.int a0 ta0, .int a1 ta1, .int a2 ta2] nl)] (fun r tl => PTL (fun q0 q1 q2 d => v3 (2 ^ (8 * sz)) a0 a1 a2 = b * v3 (2 ^ (8 * sz)) q0 q1 q2 + d ∧ (R sz q0 ∧ R sz q1 ∧ R sz q2) ∧ 0 ≤ d ∧ d < b) r tl) := by
  intro prog mean mg mb cn cs a₀ ccd cl outer A₀ base h₀ L m s Q E B F X N T hk ret
  refine wpAny_call ?_
  k_dflt (refine' enter (binds := [(Str.ofString "kind", .ref x), (Str.ofString "half", .int h th), (Str.ofString "left", .ref l), (Str.ofString "by", .int b tb)]) ?k1 ?k2 ?k3 ?k4 ?k5 ?kA ?kF ?kK ?k6 ?k7 ?k8 ?k9 ?kB ?_ ?c2 ?c3 ?c4 ?c5; (case kA => exact rfl); (case kF => exact rfl); (case kK => assumption); (case k1 => k_asm); (case k2 => k_asm); (case k3 => k_asm); (case k4 => k_asm); (case k5 => k_asm); (case k6 => k_is); (case k7 => k_is); (case k8 => exact Nat.le_of_ble_eq_true rfl); (case k9 => exact BindsTo.of_eq rfl); (case c5 => decide); (case kB => exact locs rfl); (case c2 => exact rfl); (case c3 => exact rfl); (case c4 => exact rfl); k_whole)
  intro g' L' h' G1 G2 F' N' B' X' T'
  clear B F X T hk
  dsimp only
  k_fold
  have hk : 4 * sz < 8 * sz := by have := KI.pos; omega
  have hal : ∀ a ∈ [a0, a1, a2], R sz a := by
    intro a ha
    simp only [List.mem_cons, List.not_mem_nil, or_false] at ha
    rcases ha with rfl | rfl | rfl <;> assumption
  k_steps
  refine stop_out ?_
  refine' rng_inv (σ := (Addr × List Value × List Int × Nat) × Int × Tok) (fun c => [(c.1.1, listOf c.1.2.1.toArray c.1.2.2.2), (l, listOf #[.int a0 ta0, .int a1 ta1, .int a2 ta2] nl)]) (fun c => [(Str.ofString "out", .ref c.1.1), (Str.ofString "rest", .int c.2.1 c.2.2)])
    [Str.ofString "low", Str.ofString "high", Str.ofString "limb", Str.ofString "piece", Str.ofString "now"]
    (fun i c => @Ne Nat c.1.1 l ∧ IntsAre c.1.2.1 c.1.2.2.1 ∧ DivI sz [a0, a1, a2] b i c.1.2.2.1 c.2.1) ((_, [], [], 0), (0, ?tk1)) rfl (by assumption) (by decide) (n := 3) (by decide) (by assumption) (by assumption) (by walk_at "mine need") ?hk ?hp ?turn ?done
  case hk =>
    intro p hp
    rcases List.mem_cons.mp hp with rfl | hp
    · exact rfl
    rcases List.mem_cons.mp hp with rfl | hp
    · exact rfl
    · cases hp
  case hp => exact ⟨by k_ne, .nil, ⟨rfl, by show (0 : Int) = b * 0 + 0; omega, fun _ h => (nomatch h), Int.le_refl _, hb⟩⟩
  case turn =>
    intro I
    refine allD ?_
    intro D0 vs ns cap rr tr i t u h tk hi hP hoff F1 N1
    have hne := hP.1
    have hvs := hP.2.1
    have hd := hP.2.2
    clear hP
    have hoff' := allOff hoff
    dsimp only [kstB] at F1 N1 hne hvs hd hoff'
    simp only [Apart.AllNe, and_true] at hoff'
    have hr0 := hd.lo
    have hnl : ns.length ≤ 3 := by rw [hd.len]; omega
    have hr1 := hd.hi
    have hRr : R sz rr := Hf.R ⟨hr0, Int.lt_trans hr1 hb2⟩
    k_steps
    refine stop_out ?_
    refine' rng_end ((_, _, _, _), (_, _)) (by k_asm) (by k_asm) (by k_mem) ?hn ?off ?hk ?hr ?hp
    case hk =>
      intro p hp
      rcases List.mem_cons.mp hp with rfl | hp
      · exact rfl
      rcases List.mem_cons.mp hp with rfl | hp
      · exact rfl
      · cases hp
    case hn => walk_at "mine need"
    case off => k_offL
    case hr =>
      intro z h1 h2 h3
      have ho := h2 _ (.head _)
      have hr := h2 _ (.tail _ (.head _))
      simp only [List.contains_cons, List.contains_nil, Bool.or_false, Bool.or_eq_false_iff, beq_eq_false_iff_ne, ne_eq] at h3
      simp [h1, ho, hr, h3]
    case hp =>
      refine ⟨by k_ne, by assumption, hd.next (a := [a0, a1, a2].getD (3 - 1 - (0 + (i : Int))).toNat 0) (by rw [show (3 - 1 - (0 + (i : Int))).toNat = 2 - i by omega]) (div_limb (pow_pos2 _) (sq_pow _) hb hb2 (by assumption) (by assumption) (by assumption) (by assumption) (by assumption) (by assumption) (by assumption) (by assumption) (by assumption) (by assumption) (by assumption) (by assumption) (by assumption) (by first | assumption | exact Hf.lo (by assumption)) (by assumption) ⟨by assumption, by assumption⟩)⟩
  case done =>
    refine allD ?_
    intro D0 vs ns cap rr tr u h tk hP F1 N1
    have hne := hP.1
    have hvs := hP.2.1
    have hd := hP.2.2
    clear hP
    dsimp only [kstB] at F1 N1 hne hvs hd
    obtain ⟨q0, q1, q2, e, hdd⟩ := hd.done
    subst e
    obtain ⟨t0, t1, t2, e⟩ := ints3 hvs
    subst e
    k_steps
    all_goals ((try dsimp only); refine' fin (tl := ?tl) ret G1 G2 N ?f1 ?f2 ?f3 ?f4 ?f5 ⟨_, _, _, _, _, _, _, _, _, _, _, rfl, rfl, ?f6⟩; (case f1 => k_asm); (case f2 => k_asm); (case f3 => walk_at "mine need"); (case f4 => walk_at "mine need"); (case f5 => walk_at "mine apart"))
    all_goals exact ⟨(by k_ne), hdd⟩
end
section
set_option maxRecDepth 100000
set_option maxHeartbeats 4000000
def sel3 {α : Type} (a b c : α) : Nat → α
  | 0 => a
  | 1 => b
  | _ => c
theorem get_sel3 {v0 v1 v2 v : Value} {k : Int} {i : Nat} (hv : v = sel3 v0 v1 v2 i) (hk : k = (i : Int)) (hi : i < 3) : [v0, v1, v2][k.toNat]? = some v := by
  subst hv; subst hk
  rcases (by omega : i = 0 ∨ i = 1 ∨ i = 2) with rfl | rfl | rfl <;> rfl
theorem get_at {pre r : List Value} {v : Value} {k : Int} {i : Nat} (hp : pre.length = i) (hk : k = (i : Int)) : (pre ++ v :: r)[k.toNat]? = some v := by
  subst hk; subst hp
  rw [Int.toNat_natCast, List.getElem?_append_right (Nat.le_refl _), Nat.sub_self]
  rfl
theorem get_at1 {pre r : List Value} {x v : Value} {k : Int} {i : Nat} (hp : pre.length = i) (hk : k = (i : Int) + 1) : (pre ++ x :: v :: r)[k.toNat]? = some v := by
  have e : pre ++ x :: v :: r = (pre ++ [x]) ++ v :: r := by simp
  rw [e]
  exact get_at (i := i + 1) (by simp [hp]) (by rw [hk]; rfl)
theorem set_app (pre r : List Value) (v v' : Value) : ki_setL (pre ++ v :: r) pre.length v' = some (pre ++ v' :: r) := by
  induction pre with
  | nil => rfl
  | cons p q ih =>
    show (match ki_setL (q ++ v :: r) q.length v' with | some z => some (p :: z) | none => none) = _
    rw [ih]; rfl
theorem set_at {pre r : List Value} {v v' : Value} {k : Int} {i : Nat} (hp : pre.length = i) (hk : k = (i : Int)) : ki_setL (pre ++ v :: r) k.toNat v' = some (pre ++ v' :: r) := by
  subst hk; subst hp
  rw [Int.toNat_natCast]
  exact set_app _ _ _ _
theorem set_at1 {pre r : List Value} {x v v' : Value} {k : Int} {i : Nat} (hp : pre.length = i) (hk : k = (i : Int) + 1) : ki_setL (pre ++ x :: v :: r) k.toNat v' = some (pre ++ x :: v' :: r) := by
  have e : ∀ z, pre ++ x :: z :: r = (pre ++ [x]) ++ z :: r := by simp
  rw [e, e]
  exact set_at (i := i + 1) (by simp [hp]) (by rw [hk]; rfl)
theorem set_at2 {pre r : List Value} {x y v v' : Value} {k : Int} {i : Nat} (hp : pre.length = i) (hk : k = (i : Int) + 2) : ki_setL (pre ++ x :: y :: v :: r) k.toNat v' = some (pre ++ x :: y :: v' :: r) := by
  have e : ∀ z, pre ++ x :: y :: z :: r = (pre ++ [x, y]) ++ z :: r := by simp
  rw [e, e]
  exact set_at (i := i + 2) (by simp [hp]) (by rw [hk]; rfl)
section
variable {prog : Program} {w : World} {A : Around} {E : Value → Shared → Prop} {s : Shared} {h₀ : Heap} {L : Addr} {m : Str → Option Value} {news : List (Addr × Obj)}
theorem item_sel3 {value slice : PySem.Expr} {D : Addr} {n : Nat} {k : Int} {u : Tok} {i : Nat} {v0 v1 v2 v : Value} {Q : Value → Shared → Prop} (N : News h₀ L s.heap news) (hm : (D, listOf #[v0, v1, v2] n) ∈ news) (hv : v = sel3 v0 v1 v2 i) (hk : k = (i : Int)) (hi : i < 3) (h : Q v s)
    (hs : subscripted slice false (.ref D) (.int k u) = operate [.ref D, .int k u] (getItem (.ref D) (.int k u)) := by with_unfolding_all rfl) :
    wpAny (model prog w) A (subscriptTail value slice (.ref D) (.int k u)) Q E s := item_litK (News.isList N hm) (by omega) (by omega) (get_sel3 hv hk hi) h hs
theorem item_at {value slice : PySem.Expr} {D : Addr} {n : Nat} {k : Int} {u : Tok} {i : Nat} {pre r : List Value} {v : Value} {Q : Value → Shared → Prop} (N : News h₀ L s.heap news) (hm : (D, listOf (pre ++ v :: r).toArray n) ∈ news) (hp : pre.length = i) (hk : k = (i : Int)) (hi : i < 3) (h : Q v s)
    (hs : subscripted slice false (.ref D) (.int k u) = operate [.ref D, .int k u] (getItem (.ref D) (.int k u)) := by with_unfolding_all rfl) :
    wpAny (model prog w) A (subscriptTail value slice (.ref D) (.int k u)) Q E s := item_litK (News.isList N hm) (by omega) (by omega) (get_at hp hk) h hs
theorem item_at1 {value slice : PySem.Expr} {D : Addr} {n : Nat} {k : Int} {u : Tok} {i : Nat} {pre r : List Value} {x v : Value} {Q : Value → Shared → Prop} (N : News h₀ L s.heap news) (hm : (D, listOf (pre ++ x :: v :: r).toArray n) ∈ news) (hp : pre.length = i) (hk : k = (i : Int) + 1) (hi : i < 3) (h : Q v s)
    (hs : subscripted slice false (.ref D) (.int k u) = operate [.ref D, .int k u] (getItem (.ref D) (.int k u)) := by with_unfolding_all rfl) :
    wpAny (model prog w) A (subscriptTail value slice (.ref D) (.int k u)) Q E s := item_litK (News.isList N hm) (by omega) (by omega) (get_at1 hp hk) h hs
variable {D : Addr} {n i : Nat} {k : Int} {u : Tok} {pre r : List Value} {x y v v' : Value} {news' : List (Addr × Obj)} {Q : Unit → Shared → Prop}
theorem put_at (F : Fr h₀ L s.heap m) (N : News h₀ L s.heap news) (hp : pre.length = i) (hk : k = (i : Int)) (hi : i < 3) (U : Upd D (listOf (pre ++ v :: r).toArray n) (listOf (pre ++ v' :: r).toArray n) news news')
    (h : ∀ h', Fr h₀ L h' m → News h₀ L h' news' → Q () { s with heap := h' }) : wpAny (model prog w) A (setItem (.ref D) (.int k u) v') Q E s := ki_set F N (by omega) (by omega) (set_at hp hk) U h
theorem put_at1 (F : Fr h₀ L s.heap m) (N : News h₀ L s.heap news) (hp : pre.length = i) (hk : k = (i : Int) + 1) (hi : i < 3) (U : Upd D (listOf (pre ++ x :: v :: r).toArray n) (listOf (pre ++ x :: v' :: r).toArray n) news news')
    (h : ∀ h', Fr h₀ L h' m → News h₀ L h' news' → Q () { s with heap := h' }) : wpAny (model prog w) A (setItem (.ref D) (.int k u) v') Q E s := ki_set F N (by omega) (by omega) (set_at1 hp hk) U h
theorem put_at2 (F : Fr h₀ L s.heap m) (N : News h₀ L s.heap news) (hp : pre.length = i) (hk : k = (i : Int) + 2) (hi : i < 3) (U : Upd D (listOf (pre ++ x :: y :: v :: r).toArray n) (listOf (pre ++ x :: y :: v' :: r).toArray n) news news')
    (h : ∀ h', Fr h₀ L h' m → News h₀ L h' news' → Q () { s with heap := h' }) : wpAny (model prog w) A (setItem (.ref D) (.int k u) v') Q E s := ki_set F N (by omega) (by omega) (set_at2 hp hk) U h
end
/-- what a turned row means -/
def RowEnd (sz : Nat) (a0 a1 a2 b0 b1 : Int) (i : Nat) (x0 x1 : Int) (pre r : List Value) : Prop :=
  ∀ (a l0 l1 c : Int) (w0 w1 w2 : Tok), a = sel3 a0 a1 a2 i → R sz l0 → R sz l1 → (l0 + 2 ^ (8 * sz) * (l1 + 2 ^ (8 * sz) * c) = x0 + 2 ^ (8 * sz) * x1 + a * (b0 + 2 ^ (8 * sz) * b1) ∧ 0 ≤ c ∧ c < 2 ^ (8 * sz)) →
      ∃ p0 p1 p2 p3 p4 q0 q1 q2 q3 q4, (pre ++ .int l0 w0 :: .int l1 w1 :: .int c w2 :: r).toArray = #[.int p0 q0, .int p1 q1, .int p2 q2, .int p3 q3, .int p4 q4] ∧ PrI sz a0 a1 a2 b0 b1 (i + 1) p0 p1 p2 p3 p4
theorem row_end {sz : Nat} {a0 a1 a2 b0 b1 x0 x1 a l0 l1 c : Int} {w0 w1 w2 : Tok} {i n : Nat} {pre r : List Value} {h₀ h : Heap} {L D : Addr} {news : List (Addr × Obj)} {P : Prop} (N : News h₀ L h news) (hm : (D, listOf (pre ++ .int l0 w0 :: .int l1 w1 :: .int c w2 :: r).toArray n) ∈ news)
    (e : RowEnd sz a0 a1 a2 b0 b1 i x0 x1 pre r) (ea : a = sel3 a0 a1 a2 i) (h0 : R sz l0) (h1 : R sz l1) (hr : l0 + 2 ^ (8 * sz) * (l1 + 2 ^ (8 * sz) * c) = x0 + 2 ^ (8 * sz) * x1 + a * (b0 + 2 ^ (8 * sz) * b1) ∧ 0 ≤ c ∧ c < 2 ^ (8 * sz))
    (k : ∀ p0 p1 p2 p3 p4 q0 q1 q2 q3 q4, News h₀ L h ((D, listOf #[.int p0 q0, .int p1 q1, .int p2 q2, .int p3 q3, .int p4 q4] n) :: news) → PrI sz a0 a1 a2 b0 b1 (i + 1) p0 p1 p2 p3 p4 → P) : P := by
  obtain ⟨p0, p1, p2, p3, p4, q0, q1, q2, q3, q4, e1, hp⟩ := e a l0 l1 c w0 w1 w2 ea h0 h1 hr
  refine k p0 p1 p2 p3 p4 q0 q1 q2 q3 q4 (fun p hp => ?_) hp
  rcases List.mem_cons.mp hp with rfl | hp
  · rw [← e1]; exact N _ hm
  · exact N _ hp
/-- a row begins: the three places that it turns, the row's limb and the address of its halves -/
theorem row_in {sz : Nat} {a0 a1 a2 b0 b1 o0 o1 o2 o3 o4 lo0 hi0 lo1 hi1 lo2 hi2 : Int} {t0 t1 t2 t3 t4 ta0 ta1 ta2 u0 v0 u1 v1 u2 v2 : Tok} {i n : Nat} {h₀ h : Heap} {L I D p0 p1 p2 q q' : Addr} {it : Obj} {news : List (Addr × Obj)} {P : Prop} (N : News h₀ L h ((I, it) :: (D, listOf #[Value.int o0 t0, .int o1 t1, .int o2 t2, .int o3 t3, .int o4 t4] n) :: news)) (hi : i < 3) (hp : PrI sz a0 a1 a2 b0 b1 i o0 o1 o2 o3 o4)
    (ha0 : R sz a0) (ha1 : R sz a1) (ha2 : R sz a2) (m0 : (p0, tupO #[.int lo0 u0, .int hi0 v0]) ∈ news) (m1 : (p1, tupO #[.int lo1 u1, .int hi1 v1]) ∈ news) (m2 : (p2, tupO #[.int lo2 u2, .int hi2 v2]) ∈ news)
    (e0 : lo0 + 2 ^ (4 * sz) * hi0 = a0) (e1 : lo1 + 2 ^ (4 * sz) * hi1 = a1) (e2 : lo2 + 2 ^ (4 * sz) * hi2 = a2) (l0 : Hf sz lo0) (l1 : Hf sz lo1) (l2 : Hf sz lo2) (g0 : Hf sz hi0) (g1 : Hf sz hi1) (g2 : Hf sz hi2)
    (X : ∀ p, p = p0 ∨ p = p1 ∨ p = p2 → @Ne Nat p I ∧ @Ne Nat D p ∧ @Ne Nat p q ∧ @Ne Nat p q')
    (k : ∀ pre x0 x1 x2 u0 u1 u2 r a ta p lo tlo hi' thi, News h₀ L h ((p, tupO #[.int lo tlo, .int hi' thi]) :: (I, it) :: (D, listOf (pre ++ .int x0 u0 :: .int x1 u1 :: .int x2 u2 :: r).toArray n) :: news) → pre.length = i → R sz x0 → R sz x1 → RowEnd sz a0 a1 a2 b0 b1 i x0 x1 pre r →
      a = sel3 a0 a1 a2 i → Value.int a ta = sel3 (.int a0 ta0) (.int a1 ta1) (.int a2 ta2) i → Value.ref p = sel3 (.ref p0) (.ref p1) (.ref p2) i → R sz a → lo + 2 ^ (4 * sz) * hi' = a → Hf sz lo → Hf sz hi' → @Ne Nat p I → @Ne Nat D p → @Ne Nat p q → @Ne Nat p q' → P) : P := by
  have hR := hp.1
  have ext : ∀ z, z ∈ news → ∀ ys, #[Value.int o0 t0, .int o1 t1, .int o2 t2, .int o3 t3, .int o4 t4] = ys → News h₀ L h (z :: (I, it) :: (D, listOf ys n) :: news) := fun z hz ys e p hp => by
    subst e
    rcases List.mem_cons.mp hp with rfl | hp
    · exact N _ (.tail _ (.tail _ hz))
    · exact N _ hp
  rcases (by omega : i = 0 ∨ i = 1 ∨ i = 2) with rfl | rfl | rfl
  · obtain ⟨x1, x2, x3, x4⟩ := X _ (.inl rfl)
    exact k [] o0 o1 o2 t0 t1 t2 [.int o3 t3, .int o4 t4] _ _ _ _ _ _ _ (ext _ m0 _ rfl) rfl hR.1 hR.2.1 (fun a l0 l1 c w0 w1 w2 ea h0 h1 e => by subst ea; exact ⟨_, _, _, _, _, _, _, _, _, _, rfl, hp.r0 h0 h1 e⟩) rfl rfl rfl ha0 e0 l0 g0 x1 x2 x3 x4
  · obtain ⟨x1, x2, x3, x4⟩ := X _ (.inr (.inl rfl))
    exact k [.int o0 t0] o1 o2 o3 t1 t2 t3 [.int o4 t4] _ _ _ _ _ _ _ (ext _ m1 _ rfl) rfl hR.2.1 hR.2.2.1 (fun a l0 l1 c w0 w1 w2 ea h0 h1 e => by subst ea; exact ⟨_, _, _, _, _, _, _, _, _, _, rfl, hp.r1 h0 h1 e⟩) rfl rfl rfl ha1 e1 l1 g1 x1 x2 x3 x4
  · obtain ⟨x1, x2, x3, x4⟩ := X _ (.inr (.inr rfl))
    exact k [.int o0 t0, .int o1 t1] o2 o3 o4 t2 t3 t4 [] _ _ _ _ _ _ _ (ext _ m2 _ rfl) rfl hR.2.2.1 hR.2.2.2.1 (fun a l0 l1 c w0 w1 w2 ea h0 h1 e => by subst ea; exact ⟨_, _, _, _, _, _, _, _, _, _, rfl, hp.r2 h0 h1 e⟩) rfl rfl rfl ha2 e2 l2 g2 x1 x2 x3 x4
theorem or3 {P : Addr → Prop} {a b c : Addr} (ha : P a) (hb : P b) (hc : P c) : ∀ p, p = a ∨ p = b ∨ p = c → P p := by
  rintro p (rfl | rfl | rfl) <;> assumption
theorem all5 {P : (Int × Tok) × (Int × Tok) × (Int × Tok) × (Int × Tok) × (Int × Tok) → Prop} (h : ∀ o0 t0 o1 t1 o2 t2 o3 t3 o4 t4, P ((o0, t0), (o1, t1), (o2, t2), (o3, t3), (o4, t4))) : ∀ c, P c := fun ⟨⟨_, _⟩, ⟨_, _⟩, ⟨_, _⟩, ⟨_, _⟩, _, _⟩ => h _ _ _ _ _ _ _ _ _ _
/-- one premise for each entry: it lies off I -/
noncomputable def OffC (I : Addr) : List (Addr × Obj) → Prop → Prop
  | [], P => P
  | (a, _) :: r, P => @Ne Nat a I → OffC I r P
theorem offC {I : Addr} {P : Prop} : ∀ {l : List (Addr × Obj)}, (∀ p ∈ l, p.1 ≠ I) → OffC I l P → P
  | [], _, k => k
  | (_, _) :: _, h, k => offC (fun p hp => h p (.tail _ hp)) (k (h _ (.head _)))
theorem offC_nil {I : Addr} {P : Prop} (h : P) : OffC I [] P := h
local macro_rules | `(tactic| walk_at "subscriptTail Name Name ref int") => `(tactic| ((with_reducible show wpAny _ _ (subscriptTail _ _ (Value.ref _) (Value.int _ _)) _ _ _); k_dflt (refine' item_litK (News.isList ?kN ?km) ?k2 ?k3 ?k4 ?_ ?k6; (case kN => k_asm); (case km => k_mem); (case k2 => decide); (case k3 => decide); (case k4 => rfl); (case k6 => with_unfolding_all rfl); k_whole)))
local macro_rules | `(tactic| walk_at "CompSrc") => `(tactic| k_dflt (refine LCg.CompSrc.ledger (by rfl) (by k_asm) (by k_asm) (by k_mem) (by first | size_fits | exact Nat.le_of_ble_eq_true rfl) ?_; intro g'; lcg_lit))
theorem upper2_spec (w : World) {x : Addr} {sz : Nat} (KI : Kind x sz) (h a0 a1 b0 b1 a b : Int) (th ta0 ta1 tb0 tb1 : Tok) (p q : Addr) (ea : a0 + 2 ^ (4 * sz) * a1 = a) (eb : b0 + 2 ^ (4 * sz) * b1 = b) (hpq : p ≠ q) (hh : h = ((4 * sz : Nat) : Int)) (ha0 : Hf sz a0) (ha1 : Hf sz a1) (hb0 : Hf sz b0) (hb1 : Hf sz b1) :
    Spec w 437 840 229 [.ref x, .int h th, .ref p, .ref q] [(p, tupO #[.int a0 ta0, .int a1 ta1]), (q, tupO #[.int b0 tb0, .int b1 tb1])] (fun r tl => PI (a * b / 2 ^ (8 * sz)) r tl) := by
  subst ea; subst eb
  exact upper_spec w KI h a0 a1 b0 b1 th ta0 ta1 tb0 tb1 p q hpq hh ha0 ha1 hb0 hb1
local macro_rules | `(tactic| walk_at "pyIter ref") => `(tactic| ((with_reducible show wpAny _ _ (pyIter (Value.ref _)) (fun it s₂ => LoopAtV _ _ _ _ _ (Str.ofString "place") _ _ _ it s₂) _ _); refine stop_here ?_))
local macro_rules | `(tactic| walk_at "UnrEnd") => `(tactic| refine stop_here ?_)
local macro_rules | `(tactic| walk_at "CompRest") => `(tactic| refine stop_here ?_)
local macro_rules | `(tactic| walk_at "CompEnd") => `(tactic| refine stop_here ?_)
local macro_rules | `(tactic| walk_at "call ref") => `(tactic| ((first | (with_reducible show wpAny _ _ (call (Value.ref 229) _ _) _ _ _) | (with_reducible show wpAny _ _ (call (Value.ref 222) _ _) _ _ _)); refine stop_here ?_))
local macro_rules | `(tactic| walk_at "mine idx") => `(tactic| first | exact Int.zero_add _ | (simp; done))
local macro_rules | `(tactic| k_call_by "item" $t) => `(tactic| ((with_reducible show wpAny _ _ (subscriptTail _ _ (Value.ref _) (Value.int _ _)) _ _ _); k_dflt (refine' $t ?kN ?km ?kv ?kk ?ki ?_ ?k6; (case kN => k_asm); (case km => k_mem); (case kv => with_reducible assumption); (case kk => walk_at "mine idx"); (case ki => with_reducible assumption); (case k6 => with_unfolding_all rfl); k_whole)))
local macro_rules | `(tactic| walk_at "subscriptTail Name Name ref int") => `(tactic| k_call_by "item" item_sel3)
local macro_rules | `(tactic| walk_at "subscriptTail Name BinOp ref int") => `(tactic| first | k_call_by "item" item_at1 | k_call_by "item" item_at)
local macro_rules | `(tactic| k_call_by "put" $t) => `(tactic| k_dflt ((refine' $t ?F ?N ?kp ?kk ?ki ?U ?_; (case F => k_asm); (case N => k_asm); (case kp => with_reducible assumption); (case kk => walk_at "mine idx"); (case ki => with_reducible assumption); (case U => k_upd)); (intro h' F' N'; (try dsimp only [List.nil_append, List.cons_append] at N'); (try k_sweep))))
local macro_rules | `(tactic| walk_at "setItem ref int") => `(tactic| first | k_call_by "put" put_at2 | k_call_by "put" put_at1 | k_call_by "put" put_at)
theorem product_spec (w : World) {x : Addr} {sz : Nat} (KI : Kind x sz) (h : Int) (th : Tok) (a0 a1 a2 : Int) (ta0 ta1 ta2 : Tok) (ha0 : R sz a0) (ha1 : R sz a1) (ha2 : R sz a2) (l : Addr) (nl : Nat) (b0 b1 : Int) (tb0 tb1 : Tok) (hb0 : R sz b0) (hb1 : R sz b1) (k : Addr) (nk : Nat) (hlk : l ≠ k) (hh : h = ((4 * sz : Nat) : Int)) :
    Spec w 436 820 234 [.ref x, .int h th, .ref l, .ref k] [(l, listOf #[.int a0 ta0, .int a1 ta1, .int a2 ta2] nl), (k, listOf #[.int b0 tb0, .int b1 tb1] nk)] (fun r tl => PL5 (fun o0 o1 o2 o3 o4 => v5 (2 ^ (8 * sz)) o0 o1 o2 o3 o4 = v3 (2 ^ (8 * sz)) a0 a1 a2 * (b0 + (2 ^ (8 * sz)) * b1) ∧ R sz o0 ∧ R sz o1 ∧ R sz o2 ∧ R sz o3 ∧ R sz o4) r tl) := by
  intro prog mean mg mb cn cs a₀ ccd cl outer A₀ base h₀ L m s Q E B F X N T hk ret
  refine wpAny_call ?_
  k_dflt (refine' enterX (binds := [(Str.ofString "kind", .ref x), (Str.ofString "half", .int h th), (Str.ofString "left", .ref l), (Str.ofString "right", .ref k)]) ?k1 ?k2 ?k3 ?k4 ?k5 ?kA ?kF ?kK ?k6 ?k7 ?k8 ?k9 ?kB ?kD ?_ ?c2 ?c3 ?c4; (case kA => exact rfl); (case kF => exact rfl); (case kK => assumption); (case k1 => k_asm); (case k2 => k_asm); (case k3 => k_asm); (case k4 => k_asm); (case k5 => k_asm); (case k6 => k_is); (case k7 => k_is); (case k8 => exact Nat.le_of_ble_eq_true rfl); (case k9 => exact BindsTo.of_eq rfl); (case kB => exact rfl); (case kD => decide +kernel); (case c2 => exact rfl); (case c3 => exact rfl); (case c4 => exact rfl); k_whole)
  intro g' L' h' tk' cells' G1 G2 F' N' Y' B' X' T' l1
  clear B F X T hk
  (try k_lt l1); k_cells Y'; (try simp only [List.cons_append, List.nil_append] at N')
  dsimp only
  (try k_fold)
  have hk : 4 * sz < 8 * sz := by have := KI.pos; omega
  have hlk9 := neN hlk
  k_steps
  rename_i oK oH dK dH l0 hA lA DO hB iO nO sO eO1 eO2 eO3 lO hC FO NO gO
  clear iO sO eO1 eO2 eO3 nO
  simp only [show (3 + 2 : Int).toNat = 5 from rfl, List.replicate, List.flatten_cons, List.flatten_nil, List.cons_append, List.nil_append] at NO
  first | refine stop_out (LCg.CompRest.succ ?_) | refine LCg.CompRest.succ ?_
  intro v' I' oI' C' oC' D' m' h' tk' E' hv' hC' hx' F' N' off' ne'
  obtain rfl : v' = .int a0 ta0 := (Option.some.inj hv').symm
  k_steps
  refine stop_out ?_
  k_dflt (refine Spec.useT (halves_spec _ KI _ _ _ _ (by walk_at "mine range") hh) (by k_asm) (by k_asm) (by k_asm) (by k_asm) (by k_asm) rfl rfl (Nat.le_of_ble_eq_true rfl) (Nat.le_of_ble_eq_true rfl) (by first | exact rfl | assumption) (by walk_at "mine need") ?_)
  intro p0 lo0 hi0 tlo0 thi0 hh0 tk0 FF0 NN0 AP0 hp9
  have e0 := hp9.1
  have f0 := hp9.2.1
  have g0 := hp9.2.2
  clear hp9
  (try k_sweep)
  (try dsimp only)
  k_steps
  refine stop_out (comp_end1 (by k_asm) (by assumption) ⟨by assumption, trivial⟩ off' (Or.inr ⟨_, by k_mem, rfl, _, rfl⟩) ?_)
  clear hv' hx' hC' ne' off' FF0 NN0
  (try dsimp only)
  first | refine stop_out (LCg.CompRest.succ ?_) | refine LCg.CompRest.succ ?_
  intro v' I' oI' C' oC' D' m' h' tk' E' hv' hC' hx' F' N' off' ne'
  obtain rfl : v' = .int a1 ta1 := (Option.some.inj hv').symm
  k_steps
  refine stop_out ?_
  k_dflt (refine Spec.useT (halves_spec _ KI _ _ _ _ (by walk_at "mine range") hh) (by k_asm) (by k_asm) (by k_asm) (by k_asm) (by k_asm) rfl rfl (Nat.le_of_ble_eq_true rfl) (Nat.le_of_ble_eq_true rfl) (by first | exact rfl | assumption) (by walk_at "mine need") ?_)
  intro p1 lo1 hi1 tlo1 thi1 hh1 tk1 FF1 NN1 AP1 hp9
  have e1 := hp9.1
  have f1 := hp9.2.1
  have g1 := hp9.2.2
  clear hp9
  (try k_sweep)
  (try dsimp only)
  k_steps
  refine stop_out (comp_end1 (by k_asm) (by assumption) ⟨by assumption, trivial⟩ off' (Or.inr ⟨_, by k_mem, rfl, _, rfl⟩) ?_)
  clear hv' hx' hC' ne' off' FF1 NN1
  (try dsimp only)
  first | refine stop_out (LCg.CompRest.succ ?_) | refine LCg.CompRest.succ ?_
  intro v' I' oI' C' oC' D' m' h' tk' E' hv' hC' hx' F' N' off' ne'
  obtain rfl : v' = .int a2 ta2 := (Option.some.inj hv').symm
  k_steps
  refine stop_out ?_
  k_dflt (refine Spec.useT (halves_spec _ KI _ _ _ _ (by walk_at "mine range") hh) (by k_asm) (by k_asm) (by k_asm) (by k_asm) (by k_asm) rfl rfl (Nat.le_of_ble_eq_true rfl) (Nat.le_of_ble_eq_true rfl) (by first | exact rfl | assumption) (by walk_at "mine need") ?_)
  intro p2 lo2 hi2 tlo2 thi2 hh2 tk2 FF2 NN2 AP2 hp9
  have e2 := hp9.1
  have f2 := hp9.2.1
  have g2 := hp9.2.2
  clear hp9
  (try k_sweep)
  (try dsimp only)
  k_steps
  refine stop_out (comp_end1 (by k_asm) (by assumption) ⟨by assumption, trivial⟩ off' (Or.inr ⟨_, by k_mem, rfl, _, rfl⟩) ?_)
  clear hv' hx' hC' ne' off' FF2 NN2
  (try dsimp only)
  refine LCg.CompRest.zero ?_
  unfold LCg.FinA
  intro LH hLH tLH FLH NLH oLH
  simp only [List.nil_append, List.cons_append] at NLH
  (try dsimp only)
  k_steps
  first | refine stop_out (LCg.CompRest.succ ?_) | refine LCg.CompRest.succ ?_
  intro v' I' oI' C' oC' D' m' h' tk' E' hv' hC' hx' F' N' off' ne'
  obtain rfl : v' = .int b0 tb0 := (Option.some.inj hv').symm
  k_steps
  refine stop_out ?_
  k_dflt (refine Spec.useT (halves_spec _ KI _ _ _ _ (by walk_at "mine range") hh) (by k_asm) (by k_asm) (by k_asm) (by k_asm) (by k_asm) rfl rfl (Nat.le_of_ble_eq_true rfl) (Nat.le_of_ble_eq_true rfl) (by first | exact rfl | assumption) (by walk_at "mine need") ?_)
  intro p3 lo3 hi3 tlo3 thi3 hh3 tk3 FF3 NN3 AP3 hp9
  have e3 := hp9.1
  have f3 := hp9.2.1
  have g3 := hp9.2.2
  clear hp9
  (try k_sweep)
  (try dsimp only)
  k_steps
  refine stop_out (comp_end1 (by k_asm) (by assumption) ⟨by assumption, trivial⟩ off' (Or.inr ⟨_, by k_mem, rfl, _, rfl⟩) ?_)
  clear hv' hx' hC' ne' off' FF3 NN3
  (try dsimp only)
  first | refine stop_out (LCg.CompRest.succ ?_) | refine LCg.CompRest.succ ?_
  intro v' I' oI' C' oC' D' m' h' tk' E' hv' hC' hx' F' N' off' ne'
  obtain rfl : v' = .int b1 tb1 := (Option.some.inj hv').symm
  k_steps
  refine stop_out ?_
  k_dflt (refine Spec.useT (halves_spec _ KI _ _ _ _ (by walk_at "mine range") hh) (by k_asm) (by k_asm) (by k_asm) (by k_asm) (by k_asm) rfl rfl (Nat.le_of_ble_eq_true rfl) (Nat.le_of_ble_eq_true rfl) (by first | exact rfl | assumption) (by walk_at "mine need") ?_)
  intro p4 lo4 hi4 tlo4 thi4 hh4 tk4 FF4 NN4 AP4 hp9
  have e4 := hp9.1
  have f4 := hp9.2.1
  have g4 := hp9.2.2
  clear hp9
  (try k_sweep)
  (try dsimp only)
  k_steps
  refine stop_out (comp_end1 (by k_asm) (by assumption) ⟨by assumption, trivial⟩ off' (Or.inr ⟨_, by k_mem, rfl, _, rfl⟩) ?_)
  clear hv' hx' hC' ne' off' FF4 NN4
  (try dsimp only)
  refine LCg.CompRest.zero ?_
  unfold LCg.FinA
  intro RH hRH tRH FRH NRH oRH
  simp only [List.nil_append, List.cons_append] at NRH
  (try dsimp only)
  k_steps
  refine stop_out ?_
  have n1 : @Ne Nat DO LH := off1_ne oLH (by k_mem)
  have n2 : @Ne Nat DO RH := off1_ne oRH (by k_mem)
  have n3 : @Ne Nat DO p0 := off_ne AP0 (by k_mem)
  have n4 : @Ne Nat DO p1 := off_ne AP1 (by k_mem)
  have n5 : @Ne Nat DO p2 := off_ne AP2 (by k_mem)
  have n6 : @Ne Nat DO p3 := off_ne AP3 (by k_mem)
  have n7 : @Ne Nat DO p4 := off_ne AP4 (by k_mem)
  have m1 : @Ne Nat p0 p3 := off_ne AP3 (by k_mem)
  have m2 : @Ne Nat p1 p3 := off_ne AP3 (by k_mem)
  have m3 : @Ne Nat p2 p3 := off_ne AP3 (by k_mem)
  have m4 : @Ne Nat p0 p4 := off_ne AP4 (by k_mem)
  have m5 : @Ne Nat p1 p4 := off_ne AP4 (by k_mem)
  have m6 : @Ne Nat p2 p4 := off_ne AP4 (by k_mem)
  have lO0 := lO.1
  have lO1 := lO.2.1
  have lO2 := lO.2.2.1
  have lO3 := lO.2.2.2.1
  have lO4 := lO.2.2.2.2
  clear lO
  clear oLH oRH AP0 AP1 AP2 AP3 AP4
  have hll := l1.1
  have hkl := l1.2
  clear l1
  refine' rng_inv (σ := (Int × Tok) × (Int × Tok) × (Int × Tok) × (Int × Tok) × (Int × Tok)) (fun c => [(DO, listOf #[.int c.1.1 c.1.2, .int c.2.1.1 c.2.1.2, .int c.2.2.1.1 c.2.2.1.2, .int c.2.2.2.1.1 c.2.2.2.1.2, .int c.2.2.2.2.1 c.2.2.2.2.2] 0), (LH, LCg.lst [.ref p0, .ref p1, .ref p2]), (RH, LCg.lst [.ref p3, .ref p4]), (p0, tupO #[.int lo0 tlo0, .int hi0 thi0]), (p1, tupO #[.int lo1 tlo1, .int hi1 thi1]), (p2, tupO #[.int lo2 tlo2, .int hi2 thi2]), (p3, tupO #[.int lo3 tlo3, .int hi3 thi3]), (p4, tupO #[.int lo4 tlo4, .int hi4 thi4]), (L' + 1 + 1, oK), (L' + 1, oH), (l, listOf #[.int a0 ta0, .int a1 ta1, .int a2 ta2] nl), (k, listOf #[.int b0 tb0, .int b1 tb1] nk)]) (fun c => [(Str.ofString "out", .ref DO)])
    [Str.ofString "carry", Str.ofString "low", Str.ofString "limb", Str.ofString "more"]
    (fun i c => PrI sz a0 a1 a2 b0 b1 i c.1.1 c.2.1.1 c.2.2.1.1 c.2.2.2.1.1 c.2.2.2.2.1) ((0, _), (0, _), (0, _), (0, _), (0, _)) rfl (by assumption) (by decide) (n := 3) (by decide) (by assumption) (by assumption) (by walk_at "mine need") ?hk ?hp ?turn ?done
  case hk =>
    intro p hp
    rcases List.mem_cons.mp hp with rfl | hp
    · exact rfl
    · cases hp
  case hp => exact ⟨⟨R.zero _, R.zero _, R.zero _, R.zero _, R.zero _⟩, rfl, rfl, rfl, rfl, rfl⟩
  case turn =>
    intro I
    refine all5 ?_
    intro o0 to0 o1 to1 o2 to2 o3 to3 o4 to4 i t u hp1 tkp hi hPr hoff F1 N1
    refine offC hoff ?_
    clear hoff
    intro hf1 hf2 hf3 hf4 hf5 hf6 hf7 hf8 hf9 hf10 hf11 hf12
    refine offC_nil ?_
    dsimp only [kstB] at F1 N1 hPr
    refine' row_in (p0 := p0) (p1 := p1) (p2 := p2) (q := p3) (q' := p4) (ta0 := ta0) (ta1 := ta1) (ta2 := ta2) N1 hi hPr ha0 ha1 ha2 (by k_mem) (by k_mem) (by k_mem) (by assumption) (by assumption) (by assumption) (by assumption) (by assumption) (by assumption) (by assumption) (by assumption) (by assumption)
      (or3 ⟨by assumption, by assumption, by assumption, by assumption⟩ ⟨by assumption, by assumption, by assumption, by assumption⟩ ⟨by assumption, by assumption, by assumption, by assumption⟩) ?_
    clear N1 hPr
    intro pre x0 x1 x2 ux0 ux1 ux2 post a ta pp lo tlo hig thg N2 hpre hx0 hx1 hfin ea hva hvp hRa eH hLo hHi hf13 n8 m7 m8
    k_steps
    refine stop_out ?_
    k_dflt (refine Spec.useI (upper2_spec w KI h lo hig lo3 hi3 a b0 th tlo thg tlo3 thi3 pp p3 eH e3 m7 hh hLo hHi f3 g3) (by k_asm) (by k_asm) (by k_asm) (by k_asm) (by k_asm) rfl rfl (Nat.le_of_ble_eq_true rfl) (Nat.le_of_ble_eq_true rfl) (by first | exact rfl | assumption) (by walk_at "mine need") ?_)
    intro t9 h9 tk9 F9 N9
    (try k_sweep)
    (try dsimp only)
    k_steps
    refine stop_out ?_
    rename _ + 2 ^ (8 * sz) * _ = _ => hE0
    rename R sz _ => hR0
    rename 0 ≤ _ ∧ _ ≤ (2 : Int) => hD0
    refine' UnrEnd.intro3 ?cF ?cN [(I, itR (0 + ((i + 1 : Nat) : Int)) (((3 : Nat) : Int) - ((i + 1 : Nat) : Int))), (pp, _), (DO, _), (LH, _), (RH, _), (p0, _), (p1, _), (p2, _), (p3, _), (p4, _), (L' + 1 + 1, _), (L' + 1, _), (l, _), (k, _)] ?cI (subL_of ?cS) ?co ?_
    (case cF => k_asm)
    (case cN => k_asm)
    (case cI => k_mem)
    (case cS => walk_at "mine need")
    (case co => repeat (first | exact trivial | refine And.intro (Or.inl (by first | exact Nat.ne_of_lt (by walk_at "mine cj") | k_ne)) ?_))
    k_steps
    refine stop_out ?_
    k_dflt (refine Spec.useI (upper2_spec w KI h lo hig lo4 hi4 a b1 th tlo thg tlo4 thi4 pp p4 eH e4 m8 hh hLo hHi f4 g4) (by k_asm) (by k_asm) (by k_asm) (by k_asm) (by k_asm) rfl rfl (Nat.le_of_ble_eq_true rfl) (Nat.le_of_ble_eq_true rfl) (by first | exact rfl | assumption) (by walk_at "mine need") ?_)
    intro t9 h9 tk9 F9 N9
    (try k_sweep)
    (try dsimp only)
    k_steps
    refine stop_out ?_
    rename _ + 2 ^ (8 * sz) * _ = _ => hE1
    rename R sz _ => hR1
    rename 0 ≤ _ ∧ _ ≤ (2 : Int) => hD1
    refine' UnrEnd.intro3 ?cF ?cN [(I, itR (0 + ((i + 1 : Nat) : Int)) (((3 : Nat) : Int) - ((i + 1 : Nat) : Int))), (pp, _), (DO, _), (LH, _), (RH, _), (p0, _), (p1, _), (p2, _), (p3, _), (p4, _), (L' + 1 + 1, _), (L' + 1, _), (l, _), (k, _)] ?cI (subL_of ?cS) ?co ?_
    (case cF => k_asm)
    (case cN => k_asm)
    (case cI => k_mem)
    (case cS => walk_at "mine need")
    (case co => repeat (first | exact trivial | refine And.intro (Or.inl (by first | exact Nat.ne_of_lt (by walk_at "mine cj") | k_ne)) ?_))
    k_steps
    refine stop_out ?_
    rename Fr _ _ _ _ => F9
    rename News _ _ _ _ => N9
    refine' row_end N9 ?hm hfin ea hR0 hR1 ?hr ?_
    case hm => k_mem
    case hr => exact pr_row hx0 hx1 hRa hb0 hb1 hE0 hE1 hR0 hR1 hD0 hD1
    clear N9
    intro p0' p1' p2' p3' p4' q0' q1' q2' q3' q4' N9 hPr
    refine' rng_end ((_, _), (_, _), (_, _), (_, _), (_, _)) F9 N9 (by k_mem) ?hn ?off ?hk ?hr ?hp
    case hn => walk_at "mine need"
    case off =>
      (repeat (refine And.intro (Or.inl (by with_reducible assumption)) ?_))
      exact trivial
    case hk =>
      intro p hp
      rcases List.mem_cons.mp hp with rfl | hp
      · exact rfl
      · cases hp
    case hr =>
      intro z h1 h2 h3
      have ho := h2 _ (.head _)
      simp only [List.contains_cons, List.contains_nil, Bool.or_false, Bool.or_eq_false_iff, beq_eq_false_iff_ne, ne_eq] at h3
      simp [h1, ho, h3]
    case hp => exact hPr
  case done =>
    refine all5 ?_
    intro o0 to0 o1 to1 o2 to2 o3 to3 o4 to4 u h tk hPr F1 N1
    dsimp only [kstB] at F1 N1 hPr
    k_steps
    all_goals ((try dsimp only); refine' fin (tl := ?tl) ret G1 G2 N ?f1 ?f2 ?f3 ?f4 ?f5 ⟨_, _, _, _, _, _, _, _, _, _, _, _, rfl, rfl, ?f6⟩; (case f1 => k_asm); (case f2 => k_asm); (case f3 => walk_at "mine need"); (case f4 => walk_at "mine need"); (case f5 => walk_at "mine apart"))
    all_goals exact ⟨hPr.2, hPr.1⟩
end
end
section
set_option maxRecDepth 100000
set_option maxHeartbeats 4000000
theorem bits256 : ∀ j : Nat, j < 24 → Builtin.Int.intBits (256 ^ j) ≤ 9000 := by decide +kernel
section
variable {prog : Program} {w : World} {A : Around} {E : Value → Shared → Prop} {s : Shared} {sz : Nat} {a k v : Int} {t u : Tok} {Q : Value → Shared → Prop}
theorem op_div256 (h8 : sz ≤ 8) (hv : v = (sz : Int)) (hlo : 0 ≤ k) (hhi : k < 0 + ((3 * v - 0).toNat : Int)) (h : Q (.int (a / 256 ^ k.toNat) s.toks) { s with toks := s.toks + 1 }) :
    wpAny (model prog w) A (binaryOp .FloorDiv (.int a t) (.int (256 ^ k.toNat) u)) Q E s :=
  op_div (Int.pow_pos (by decide)) (bits256 _ (by omega)) h
theorem op_pow256 (h8 : sz ≤ 8) (hv : v = (sz : Int)) (hlo : 0 ≤ k) (hhi : k < 0 + ((3 * v - 0).toNat : Int)) (h : Q (.int (256 ^ k.toNat) s.toks) { s with toks := s.toks + 1 }) :
    wpAny (model prog w) A (binaryOp .Pow (.int 256 t) (.int k u)) Q E s := pow_int_small hlo (by omega) (by decide) h
end
local macro_rules | `(tactic| walk_at "binaryOp Pow int int") => `(tactic| ((with_reducible refine op_pow256 (by assumption) (by assumption) (by assumption) (by assumption) ?_)))
local macro_rules | `(tactic| walk_at "binaryOp FloorDiv int int") => `(tactic| ((with_reducible refine op_div256 (by assumption) (by assumption) (by assumption) (by assumption) ?_)))
local macro_rules | `(tactic| walk_at "CompEnd") => `(tactic| ((with_reducible show LCg.CompEnd _ _ _ _ _ _ _ _ _ _ _ (fun _ _ => CompRestC _ _ _ _ _ _ _ _ _ _ _ _ _ _ _ _ _ _) _ _); refine stop_here ?_))
local macro_rules | `(tactic| walk_at "call ref") => `(tactic| ((with_reducible show wpAny _ _ (call (Value.ref 42) _ _) _ _ _); k_call_by "I" (from_ba2_spec _ (by assumption) _ _)))
theorem limbs_spec (w : World) {x : Addr} {sz : Nat} (KI : Kind x sz) (v n : Int) (tv tn : Tok) (hv : v = (sz : Int)) (hn : 0 ≤ n ∧ n < 2 ^ (24 * sz)) :
    SpecC w 438 860 189 [.ref x, .int v tv, .int n tn] [] (fun r tl => PL3 (fun a0 a1 a2 => v3 (2 ^ (8 * sz)) a0 a1 a2 = n ∧ R sz a0 ∧ R sz a1 ∧ R sz a2) r tl) := by
  intro prog mean mg mb cn cs a₀ ccd cl outer A₀ base h₀ L m s Q E B F X N T hk ret
  refine wpC_call ?_
  k_dflt (refine' enterCC (binds := [(Str.ofString "kind", .ref x), (Str.ofString "size", .int v tv), (Str.ofString "number", .int n tn)]) ?k1 ?k2 ?k3 ?k4 ?k5 ?kA ?kF ?kK ?k6 ?k7 ?k8 ?k9 ?kB ?kD ?_ ?c2 ?c3 ?c4; (case kA => exact rfl); (case kF => exact rfl); (case kK => assumption); (case k1 => k_asm); (case k2 => k_asm); (case k3 => k_asm); (case k4 => k_asm); (case k5 => k_asm); (case k6 => k_is); (case k7 => k_is); (case k8 => exact Nat.le_of_ble_eq_true rfl); (case k9 => exact BindsTo.of_eq rfl); (case kB => exact rfl); (case kD => decide +kernel); (case c2 => exact rfl); (case c3 => exact rfl); (case c4 => exact rfl); k_whole)
  intro g' L' h' tk' cells' G1 G2 F' N' Y' B' X' T' l1
  clear B F X T hk
  (try k_lt l1); k_cells Y'; (try simp only [List.cons_append, List.nil_append] at N')
  dsimp only
  refine wpC_noE ?_
  have h8 := KI.le8
  refine execsA ?_
  k_steps
  dsimp only
  refine execsC (returnC (listCompC (by k_asm) rfl rfl (by decide) rfl (by decide) rfl ?_))
  k_steps
  refine halt ⟨_, _, _, _, _, _, 3, _, rfl, by k_asm, by k_asm, by assumption, by decide, by decide, Nat.le_of_ble_eq_true rfl, fun g => ?_⟩
  refine CompRestC.succ ?_
  intro v' I' oI' C' oC' D' m' h' tk' hv' hC' hx' F' N' off' ne'
  obtain ⟨t9', hv9'⟩ := hv'
  subst hv9'
  refine callMethH (K := hd.heap_1 w.params) (f := 42) (x := .ref x) rfl rfl ?_
  k_steps
  refine halt ⟨rfl, ?_⟩
  k_steps
  refine halt ⟨rfl, callTypeH (T := "bytearray") ?_⟩
  k_steps
  refine halt ⟨rfl, wpC_any ?_⟩
  k_steps
  refine KBa.make_K (by k_asm) (by k_asm) rfl (by kba_isList) (slice_ints (j := 0) hv (by decide) (by assumption)) (little_in _ _) (by rw [KTBy.little_length]; omega) ?_
  intro h9 t9 k9 F9 N9 In9
  refine call_baN F9 N9 (by rw [byteArr_size, KTBy.little_length, sizeLine_eq]; omega) ?_
  intro d8 h8' F8 N8 l8
  refine ⟨X'.keeps F8.keep, wpC_any ?_⟩
  k_steps
  refine stop_out ?_
  refine LCg.CompEnd.intro (by k_asm) (by k_asm) _ ?sb off' trivial ?_
  case sb => walk_at "mine need"
  refine CompRestC.succ ?_
  intro v' I' oI' C' oC' D' m' h' tk' hv' hC' hx' F' N' off' ne'
  obtain ⟨t9', hv9'⟩ := hv'
  subst hv9'
  refine callMethH (K := hd.heap_1 w.params) (f := 42) (x := .ref x) rfl rfl ?_
  k_steps
  refine halt ⟨rfl, ?_⟩
  k_steps
  refine halt ⟨rfl, callTypeH (T := "bytearray") ?_⟩
  k_steps
  refine halt ⟨rfl, wpC_any ?_⟩
  k_steps
  refine KBa.make_K (by k_asm) (by k_asm) rfl (by kba_isList) (slice_ints (j := 1) hv (by decide) (by assumption)) (little_in _ _) (by rw [KTBy.little_length]; omega) ?_
  intro h9 t9 k9 F9 N9 In9
  refine call_baN F9 N9 (by rw [byteArr_size, KTBy.little_length, sizeLine_eq]; omega) ?_
  intro d8 h8' F8 N8 l8
  refine ⟨X'.keeps F8.keep, wpC_any ?_⟩
  k_steps
  refine stop_out ?_
  refine LCg.CompEnd.intro (by k_asm) (by k_asm) _ ?sb off' trivial ?_
  case sb => walk_at "mine need"
  refine CompRestC.succ ?_
  intro v' I' oI' C' oC' D' m' h' tk' hv' hC' hx' F' N' off' ne'
  obtain ⟨t9', hv9'⟩ := hv'
  subst hv9'
  refine callMethH (K := hd.heap_1 w.params) (f := 42) (x := .ref x) rfl rfl ?_
  k_steps
  refine halt ⟨rfl, ?_⟩
  k_steps
  refine halt ⟨rfl, callTypeH (T := "bytearray") ?_⟩
  k_steps
  refine halt ⟨rfl, wpC_any ?_⟩
  k_steps
  refine KBa.make_K (by k_asm) (by k_asm) rfl (by kba_isList) (slice_ints (j := 2) hv (by decide) (by assumption)) (little_in _ _) (by rw [KTBy.little_length]; omega) ?_
  intro h9 t9 k9 F9 N9 In9
  refine call_baN F9 N9 (by rw [byteArr_size, KTBy.little_length, sizeLine_eq]; omega) ?_
  intro d8 h8' F8 N8 l8
  refine ⟨X'.keeps F8.keep, wpC_any ?_⟩
  k_steps
  refine stop_out ?_
  refine LCg.CompEnd.intro (by k_asm) (by k_asm) _ ?sb off' trivial ?_
  case sb => walk_at "mine need"
  refine CompRestC.zero ?_
  unfold LCg.FinE
  intro D' h' tk' F' N' o1'
  simp only [List.nil_append, List.cons_append] at N'
  dsimp only

  refine' fin (s := s) (tl := ?tl) ret G1 G2 N ?f1 ?f2 ?f3 ?f4 ?f5 ⟨_, _, _, _, _, _, _, _, rfl, rfl, ?f6⟩
  case f1 => k_asm
  case f2 => k_asm
  case f3 => walk_at "mine need"
  case f4 => walk_at "mine need"
  case f5 => walk_at "mine apart"
  case f6 => exact ⟨limbs_eq hn, R.mod _ _, R.mod _ _, R.mod _ _⟩
end
section
set_option maxRecDepth 100000
set_option maxHeartbeats 4000000
section
variable {prog : Program} {w : World} {A : Around} {E : Value → Shared → Prop} {s : Shared} {h₀ : Heap} {L : Addr} {m : Str → Option Value} {news : List (Addr × Obj)}
theorem call_list_baN {a : Addr} {b : Array UInt8} {Q : Value → Shared → Prop} (hh : A.handled = none) (F : Fr h₀ L s.heap m) (N : News h₀ L s.heap news) (hm : (a, baObj b) ∈ news) (hz : b.size ≤ sizeLine)
    (h : ∀ D vs n h' tk', Fr h₀ L h' m → News h₀ L h' ((D, listOf vs.toArray n) :: news) → (∀ p ∈ news, p.1 < D) → IntsAre vs (KBw.bInts b) → Q (.ref D) { s with heap := h', toks := tk' }) : wpAny (model prog w) A (call (.type "list") [.ref a]) Q E s := by
  refine call_list_ba hh (N _ hm).1 hz fun h' tk vs n st g hi => h _ vs n h' tk (fr_stays F st) (fun p hp => ?_) (fun p hp => Heap.lt_size (N p hp).1) hi
  rcases List.mem_cons.mp hp with rfl | hp
  · refine ⟨g, fun e => ?_, next_is_new F⟩
    exact absurd F.ns.lt (by rw [← e]; exact Nat.lt_irrefl _)
  · exact news_stays N st p hp
end
theorem bits256b : ∀ j : Nat, j < 40 → Builtin.Int.intBits (256 ^ j) ≤ 9000 := by decide +kernel
theorem op_mul256 {prog : Program} {w : World} {A : Around} {E : Value → Shared → Prop} {s : Shared} {os : List Int} {k : Int} {t u : Tok} {Q : Value → Shared → Prop} (hob : ∀ i, 0 ≤ os.getD i 0 ∧ os.getD i 0 < 2 ^ 8) (hol : os.length ≤ 40) (hlo : 0 ≤ k) (hhi : k < 0 + (((os.length : Int) - 0).toNat : Int))
    (h : Q (.int (os.getD k.toNat 0 * 256 ^ k.toNat) s.toks) { s with toks := s.toks + 1 }) : wpAny (model prog w) A (binaryOp .Mult (.int (os.getD k.toNat 0) t) (.int (256 ^ k.toNat) u)) Q E s :=
  mul_int h (mulOk_of_bits (bits_of (hob _).1 (hob _).2) (bits256b _ (by omega)) (by omega))
theorem op_pow256b {prog : Program} {w : World} {A : Around} {E : Value → Shared → Prop} {s : Shared} {os : List Int} {k : Int} {t u : Tok} {Q : Value → Shared → Prop} (hol : os.length ≤ 40) (hlo : 0 ≤ k) (hhi : k < 0 + (((os.length : Int) - 0).toNat : Int))
    (h : Q (.int (256 ^ k.toNat) s.toks) { s with toks := s.toks + 1 }) : wpAny (model prog w) A (binaryOp .Pow (.int 256 t) (.int k u)) Q E s := pow_int_small hlo (by omega) (by decide) h
local macro_rules | `(tactic| walk_at "binaryOp Pow int int") => `(tactic| ((with_reducible refine op_pow256b (by assumption) (by assumption) (by assumption) ?_)))
local macro_rules | `(tactic| walk_at "binaryOp Mult int int") => `(tactic| ((with_reducible refine op_mul256 (by assumption) (by assumption) (by assumption) (by assumption) ?_)))
theorem whole_spec (w : World) {x : Addr} {sz : Nat} (KI : Kind x sz) (vs : List Value) (ns : List Int) (l : Addr) (nl : Nat) (hvs : IntsAre vs ns) (hns : ∀ a ∈ ns, R sz a) (hlen : ns.length ≤ 5) :
    SpecC w 437 840 194 [.ref x, .ref l] [(l, listOf vs.toArray nl)] (fun r tl => PI (vL (2 ^ (8 * sz)) ns) r tl) := by
  intro prog mean mg mb cn cs a₀ ccd cl outer A₀ base h₀ L m s Q E B F X N T hk ret
  refine wpC_call ?_
  k_dflt (refine' enterCC (binds := [(Str.ofString "kind", .ref x), (Str.ofString "limbs", .ref l)]) ?k1 ?k2 ?k3 ?k4 ?k5 ?kA ?kF ?kK ?k6 ?k7 ?k8 ?k9 ?kB ?kD ?_ ?c2 ?c3 ?c4; (case kA => exact rfl); (case kF => exact rfl); (case kK => assumption); (case k1 => k_asm); (case k2 => k_asm); (case k3 => k_asm); (case k4 => k_asm); (case k5 => k_asm); (case k6 => k_is); (case k7 => k_is); (case k8 => exact Nat.le_of_ble_eq_true rfl); (case k9 => exact BindsTo.of_eq rfl); (case kB => exact rfl); (case kD => decide +kernel); (case c2 => exact rfl); (case c3 => exact rfl); (case c4 => exact rfl); k_whole)
  intro g' L' h' tk' cells' G1 G2 F' N' Y' B' X' T' l1
  clear B F X T hk
  (try k_lt l1); k_cells Y'; (try simp only [List.cons_append, List.nil_append] at N')
  dsimp only
  refine wpC_noE ?_
  have h8 := KI.le8
  refine execsA ?_
  k_steps
  dsimp only
  refine execsC (forC ?_)
  k_steps
  rename_i D0 _ hD0 h0' oc0 F0 N0 hoc0
  refine iter_listC (vs := vs) (n := nl) (lo := listOf vs.toArray nl) rfl F0 N0 (by k_mem) rfl rfl fun I hI => ?_
  have hvl : vs.length = ns.length := hvs.length
  refine list_restC (vs₀ := vs) (σ := Addr × List Value × List Int × Nat × Obj) (fun c => [(c.1, listOf c.2.1.toArray c.2.2.2.1), (L' + 1, c.2.2.2.2), (l, listOf vs.toArray nl)]) (fun i c => IntsAre c.2.1 c.2.2.1 ∧ c.2.2.1 = octs sz (ns.take i) ∧ c.2.2.2.2.data = .cell (some (.ref c.1)) ∧ @Ne Nat c.1 (L' + 1) ∧ @Ne Nat c.1 l)
    rfl rfl (fun c => .tail _ (.tail _ (.head _))) ?turn ?done vs 0 (D0, [], [], 0, oc0) _ (Nat.zero_le _) rfl ?p0 (fun p hp => Nat.ne_of_lt (hI p hp)) (fun _ _ => rfl)
  case p0 => exact ⟨.nil, rfl, hoc0, Ne.symm (Nat.ne_of_lt hD0.1), Ne.symm (Nat.ne_of_lt hD0.2)⟩
  case turn =>
    clear F0 N0
    rintro ⟨D1, ws, os, cap, oc⟩ i v it h tk hv ⟨hws, hos, hoc, hn1, hn2⟩ hic hoff F1 N1
    obtain ⟨a, t, rfl, hna⟩ := IntsAre.at hvs i v hv
    have hRa : R sz a := hns a (List.mem_of_getElem? hna)
    have hoff' := allOff hoff
    clear hoff
    dsimp only at F1 N1 hoff' hws hos hoc hn1 hn2
    simp only [Apart.AllNe, and_true] at hoff'
    have hol : os.length ≤ 40 := by
      rw [hos, octs_length]
      have := Nat.mul_le_mul (show (ns.take i).length ≤ 5 by rw [List.length_take]; omega) h8
      omega
    refine execsC (assignC (binC ?_))
    k_steps
    refine callTypeH (T := "list") ?_
    k_steps
    refine halt ⟨rfl, callMethH (K := hd.heap_1 w.params) (f := 49) (x := .ref x) rfl rfl ?_⟩
    k_steps
    refine halt ⟨rfl, ?_⟩
    k_steps
    refine halt ⟨rfl, wpC_any ?_⟩
    k_steps
    refine SpecC.use (into_ba_spec _ KI _ _ hRa) (by k_asm) (by k_asm) (by k_asm) (by k_asm) (by k_asm) rfl rfl (Nat.le_of_ble_eq_true rfl) (Nat.le_of_ble_eq_true rfl) rfl sub_nil ?_
    intro r9 tl9 h9 tk9 F9 N9 A9 P9
    obtain ⟨d9, b9, e1, e2, hb9⟩ := P9
    subst e1; subst e2
    simp only [List.cons_append, List.nil_append] at N9
    simp only [Apart, Apart.AllNe, and_true] at A9
    have hs9 : b9.size = sz := by rw [← KBw.ints_length, hb9, KTBy.little_length]
    refine wpC_any (call_list_baN rfl F9 N9 (by k_mem) (by rw [hs9, sizeLine_eq]; omega) ?_)
    intro D8 ws8 n8 h8' tk8 F8 N8 l8 hi8
    rw [hb9] at hi8
    k_lt l8
    clear F9 N9
    have hl8 : (KTBy.little sz a).length ≤ 8 := by rw [KTBy.little_length]; exact h8
    k_steps
    rename_i D7 ws7 h7' hi7 l7 h7 o7 F7 N7 d7
    refine execsC_nil ?_
    show UnrEnd _ _ _ _ _ _ _
    refine' UnrEnd.intro3 F7 N7 [(D7, listOf ws7.toArray 0), (L' + 1, o7), (l, listOf vs.toArray nl)] ?cI (subL_of ?cS) ?co ⟨(D7, ws7, os ++ KTBy.little sz a, 0, o7), rfl, ?_, hi7, ?_, d7, ?_, ?_⟩
    (case cI => k_mem)
    (case cS => walk_at "mine need")
    (case co => exact ⟨.inl (Ne.symm (Nat.ne_of_lt l7.2.2.1)), .inl hoff'.2.1, .inl hoff'.2.2, trivial⟩)
    · intro z hz
      exact if_neg hz
    · rw [hos]; exact (octs_take hna).symm
    · exact Ne.symm (Nat.ne_of_lt l7.2.2.2.2.1)
    · exact Ne.symm (Nat.ne_of_lt l7.2.2.2.2.2)
  case done =>
    clear F0 N0
    rintro ⟨D1, ws, os, cap, oc⟩ u h tk ⟨hws, hos, hoc, hn1, hn2⟩ F1 N1
    dsimp only at F1 N1 hws hos hoc hn1 hn2
    rw [hvl, List.take_length] at hos
    have hol : os.length ≤ 40 := by
      rw [hos, octs_length]
      have := Nat.mul_le_mul hlen h8
      omega
    clear hn1 hn2
    have hob : ∀ i, 0 ≤ os.getD i 0 ∧ os.getD i 0 < 2 ^ 8 := by rw [hos]; exact octs_bound
    refine execsA ?_
    k_steps
    all_goals ((try dsimp only); refine fin0 ret G1 G2 N (by k_asm) (by k_asm) (by walk_at "mine need") (pi_mk ?_))
    rw [← valR_octs hns, ← hos, ← valR_sum]
    rw [show ((os.length : Int) - 0).toNat = os.length by omega, rangeKs, List.map_map]
    congr 1
    refine List.map_congr_left fun i _ => ?_
    show os.getD (0 + (i : Int)).toNat 0 * 256 ^ (0 + (i : Int)).toNat = _
    rw [show (0 + (i : Int)).toNat = i by omega]
end
section
set_option maxRecDepth 100000
set_option maxHeartbeats 4000000
theorem stir_bits {B : Nat} {t n : Int} (ht : Builtin.Int.intBits t ≤ B) (hn : Builtin.Int.intBits n ≤ B) : Builtin.Int.intBits (t * 147573952589676412867 + n) ≤ B + 70 := by
  rw [intBits_le_iff] at *
  have h1 : (t * 147573952589676412867 + n).natAbs ≤ t.natAbs * 147573952589676412867 + n.natAbs := by
    refine Nat.le_trans (Int.natAbs_add_le _ _) ?_
    rw [Int.natAbs_mul]; exact Nat.le_refl _
  have h2 : (2 : Nat) ^ (B + 70) = 2 ^ B * 1180591620717411303424 := by rw [Nat.pow_add]
  rw [h2]; omega
theorem op_stir {prog : Program} {w : World} {A : Around} {E : Value → Shared → Prop} {s : Shared} {B : Nat} {a : Int} {t u : Tok} {Q : Value → Shared → Prop} (ha : Builtin.Int.intBits a ≤ B) (hB : B ≤ 2 ^ 21)
    (h : Q (.int (a * 147573952589676412867) s.toks) { s with toks := s.toks + 1 }) : wpAny (model prog w) A (binaryOp .Mult (.int a t) (.int 147573952589676412867 u)) Q E s :=
  mul_int h (mulOk_of_bits ha (show Builtin.Int.intBits 147573952589676412867 ≤ 70 by decide +kernel) (by omega))
local macro_rules | `(tactic| walk_at "binaryOp Mult int int") => `(tactic| ((try dsimp only); (refine op_stir (by assumption) (by assumption) ?_)))
local macro_rules | `(tactic| walk_at "pyIter ref") => `(tactic| refine stop_here ?_)
local macro_rules | `(tactic| walk_at "mine pad") => `(tactic| skip)
theorem stirred_spec (w : World) (vs : List Value) (ns : List Int) (l : Addr) (nl : Nat) (hvs : IntsAre vs ns) (hns : ∀ a ∈ ns, Builtin.Int.intBits a ≤ 2 ^ 20) (hlen : ns.length ≤ 7) :
    Spec w 437 840 184 [.ref l] [(l, listOf vs.toArray nl)] (fun r tl => PP (fun _ => True) r tl) := by
  intro prog mean mg mb cn cs a₀ ccd cl outer A₀ base h₀ L m s Q E B F X N T hk ret
  refine wpAny_call ?_
  k_dflt (refine' enter (binds := [(Str.ofString "numbers", .ref l)]) ?k1 ?k2 ?k3 ?k4 ?k5 ?kA ?kF ?kK ?k6 ?k7 ?k8 ?k9 ?kB ?_ ?c2 ?c3 ?c4 ?c5; (case kA => exact rfl); (case kF => exact rfl); (case kK => assumption); (case k1 => k_asm); (case k2 => k_asm); (case k3 => k_asm); (case k4 => k_asm); (case k5 => k_asm); (case k6 => k_is); (case k7 => k_is); (case k8 => exact Nat.le_of_ble_eq_true rfl); (case k9 => exact BindsTo.of_eq rfl); (case c5 => decide); (case kB => exact locs rfl); (case c2 => exact rfl); (case c3 => exact rfl); (case c4 => exact rfl); k_whole)
  intro g' L' h' G1 G2 F' N' B' X' T'
  clear B F X T hk
  dsimp only
  k_fold
  k_steps
  refine stop_out ?_
  refine' kst_listL (σ := Int × Tok) (vs := vs) (ns := ns) (nn := nl) (fun _ => [(l, listOf vs.toArray nl)]) (fun c => [(Str.ofString "total", .int c.1 c.2)]) (fun _ => True) []
    (fun pre c => Builtin.Int.intBits c.1 ≤ 2 ^ 20 + 70 * pre.length) (1, ?tk0) rfl (fun _ => .head _) hvs (by assumption) (by assumption) trivial ?hk ?hp ?turn ?done
  case hk =>
    intro p hp
    rcases List.mem_cons.mp hp with rfl | hp
    · exact rfl
    · cases hp
  case hp => exact Nat.le_trans (show Builtin.Int.intBits 1 ≤ 1 by decide +kernel) (by simp)
  case turn =>
    rintro ⟨b1, tb1⟩ pre post n t u h tk own hk hmem hoff _ e1 F1 N1
    dsimp only [kstB] at F1 e1
    simp only [List.cons_append, List.nil_append] at N1
    have hl1 : pre.length + 1 ≤ 7 := by rw [hk, List.length_append, List.length_cons] at hlen; omega
    have hB1 : 2 ^ 20 + 70 * pre.length ≤ 2 ^ 21 := by omega
    have hn1 := hns n hmem
    k_steps
    all_goals (
      refine' kst_end (_, _) (by k_asm) (by k_asm) (by walk_at "mine need") (fun _ hp => .tail _ hp) rfl trivial ?hk ?hr ?hp
      case hk =>
        intro p hp
        rcases List.mem_cons.mp hp with rfl | hp
        · exact rfl
        · cases hp
      case hr =>
        intro z h1 h2 _
        have hb := h2 _ (.head _)
        simp [h1, hb]
      case hp =>
        dsimp only
        rw [List.length_append, List.length_singleton]
        exact Nat.le_trans (stir_bits e1 (by omega)) (by omega))
  case done =>
    rintro ⟨b1, tb1⟩ u h tk _ e1 F1 N1
    dsimp only [kstB] at F1 N1 e1
    k_steps
    all_goals ((try dsimp only); refine fin0 ret G1 G2 N (by k_asm) (by k_asm) (by walk_at "mine need") (pp_mk trivial))
end
section
set_option maxRecDepth 100000
set_option maxHeartbeats 4000000
theorem SpecC.useL3 {w : World} {D U : Nat} {f : Addr} {vs : List Value} {need : List (Addr × Obj)} {P : Int → Int → Int → Prop} (S : SpecC w D U f vs need (fun r tl => PL3 P r tl))
    {prog : Program} {mean : ExcName → Option Value} {mg mb : Str → Option Value} {cn : Str} {cs : Scope} {a : Addr} {ccd : Value} {cl : List (Str × Addr)} {outer : List Env} {A A₀ : Around} {base h₀ : Heap} {L : Addr} {m : Str → Option Value} {s : Shared}
    {Q E : Value → Shared → Prop} {news : List (Addr × Obj)}
    (B : Below A₀ base outer h₀) (F : Fr h₀ L s.heap m) (X : (hd.heap_1 w.params).In h₀) (N : News h₀ L s.heap news) (T : Top view0 LO mean mg mb h₀)
    (hh : A.handled = none) (hf : A.frames = some (envX cn cs L a ccd cl :: outer)) (hd : A.depth ≤ D) (hu : A.units ≤ U)
    (hk : cs.kind = .function) (hneed : ∀ p ∈ need, p ∈ news)
    (ret : ∀ q x1 x2 x3 t1 t2 t3 n h' tk', Fr h₀ L h' m → News h₀ L h' ([(q, listOf #[.int x1 t1, .int x2 t2, .int x3 t3] n)] ++ news) → Apart.AllNe q news → P x1 x2 x3 → Q (.ref q) { s with heap := h', toks := tk' }) : wpC (model prog w) A (call (.ref f) vs) Q E s :=
  S.use B F X N T hh hf hd hu hk hneed fun r tl h' tk' F' N' Ap P => by
    obtain ⟨q, x1, x2, x3, t1, t2, t3, n, rfl, rfl, hp⟩ := P
    exact ret q x1 x2 x3 t1 t2 t3 n h' tk' F' N' Ap.1 hp
theorem Spec.useL4 {w : World} {D U : Nat} {f : Addr} {vs : List Value} {need : List (Addr × Obj)} {P : Int → Int → Int → Int → Prop} (S : Spec w D U f vs need (fun r tl => PL4 P r tl))
    {prog : Program} {mean : ExcName → Option Value} {mg mb : Str → Option Value} {cn : Str} {cs : Scope} {a : Addr} {ccd : Value} {cl : List (Str × Addr)} {outer : List Env} {A A₀ : Around} {base h₀ : Heap} {L : Addr} {m : Str → Option Value} {s : Shared}
    {Q E : Value → Shared → Prop} {news : List (Addr × Obj)}
    (B : Below A₀ base outer h₀) (F : Fr h₀ L s.heap m) (X : (hd.heap_1 w.params).In h₀) (N : News h₀ L s.heap news) (T : Top view0 LO mean mg mb h₀)
    (hh : A.handled = none) (hf : A.frames = some (envX cn cs L a ccd cl :: outer)) (hd : A.depth ≤ D) (hu : A.units ≤ U)
    (hk : cs.kind = .function) (hneed : ∀ p ∈ need, p ∈ news)
    (ret : ∀ q x1 x2 x3 x4 t1 t2 t3 t4 n h' tk', Fr h₀ L h' m → News h₀ L h' ([(q, listOf #[.int x1 t1, .int x2 t2, .int x3 t3, .int x4 t4] n)] ++ news) → Apart.AllNe q news → P x1 x2 x3 x4 → Q (.ref q) { s with heap := h', toks := tk' }) : wpAny (model prog w) A (call (.ref f) vs) Q E s :=
  S.use B F X N T hh hf hd hu hk hneed fun r tl h' tk' F' N' Ap P => by
    obtain ⟨q, x1, x2, x3, x4, t1, t2, t3, t4, n, rfl, rfl, hp⟩ := P
    exact ret q x1 x2 x3 x4 t1 t2 t3 t4 n h' tk' F' N' Ap.1 hp
theorem Spec.useL5 {w : World} {D U : Nat} {f : Addr} {vs : List Value} {need : List (Addr × Obj)} {P : Int → Int → Int → Int → Int → Prop} (S : Spec w D U f vs need (fun r tl => PL5 P r tl))
    {prog : Program} {mean : ExcName → Option Value} {mg mb : Str → Option Value} {cn : Str} {cs : Scope} {a : Addr} {ccd : Value} {cl : List (Str × Addr)} {outer : List Env} {A A₀ : Around} {base h₀ : Heap} {L : Addr} {m : Str → Option Value} {s : Shared}
    {Q E : Value → Shared → Prop} {news : List (Addr × Obj)}
    (B : Below A₀ base outer h₀) (F : Fr h₀ L s.heap m) (X : (hd.heap_1 w.params).In h₀) (N : News h₀ L s.heap news) (T : Top view0 LO mean mg mb h₀)
    (hh : A.handled = none) (hf : A.frames = some (envX cn cs L a ccd cl :: outer)) (hd : A.depth ≤ D) (hu : A.units ≤ U)
    (hk : cs.kind = .function) (hneed : ∀ p ∈ need, p ∈ news)
    (ret : ∀ q x1 x2 x3 x4 x5 t1 t2 t3 t4 t5 n h' tk', Fr h₀ L h' m → News h₀ L h' ([(q, listOf #[.int x1 t1, .int x2 t2, .int x3 t3, .int x4 t4, .int x5 t5] n)] ++ news) → Apart.AllNe q news → P x1 x2 x3 x4 x5 → Q (.ref q) { s with heap := h', toks := tk' }) : wpAny (model prog w) A (call (.ref f) vs) Q E s :=
  S.use B F X N T hh hf hd hu hk hneed fun r tl h' tk' F' N' Ap P => by
    obtain ⟨q, x1, x2, x3, x4, x5, t1, t2, t3, t4, t5, n, rfl, rfl, hp⟩ := P
    exact ret q x1 x2 x3 x4 x5 t1 t2 t3 t4 t5 n h' tk' F' N' Ap.1 hp
theorem Spec.useTL {w : World} {D U : Nat} {f : Addr} {vs : List Value} {need : List (Addr × Obj)} {P : Int → Int → Int → Int → Prop} (S : Spec w D U f vs need (fun r tl => PTL P r tl))
    {prog : Program} {mean : ExcName → Option Value} {mg mb : Str → Option Value} {cn : Str} {cs : Scope} {a : Addr} {ccd : Value} {cl : List (Str × Addr)} {outer : List Env} {A A₀ : Around} {base h₀ : Heap} {L : Addr} {m : Str → Option Value} {s : Shared}
    {Q E : Value → Shared → Prop} {news : List (Addr × Obj)}
    (B : Below A₀ base outer h₀) (F : Fr h₀ L s.heap m) (X : (hd.heap_1 w.params).In h₀) (N : News h₀ L s.heap news) (T : Top view0 LO mean mg mb h₀)
    (hh : A.handled = none) (hf : A.frames = some (envX cn cs L a ccd cl :: outer)) (hd : A.depth ≤ D) (hu : A.units ≤ U)
    (hk : cs.kind = .function) (hneed : ∀ p ∈ need, p ∈ news)
    (ret : ∀ q l x1 x2 x3 x4 t1 t2 t3 t4 n h' tk', Fr h₀ L h' m → News h₀ L h' ([(q, tupO #[.ref l, .int x4 t4]), (l, listOf #[.int x1 t1, .int x2 t2, .int x3 t3] n)] ++ news) → Apart.AllNe q news ∧ Apart.AllNe l news ∧ @Ne Nat q l → P x1 x2 x3 x4 → Q (.ref q) { s with heap := h', toks := tk' }) : wpAny (model prog w) A (call (.ref f) vs) Q E s :=
  S.use B F X N T hh hf hd hu hk hneed fun r tl h' tk' F' N' Ap P => by
    obtain ⟨q, l, x1, x2, x3, x4, t1, t2, t3, t4, n, rfl, rfl, hql, hp⟩ := P
    exact ret q l x1 x2 x3 x4 t1 t2 t3 t4 n h' tk' F' N' ⟨Ap.1, Ap.2.1, hql⟩ hp
theorem SpecC.useI {w : World} {D U : Nat} {f : Addr} {vs : List Value} {need : List (Addr × Obj)} {v : Int} (S : SpecC w D U f vs need (fun r tl => PI v r tl))
    {prog : Program} {mean : ExcName → Option Value} {mg mb : Str → Option Value} {cn : Str} {cs : Scope} {a : Addr} {ccd : Value} {cl : List (Str × Addr)} {outer : List Env} {A A₀ : Around} {base h₀ : Heap} {L : Addr} {m : Str → Option Value} {s : Shared}
    {Q E : Value → Shared → Prop} {news : List (Addr × Obj)}
    (B : Below A₀ base outer h₀) (F : Fr h₀ L s.heap m) (X : (hd.heap_1 w.params).In h₀) (N : News h₀ L s.heap news) (T : Top view0 LO mean mg mb h₀)
    (hh : A.handled = none) (hf : A.frames = some (envX cn cs L a ccd cl :: outer)) (hd : A.depth ≤ D) (hu : A.units ≤ U)
    (hk : cs.kind = .function) (hneed : ∀ p ∈ need, p ∈ news)
    (ret : ∀ t h' tk', Fr h₀ L h' m → News h₀ L h' news → Q (.int v t) { s with heap := h', toks := tk' }) : wpC (model prog w) A (call (.ref f) vs) Q E s :=
  S.use B F X N T hh hf hd hu hk hneed fun r tl h' tk' F' N' _ P => by
    obtain ⟨rfl, t, rfl⟩ := P
    exact ret t h' tk' F' N'
section
variable {prog : Program} {w : World} {A : Around} {E : Value → Shared → Prop} {s : Shared} {sz k : Nat} {a b v : Int} {t u : Tok} {Q : Value → Shared → Prop}
theorem op_m8 (hv : v = (sz : Int)) (h : Q (.int ((8 * sz : Nat) : Int) s.toks) { s with toks := s.toks + 1 }) : wpAny (model prog w) A (binaryOp .Mult (.int 8 t) (.int v u)) Q E s :=
  mul_int (by rw [hv, show (8 : Int) * (sz : Int) = ((8 * sz : Nat) : Int) by simp]; exact h) (IntMulOk.of_left (by decide +kernel))
theorem op_m4 (hv : v = (sz : Int)) (h : Q (.int ((4 * sz : Nat) : Int) s.toks) { s with toks := s.toks + 1 }) : wpAny (model prog w) A (binaryOp .Mult (.int 4 t) (.int v u)) Q E s :=
  mul_int (by rw [hv, show (4 : Int) * (sz : Int) = ((4 * sz : Nat) : Int) by simp]; exact h) (IntMulOk.of_left (by decide +kernel))
theorem op_m3 (h : Q (.int ((24 * sz : Nat) : Int) s.toks) { s with toks := s.toks + 1 }) : wpAny (model prog w) A (binaryOp .Mult (.int 3 t) (.int ((8 * sz : Nat) : Int) u)) Q E s :=
  mul_int (by rw [show (3 : Int) * ((8 * sz : Nat) : Int) = ((24 * sz : Nat) : Int) by omega]; exact h) (IntMulOk.of_left (by decide +kernel))
theorem op_m2 (h : Q (.int ((16 * sz : Nat) : Int) s.toks) { s with toks := s.toks + 1 }) : wpAny (model prog w) A (binaryOp .Mult (.int 2 t) (.int ((8 * sz : Nat) : Int) u)) Q E s :=
  mul_int (by rw [show (2 : Int) * ((8 * sz : Nat) : Int) = ((16 * sz : Nat) : Int) by omega]; exact h) (IntMulOk.of_left (by decide +kernel))
theorem op_p2 (hk : k ≤ 1000) (h : Q (.int (2 ^ k) s.toks) { s with toks := s.toks + 1 }) : wpAny (model prog w) A (binaryOp .Pow (.int 2 t) (.int (k : Int) u)) Q E s :=
  pow_int_small (Int.natCast_nonneg _) (by omega) (by decide) (by rw [Int.toNat_natCast]; exact h)
theorem op_modE {r : Int} (hb : 0 < b) (hr : r = a % b) (h : Q (.int r s.toks) { s with toks := s.toks + 1 }) : wpAny (model prog w) A (binaryOp .Mod (.int a t) (.int b u)) Q E s := op_mod hb (hr ▸ h)
theorem op_mulB (ha : Builtin.Int.intBits a ≤ 5000) (hb : Builtin.Int.intBits b ≤ 5000) (h : Q (.int (a * b) s.toks) { s with toks := s.toks + 1 }) : wpAny (model prog w) A (binaryOp .Mult (.int a t) (.int b u)) Q E s :=
  mul_int h (mulOk_of_bits ha hb (by omega))
end
theorem turn_nat {a : Int} {sz : Nat} (h : 0 < sz) : ∃ k : Nat, a % ((8 * sz : Nat) : Int) = (k : Int) ∧ k < 8 * sz := by
  have h0 := Int.emod_nonneg a (show ((8 * sz : Nat) : Int) ≠ 0 by omega)
  have h1 := Int.emod_lt_of_pos a (show (0 : Int) < ((8 * sz : Nat) : Int) by omega)
  exact ⟨(a % ((8 * sz : Nat) : Int)).toNat, by omega, by omega⟩
theorem half_pos {sz : Nat} (h : 0 < sz) : (0 : Int) < 2 ^ (4 * sz) - 1 := by
  have : (2 : Int) ^ (4 * sz) = 2 * 2 ^ (4 * sz - 1) := by rw [← Int.pow_succ']; congr 1; omega
  have := pow_pos2 (4 * sz - 1)
  omega
theorem allR3 {sz : Nat} {a b c : Int} (ha : R sz a) (hb : R sz b) (hc : R sz c) : ∀ y ∈ [a, b, c], R sz y := by
  intro y hy
  simp only [List.mem_cons, List.not_mem_nil, or_false] at hy
  rcases hy with rfl | rfl | rfl <;> assumption
theorem whole3_spec (w : World) {x : Addr} {sz : Nat} (KI : Kind x sz) (a b c V : Int) (ta tb tc : Tok) (l : Addr) (nl : Nat) (h : R sz a ∧ R sz b ∧ R sz c) (e : v3 (2 ^ (8 * sz)) a b c = V) :
    SpecC w 437 840 194 [.ref x, .ref l] [(l, listOf #[.int a ta, .int b tb, .int c tc] nl)] (fun r tl => PI V r tl) := by
  have := whole_spec w KI [.int a ta, .int b tb, .int c tc] [a, b, c] l nl (.cons _ _ (.cons _ _ (.cons _ _ .nil))) (allR3 h.1 h.2.1 h.2.2) (Nat.le_of_ble_eq_true rfl)
  rw [vL3, e] at this
  exact this
theorem whole4_spec (w : World) {x : Addr} {sz : Nat} (KI : Kind x sz) (a b c d V : Int) (ta tb tc td : Tok) (l : Addr) (nl : Nat) (h : R sz a ∧ R sz b ∧ R sz c ∧ R sz d) (e : v4 (2 ^ (8 * sz)) a b c d = V) :
    SpecC w 437 840 194 [.ref x, .ref l] [(l, listOf #[.int a ta, .int b tb, .int c tc, .int d td] nl)] (fun r tl => PI V r tl) := by
  have := whole_spec w KI [.int a ta, .int b tb, .int c tc, .int d td] [a, b, c, d] l nl (.cons _ _ (.cons _ _ (.cons _ _ (.cons _ _ .nil)))) (by
    intro y hy
    rcases List.mem_cons.mp hy with rfl | hy
    · exact h.1
    · exact allR3 h.2.1 h.2.2.1 h.2.2.2 y hy) (Nat.le_of_ble_eq_true rfl)
  rw [vL4, e] at this
  exact this
theorem whole5_spec (w : World) {x : Addr} {sz : Nat} (KI : Kind x sz) (a b c d f V : Int) (ta tb tc td tf : Tok) (l : Addr) (nl : Nat) (h : R sz a ∧ R sz b ∧ R sz c ∧ R sz d ∧ R sz f) (e : v5 (2 ^ (8 * sz)) a b c d f = V) :
    SpecC w 437 840 194 [.ref x, .ref l] [(l, listOf #[.int a ta, .int b tb, .int c tc, .int d td, .int f tf] nl)] (fun r tl => PI V r tl) := by
  have := whole_spec w KI [.int a ta, .int b tb, .int c tc, .int d td, .int f tf] [a, b, c, d, f] l nl (.cons _ _ (.cons _ _ (.cons _ _ (.cons _ _ (.cons _ _ .nil))))) (by
    intro y hy
    rcases List.mem_cons.mp hy with rfl | hy
    · exact h.1
    rcases List.mem_cons.mp hy with rfl | hy
    · exact h.2.1
    · exact allR3 h.2.2.1 h.2.2.2.1 h.2.2.2.2 y hy) (Nat.le_of_ble_eq_true rfl)
  rw [vL5, e] at this
  exact this
local macro_rules | `(tactic| walk_at "call ref") => `(tactic| ((with_reducible show wpAny _ _ (call (Value.ref _) _ _) _ _ _); refine stop_here ?_))
theorem pow_bits {k : Nat} (h : k ≤ 200) : Builtin.Int.intBits (2 ^ k) ≤ 9000 := Nat.le_trans (bits_of (k := k + 1) (Int.le_of_lt (pow_pos2 _)) (by rw [Int.pow_succ]; have := pow_pos2 k; omega)) (by omega)
theorem op_pS {prog : Program} {w : World} {A : Around} {E : Value → Shared → Prop} {s : Shared} {sz k : Nat} {t u : Tok} {Q : Value → Shared → Prop} (h8 : sz ≤ 8) (hk : k + 1 ≤ 24 * sz) (h : Q (.int (2 ^ (24 * sz - 1 - k)) s.toks) { s with toks := s.toks + 1 }) : wpAny (model prog w) A (binaryOp .Pow (.int 2 t) (.int (((24 * sz : Nat) : Int) - 1 - (k : Int)) u)) Q E s := by
  rw [show ((24 * sz : Nat) : Int) - 1 - (k : Int) = ((24 * sz - 1 - k : Nat) : Int) by omega]
  exact op_p2 (by omega) h
local macro_rules | `(tactic| walk_at "binaryOp Mult int int") => `(tactic| first | (with_reducible refine op_m2 ?_) | (with_reducible refine op_m3 ?_) | (with_reducible refine op_m4 (by assumption) ?_) | (with_reducible refine op_m8 (by assumption) ?_) | (with_reducible refine op_mulB (by assumption) (by assumption) ?_))
local macro_rules | `(tactic| walk_at "binaryOp FloorDiv int int") => `(tactic| (with_reducible refine op_div (by assumption) (by assumption) ?_))
local macro_rules | `(tactic| walk_at "binaryOp Pow int int") => `(tactic| first | (with_reducible refine op_pS (by assumption) (by assumption) ?_) | (with_reducible refine op_p2 (by omega) ?_))
local macro_rules | `(tactic| walk_at "binaryOp Mod int int") => `(tactic| first | (with_reducible refine op_modE (by first | assumption | exact pow_pos2 _ | omega) (by assumption) ?_) | (with_reducible refine op_mod (by first | assumption | exact pow_pos2 _ | omega) ?_))
theorem same_spec (w : World) {x : Addr} {sz : Nat} (KI : Kind x sz) (v a b : Int) (tv ta tb : Tok) (hv : v = (sz : Int)) :
    SpecC w 435 800 269 [.ref x, .int v tv, .int a ta, .int b tb] [] (fun r tl => tl = [] ∧ r = .bool true) := by
  intro prog mean mg mb cn cs a₀ ccd cl outer A₀ base h₀ L m s Q E B F X N T hk ret
  refine wpC_call ?_
  k_dflt (refine' enterC (binds := [(Str.ofString "kind", .ref x), (Str.ofString "size", .int v tv), (Str.ofString "one", .int a ta), (Str.ofString "two", .int b tb)]) ?k1 ?k2 ?k3 ?k4 ?k5 ?kA ?kF ?kK ?k6 ?k7 ?k8 ?k9 ?kB ?_ ?c2 ?c3 ?c4 ?c5; (case kA => exact rfl); (case kF => exact rfl); (case kK => assumption); (case k1 => k_asm); (case k2 => k_asm); (case k3 => k_asm); (case k4 => k_asm); (case k5 => k_asm); (case k6 => k_is); (case k7 => k_is); (case k8 => exact Nat.le_of_ble_eq_true rfl); (case k9 => exact BindsTo.of_eq rfl); (case c5 => decide); (case kB => exact locs rfl); (case c2 => exact rfl); (case c3 => exact rfl); (case c4 => exact rfl); k_whole)
  intro g' L' h' G1 G2 F' N' B' X' T'
  clear B F X T hk
  dsimp only
  refine wpC_noE ?_
  have h8 := KI.le8
  have hps := KI.pos
  have hhp := half_pos hps
  obtain ⟨k, hk, hk8⟩ := turn_nat (a := a) hps
  have hk := hk.symm
  have hwp : (0 : Int) < ((8 * sz : Nat) : Int) := by omega
  obtain ⟨X, hXe⟩ : ∃ X, X = a % 2 ^ (24 * sz) := ⟨_, rfl⟩
  obtain ⟨Y, hYe⟩ : ∃ Y, Y = b % 2 ^ (24 * sz) := ⟨_, rfl⟩
  obtain ⟨d, hde⟩ : ∃ d, d = b % (2 ^ (4 * sz) - 1) := ⟨_, rfl⟩
  have hX0 : 0 ≤ X ∧ X < 2 ^ (24 * sz) := hXe ▸ ⟨Int.emod_nonneg _ (Int.ne_of_gt (pow_pos2 _)), Int.emod_lt_of_pos _ (pow_pos2 _)⟩
  have hY0 : 0 ≤ Y ∧ Y < 2 ^ (24 * sz) := hYe ▸ ⟨Int.emod_nonneg _ (Int.ne_of_gt (pow_pos2 _)), Int.emod_lt_of_pos _ (pow_pos2 _)⟩
  have hXb : Builtin.Int.intBits X ≤ 5000 := Nat.le_trans (bits_of hX0.1 hX0.2) (by omega)
  have hYb : Builtin.Int.intBits (Y % 2 ^ (16 * sz)) ≤ 5000 := Nat.le_trans (bits_of (Int.emod_nonneg _ (Int.ne_of_gt (pow_pos2 _))) (Int.emod_lt_of_pos _ (pow_pos2 _))) (by omega)
  have hkb : Builtin.Int.intBits (2 ^ k) ≤ 5000 := Nat.le_trans (bits_of (k := k + 1) (Int.le_of_lt (pow_pos2 _)) (by rw [Int.pow_succ]; have := pow_pos2 k; omega)) (by omega)
  have hb0 : 0 < 1 + d ∧ 1 + d < 2 ^ (4 * sz) := by
    have h1 := Int.emod_nonneg b (Int.ne_of_gt hhp)
    have h2 := Int.emod_lt_of_pos b hhp
    omega
  have hbz : Builtin.Int.intBits (1 + d) ≤ 9000 := Nat.le_trans (bits_of (Int.le_of_lt hb0.1) hb0.2) (by omega)
  refine execsA ?_
  k_steps
  dsimp only
  refine execsA ?_
  k_steps
  dsimp only
  refine execsA ?_
  k_steps
  dsimp only
  refine execsA ?_
  k_steps
  dsimp only
  refine execsA ?_
  k_steps
  dsimp only
  refine execsA ?_
  k_steps
  dsimp only
  refine execsA ?_
  k_steps
  dsimp only
  rename_i F0 N0
  refine execsC (assignC ?_)
  refine callFnH (K := hd.heap_1 w.params) (f := 189) rfl ?_
  k_steps
  refine halt ⟨rfl, ?_⟩
  k_steps
  refine halt ⟨X'.keeps (Fr.keep (by k_asm)), ?_⟩
  refine SpecC.useL3 (limbs_spec _ KI _ _ _ _ hv hX0) (by k_asm) (by k_asm) (by k_asm) (by k_asm) (by k_asm) rfl rfl (Nat.le_of_ble_eq_true rfl) (Nat.le_of_ble_eq_true rfl) rfl (by walk_at "mine need") ?_
  intro p p0 p1 p2 tp0 tp1 tp2 np h9 tk9 F9 N9 A9 hpP
  have hpv := hpP.1
  have hp0 := hpP.2.1
  have hp1 := hpP.2.2.1
  have hp2 := hpP.2.2.2
  (try dsimp only [List.cons_append, List.nil_append] at N9)
  (try dsimp only [Apart.AllNe] at A9)
  (try k_sweep)
  k_steps
  dsimp only
  refine execsC (assignC ?_)
  refine callFnH (K := hd.heap_1 w.params) (f := 189) rfl ?_
  k_steps
  refine halt ⟨rfl, ?_⟩
  k_steps
  refine halt ⟨X'.keeps (Fr.keep (by k_asm)), ?_⟩
  refine SpecC.useL3 (limbs_spec _ KI _ _ _ _ hv hY0) (by k_asm) (by k_asm) (by k_asm) (by k_asm) (by k_asm) rfl rfl (Nat.le_of_ble_eq_true rfl) (Nat.le_of_ble_eq_true rfl) rfl (by walk_at "mine need") ?_
  intro q q0 q1 q2 tq0 tq1 tq2 nq h9 tk9 F9 N9 A9 hqP
  have hqv := hqP.1
  have hq0 := hqP.2.1
  have hq1 := hqP.2.2.1
  have hq2 := hqP.2.2.2
  (try dsimp only [List.cons_append, List.nil_append] at N9)
  (try dsimp only [Apart.AllNe] at A9)
  (try k_sweep)
  k_steps
  dsimp only
  have hpq : p ≠ q := A9.1
  clear A9
  refine execsC (ifC (cmpC ?_))
  refine callFnH (K := hd.heap_1 w.params) (f := 194) rfl ?_
  k_steps
  refine halt ⟨rfl, ?_⟩
  k_steps
  refine stop_out (Spec.useL4 (sum_spec _ KI p0 p1 p2 tp0 tp1 tp2 hp0 hp1 hp2 p np q0 q1 q2 tq0 tq1 tq2 hq0 hq1 hq2 q nq hpq) (by k_asm) (by k_asm) (by k_asm) (by k_asm) (by k_asm) rfl rfl (Nat.le_of_ble_eq_true rfl) (Nat.le_of_ble_eq_true rfl) rfl (by walk_at "mine need") ?_)
  intro z z0 z1 z2 z3 tz0 tz1 tz2 tz3 nz h9 tk9 F9 N9 A9 hsP
  have hsv := hsP.1
  have hsR := hsP.2
  (try dsimp only [List.cons_append, List.nil_append] at N9)
  (try dsimp only [Apart.AllNe] at A9)
  (try k_sweep)
  k_steps
  refine halt ⟨X'.keeps (Fr.keep (by k_asm)), ?_⟩
  refine SpecC.useI (whole4_spec _ KI _ _ _ _ (X + Y) _ _ _ _ _ _ hsR (by rw [hsv, hpv, hqv])) (by k_asm) (by k_asm) (by k_asm) (by k_asm) (by k_asm) rfl rfl (Nat.le_of_ble_eq_true rfl) (Nat.le_of_ble_eq_true rfl) rfl (by walk_at "mine need") ?_
  intro t1 h9 tk9 F9 N9
  (try k_sweep)
  k_steps
  all_goals (first | contradiction | skip)
  refine execsC_nil ?_
  dsimp only
  replace N9 := kst_newsOf (l' := [(q, _), (p, _)]) N9 (by walk_at "mine need")
  refine execsA ?_
  k_steps
  refine stop_out (Spec.useTL (difference_spec _ KI p0 p1 p2 tp0 tp1 tp2 hp0 hp1 hp2 p np q0 q1 q2 tq0 tq1 tq2 hq0 hq1 hq2 q nq hpq) (by k_asm) (by k_asm) (by k_asm) (by k_asm) (by k_asm) rfl rfl (Nat.le_of_ble_eq_true rfl) (Nat.le_of_ble_eq_true rfl) rfl (by walk_at "mine need") ?_)
  intro u ul u0 u1 u2 ub tu0 tu1 tu2 tub nu h9 tk9 F9 N9 A9 huP
  have huv := huP.1
  have huR := huP.2.1
  have hub := huP.2.2
  (try dsimp only [List.cons_append, List.nil_append] at N9)
  (try dsimp only [Apart.AllNe] at A9)
  (try k_sweep)
  rw [hpv, hqv] at huv
  obtain ⟨huv, hub⟩ := same_diff hX0 hY0 huv huR hub
  rw [vL3] at huv
  replace hub : ub = if decide (X < Y) = true then 1 else 0 := by rw [hub]; simp
  k_steps
  dsimp only
  refine execsC (ifC (orC (cmpC ?_)))
  refine callFnH (K := hd.heap_1 w.params) (f := 194) rfl ?_
  k_steps
  refine halt ⟨rfl, ?_⟩
  k_steps
  refine halt ⟨X'.keeps (Fr.keep (by k_asm)), ?_⟩
  refine SpecC.useI (whole3_spec _ KI _ _ _ _ _ _ _ _ _ huR rfl) (by k_asm) (by k_asm) (by k_asm) (by k_asm) (by k_asm) rfl rfl (Nat.le_of_ble_eq_true rfl) (Nat.le_of_ble_eq_true rfl) rfl (by walk_at "mine need") ?_
  intro t1 h9 tk9 F9 N9
  (try k_sweep)
  k_steps
  all_goals (first | contradiction | skip)
  refine wpC_any ?_
  k_steps
  all_goals (first | contradiction | skip)
  refine execsC_nil ?_
  dsimp only
  replace N9 := kst_newsOf (l' := [(q, _), (p, _)]) N9 (by walk_at "mine need")
  refine execsC (ifC (cmpC ?_))
  refine callFnH (K := hd.heap_1 w.params) (f := 194) rfl ?_
  k_steps
  refine halt ⟨rfl, ?_⟩
  k_steps
  rename_i dQ hQ FQ NQ lQ
  refine stop_out (Spec.useL5 (product_spec _ KI _ _ p0 p1 p2 tp0 tp1 tp2 hp0 hp1 hp2 p np q0 q1 tq0 tq1 hq0 hq1 dQ 0 (Nat.ne_of_lt lQ.2) rfl) (by k_asm) (by k_asm) (by k_asm) (by k_asm) (by k_asm) rfl rfl (Nat.le_of_ble_eq_true rfl) (Nat.le_of_ble_eq_true rfl) rfl (by walk_at "mine need") ?_)
  intro o o0 o1 o2 o3 o4 to0 to1 to2 to3 to4 no h9 tk9 F9 N9 A9 hoP
  have hov := hoP.1
  have hoR := hoP.2
  (try dsimp only [List.cons_append, List.nil_append] at N9)
  (try dsimp only [Apart.AllNe] at A9)
  (try k_sweep)
  k_steps
  refine halt ⟨X'.keeps (Fr.keep (by k_asm)), ?_⟩
  refine SpecC.useI (whole5_spec _ KI _ _ _ _ _ (X * (Y % 2 ^ (16 * sz))) _ _ _ _ _ _ _ hoR (by rw [hov, hpv, low_two ⟨hq0, hq1, hq2⟩ hqv])) (by k_asm) (by k_asm) (by k_asm) (by k_asm) (by k_asm) rfl rfl (Nat.le_of_ble_eq_true rfl) (Nat.le_of_ble_eq_true rfl) rfl (by walk_at "mine need") ?_
  intro t1 h9 tk9 F9 N9
  (try k_sweep)
  k_steps
  all_goals (first | contradiction | skip)
  refine execsC_nil ?_
  dsimp only
  replace N9 := kst_newsOf (l' := [(q, _), (p, _)]) N9 (by walk_at "mine need")
  refine execsA ?_
  k_steps
  refine stop_out (Spec.useTL (divided_spec _ KI _ _ _ _ p0 p1 p2 tp0 tp1 tp2 hp0 hp1 hp2 p np rfl hb0.1 hb0.2 hbz) (by k_asm) (by k_asm) (by k_asm) (by k_asm) (by k_asm) rfl rfl (Nat.le_of_ble_eq_true rfl) (Nat.le_of_ble_eq_true rfl) rfl (by walk_at "mine need") ?_)
  intro c cl c0 c1 c2 cr tc0 tc1 tc2 tcr nc h9 tk9 F9 N9 A9 hcP
  have hcv := hcP.1
  have hcR := hcP.2.1
  have hcr := hcP.2.2
  (try dsimp only [List.cons_append, List.nil_append] at N9)
  (try dsimp only [Apart.AllNe] at A9)
  (try k_sweep)
  rw [hpv] at hcv
  obtain ⟨hcq, hcm⟩ := same_div hcv hcr.1 hcr.2
  have hcp := hb0.1
  k_steps
  dsimp only
  refine execsC (ifC (orC (cmpC ?_)))
  refine callFnH (K := hd.heap_1 w.params) (f := 194) rfl ?_
  k_steps
  refine halt ⟨rfl, ?_⟩
  k_steps
  refine halt ⟨X'.keeps (Fr.keep (by k_asm)), ?_⟩
  refine SpecC.useI (whole3_spec _ KI _ _ _ (X / (1 + d)) _ _ _ _ _ hcR hcq) (by k_asm) (by k_asm) (by k_asm) (by k_asm) (by k_asm) rfl rfl (Nat.le_of_ble_eq_true rfl) (Nat.le_of_ble_eq_true rfl) rfl (by walk_at "mine need") ?_
  intro t1 h9 tk9 F9 N9
  (try k_sweep)
  k_steps
  all_goals (first | contradiction | skip)
  refine wpC_any ?_
  k_steps
  all_goals (first | contradiction | skip)
  refine execsC_nil ?_
  dsimp only
  replace N9 := kst_newsOf (l' := [(q, _), (p, _)]) N9 (by walk_at "mine need")
  refine execsA ?_
  k_steps
  refine stop_out (Spec.useL4 (shifted_spec _ KI _ _ (k := k) p0 p1 p2 tp0 tp1 tp2 hp0 hp1 hp2 p np rfl hk8) (by k_asm) (by k_asm) (by k_asm) (by k_asm) (by k_asm) rfl rfl (Nat.le_of_ble_eq_true rfl) (Nat.le_of_ble_eq_true rfl) rfl (by walk_at "mine need") ?_)
  intro j j0 j1 j2 j3 tj0 tj1 tj2 tj3 nj h9 tk9 F9 N9 A9 hjP
  have hjv := hjP.1
  have hjR := hjP.2
  (try dsimp only [List.cons_append, List.nil_append] at N9)
  (try dsimp only [Apart.AllNe] at A9)
  (try k_sweep)
  rw [hpv] at hjv
  k_steps
  dsimp only
  refine execsC (ifC (orC (cmpC ?_)))
  refine callFnH (K := hd.heap_1 w.params) (f := 194) rfl ?_
  k_steps
  refine halt ⟨rfl, ?_⟩
  k_steps
  refine halt ⟨X'.keeps (Fr.keep (by k_asm)), ?_⟩
  refine SpecC.useI (whole4_spec _ KI _ _ _ _ (X * 2 ^ k) _ _ _ _ _ _ hjR hjv) (by k_asm) (by k_asm) (by k_asm) (by k_asm) (by k_asm) rfl rfl (Nat.le_of_ble_eq_true rfl) (Nat.le_of_ble_eq_true rfl) rfl (by walk_at "mine need") ?_
  intro t1 h9 tk9 F9 N9
  (try k_sweep)
  k_steps
  all_goals (first | contradiction | skip)
  refine wpC_any ?_
  k_steps
  refine stop_out (Spec.useL4 (shifted_back_spec _ KI _ _ (k := k) j0 j1 j2 tj0 tj1 tj2 hjR.1 hjR.2.1 hjR.2.2.1 j nj j3 tj3 hjR.2.2.2 rfl hk8) (by k_asm) (by k_asm) (by k_asm) (by k_asm) (by k_asm) rfl rfl (Nat.le_of_ble_eq_true rfl) (Nat.le_of_ble_eq_true rfl) rfl (by walk_at "mine need") ?_)
  intro y y0 y1 y2 y3 ty0 ty1 ty2 ty3 ny h9 tk9 F9 N9 A9 hyP
  have hyv := hyP.1
  have hyR := hyP.2
  (try dsimp only [List.cons_append, List.nil_append] at N9)
  (try dsimp only [Apart.AllNe] at A9)
  (try k_sweep)
  have hyE := same_back hpv ⟨hp0, hp1, hp2⟩ hjv hyv hyR
  injection hyE with hy0 hyE
  injection hyE with hy1 hyE
  injection hyE with hy2 hyE
  injection hyE with hy3 hyE
  clear hyE
  subst hy0; subst hy1; subst hy2; subst hy3
  k_steps
  all_goals (first | contradiction | skip)
  rename_i lA hA l1A DA hB FA NA l1B
  refine execsC_nil ?_
  dsimp only
  replace NA := kst_newsOf (l' := [(p, _)]) NA (by walk_at "mine need")
  clear l1A l1B
  refine execsA ?_
  k_steps
  refine stop_out (Spec.useT (noughts_spec _ KI _ _ y0 y1 y2 tp0 tp1 tp2 hp0 hp1 hp2 p np rfl) (by k_asm) (by k_asm) (by k_asm) (by k_asm) (by k_asm) rfl rfl (Nat.le_of_ble_eq_true rfl) (Nat.le_of_ble_eq_true rfl) rfl (by walk_at "mine need") ?_)
  intro n nA nB tnA tnB h9 tk9 F9 N9 A9 hnou
  (try dsimp only [List.cons_append, List.nil_append] at N9)
  (try dsimp only [Apart.AllNe] at A9)
  (try k_sweep)
  by_cases hx0 : X = 0
  · obtain ⟨hnA, hnB⟩ := nou_zero hnou (hpv.trans hx0)
    subst hnA; subst hnB
    k_steps
    dsimp only
    refine execsC (ifC (cmpC (wpC_any ?_)))
    k_steps
    all_goals (first | contradiction | skip)
    refine wpC_any ?_
    k_steps
    all_goals (first | contradiction | skip)
    (try dsimp only)
    refine fin0 ret G1 G2 N (by k_asm) (by k_asm) (by walk_at "mine need") ⟨rfl, ?_⟩
    simp
  · obtain ⟨kA, kB, hnA, hnB, hkA, hkB, hq1, hq2, hq3⟩ := nou_one hnou hpv hx0 hX0
    subst hnA; subst hnB
    have hD1 := pow_pos2 (24 * sz - 1 - kA)
    have hD2 : Builtin.Int.intBits (2 ^ (24 * sz - 1 - kA)) ≤ 9000 := pow_bits (by omega)
    have hD3 := pow_pos2 kB
    have hD4 : Builtin.Int.intBits (2 ^ kB) ≤ 9000 := pow_bits (by omega)
    have hq2' := hq2.symm
    have hq3' := hq3.symm
    k_steps
    dsimp only
    refine execsC (ifC (cmpC (wpC_any ?_)))
    k_steps
    all_goals (first | contradiction | skip)
    refine execsC_nil ?_
    dsimp only
    refine wpC_any ?_
    k_steps
    all_goals (first | contradiction | skip)
    (try dsimp only)
    refine fin0 ret G1 G2 N (by k_asm) (by k_asm) (by walk_at "mine need") ⟨rfl, ?_⟩
    simp
end
section
set_option maxRecDepth 100000
set_option maxHeartbeats 4000000
theorem law_post (args : List WData) : PySem.Challenge.rw_ln0030_01.row.claim.post args (.bool true) args = true := by
  refine postW_of (r := PySem.Challenge.rw_ln0030_01.row.toRowW) (X := true) ?_ ?_ rfl
  · show WShape.has [] (.bool true) .bool = true
    simp [WShape.has, WShape.arms]
  · show WTm.value [] (.eq .res (.lit (.bool true))) { args := args, res := some (.bool true), after := args } = _
    simp [WTm.value, same]
/-- the top call, over the clean stacks -/
theorem call_fullC {prog : Program} {w : World} {A : Around} {R : Result → Shared → Prop} {s : Shared} {name : Str} {params : Arguments} {body : List Stmt} {scope : Scope}
    {dV kV pm cd doc : Value} {a : Addr} {o : Obj} {args : Args} {binds : List (Str × Value)}
    (hroom : A.depth < recursionLimit) (ho : s.heap.get? a = some o) (hdata : o.data = .func { docDef name params body scope pm cd doc with defaults := dV, kwdefaults := kV }) (hlim : s.heap.NoLimit) (hcd : s.heap.CodeRec cd name)
    (hbind : BindsTo s { docDef name params body scope pm cd doc with defaults := dV, kwdefaults := kV } args binds)
    (hloc : ∀ x ∈ binds, scope.names.lookup x.1 = some .local)
    (h : ∀ h₁, Fr s.heap s.heap.objs.size h₁ (fun x => binds.reverse.lookup x) →
      wpC (model prog w) (A.deeper (envOf name scope s.heap.objs.size a cd)) (execs body (envOf name scope s.heap.objs.size a cd))
        (fun f s' => R (.ok (.ret (match f with | .ret v => v | _ => .none))) s') (fun _ _ => False) { s with heap := h₁, toks := s.toks + binds.length })
    (hco : scope.isCoroutine = false := by rfl) (hgen : scope.isGenerator = false := by rfl) (hk : scope.kind = .function := by rfl)
    (hcell : ∀ x ∈ scope.names, x.2 ≠ .cell := by decide) : codeC (model prog w) A (.call (.ref a) args) R s := by
  refine codeC_call_function (fd := { docDef name params body scope pm cd doc with defaults := dV, kwdefaults := kV }) (body := body) hroom ho hdata hco hgen rfl hcd (hbind _ _ _ _ ?_)
  refine wpAny_newFunctionEnv hcell hloc (fun h₁ hns hsb => ⟨hlim.fresh _ hsb, codeC_func ?_⟩) hk
  have hk₁ : ∀ b o, s.heap.get? b = some o → h₁.get? b = some o := fun b o e => hsb.extBut b o (Nat.ne_of_lt (Heap.lt_size e)) (Heap.get?_push_of_some _ e)
  exact wpC_mono (h h₁ ⟨hns, hk₁, Nat.le_refl _⟩) (fun _ _ x => x) fun _ _ x => x.elim
theorem lay_bits {ns : List Int} (h : (PyData.list (ns.map PyData.int)).layable0 = true) : ∀ a ∈ ns, Builtin.Int.intBits a ≤ 2 ^ 20 := by
  have hw : PyData.weightAll (ns.map PyData.int) ≤ 2 ^ 20 := by
    unfold PyData.layable0 at h
    simp only [Bool.and_eq_true, decide_eq_true_eq] at h
    exact h.2
  have key : ∀ l : List Int, ∀ a ∈ l, Builtin.Int.intBits a ≤ PyData.weightAll (l.map PyData.int) := by
    intro l
    induction l with
    | nil => intro a ha; cases ha
    | cons b r ih =>
      intro a ha
      have e : PyData.weightAll ((b :: r).map PyData.int) = Builtin.Int.intBits b + 1 + PyData.weightAll (r.map PyData.int) := by
        simp only [List.map_cons, PyData.weightAll, PyData.weight]
        rfl
      rw [e]
      rcases List.mem_cons.mp ha with rfl | ha
      · omega
      · have := ih a ha; omega
  exact fun a ha => Nat.le_trans (key ns a ha) hw
local macro_rules | `(tactic| walk_at "call ref") => `(tactic| ((with_reducible show wpAny _ _ (call (Value.ref 184) _ _) _ _ _); refine stop_here ?_))
/-- what is looked at behind the top -/
noncomputable def H0 : Hook := kHook hd.heap_1 [2, 3, 15, 17, 18, 20, 21, 29, 31, 32, 34, 35, 36, 38, 39, 41, 42, 43, 45, 46, 48, 49, 50, 52, 53, 55, 56, 57, 59, 60, 62, 63, 64, 66, 67, 69, 70, 71, 73, 74, 76, 77, 78, 80, 81, 83, 84, 85, 87, 88, 90, 91, 92, 94, 95, 97, 98, 99, 101, 102, 104, 105, 106, 108, 109, 111, 112, 113, 115, 116, 118, 119, 120, 122, 123, 125, 126, 127, 129, 130, 132, 133, 134, 136, 137, 139, 140, 141, 143, 144, 146, 147, 148, 150, 151, 153, 154, 155, 157, 158, 160, 161, 162, 163, 164, 165, 166, 169, 170, 172, 173, 175, 176, 178, 180, 181, 183, 184, 185, 188, 189, 190, 193, 194, 195, 197, 198, 200, 201, 202, 204, 205, 207, 208, 209, 211, 212, 214, 215, 216, 218, 219, 221, 222, 223, 225, 226, 228, 229, 230, 233, 234, 235, 237, 238, 240, 241, 242, 244, 245, 247, 248, 249, 251, 252, 254, 255, 256, 258, 259, 261, 262, 263, 265, 266, 268, 269, 270, 272, 273, 275, 276] (fun _ => by kernel_rfl)
theorem head.tw5072932315944888482 : True := trivial
theorem head.tw13942192884097748152 : True := trivial
theorem head.tw12310735299239354703 : True := trivial
theorem head.tw976808484645153763 : True := trivial
theorem head.tw11628534518673281344 : True := trivial
theorem head.tw3715584954343283195 : True := trivial
theorem head.tw3453547403478019728 : True := trivial
theorem head.tw8159583801465064534 : True := trivial
theorem head.tw14788773977795034992 : True := trivial
theorem head.tw11296743742662292762 : True := trivial
theorem head.tw2393098407364606883 : True := trivial
theorem head.tw18007968972792079559 : True := trivial
theorem head.tw9119898389439641535 : True := trivial
theorem head.tw4608284121681433764 : True := trivial
theorem head.tw12998212659555988865 : True := trivial
theorem head.tw9186546921256032858 : True := trivial
theorem head.tw1169518078854789845 : True := trivial
theorem head.tw3986194592780655508 : True := trivial
theorem head.tw14139502460874162764 : True := trivial
theorem head.tw9984397402777080727 : True := trivial
theorem head.tw7494366503370351645 : True := trivial
theorem head.tw18384547517478447814 : True := trivial
theorem head.tw12352672977532951062 : True := trivial
theorem head.tw12870424476946447624 : True := trivial
theorem head.tw69809265629811306 : True := trivial
theorem head.tw7013799640231393816 : True := trivial
theorem head.tw16310391890351198594 : True := trivial
theorem head.tw4965378191221513410 : True := trivial
theorem head.tw8895791426145780158 : True := trivial
theorem head.tw17674571679781333832 : True := trivial
theorem head.tw15436542981012472205 : True := trivial
theorem head.tw13510609219080548989 : True := trivial
theorem head.tw11105056867450500199 : True := trivial
theorem head.tw16817119741492734445 : True := trivial
theorem head.tw7876399200375917224 : True := trivial
theorem head.tw9114333099845857663 : True := trivial
theorem head.tw4693820183103290663 : True := trivial
theorem head.tw17782148633632673465 : True := trivial
theorem head.tw3746228215898030841 : True := trivial
theorem head.tw9746458257258439470 : True := trivial
theorem head.tw15035418422258542911 : True := trivial
theorem head.tw768292572143277422 : True := trivial
theorem head.tw8219034294630437252 : True := trivial
theorem head.tw5508695066786827253 : True := trivial
theorem head.tw2096541523181747872 : True := trivial
theorem head.tw1212124681294104184 : True := trivial
theorem head.tw3313396315762190772 : True := trivial
theorem head.tw8402214883040486957 : True := trivial
theorem head.tw17625619411348890933 : True := trivial
theorem head.tw7661765248129044261 : True := trivial
theorem head.tw649443455394278489 : True := trivial
theorem head.tw15798066900824788120 : True := trivial
theorem head.tw7758381527925395934 : True := trivial
theorem head.tw5104563664521345299 : True := trivial
theorem head.tw10015159338476511836 : True := trivial
theorem head.tw12207028300977255130 : True := trivial
theorem head.tw12201952087667049370 : True := trivial
theorem head.tw15296082917334920728 : True := trivial
theorem head.tw15735840784391694233 : True := trivial
theorem head.tw12773685731770592110 : True := trivial
theorem head.tw7658410731251134818 : True := trivial
theorem head.tw14699756766385990792 : True := trivial
theorem head.tw11714945338242495837 : True := trivial
theorem head.tw17332727794074296334 : True := trivial
theorem head.tw532055438628499158 : True := trivial
theorem head.tw6211381574409162282 : True := trivial
theorem head.tw11630664056906969636 : True := trivial
theorem head.tw14643560169476415855 : True := trivial
theorem head.tw9196398404247428943 : True := trivial
theorem head.tw16111715859725283846 : True := trivial
theorem head.tw1832916270232011604 : True := trivial
theorem head.tw3754546422522225538 : True := trivial
theorem head.tw15204471325056678010 : True := trivial
theorem head.tw15894371620910866019 : True := trivial
theorem head.tw2138340339207913572 : True := trivial
theorem head.tw9162278640276766204 : True := trivial
theorem head.tw8603420104599213669 : True := trivial
theorem head.tw14842460003800876886 : True := trivial
theorem head.tw4964814941381164201 : True := trivial
theorem head.tw8591847963789803379 : True := trivial
theorem head.tw8069490553459650110 : True := trivial
theorem head.tw7417405269818204032 : True := trivial
theorem head.tw17552560543380974038 : True := trivial
theorem head.tw8928023225330563168 : True := trivial
theorem head.tw9062998866958442273 : True := trivial
theorem head.tw14999265807660949796 : True := trivial
theorem head.tw12478146576626367362 : True := trivial
theorem head.tw5889021280877657681 : True := trivial
theorem head.tw5651425540991249520 : True := trivial
theorem head.tw8382746154173761051 : True := trivial
theorem head.tw13906610036690215845 : True := trivial
theorem head.tw4433315090154635215 : True := trivial
theorem head.tw7802898811600756450 : True := trivial
theorem head.tw3501597964444990463 : True := trivial
theorem head.tw3089916443595474862 : True := trivial
theorem head.tw5438144065070405397 : True := trivial
theorem head.tw15037083628117588352 : True := trivial
theorem head.tw7994106446794305319 : True := trivial
theorem head.tw1909714482019496454 : True := trivial
theorem head.tw8627200689577751383 : True := trivial
theorem head.tw13086575352542018947 : True := trivial
theorem head.tw4415685298772064003 : True := trivial
theorem head.tw17700853532424174462 : True := trivial
theorem head.tw5870146547769353613 : True := trivial
theorem head.tw17789423225533864492 : True := trivial
theorem head.tw2879759524354350568 : True := trivial
theorem head.tw17737275727222175138 : True := trivial
theorem head.tw18134755911535582296 : True := trivial
theorem head.tw8535708456716222715 : True := trivial
theorem head.tw1495726902847802894 : True := trivial
theorem head.tw2518057956044344595 : True := trivial
theorem head.tw10510622979536455646 : True := trivial
theorem head.tw1506576300011279404 : True := trivial
theorem head.tw16894197260953374720 : True := trivial
theorem head.tw5986637957666399235 : True := trivial
theorem head.tw17152777061578665746 : True := trivial
theorem head.tw11194998557105285118 : True := trivial
theorem head.tw12475708393154427166 : True := trivial
theorem head.tw5545290222666719245 : True := trivial
theorem head.tw5092371620264689978 : True := trivial
theorem head.tw15112835437128306455 : True := trivial
theorem head.tw11484358847640170188 : True := trivial
theorem head.tw17854896373637125580 : True := trivial
theorem head.tw13353151263460963528 : True := trivial
theorem head.tw10079960370226730655 : True := trivial
theorem head.tw7512725033676591148 : True := trivial
theorem head.tw9082462177598256812 : True := trivial
theorem head.tw11862927689305589065 : True := trivial
theorem head.tw8097174177036852075 : True := trivial
theorem head.tw10356212845559719233 : True := trivial
theorem head.tw1276956409769668328 : True := trivial
theorem head.tw3688799982635324794 : True := trivial
theorem head.tw17464823870196871000 : True := trivial
theorem head.tw2392719699028791811 : True := trivial
theorem head.tw6880043348581005364 : True := trivial
theorem head.tw9325057278558614444 : True := trivial
theorem head.tw6006231696847038989 : True := trivial
theorem head.tw17212568112599259466 : True := trivial
theorem head.tw14655887587153932155 : True := trivial
theorem head.tw1852205218256702202 : True := trivial
theorem head.tw6587087628758450585 : True := trivial
theorem head.tw2994366008111725845 : True := trivial
theorem head.tw48543519692965452 : True := trivial
theorem head.tw12147184966966947637 : True := trivial
theorem head.tw17725469503822016867 : True := trivial
theorem head.tw5047204514283635954 : True := trivial
theorem head.tw14943480678444902952 : True := trivial
theorem head.tw12775505166333009402 : True := trivial
theorem head.tw5638995163158488052 : True := trivial
theorem head.tw17826015225549371706 : True := trivial
theorem head.tw13605870324054321959 : True := trivial
theorem head.tw1748456618969930982 : True := trivial
theorem head.tw12359489953124434286 : True := trivial
theorem head.tw4381510469713062047 : True := trivial
theorem head.tw14877080517539528568 : True := trivial
theorem head.tw2260579728952749127 : True := trivial
theorem head.tw12704426703380559182 : True := trivial
theorem head.tw13954853420313727417 : True := trivial
theorem head.tw11439149762140341726 : True := trivial
theorem head.tw1463646239528298992 : True := trivial
theorem head.tw10533634037010066435 : True := trivial
theorem head.tw12820901002040952943 : True := trivial
theorem head.tw16984083398119652359 : True := trivial
theorem head.tw12032222614953749359 : True := trivial
theorem head.tw16172288393029767808 : True := trivial
theorem head.tw17508272824862286709 : True := trivial
theorem head.tw17336824697803282187 : True := trivial
theorem head.tw9145527808636388435 : True := trivial
theorem head.tw14547535633828118030 : True := trivial
theorem head.tw262713603470380999 : True := trivial
theorem head.tw7090939061502383884 : True := trivial
theorem head.tw6846597200999610202 : True := trivial
theorem head.tw5629256929840616583 : True := trivial
theorem head.tw8874674299285249911 : True := trivial
theorem head.tw11124748197601291601 : True := trivial
theorem head.tw7712916153251135833 : True := trivial
theorem head.tw17577399041416155939 : True := trivial
theorem head.tw14235796723476431154 : True := trivial
theorem head.tw14527164170590304321 : True := trivial
theorem head.tw733406405333840765 : True := trivial
theorem head.tw10987702880554017565 : True := trivial
theorem head.tw12816248389491904375 : True := trivial
theorem head.tw10059252607514160932 : True := trivial
theorem head.tw15895748673760503845 : True := trivial
theorem head.tw5319049981483164881 : True := trivial
theorem head.tw9716329373054682134 : True := trivial
theorem head.tw10261356005730403935 : True := trivial
theorem head.tw18051680202136193954 : True := trivial
theorem head.tw11692735721529064706 : True := trivial
theorem head.tw15782939476341012554 : True := trivial
theorem head.tw12181229475202438901 : True := trivial
theorem head.tw4023466491090337370 : True := trivial
theorem head.tw467416434755642258 : True := trivial
theorem head.tw13078646160514809887 : True := trivial
theorem head.tw9820158181544301314 : True := trivial
theorem head.tw6507506987150044280 : True := trivial
theorem head.tw11005904730967762025 : True := trivial
theorem head.tw4063747431996464497 : True := trivial
theorem head.tw17348764703882912863 : True := trivial
theorem head.tw6100774026682323163 : True := trivial
theorem head.tw4311042196063409733 : True := trivial
theorem head.tw3368030927266983236 : True := trivial
theorem head.tw4307260679431091991 : True := trivial
theorem head.tw17142359554024780413 : True := trivial
theorem head.tw4196546014268931301 : True := trivial
theorem head.tw12903917746401883607 : True := trivial
theorem head.tw3749026756887285471 : True := trivial
theorem head.tw3088210815446039105 : True := trivial
theorem head.tw16874305072444578374 : True := trivial
theorem head.tw10865165270600546614 : True := trivial
theorem head.tw2249667046024356820 : True := trivial
theorem head.tw8773370040425892893 : True := trivial
theorem head.tw3991279037241028524 : True := trivial
theorem head.tw12740806245664736207 : True := trivial
theorem head.tw9407594320385231609 : True := trivial
theorem head.tw4976181008148175253 : True := trivial
theorem head.tw11544532188706048022 : True := trivial
theorem head.tw1324860043992469700 : True := trivial
theorem head.tw10293878126165140123 : True := trivial
theorem head.tw10366927770000222440 : True := trivial
theorem head.tw18433677622606106133 : True := trivial
theorem head.tw6846866878297920324 : True := trivial
theorem head.tw12330954535739239725 : True := trivial
theorem head.tw8673269760282635301 : True := trivial
theorem head.tw3794523003379204399 : True := trivial
theorem head.tw18123143868385100064 : True := trivial
theorem head.tw9280153536138602973 : True := trivial
theorem head.tw7833285031277912329 : True := trivial
theorem head.tw6121141971511671821 : True := trivial
theorem head.tw17698105195316432488 : True := trivial
theorem head.tw4746297304354101679 : True := trivial
theorem head.tw1566460306257097708 : True := trivial
theorem head.tw8715499118904818895 : True := trivial
theorem head.tw10018764681926925449 : True := trivial
theorem head.tw10527494648118441489 : True := trivial
theorem head.tw11770459041652445329 : True := trivial
theorem head.tw7313386461004707312 : True := trivial
theorem head.tw4277651752456152607 : True := trivial
theorem head.tw2694075680205673411 : True := trivial
theorem head.tw1329897990629837498 : True := trivial
theorem head.tw13337238644230332656 : True := trivial
theorem head.tw10504981510240967646 : True := trivial
theorem head.tw1620002657737552111 : True := trivial
theorem head.tw14699528089545365996 : True := trivial
theorem head.tw17905491414393134947 : True := trivial
theorem head.tw8758324158161630591 : True := trivial
theorem head.tw10786079294511566085 : True := trivial
theorem head.tw11426403942048686318 : True := trivial
theorem head.tw13689084217373910675 : True := trivial
theorem head.tw4709128311485490483 : True := trivial
theorem head.tw9074772780463953568 : True := trivial
theorem head.tw15807379234759093331 : True := trivial
theorem head.tw12858780395421280599 : True := trivial
theorem head.tw14393718171448925343 : True := trivial
theorem head.tw2355103038987944067 : True := trivial
theorem head.tw11308087075614649832 : True := trivial
theorem head.tw15841401105113185080 : True := trivial
theorem head.tw9515422150858430662 : True := trivial
theorem head.tw10668533816033670360 : True := trivial
theorem head.tw3547030090768783262 : True := trivial
theorem head.tw15706118173409862346 : True := trivial
theorem head.tw9580849606507262825 : True := trivial
theorem head.tw1319983325249436295 : True := trivial
theorem head.tw15253846138512369154 : True := trivial
theorem head.tw1499353310998574721 : True := trivial
theorem head.tw8534208459206503383 : True := trivial
theorem head.tw16128420640991077102 : True := trivial
theorem head.tw11290360913936777911 : True := trivial
theorem head.tw8866670633112419022 : True := trivial
theorem head.tw17525636777796739105 : True := trivial
theorem head.tw3973953319845086491 : True := trivial
theorem head.tw4839655697589452165 : True := trivial
theorem head.tw8101760021730824546 : True := trivial
theorem head.tw15064752311394979489 : True := trivial
theorem head.tw6202090305015876224 : True := trivial
theorem head.tw2491421050496283774 : True := trivial
theorem head.tw9592777112578238593 : True := trivial
theorem head.tw7394893122761556724 : True := trivial
theorem head.tw10258521583956687137 : True := trivial
theorem head.tw1107278376722662056 : True := trivial
theorem head.tw497287684792784471 : True := trivial
theorem head.tw16782820856776367440 : True := trivial
theorem head.tw4857777746444614323 : True := trivial
theorem head.tw3980653432952411973 : True := trivial
theorem head.tw15895551434495452948 : True := trivial
theorem head.tw8185714761375850791 : True := trivial
theorem head.tw17014734716931888790 : True := trivial
theorem head.tw5906749814970224870 : True := trivial
theorem head.tw3547240966391284428 : True := trivial
theorem head.tw8904842690337714185 : True := trivial
theorem head.tw7815847008606169339 : True := trivial
theorem head.tw17093656651364094606 : True := trivial
theorem head.tw15149402430504572791 : True := trivial
theorem head.tw16847831306532103052 : True := trivial
theorem head.tw14843749296085226474 : True := trivial
theorem head.tw14205479233844494046 : True := trivial
theorem head.tw2340069552987342377 : True := trivial
theorem head.tw8997269238129315039 : True := trivial
theorem head.tw8476099583838051002 : True := trivial
theorem head.tw10010264046613662565 : True := trivial
theorem head.tw11989263589944627863 : True := trivial
theorem head.tw8912104118211102971 : True := trivial
theorem head.tw15410735652082386980 : True := trivial
theorem head.tw17411354535832351560 : True := trivial
theorem head.tw1315816938146588887 : True := trivial
theorem head.tw6737735255597943219 : True := trivial
theorem head.tw2154566216772986472 : True := trivial
theorem head.tw11434997419882176723 : True := trivial
theorem head.tw16031315777459398524 : True := trivial
theorem head.tw12921858870386250864 : True := trivial
theorem head.tw3103639331685909893 : True := trivial
theorem head.tw9101448428047585222 : True := trivial
theorem head.tw2529948359932261575 : True := trivial
theorem head.tw1211024037004892549 : True := trivial
theorem head.tw7119846925741900413 : True := trivial
theorem head.tw15506723302920939300 : True := trivial
theorem head.tw12264792733140247891 : True := trivial
theorem head.tw17015032458148788900 : True := trivial
theorem head.tw13199516396595161752 : True := trivial
theorem head.tw820421773197932041 : True := trivial
theorem head.tw9950410520057996621 : True := trivial
theorem head.tw13585267454733459922 : True := trivial
theorem head.tw9658139154387788515 : True := trivial
theorem head.tw3496171461512900480 : True := trivial
theorem head.tw3649914351005859508 : True := trivial
theorem head.tw14417885227837004991 : True := trivial
theorem head.tw15510365090734361527 : True := trivial
theorem head.tw357486453476387696 : True := trivial
theorem head.tw8867958776103325878 : True := trivial
set_option Elab.async true
theorem head : PySem.Challenge.rw_ln0030_01.Holds := by
  refine holds_law (by kernel_rfl) fun said => ?_
  w_on
  o_head H0
  case hw => w_witness2
  case hc =>
  w_top off
  intro w s₀ s₁ mg mb G Y fa o pm cd doc dV kV ho hd' hcd hD hmg hg args vals as hpre hlay hrd hwl hlo
  have X' : (hd.heap_1 w.params).In s₁.heap := Y
  refine Ground.open G ?_
  intro T0 B D TE TW
  have T : Top view0 LO (ExcName.means s₀.heap) mg mb s₁.heap := T0
  clear T0 B D TE TW
  wrow_args hpre hlay hrd hwl hlo
  rename_i ns hs hlay0 hL1 hr1 hl2 as1 as2 l vs as3 hL ra w1 r0 hI hr hcond hcond2
  refine wpC_call ?_
  have he := Dflts.none hD rfl
  subst he
  refine call_fullC (binds := [(Str.ofString "script", .ref l)]) (by decide) ho hd' (Top.nolimit T) hcd (BindsTo.of_eq rfl) (locs rfl) fun h₁ F => ?_
  have B' := below_caller s₁.heap
  have N : News s₁.heap s₁.heap.objs.size h₁ [] := fun _ hp => nomatch hp
  clear hd' hcd hD hmg
  have hbits := lay_bits hL1
  have hbits2 : ∀ a ∈ [-9] ++ List.take (min 9 ns.length - 3) (List.drop 3 ns), Builtin.Int.intBits a ≤ 2 ^ 20 := by
    intro a ha
    rcases List.mem_append.mp ha with ha | ha
    · rw [List.mem_singleton.mp ha]; exact Nat.le_trans (show Builtin.Int.intBits (-9) ≤ 4 by decide +kernel) (by decide)
    · exact hbits a (List.mem_of_mem_drop (List.mem_of_mem_take ha))
  have hlen2 : ([-9] ++ List.take (min 9 ns.length - 3) (List.drop 3 ns)).length ≤ 7 := by
    rw [List.length_append, List.length_singleton]
    have := List.length_take_le (min 9 ns.length - 3) (List.drop 3 ns)
    omega
  refine execsA ?_
  k_steps
  refine stop_out ?_
  rename IntsAre _ (List.take 6 ns) => hIone
  refine Spec.use (stirred_spec _ _ _ _ 0 hIone (fun a ha => hbits a (List.mem_of_mem_take ha)) (Nat.le_trans (List.length_take_le _ _) (by decide))) (by k_asm) (by k_asm) (by k_asm) (by k_asm) (by k_asm) rfl rfl (Nat.le_of_ble_eq_true rfl) (Nat.le_of_ble_eq_true rfl) rfl (by walk_at "mine need") ?_
  intro r9 tl9 h9 tk9 F9 N9 A9 P9
  obtain ⟨e1, one, tone, e2, _⟩ := P9
  subst e1; subst e2
  simp only [List.nil_append] at N9
  clear A9
  (try k_sweep)
  k_steps
  dsimp only
  refine execsA ?_
  k_steps
  refine stop_out ?_
  rename IntsAre _ ([-9] ++ List.take (min 9 ns.length - 3) (List.drop 3 ns)) => hItwo
  refine Spec.use (stirred_spec _ _ _ _ 0 hItwo hbits2 hlen2) (by k_asm) (by k_asm) (by k_asm) (by k_asm) (by k_asm) rfl rfl (Nat.le_of_ble_eq_true rfl) (Nat.le_of_ble_eq_true rfl) rfl (by walk_at "mine need") ?_
  intro r9 tl9 h9 tk9 F9 N9 A9 P9
  obtain ⟨e1, two, ttwo, e2, _⟩ := P9
  subst e1; subst e2
  simp only [List.nil_append] at N9
  clear A9
  (try k_sweep)
  k_steps
  dsimp only
  replace N9 := kst_newsOf (l' := []) (by assumption) sub_nil
  refine execsC (forC ?_)
  k_steps
  rename_i P1 hP1 l1a P2 hP2 l1b P3 hP3 l1c LL hLL FL NL lL
  refine iter_listC (vs := [.ref P1, .ref P2, .ref P3]) (n := 0) (lo := listOf #[.ref P1, .ref P2, .ref P3] 0) rfl FL NL (by k_mem) rfl rfl fun I hI => ?_
  k_lt hI
  clear FL NL
  intro it h2 tk2 hic F2 N2
  k_steps
  refine execsC (ifC (notC ?_))
  refine callFnH (K := hd.heap_1 w.params) (f := 269) rfl ?_
  k_steps
  refine halt ⟨rfl, ?_⟩
  k_steps
  refine halt ⟨X'.keeps (Fr.keep (by k_asm)), ?_⟩
  refine SpecC.use (same_spec _ Kind.u8 1 _ _ _ _ _ rfl) (by k_asm) (by k_asm) (by k_asm) (by k_asm) (by k_asm) rfl rfl (Nat.le_of_ble_eq_true rfl) (Nat.le_of_ble_eq_true rfl) rfl (by walk_at "mine need") ?_
  intro r9 tl9 h9 tk9 F9 N9 A9 P9
  obtain ⟨e1, e2⟩ := P9
  subst e1; subst e2
  simp only [List.nil_append] at N9
  clear A9
  (try k_sweep)
  k_steps
  refine execsC_nil ?_
  dsimp only
  refine execsC_nil ?_
  show UnrEnd _ _ _ _ _ _ _
  refine' UnrEnd.intro3 (by k_asm) (by k_asm) [(LL, _), (P3, _), (P2, _), (P1, _)] ?cI (subL_of ?cS) ?co ⟨by k_mem, ?_⟩
  (case cI => k_mem)
  (case cS => walk_at "mine need")
  (case co => exact ⟨.inl (Nat.ne_of_lt hI.1), .inl (Nat.ne_of_lt hI.2.1), .inl (Nat.ne_of_lt hI.2.2.1), .inl (Nat.ne_of_lt hI.2.2.2), trivial⟩)
  intro it h2 tk2 hic F2 N2
  k_steps
  refine execsC (ifC (notC ?_))
  refine callFnH (K := hd.heap_1 w.params) (f := 269) rfl ?_
  k_steps
  refine halt ⟨rfl, ?_⟩
  k_steps
  refine halt ⟨X'.keeps (Fr.keep (by k_asm)), ?_⟩
  refine SpecC.use (same_spec _ Kind.u16 2 _ _ _ _ _ rfl) (by k_asm) (by k_asm) (by k_asm) (by k_asm) (by k_asm) rfl rfl (Nat.le_of_ble_eq_true rfl) (Nat.le_of_ble_eq_true rfl) rfl (by walk_at "mine need") ?_
  intro r9 tl9 h9 tk9 F9 N9 A9 P9
  obtain ⟨e1, e2⟩ := P9
  subst e1; subst e2
  simp only [List.nil_append] at N9
  clear A9
  (try k_sweep)
  k_steps
  refine execsC_nil ?_
  dsimp only
  refine execsC_nil ?_
  show UnrEnd _ _ _ _ _ _ _
  refine' UnrEnd.intro3 (by k_asm) (by k_asm) [(LL, _), (P3, _), (P2, _), (P1, _)] ?cI (subL_of ?cS) ?co ⟨by k_mem, ?_⟩
  (case cI => k_mem)
  (case cS => walk_at "mine need")
  (case co => exact ⟨.inl (Nat.ne_of_lt hI.1), .inl (Nat.ne_of_lt hI.2.1), .inl (Nat.ne_of_lt hI.2.2.1), .inl (Nat.ne_of_lt hI.2.2.2), trivial⟩)
  intro it h2 tk2 hic F2 N2
  k_steps
  refine execsC (ifC (notC ?_))
  refine callFnH (K := hd.heap_1 w.params) (f := 269) rfl ?_
  k_steps
  refine halt ⟨rfl, ?_⟩
  k_steps
  refine halt ⟨X'.keeps (Fr.keep (by k_asm)), ?_⟩
  refine SpecC.use (same_spec _ Kind.u64 8 _ _ _ _ _ rfl) (by k_asm) (by k_asm) (by k_asm) (by k_asm) (by k_asm) rfl rfl (Nat.le_of_ble_eq_true rfl) (Nat.le_of_ble_eq_true rfl) rfl (by walk_at "mine need") ?_
  intro r9 tl9 h9 tk9 F9 N9 A9 P9
  obtain ⟨e1, e2⟩ := P9
  subst e1; subst e2
  simp only [List.nil_append] at N9
  clear A9
  (try k_sweep)
  k_steps
  refine execsC_nil ?_
  dsimp only
  refine execsC_nil ?_
  show UnrEnd _ _ _ _ _ _ _
  refine' UnrEnd.intro3 (by k_asm) (by k_asm) [(LL, _), (P3, _), (P2, _), (P1, _)] ?cI (subL_of ?cS) ?co ⟨by k_mem, ?_⟩
  (case cI => k_mem)
  (case cS => walk_at "mine need")
  (case co => exact ⟨.inl (Nat.ne_of_lt hI.1), .inl (Nat.ne_of_lt hI.2.1), .inl (Nat.ne_of_lt hI.2.2.1), .inl (Nat.ne_of_lt hI.2.2.2), trivial⟩)
  intro h2 tk2 F2 N2
  dsimp only
  refine wpC_any ?_
  k_steps
  show GoodWG _ _ _ _ _ (.ok (.ret (.bool true))) _
  refine GoodW.toG ⟨.inl ⟨.bool true, .bool true, [], rfl, ?raises, ?reads, ?post, fun _ => ⟨List.nodup_nil, fun _ h => nomatch h⟩⟩, F2.keep, rfl, hg⟩
  case raises => intro cls; rfl
  case reads => exact .bool _
  case post => exact law_post _
end
end
end Mine
theorem PySem.Challenge.cw_ln0030_01_holds : PySem.Challenge.rw_ln0030_01.Holds :=
  Mine.head
