import PyProof.Rows.All
import Wide.All
import OpenK.AllK
import Wide.FinOn
import PySem.Challenge.RW_mj0087_01
open PySem PySem.W PyProof.Rows
set_option Elab.async false
set_option maxRecDepth 100000
set_option maxHeartbeats 8000000
set_option linter.unusedVariables false
set_option linter.unusedSimpArgs false
namespace Mine
open_top hd for PySem.Challenge.rw_mj0087_01
section
variable {prog : Program} {w : World} {A : Around} {E : Value → Shared → Prop} {s : Shared} {Q : Value → Shared → Prop} {t u : Tok}
theorem pow63 (h : Q (.int 9223372036854775808 s.toks) { s with toks := s.toks + 1 }) :
    wpAny (model prog w) A (binaryOp .Pow (.int 2 t) (.int 63 u)) Q E s :=
  pow_int_small (by decide) (by decide) (by decide) h
theorem pow64 (h : Q (.int 18446744073709551616 s.toks) { s with toks := s.toks + 1 }) :
    wpAny (model prog w) A (binaryOp .Pow (.int 2 t) (.int 64 u)) Q E s :=
  pow_int_small (by decide) (by decide) (by decide) h
end
/-- no run takes a token back -/
theorem runs_toks {M : Model} {Γ : Ctx} {p : Pos} {t : Sem Fin} {fs : List Frame} {s s' : Shared} {e : End} (h : Runs M Γ p t fs s e s') : s.toks ≤ s'.toks := by
  induction h <;> (try simp only [Shared.setGen] at *) <;> first | exact Nat.le_refl _ | assumption | omega
theorem wp_toks {α : Type} {M : Model} {Γ : Ctx} {c : Nat} (t : Sem α) : ∀ {Q : α → Pos → Shared → Prop} {E : Value → Pos → Shared → Prop} {p : Pos} {s : Shared}, c ≤ s.toks →
    Sem.wp M Γ t (fun a p' s' => c ≤ s'.toks → Q a p' s') E p s → Sem.wp M Γ t Q E p s := by
  induction t with
  | pure a => intro Q E p s hc h; exact h hc
  | raise e => intro Q E p s hc h; exact h
  | unsupported _ => intro Q E p s hc h; exact h
  | finish _ => intro Q E p s hc h; exact h
  | rule _ k ih => intro Q E p s hc h; exact ih () hc h
  | «at» p' k ih => intro Q E p s hc h; exact ih () hc h
  | load a _ k ih => intro Q E p s hc h; obtain ⟨o, ho, h⟩ := h; exact ⟨o, ho, ih o hc h⟩
  | update a _ f k ih => intro Q E p s hc h; exact ⟨h.1, ih () (s := { s with heap := s.heap.update a f }) hc h.2⟩
  | loadIfAlive a k ih => intro Q E p s hc h; exact ih _ hc h
  | point _ k ih => intro Q E p s hc h; exact ih () hc h
  | register _ _ => intro Q E p s hc h; exact h
  | alloc o k ih => intro Q E p s hc h; exact ih _ (s := { s with heap := s.heap.push o }) hc h
  | fresh k ih => intro Q E p s hc h; exact ih _ (s := { s with toks := s.toks + 1 }) (Nat.le_succ_of_le hc) h
  | ask k ih => intro Q E p s hc h; exact ih _ hc h
  | choose src n k ih => intro Q E p s hc h; exact ⟨h.1, ih _ (s := { s with drawn := s.drawn.bump src }) hc h.2⟩
  | os q _ k ih => intro Q E p s hc h; exact ih _ (s := { s with os := (Os.step s.os q).1 }) hc h
  | call c' hd _ _ k ih =>
    intro Q E p s hc h
    obtain ⟨r, s', hr, h⟩ := h
    exact ⟨r, s', hr, ih r (Nat.le_trans hc (runs_toks hr)) h⟩
  | handled own k ih => intro Q E p s hc h; exact ih _ hc h
  | genState g k ih => intro Q E p s hc h; obtain ⟨st, hs, h⟩ := h; exact ⟨st, hs, ih _ hc h⟩
  | newGen c' k ih => intro Q E p s hc h; exact ih _ (s := { s with gens := s.gens.push (.fresh c') }) hc h
  | resume g r _ k ih =>
    intro Q E p s hc h
    obtain ⟨res, s', hw, h⟩ := h
    refine ⟨res, s', hw, ih res (Nat.le_trans hc ?_) h⟩
    unfold Wakes at hw
    split at hw
    · exact hw.elim
    · split at hw
      · obtain ⟨e₁, s₁, hr, _, _, rfl⟩ := hw; have hle := runs_toks hr; exact hle
      · obtain ⟨_, rfl⟩ := hw; exact Nat.le_refl _
      · obtain ⟨_, rfl⟩ := hw; exact Nat.le_refl _
    · obtain ⟨e₁, s₁, hr, _, _, rfl⟩ := hw; have hle := runs_toks hr; exact hle
    · obtain ⟨_, rfl⟩ := hw; exact Nat.le_refl _
    · obtain ⟨_, rfl⟩ := hw; exact Nat.le_refl _
  | yield _ _ _ _ => intro Q E p s hc h; exact h
  | stack k ih => intro Q E p s hc h; exact ih _ hc h
  | fork => intro Q E p s hc h; exact h
  | thread k ih => intro Q E p s hc h; exact ih _ hc h
  | await => intro Q E p s hc h; exact h
theorem posQ {α : Type} {M : Model} {A : Around} {t : Sem α} {Q : α → Shared → Prop} {E : Value → Shared → Prop} {s : Shared} (hp : 0 < s.toks)
    (h : wpAny M A t (fun a s' => 0 < s'.toks → Q a s') E s) : wpAny M A t Q E s :=
  fun Γ p hΓ => wp_toks t hp (h Γ p hΓ)
/-- the tokens' number as a letter, more than nought -/
theorem genT {α : Type} {M : Model} {A : Around} {t : Sem α} {Q : α → Shared → Prop} {E : Value → Shared → Prop} {h : Heap} {g : Array GenState} {d : Drawn} {X : Nat} {o : OsState} (hp : 0 < X)
    (k : ∀ tk, 0 < tk → wpAny M A t Q E ⟨h, g, d, tk, o⟩) : wpAny M A t Q E ⟨h, g, d, X, o⟩ := k X hp
/-- the floats of the law, each by whole numbers -/
def hueF (n : Int) : UInt64 := Float64.ofFrac (decide (n < 0)) n.natAbs 32
def h6F (n : Int) : UInt64 := Float64.ofFrac (decide (n < 0)) (3 * n.natAbs) 16
def frF (e : Int) : UInt64 := Float64.ofFrac (decide (e < 0)) e.natAbs 16
def satF (q : Int) : UInt64 := Float64.ofFrac (decide (q < 0)) q.natAbs 4
def valF (b : Int) : UInt64 := Float64.ofFrac (decide (b < 0)) b.natAbs 2
def m1F (q e : Int) : UInt64 := Float64.ofFrac false (q * e).natAbs 64
def c1F (q f : Int) : UInt64 := Float64.ofFrac false (64 - q * f).natAbs 64
def compF (b q f : Int) : UInt64 := Float64.ofFrac false (b * (64 - q * f)).natAbs 128
def rngF (b q : Int) : UInt64 := Float64.ofFrac false (b * q).natAbs 8

theorem up1 {N : Nat} {P : Int → Prop} (h : ∀ k < N, P (k : Int)) (n : Int) (h0 : 0 ≤ n) (h1 : n < N) : P n := by
  obtain ⟨k, rfl⟩ := Int.eq_ofNat_of_zero_le h0
  exact h k (by omega)
theorem up1s {N : Nat} {c : Int} {P : Int → Prop} (h : ∀ k < N, P ((k : Int) - c)) (n : Int) (h0 : -c ≤ n) (h1 : n < N - c) : P n := by
  have := up1 (P := fun m => P (m - c)) h (n + c) (by omega) (by omega)
  simpa using this
theorem up2 {N M : Nat} {P : Int → Int → Prop} (h : ∀ k < N, ∀ l < M, P k l) (n m : Int) (h0 : 0 ≤ n) (h1 : n < N) (h2 : 0 ≤ m) (h3 : m < M) : P n m :=
  up1 (P := fun n => P n m) (fun k hk => up1 (P := fun m => P k m) (h k hk) m h2 h3) n h0 h1
theorem up3 {N M K : Nat} {P : Int → Int → Int → Prop} (h : ∀ k < N, ∀ l < M, ∀ j < K, P k l j) (n m o : Int) (h0 : 0 ≤ n) (h1 : n < N) (h2 : 0 ≤ m) (h3 : m < M) (h4 : 0 ≤ o) (h5 : o < K) : P n m o :=
  up1 (P := fun n => P n m o) (fun k hk => up2 (P := fun m o => P k m o) (h k hk) m o h2 h3 h4 h5) n h0 h1

theorem upa {N : Nat} {c : Int} {P : Int → Prop} (h : ∀ k : Nat, k < N → P ((k : Int) + c)) (n : Int) (h0 : c ≤ n) (h1 : n < N + c) : P n := by
  have := up1 (P := fun m => P (m + c)) h (n - c) (by omega) (by omega)
  simpa using this
theorem hue_mul6_a : ∀ k : Nat, k < 108 → (fun n : Int => Float64.mul (hueF n) 0x4018000000000000 = h6F n) ((k : Int) + 0) := by decide +kernel
theorem hue_mul6_b : ∀ k : Nat, k < 108 → (fun n : Int => Float64.mul (hueF n) 0x4018000000000000 = h6F n) ((k : Int) + 108) := by decide +kernel
theorem hue_mul6_c : ∀ k : Nat, k < 108 → (fun n : Int => Float64.mul (hueF n) 0x4018000000000000 = h6F n) ((k : Int) + 216) := by decide +kernel
theorem hue_mul6_d : ∀ k : Nat, k < 108 → (fun n : Int => Float64.mul (hueF n) 0x4018000000000000 = h6F n) ((k : Int) + 324) := by decide +kernel
theorem hue_mul6_e : ∀ k : Nat, k < 108 → (fun n : Int => Float64.mul (hueF n) 0x4018000000000000 = h6F n) ((k : Int) + 432) := by decide +kernel
theorem hue_mul6_f : ∀ k : Nat, k < 108 → (fun n : Int => Float64.mul (hueF n) 0x4018000000000000 = h6F n) ((k : Int) + 540) := by decide +kernel
theorem hue_mul6_g : ∀ k : Nat, k < 108 → (fun n : Int => Float64.mul (hueF n) 0x4018000000000000 = h6F n) ((k : Int) + 648) := by decide +kernel
theorem hue_mul6_h : ∀ k : Nat, k < 107 → (fun n : Int => Float64.mul (hueF n) 0x4018000000000000 = h6F n) ((k : Int) + 756) := by decide +kernel
theorem hue_mul6 (n : Int) (h0 : 0 ≤ n) (h1 : n < 863) : Float64.mul (hueF n) 0x4018000000000000 = h6F n := by
  by_cases c0 : n < 108
  · exact upa (N := 108) (c := 0) (P := fun n : Int => Float64.mul (hueF n) 0x4018000000000000 = h6F n) hue_mul6_a n (by omega) (by omega)
  by_cases c1 : n < 216
  · exact upa (N := 108) (c := 108) (P := fun n : Int => Float64.mul (hueF n) 0x4018000000000000 = h6F n) hue_mul6_b n (by omega) (by omega)
  by_cases c2 : n < 324
  · exact upa (N := 108) (c := 216) (P := fun n : Int => Float64.mul (hueF n) 0x4018000000000000 = h6F n) hue_mul6_c n (by omega) (by omega)
  by_cases c3 : n < 432
  · exact upa (N := 108) (c := 324) (P := fun n : Int => Float64.mul (hueF n) 0x4018000000000000 = h6F n) hue_mul6_d n (by omega) (by omega)
  by_cases c4 : n < 540
  · exact upa (N := 108) (c := 432) (P := fun n : Int => Float64.mul (hueF n) 0x4018000000000000 = h6F n) hue_mul6_e n (by omega) (by omega)
  by_cases c5 : n < 648
  · exact upa (N := 108) (c := 540) (P := fun n : Int => Float64.mul (hueF n) 0x4018000000000000 = h6F n) hue_mul6_f n (by omega) (by omega)
  by_cases c6 : n < 756
  · exact upa (N := 108) (c := 648) (P := fun n : Int => Float64.mul (hueF n) 0x4018000000000000 = h6F n) hue_mul6_g n (by omega) (by omega)
  exact upa (N := 107) (c := 756) (P := fun n : Int => Float64.mul (hueF n) 0x4018000000000000 = h6F n) hue_mul6_h n (by omega) (by omega)
theorem h6_int_a : ∀ k : Nat, k < 432 → (fun n : Int => Flt.toInt Float64.truncOf (h6F n) = 3 * n / 16) ((k : Int) + 0) := by decide +kernel
theorem h6_int_b : ∀ k : Nat, k < 431 → (fun n : Int => Flt.toInt Float64.truncOf (h6F n) = 3 * n / 16) ((k : Int) + 432) := by decide +kernel
theorem h6_int (n : Int) (h0 : 0 ≤ n) (h1 : n < 863) : Flt.toInt Float64.truncOf (h6F n) = 3 * n / 16 := by
  by_cases c0 : n < 432
  · exact upa (N := 432) (c := 0) (P := fun n : Int => Flt.toInt Float64.truncOf (h6F n) = 3 * n / 16) h6_int_a n (by omega) (by omega)
  exact upa (N := 431) (c := 432) (P := fun n : Int => Flt.toInt Float64.truncOf (h6F n) = 3 * n / 16) h6_int_b n (by omega) (by omega)
theorem h6_fin_a : ∀ k : Nat, k < 432 → (fun n : Int => Float64.isFinite (h6F n) = true) ((k : Int) + 0) := by decide +kernel
theorem h6_fin_b : ∀ k : Nat, k < 431 → (fun n : Int => Float64.isFinite (h6F n) = true) ((k : Int) + 432) := by decide +kernel
theorem h6_fin (n : Int) (h0 : 0 ≤ n) (h1 : n < 863) : Float64.isFinite (h6F n) = true := by
  by_cases c0 : n < 432
  · exact upa (N := 432) (c := 0) (P := fun n : Int => Float64.isFinite (h6F n) = true) h6_fin_a n (by omega) (by omega)
  exact upa (N := 431) (c := 432) (P := fun n : Int => Float64.isFinite (h6F n) = true) h6_fin_b n (by omega) (by omega)
theorem h6_sub_a : ∀ k : Nat, k < 108 → (fun n : Int => Float64.sub (h6F n) (Float64.ofInt (3 * n / 16)) = frF (3 * n % 16)) ((k : Int) + 0) := by decide +kernel
theorem h6_sub_b : ∀ k : Nat, k < 108 → (fun n : Int => Float64.sub (h6F n) (Float64.ofInt (3 * n / 16)) = frF (3 * n % 16)) ((k : Int) + 108) := by decide +kernel
theorem h6_sub_c : ∀ k : Nat, k < 108 → (fun n : Int => Float64.sub (h6F n) (Float64.ofInt (3 * n / 16)) = frF (3 * n % 16)) ((k : Int) + 216) := by decide +kernel
theorem h6_sub_d : ∀ k : Nat, k < 108 → (fun n : Int => Float64.sub (h6F n) (Float64.ofInt (3 * n / 16)) = frF (3 * n % 16)) ((k : Int) + 324) := by decide +kernel
theorem h6_sub_e : ∀ k : Nat, k < 108 → (fun n : Int => Float64.sub (h6F n) (Float64.ofInt (3 * n / 16)) = frF (3 * n % 16)) ((k : Int) + 432) := by decide +kernel
theorem h6_sub_f : ∀ k : Nat, k < 108 → (fun n : Int => Float64.sub (h6F n) (Float64.ofInt (3 * n / 16)) = frF (3 * n % 16)) ((k : Int) + 540) := by decide +kernel
theorem h6_sub_g : ∀ k : Nat, k < 108 → (fun n : Int => Float64.sub (h6F n) (Float64.ofInt (3 * n / 16)) = frF (3 * n % 16)) ((k : Int) + 648) := by decide +kernel
theorem h6_sub_h : ∀ k : Nat, k < 107 → (fun n : Int => Float64.sub (h6F n) (Float64.ofInt (3 * n / 16)) = frF (3 * n % 16)) ((k : Int) + 756) := by decide +kernel
theorem h6_sub (n : Int) (h0 : 0 ≤ n) (h1 : n < 863) : Float64.sub (h6F n) (Float64.ofInt (3 * n / 16)) = frF (3 * n % 16) := by
  by_cases c0 : n < 108
  · exact upa (N := 108) (c := 0) (P := fun n : Int => Float64.sub (h6F n) (Float64.ofInt (3 * n / 16)) = frF (3 * n % 16)) h6_sub_a n (by omega) (by omega)
  by_cases c1 : n < 216
  · exact upa (N := 108) (c := 108) (P := fun n : Int => Float64.sub (h6F n) (Float64.ofInt (3 * n / 16)) = frF (3 * n % 16)) h6_sub_b n (by omega) (by omega)
  by_cases c2 : n < 324
  · exact upa (N := 108) (c := 216) (P := fun n : Int => Float64.sub (h6F n) (Float64.ofInt (3 * n / 16)) = frF (3 * n % 16)) h6_sub_c n (by omega) (by omega)
  by_cases c3 : n < 432
  · exact upa (N := 108) (c := 324) (P := fun n : Int => Float64.sub (h6F n) (Float64.ofInt (3 * n / 16)) = frF (3 * n % 16)) h6_sub_d n (by omega) (by omega)
  by_cases c4 : n < 540
  · exact upa (N := 108) (c := 432) (P := fun n : Int => Float64.sub (h6F n) (Float64.ofInt (3 * n / 16)) = frF (3 * n % 16)) h6_sub_e n (by omega) (by omega)
  by_cases c5 : n < 648
  · exact upa (N := 108) (c := 540) (P := fun n : Int => Float64.sub (h6F n) (Float64.ofInt (3 * n / 16)) = frF (3 * n % 16)) h6_sub_f n (by omega) (by omega)
  by_cases c6 : n < 756
  · exact upa (N := 108) (c := 648) (P := fun n : Int => Float64.sub (h6F n) (Float64.ofInt (3 * n / 16)) = frF (3 * n % 16)) h6_sub_g n (by omega) (by omega)
  exact upa (N := 107) (c := 756) (P := fun n : Int => Float64.sub (h6F n) (Float64.ofInt (3 * n / 16)) = frF (3 * n % 16)) h6_sub_h n (by omega) (by omega)
theorem hue_div (n : Int) (h0 : 0 ≤ n) (h1 : n < 863) : Float64.ofFrac (decide (n < 0) != decide ((32 : Int) < 0)) n.natAbs (32 : Int).natAbs = hueF n := by
  simp [hueF]
theorem one_sat (q : Int) (h0 : 0 ≤ q) (h1 : q < 5) : Float64.sub 0x3FF0000000000000 (satF q) = c1F q 16 :=
  up1 (N := 5) (P := fun q => Float64.sub 0x3FF0000000000000 (satF q) = c1F q 16) (by decide +kernel) q h0 h1
theorem val_c1 (b q f : Int) (h0 : 0 ≤ b) (h1 : b < 3) (h2 : 0 ≤ q) (h3 : q < 5) (h4 : 0 ≤ f) (h5 : f < 17) : Float64.mul (valF b) (c1F q f) = compF b q f :=
  up3 (N := 3) (M := 5) (K := 17) (P := fun b q f => Float64.mul (valF b) (c1F q f) = compF b q f) (by decide +kernel) b q f h0 h1 h2 h3 h4 h5
theorem sat_fr (q e : Int) (h2 : 0 ≤ q) (h3 : q < 5) (h4 : 0 ≤ e) (h5 : e < 17) : Float64.mul (satF q) (frF e) = m1F q e :=
  up2 (N := 5) (M := 17) (P := fun q e => Float64.mul (satF q) (frF e) = m1F q e) (by decide +kernel) q e h2 h3 h4 h5
theorem one_m1 (q e : Int) (h2 : 0 ≤ q) (h3 : q < 5) (h4 : 0 ≤ e) (h5 : e < 17) : Float64.sub 0x3FF0000000000000 (m1F q e) = c1F q e :=
  up2 (N := 5) (M := 17) (P := fun q e => Float64.sub 0x3FF0000000000000 (m1F q e) = c1F q e) (by decide +kernel) q e h2 h3 h4 h5
theorem one_fr (e : Int) (h4 : 0 ≤ e) (h5 : e < 17) : Float64.sub 0x3FF0000000000000 (frF e) = frF (16 - e) :=
  up1 (N := 17) (P := fun e => Float64.sub 0x3FF0000000000000 (frF e) = frF (16 - e)) (by decide +kernel) e h4 h5
theorem sat_ne (q : Int) (h2 : 1 ≤ q) (h3 : q < 5) : (Float64.cmp (satF q) 0 == some Ordering.eq) = false :=
  up1s (N := 4) (c := -1) (P := fun q => (Float64.cmp (satF q) 0 == some Ordering.eq) = false) (by decide +kernel) q (by omega) (by omega)
theorem val_comp (b q : Int) (h0 : 0 ≤ b) (h1 : b < 3) (h2 : 0 ≤ q) (h3 : q < 5) : valF b = compF b q 0 :=
  up2 (N := 3) (M := 5) (P := fun b q => valF b = compF b q 0) (by decide +kernel) b q h0 h1 h2 h3
/-- how far a component has fallen: sixteenths of the saturation's share -/
def fall (n k : Int) : Int := min (max (min ((3 * n - 32 * k) % 96) (96 - (3 * n - 32 * k) % 96) - 16) 0) 16
theorem comp_eq {b q f g : Int} (h : f = g) : compF b q f = compF b q g := by rw [h]
theorem val_eq {b q g : Int} (h0 : 0 ≤ b) (h1 : b < 3) (h2 : 0 ≤ q) (h3 : q < 5) (h : 0 = g) : valF b = compF b q g := by rw [← h]; exact val_comp b q h0 h1 h2 h3
theorem fm6 (x : Int) : x.fmod 6 = x % 6 := Int.fmod_eq_emod_of_nonneg x (by decide)
section
variable {prog : Program} {w : World} {A : Around} {E : Value → Shared → Prop} {s : Shared} {Q : Value → Shared → Prop} {t u : Tok} {a b c : UInt64}
theorem eqFF {k : Bool} (hk : (Float64.cmp a b == some Ordering.eq) = k) (h : Q (.bool k) s) : wpAny (model prog w) A (compareOp .Eq (.float a t) (.float b u)) Q E s :=
  AutoFloatOps.eq_0 (by rw [hk]; exact h)
theorem mulFF (hk : Float64.mul a b = c) (h : Q (.float c s.toks) { s with toks := s.toks + 1 }) : wpAny (model prog w) A (binaryOp .Mult (.float a t) (.float b u)) Q E s :=
  mul_float (by rw [hk]; exact h)
theorem subFF (hk : Float64.sub a b = c) (h : Q (.float c s.toks) { s with toks := s.toks + 1 }) : wpAny (model prog w) A (binaryOp .Sub (.float a t) (.float b u)) Q E s :=
  sub_float (by rw [hk]; exact h)
theorem addFF (hk : Float64.add a b = c) (h : Q (.float c s.toks) { s with toks := s.toks + 1 }) : wpAny (model prog w) A (binaryOp .Add (.float a t) (.float b u)) Q E s :=
  add_float (by rw [hk]; exact h)
theorem subFI {n : Int} (hn : n.natAbs < 2 ^ 64) (hk : Float64.sub a (Float64.ofInt n) = c) (h : Q (.float c s.toks) { s with toks := s.toks + 1 }) : wpAny (model prog w) A (binaryOp .Sub (.float a t) (.int n u)) Q E s :=
  sub_fi_fits (Nat.lt_trans hn (Nat.pow_lt_pow_right (by decide) (by decide))) (by rw [hk]; exact h)
theorem mulFI {n : Int} (hn : n.natAbs < 2 ^ 64) (hk : Float64.mul a (Float64.ofInt n) = c) (h : Q (.float c s.toks) { s with toks := s.toks + 1 }) : wpAny (model prog w) A (binaryOp .Mult (.float a t) (.int n u)) Q E s :=
  mul_fi_fits (Nat.lt_trans hn (Nat.pow_lt_pow_right (by decide) (by decide))) (by rw [hk]; exact h)
theorem divFF (hA : A.handled = none) (hz : Float64.isZero b = false) (hk : Float64.div a b = c) (h : Q (.float c s.toks) { s with toks := s.toks + 1 }) : wpAny (model prog w) A (binaryOp .Div (.float a t) (.float b u)) Q E s :=
  truediv_float_or hA (fun h0 => absurd h0 (by rw [hz]; decide)) (fun _ => by rw [hk]; exact h)
theorem modFF (hA : A.handled = none) (hz : Float64.isZero b = false) (hk : (Float64.divmod a b).2 = c) (h : Q (.float c s.toks) { s with toks := s.toks + 1 }) : wpAny (model prog w) A (binaryOp .Mod (.float a t) (.float b u)) Q E s :=
  Flt.mod_ff hA (fun h0 => absurd h0 (by rw [hz]; decide)) (fun _ => by rw [hk]; exact h)
theorem divII {n m : Int} (hA : A.handled = none) (hm : m ≠ 0) (hn : n.natAbs < 2 ^ 64) (hk : Float64.ofFrac (decide (n < 0) != decide (m < 0)) n.natAbs m.natAbs = c) (h : Q (.float c s.toks) { s with toks := s.toks + 1 }) :
    wpAny (model prog w) A (binaryOp .Div (.int n t) (.int m u)) Q E s :=
  Flt.div_ii_fits hA (Nat.lt_trans hn (Nat.pow_lt_pow_right (by decide) (by decide))) (fun h0 => absurd h0 hm) (fun _ _ => by rw [hk]; exact h)
theorem intF {n : Int} (hf : Float64.isFinite a = true) (hk : Flt.toInt Float64.truncOf a = n) (h : Q (.int n s.toks) { s with toks := s.toks + 1 }) :
    wpAny (model prog w) A (call (.type "int") [.float a t]) Q E s := by
  rcases Flt.three a with ⟨hd, c⟩ | ⟨_, hd, c⟩ | ⟨sg, m, e, hd, c⟩
  · rw [Float64.isFinite, hd] at hf; simp at hf
  · rw [Float64.isFinite, hd] at hf; simp at hf
  · rw [Flt.toInt_fin hd] at hk
    exact call_int_float hd (by rw [hk]; exact h)
end
section
variable {prog : Program} {w : World} {A : Around} {E : Value → Shared → Prop} {s : Shared} {Q : Value → Shared → Prop}
theorem max3_num {a b c : Value} (hh : A.handled = none) (ha : Flt.NumV a) (hb : Flt.NumV b) (hc : Flt.NumV c)
    (h : ∀ h' tk, (∀ d o, s.heap.get? d = some o → h'.get? d = some o) → Q (if Flt.ltV a b then (if Flt.ltV b c then c else b) else (if Flt.ltV a c then c else a)) { s with heap := h', toks := tk }) :
    wpAny (model prog w) A (call (.builtin "max") [a, b, c]) Q E s := by
  have hT : (s.heap.push { cls := .type "tuple", data := .seq #[a, b, c] }).IsTuple s.heap.objs.size #[a, b, c] := ⟨_, Heap.get?_push_size _ rfl, rfl, 0, rfl⟩
  have hsz : (s.heap.push { cls := .type "tuple", data := .seq #[a, b, c] }).objs.size = s.heap.objs.size + 1 := Heap.size_push ..
  refine call_max_three (wpAny_pyIter_tuple hT ?_)
  refine ⟨_, [_, s.heap.objs.size], [_], _, _, _, _, rfl, Walks.tuple (A := A.in1) hh _ s.heap.objs.size (by rw [hsz]; exact Nat.ne_of_lt (Nat.lt_succ_self _)) #[a, b, c],
    ⟨⟨_, Heap.get?_push_size _ rfl, rfl, rfl⟩, hT.push _⟩, fun d hd => ?_, by simp, Flt.cmpOf_gt #[a, b, c] (by simp [ha, hb, hc]), fun v h' tk hP hk => ?_⟩
  · show d < ((s.heap.push _).push _).objs.size
    rw [Heap.size_push, hsz]
    simp only [List.mem_cons, List.not_mem_nil, or_false] at hd
    rcases hd with rfl | rfl
    · rw [hsz]; exact Nat.lt_succ_self _
    · exact Nat.lt_succ_of_lt (Nat.lt_succ_self _)
  · have hold : ∀ d o, s.heap.get? d = some o → h'.get? d = some o := fun d o e => by
      refine hk d o (fun hm => ?_) (Heap.get?_push_of_some _ (Heap.get?_push_of_some _ e))
      have hlt := Heap.lt_size e
      simp only [List.mem_cons, List.not_mem_nil, or_false] at hm
      rw [hm, hsz] at hlt
      exact Nat.lt_irrefl _ (Nat.lt_of_succ_lt hlt)
    have hv : v = (if Flt.ltV a b then (if Flt.ltV b c then c else b) else (if Flt.ltV a c then c else a)) := by
      cases h1 : Flt.ltV a b <;> cases h2 : Flt.ltV b c <;> cases h3 : Flt.ltV a c <;> simp [argBest, h1, h2, h3] at hP <;> simp [hP]
    rw [hv]
    exact h h' tk hold
theorem min3_num {a b c : Value} (hh : A.handled = none) (ha : Flt.NumV a) (hb : Flt.NumV b) (hc : Flt.NumV c)
    (h : ∀ h' tk, (∀ d o, s.heap.get? d = some o → h'.get? d = some o) → Q (if Flt.ltV b a then (if Flt.ltV c b then c else b) else (if Flt.ltV c a then c else a)) { s with heap := h', toks := tk }) :
    wpAny (model prog w) A (call (.builtin "min") [a, b, c]) Q E s := by
  have hT : (s.heap.push { cls := .type "tuple", data := .seq #[a, b, c] }).IsTuple s.heap.objs.size #[a, b, c] := ⟨_, Heap.get?_push_size _ rfl, rfl, 0, rfl⟩
  have hsz : (s.heap.push { cls := .type "tuple", data := .seq #[a, b, c] }).objs.size = s.heap.objs.size + 1 := Heap.size_push ..
  refine call_min_three (wpAny_pyIter_tuple hT ?_)
  refine ⟨_, [_, s.heap.objs.size], [_], _, _, _, _, rfl, Walks.tuple (A := A.in1) hh _ s.heap.objs.size (by rw [hsz]; exact Nat.ne_of_lt (Nat.lt_succ_self _)) #[a, b, c],
    ⟨⟨_, Heap.get?_push_size _ rfl, rfl, rfl⟩, hT.push _⟩, fun d hd => ?_, by simp, Flt.cmpOf_lt #[a, b, c] (by simp [ha, hb, hc]), fun v h' tk hP hk => ?_⟩
  · show d < ((s.heap.push _).push _).objs.size
    rw [Heap.size_push, hsz]
    simp only [List.mem_cons, List.not_mem_nil, or_false] at hd
    rcases hd with rfl | rfl
    · rw [hsz]; exact Nat.lt_succ_self _
    · exact Nat.lt_succ_of_lt (Nat.lt_succ_self _)
  · have hold : ∀ d o, s.heap.get? d = some o → h'.get? d = some o := fun d o e => by
      refine hk d o (fun hm => ?_) (Heap.get?_push_of_some _ (Heap.get?_push_of_some _ e))
      have hlt := Heap.lt_size e
      simp only [List.mem_cons, List.not_mem_nil, or_false] at hm
      rw [hm, hsz] at hlt
      exact Nat.lt_irrefl _ (Nat.lt_of_succ_lt hlt)
    have hv : v = (if Flt.ltV b a then (if Flt.ltV c b then c else b) else (if Flt.ltV c a then c else a)) := by
      cases h1 : Flt.ltV b a <;> cases h2 : Flt.ltV c b <;> cases h3 : Flt.ltV c a <;> simp [argBest, h1, h2, h3] at hP <;> simp [hP]
    rw [hv]
    exact h h' tk hold
theorem max3FF {x y z r : UInt64} {t u v : Tok} {h₀ : Heap} {L : Addr} {m : Str → Option Value} {news : List (Addr × Obj)} (hh : A.handled = none) (q1 : 0 < t) (q2 : 0 < u) (q3 : 0 < v) (F : Fr h₀ L s.heap m) (N : News h₀ L s.heap news)
    (hr : (if Float64.cmp x y == some .lt then (if Float64.cmp y z == some .lt then z else y) else (if Float64.cmp x z == some .lt then z else x)) = r)
    (h : ∀ h' tk v, 0 < v → Fr h₀ L h' m → News h₀ L h' news → Q (.float r v) { s with heap := h', toks := tk }) :
    wpAny (model prog w) A (call (.builtin "max") [.float x t, .float y u, .float z v]) Q E s := by
  refine max3_num hh (.float x t) (.float y u) (.float z v) fun h' tk kp => ?_
  have key := fun q hq => h h' tk q hq (F.grownK kp) (N.grown kp)
  rw [← hr] at key
  show Q (if Float64.cmp x y == some .lt then (if Float64.cmp y z == some .lt then Value.float z v else Value.float y u) else (if Float64.cmp x z == some .lt then Value.float z v else Value.float x t)) _
  cases h1 : Float64.cmp x y == some .lt <;> cases h2 : Float64.cmp y z == some .lt <;> cases h3 : Float64.cmp x z == some .lt <;> simp only [h1, h2, h3, if_true, if_false, Bool.false_eq_true] at key ⊢ <;> exact key _ (by assumption)
theorem min3FF {x y z r : UInt64} {t u v : Tok} {h₀ : Heap} {L : Addr} {m : Str → Option Value} {news : List (Addr × Obj)} (hh : A.handled = none) (q1 : 0 < t) (q2 : 0 < u) (q3 : 0 < v) (F : Fr h₀ L s.heap m) (N : News h₀ L s.heap news)
    (hr : (if Float64.cmp y x == some .lt then (if Float64.cmp z y == some .lt then z else y) else (if Float64.cmp z x == some .lt then z else x)) = r)
    (h : ∀ h' tk v, 0 < v → Fr h₀ L h' m → News h₀ L h' news → Q (.float r v) { s with heap := h', toks := tk }) :
    wpAny (model prog w) A (call (.builtin "min") [.float x t, .float y u, .float z v]) Q E s := by
  refine min3_num hh (.float x t) (.float y u) (.float z v) fun h' tk kp => ?_
  have key := fun q hq => h h' tk q hq (F.grownK kp) (N.grown kp)
  rw [← hr] at key
  show Q (if Float64.cmp y x == some .lt then (if Float64.cmp z y == some .lt then Value.float z v else Value.float y u) else (if Float64.cmp z x == some .lt then Value.float z v else Value.float x t)) _
  cases h1 : Float64.cmp y x == some .lt <;> cases h2 : Float64.cmp z y == some .lt <;> cases h3 : Float64.cmp z x == some .lt <;> simp only [h1, h2, h3, if_true, if_false, Bool.false_eq_true] at key ⊢ <;> exact key _ (by assumption)
end
def dF (b q f : Int) : UInt64 := Float64.ofFrac false (b * q * f).natAbs 128
theorem fall_mod (n k : Int) : fall (n % 32) k = fall n k := by
  have e : (3 * (n % 32) - 32 * k) % 96 = (3 * n - 32 * k) % 96 := by
    have h : 3 * n - 32 * k = (3 * (n % 32) - 32 * k) + 96 * (n / 32) := by omega
    rw [h, Int.add_mul_emod_self_left]
  unfold fall
  rw [e]
theorem fall_bd (n k : Int) : 0 ≤ fall n k ∧ fall n k < 17 := by unfold fall; omega
theorem upc {P : Int → Int → Int → Prop} (h : ∀ k : Nat, k < 32 → ∀ l < 4, ∀ j < 2, P (k : Int) ((l : Nat) + 1 : Int) ((j : Nat) + 1 : Int)) (n q b : Int) (h2 : 1 ≤ q) (h3 : q < 5) (h4 : 1 ≤ b) (h5 : b < 3) : P (n % 32) q b := by
  have := up3 (N := 32) (M := 4) (K := 2) (P := fun n q b => P n (q + 1) (b + 1)) h (n % 32) (q - 1) (b - 1) (by omega) (by omega) (by omega) (by omega) (by omega) (by omega)
  simpa using this
theorem max_comp (n q b : Int) (h2 : 1 ≤ q) (h3 : q < 5) (h4 : 1 ≤ b) (h5 : b < 3) :
    (if Float64.cmp (compF b q (fall n 0)) (compF b q (fall n 1)) == some .lt then (if Float64.cmp (compF b q (fall n 1)) (compF b q (fall n 2)) == some .lt then compF b q (fall n 2) else compF b q (fall n 1)) else (if Float64.cmp (compF b q (fall n 0)) (compF b q (fall n 2)) == some .lt then compF b q (fall n 2) else compF b q (fall n 0))) = valF b := by
  rw [← fall_mod n 0, ← fall_mod n 1, ← fall_mod n 2]
  exact upc (P := fun n q b => (if Float64.cmp (compF b q (fall n 0)) (compF b q (fall n 1)) == some .lt then (if Float64.cmp (compF b q (fall n 1)) (compF b q (fall n 2)) == some .lt then compF b q (fall n 2) else compF b q (fall n 1)) else (if Float64.cmp (compF b q (fall n 0)) (compF b q (fall n 2)) == some .lt then compF b q (fall n 2) else compF b q (fall n 0))) = valF b) (by decide +kernel) n q b h2 h3 h4 h5
theorem min_comp (n q b : Int) (h2 : 1 ≤ q) (h3 : q < 5) (h4 : 1 ≤ b) (h5 : b < 3) :
    (if Float64.cmp (compF b q (fall n 1)) (compF b q (fall n 0)) == some .lt then (if Float64.cmp (compF b q (fall n 2)) (compF b q (fall n 1)) == some .lt then compF b q (fall n 2) else compF b q (fall n 1)) else (if Float64.cmp (compF b q (fall n 2)) (compF b q (fall n 0)) == some .lt then compF b q (fall n 2) else compF b q (fall n 0))) = compF b q 16 := by
  rw [← fall_mod n 0, ← fall_mod n 1, ← fall_mod n 2]
  exact upc (P := fun n q b => (if Float64.cmp (compF b q (fall n 1)) (compF b q (fall n 0)) == some .lt then (if Float64.cmp (compF b q (fall n 2)) (compF b q (fall n 1)) == some .lt then compF b q (fall n 2) else compF b q (fall n 1)) else (if Float64.cmp (compF b q (fall n 2)) (compF b q (fall n 0)) == some .lt then compF b q (fall n 2) else compF b q (fall n 0))) = compF b q 16) (by decide +kernel) n q b h2 h3 h4 h5
theorem upq {P : Int → Int → Prop} (h : ∀ l < 4, ∀ j < 2, P ((l : Nat) + 1 : Int) ((j : Nat) + 1 : Int)) (q b : Int) (h2 : 1 ≤ q) (h3 : q < 5) (h4 : 1 ≤ b) (h5 : b < 3) : P q b := by
  have := up2 (N := 4) (M := 2) (P := fun q b => P (q + 1) (b + 1)) h (q - 1) (b - 1) (by omega) (by omega) (by omega) (by omega)
  simpa using this
theorem upf {P : Int → Int → Int → Prop} (h : ∀ l < 4, ∀ j < 2, ∀ f < 17, P ((l : Nat) + 1 : Int) ((j : Nat) + 1 : Int) ((f : Nat) : Int)) (q b f : Int) (h2 : 1 ≤ q) (h3 : q < 5) (h4 : 1 ≤ b) (h5 : b < 3) (h6 : 0 ≤ f) (h7 : f < 17) : P q b f := by
  have := up3 (N := 4) (M := 2) (K := 17) (P := fun q b f => P (q + 1) (b + 1) f) h (q - 1) (b - 1) f (by omega) (by omega) (by omega) (by omega) h6 h7
  simpa using this
theorem val_sub16 (q b : Int) (h2 : 1 ≤ q) (h3 : q < 5) (h4 : 1 ≤ b) (h5 : b < 3) : Float64.sub (valF b) (compF b q 16) = rngF b q :=
  upq (P := fun q b => Float64.sub (valF b) (compF b q 16) = rngF b q) (by decide +kernel) q b h2 h3 h4 h5
theorem min_ne (q b : Int) (h2 : 1 ≤ q) (h3 : q < 5) (h4 : 1 ≤ b) (h5 : b < 3) : (Float64.cmp (compF b q 16) (valF b) == some Ordering.eq) = false :=
  upq (P := fun q b => (Float64.cmp (compF b q 16) (valF b) == some Ordering.eq) = false) (by decide +kernel) q b h2 h3 h4 h5
theorem rng_val (q b : Int) (h2 : 1 ≤ q) (h3 : q < 5) (h4 : 1 ≤ b) (h5 : b < 3) : Float64.div (rngF b q) (valF b) = satF q :=
  upq (P := fun q b => Float64.div (rngF b q) (valF b) = satF q) (by decide +kernel) q b h2 h3 h4 h5
theorem val_nz (b : Int) (h4 : 1 ≤ b) (h5 : b < 3) : Float64.isZero (valF b) = false :=
  upq (P := fun _ b => Float64.isZero (valF b) = false) (by decide +kernel) 1 b (by omega) (by omega) h4 h5
theorem rng_nz (q b : Int) (h2 : 1 ≤ q) (h3 : q < 5) (h4 : 1 ≤ b) (h5 : b < 3) : Float64.isZero (rngF b q) = false :=
  upq (P := fun q b => Float64.isZero (rngF b q) = false) (by decide +kernel) q b h2 h3 h4 h5
theorem val_sub (q b f : Int) (h2 : 1 ≤ q) (h3 : q < 5) (h4 : 1 ≤ b) (h5 : b < 3) (h6 : 0 ≤ f) (h7 : f < 17) : Float64.sub (valF b) (compF b q f) = dF b q f :=
  upf (P := fun q b f => Float64.sub (valF b) (compF b q f) = dF b q f) (by decide +kernel) q b f h2 h3 h4 h5 h6 h7
theorem d_rng (q b f : Int) (h2 : 1 ≤ q) (h3 : q < 5) (h4 : 1 ≤ b) (h5 : b < 3) (h6 : 0 ≤ f) (h7 : f < 17) : Float64.div (dF b q f) (rngF b q) = frF f :=
  upf (P := fun q b f => Float64.div (dF b q f) (rngF b q) = frF f) (by decide +kernel) q b f h2 h3 h4 h5 h6 h7
theorem comp_val (q b f : Int) (h2 : 1 ≤ q) (h3 : q < 5) (h4 : 1 ≤ b) (h5 : b < 3) (h6 : 0 ≤ f) (h7 : f < 17) : (Float64.cmp (compF b q f) (valF b) == some Ordering.eq) = decide (f = 0) :=
  upf (P := fun q b f => (Float64.cmp (compF b q f) (valF b) == some Ordering.eq) = decide (f = 0)) (by decide +kernel) q b f h2 h3 h4 h5 h6 h7
theorem up32 {P : Int → Prop} (h : ∀ k : Nat, k < 32 → P (k : Int)) (n : Int) : P (n % 32) := up1 (N := 32) h (n % 32) (by omega) (by omega)
theorem fr_subR (n : Int) : Float64.sub (frF (fall n 2)) (frF (fall n 1)) = frF (fall n 2 - fall n 1) := by
  rw [← fall_mod n 1, ← fall_mod n 2]
  exact up32 (P := fun n => Float64.sub (frF (fall n 2)) (frF (fall n 1)) = frF (fall n 2 - fall n 1)) (by decide +kernel) n
theorem fr_subG (n : Int) : Float64.sub (frF (32 + fall n 0)) (frF (fall n 2)) = frF (32 + fall n 0 - fall n 2) := by
  rw [← fall_mod n 0, ← fall_mod n 2]
  exact up32 (P := fun n => Float64.sub (frF (32 + fall n 0)) (frF (fall n 2)) = frF (32 + fall n 0 - fall n 2)) (by decide +kernel) n
theorem fr_subB (n : Int) : Float64.sub (frF (64 + fall n 1)) (frF (fall n 0)) = frF (64 + fall n 1 - fall n 0) := by
  rw [← fall_mod n 0, ← fall_mod n 1]
  exact up32 (P := fun n => Float64.sub (frF (64 + fall n 1)) (frF (fall n 0)) = frF (64 + fall n 1 - fall n 0)) (by decide +kernel) n
theorem two_fr (f : Int) (h6 : 0 ≤ f) (h7 : f < 17) : Float64.add 0x4000000000000000 (frF f) = frF (32 + f) :=
  up1 (N := 17) (P := fun f => Float64.add 0x4000000000000000 (frF f) = frF (32 + f)) (by decide +kernel) f h6 h7
theorem four_fr (f : Int) (h6 : 0 ≤ f) (h7 : f < 17) : Float64.add 0x4010000000000000 (frF f) = frF (64 + f) :=
  up1 (N := 17) (P := fun f => Float64.add 0x4010000000000000 (frF f) = frF (64 + f)) (by decide +kernel) f h6 h7
theorem fr_div6 (g : Int) (h6 : -16 ≤ g) (h7 : g < 81) (h8 : g % 3 = 0) : Float64.div (frF g) 0x4018000000000000 = hueF (g / 3) :=
  up1s (N := 97) (c := 16) (P := fun g => g % 3 = 0 → Float64.div (frF g) 0x4018000000000000 = hueF (g / 3)) (by decide +kernel) g h6 (by omega) h8
theorem hue_mod1 (m : Int) (h6 : -6 ≤ m) (h7 : m < 32) : (Float64.divmod (hueF m) 0x3FF0000000000000).2 = hueF (m % 32) :=
  up1s (N := 38) (c := 6) (P := fun m => (Float64.divmod (hueF m) 0x3FF0000000000000).2 = hueF (m % 32)) (by decide +kernel) m h6 (by omega)
theorem fallR (n : Int) (h : fall n 0 = 0) : (fall n 2 - fall n 1) % 3 = 0 ∧ -16 ≤ fall n 2 - fall n 1 ∧ fall n 2 - fall n 1 < 17 ∧ (fall n 2 - fall n 1) / 3 % 32 = n % 32 := by
  unfold fall at *; omega
theorem fallG (n : Int) (h0 : fall n 0 ≠ 0) (h : fall n 1 = 0) : (32 + fall n 0 - fall n 2) % 3 = 0 ∧ 16 ≤ 32 + fall n 0 - fall n 2 ∧ 32 + fall n 0 - fall n 2 < 49 ∧ (32 + fall n 0 - fall n 2) / 3 % 32 = n % 32 := by
  unfold fall at *; omega
theorem fallB (n : Int) (h0 : fall n 0 ≠ 0) (h : fall n 1 ≠ 0) : (64 + fall n 1 - fall n 0) % 3 = 0 ∧ 48 ≤ 64 + fall n 1 - fall n 0 ∧ 64 + fall n 1 - fall n 0 < 81 ∧ (64 + fall n 1 - fall n 0) / 3 % 32 = n % 32 := by
  unfold fall at *; omega
section
variable {prog : Program} {w : World} {A : Around} {E : Value → Shared → Prop} {s : Shared} {Q : Value → Shared → Prop} {t u : Tok}
theorem and31 {a : Int} (h : Q (.int (a % 32) s.toks) { s with toks := s.toks + 1 }) : wpAny (model prog w) A (binaryOp .BitAnd (.int a t) (.int 31 u)) Q E s :=
  and_int (by rw [bitAnd_m5]; exact h)
theorem and127 {a : Int} (h : Q (.int (a % 128) s.toks) { s with toks := s.toks + 1 }) : wpAny (model prog w) A (binaryOp .BitAnd (.int a t) (.int 127 u)) Q E s :=
  and_int (by rw [bitAnd_m7]; exact h)
theorem bit128 (a : Int) : Builtin.bitAnd a 128 = a / 128 % 2 * 128 := kbt_bit a 7
theorem bit32 (a : Int) : Builtin.bitAnd a 32 = a / 32 % 2 * 32 := kbt_bit a 5
theorem and128 {a : Int} (h : Q (.int (a / 128 % 2 * 128) s.toks) { s with toks := s.toks + 1 }) : wpAny (model prog w) A (binaryOp .BitAnd (.int a t) (.int 128 u)) Q E s :=
  and_int (by rw [bit128]; exact h)
theorem or128 {a : Int} (h : Q (.int (a + 128 - a / 128 % 2 * 128) s.toks) { s with toks := s.toks + 1 }) : wpAny (model prog w) A (binaryOp .BitOr (.int a t) (.int 128 u)) Q E s :=
  or_int (by rw [bitOr_and, bit128]; exact h)
theorem or32 {a : Int} (h : Q (.int (a + 32 - a / 32 % 2 * 32) s.toks) { s with toks := s.toks + 1 }) : wpAny (model prog w) A (binaryOp .BitOr (.int a t) (.int 32 u)) Q E s :=
  or_int (by rw [bitOr_and, bit32]; exact h)
end
/-- what unctrl is to show of a code -/
def shown (a : Int) : Str :=
  if a % 256 > 127 then (if a % 128 < 32 then ⟨#[33, 94, (a % 128 + 64).toNat]⟩ else if a % 128 < 127 then ⟨#[33, (a % 128).toNat]⟩ else ⟨#[33, 94, 159]⟩)
  else (if a % 128 < 32 then ⟨#[94, (a % 128 + 64).toNat]⟩ else if a % 128 < 127 then ⟨#[(a % 128).toNat]⟩ else if a = 127 then ⟨#[94, 63]⟩ else ⟨#[94, 159]⟩)
theorem fm128 (x : Int) : x.fmod 128 = x % 128 := Int.fmod_eq_emod_of_nonneg x (by decide)
theorem fm256 (x : Int) : x.fmod 256 = x % 256 := Int.fmod_eq_emod_of_nonneg x (by decide)
theorem sEx : Str.ofString "!" = ⟨#[33]⟩ := by decide
theorem sUp : Str.ofString "^" = ⟨#[94]⟩ := by decide
theorem sQu : Str.ofString "?" = ⟨#[63]⟩ := by decide
theorem sUQ : Str.ofString "^?" = ⟨#[94, 63]⟩ := by decide
theorem sNo : Str.ofString "" = ⟨#[]⟩ := by decide
theorem app01 (b : Nat) : (⟨#[]⟩ : Str) ++ (⟨#[b]⟩ : Str) = ⟨#[b]⟩ := rfl
theorem app11 (a b : Nat) : (⟨#[a]⟩ : Str) ++ (⟨#[b]⟩ : Str) = ⟨#[a, b]⟩ := rfl
theorem app12 (a b c : Nat) : (⟨#[a]⟩ : Str) ++ (⟨#[b, c]⟩ : Str) = ⟨#[a, b, c]⟩ := rfl
theorem app21 (a b c : Nat) : (⟨#[a, b]⟩ : Str) ++ (⟨#[c]⟩ : Str) = ⟨#[a, b, c]⟩ := rfl
theorem tabI (k : Int) (h0 : 0 ≤ k) (h1 : k < 32) : Txt.item (Str.ofString "@ABCDEFGHIJKLMNOPQRSTUVWXYZ[\\]^_") k = ⟨#[(k + 64).toNat]⟩ :=
  up1 (N := 32) (P := fun k => Txt.item (Str.ofString "@ABCDEFGHIJKLMNOPQRSTUVWXYZ[\\]^_") k = ⟨#[(k + 64).toNat]⟩) (by decide +kernel) k h0 h1
theorem sh1 {a : Int} {n : Nat} (h : 127 < a % 256) (h1 : a % 128 < 32) (e : (n : Int) = a % 128 + 64) : (⟨#[33, 94, n]⟩ : Str) = shown a := by
  rw [shown, if_pos h, if_pos h1]; rw [show n = (a % 128 + 64).toNat by omega]
theorem sh2 {a : Int} {n : Nat} (h : 127 < a % 256) (h1 : ¬ a % 128 < 32) (h2 : a % 128 < 127) (e : (n : Int) = a % 128) : (⟨#[33, n]⟩ : Str) = shown a := by
  rw [shown, if_pos h, if_neg h1, if_pos h2]; rw [show n = (a % 128).toNat by omega]
theorem sh3 {a : Int} {n : Nat} (h : 127 < a % 256) (h2 : ¬ a % 128 < 127) (e : n = 159) : (⟨#[33, 94, n]⟩ : Str) = shown a := by
  rw [shown, if_pos h, if_neg (by omega), if_neg h2, e]
theorem sh4 {a : Int} {n : Nat} (h : ¬ 127 < a % 256) (h1 : a % 128 < 32) (e : (n : Int) = a % 128 + 64) : (⟨#[94, n]⟩ : Str) = shown a := by
  rw [shown, if_neg h, if_pos h1]; rw [show n = (a % 128 + 64).toNat by omega]
theorem sh5 {a : Int} {n : Nat} (h : ¬ 127 < a % 256) (h1 : ¬ a % 128 < 32) (h2 : a % 128 < 127) (e : (n : Int) = a % 128) : (⟨#[n]⟩ : Str) = shown a := by
  rw [shown, if_neg h, if_neg h1, if_pos h2]; rw [show n = (a % 128).toNat by omega]
theorem sh6 {a : Int} {n : Nat} (h : ¬ 127 < a % 256) (h2 : ¬ a % 128 < 127) (h3 : a ≠ 127) (e : n = 159) : (⟨#[94, n]⟩ : Str) = shown a := by
  rw [shown, if_neg h, if_neg (by omega), if_neg h2, if_neg h3, e]
theorem sh7 {a : Int} {n : Nat} (h3 : a = 127) (e : n = 63) : (⟨#[94, n]⟩ : Str) = shown a := by
  subst h3; subst e; rfl
theorem sh8 {a : Int} {n : Nat} (h : 127 < a % 256) (h1 : ¬(32 ≤ a % 128 ∧ a % 128 ≤ 126)) (e : (n : Int) = a % 128 + 32 - a % 128 / 32 % 2 * 32 + 32) : (⟨#[33, 94, n]⟩ : Str) = shown a := by
  by_cases h2 : a % 128 < 32
  · exact sh1 h h2 (by omega)
  · exact sh3 h (by omega) (by omega)
theorem sh9 {a : Int} {n : Nat} (h : ¬ 127 < a % 256) (h0 : a ≠ 127) (h1 : ¬(32 ≤ a % 128 ∧ a % 128 ≤ 126)) (e : (n : Int) = a % 128 + 32 - a % 128 / 32 % 2 * 32 + 32) : (⟨#[94, n]⟩ : Str) = shown a := by
  by_cases h2 : a % 128 < 32
  · exact sh4 h h2 (by omega)
  · exact sh6 h (by omega) h0 (by omega)
theorem endS {h₀ h' : Heap} {L : Addr} {m : Str → Option Value} {news : List (Addr × Obj)} {s : Shared} {Q : Value → Shared → Prop} {x y : Str} {t : Tok} {tk : Nat}
    (hret : ∀ (t : Tok) (h' : Heap) (tk' : Nat), Fr h₀ L h' m → News h₀ L h' news → Q (.str x t) { s with heap := h', toks := tk' })
    (F : Fr h₀ L h' m) (N : News h₀ L h' news) (e : y = x) : Q (.str y t) { s with heap := h', toks := tk } := by
  subst e
  exact hret t h' tk F N
theorem endB {h₀ h' : Heap} {L : Addr} {m : Str → Option Value} {news : List (Addr × Obj)} {s : Shared} {Q : Value → Shared → Prop} {x y : Bool} {tk : Nat}
    (hret : ∀ (t : Tok) (h' : Heap) (tk' : Nat), Fr h₀ L h' m → News h₀ L h' news → Q (.bool x) { s with heap := h', toks := tk' })
    (F : Fr h₀ L h' m) (N : News h₀ L h' news) (e : y = x) : Q (.bool y) { s with heap := h', toks := tk } := by
  subst e
  exact hret 0 h' tk F N
/-- the colour's letters: the hue in 32nds of a turn, the quarters, the halves -/
structure Cx (a key turns n q b : Int) : Prop where
  n : n = a % 32 + key % 32 + 32 * turns
  q : q = 1 + a / 32 % 4
  b : b = 1 + a / 128 % 2
section
variable {prog : Program} {w : World} {A : Around} {E : Value → Shared → Prop} {s : Shared} {Q : Value → Shared → Prop} {t u : Tok}
theorem max2I {a b : Int} {h₀ : Heap} {L : Addr} {m : Str → Option Value} {news : List (Addr × Obj)} (hh : A.handled = none) (F : Fr h₀ L s.heap m) (N : News h₀ L s.heap news) (hp : 0 < s.toks)
    (h : ∀ h' tk v, 0 < tk → Fr h₀ L h' m → News h₀ L h' news → Q (.int (max a b) v) { s with heap := h', toks := tk }) :
    wpAny (model prog w) A (call (.builtin "max") [.int a t, .int b u]) Q E s := by
  refine posQ hp ?_
  refine max_two_ints hh fun h' tk kp hq => ?_
  have key := fun q => h h' tk q hq (F.grownK kp) (N.grown kp)
  split
  · rw [show max a b = b by omega] at key; exact key _
  · rw [show max a b = a by omega] at key; exact key _
theorem min2I {a b : Int} {h₀ : Heap} {L : Addr} {m : Str → Option Value} {news : List (Addr × Obj)} (hh : A.handled = none) (F : Fr h₀ L s.heap m) (N : News h₀ L s.heap news) (hp : 0 < s.toks)
    (h : ∀ h' tk v, 0 < tk → Fr h₀ L h' m → News h₀ L h' news → Q (.int (min a b) v) { s with heap := h', toks := tk }) :
    wpAny (model prog w) A (call (.builtin "min") [.int a t, .int b u]) Q E s := by
  refine posQ hp ?_
  refine min_two_ints hh fun h' tk kp hq => ?_
  have key := fun q => h h' tk q hq (F.grownK kp) (N.grown kp)
  split
  · rw [show min a b = b by omega] at key; exact key _
  · rw [show min a b = a by omega] at key; exact key _
theorem eqAtF {x : UInt64} (ht : 0 < t) (hu : 0 < u) (hb : NoneBooked s.heap) (hx : (Float64.cmp x x == some Ordering.eq) = true) : SeqAt.EqAt A s (.float x t) (.float x u) true := fun prog w E Q h => by
  have h0 : (t == 0 || u == 0) = false := by
    simp only [Bool.or_eq_false_iff, beq_eq_false_iff_ne]
    exact ⟨Nat.ne_of_gt ht, Nat.ne_of_gt hu⟩
  have go : wpAny (model prog w) A (do truthOfDropped (← richCompare .Eq (.float x t) (.float x u))) Q E s :=
    wpAny_bind (eqFF (prog := prog) (w := w) hx (wpAny_truthy_bool h))
  unfold eqBool
  refine wpAny_holding ?_
  refine wpAny_ite_split (fun _ => ?_) (fun _ => ?_)
  · exact wpAny_bind (wpAny_rule (wpAny_pure h))
  · refine wpAny_bind ?_
    have fin : ∀ b : Bool, wpAny (model prog w) A (if b = true then pure true else (fun __r : Unit => do truthOfDropped (← richCompare .Eq (.float x t) (.float x u))) ()) Q E s := fun b => by
      cases b
      · exact go
      · exact wpAny_pure h
    show wpAny (model prog w) A (isSame.created (x == x && !Float64.isNaN x) t u) _ E s
    unfold isSame.created
    refine wpAny_ite ?_
    split
    · rename_i h; rw [h0] at h; exact absurd h Bool.false_ne_true
    refine wpAny_ite ?_
    split
    · exact wpAny_pure (fin _)
    refine wpAny_ite ?_
    split
    · exact wpAny_pure (fin _)
    refine wpAny_bind (wpAny_sharingNotTold_none hb ?_)
    first | rw [if_neg Bool.false_ne_true] | simp only [Bool.false_eq_true, if_false]
    refine wpAny_bind (wpAny_sharingNotTold_none hb ?_)
    first | rw [if_neg Bool.false_ne_true] | simp only [Bool.false_eq_true, if_false]
    exact wpAny_bind (wpAny_rule (wpAny_bind (wpAny_askSetting (wpAny_pure (fin _)))))
theorem ne3 {a b : Addr} {x y z : UInt64} {t1 t2 t3 u1 u2 u3 : Tok} {c d : Nat} (ha : s.heap.get? a = some { cls := .type "tuple", data := .seq #[.float x t1, .float y t2, .float z t3] c })
    (hb : s.heap.get? b = some { cls := .type "tuple", data := .seq #[.float x u1, .float y u2, .float z u3] d }) (hu : A.units < cLine) (nb : NoneBooked s.heap)
    (p1 : 0 < t1) (p2 : 0 < t2) (p3 : 0 < t3) (p4 : 0 < u1) (p5 : 0 < u2) (p6 : 0 < u3)
    (hx : (Float64.cmp x x == some Ordering.eq) = true) (hy : (Float64.cmp y y == some Ordering.eq) = true) (hz : (Float64.cmp z z == some Ordering.eq) = true) (h : Q (.bool false) s) :
    wpAny (model prog w) A (compareOp .NotEq (.ref a) (.ref b)) Q E s := by
  refine SeqAt.RcNeAt.tuples (e := fun _ => true) ⟨_, ha, rfl, c, rfl⟩ ⟨_, hb, rfl, d, rfl⟩ hu (fun j h1 h2 => ?_) prog w E Q h
  have hj : j < 3 := h1
  rcases (by omega : j = 0 ∨ j = 1 ∨ j = 2) with rfl | rfl | rfl
  · exact eqAtF p1 p4 nb hx
  · exact eqAtF p2 p5 nb hy
  · exact eqAtF p3 p6 nb hz
theorem modI {a : Int} {b : Int} (hb : 0 < b) (h : Q (.int (a % b) s.toks) { s with toks := s.toks + 1 }) : wpAny (model prog w) A (binaryOp .Mod (.int a t) (.int b u)) Q E s :=
  mod_int' (by omega) (by rw [Int.fmod_eq_emod_of_nonneg a (by omega)]; exact h)
theorem divI {a : Int} {b : Int} (hb : 0 < b) (h1 : b < 1000) (h : Q (.int (a / b) s.toks) { s with toks := s.toks + 1 }) : wpAny (model prog w) A (binaryOp .FloorDiv (.int a t) (.int b u)) Q E s :=
  floordiv_int (by omega) (by rw [Int.fdiv_eq_ediv_of_nonneg a (by omega)]; exact h) (Or.inl (PyProof.noPylong_small (by omega)))
theorem mulII {a b c : Int} (hk : a = c) (hc : 0 ≤ c ∧ c < 9) (h : Q (.int (c * b) s.toks) { s with toks := s.toks + 1 }) : wpAny (model prog w) A (binaryOp .Mult (.int a t) (.int b u)) Q E s := by
  subst hk
  exact mul_int h (IntMulOk.of_left (intBits_le_64 (by omega) (by omega)))
/-- the lemmas over the letters -/
theorem Cx.qb {a key turns n q b : Int} (C : Cx a key turns n q b) : 1 ≤ q ∧ q < 5 := by have := C.q; omega
theorem Cx.bb {a key turns n q b : Int} (C : Cx a key turns n q b) : 1 ≤ b ∧ b < 3 := by have := C.b; omega
theorem Cx.fall {a key turns n q b : Int} (C : Cx a key turns n q b) (k : Int) : Mine.fall (a + key) k = Mine.fall n k := by
  rw [← fall_mod (a + key), ← fall_mod n]
  have := C.n
  rw [show (a + key) % 32 = n % 32 by omega]
theorem mulQ {a key turns n q b x y : Int} (C : Cx a key turns n q b) (e : x = q) (h : Q (.int (q * y) s.toks) { s with toks := s.toks + 1 }) : wpAny (model prog w) A (binaryOp .Mult (.int x t) (.int y u)) Q E s :=
  mulII e (by have := C.qb; omega) h
theorem mulB {a key turns n q b x y : Int} (C : Cx a key turns n q b) (e : x = b) (h : Q (.int (b * y) s.toks) { s with toks := s.toks + 1 }) : wpAny (model prog w) A (binaryOp .Mult (.int x t) (.int y u)) Q E s :=
  mulII e (by have := C.bb; omega) h
theorem prod_bd {q f : Int} (h : 1 ≤ q ∧ q < 5) (h' : 0 ≤ f ∧ f < 17) : 0 ≤ q * f ∧ q * f ≤ 64 := by
  rcases (by omega : q = 1 ∨ q = 2 ∨ q = 3 ∨ q = 4) with rfl | rfl | rfl | rfl <;> omega
theorem prod_bd2 {b q f : Int} (hb : 1 ≤ b ∧ b < 3) (h : 1 ≤ q ∧ q < 5) (h' : 0 ≤ f ∧ f < 17) : 0 ≤ b * (64 - q * f) ∧ b * (64 - q * f) ≤ 128 := by
  have := prod_bd h h'
  rcases (by omega : b = 1 ∨ b = 2) with rfl | rfl <;> omega
theorem divComp {a key turns n q b f : Int} (k : Int) (hA : A.handled = none) (C : Cx a key turns n q b) (hF : f = fall (a + key) k) (hp : 0 < s.toks) (h : ∀ t tk, 0 < t → 0 < tk → Q (.float (compF b q (fall n k)) t) { s with toks := tk }) :
    wpAny (model prog w) A (binaryOp .Div (.int (b * (64 - q * f)) t) (.int 128 u)) Q E s := by
  rw [C.fall k] at hF
  subst hF
  have hpr := prod_bd2 C.bb C.qb (fall_bd n k)
  refine divII hA (by decide) (by omega) ?_ (h _ _ hp (Nat.succ_pos _))
  unfold compF
  congr 1
  simp; omega
theorem divHue {a key turns n q b x : Int} (hA : A.handled = none) (C : Cx a key turns n q b) (hb : 0 ≤ n ∧ n < 863) (e : x = n) (hp : 0 < s.toks) (h : ∀ t tk, 0 < t → 0 < tk → Q (.float (hueF n) t) { s with toks := tk }) :
    wpAny (model prog w) A (binaryOp .Div (.int x t) (.int 32 u)) Q E s := by
  subst e
  exact divII hA (by decide) (by omega) (by simp [hueF]) (h _ _ hp (Nat.succ_pos _))
theorem divTold {a key turns n q b x : Int} (hA : A.handled = none) (C : Cx a key turns n q b) (e : x = n % 32) (hp : 0 < s.toks) (h : ∀ t tk, 0 < t → 0 < tk → Q (.float (hueF (n % 32)) t) { s with toks := tk }) :
    wpAny (model prog w) A (binaryOp .Div (.int x t) (.int 32 u)) Q E s := by
  subst e
  exact divII hA (by decide) (by omega) (by simp [hueF]) (h _ _ hp (Nat.succ_pos _))
theorem divSat {a key turns n q b x : Int} (hA : A.handled = none) (C : Cx a key turns n q b) (e : x = q) (hp : 0 < s.toks) (h : ∀ t tk, 0 < t → 0 < tk → Q (.float (satF q) t) { s with toks := tk }) :
    wpAny (model prog w) A (binaryOp .Div (.int x t) (.int 4 u)) Q E s := by
  have := C.qb
  subst e
  exact divII hA (by decide) (by omega) (by simp [satF]) (h _ _ hp (Nat.succ_pos _))
theorem divVal {a key turns n q b x : Int} (hA : A.handled = none) (C : Cx a key turns n q b) (e : x = b) (hp : 0 < s.toks) (h : ∀ t tk, 0 < t → 0 < tk → Q (.float (valF b) t) { s with toks := tk }) :
    wpAny (model prog w) A (binaryOp .Div (.int x t) (.int 2 u)) Q E s := by
  have := C.bb
  subst e
  exact divII hA (by decide) (by omega) (by simp [valF]) (h _ _ hp (Nat.succ_pos _))
end
theorem upb {P : Int → Prop} (h : ∀ j < 2, P ((j : Nat) + 1 : Int)) (b : Int) (h4 : 1 ≤ b) (h5 : b < 3) : P b := by
  have := up1 (N := 2) (P := fun b => P (b + 1)) h (b - 1) (by omega) (by omega)
  simpa using this
theorem val_self (b : Int) (h4 : 1 ≤ b) (h5 : b < 3) : (Float64.cmp (valF b) (valF b) == some Ordering.eq) = true :=
  upb (P := fun b => (Float64.cmp (valF b) (valF b) == some Ordering.eq) = true) (by decide +kernel) b h4 h5
theorem val_one (b : Int) (h4 : 1 ≤ b) (h5 : b < 3) : (Float64.cmp (valF b) 0x3FF0000000000000 == some Ordering.eq) = decide (b = 2) :=
  upb (P := fun b => (Float64.cmp (valF b) 0x3FF0000000000000 == some Ordering.eq) = decide (b = 2)) (by decide +kernel) b h4 h5
theorem comp_self (q b f : Int) (h2 : 1 ≤ q) (h3 : q < 5) (h4 : 1 ≤ b) (h5 : b < 3) (h6 : 0 ≤ f) (h7 : f < 17) : (Float64.cmp (compF b q f) (compF b q f) == some Ordering.eq) = true :=
  upf (P := fun q b f => (Float64.cmp (compF b q f) (compF b q f) == some Ordering.eq) = true) (by decide +kernel) q b f h2 h3 h4 h5 h6 h7
theorem hue_self (n : Int) (h0 : 0 ≤ n) (h1 : n < 32) : (Float64.cmp (hueF n) (hueF n) == some Ordering.eq) = true :=
  up1 (N := 32) (P := fun n => (Float64.cmp (hueF n) (hueF n) == some Ordering.eq) = true) (by decide +kernel) n h0 h1
theorem sat_self (q : Int) (h0 : 0 ≤ q) (h1 : q < 5) : (Float64.cmp (satF q) (satF q) == some Ordering.eq) = true :=
  up1 (N := 5) (P := fun n => (Float64.cmp (satF n) (satF n) == some Ordering.eq) = true) (by decide +kernel) q h0 h1
theorem zero_self : (Float64.cmp 0 0 == some Ordering.eq) = true := by decide +kernel
theorem is_two {b : Int} (e : b = 2) : (0x3FF0000000000000 : UInt64) = valF b := by subst e; decide +kernel
theorem is_one {b : Int} (e : b = 1) : (0x3FE0000000000000 : UInt64) = valF b := by subst e; decide +kernel
theorem hue_32 (m : Int) (h0 : 0 ≤ m) (h1 : m < 32) : Float64.mul (hueF m) (Float64.ofInt 32) = Float64.ofInt m :=
  up1 (N := 32) (P := fun m => Float64.mul (hueF m) (Float64.ofInt 32) = Float64.ofInt m) (by decide +kernel) m h0 h1
theorem sat_4 (m : Int) (h0 : 0 ≤ m) (h1 : m < 5) : Float64.mul (satF m) (Float64.ofInt 4) = Float64.ofInt m :=
  up1 (N := 5) (P := fun m => Float64.mul (satF m) (Float64.ofInt 4) = Float64.ofInt m) (by decide +kernel) m h0 h1
theorem int_1 (m : Int) (h0 : 1 ≤ m) (h1 : m < 5) : Float64.sub (Float64.ofInt m) (Float64.ofInt 1) = Float64.ofInt (m - 1) :=
  up1s (N := 4) (c := -1) (P := fun m => Float64.sub (Float64.ofInt m) (Float64.ofInt 1) = Float64.ofInt (m - 1)) (by decide +kernel) m (by omega) (by omega)
theorem int_fin (m : Int) (h0 : 0 ≤ m) (h1 : m < 32) : Float64.isFinite (Float64.ofInt m) = true :=
  up1 (N := 32) (P := fun m => Float64.isFinite (Float64.ofInt m) = true) (by decide +kernel) m h0 h1
theorem int_int (m : Int) (h0 : 0 ≤ m) (h1 : m < 32) : Flt.toInt Float64.truncOf (Float64.ofInt m) = m :=
  up1 (N := 32) (P := fun m => Flt.toInt Float64.truncOf (Float64.ofInt m) = m) (by decide +kernel) m h0 h1
theorem booked {K : Frag} {h₀ h : Heap} {L : Addr} {m : Str → Option Value} (X : K.In h₀) (F : Fr h₀ L h m) (e : nsOkIn K cStatics = true) (q : nsIn K cStatics sharingNotToldKey = some none) : NoneBooked h := by
  have X' : K.In h := Frag.In.keeps X F.keep
  exact ⟨_, .of_isNs (isNs_of_in X' e), nsMap_none_of_in X' e q⟩
/-- the floats of the law as letters -/
structure Fx (a key turns n q b : Int) (x0 x1 x2 hu hm sa va : UInt64) : Prop where
  C : Cx a key turns n q b
  nb : 0 ≤ n ∧ n < 863
  e0 : x0 = compF b q (fall n 0)
  e1 : x1 = compF b q (fall n 1)
  e2 : x2 = compF b q (fall n 2)
  eh : hu = hueF n
  em : hm = hueF (n % 32)
  es : sa = satF q
  ev : va = valF b
section
variable {a key turns n q b : Int} {x0 x1 x2 hu hm sa va : UInt64}
theorem Fx.s0 (F : Fx a key turns n q b x0 x1 x2 hu hm sa va) : (Float64.cmp x0 x0 == some Ordering.eq) = true := by
  have h1 := F.C.qb; have h2 := F.C.bb; have h3 := fall_bd n 0
  rw [F.e0]; exact comp_self _ _ _ h1.1 h1.2 h2.1 h2.2 h3.1 h3.2
theorem Fx.s1 (F : Fx a key turns n q b x0 x1 x2 hu hm sa va) : (Float64.cmp x1 x1 == some Ordering.eq) = true := by
  have h1 := F.C.qb; have h2 := F.C.bb; have h3 := fall_bd n 1
  rw [F.e1]; exact comp_self _ _ _ h1.1 h1.2 h2.1 h2.2 h3.1 h3.2
theorem Fx.s2 (F : Fx a key turns n q b x0 x1 x2 hu hm sa va) : (Float64.cmp x2 x2 == some Ordering.eq) = true := by
  have h1 := F.C.qb; have h2 := F.C.bb; have h3 := fall_bd n 2
  rw [F.e2]; exact comp_self _ _ _ h1.1 h1.2 h2.1 h2.2 h3.1 h3.2
theorem Fx.sm (F : Fx a key turns n q b x0 x1 x2 hu hm sa va) : (Float64.cmp hm hm == some Ordering.eq) = true := by
  rw [F.em]; exact hue_self _ (by omega) (by omega)
theorem Fx.ss (F : Fx a key turns n q b x0 x1 x2 hu hm sa va) : (Float64.cmp sa sa == some Ordering.eq) = true := by
  have h1 := F.C.qb
  rw [F.es]; exact sat_self _ (by omega) (by omega)
theorem Fx.sv (F : Fx a key turns n q b x0 x1 x2 hu hm sa va) : (Float64.cmp va va == some Ordering.eq) = true := by
  have h1 := F.C.bb
  rw [F.ev]; exact val_self _ (by omega) (by omega)
theorem Fx.two (F : Fx a key turns n q b x0 x1 x2 hu hm sa va) (e : b = 2) : (0x3FF0000000000000 : UInt64) = va := by rw [F.ev]; exact is_two e
theorem Fx.one (F : Fx a key turns n q b x0 x1 x2 hu hm sa va) (e : b = 1) : (0x3FE0000000000000 : UInt64) = va := by rw [F.ev]; exact is_one e
variable {prog : Program} {w : World} {A : Around} {E : Value → Shared → Prop} {s : Shared} {Q : Value → Shared → Prop} {t u : Tok}
theorem dX0 {f : Int} (hA : A.handled = none) (F : Fx a key turns n q b x0 x1 x2 hu hm sa va) (hF : f = fall (a + key) 0) (hp : 0 < s.toks) (h : ∀ t tk, 0 < t → 0 < tk → Q (.float x0 t) { s with toks := tk }) :
    wpAny (model prog w) A (binaryOp .Div (.int (b * (64 - q * f)) t) (.int 128 u)) Q E s := by
  rw [F.e0] at h; exact divComp 0 hA F.C hF hp h
theorem dX1 {f : Int} (hA : A.handled = none) (F : Fx a key turns n q b x0 x1 x2 hu hm sa va) (hF : f = fall (a + key) 1) (hp : 0 < s.toks) (h : ∀ t tk, 0 < t → 0 < tk → Q (.float x1 t) { s with toks := tk }) :
    wpAny (model prog w) A (binaryOp .Div (.int (b * (64 - q * f)) t) (.int 128 u)) Q E s := by
  rw [F.e1] at h; exact divComp 1 hA F.C hF hp h
theorem dX2 {f : Int} (hA : A.handled = none) (F : Fx a key turns n q b x0 x1 x2 hu hm sa va) (hF : f = fall (a + key) 2) (hp : 0 < s.toks) (h : ∀ t tk, 0 < t → 0 < tk → Q (.float x2 t) { s with toks := tk }) :
    wpAny (model prog w) A (binaryOp .Div (.int (b * (64 - q * f)) t) (.int 128 u)) Q E s := by
  rw [F.e2] at h; exact divComp 2 hA F.C hF hp h
theorem dHue {x : Int} (hA : A.handled = none) (F : Fx a key turns n q b x0 x1 x2 hu hm sa va) (e : x = n) (hp : 0 < s.toks) (h : ∀ t tk, 0 < t → 0 < tk → Q (.float hu t) { s with toks := tk }) :
    wpAny (model prog w) A (binaryOp .Div (.int x t) (.int 32 u)) Q E s := by
  rw [F.eh] at h; exact divHue hA F.C F.nb e hp h
theorem dTold {x : Int} (hA : A.handled = none) (F : Fx a key turns n q b x0 x1 x2 hu hm sa va) (e : x = n % 32) (hp : 0 < s.toks) (h : ∀ t tk, 0 < t → 0 < tk → Q (.float hm t) { s with toks := tk }) :
    wpAny (model prog w) A (binaryOp .Div (.int x t) (.int 32 u)) Q E s := by
  rw [F.em] at h; exact divTold hA F.C e hp h
theorem dSat {x : Int} (hA : A.handled = none) (F : Fx a key turns n q b x0 x1 x2 hu hm sa va) (e : x = q) (hp : 0 < s.toks) (h : ∀ t tk, 0 < t → 0 < tk → Q (.float sa t) { s with toks := tk }) :
    wpAny (model prog w) A (binaryOp .Div (.int x t) (.int 4 u)) Q E s := by
  rw [F.es] at h; exact divSat hA F.C e hp h
theorem dVal {x : Int} (hA : A.handled = none) (F : Fx a key turns n q b x0 x1 x2 hu hm sa va) (e : x = b) (hp : 0 < s.toks) (h : ∀ t tk, 0 < t → 0 < tk → Q (.float va t) { s with toks := tk }) :
    wpAny (model prog w) A (binaryOp .Div (.int x t) (.int 2 u)) Q E s := by
  rw [F.ev] at h; exact divVal hA F.C e hp h
theorem mHue (F : Fx a key turns n q b x0 x1 x2 hu hm sa va) (h : ∀ y, y = Float64.ofInt (n % 32) → Q (.float y s.toks) { s with toks := s.toks + 1 }) :
    wpAny (model prog w) A (binaryOp .Mult (.float hm t) (.int 32 u)) Q E s :=
  mulFI (by decide) (by rw [F.em]; exact hue_32 _ (by omega) (by omega)) (h _ rfl)
theorem mSat (F : Fx a key turns n q b x0 x1 x2 hu hm sa va) (h : ∀ y, y = Float64.ofInt q → Q (.float y s.toks) { s with toks := s.toks + 1 }) :
    wpAny (model prog w) A (binaryOp .Mult (.float sa t) (.int 4 u)) Q E s :=
  mulFI (by decide) (by have := F.C.qb; rw [F.es]; exact sat_4 _ (by omega) (by omega)) (h _ rfl)
theorem sOne {y : UInt64} {m : Int} (hy : y = Float64.ofInt m) (hm : 1 ≤ m ∧ m < 5) (h : ∀ z, z = Float64.ofInt (m - 1) → Q (.float z s.toks) { s with toks := s.toks + 1 }) :
    wpAny (model prog w) A (binaryOp .Sub (.float y t) (.int 1 u)) Q E s :=
  subFI (by decide) (by rw [hy]; exact int_1 _ hm.1 hm.2) (h _ rfl)
theorem iOf {y : UInt64} {m : Int} (hy : y = Float64.ofInt m) (hm : 0 ≤ m ∧ m < 32) (h : Q (.int m s.toks) { s with toks := s.toks + 1 }) :
    wpAny (model prog w) A (call (.type "int") [.float y t]) Q E s :=
  intF (by rw [hy]; exact int_fin _ hm.1 hm.2) (by rw [hy]; exact int_int _ hm.1 hm.2) h
theorem mergeV {M : Model} {env : Env} {x y : Int} {k1 k2 : Nat} {p1 p2 : Pos} (F : Fx a key turns n q b x0 x1 x2 hu hm sa va) (h2 : x = y → b = 2) (h1 : x ≠ y → b = 1) (hp : 0 < s.toks) (h : ∀ t tk, 0 < t → 0 < tk → Q (.float va t) { s with toks := tk }) :
    if (x == y) = true then wpAny M A (eval (.Constant (.float 0x3FF0000000000000) k1 p1) env) Q E s else wpAny M A (eval (.Constant (.float 0x3FE0000000000000) k2 p2) env) Q E s := by
  have key := h s.toks (s.toks + 1) hp (Nat.succ_pos _)
  by_cases e : x = y
  · rw [if_pos (by simpa using e)]
    rw [← F.two (h2 e)] at key
    exact AutoFloatOps.wpAny_Constant_float key
  · rw [if_neg (by simpa using e)]
    rw [← F.one (h1 e)] at key
    exact AutoFloatOps.wpAny_Constant_float key
theorem eqOne (F : Fx a key turns n q b x0 x1 x2 hu hm sa va) (h : Q (.bool (decide (b = 2))) s) : wpAny (model prog w) A (compareOp .Eq (.float va t) (.float 0x3FF0000000000000 u)) Q E s :=
  eqFF (by have := F.C.bb; rw [F.ev]; exact val_one _ this.1 this.2) h
end
/-- a call of one of the text's defs that hands back one value -/
abbrev ClV (w : World) (s₀ : Shared) (mg mb : Str → Option Value) (f : Addr) (d u : Nat) (vs : List Value) (R : Tok → Value) : Prop :=
  ∀ (news : List (Addr × Obj)) (dp un : Nat) (gd : Option (List Code)) (cn : Str) (cs : Scope) (a : Addr) (ccd : Value) (cl : List (Str × Addr)) (outer : List Env) (A₀ : Around) (base h₀ : Heap) (L : Addr) (m : Str → Option Value) (s : Shared) (Q : Value → Shared → Prop) (E : Value → Shared → Prop),
    Below A₀ base outer h₀ → Fr h₀ L s.heap m → (hd.heap_39 w.params).In h₀ → News h₀ L s.heap news → Top hd.view_39 (looseW hd.view_39 []) (ExcName.means s₀.heap) mg mb h₀ → cs.kind = .function →
    dp + d < recursionLimit → un + u < cLine →
    (∀ (t : Tok) (h' : Heap) (tk' : Nat), Fr h₀ L h' m → News h₀ L h' news → Q (R t) { s with heap := h', toks := tk' }) →
    wpAny (model PySem.Challenge.rw_mj0087_01.row.prog w) (ktrTop dp un gd cn cs L a ccd cl outer) (call (.ref f) vs) Q E s
/-- a call that hands back a new tuple of three floats -/
abbrev Cl3 (w : World) (s₀ : Shared) (mg mb : Str → Option Value) (f : Addr) (d u : Nat) (vs : List Value) (x y z : UInt64) : Prop :=
  ∀ (news : List (Addr × Obj)) (dp un : Nat) (gd : Option (List Code)) (cn : Str) (cs : Scope) (a : Addr) (ccd : Value) (cl : List (Str × Addr)) (outer : List Env) (A₀ : Around) (base h₀ : Heap) (L : Addr) (m : Str → Option Value) (s : Shared) (Q : Value → Shared → Prop) (E : Value → Shared → Prop),
    Below A₀ base outer h₀ → Fr h₀ L s.heap m → (hd.heap_39 w.params).In h₀ → News h₀ L s.heap news → Top hd.view_39 (looseW hd.view_39 []) (ExcName.means s₀.heap) mg mb h₀ → cs.kind = .function →
    dp + d < recursionLimit → un + u < cLine →
    (∀ (D : Addr) (t1 t2 t3 : Tok) (c : Nat) (h : Heap) (tk : Nat), 0 < t1 → 0 < t2 → 0 < t3 → Fr h₀ L h m → News h₀ L h ((D, ({ cls := .type "tuple", data := .seq #[.float x t1, .float y t2, .float z t3] c } : Obj)) :: news) → AllLt D news → Q (.ref D) { s with heap := h, toks := tk }) →
    wpAny (model PySem.Challenge.rw_mj0087_01.row.prog w) (ktrTop dp un gd cn cs L a ccd cl outer) (call (.ref f) vs) Q E s
section
variable {w : World} {s₀ : Shared} {mg mb : Str → Option Value} {f : Addr} {d u : Nat} {vs : List Value} {R : Tok → Value} {x y z : UInt64}
  {news : List (Addr × Obj)} {dp un : Nat} {gd : Option (List Code)} {cn : Str} {cs : Scope} {a : Addr} {ccd : Value} {cl : List (Str × Addr)} {outer : List Env} {A₀ : Around} {base h₀ : Heap} {L : Addr} {m : Str → Option Value} {s : Shared} {Q E : Value → Shared → Prop}
theorem useV (C : ClV w s₀ mg mb f d u vs R) (k1 : Below A₀ base outer h₀) (k2 : Fr h₀ L s.heap m) (k3 : (hd.heap_39 w.params).In h₀) (k4 : News h₀ L s.heap news) (k5 : Top hd.view_39 (looseW hd.view_39 []) (ExcName.means s₀.heap) mg mb h₀) (kK : cs.kind = .function)
    (kd : dp + d < recursionLimit) (ku : un + u < cLine) (kR : ∀ (t : Tok) (h' : Heap) (tk' : Nat), Fr h₀ L h' m → News h₀ L h' news → Q (R t) { s with heap := h', toks := tk' }) :
    wpAny (model PySem.Challenge.rw_mj0087_01.row.prog w) (ktrTop dp un gd cn cs L a ccd cl outer) (call (.ref f) vs) Q E s :=
  C _ _ _ _ _ _ _ _ _ _ _ _ _ _ _ _ _ _ k1 k2 k3 k4 k5 kK kd ku kR
theorem use3 (C : Cl3 w s₀ mg mb f d u vs x y z) (k1 : Below A₀ base outer h₀) (k2 : Fr h₀ L s.heap m) (k3 : (hd.heap_39 w.params).In h₀) (k4 : News h₀ L s.heap news) (k5 : Top hd.view_39 (looseW hd.view_39 []) (ExcName.means s₀.heap) mg mb h₀) (kK : cs.kind = .function)
    (kd : dp + d < recursionLimit) (ku : un + u < cLine) (kR : ∀ (D : Addr) (t1 t2 t3 : Tok) (c : Nat) (h : Heap) (tk : Nat), 0 < t1 → 0 < t2 → 0 < t3 → Fr h₀ L h m → News h₀ L h ((D, ({ cls := .type "tuple", data := .seq #[.float x t1, .float y t2, .float z t3] c } : Obj)) :: news) → AllLt D news → Q (.ref D) { s with heap := h, toks := tk }) :
    wpAny (model PySem.Challenge.rw_mj0087_01.row.prog w) (ktrTop dp un gd cn cs L a ccd cl outer) (call (.ref f) vs) Q E s :=
  C _ _ _ _ _ _ _ _ _ _ _ _ _ _ _ _ _ _ k1 k2 k3 k4 k5 kK kd ku kR
theorem useVp (C : ClV w s₀ mg mb f d u vs R) (k1 : Below A₀ base outer h₀) (k2 : Fr h₀ L s.heap m) (k3 : (hd.heap_39 w.params).In h₀) (k4 : News h₀ L s.heap news) (k5 : Top hd.view_39 (looseW hd.view_39 []) (ExcName.means s₀.heap) mg mb h₀) (kK : cs.kind = .function)
    (kd : dp + d < recursionLimit) (ku : un + u < cLine) (hp : 0 < s.toks) (kR : ∀ (t : Tok) (h' : Heap) (tk' : Nat), 0 < tk' → Fr h₀ L h' m → News h₀ L h' news → Q (R t) { s with heap := h', toks := tk' }) :
    wpAny (model PySem.Challenge.rw_mj0087_01.row.prog w) (ktrTop dp un gd cn cs L a ccd cl outer) (call (.ref f) vs) Q E s :=
  posQ hp (C _ _ _ _ _ _ _ _ _ _ _ _ _ _ _ _ _ _ k1 k2 k3 k4 k5 kK kd ku (fun t h' tk' F N q => kR t h' tk' q F N))
theorem use3p (C : Cl3 w s₀ mg mb f d u vs x y z) (k1 : Below A₀ base outer h₀) (k2 : Fr h₀ L s.heap m) (k3 : (hd.heap_39 w.params).In h₀) (k4 : News h₀ L s.heap news) (k5 : Top hd.view_39 (looseW hd.view_39 []) (ExcName.means s₀.heap) mg mb h₀) (kK : cs.kind = .function)
    (kd : dp + d < recursionLimit) (ku : un + u < cLine) (hp : 0 < s.toks) (kR : ∀ (D : Addr) (t1 t2 t3 : Tok) (c : Nat) (h : Heap) (tk : Nat), 0 < tk → 0 < t1 → 0 < t2 → 0 < t3 → Fr h₀ L h m → News h₀ L h ((D, ({ cls := .type "tuple", data := .seq #[.float x t1, .float y t2, .float z t3] c } : Obj)) :: news) → AllLt D news → Q (.ref D) { s with heap := h, toks := tk }) :
    wpAny (model PySem.Challenge.rw_mj0087_01.row.prog w) (ktrTop dp un gd cn cs L a ccd cl outer) (call (.ref f) vs) Q E s :=
  posQ hp (C _ _ _ _ _ _ _ _ _ _ _ _ _ _ _ _ _ _ k1 k2 k3 k4 k5 kK kd ku (fun D t1 t2 t3 c h tk q1 q2 q3 F N l q => kR D t1 t2 t3 c h tk q q1 q2 q3 F N l))
end
theorem end3 {h₀ h' : Heap} {L D : Addr} {m : Str → Option Value} {news : List (Addr × Obj)} {s : Shared} {Q : Value → Shared → Prop} {x y z x' y' z' : UInt64} {t1 t2 t3 : Tok} {c tk : Nat}
    (hret : ∀ (D : Addr) (t1 t2 t3 : Tok) (c : Nat) (h : Heap) (tk : Nat), 0 < t1 → 0 < t2 → 0 < t3 → Fr h₀ L h m → News h₀ L h ((D, ({ cls := .type "tuple", data := .seq #[.float x t1, .float y t2, .float z t3] c } : Obj)) :: news) → AllLt D news → Q (.ref D) { s with heap := h, toks := tk })
    (N : News h₀ L h' ((D, ({ cls := .type "tuple", data := .seq #[.float x' t1, .float y' t2, .float z' t3] c } : Obj)) :: news)) (F : Fr h₀ L h' m) (l : AllLt D news) (p1 : 0 < t1) (p2 : 0 < t2) (p3 : 0 < t3) (e1 : x' = x) (e2 : y' = y) (e3 : z' = z) : Q (.ref D) { s with heap := h', toks := tk } := by
  subst e1; subst e2; subst e3
  exact hret D t1 t2 t3 c h' tk p1 p2 p3 F N l
section
local macro_rules | `(tactic| walk_at "mine V") => `(tactic| (intro t9 h9 tk9 F9 N9; (try dsimp only); (try k_fold)))
local macro_rules | `(tactic| walk_at "binaryOp BitAnd int int") => `(tactic| first | with_reducible refine and31 ?_ | with_reducible refine and127 ?_ | with_reducible refine and128 ?_)
local macro_rules | `(tactic| walk_at "binaryOp BitOr int int") => `(tactic| first | with_reducible refine or128 ?_ | with_reducible refine or32 ?_)
local macro_rules | `(tactic| walk_at "call builtin:chr") => `(tactic| refine chr_of_range (by omega) (by omega) ?_)
local macro_rules | `(tactic| walk_at "call builtin:ord") => `(tactic| refine P.ord_of_char ?_)
theorem ctoiI (w : World) (s₀ : Shared) (mg mb : Str → Option Value) (a : Int) (t₁ : Tok) :
  ClV w s₀ mg mb 35 1 8 [.int a t₁] (fun t => .int a t) := by
  dsimp only [ClV]
  k_fill
  w_on
  w_top on
  w_strict (
    intros
    rename_i hret
    refine wpAny_call ?_
    k_dflt cell_enter
    k_steps
    all_goals cb_end hret)
theorem ctoiS (w : World) (s₀ : Shared) (mg mb : Str → Option Value) (c : Nat) (t₁ : Tok) :
  ClV w s₀ mg mb 35 1 8 [.str ⟨#[c]⟩ t₁] (fun t => .int (c : Int) t) := by
  dsimp only [ClV]
  k_fill
  w_on
  w_top on
  w_strict (
    intros
    rename_i hret
    refine wpAny_call ?_
    k_dflt cell_enter
    k_steps
    all_goals cb_end hret)
local macro_rules | `(tactic| walk_at "call ref") => `(tactic| (k_here; k_dflt (refine useV (ctoiI _ _ _ _ _ _) (by k_asm) (by k_asm) (by k_asm) (by k_asm) (by k_asm) (by first | exact rfl | assumption) (by ktr_room) (by ktr_units) ?_; walk_at "mine V")))
local macro_rules | `(tactic| walk_at "call ref") => `(tactic| (k_here; k_dflt (refine useV (ctoiS _ _ _ _ _ _) (by k_asm) (by k_asm) (by k_asm) (by k_asm) (by k_asm) (by first | exact rfl | assumption) (by ktr_room) (by ktr_units) ?_; walk_at "mine V")))
theorem ctrlI (w : World) (s₀ : Shared) (mg mb : Str → Option Value) (a : Int) (t₁ : Tok) :
  ClV w s₀ mg mb 49 2 16 [.int a t₁] (fun t => .int (a % 32) t) := by
  dsimp only [ClV]
  k_fill
  w_on
  w_top on
  w_strict (
    intros
    rename_i hret
    refine wpAny_call ?_
    k_dflt cell_enter
    k_steps
    all_goals cb_end hret)
theorem ctrlS (w : World) (s₀ : Shared) (mg mb : Str → Option Value) (c : Nat) (t₁ : Tok) :
  ClV w s₀ mg mb 49 2 16 [.str ⟨#[c]⟩ t₁] (fun t => .str ⟨#[((c : Int) % 32).toNat]⟩ t) := by
  dsimp only [ClV]
  k_fill
  w_on
  w_top on
  w_strict (
    intros
    rename_i hret
    refine wpAny_call ?_
    k_dflt cell_enter
    k_steps
    all_goals cb_end hret)
theorem altI (w : World) (s₀ : Shared) (mg mb : Str → Option Value) (a : Int) (t₁ : Tok) :
  ClV w s₀ mg mb 56 2 16 [.int a t₁] (fun t => .int (a + 128 - a / 128 % 2 * 128) t) := by
  dsimp only [ClV]
  k_fill
  w_on
  w_top on
  w_strict (
    intros
    rename_i hret
    refine wpAny_call ?_
    k_dflt cell_enter
    k_steps
    all_goals cb_end hret)
theorem altS (w : World) (s₀ : Shared) (mg mb : Str → Option Value) (c : Nat) (hc : c < 55296) (t₁ : Tok) :
  ClV w s₀ mg mb 56 2 16 [.str ⟨#[c]⟩ t₁] (fun t => .str ⟨#[((c : Int) + 128 - (c : Int) / 128 % 2 * 128).toNat]⟩ t) := by
  dsimp only [ClV]
  k_fill
  w_on
  w_top on
  w_strict (
    intros
    rename_i hret
    refine wpAny_call ?_
    k_dflt cell_enter
    k_steps
    all_goals cb_end hret)
end
section
local macro_rules | `(tactic| walk_at "compareOp Eq float float") => `(tactic| with_reducible refine eqFF (sat_ne _ (by omega) (by omega)) ?_)
local macro_rules | `(tactic| walk_at "binaryOp Mult float float") => `(tactic| first
  | with_reducible refine mulFF (hue_mul6 _ (by omega) (by omega)) ?_
  | with_reducible refine mulFF (val_c1 _ _ _ (by omega) (by omega) (by omega) (by omega) (by omega) (by omega)) ?_
  | with_reducible refine mulFF (sat_fr _ _ (by omega) (by omega) (by omega) (by omega)) ?_)
local macro_rules | `(tactic| walk_at "binaryOp Sub float float") => `(tactic| first
  | with_reducible refine subFF (one_sat _ (by omega) (by omega)) ?_
  | with_reducible refine subFF (one_m1 _ _ (by omega) (by omega) (by omega) (by omega)) ?_
  | with_reducible refine subFF (one_fr _ (by omega) (by omega)) ?_)
local macro_rules | `(tactic| walk_at "binaryOp Sub float int") => `(tactic| with_reducible refine subFI (by omega) (h6_sub _ (by omega) (by omega)) ?_)
local macro_rules | `(tactic| walk_at "call type:int") => `(tactic| with_reducible refine intF (h6_fin _ (by omega) (by omega)) (h6_int _ (by omega) (by omega)) ?_)
theorem hsvC (w : World) (s₀ : Shared) (mg mb : Str → Option Value) (n q b : Int) (hn : 0 ≤ n ∧ n < 863) (hq : 1 ≤ q ∧ q < 5) (hb : 1 ≤ b ∧ b < 3) (t₁ t₂ t₃ : Tok) (p₃ : 0 < t₃) :
  Cl3 w s₀ mg mb 28 1 8 [.float (hueF n) t₁, .float (satF q) t₂, .float (valF b) t₃] (compF b q (fall n 0)) (compF b q (fall n 1)) (compF b q (fall n 2)) := by
  dsimp only [Cl3]
  k_fill
  w_on
  w_top on
  w_strict (
    intros
    rename_i hret
    refine wpAny_call ?_
    k_dflt cell_enter
    k_steps
    all_goals first
      | (refine end3 hret (by k_asm) (by k_asm) (allLt_of (by assumption)) (by first | assumption | exact Nat.succ_pos _) (by first | assumption | exact Nat.succ_pos _) (by first | assumption | exact Nat.succ_pos _) ?_ ?_ ?_
         all_goals (clear hret; (try simp only [fm6] at *); first | (refine comp_eq ?_; unfold fall; omega) | (refine val_eq (by omega) (by omega) (by omega) (by omega) ?_; unfold fall; omega)))
      | (exfalso; clear hret; (try simp only [fm6] at *); omega))
end
section
local macro_rules | `(tactic| walk_at "execs cons") => `(tactic| (k_here; refine genT (Nat.succ_pos _) ?_; intro tk9 hq9))
local macro_rules | `(tactic| walk_at "call builtin:max") => `(tactic| (k_here; (with_reducible show wpAny _ _ (call _ [Value.float _ _, Value.float _ _, Value.float _ _]) _ _ _); (rename News _ _ _ _ => N'); (rename Fr _ _ _ _ => F'); refine max3FF rfl (by assumption) (by assumption) (by assumption) F' N' (max_comp _ _ _ (by omega) (by omega) (by omega) (by omega)) ?_; clear F' N'; intro h9 tk9 v9 q9 F9 N9; (try dsimp only); (try k_fold)))
local macro_rules | `(tactic| walk_at "call builtin:min") => `(tactic| (k_here; (with_reducible show wpAny _ _ (call _ [Value.float _ _, Value.float _ _, Value.float _ _]) _ _ _); (rename News _ _ _ _ => N'); (rename Fr _ _ _ _ => F'); refine min3FF rfl (by assumption) (by assumption) (by assumption) F' N' (min_comp _ _ _ (by omega) (by omega) (by omega) (by omega)) ?_; clear F' N'; intro h9 tk9 v9 q9 F9 N9; (try dsimp only); (try k_fold)))
local macro_rules | `(tactic| walk_at "compareOp Eq float float") => `(tactic| first
  | with_reducible refine eqFF (min_ne _ _ (by omega) (by omega) (by omega) (by omega)) ?_
  | with_reducible refine eqFF (comp_val _ _ _ (by omega) (by omega) (by omega) (by omega) (by omega) (by omega)) ?_)
local macro_rules | `(tactic| walk_at "binaryOp Sub float float") => `(tactic| first
  | with_reducible refine subFF (val_sub16 _ _ (by omega) (by omega) (by omega) (by omega)) ?_
  | with_reducible refine subFF (val_sub _ _ _ (by omega) (by omega) (by omega) (by omega) (by omega) (by omega)) ?_
  | with_reducible refine subFF (fr_subR _) ?_
  | with_reducible refine subFF (fr_subG _) ?_
  | with_reducible refine subFF (fr_subB _) ?_)
local macro_rules | `(tactic| walk_at "binaryOp Add float float") => `(tactic| first
  | with_reducible refine addFF (two_fr _ (by omega) (by omega)) ?_
  | with_reducible refine addFF (four_fr _ (by omega) (by omega)) ?_)
local macro_rules | `(tactic| walk_at "binaryOp Div float float") => `(tactic| first
  | (refine divFF rfl (val_nz _ (by omega) (by omega)) (rng_val _ _ (by omega) (by omega) (by omega) (by omega)) ?_)
  | (refine divFF rfl (rng_nz _ _ (by omega) (by omega) (by omega) (by omega)) (d_rng _ _ _ (by omega) (by omega) (by omega) (by omega) (by omega) (by omega)) ?_)
  | (refine divFF rfl (by decide +kernel) (fr_div6 _ (by omega) (by omega) (by omega)) ?_))
local macro_rules | `(tactic| walk_at "binaryOp Mod float float") => `(tactic| (refine modFF rfl (by decide +kernel) (hue_mod1 _ (by omega) (by omega)) ?_))
theorem rgbC (w : World) (s₀ : Shared) (mg mb : Str → Option Value) (n q b : Int) (hq : 1 ≤ q ∧ q < 5) (hb : 1 ≤ b ∧ b < 3) (t₁ t₂ t₃ : Tok) (p₁ : 0 < t₁) (p₂ : 0 < t₂) (p₃ : 0 < t₃) :
  Cl3 w s₀ mg mb 21 1 8 [.float (compF b q (fall n 0)) t₁, .float (compF b q (fall n 1)) t₂, .float (compF b q (fall n 2)) t₃] (hueF (n % 32)) (satF q) (valF b) := by
  have b0 := fall_bd n 0
  have b1 := fall_bd n 1
  have b2 := fall_bd n 2
  have cR := fallR n
  have cG := fallG n
  have cB := fallB n
  dsimp only [Cl3]
  k_fill
  w_on
  w_top on
  w_strict (
    intros
    rename_i hret
    refine wpAny_call ?_
    k_dflt cell_enter
    k_steps
    all_goals (refine end3 hret (by k_asm) (by k_asm) (allLt_of (by assumption)) (by first | assumption | exact Nat.succ_pos _) (by first | assumption | exact Nat.succ_pos _) (by first | assumption | exact Nat.succ_pos _) ?_ rfl rfl; exact congrArg hueF (by omega)))
end
section
local macro_rules | `(tactic| walk_at "mine V") => `(tactic| (intro t9 h9 tk9 F9 N9; (try dsimp only); (try k_fold)))
local macro_rules | `(tactic| walk_at "binaryOp BitAnd int int") => `(tactic| first | with_reducible refine and31 ?_ | with_reducible refine and127 ?_ | with_reducible refine and128 ?_)
local macro_rules | `(tactic| walk_at "binaryOp BitOr int int") => `(tactic| first | with_reducible refine or128 ?_ | with_reducible refine or32 ?_)
local macro_rules | `(tactic| walk_at "call builtin:chr") => `(tactic| refine chr_of_range (by omega) (by omega) ?_)
local macro_rules | `(tactic| walk_at "call builtin:ord") => `(tactic| refine P.ord_of_char ?_)
local macro_rules | `(tactic| walk_at "call ref") => `(tactic| (k_here; k_dflt (refine useV (ctoiI _ _ _ _ _ _) (by k_asm) (by k_asm) (by k_asm) (by k_asm) (by k_asm) (by first | exact rfl | assumption) (by ktr_room) (by ktr_units) ?_; walk_at "mine V")))
local macro_rules | `(tactic| walk_at "call ref") => `(tactic| (k_here; k_dflt (refine useV (ctoiS _ _ _ _ _ _) (by k_asm) (by k_asm) (by k_asm) (by k_asm) (by k_asm) (by first | exact rfl | assumption) (by ktr_room) (by ktr_units) ?_; walk_at "mine V")))
theorem isprintI (w : World) (s₀ : Shared) (mg mb : Str → Option Value) (a : Int) (t₁ : Tok) :
  ClV w s₀ mg mb 42 2 16 [.int a t₁] (fun _ => .bool (decide (32 ≤ a ∧ a ≤ 126))) := by
  dsimp only [ClV]
  k_fill
  w_on
  w_top on
  w_strict (
    intros
    rename_i hret
    refine wpAny_call ?_
    k_dflt cell_enter
    k_steps
    all_goals (refine endB hret (by k_asm) (by k_asm) (by clear hret; first | omega | (apply decide_eq_decide.2; omega))))
local macro_rules | `(tactic| walk_at "call ref") => `(tactic| (k_here; k_dflt (refine useV (isprintI _ _ _ _ _ _) (by k_asm) (by k_asm) (by k_asm) (by k_asm) (by k_asm) (by first | exact rfl | assumption) (by ktr_room) (by ktr_units) ?_; walk_at "mine V")))
theorem unctrlI (w : World) (s₀ : Shared) (mg mb : Str → Option Value) (a : Int) (t₁ : Tok) :
  ClV w s₀ mg mb 63 3 24 [.int a t₁] (fun t => .str (shown a) t) := by
  dsimp only [ClV]
  k_fill
  w_on
  w_top on
  w_strict (
    intros
    rename_i hret
    refine wpAny_call ?_
    k_dflt cell_enter
    k_steps
    all_goals ((try simp only [decide_eq_true_eq, decide_eq_false_iff_not, not_and_or] at *); first | (exfalso; clear hret; omega) | (refine endS hret (by k_asm) (by k_asm) ?_; clear hret; (try simp only [sEx, sUp, sQu, sUQ, sNo, app01, app11, app12, app21]); first | exact sh8 (by omega) (by omega) (by omega) | exact sh9 (by omega) (by omega) (by omega) (by omega) | exact sh7 (by omega) (by omega) | exact sh1 (by omega) (by omega) (by omega) | exact sh2 (by omega) (by omega) (by omega) (by omega) | exact sh3 (by omega) (by omega) (by omega) | exact sh4 (by omega) (by omega) (by omega) | exact sh5 (by omega) (by omega) (by omega) (by omega) | exact sh6 (by omega) (by omega) (by omega) (by omega))))
theorem unctrlS (w : World) (s₀ : Shared) (mg mb : Str → Option Value) (c : Nat) (t₁ : Tok) :
  ClV w s₀ mg mb 63 3 24 [.str ⟨#[c]⟩ t₁] (fun t => .str (shown c) t) := by
  dsimp only [ClV]
  k_fill
  w_on
  w_top on
  w_strict (
    intros
    rename_i hret
    refine wpAny_call ?_
    k_dflt cell_enter
    k_steps
    all_goals ((try simp only [decide_eq_true_eq, decide_eq_false_iff_not, not_and_or] at *); first | (exfalso; clear hret; omega) | (refine endS hret (by k_asm) (by k_asm) ?_; clear hret; (try simp only [sEx, sUp, sQu, sUQ, sNo, app01, app11, app12, app21]); first | exact sh8 (by omega) (by omega) (by omega) | exact sh9 (by omega) (by omega) (by omega) (by omega) | exact sh7 (by omega) (by omega) | exact sh1 (by omega) (by omega) (by omega) | exact sh2 (by omega) (by omega) (by omega) (by omega) | exact sh3 (by omega) (by omega) (by omega) | exact sh4 (by omega) (by omega) (by omega) | exact sh5 (by omega) (by omega) (by omega) (by omega) | exact sh6 (by omega) (by omega) (by omega) (by omega))))
theorem shownI (w : World) (s₀ : Shared) (mg mb : Str → Option Value) (a : Int) (t₁ : Tok) :
  ClV w s₀ mg mb 70 3 24 [.int a t₁] (fun t => .str (shown a) t) := by
  dsimp only [ClV]
  k_fill
  w_on
  w_top on
  w_strict (
    intros
    rename_i hret
    refine wpAny_call ?_
    k_dflt cell_enter
    k_steps
    all_goals (simp only [fm128, fm256] at *; first | (exfalso; clear hret; omega) | (refine endS hret (by k_asm) (by k_asm) ?_; clear hret; (try rw [tabI _ (by omega) (by omega)]); (try simp only [sEx, sUp, sQu, sUQ, sNo, app01, app11, app12, app21]); first | exact sh8 (by omega) (by omega) (by omega) | exact sh9 (by omega) (by omega) (by omega) (by omega) | exact sh7 (by omega) (by omega) | exact sh1 (by omega) (by omega) (by omega) | exact sh2 (by omega) (by omega) (by omega) (by omega) | exact sh3 (by omega) (by omega) (by omega) | exact sh4 (by omega) (by omega) (by omega) | exact sh5 (by omega) (by omega) (by omega) (by omega) | exact sh6 (by omega) (by omega) (by omega) (by omega))))
end
section
theorem val_max {v : UInt64} : (if Float64.cmp v v == some .lt then (if Float64.cmp v v == some .lt then v else v) else (if Float64.cmp v v == some .lt then v else v)) = v := by
  split <;> rfl
local macro_rules | `(tactic| walk_at "execs cons") => `(tactic| (k_here; refine genT (Nat.succ_pos _) ?_; intro tk9 hq9))
local macro_rules | `(tactic| walk_at "call builtin:max") => `(tactic| (k_here; (with_reducible show wpAny _ _ (call _ [Value.float _ _, Value.float _ _, Value.float _ _]) _ _ _); (rename News _ _ _ _ => N'); (rename Fr _ _ _ _ => F'); refine max3FF rfl (by assumption) (by assumption) (by assumption) F' N' val_max ?_; clear F' N'; intro h9 tk9 v9 q9 F9 N9; (try dsimp only); (try k_fold)))
local macro_rules | `(tactic| walk_at "call builtin:min") => `(tactic| (k_here; (with_reducible show wpAny _ _ (call _ [Value.float _ _, Value.float _ _, Value.float _ _]) _ _ _); (rename News _ _ _ _ => N'); (rename Fr _ _ _ _ => F'); refine min3FF rfl (by assumption) (by assumption) (by assumption) F' N' val_max ?_; clear F' N'; intro h9 tk9 v9 q9 F9 N9; (try dsimp only); (try k_fold)))
local macro_rules | `(tactic| walk_at "compareOp Eq float float") => `(tactic| first
  | with_reducible refine eqFF (val_self _ (by omega) (by omega)) ?_
  | with_reducible refine eqFF (k := true) (by decide +kernel) ?_)
local macro_rules | `(tactic| walk_at "binaryOp Sub float float") => `(tactic| with_reducible refine subFF rfl ?_)
theorem hsvG (w : World) (s₀ : Shared) (mg mb : Str → Option Value) (x v : UInt64) (t₁ t₂ t₃ : Tok) (p₃ : 0 < t₃) :
  Cl3 w s₀ mg mb 28 1 8 [.float x t₁, .float 0 t₂, .float v t₃] v v v := by
  dsimp only [Cl3]
  k_fill
  w_on
  w_top on
  w_strict (
    intros
    rename_i hret
    refine wpAny_call ?_
    k_dflt cell_enter
    k_steps
    all_goals (refine end3 hret (by k_asm) (by k_asm) (allLt_of (by assumption)) (by first | assumption | exact Nat.succ_pos _) (by first | assumption | exact Nat.succ_pos _) (by first | assumption | exact Nat.succ_pos _) rfl rfl rfl))
theorem rgbG (w : World) (s₀ : Shared) (mg mb : Str → Option Value) (b : Int) (hb : 1 ≤ b ∧ b < 3) (t₁ t₂ t₃ : Tok) (p₁ : 0 < t₁) (p₂ : 0 < t₂) (p₃ : 0 < t₃) :
  Cl3 w s₀ mg mb 21 1 8 [.float (valF b) t₁, .float (valF b) t₂, .float (valF b) t₃] 0 0 (valF b) := by
  dsimp only [Cl3]
  k_fill
  w_on
  w_top on
  w_strict (
    intros
    rename_i hret
    refine wpAny_call ?_
    k_dflt cell_enter
    k_steps
    all_goals (refine end3 hret (by k_asm) (by k_asm) (allLt_of (by assumption)) (by first | assumption | exact Nat.succ_pos _) (by first | assumption | exact Nat.succ_pos _) (by first | assumption | exact Nat.succ_pos _) rfl rfl rfl))
end
section
structure CV (w : World) (s₀ : Shared) (mg mb : Str → Option Value) (f : Addr) (d u : Nat) (vs : List Value) (R : Tok → Value) : Prop where
  c : ClV w s₀ mg mb f d u vs R
structure CT (w : World) (s₀ : Shared) (mg mb : Str → Option Value) (f : Addr) (d u : Nat) (v : Tok → Value) (R : Tok → Value) : Prop where
  c : ∀ t, ClV w s₀ mg mb f d u [v t] R
section
variable {a key turns n q b : Int} {x0 x1 x2 hu hm sa va : UInt64}
theorem hsvX (w : World) (s₀ : Shared) (mg mb : Str → Option Value) (F : Fx a key turns n q b x0 x1 x2 hu hm sa va) (t₁ t₂ t₃ : Tok) (p₃ : 0 < t₃) :
  Cl3 w s₀ mg mb 28 1 8 [.float hu t₁, .float sa t₂, .float va t₃] x0 x1 x2 := by
  obtain ⟨C, nb, rfl, rfl, rfl, rfl, rfl, rfl, rfl⟩ := F
  exact hsvC w s₀ mg mb n q b nb C.qb C.bb t₁ t₂ t₃ p₃
theorem rgbX (w : World) (s₀ : Shared) (mg mb : Str → Option Value) (F : Fx a key turns n q b x0 x1 x2 hu hm sa va) (t₁ t₂ t₃ : Tok) (p₁ : 0 < t₁) (p₂ : 0 < t₂) (p₃ : 0 < t₃) :
  Cl3 w s₀ mg mb 21 1 8 [.float x0 t₁, .float x1 t₂, .float x2 t₃] hm sa va := by
  obtain ⟨C, nb, rfl, rfl, rfl, rfl, rfl, rfl, rfl⟩ := F
  exact rgbC w s₀ mg mb n q b C.qb C.bb t₁ t₂ t₃ p₁ p₂ p₃
theorem rgbGX (w : World) (s₀ : Shared) (mg mb : Str → Option Value) (F : Fx a key turns n q b x0 x1 x2 hu hm sa va) (t₁ t₂ t₃ : Tok) (p₁ : 0 < t₁) (p₂ : 0 < t₂) (p₃ : 0 < t₃) :
  Cl3 w s₀ mg mb 21 1 8 [.float va t₁, .float va t₂, .float va t₃] 0 0 va := by
  obtain ⟨C, nb, rfl, rfl, rfl, rfl, rfl, rfl, rfl⟩ := F
  exact rgbG w s₀ mg mb b C.bb t₁ t₂ t₃ p₁ p₂ p₃
end
theorem booked39 {P : Params} {h₀ h : Heap} {L : Addr} {m : Str → Option Value} {p : Program} {loose : List Str} {mean : ExcName → Option Value} {mg mb : Str → Option Value} (X : (hd.heap_39 P).In h₀) (F : Fr h₀ L h m) (T : Top p loose mean mg mb h₀) : NoneBooked h := by
  obtain ⟨mc, ns, _⟩ := T.nolimit.keeps F.keep
  exact ⟨mc, ns, ns_none_of (Frag.In.keeps X F.keep) ns rfl⟩
theorem beqS {x y : Int} (h : x = y) : (shown x == shown y) = true := by subst h; exact beq_self_eq_true _
theorem endA {h₀ h' : Heap} {L : Addr} {m : Str → Option Value} {s : Shared} {Q : Value → Shared → Prop} {y : Bool} {tk : Nat}
    (hend : ∀ (h' : Heap) (tk' : Nat), Fr h₀ L h' m → (∀ b o, s.heap.get? b = some o → h'.get? b = some o) → Q (.bool true) { s with heap := h', toks := tk' })
    (F : Fr h₀ L h' m) (kp : ∀ b o, s.heap.get? b = some o → h'.get? b = some o) (e : y = true) : Q (.bool y) { s with heap := h', toks := tk } := by
  subst e
  exact hend h' tk F kp
local macro_rules | `(tactic| walk_at "subscriptTail Name Constant ref int") => `(tactic| (k_here; (with_reducible show wpAny _ _ (subscriptTail _ _ (Value.ref _) (Value.int _ _)) _ _ _); kim_at))
local macro_rules | `(tactic| walk_at "execs cons") => `(tactic| (k_here; refine genT (Nat.succ_pos _) ?_; intro tk9 hq9))
local macro_rules | `(tactic| walk_at "binaryOp Mod int int") => `(tactic| with_reducible refine modI (by decide) ?_)
local macro_rules | `(tactic| walk_at "binaryOp FloorDiv int int") => `(tactic| with_reducible refine divI (by decide) (by decide) ?_)
local macro_rules | `(tactic| walk_at "binaryOp Mult int int") => `(tactic| first
  | with_reducible refine mulQ (by assumption) (by omega) ?_
  | with_reducible refine mulB (by assumption) (by omega) ?_)
local macro_rules | `(tactic| walk_at "ite") => `(tactic| (k_here; refine mergeV (by assumption) (by omega) (by omega) (by first | assumption | exact Nat.succ_pos _) ?_; intro t9 tk9 qt9 q9; (try dsimp only)))
local macro_rules | `(tactic| walk_at "binaryOp Div int int") => `(tactic| ((with_reducible show wpAny _ _ (binaryOp _ _ (Value.int 128 _)) _ _ _); (first
  | refine dX0 rfl (by assumption) (by unfold fall; omega) (by first | assumption | exact Nat.succ_pos _) ?_
  | refine dX1 rfl (by assumption) (by unfold fall; omega) (by first | assumption | exact Nat.succ_pos _) ?_
  | refine dX2 rfl (by assumption) (by unfold fall; omega) (by first | assumption | exact Nat.succ_pos _) ?_); intro t9 tk9 qt9 q9; (try dsimp only)))
local macro_rules | `(tactic| walk_at "binaryOp Div int int") => `(tactic| ((fail_if_success (with_reducible show wpAny _ _ (binaryOp _ _ (Value.int 128 _)) _ _ _)); (first
  | refine dHue rfl (by assumption) (by omega) (by first | assumption | exact Nat.succ_pos _) ?_
  | refine dTold rfl (by assumption) (by omega) (by first | assumption | exact Nat.succ_pos _) ?_
  | refine dSat rfl (by assumption) (by omega) (by first | assumption | exact Nat.succ_pos _) ?_
  | refine dVal rfl (by assumption) (by omega) (by first | assumption | exact Nat.succ_pos _) ?_); intro t9 tk9 qt9 q9; (try dsimp only)))
local macro_rules | `(tactic| walk_at "binaryOp Mult float int") => `(tactic| ((first | with_reducible refine mHue (by assumption) ?_ | with_reducible refine mSat (by assumption) ?_); intro y9 hy9))
local macro_rules | `(tactic| walk_at "binaryOp Sub float int") => `(tactic| (with_reducible refine sOne (by assumption) (by omega) ?_; intro y9 hy9))
local macro_rules | `(tactic| walk_at "call type:int") => `(tactic| with_reducible refine iOf (by assumption) (by omega) ?_)
local macro_rules | `(tactic| walk_at "compareOp Eq float float") => `(tactic| with_reducible refine eqOne (by assumption) ?_)
local macro_rules | `(tactic| walk_at "call builtin:max") => `(tactic| (k_here; (with_reducible show wpAny _ _ (call _ [Value.int _ _, Value.int _ _]) _ _ _); refine max2I rfl (by k_asm) (by k_asm) (by first | assumption | exact Nat.succ_pos _) ?_; intro h9 tk9 v9 q9 F9 N9; (try dsimp only); (try k_fold)))
local macro_rules | `(tactic| walk_at "call builtin:min") => `(tactic| (k_here; (with_reducible show wpAny _ _ (call _ [Value.int _ _, Value.int _ _]) _ _ _); refine min2I rfl (by k_asm) (by k_asm) (by first | assumption | exact Nat.succ_pos _) ?_; intro h9 tk9 v9 q9 F9 N9; (try dsimp only); (try k_fold)))
local macro_rules | `(tactic| walk_at "compareOp NotEq ref ref") => `(tactic| (k_here; k_dflt (refine ne3 (News.get (by k_asm) (by k_mem)) (News.get (by k_asm) (by k_mem)) (by ktr_units) (booked39 (by k_asm) (by k_asm) (by k_asm)) (by first | assumption | exact Nat.succ_pos _) (by first | assumption | exact Nat.succ_pos _) (by first | assumption | exact Nat.succ_pos _) (by first | assumption | exact Nat.succ_pos _) (by first | assumption | exact Nat.succ_pos _) (by first | assumption | exact Nat.succ_pos _) (by first | exact Fx.s0 (by assumption) | exact Fx.s1 (by assumption) | exact Fx.s2 (by assumption) | exact Fx.sm (by assumption) | exact Fx.ss (by assumption) | exact Fx.sv (by assumption) | exact zero_self) (by first | exact Fx.s0 (by assumption) | exact Fx.s1 (by assumption) | exact Fx.s2 (by assumption) | exact Fx.sm (by assumption) | exact Fx.ss (by assumption) | exact Fx.sv (by assumption) | exact zero_self) (by first | exact Fx.s0 (by assumption) | exact Fx.s1 (by assumption) | exact Fx.s2 (by assumption) | exact Fx.sm (by assumption) | exact Fx.ss (by assumption) | exact Fx.sv (by assumption) | exact zero_self) ?_)))
local macro_rules | `(tactic| walk_at "call builtin:list.append") => `(tactic| (k_here; (k_dflt (show wpAny _ _ (call (Value.builtin _) [Value.ref _, _]) _ _ _)); k_dflt (refine append_K (by k_asm) (by k_asm) (by k_upd) ?_ (by size_fits)); intro h9 F9 N9; (try dsimp only); (try k_fold)))
local macro_rules | `(tactic| walk_at "call ref") => `(tactic| (k_here; (with_reducible show wpAny _ _ (call (Value.ref 49) [_]) _ _ _); k_dflt (first
  | (refine useVp (CV.c (by assumption)) (by k_asm) (by k_asm) (by k_asm) (by k_asm) (by k_asm) (by first | exact rfl | assumption) (by ktr_room) (by ktr_units) (by first | assumption | exact Nat.succ_pos _) ?_; intro t9 h9 tk9 q9 F9 N9; (try dsimp only); (try k_fold))
  | (refine useV (CV.c (by assumption)) (by k_asm) (by k_asm) (by k_asm) (by k_asm) (by k_asm) (by first | exact rfl | assumption) (by ktr_room) (by ktr_units) ?_; intro t9 h9 tk9 F9 N9; (try dsimp only); (try k_fold)))))
local macro_rules | `(tactic| walk_at "call ref") => `(tactic| (k_here; (with_reducible show wpAny _ _ (call (Value.ref 56) [_]) _ _ _); k_dflt (first
  | (refine useVp (CV.c (by assumption)) (by k_asm) (by k_asm) (by k_asm) (by k_asm) (by k_asm) (by first | exact rfl | assumption) (by ktr_room) (by ktr_units) (by first | assumption | exact Nat.succ_pos _) ?_; intro t9 h9 tk9 q9 F9 N9; (try dsimp only); (try k_fold))
  | (refine useV (CV.c (by assumption)) (by k_asm) (by k_asm) (by k_asm) (by k_asm) (by k_asm) (by first | exact rfl | assumption) (by ktr_room) (by ktr_units) ?_; intro t9 h9 tk9 F9 N9; (try dsimp only); (try k_fold)))))
local macro_rules | `(tactic| walk_at "call ref") => `(tactic| (k_here; (with_reducible show wpAny _ _ (call (Value.ref 63) [_]) _ _ _); k_dflt (first
  | (refine useVp (CV.c (by assumption)) (by k_asm) (by k_asm) (by k_asm) (by k_asm) (by k_asm) (by first | exact rfl | assumption) (by ktr_room) (by ktr_units) (by first | assumption | exact Nat.succ_pos _) ?_; intro t9 h9 tk9 q9 F9 N9; (try dsimp only); (try k_fold))
  | (refine useV (CV.c (by assumption)) (by k_asm) (by k_asm) (by k_asm) (by k_asm) (by k_asm) (by first | exact rfl | assumption) (by ktr_room) (by ktr_units) ?_; intro t9 h9 tk9 F9 N9; (try dsimp only); (try k_fold)))))
local macro_rules | `(tactic| walk_at "call ref") => `(tactic| (k_here; (with_reducible show wpAny _ _ (call (Value.ref 35) [_]) _ _ _); k_dflt (first
  | (refine useVp (CV.c (by assumption)) (by k_asm) (by k_asm) (by k_asm) (by k_asm) (by k_asm) (by first | exact rfl | assumption) (by ktr_room) (by ktr_units) (by first | assumption | exact Nat.succ_pos _) ?_; intro t9 h9 tk9 q9 F9 N9; (try dsimp only); (try k_fold))
  | (refine useV (CV.c (by assumption)) (by k_asm) (by k_asm) (by k_asm) (by k_asm) (by k_asm) (by first | exact rfl | assumption) (by ktr_room) (by ktr_units) ?_; intro t9 h9 tk9 F9 N9; (try dsimp only); (try k_fold)))))
local macro_rules | `(tactic| walk_at "call ref") => `(tactic| (k_here; (with_reducible show wpAny _ _ (call (Value.ref 35) [_]) _ _ _); k_dflt (first
  | (refine useVp (CT.c (by assumption) _) (by k_asm) (by k_asm) (by k_asm) (by k_asm) (by k_asm) (by first | exact rfl | assumption) (by ktr_room) (by ktr_units) (by first | assumption | exact Nat.succ_pos _) ?_; intro t9 h9 tk9 q9 F9 N9; (try dsimp only); (try k_fold))
  | (refine useV (CT.c (by assumption) _) (by k_asm) (by k_asm) (by k_asm) (by k_asm) (by k_asm) (by first | exact rfl | assumption) (by ktr_room) (by ktr_units) ?_; intro t9 h9 tk9 F9 N9; (try dsimp only); (try k_fold)))))
local macro_rules | `(tactic| walk_at "call ref") => `(tactic| (k_here; (with_reducible show wpAny _ _ (call (Value.ref 49) [Value.int _ _]) _ _ _); k_dflt (first
  | (refine useVp (ctrlI _ _ _ _ _ _) (by k_asm) (by k_asm) (by k_asm) (by k_asm) (by k_asm) (by first | exact rfl | assumption) (by ktr_room) (by ktr_units) (by first | assumption | exact Nat.succ_pos _) ?_; intro t9 h9 tk9 q9 F9 N9; (try dsimp only); (try k_fold))
  | (refine useV (ctrlI _ _ _ _ _ _) (by k_asm) (by k_asm) (by k_asm) (by k_asm) (by k_asm) (by first | exact rfl | assumption) (by ktr_room) (by ktr_units) ?_; intro t9 h9 tk9 F9 N9; (try dsimp only); (try k_fold)))))
local macro_rules | `(tactic| walk_at "call ref") => `(tactic| (k_here; (with_reducible show wpAny _ _ (call (Value.ref 56) [Value.int _ _]) _ _ _); k_dflt (first
  | (refine useVp (altI _ _ _ _ _ _) (by k_asm) (by k_asm) (by k_asm) (by k_asm) (by k_asm) (by first | exact rfl | assumption) (by ktr_room) (by ktr_units) (by first | assumption | exact Nat.succ_pos _) ?_; intro t9 h9 tk9 q9 F9 N9; (try dsimp only); (try k_fold))
  | (refine useV (altI _ _ _ _ _ _) (by k_asm) (by k_asm) (by k_asm) (by k_asm) (by k_asm) (by first | exact rfl | assumption) (by ktr_room) (by ktr_units) ?_; intro t9 h9 tk9 F9 N9; (try dsimp only); (try k_fold)))))
local macro_rules | `(tactic| walk_at "call ref") => `(tactic| (k_here; (with_reducible show wpAny _ _ (call (Value.ref 63) [Value.int _ _]) _ _ _); k_dflt (first
  | (refine useVp (unctrlI _ _ _ _ _ _) (by k_asm) (by k_asm) (by k_asm) (by k_asm) (by k_asm) (by first | exact rfl | assumption) (by ktr_room) (by ktr_units) (by first | assumption | exact Nat.succ_pos _) ?_; intro t9 h9 tk9 q9 F9 N9; (try dsimp only); (try k_fold))
  | (refine useV (unctrlI _ _ _ _ _ _) (by k_asm) (by k_asm) (by k_asm) (by k_asm) (by k_asm) (by first | exact rfl | assumption) (by ktr_room) (by ktr_units) ?_; intro t9 h9 tk9 F9 N9; (try dsimp only); (try k_fold)))))
local macro_rules | `(tactic| walk_at "call ref") => `(tactic| (k_here; (with_reducible show wpAny _ _ (call (Value.ref 70) [Value.int _ _]) _ _ _); k_dflt (first
  | (refine useVp (shownI _ _ _ _ _ _) (by k_asm) (by k_asm) (by k_asm) (by k_asm) (by k_asm) (by first | exact rfl | assumption) (by ktr_room) (by ktr_units) (by first | assumption | exact Nat.succ_pos _) ?_; intro t9 h9 tk9 q9 F9 N9; (try dsimp only); (try k_fold))
  | (refine useV (shownI _ _ _ _ _ _) (by k_asm) (by k_asm) (by k_asm) (by k_asm) (by k_asm) (by first | exact rfl | assumption) (by ktr_room) (by ktr_units) ?_; intro t9 h9 tk9 F9 N9; (try dsimp only); (try k_fold)))))
local macro_rules | `(tactic| walk_at "call ref") => `(tactic| (k_here; (with_reducible show wpAny _ _ (call (Value.ref 28) [Value.float _ _, Value.float _ _, Value.float _ _]) _ _ _); k_dflt (refine use3p (hsvX _ _ _ _ (by assumption) _ _ _ (by first | assumption | exact Nat.succ_pos _)) (by k_asm) (by k_asm) (by k_asm) (by k_asm) (by k_asm) (by first | exact rfl | assumption) (by ktr_room) (by ktr_units) (by first | assumption | exact Nat.succ_pos _) ?_; intro D9 ta9 tb9 tc9 c9 h9 tk9 q9 qa9 qb9 qc9 F9 N9 l9; (try dsimp only); (try k_fold))))
local macro_rules | `(tactic| walk_at "call ref") => `(tactic| (k_here; (with_reducible show wpAny _ _ (call (Value.ref 28) [Value.float _ _, Value.float _ _, Value.float _ _]) _ _ _); k_dflt (refine use3p (hsvG _ _ _ _ _ _ _ _ _ (by first | assumption | exact Nat.succ_pos _)) (by k_asm) (by k_asm) (by k_asm) (by k_asm) (by k_asm) (by first | exact rfl | assumption) (by ktr_room) (by ktr_units) (by first | assumption | exact Nat.succ_pos _) ?_; intro D9 ta9 tb9 tc9 c9 h9 tk9 q9 qa9 qb9 qc9 F9 N9 l9; (try dsimp only); (try k_fold))))
local macro_rules | `(tactic| walk_at "call ref") => `(tactic| (k_here; (with_reducible show wpAny _ _ (call (Value.ref 21) [Value.float _ _, Value.float _ _, Value.float _ _]) _ _ _); k_dflt (refine use3p (rgbX _ _ _ _ (by assumption) _ _ _ (by first | assumption | exact Nat.succ_pos _) (by first | assumption | exact Nat.succ_pos _) (by first | assumption | exact Nat.succ_pos _)) (by k_asm) (by k_asm) (by k_asm) (by k_asm) (by k_asm) (by first | exact rfl | assumption) (by ktr_room) (by ktr_units) (by first | assumption | exact Nat.succ_pos _) ?_; intro D9 ta9 tb9 tc9 c9 h9 tk9 q9 qa9 qb9 qc9 F9 N9 l9; (try dsimp only); (try k_fold))))
local macro_rules | `(tactic| walk_at "call ref") => `(tactic| (k_here; (with_reducible show wpAny _ _ (call (Value.ref 21) [Value.float _ _, Value.float _ _, Value.float _ _]) _ _ _); k_dflt (refine use3p (rgbGX _ _ _ _ (by assumption) _ _ _ (by first | assumption | exact Nat.succ_pos _) (by first | assumption | exact Nat.succ_pos _) (by first | assumption | exact Nat.succ_pos _)) (by k_asm) (by k_asm) (by k_asm) (by k_asm) (by k_asm) (by first | exact rfl | assumption) (by ktr_room) (by ktr_units) (by first | assumption | exact Nat.succ_pos _) ?_; intro D9 ta9 tb9 tc9 c9 h9 tk9 q9 qa9 qb9 qc9 F9 N9 l9; (try dsimp only); (try k_fold))))
theorem agree0 (w : World) (s₀ : Shared) (mg mb : Str → Option Value) (thing : Value) (Lo Hi : Tok → Value) (a key turns n q b : Int) (x0 x1 x2 hu hm sa va : UInt64) (ha : -(2 ^ 63) ≤ a ∧ a < 2 ^ 63) (hk : -(2 ^ 63) ≤ key ∧ key < 2 ^ 63) (ht : 0 ≤ turns ∧ turns < 26)
   (C : Cx a key turns n q b) (FX : Fx a key turns n q b x0 x1 x2 hu hm sa va) (hn : n = a % 32 + key % 32 + 32 * turns) (hq : q = 1 + a / 32 % 4) (hb : b = 1 + a / 128 % 2)
   (c1 : CV w s₀ mg mb 49 2 16 [thing] Lo) (c2 : CT w s₀ mg mb 35 1 8 Lo (fun t => .int (a % 32) t)) (c3 : CV w s₀ mg mb 56 2 16 [thing] Hi) (c4 : CT w s₀ mg mb 35 1 8 Hi (fun t => .int (a + 128 - a / 128 % 2 * 128) t))
   (c5 : CV w s₀ mg mb 35 1 8 [thing] (fun t => .int a t)) (c6 : CV w s₀ mg mb 63 3 24 [thing] (fun t => .str (shown a) t)) (t₂ t₃ t₄ : Tok) :
  ClV w s₀ mg mb 77 4 32 [thing, .int a t₂, .int key t₃, .int turns t₄] (fun _ => .bool true) := by
  dsimp only [ClV]
  k_fill
  w_on
  w_top on
  w_strict (
    intros
    rename_i hret
    rename News _ _ _ _ => hN0
    rename Fr _ _ _ _ => hF0
    have hend := fun h' tk' F kp => hret 0 h' tk' F (hN0.grown kp)
    refine wpAny_call ?_
    k_dflt (refine' code_defG (news := []) ?k1 hF0 ?k3 (fun p hp => nomatch hp) ?k5 ?kA ?kF ?kK ?k6 ?k7 ?k8 ?k9 ?kB ?_ ?c2 ?c3 ?c4 ?c5; (case kA => exact rfl); (case kF => exact rfl); (case kK => assumption); (case k1 => k_asm); (case k3 => k_asm); (case k5 => k_asm); (case k6 => k_is); (case k7 => k_is); (case k8 => ktr_room); (case k9 => exact BindsTo.of_eq rfl); (case c5 => decide); (case kB => exact locs rfl); (case c2 => exact rfl); (case c3 => exact rfl); (case c4 => exact rfl); k_whole)
    intro g' L' h' FG' F' N' B' X' T' kG'
    (try dsimp only)
    (try k_lift B')
    have hkeep : ∀ (h2 : Heap) (m2 : Str → Option Value), Fr g' L' h2 m2 → ∀ b o, _ → h2.get? b = some o := fun h2 m2 F2 b o e => F2.keep b o (kG' b o e (by simp))
    clear hret hN0 hF0 kG'
    (try k_fold)
    k_steps
    all_goals (refine endA hend (by k_asm) (hkeep _ _ (by assumption)) (beqS (by omega))))
end
section
theorem agreeI (w : World) (s₀ : Shared) (mg mb : Str → Option Value) (a key turns : Int) (ha : -(2 ^ 63) ≤ a ∧ a < 2 ^ 63) (hk : -(2 ^ 63) ≤ key ∧ key < 2 ^ 63) (ht : 0 ≤ turns ∧ turns < 26) (t₁ t₂ t₃ t₄ : Tok) :
  ClV w s₀ mg mb 77 4 32 [.int a t₁, .int a t₂, .int key t₃, .int turns t₄] (fun _ => .bool true) :=
  agree0 w s₀ mg mb (.int a t₁) (fun t => .int (a % 32) t) (fun t => .int (a + 128 - a / 128 % 2 * 128) t) a key turns _ _ _ _ _ _ _ _ _ _ ha hk ht ⟨rfl, rfl, rfl⟩
    ⟨⟨rfl, rfl, rfl⟩, by omega, rfl, rfl, rfl, rfl, rfl, rfl, rfl⟩ rfl rfl rfl ⟨ctrlI w s₀ mg mb a t₁⟩ ⟨fun t => ctoiI w s₀ mg mb _ t⟩ ⟨altI w s₀ mg mb a t₁⟩ ⟨fun t => ctoiI w s₀ mg mb _ t⟩ ⟨ctoiI w s₀ mg mb a t₁⟩ ⟨unctrlI w s₀ mg mb a t₁⟩ t₂ t₃ t₄
theorem agreeS (w : World) (s₀ : Shared) (mg mb : Str → Option Value) (x key turns : Int) (hx : 0 ≤ x ∧ x < 55296) (hk : -(2 ^ 63) ≤ key ∧ key < 2 ^ 63) (ht : 0 ≤ turns ∧ turns < 26) (t₁ t₂ t₃ t₄ : Tok) :
  ClV w s₀ mg mb 77 4 32 [.str ⟨#[x.toNat]⟩ t₁, .int x t₂, .int key t₃, .int turns t₄] (fun _ => .bool true) := by
  obtain ⟨c, rfl⟩ := Int.eq_ofNat_of_zero_le hx.1
  rw [Int.toNat_natCast]
  have e1 : ((((c : Int) % 32).toNat : Nat) : Int) = (c : Int) % 32 := by omega
  have e2 : ((((c : Int) + 128 - (c : Int) / 128 % 2 * 128).toNat : Nat) : Int) = (c : Int) + 128 - (c : Int) / 128 % 2 * 128 := by omega
  refine agree0 w s₀ mg mb (.str ⟨#[c]⟩ t₁) (fun t => .str ⟨#[((c : Int) % 32).toNat]⟩ t) (fun t => .str ⟨#[((c : Int) + 128 - (c : Int) / 128 % 2 * 128).toNat]⟩ t) c key turns _ _ _ _ _ _ _ _ _ _ (by omega) hk ht ⟨rfl, rfl, rfl⟩
    ⟨⟨rfl, rfl, rfl⟩, by omega, rfl, rfl, rfl, rfl, rfl, rfl, rfl⟩ rfl rfl rfl ⟨ctrlS w s₀ mg mb c t₁⟩ ⟨fun t => ?_⟩ ⟨altS w s₀ mg mb c (by omega) t₁⟩ ⟨fun t => ?_⟩ ⟨ctoiS w s₀ mg mb c t₁⟩ ⟨unctrlS w s₀ mg mb c t₁⟩ t₂ t₃ t₄
  · have := ctoiS w s₀ mg mb (((c : Int) % 32).toNat) t
    rw [e1] at this
    exact this
  · have := ctoiS w s₀ mg mb (((c : Int) + 128 - (c : Int) / 128 % 2 * 128).toNat) t
    rw [e2] at this
    exact this
theorem memB {l : List Int} {x : Int} (h : x ∈ [2, 40, 77, 115, 150, 188, 127, -1] ++ List.map (fun k' => (k' + 9223372036854775808).fmod 18446744073709551616 - 9223372036854775808) l) : -(2 ^ 63) ≤ x ∧ x < 2 ^ 63 := by
  rcases List.mem_append.mp h with h | h
  · simp only [List.mem_cons, List.not_mem_nil, or_false] at h
    omega
  · obtain ⟨k, _, rfl⟩ := List.mem_map.mp h
    simp only [Int.fmod_eq_emod_of_nonneg _ (show (0 : Int) ≤ 18446744073709551616 by decide)]
    omega
theorem keyB {l : List Int} {i : Nat} : -(2 ^ 63) ≤ (List.map (fun k' : Int => (k' + 9223372036854775808).fmod 18446744073709551616 - 9223372036854775808) l ++ [0]).getD i 0 ∧ (List.map (fun k' : Int => (k' + 9223372036854775808).fmod 18446744073709551616 - 9223372036854775808) l ++ [0]).getD i 0 < 2 ^ 63 := by
  have key : ∀ L : List Int, (∀ x ∈ L, -(2 ^ 63) ≤ x ∧ x < 2 ^ 63) → -(2 ^ 63) ≤ L.getD i 0 ∧ L.getD i 0 < 2 ^ 63 := fun L hL => by
    rw [List.getD_eq_getElem?_getD]
    cases h : L[i]? with
    | none => simp
    | some x => exact hL x (List.mem_of_getElem? h)
  refine key _ fun x hm => ?_
  rcases List.mem_append.mp hm with hm | hm
  · exact memB (List.mem_append_right _ hm)
  · simp only [List.mem_cons, List.not_mem_nil, or_false] at hm
    omega
theorem turnB {l : List Int} {p q : Nat} {t : Int} (hL : [].length (α := Int) + 1 + 1 + 1 + 1 + 1 + 1 + 1 + 1 + (List.map (fun k' => (k' + 9223372036854775808).fmod 18446744073709551616 - 9223372036854775808) (List.take 5 l)).length = p + (q + 1)) (ht : t = 2 * (p : Int)) : 0 ≤ t ∧ t < 25 := by
  have h : (List.take 5 l).length ≤ 5 := List.length_take_le ..
  simp only [List.length_map, List.length_nil] at hL
  omega
end
end Mine
open Mine
local macro_rules | `(tactic| walk_at "binaryOp Pow int int") => `(tactic| first | with_reducible refine pow63 ?_ | with_reducible refine pow64 ?_)
local macro_rules | `(tactic| walk_at "exec For Name BinOp cons nil") => `(tactic| (k_here; (rename Fr _ _ _ _ => lF'); (with_unfolding_all refine' For_invVF lF' ?k1 ?k2 ?_; (case k1 => exact rfl); (case k2 => exact rfl); k_whole)))
local macro_rules | `(tactic| walk_at "binaryOp Mod int int") => `(tactic| ((with_reducible show wpAny _ _ (binaryOp _ _ (Value.int 55296 _)) _ _ _); with_reducible refine modI (by decide) ?_))
local macro_rules | `(tactic| walk_at "call builtin:chr") => `(tactic| refine chr_of_range (by omega) (by omega) ?_)
local macro_rules | `(tactic| walk_at "call ref") => `(tactic| (k_here; (with_reducible show wpAny _ _ (call (Value.ref 77) [Value.int _ _, Value.int _ _, Value.int _ _, Value.int _ _]) _ _ _); k_dflt (refine useV (agreeI _ _ _ _ _ _ _ (memB (by assumption)) keyB (by have hT9 := turnB (by assumption) (by assumption); omega) _ _ _ _) (by k_asm) (by k_asm) (by k_asm) (by k_asm) (by k_asm) (by first | exact rfl | assumption) (by ktr_room) (by ktr_units) ?_; intro t9 h9 tk9 F9 N9; (try dsimp only); (try k_fold))))
local macro_rules | `(tactic| walk_at "call ref") => `(tactic| (k_here; (with_reducible show wpAny _ _ (call (Value.ref 77) [Value.str _ _, Value.int _ _, Value.int _ _, Value.int _ _]) _ _ _); k_dflt (refine useV (agreeS _ _ _ _ _ _ _ (by omega) keyB (by have hT9 := turnB (by assumption) (by assumption); omega) _ _ _ _) (by k_asm) (by k_asm) (by k_asm) (by k_asm) (by k_asm) (by first | exact rfl | assumption) (by ktr_room) (by ktr_units) ?_; intro t9 h9 tk9 F9 N9; (try dsimp only); (try k_fold))))
theorem PySem.Challenge.cw_mj0087_01_holds : PySem.Challenge.rw_mj0087_01.Holds := by
  refine Mine.hd ?_
  k_with "pyIter ref" => k_state (fun pre t => t = 2 * (pre.length : Int)) "turns"
  w_strict (k_go0; (all_goals try k_fold); k_steps)
#print axioms PySem.Challenge.cw_mj0087_01_holds
