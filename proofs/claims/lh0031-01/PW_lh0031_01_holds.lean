import PyProof.Rows.All
import Wide.All
import OpenK.AllK
import Wide.FinOn
import PySem.Challenge.RW_lh0031_01
set_option Elab.async false
set_option maxRecDepth 100000
set_option rowWalk.seconds 0
set_option linter.all false
set_option compiler.extract_closed false
namespace Mine
section
/-! part Num -/
/-! plain numbers: Lucas' test, Fermat's fact for a prime that has passed it -/
def IsP (p : Nat) : Prop := 2 ≤ p ∧ ∀ m, m ∣ p → m = 1 ∨ m = p
def Good (p : Nat) : Prop := 1 < p ∧ ∀ b, 0 < b → b < p → b ^ (p - 1) % p = 1
theorem allp {P : Nat → Prop} {q : Nat} {l : List Nat} (h : P q) (t : ∀ x ∈ l, P x) : ∀ x ∈ q :: l, P x := fun x hx => by
  rcases List.mem_cons.mp hx with rfl | hx
  · exact h
  · exact t x hx
theorem euclid_lemma {p a b : Nat} (hp : IsP p) (h : p ∣ a * b) : p ∣ a ∨ p ∣ b := by
  rcases hp.2 _ (Nat.gcd_dvd_left p a) with e | e
  · right; exact Nat.Coprime.dvd_of_dvd_mul_left (show Nat.gcd p a = 1 from e) h
  · left; rw [← e]; exact Nat.gcd_dvd_right p a
def prodL : List Nat → Nat
  | [] => 1
  | q :: l => q * prodL l
theorem mem_of_dvd_prod {p : Nat} (hp : IsP p) : ∀ {l : List Nat}, (∀ q ∈ l, IsP q) → p ∣ prodL l → p ∈ l
  | [], _, h => by
    have : p = 1 := Nat.dvd_one.mp h
    have := hp.1
    omega
  | q :: l, hl, h => by
    rcases euclid_lemma hp (show p ∣ q * prodL l from h) with h | h
    · rcases (hl q (.head _)).2 p h with e | e
      · have := hp.1; omega
      · subst e; exact .head _
    · exact .tail _ (mem_of_dvd_prod hp (fun x hx => hl x (.tail _ hx)) h)
theorem has_prime : ∀ n : Nat, 2 ≤ n → ∃ p, IsP p ∧ p ∣ n := by
  intro n
  induction n using Nat.strongRecOn with
  | ind n ih =>
    intro h
    by_cases hp : IsP n
    · exact ⟨n, hp, Nat.dvd_refl n⟩
    · have : ∃ m, m ∣ n ∧ m ≠ 1 ∧ m ≠ n := by
        apply Classical.byContradiction
        intro hn
        refine hp ⟨h, fun m hm => ?_⟩
        apply Classical.byContradiction
        intro q
        exact hn ⟨m, hm, fun e => q (.inl e), fun e => q (.inr e)⟩
      obtain ⟨m, hm, h1, h2⟩ := this
      have hle := Nat.le_of_dvd (by omega) hm
      have h0 : m ≠ 0 := by rintro rfl; have := Nat.eq_zero_of_zero_dvd hm; omega
      obtain ⟨p, hp, hd⟩ := ih m (by omega) (by omega)
      exact ⟨p, hp, Nat.dvd_trans hd hm⟩
section
variable {N a : Nat}
theorem pow_one_mul {m : Nat} (hN : 1 < N) (h : a ^ m % N = 1) (k : Nat) : a ^ (m * k) % N = 1 := by
  rw [Nat.pow_mul, Nat.pow_mod, h, Nat.one_pow, Nat.mod_eq_of_lt hN]
theorem pow_one_rest {m r : Nat} (hN : 1 < N) (h : a ^ m % N = 1) (k : Nat) (h2 : a ^ (m * k + r) % N = 1) : a ^ r % N = 1 := by
  rw [Nat.pow_add, Nat.mul_mod, pow_one_mul hN h k, Nat.one_mul, Nat.mod_mod] at h2
  exact h2
theorem pow_one_gcd (hN : 1 < N) : ∀ m n : Nat, a ^ m % N = 1 → a ^ n % N = 1 → a ^ (Nat.gcd m n) % N = 1 := by
  intro m n
  induction m, n using Nat.gcd.induction with
  | H0 n => intro _ h; rw [Nat.gcd_zero_left]; exact h
  | H1 m n hm ih =>
    intro h1 h2
    rw [Nat.gcd_rec]
    refine ih ?_ h1
    exact pow_one_rest hN h1 (n / m) (by rw [Nat.div_add_mod]; exact h2)
theorem order_whole {l : List Nat} (hN : 1 < N) (hl : ∀ q ∈ l, IsP q) (hp : prodL l = N - 1) (h : a ^ (N - 1) % N = 1) (hq : ∀ q ∈ l, a ^ ((N - 1) / q) % N ≠ 1) {k : Nat} (hk : 0 < k) (hkl : k < N - 1) : a ^ k % N ≠ 1 := by
  intro e
  have g := pow_one_gcd hN k (N - 1) e h
  have hd : Nat.gcd k (N - 1) ∣ N - 1 := Nat.gcd_dvd_right _ _
  have hle : Nat.gcd k (N - 1) ≤ k := Nat.le_of_dvd hk (Nat.gcd_dvd_left _ _)
  have hpos : 0 < Nat.gcd k (N - 1) := Nat.gcd_pos_of_pos_left _ hk
  generalize Nat.gcd k (N - 1) = d at g hd hle hpos
  obtain ⟨c, hc⟩ := hd
  have hc2 : 2 ≤ c := by
    rcases Nat.lt_or_ge c 2 with hlt | hge
    · exfalso
      have : d * c ≤ d * 1 := Nat.mul_le_mul_left d (by omega)
      omega
    · exact hge
  obtain ⟨p, pp, hpc⟩ := has_prime c hc2
  have hm : p ∈ l := mem_of_dvd_prod pp hl (by rw [hp, hc]; exact Nat.dvd_trans hpc (Nat.dvd_mul_left c d))
  obtain ⟨c', hc'⟩ := hpc
  refine hq p hm ?_
  have : (N - 1) / p = d * c' := by
    rw [hc, hc', ← Nat.mul_assoc, Nat.mul_comm d p, Nat.mul_assoc, Nat.mul_div_cancel_left _ (by have := pp.1; omega)]
  rw [this]
  exact pow_one_mul hN g c'
theorem pigeon : ∀ (n : Nat) (f : Nat → Nat), (∀ i, i < n → 1 ≤ f i ∧ f i ≤ n) → (∀ i j, i < n → j < n → f i = f j → i = j) → ∀ y, 1 ≤ y → y ≤ n → ∃ i, i < n ∧ f i = y := by
  intro n
  induction n with
  | zero => intro f _ _ y h1 h2; omega
  | succ n ih =>
    intro f hr hi y h1 h2
    have hv := hr n (Nat.lt_succ_self n)
    by_cases hy : y = f n
    · exact ⟨n, Nat.lt_succ_self n, hy.symm⟩
    have ne : ∀ i, i < n → f i ≠ f n := fun i hin e => by have := hi i n (by omega) (by omega) e; omega
    obtain ⟨i, hin, hg⟩ := ih (fun i => if f i = n + 1 then f n else f i) (fun i hin => by
        have := hr i (by omega)
        have := ne i hin
        by_cases q : f i = n + 1
        · simp only [q, if_true]; omega
        · simp only [q, if_false]; omega)
      (fun i j hin hjn e => by
        have a1 := ne i hin
        have a2 := ne j hjn
        by_cases q : f i = n + 1 <;> by_cases q' : f j = n + 1
        · exact hi i j (by omega) (by omega) (by rw [q, q'])
        · simp only [q, q', if_true, if_false] at e; omega
        · simp only [q, q', if_true, if_false] at e; omega
        · simp only [q, q', if_false] at e; exact hi i j (by omega) (by omega) e)
      (if y = n + 1 then f n else y)
      (by by_cases q : y = n + 1 <;> simp only [q, if_true, if_false] <;> omega)
      (by by_cases q : y = n + 1 <;> simp only [q, if_true, if_false] <;> omega)
    have a1 := ne i hin
    refine ⟨i, by omega, ?_⟩
    by_cases q : f i = n + 1 <;> by_cases q' : y = n + 1
    · rw [q, q']
    · simp only [q, q', if_true, if_false] at hg; omega
    · simp only [q, q', if_true, if_false] at hg; omega
    · simp only [q, q', if_false] at hg; exact hg
theorem lucas_good {l : List Nat} (hN : 1 < N) (hl : ∀ q ∈ l, IsP q) (hp : prodL l = N - 1) (h : a ^ (N - 1) % N = 1) (hq : ∀ q ∈ l, a ^ ((N - 1) / q) % N ≠ 1) : Good N := by
  refine ⟨hN, fun b hb hbN => ?_⟩
  have lo : ∀ i, i < N - 1 → 1 ≤ a ^ i % N ∧ a ^ i % N ≤ N - 1 := fun i hi => by
    have hlt := Nat.mod_lt (a ^ i) (show N > 0 by omega)
    refine ⟨?_, by omega⟩
    rcases Nat.eq_zero_or_pos (a ^ i % N) with e | e
    · exfalso
      have : a ^ (i + (N - 1 - i)) % N = 0 := by rw [Nat.pow_add, Nat.mul_mod, e, Nat.zero_mul, Nat.zero_mod]
      rw [show i + (N - 1 - i) = N - 1 by omega, h] at this
      omega
    · exact e
  have lt_inj : ∀ i j, i < j → j < N - 1 → a ^ i % N ≠ a ^ j % N := fun i j hij hj e => by
    refine order_whole hN hl hp h hq (k := j - i) (by omega) (by omega) ?_
    have h1 : (a ^ j * a ^ (N - 1 - i)) % N = 1 := by
      rw [Nat.mul_mod, ← e, ← Nat.mul_mod, ← Nat.pow_add, show i + (N - 1 - i) = N - 1 by omega, h]
    rw [← Nat.pow_add, show j + (N - 1 - i) = (N - 1) * 1 + (j - i) by omega] at h1
    exact pow_one_rest hN h 1 h1
  obtain ⟨k, hk, hkb⟩ := pigeon (N - 1) (fun i => a ^ i % N) lo (fun i j hi hj e => by
    rcases Nat.lt_trichotomy i j with q | q | q
    · exact absurd e (lt_inj i j q hj)
    · exact q
    · exact absurd e.symm (lt_inj j i q hi)) b hb (by omega)
  have hkb' : a ^ k % N = b := hkb
  rw [← hkb', ← Nat.pow_mod, ← Nat.pow_mul, Nat.mul_comm, pow_one_mul hN h k]
theorem isP_of_good (h : Good N) : IsP N := by
  obtain ⟨hN, hb⟩ := h
  refine ⟨hN, fun d hd => ?_⟩
  have hle := Nat.le_of_dvd (by omega) hd
  have h0 : d ≠ 0 := by rintro rfl; have := Nat.eq_zero_of_zero_dvd hd; omega
  by_cases e : d = N
  · exact .inr e
  left
  have h1 := hb d (by omega) (by omega)
  have h2 : d ∣ d ^ (N - 1) := by
    rw [show N - 1 = (N - 2) + 1 by omega, Nat.pow_succ]
    exact Nat.dvd_mul_left _ _
  have h3 := Nat.div_add_mod (d ^ (N - 1)) N
  rw [h1] at h3
  have h4 : d ∣ N * (d ^ (N - 1) / N) := Nat.dvd_trans hd (Nat.dvd_mul_right _ _)
  rw [← h3] at h2
  exact Nat.dvd_one.mp ((Nat.dvd_add_right h4).mp h2)
end
/-- a power modulo N by squaring -/
def pm (N : Nat) : Nat → Nat → Nat → Nat
  | 0, _, _ => 1 % N
  | f + 1, a, e => match e % 2 with
    | 0 => pm N f (a * a % N) (e / 2)
    | _ => pm N f (a * a % N) (e / 2) * a % N
theorem pm_eq (N : Nat) : ∀ f a e, e < 2 ^ f → pm N f a e = a ^ e % N
  | 0, a, e, h => by
    have : e = 0 := by omega
    subst this; rfl
  | f + 1, a, e, h => by
    have ih := pm_eq N f (a * a % N) (e / 2) (by rw [Nat.pow_succ] at h; omega)
    have hd := Nat.div_add_mod e 2
    have key : (a * a % N) ^ (e / 2) % N = a ^ (2 * (e / 2)) % N := by
      rw [← Nat.pow_mod, Nat.pow_mul, Nat.pow_two]
    unfold pm
    rcases Nat.mod_two_eq_zero_or_one e with q | q
    · rw [q]
      show pm N f (a * a % N) (e / 2) = _
      rw [ih, key]
      congr 2; omega
    · rw [q]
      show pm N f (a * a % N) (e / 2) * a % N = _
      rw [ih, key, Nat.mod_mul_mod, ← Nat.pow_succ]
      congr 2; omega
def cert (N a f : Nat) (l : List Nat) : Bool := Nat.blt 1 N && Nat.blt (N - 1) (2 ^ f) && Nat.beq (prodL l) (N - 1) && Nat.beq (pm N f a (N - 1)) 1 && l.all fun q => !Nat.beq (pm N f a ((N - 1) / q)) 1
theorem lucas {N : Nat} (a f : Nat) (l : List Nat) (hl : ∀ q ∈ l, IsP q) (h : cert N a f l = true) : IsP N ∧ Good N := by
  unfold cert at h
  simp only [Bool.and_eq_true, List.all_eq_true, Bool.not_eq_true'] at h
  obtain ⟨⟨⟨⟨h1, h2⟩, h3⟩, h4⟩, h5⟩ := h
  have h1 := Nat.le_of_ble_eq_true h1
  have h2 : N - 1 < 2 ^ f := Nat.le_of_ble_eq_true h2
  have g : Good N := lucas_good (a := a) (l := l) h1 hl (Nat.eq_of_beq_eq_true h3) (by rw [← pm_eq N f a _ h2]; exact Nat.eq_of_beq_eq_true h4) fun q hq e => by
    have := h5 q hq
    rw [pm_eq N f a _ (Nat.lt_of_le_of_lt (Nat.div_le_self _ _) h2), e] at this
    exact absurd this (by decide)
  exact ⟨isP_of_good g, g⟩
theorem pr_2 : IsP 2 := ⟨Nat.le_refl 2, fun m hm => by have := Nat.le_of_dvd (by omega) hm; rcases m with _ | _ | _ | m <;> first | (have := Nat.eq_zero_of_zero_dvd hm; omega) | omega⟩
theorem good_2 : Good 2 := ⟨by decide, fun b h1 h2 => by obtain rfl : b = 1 := by omega
                                                         decide⟩
theorem pr_3 : IsP 3 := (lucas 2 2 [2] (allp pr_2 (List.forall_mem_nil _)) (by decide +kernel)).1
theorem pr_5 : IsP 5 := (lucas 2 3 [2, 2] (allp pr_2 (allp pr_2 (List.forall_mem_nil _))) (by decide +kernel)).1
theorem pr_7 : IsP 7 := (lucas 3 3 [2, 3] (allp pr_2 (allp pr_3 (List.forall_mem_nil _))) (by decide +kernel)).1
theorem pr_11 : IsP 11 := (lucas 2 4 [2, 5] (allp pr_2 (allp pr_5 (List.forall_mem_nil _))) (by decide +kernel)).1
theorem pr_13 : IsP 13 := (lucas 2 4 [2, 2, 3] (allp pr_2 (allp pr_2 (allp pr_3 (List.forall_mem_nil _)))) (by decide +kernel)).1
theorem pr_251 : IsP 251 := (lucas 6 8 [2, 5, 5, 5] (allp pr_2 (allp pr_5 (allp pr_5 (allp pr_5 (List.forall_mem_nil _))))) (by decide +kernel)).1
theorem pr_257 : IsP 257 := (lucas 3 9 [2, 2, 2, 2, 2, 2, 2, 2] (allp pr_2 (allp pr_2 (allp pr_2 (allp pr_2 (allp pr_2 (allp pr_2 (allp pr_2 (allp pr_2 (List.forall_mem_nil _))))))))) (by decide +kernel)).1
theorem pr_65521 : IsP 65521 := (lucas 17 16 [2, 2, 2, 2, 3, 3, 5, 7, 13] (allp pr_2 (allp pr_2 (allp pr_2 (allp pr_2 (allp pr_3 (allp pr_3 (allp pr_5 (allp pr_7 (allp pr_13 (List.forall_mem_nil _)))))))))) (by decide +kernel)).1
theorem pr_65537 : IsP 65537 := (lucas 3 17 [2, 2, 2, 2, 2, 2, 2, 2, 2, 2, 2, 2, 2, 2, 2, 2] (allp pr_2 (allp pr_2 (allp pr_2 (allp pr_2 (allp pr_2 (allp pr_2 (allp pr_2 (allp pr_2 (allp pr_2 (allp pr_2 (allp pr_2 (allp pr_2 (allp pr_2 (allp pr_2 (allp pr_2 (allp pr_2 (List.forall_mem_nil _))))))))))))))))) (by decide +kernel)).1
theorem pr_29 : IsP 29 := (lucas 2 5 [2, 2, 7] (allp pr_2 (allp pr_2 (allp pr_7 (List.forall_mem_nil _)))) (by decide +kernel)).1
theorem pr_67 : IsP 67 := (lucas 2 7 [2, 3, 11] (allp pr_2 (allp pr_3 (allp pr_11 (List.forall_mem_nil _)))) (by decide +kernel)).1
theorem pr_19 : IsP 19 := (lucas 2 5 [2, 3, 3] (allp pr_2 (allp pr_3 (allp pr_3 (List.forall_mem_nil _)))) (by decide +kernel)).1
theorem pr_229 : IsP 229 := (lucas 6 8 [2, 2, 3, 19] (allp pr_2 (allp pr_2 (allp pr_3 (allp pr_19 (List.forall_mem_nil _))))) (by decide +kernel)).1
theorem pr_31 : IsP 31 := (lucas 3 5 [2, 3, 5] (allp pr_2 (allp pr_3 (allp pr_5 (List.forall_mem_nil _)))) (by decide +kernel)).1
theorem pr_311 : IsP 311 := (lucas 17 9 [2, 5, 31] (allp pr_2 (allp pr_5 (allp pr_31 (List.forall_mem_nil _)))) (by decide +kernel)).1
theorem pr_491 : IsP 491 := (lucas 2 9 [2, 5, 7, 7] (allp pr_2 (allp pr_5 (allp pr_7 (allp pr_7 (List.forall_mem_nil _))))) (by decide +kernel)).1
theorem pr_983 : IsP 983 := (lucas 5 10 [2, 491] (allp pr_2 (allp pr_491 (List.forall_mem_nil _))) (by decide +kernel)).1
theorem pr_5501 : IsP 5501 := (lucas 2 13 [2, 2, 5, 5, 5, 11] (allp pr_2 (allp pr_2 (allp pr_5 (allp pr_5 (allp pr_5 (allp pr_11 (List.forall_mem_nil _))))))) (by decide +kernel)).1
theorem pr_11003 : IsP 11003 := (lucas 2 14 [2, 5501] (allp pr_2 (allp pr_5501 (List.forall_mem_nil _))) (by decide +kernel)).1
theorem pr_41 : IsP 41 := (lucas 6 6 [2, 2, 2, 5] (allp pr_2 (allp pr_2 (allp pr_2 (allp pr_5 (List.forall_mem_nil _))))) (by decide +kernel)).1
theorem pr_3691 : IsP 3691 := (lucas 2 12 [2, 3, 3, 5, 41] (allp pr_2 (allp pr_3 (allp pr_3 (allp pr_5 (allp pr_41 (List.forall_mem_nil _)))))) (by decide +kernel)).1
theorem pr_17 : IsP 17 := (lucas 3 5 [2, 2, 2, 2] (allp pr_2 (allp pr_2 (allp pr_2 (allp pr_2 (List.forall_mem_nil _))))) (by decide +kernel)).1
theorem pr_4999 : IsP 4999 := (lucas 3 13 [2, 3, 7, 7, 17] (allp pr_2 (allp pr_3 (allp pr_7 (allp pr_7 (allp pr_17 (List.forall_mem_nil _)))))) (by decide +kernel)).1
theorem pr_405928799 : IsP 405928799 := (lucas 22 29 [2, 11, 3691, 4999] (allp pr_2 (allp pr_11 (allp pr_3691 (allp pr_4999 (List.forall_mem_nil _))))) (by decide +kernel)).1
theorem pr_37 : IsP 37 := (lucas 2 6 [2, 2, 3, 3] (allp pr_2 (allp pr_2 (allp pr_3 (allp pr_3 (List.forall_mem_nil _))))) (by decide +kernel)).1
theorem pr_233 : IsP 233 := (lucas 3 8 [2, 2, 2, 29] (allp pr_2 (allp pr_2 (allp pr_2 (allp pr_29 (List.forall_mem_nil _))))) (by decide +kernel)).1
theorem pr_327599 : IsP 327599 := (lucas 19 19 [2, 19, 37, 233] (allp pr_2 (allp pr_19 (allp pr_37 (allp pr_233 (List.forall_mem_nil _))))) (by decide +kernel)).1
theorem pr_11465965001 : IsP 11465965001 := (lucas 3 34 [2, 2, 2, 5, 5, 5, 5, 7, 327599] (allp pr_2 (allp pr_2 (allp pr_2 (allp pr_5 (allp pr_5 (allp pr_5 (allp pr_5 (allp pr_7 (allp pr_327599 (List.forall_mem_nil _)))))))))) (by decide +kernel)).1
theorem pr_271 : IsP 271 := (lucas 6 9 [2, 3, 3, 3, 5] (allp pr_2 (allp pr_3 (allp pr_3 (allp pr_3 (allp pr_5 (List.forall_mem_nil _)))))) (by decide +kernel)).1
theorem pr_1853641 : IsP 1853641 := (lucas 17 21 [2, 2, 2, 3, 3, 5, 19, 271] (allp pr_2 (allp pr_2 (allp pr_2 (allp pr_3 (allp pr_3 (allp pr_5 (allp pr_19 (allp pr_271 (List.forall_mem_nil _))))))))) (by decide +kernel)).1
theorem pr_109 : IsP 109 := (lucas 6 7 [2, 2, 3, 3, 3] (allp pr_2 (allp pr_2 (allp pr_3 (allp pr_3 (allp pr_3 (List.forall_mem_nil _)))))) (by decide +kernel)).1
theorem pr_1231 : IsP 1231 := (lucas 3 11 [2, 3, 5, 41] (allp pr_2 (allp pr_3 (allp pr_5 (allp pr_41 (List.forall_mem_nil _))))) (by decide +kernel)).1
theorem pr_4562087 : IsP 4562087 := (lucas 5 23 [2, 17, 109, 1231] (allp pr_2 (allp pr_17 (allp pr_109 (allp pr_1231 (List.forall_mem_nil _))))) (by decide +kernel)).1
theorem pr_73 : IsP 73 := (lucas 5 7 [2, 2, 2, 3, 3] (allp pr_2 (allp pr_2 (allp pr_2 (allp pr_3 (allp pr_3 (List.forall_mem_nil _)))))) (by decide +kernel)).1
theorem pr_89 : IsP 89 := (lucas 3 7 [2, 2, 2, 11] (allp pr_2 (allp pr_2 (allp pr_2 (allp pr_11 (List.forall_mem_nil _))))) (by decide +kernel)).1
theorem pr_2221 : IsP 2221 := (lucas 2 12 [2, 2, 3, 5, 37] (allp pr_2 (allp pr_2 (allp pr_3 (allp pr_5 (allp pr_37 (List.forall_mem_nil _)))))) (by decide +kernel)).1
theorem pr_13327 : IsP 13327 := (lucas 3 14 [2, 3, 2221] (allp pr_2 (allp pr_3 (allp pr_2221 (List.forall_mem_nil _)))) (by decide +kernel)).1
theorem pr_173171039 : IsP 173171039 := (lucas 13 28 [2, 73, 89, 13327] (allp pr_2 (allp pr_73 (allp pr_89 (allp pr_13327 (List.forall_mem_nil _))))) (by decide +kernel)).1
theorem pr_911 : IsP 911 := (lucas 17 10 [2, 5, 7, 13] (allp pr_2 (allp pr_5 (allp pr_7 (allp pr_13 (List.forall_mem_nil _))))) (by decide +kernel)).1
theorem pr_127 : IsP 127 := (lucas 3 7 [2, 3, 3, 7] (allp pr_2 (allp pr_3 (allp pr_3 (allp pr_7 (List.forall_mem_nil _))))) (by decide +kernel)).1
theorem pr_3557 : IsP 3557 := (lucas 2 12 [2, 2, 7, 127] (allp pr_2 (allp pr_2 (allp pr_7 (allp pr_127 (List.forall_mem_nil _))))) (by decide +kernel)).1
theorem pr_1263766531 : IsP 1263766531 := (lucas 10 31 [2, 3, 5, 13, 911, 3557] (allp pr_2 (allp pr_3 (allp pr_5 (allp pr_13 (allp pr_911 (allp pr_3557 (List.forall_mem_nil _))))))) (by decide +kernel)).1
theorem pr_35385462869 : IsP 35385462869 := (lucas 2 36 [2, 2, 7, 1263766531] (allp pr_2 (allp pr_2 (allp pr_7 (allp pr_1263766531 (List.forall_mem_nil _))))) (by decide +kernel)).1
theorem pr_2480874801745591 : IsP 2480874801745591 := (lucas 6 52 [2, 3, 3, 5, 19, 41, 35385462869] (allp pr_2 (allp pr_3 (allp pr_3 (allp pr_5 (allp pr_19 (allp pr_41 (allp pr_35385462869 (List.forall_mem_nil _)))))))) (by decide +kernel)).1
theorem pr_13427688667394608761327070753331941386769 : IsP 13427688667394608761327070753331941386769 := (lucas 17 134 [2, 2, 2, 2, 3, 7, 11, 1853641, 4562087, 173171039, 2480874801745591] (allp pr_2 (allp pr_2 (allp pr_2 (allp pr_2 (allp pr_3 (allp pr_7 (allp pr_11 (allp pr_1853641 (allp pr_4562087 (allp pr_173171039 (allp pr_2480874801745591 (List.forall_mem_nil _)))))))))))) (by decide +kernel)).1
theorem pr_21888242871839275222246405745257275088696311157297823662689037894645226208583 : IsP 21888242871839275222246405745257275088696311157297823662689037894645226208583 := (lucas 3 254 [2, 3, 3, 13, 29, 67, 229, 311, 983, 11003, 11465965001, 405928799, 13427688667394608761327070753331941386769] (allp pr_2 (allp pr_3 (allp pr_3 (allp pr_13 (allp pr_29 (allp pr_67 (allp pr_229 (allp pr_311 (allp pr_983 (allp pr_11003 (allp pr_11465965001 (allp pr_405928799 (allp pr_13427688667394608761327070753331941386769 (List.forall_mem_nil _)))))))))))))) (by decide +kernel)).1
theorem pr_149 : IsP 149 := (lucas 2 8 [2, 2, 37] (allp pr_2 (allp pr_2 (allp pr_37 (List.forall_mem_nil _)))) (by decide +kernel)).1
theorem pr_631 : IsP 631 := (lucas 3 10 [2, 3, 3, 5, 7] (allp pr_2 (allp pr_3 (allp pr_3 (allp pr_5 (allp pr_7 (List.forall_mem_nil _)))))) (by decide +kernel)).1
theorem pr_23 : IsP 23 := (lucas 5 5 [2, 11] (allp pr_2 (allp pr_11 (List.forall_mem_nil _))) (by decide +kernel)).1
theorem pr_16699 : IsP 16699 := (lucas 3 15 [2, 3, 11, 11, 23] (allp pr_2 (allp pr_3 (allp pr_11 (allp pr_11 (allp pr_23 (List.forall_mem_nil _)))))) (by decide +kernel)).1
theorem pr_2861 : IsP 2861 := (lucas 2 12 [2, 2, 5, 11, 13] (allp pr_2 (allp pr_2 (allp pr_5 (allp pr_11 (allp pr_13 (List.forall_mem_nil _)))))) (by decide +kernel)).1
theorem pr_85831 : IsP 85831 := (lucas 3 17 [2, 3, 5, 2861] (allp pr_2 (allp pr_3 (allp pr_5 (allp pr_2861 (List.forall_mem_nil _))))) (by decide +kernel)).1
theorem pr_97 : IsP 97 := (lucas 5 7 [2, 2, 2, 2, 2, 3] (allp pr_2 (allp pr_2 (allp pr_2 (allp pr_2 (allp pr_2 (allp pr_3 (List.forall_mem_nil _))))))) (by decide +kernel)).1
theorem pr_2011 : IsP 2011 := (lucas 3 11 [2, 3, 5, 67] (allp pr_2 (allp pr_3 (allp pr_5 (allp pr_67 (List.forall_mem_nil _))))) (by decide +kernel)).1
theorem pr_4681609 : IsP 4681609 := (lucas 23 23 [2, 2, 2, 3, 97, 2011] (allp pr_2 (allp pr_2 (allp pr_2 (allp pr_3 (allp pr_97 (allp pr_2011 (List.forall_mem_nil _))))))) (by decide +kernel)).1
theorem pr_107361793816595537 : IsP 107361793816595537 := (lucas 3 57 [2, 2, 2, 2, 16699, 85831, 4681609] (allp pr_2 (allp pr_2 (allp pr_2 (allp pr_2 (allp pr_16699 (allp pr_85831 (allp pr_4681609 (List.forall_mem_nil _)))))))) (by decide +kernel)).1
theorem pr_59 : IsP 59 := (lucas 2 6 [2, 29] (allp pr_2 (allp pr_29 (List.forall_mem_nil _))) (by decide +kernel)).1
theorem pr_4051 : IsP 4051 := (lucas 10 12 [2, 3, 3, 3, 3, 5, 5] (allp pr_2 (allp pr_3 (allp pr_3 (allp pr_3 (allp pr_3 (allp pr_5 (allp pr_5 (List.forall_mem_nil _)))))))) (by decide +kernel)).1
theorem pr_113 : IsP 113 := (lucas 3 7 [2, 2, 2, 2, 7] (allp pr_2 (allp pr_2 (allp pr_2 (allp pr_2 (allp pr_7 (List.forall_mem_nil _)))))) (by decide +kernel)).1
theorem pr_120233 : IsP 120233 := (lucas 3 17 [2, 2, 2, 7, 19, 113] (allp pr_2 (allp pr_2 (allp pr_2 (allp pr_7 (allp pr_19 (allp pr_113 (List.forall_mem_nil _))))))) (by decide +kernel)).1
theorem pr_199 : IsP 199 := (lucas 3 8 [2, 3, 3, 11] (allp pr_2 (allp pr_3 (allp pr_3 (allp pr_11 (List.forall_mem_nil _))))) (by decide +kernel)).1
theorem pr_797 : IsP 797 := (lucas 2 10 [2, 2, 199] (allp pr_2 (allp pr_2 (allp pr_199 (List.forall_mem_nil _)))) (by decide +kernel)).1
theorem pr_9349 : IsP 9349 := (lucas 2 14 [2, 2, 3, 19, 41] (allp pr_2 (allp pr_2 (allp pr_3 (allp pr_19 (allp pr_41 (List.forall_mem_nil _)))))) (by decide +kernel)).1
theorem pr_44706919 : IsP 44706919 := (lucas 6 26 [2, 3, 797, 9349] (allp pr_2 (allp pr_3 (allp pr_797 (allp pr_9349 (List.forall_mem_nil _))))) (by decide +kernel)).1
theorem pr_174723607534414371449 : IsP 174723607534414371449 := (lucas 3 68 [2, 2, 2, 17, 59, 4051, 120233, 44706919] (allp pr_2 (allp pr_2 (allp pr_2 (allp pr_17 (allp pr_59 (allp pr_4051 (allp pr_120233 (allp pr_44706919 (List.forall_mem_nil _))))))))) (by decide +kernel)).1
theorem pr_293 : IsP 293 := (lucas 2 9 [2, 2, 73] (allp pr_2 (allp pr_2 (allp pr_73 (List.forall_mem_nil _)))) (by decide +kernel)).1
theorem pr_2731 : IsP 2731 := (lucas 3 12 [2, 3, 5, 7, 13] (allp pr_2 (allp pr_3 (allp pr_5 (allp pr_7 (allp pr_13 (List.forall_mem_nil _)))))) (by decide +kernel)).1
theorem pr_305873 : IsP 305873 := (lucas 3 19 [2, 2, 2, 2, 7, 2731] (allp pr_2 (allp pr_2 (allp pr_2 (allp pr_2 (allp pr_7 (allp pr_2731 (List.forall_mem_nil _))))))) (by decide +kernel)).1
theorem pr_1409 : IsP 1409 := (lucas 3 11 [2, 2, 2, 2, 2, 2, 2, 11] (allp pr_2 (allp pr_2 (allp pr_2 (allp pr_2 (allp pr_2 (allp pr_2 (allp pr_2 (allp pr_11 (List.forall_mem_nil _))))))))) (by decide +kernel)).1
theorem pr_28181 : IsP 28181 := (lucas 2 15 [2, 2, 5, 1409] (allp pr_2 (allp pr_2 (allp pr_5 (allp pr_1409 (List.forall_mem_nil _))))) (by decide +kernel)).1
theorem pr_545358713 : IsP 545358713 := (lucas 5 30 [2, 2, 2, 41, 59, 28181] (allp pr_2 (allp pr_2 (allp pr_2 (allp pr_41 (allp pr_59 (allp pr_28181 (List.forall_mem_nil _))))))) (by decide +kernel)).1
theorem pr_461 : IsP 461 := (lucas 2 9 [2, 2, 5, 23] (allp pr_2 (allp pr_2 (allp pr_5 (allp pr_23 (List.forall_mem_nil _))))) (by decide +kernel)).1
theorem pr_1871 : IsP 1871 := (lucas 14 11 [2, 5, 11, 17] (allp pr_2 (allp pr_5 (allp pr_11 (allp pr_17 (List.forall_mem_nil _))))) (by decide +kernel)).1
theorem pr_1627771 : IsP 1627771 := (lucas 3 21 [2, 3, 5, 29, 1871] (allp pr_2 (allp pr_3 (allp pr_5 (allp pr_29 (allp pr_1871 (List.forall_mem_nil _)))))) (by decide +kernel)).1
theorem pr_297159362677 : IsP 297159362677 := (lucas 2 39 [2, 2, 3, 3, 11, 461, 1627771] (allp pr_2 (allp pr_2 (allp pr_3 (allp pr_3 (allp pr_11 (allp pr_461 (allp pr_1627771 (List.forall_mem_nil _)))))))) (by decide +kernel)).1
theorem pr_29047611873442575647497758179 : IsP 29047611873442575647497758179 := (lucas 2 95 [2, 293, 305873, 545358713, 297159362677] (allp pr_2 (allp pr_293 (allp pr_305873 (allp pr_545358713 (allp pr_297159362677 (List.forall_mem_nil _)))))) (by decide +kernel)).1
theorem pr_341948486974166000522343609283189 : IsP 341948486974166000522343609283189 := (lucas 2 109 [2, 2, 3, 3, 3, 109, 29047611873442575647497758179] (allp pr_2 (allp pr_2 (allp pr_3 (allp pr_3 (allp pr_3 (allp pr_109 (allp pr_29047611873442575647497758179 (List.forall_mem_nil _)))))))) (by decide +kernel)).1
theorem pr_115792089237316195423570985008687907852837564279074904382605163141518161494337 : IsP 115792089237316195423570985008687907852837564279074904382605163141518161494337 := (lucas 7 256 [2, 2, 2, 2, 2, 2, 3, 149, 631, 107361793816595537, 174723607534414371449, 341948486974166000522343609283189] (allp pr_2 (allp pr_2 (allp pr_2 (allp pr_2 (allp pr_2 (allp pr_2 (allp pr_3 (allp pr_149 (allp pr_631 (allp pr_107361793816595537 (allp pr_174723607534414371449 (allp pr_341948486974166000522343609283189 (List.forall_mem_nil _))))))))))))) (by decide +kernel)).1
theorem pr_13441 : IsP 13441 := (lucas 11 14 [2, 2, 2, 2, 2, 2, 2, 3, 5, 7] (allp pr_2 (allp pr_2 (allp pr_2 (allp pr_2 (allp pr_2 (allp pr_2 (allp pr_2 (allp pr_3 (allp pr_5 (allp pr_7 (List.forall_mem_nil _))))))))))) (by decide +kernel)).1
theorem pr_7723 : IsP 7723 := (lucas 3 13 [2, 3, 3, 3, 11, 13] (allp pr_2 (allp pr_3 (allp pr_3 (allp pr_3 (allp pr_11 (allp pr_13 (List.forall_mem_nil _))))))) (by decide +kernel)).1
theorem pr_443 : IsP 443 := (lucas 2 9 [2, 13, 17] (allp pr_2 (allp pr_13 (allp pr_17 (List.forall_mem_nil _)))) (by decide +kernel)).1
theorem pr_887 : IsP 887 := (lucas 5 10 [2, 443] (allp pr_2 (allp pr_443 (List.forall_mem_nil _))) (by decide +kernel)).1
theorem pr_5323 : IsP 5323 := (lucas 5 13 [2, 3, 887] (allp pr_2 (allp pr_3 (allp pr_887 (List.forall_mem_nil _)))) (by decide +kernel)).1
theorem pr_131 : IsP 131 := (lucas 2 8 [2, 5, 13] (allp pr_2 (allp pr_5 (allp pr_13 (List.forall_mem_nil _)))) (by decide +kernel)).1
theorem pr_2621 : IsP 2621 := (lucas 2 12 [2, 2, 5, 131] (allp pr_2 (allp pr_2 (allp pr_5 (allp pr_131 (List.forall_mem_nil _))))) (by decide +kernel)).1
theorem pr_24809 : IsP 24809 := (lucas 6 15 [2, 2, 2, 7, 443] (allp pr_2 (allp pr_2 (allp pr_2 (allp pr_7 (allp pr_443 (List.forall_mem_nil _)))))) (by decide +kernel)).1
theorem pr_971 : IsP 971 := (lucas 6 10 [2, 5, 97] (allp pr_2 (allp pr_5 (allp pr_97 (List.forall_mem_nil _)))) (by decide +kernel)).1
theorem pr_1373 : IsP 1373 := (lucas 2 11 [2, 2, 7, 7, 7] (allp pr_2 (allp pr_2 (allp pr_7 (allp pr_7 (allp pr_7 (List.forall_mem_nil _)))))) (by decide +kernel)).1
theorem pr_13331831 : IsP 13331831 := (lucas 13 24 [2, 5, 971, 1373] (allp pr_2 (allp pr_5 (allp pr_971 (allp pr_1373 (List.forall_mem_nil _))))) (by decide +kernel)).1
theorem pr_173378833005251801 : IsP 173378833005251801 := (lucas 6 58 [2, 2, 2, 5, 5, 2621, 24809, 13331831] (allp pr_2 (allp pr_2 (allp pr_2 (allp pr_5 (allp pr_5 (allp pr_2621 (allp pr_24809 (allp pr_13331831 (List.forall_mem_nil _))))))))) (by decide +kernel)).1
theorem pr_22149492674086928081353 : IsP 22149492674086928081353 := (lucas 5 75 [2, 2, 2, 3, 5323, 173378833005251801] (allp pr_2 (allp pr_2 (allp pr_2 (allp pr_3 (allp pr_5323 (allp pr_173378833005251801 (List.forall_mem_nil _))))))) (by decide +kernel)).1
theorem pr_132896956044521568488119 : IsP 132896956044521568488119 := (lucas 6 77 [2, 3, 22149492674086928081353] (allp pr_2 (allp pr_3 (allp pr_22149492674086928081353 (List.forall_mem_nil _)))) (by decide +kernel)).1
theorem pr_1627 : IsP 1627 := (lucas 3 11 [2, 3, 271] (allp pr_2 (allp pr_3 (allp pr_271 (List.forall_mem_nil _)))) (by decide +kernel)).1
theorem pr_83 : IsP 83 := (lucas 2 7 [2, 41] (allp pr_2 (allp pr_41 (List.forall_mem_nil _))) (by decide +kernel)).1
theorem pr_2657 : IsP 2657 := (lucas 3 12 [2, 2, 2, 2, 2, 83] (allp pr_2 (allp pr_2 (allp pr_2 (allp pr_2 (allp pr_2 (allp pr_83 (List.forall_mem_nil _))))))) (by decide +kernel)).1
theorem pr_4423 : IsP 4423 := (lucas 3 13 [2, 3, 11, 67] (allp pr_2 (allp pr_3 (allp pr_11 (allp pr_67 (List.forall_mem_nil _))))) (by decide +kernel)).1
theorem pr_103 : IsP 103 := (lucas 5 7 [2, 3, 17] (allp pr_2 (allp pr_3 (allp pr_17 (List.forall_mem_nil _)))) (by decide +kernel)).1
theorem pr_41201 : IsP 41201 := (lucas 3 16 [2, 2, 2, 2, 5, 5, 103] (allp pr_2 (allp pr_2 (allp pr_2 (allp pr_2 (allp pr_5 (allp pr_5 (allp pr_103 (List.forall_mem_nil _)))))))) (by decide +kernel)).1
theorem pr_101 : IsP 101 := (lucas 2 7 [2, 2, 5, 5] (allp pr_2 (allp pr_2 (allp pr_5 (allp pr_5 (List.forall_mem_nil _))))) (by decide +kernel)).1
theorem pr_239 : IsP 239 := (lucas 7 8 [2, 7, 17] (allp pr_2 (allp pr_7 (allp pr_17 (List.forall_mem_nil _)))) (by decide +kernel)).1
theorem pr_96557 : IsP 96557 := (lucas 2 17 [2, 2, 101, 239] (allp pr_2 (allp pr_2 (allp pr_101 (allp pr_239 (List.forall_mem_nil _))))) (by decide +kernel)).1
theorem pr_419 : IsP 419 := (lucas 2 9 [2, 11, 19] (allp pr_2 (allp pr_11 (allp pr_19 (List.forall_mem_nil _)))) (by decide +kernel)).1
theorem pr_20113 : IsP 20113 := (lucas 10 15 [2, 2, 2, 2, 3, 419] (allp pr_2 (allp pr_2 (allp pr_2 (allp pr_2 (allp pr_3 (allp pr_419 (List.forall_mem_nil _))))))) (by decide +kernel)).1
theorem pr_1206781 : IsP 1206781 := (lucas 10 21 [2, 2, 3, 5, 20113] (allp pr_2 (allp pr_2 (allp pr_3 (allp pr_5 (allp pr_20113 (List.forall_mem_nil _)))))) (by decide +kernel)).1
theorem pr_7240687 : IsP 7240687 := (lucas 3 23 [2, 3, 1206781] (allp pr_2 (allp pr_3 (allp pr_1206781 (List.forall_mem_nil _)))) (by decide +kernel)).1
theorem pr_53 : IsP 53 := (lucas 2 6 [2, 2, 13] (allp pr_2 (allp pr_2 (allp pr_13 (List.forall_mem_nil _)))) (by decide +kernel)).1
theorem pr_107590001 : IsP 107590001 := (lucas 3 27 [2, 2, 2, 2, 5, 5, 5, 5, 7, 29, 53] (allp pr_2 (allp pr_2 (allp pr_2 (allp pr_2 (allp pr_5 (allp pr_5 (allp pr_5 (allp pr_5 (allp pr_7 (allp pr_29 (allp pr_53 (List.forall_mem_nil _)))))))))))) (by decide +kernel)).1
theorem pr_255515944373312847190720520512484175977 : IsP 255515944373312847190720520512484175977 := (lucas 3 128 [2, 2, 2, 7, 7, 11, 1627, 2657, 4423, 41201, 96557, 7240687, 107590001] (allp pr_2 (allp pr_2 (allp pr_2 (allp pr_7 (allp pr_7 (allp pr_11 (allp pr_1627 (allp pr_2657 (allp pr_4423 (allp pr_41201 (allp pr_96557 (allp pr_7240687 (allp pr_107590001 (List.forall_mem_nil _)))))))))))))) (by decide +kernel)).1
theorem pr_205115282021455665897114700593932402728804164701536103180137503955397371 : IsP 205115282021455665897114700593932402728804164701536103180137503955397371 := (lucas 10 237 [2, 3, 5, 29, 29, 31, 7723, 132896956044521568488119, 255515944373312847190720520512484175977] (allp pr_2 (allp pr_3 (allp pr_5 (allp pr_29 (allp pr_29 (allp pr_31 (allp pr_7723 (allp pr_132896956044521568488119 (allp pr_255515944373312847190720520512484175977 (List.forall_mem_nil _)))))))))) (by decide +kernel)).1
theorem pr_115792089237316195423570985008687907853269984665640564039457584007908834671663 : IsP 115792089237316195423570985008687907853269984665640564039457584007908834671663 := (lucas 3 256 [2, 3, 7, 13441, 205115282021455665897114700593932402728804164701536103180137503955397371] (allp pr_2 (allp pr_3 (allp pr_7 (allp pr_13441 (allp pr_205115282021455665897114700593932402728804164701536103180137503955397371 (List.forall_mem_nil _)))))) (by decide +kernel)).1
theorem pr_47 : IsP 47 := (lucas 5 6 [2, 23] (allp pr_2 (allp pr_23 (List.forall_mem_nil _))) (by decide +kernel)).1
theorem pr_10177 : IsP 10177 := (lucas 7 14 [2, 2, 2, 2, 2, 2, 3, 53] (allp pr_2 (allp pr_2 (allp pr_2 (allp pr_2 (allp pr_2 (allp pr_2 (allp pr_3 (allp pr_53 (List.forall_mem_nil _))))))))) (by decide +kernel)).1
theorem pr_47737 : IsP 47737 := (lucas 5 16 [2, 2, 2, 3, 3, 3, 13, 17] (allp pr_2 (allp pr_2 (allp pr_2 (allp pr_3 (allp pr_3 (allp pr_3 (allp pr_13 (allp pr_17 (List.forall_mem_nil _))))))))) (by decide +kernel)).1
theorem pr_859267 : IsP 859267 := (lucas 2 20 [2, 3, 3, 47737] (allp pr_2 (allp pr_3 (allp pr_3 (allp pr_47737 (List.forall_mem_nil _))))) (by decide +kernel)).1
theorem pr_43 : IsP 43 := (lucas 3 6 [2, 3, 7] (allp pr_2 (allp pr_3 (allp pr_7 (List.forall_mem_nil _)))) (by decide +kernel)).1
theorem pr_449 : IsP 449 := (lucas 3 9 [2, 2, 2, 2, 2, 2, 7] (allp pr_2 (allp pr_2 (allp pr_2 (allp pr_2 (allp pr_2 (allp pr_2 (allp pr_7 (List.forall_mem_nil _)))))))) (by decide +kernel)).1
theorem pr_609743 : IsP 609743 := (lucas 5 20 [2, 7, 97, 449] (allp pr_2 (allp pr_7 (allp pr_97 (allp pr_449 (List.forall_mem_nil _))))) (by decide +kernel)).1
theorem pr_52437899 : IsP 52437899 := (lucas 2 26 [2, 43, 609743] (allp pr_2 (allp pr_43 (allp pr_609743 (List.forall_mem_nil _)))) (by decide +kernel)).1
theorem pr_941 : IsP 941 := (lucas 2 10 [2, 2, 5, 47] (allp pr_2 (allp pr_2 (allp pr_5 (allp pr_47 (List.forall_mem_nil _))))) (by decide +kernel)).1
theorem pr_947 : IsP 947 := (lucas 2 10 [2, 11, 43] (allp pr_2 (allp pr_11 (allp pr_43 (List.forall_mem_nil _)))) (by decide +kernel)).1
theorem pr_7577 : IsP 7577 := (lucas 3 13 [2, 2, 2, 947] (allp pr_2 (allp pr_2 (allp pr_2 (allp pr_947 (List.forall_mem_nil _))))) (by decide +kernel)).1
theorem pr_181 : IsP 181 := (lucas 2 8 [2, 2, 3, 3, 5] (allp pr_2 (allp pr_2 (allp pr_3 (allp pr_3 (allp pr_5 (List.forall_mem_nil _)))))) (by decide +kernel)).1
theorem pr_1087 : IsP 1087 := (lucas 3 11 [2, 3, 181] (allp pr_2 (allp pr_3 (allp pr_181 (List.forall_mem_nil _)))) (by decide +kernel)).1
theorem pr_4349 : IsP 4349 := (lucas 2 13 [2, 2, 1087] (allp pr_2 (allp pr_2 (allp pr_1087 (List.forall_mem_nil _)))) (by decide +kernel)).1
theorem pr_582767 : IsP 582767 := (lucas 5 20 [2, 67, 4349] (allp pr_2 (allp pr_67 (allp pr_4349 (List.forall_mem_nil _)))) (by decide +kernel)).1
theorem pr_9272813673901 : IsP 9272813673901 := (lucas 2 44 [2, 2, 3, 5, 5, 7, 7577, 582767] (allp pr_2 (allp pr_2 (allp pr_3 (allp pr_5 (allp pr_5 (allp pr_7 (allp pr_7577 (allp pr_582767 (List.forall_mem_nil _))))))))) (by decide +kernel)).1
theorem pr_1928745244171409 : IsP 1928745244171409 := (lucas 3 51 [2, 2, 2, 2, 13, 9272813673901] (allp pr_2 (allp pr_2 (allp pr_2 (allp pr_2 (allp pr_13 (allp pr_9272813673901 (List.forall_mem_nil _))))))) (by decide +kernel)).1
theorem pr_7259797099061183477 : IsP 7259797099061183477 := (lucas 2 63 [2, 2, 941, 1928745244171409] (allp pr_2 (allp pr_2 (allp pr_941 (allp pr_1928745244171409 (List.forall_mem_nil _))))) (by decide +kernel)).1
theorem pr_2584487767265781317813 : IsP 2584487767265781317813 := (lucas 2 72 [2, 2, 89, 7259797099061183477] (allp pr_2 (allp pr_2 (allp pr_89 (allp pr_7259797099061183477 (List.forall_mem_nil _))))) (by decide +kernel)).1
theorem pr_191 : IsP 191 := (lucas 19 8 [2, 5, 19] (allp pr_2 (allp pr_5 (allp pr_19 (List.forall_mem_nil _)))) (by decide +kernel)).1
theorem pr_1686913 : IsP 1686913 := (lucas 10 21 [2, 2, 2, 2, 2, 2, 2, 3, 23, 191] (allp pr_2 (allp pr_2 (allp pr_2 (allp pr_2 (allp pr_2 (allp pr_2 (allp pr_2 (allp pr_3 (allp pr_23 (allp pr_191 (List.forall_mem_nil _))))))))))) (by decide +kernel)).1
theorem pr_475709467 : IsP 475709467 := (lucas 2 29 [2, 3, 47, 1686913] (allp pr_2 (allp pr_3 (allp pr_47 (allp pr_1686913 (List.forall_mem_nil _))))) (by decide +kernel)).1
theorem pr_467 : IsP 467 := (lucas 2 9 [2, 233] (allp pr_2 (allp pr_233 (List.forall_mem_nil _))) (by decide +kernel)).1
theorem pr_137 : IsP 137 := (lucas 3 8 [2, 2, 2, 17] (allp pr_2 (allp pr_2 (allp pr_2 (allp pr_17 (List.forall_mem_nil _))))) (by decide +kernel)).1
theorem pr_2741 : IsP 2741 := (lucas 2 12 [2, 2, 5, 137] (allp pr_2 (allp pr_2 (allp pr_5 (allp pr_137 (List.forall_mem_nil _))))) (by decide +kernel)).1
theorem pr_16447 : IsP 16447 := (lucas 3 15 [2, 3, 2741] (allp pr_2 (allp pr_3 (allp pr_2741 (List.forall_mem_nil _)))) (by decide +kernel)).1
theorem pr_409 : IsP 409 := (lucas 21 9 [2, 2, 2, 3, 17] (allp pr_2 (allp pr_2 (allp pr_2 (allp pr_3 (allp pr_17 (List.forall_mem_nil _)))))) (by decide +kernel)).1
theorem pr_1453 : IsP 1453 := (lucas 2 11 [2, 2, 3, 11, 11] (allp pr_2 (allp pr_2 (allp pr_3 (allp pr_11 (allp pr_11 (List.forall_mem_nil _)))))) (by decide +kernel)).1
theorem pr_43591 : IsP 43591 := (lucas 11 16 [2, 3, 5, 1453] (allp pr_2 (allp pr_3 (allp pr_5 (allp pr_1453 (List.forall_mem_nil _))))) (by decide +kernel)).1
theorem pr_927093389 : IsP 927093389 := (lucas 3 30 [2, 2, 13, 409, 43591] (allp pr_2 (allp pr_2 (allp pr_13 (allp pr_409 (allp pr_43591 (List.forall_mem_nil _)))))) (by decide +kernel)).1
theorem pr_64881703735777 : IsP 64881703735777 := (lucas 5 46 [2, 2, 2, 2, 2, 3, 3, 3, 3, 3, 3, 3, 927093389] (allp pr_2 (allp pr_2 (allp pr_2 (allp pr_2 (allp pr_2 (allp pr_3 (allp pr_3 (allp pr_3 (allp pr_3 (allp pr_3 (allp pr_3 (allp pr_3 (allp pr_927093389 (List.forall_mem_nil _)))))))))))))) (by decide +kernel)).1
theorem pr_92691255082156974996979 : IsP 92691255082156974996979 := (lucas 3 77 [2, 3, 31, 467, 16447, 64881703735777] (allp pr_2 (allp pr_3 (allp pr_31 (allp pr_467 (allp pr_16447 (allp pr_64881703735777 (List.forall_mem_nil _))))))) (by decide +kernel)).1
theorem pr_281 : IsP 281 := (lucas 3 9 [2, 2, 2, 5, 7] (allp pr_2 (allp pr_2 (allp pr_2 (allp pr_5 (allp pr_7 (List.forall_mem_nil _)))))) (by decide +kernel)).1
theorem pr_3373 : IsP 3373 := (lucas 5 12 [2, 2, 3, 281] (allp pr_2 (allp pr_2 (allp pr_3 (allp pr_281 (List.forall_mem_nil _))))) (by decide +kernel)).1
theorem pr_151 : IsP 151 := (lucas 6 8 [2, 3, 5, 5] (allp pr_2 (allp pr_3 (allp pr_5 (allp pr_5 (List.forall_mem_nil _))))) (by decide +kernel)).1
theorem pr_8101 : IsP 8101 := (lucas 6 13 [2, 2, 3, 3, 3, 3, 5, 5] (allp pr_2 (allp pr_2 (allp pr_3 (allp pr_3 (allp pr_3 (allp pr_3 (allp pr_5 (allp pr_5 (List.forall_mem_nil _))))))))) (by decide +kernel)).1
theorem pr_51376543 : IsP 51376543 := (lucas 3 26 [2, 3, 7, 151, 8101] (allp pr_2 (allp pr_3 (allp pr_7 (allp pr_151 (allp pr_8101 (List.forall_mem_nil _)))))) (by decide +kernel)).1
theorem pr_43670061551 : IsP 43670061551 := (lucas 7 36 [2, 5, 5, 17, 51376543] (allp pr_2 (allp pr_5 (allp pr_5 (allp pr_17 (allp pr_51376543 (List.forall_mem_nil _)))))) (by decide +kernel)).1
theorem pr_1151 : IsP 1151 := (lucas 17 11 [2, 5, 5, 23] (allp pr_2 (allp pr_5 (allp pr_5 (allp pr_23 (List.forall_mem_nil _))))) (by decide +kernel)).1
theorem pr_755057 : IsP 755057 := (lucas 3 20 [2, 2, 2, 2, 41, 1151] (allp pr_2 (allp pr_2 (allp pr_2 (allp pr_2 (allp pr_41 (allp pr_1151 (List.forall_mem_nil _))))))) (by decide +kernel)).1
theorem pr_1327 : IsP 1327 := (lucas 3 11 [2, 3, 13, 17] (allp pr_2 (allp pr_3 (allp pr_13 (allp pr_17 (List.forall_mem_nil _))))) (by decide +kernel)).1
theorem pr_421987 : IsP 421987 := (lucas 2 19 [2, 3, 53, 1327] (allp pr_2 (allp pr_3 (allp pr_53 (allp pr_1327 (List.forall_mem_nil _))))) (by decide +kernel)).1
theorem pr_13090036741 : IsP 13090036741 := (lucas 10 34 [2, 2, 3, 5, 11, 47, 421987] (allp pr_2 (allp pr_2 (allp pr_3 (allp pr_5 (allp pr_11 (allp pr_47 (allp pr_421987 (List.forall_mem_nil _)))))))) (by decide +kernel)).1
theorem pr_3819663927398918131021 : IsP 3819663927398918131021 := (lucas 6 72 [2, 2, 3, 3, 5, 19, 113, 755057, 13090036741] (allp pr_2 (allp pr_2 (allp pr_3 (allp pr_3 (allp pr_5 (allp pr_19 (allp pr_113 (allp pr_755057 (allp pr_13090036741 (List.forall_mem_nil _)))))))))) (by decide +kernel)).1
theorem pr_1125266252156850182658904441386709967 : IsP 1125266252156850182658904441386709967 := (lucas 5 120 [2, 3373, 43670061551, 3819663927398918131021] (allp pr_2 (allp pr_3373 (allp pr_43670061551 (allp pr_3819663927398918131021 (List.forall_mem_nil _))))) (by decide +kernel)).1
theorem pr_15778400344354997994418419698270088123916926905054652752758194827714659 : IsP 15778400344354997994418419698270088123916926905054652752758194827714659 := (lucas 2 234 [2, 3, 53, 475709467, 92691255082156974996979, 1125266252156850182658904441386709967] (allp pr_2 (allp pr_3 (allp pr_53 (allp pr_475709467 (allp pr_92691255082156974996979 (allp pr_1125266252156850182658904441386709967 (List.forall_mem_nil _))))))) (by decide +kernel)).1
theorem pr_4002409555221667393417789825735904156556882819939007885332058136124031650490837864442687629129015664037894272559787 : IsP 4002409555221667393417789825735904156556882819939007885332058136124031650490837864442687629129015664037894272559787 := (lucas 2 381 [2, 3, 3, 11, 23, 47, 10177, 859267, 52437899, 2584487767265781317813, 15778400344354997994418419698270088123916926905054652752758194827714659] (allp pr_2 (allp pr_3 (allp pr_3 (allp pr_11 (allp pr_23 (allp pr_47 (allp pr_10177 (allp pr_859267 (allp pr_52437899 (allp pr_2584487767265781317813 (allp pr_15778400344354997994418419698270088123916926905054652752758194827714659 (List.forall_mem_nil _)))))))))))) (by decide +kernel)).1
theorem good_4002409555221667393417789825735904156556882819939007885332058136124031650490837864442687629129015664037894272559787 : Good 4002409555221667393417789825735904156556882819939007885332058136124031650490837864442687629129015664037894272559787 := (lucas 2 381 [2, 3, 3, 11, 23, 47, 10177, 859267, 52437899, 2584487767265781317813, 15778400344354997994418419698270088123916926905054652752758194827714659] (allp pr_2 (allp pr_3 (allp pr_3 (allp pr_11 (allp pr_23 (allp pr_47 (allp pr_10177 (allp pr_859267 (allp pr_52437899 (allp pr_2584487767265781317813 (allp pr_15778400344354997994418419698270088123916926905054652752758194827714659 (List.forall_mem_nil _)))))))))))) (by decide +kernel)).2
theorem good_21888242871839275222246405745257275088696311157297823662689037894645226208583 : Good 21888242871839275222246405745257275088696311157297823662689037894645226208583 := (lucas 3 254 [2, 3, 3, 13, 29, 67, 229, 311, 983, 11003, 11465965001, 405928799, 13427688667394608761327070753331941386769] (allp pr_2 (allp pr_3 (allp pr_3 (allp pr_13 (allp pr_29 (allp pr_67 (allp pr_229 (allp pr_311 (allp pr_983 (allp pr_11003 (allp pr_11465965001 (allp pr_405928799 (allp pr_13427688667394608761327070753331941386769 (List.forall_mem_nil _)))))))))))))) (by decide +kernel)).2
theorem good_115792089237316195423570985008687907853269984665640564039457584007908834671663 : Good 115792089237316195423570985008687907853269984665640564039457584007908834671663 := (lucas 3 256 [2, 3, 7, 13441, 205115282021455665897114700593932402728804164701536103180137503955397371] (allp pr_2 (allp pr_3 (allp pr_7 (allp pr_13441 (allp pr_205115282021455665897114700593932402728804164701536103180137503955397371 (List.forall_mem_nil _)))))) (by decide +kernel)).2
theorem good_115792089237316195423570985008687907852837564279074904382605163141518161494337 : Good 115792089237316195423570985008687907852837564279074904382605163141518161494337 := (lucas 7 256 [2, 2, 2, 2, 2, 2, 3, 149, 631, 107361793816595537, 174723607534414371449, 341948486974166000522343609283189] (allp pr_2 (allp pr_2 (allp pr_2 (allp pr_2 (allp pr_2 (allp pr_2 (allp pr_3 (allp pr_149 (allp pr_631 (allp pr_107361793816595537 (allp pr_174723607534414371449 (allp pr_341948486974166000522343609283189 (List.forall_mem_nil _))))))))))))) (by decide +kernel)).2
theorem good_3 : Good 3 := (lucas 2 2 [2] (allp pr_2 (List.forall_mem_nil _)) (by decide +kernel)).2
theorem good_5 : Good 5 := (lucas 2 3 [2, 2] (allp pr_2 (allp pr_2 (List.forall_mem_nil _))) (by decide +kernel)).2
theorem good_7 : Good 7 := (lucas 3 3 [2, 3] (allp pr_2 (allp pr_3 (List.forall_mem_nil _))) (by decide +kernel)).2
theorem good_11 : Good 11 := (lucas 2 4 [2, 5] (allp pr_2 (allp pr_5 (List.forall_mem_nil _))) (by decide +kernel)).2
theorem good_13 : Good 13 := (lucas 2 4 [2, 2, 3] (allp pr_2 (allp pr_2 (allp pr_3 (List.forall_mem_nil _)))) (by decide +kernel)).2
theorem good_251 : Good 251 := (lucas 6 8 [2, 5, 5, 5] (allp pr_2 (allp pr_5 (allp pr_5 (allp pr_5 (List.forall_mem_nil _))))) (by decide +kernel)).2
theorem good_257 : Good 257 := (lucas 3 9 [2, 2, 2, 2, 2, 2, 2, 2] (allp pr_2 (allp pr_2 (allp pr_2 (allp pr_2 (allp pr_2 (allp pr_2 (allp pr_2 (allp pr_2 (List.forall_mem_nil _))))))))) (by decide +kernel)).2
theorem good_65521 : Good 65521 := (lucas 17 16 [2, 2, 2, 2, 3, 3, 5, 7, 13] (allp pr_2 (allp pr_2 (allp pr_2 (allp pr_2 (allp pr_3 (allp pr_3 (allp pr_5 (allp pr_7 (allp pr_13 (List.forall_mem_nil _)))))))))) (by decide +kernel)).2
theorem good_65537 : Good 65537 := (lucas 3 17 [2, 2, 2, 2, 2, 2, 2, 2, 2, 2, 2, 2, 2, 2, 2, 2] (allp pr_2 (allp pr_2 (allp pr_2 (allp pr_2 (allp pr_2 (allp pr_2 (allp pr_2 (allp pr_2 (allp pr_2 (allp pr_2 (allp pr_2 (allp pr_2 (allp pr_2 (allp pr_2 (allp pr_2 (allp pr_2 (List.forall_mem_nil _))))))))))))))))) (by decide +kernel)).2
end
open PySem PySem.W PyProof.Rows PySem.Calls
section
/-! part HdTop -/
/-- the program -/
abbrev pw : Program := PySem.Challenge.pw_lh0031_01
/-- the statements of the top that the claim's facts speak of (all but the two classes and their second names) -/
def view : Program := PySem.W.view pw [0, 1, 2, 3, 6, 9, 10, 11, 12, 13, 14, 15, 16, 17, 18]
def loose : List Str := [Str.ofString "FQ", Str.ofString "FQ_optimized_field_elements", Str.ofString "FQ_field_elements"]
def Xt (s : Shared) : Bool := xlAt view [] s && recOk (RowW.records PySem.Challenge.rw_lh0031_01.row.toRowW) s

/-- the top's run over the heap as a tree, by the library's quick twins -/
noncomputable def topRunT (tb : String → Option Builtin) (p : Program) (w : World) (n₀ : Nat) (ann : Option Value) : Nat → SharedT → Thread → Option SharedT
  | 0, _, _ => none
  | n + 1, s, t => match through t with
    | true => some s
    | false => match Fast.tw6613529449190102663 n₀ ann t with
      | false => none
      | true => match Fast.tw10156331382660048174 (Fast.tw11892475500146522536 tb) p w s t with
        | some (s', t') => topRunT tb p w n₀ ann n s' t'
        | none => none

theorem topRun_of {tb : String → Option Builtin} {p : Program} {w : World} {n₀ : Nat} {ann : Option Value} : ∀ {n : Nat} {s s' : SharedT} {t : Thread},
    topRunT tb p w n₀ ann n s t = some s' → topRun tb p w n₀ ann n s.abs t = some s'.abs
  | 0, _, _, _, h => by cases h
  | n + 1, s, s', t, h => by
    unfold topRunT at h
    rw [← Fast.te6613529449190102663, ← Fast.te10156331382660048174, ← Fast.te11892475500146522536] at h
    unfold topRun
    cases he : through t with
    | true => rw [he] at h; cases h; rfl
    | false =>
      rw [he] at h
      cases hk : stepOk n₀ ann t with
      | false => rw [hk] at h; cases h
      | true =>
        rw [hk] at h
        cases hs : stepT (denote tb) p w s t with
        | none => rw [hs] at h; cases h
        | some r => obtain ⟨s₂, t₂⟩ := r; rw [hs] at h; rw [stepT_spec hs]; exact topRun_of h

def insAll : List Obj → Nat → BT → BT
  | [], _, t => t
  | o :: r, n, t => insAll r (n + 1) (t.ins n o)
def treeOf (h : Heap) : BT := insAll h.objs.toList 0 .nil
theorem boot_abs (P : Params) : absHeap (treeOf (boot_heap P)) (boot_heap P).objs.size (boot_heap P).life = boot_heap P := by kernel_rfl
/-- the whole top, in one run -/
noncomputable def run (w : World) (os : OsState) : Option SharedT :=
  topRunT Fast.tw14364793385576792824 pw w (boot_heap w.params).objs.size ((boot_heap w.params).nsMap mainGlobals "__annotations__") 4388
    ⟨treeOf (boot_heap w.params), (boot_heap w.params).objs.size, (boot_heap w.params).life, Array.mk [], boot_drawn, boot_toks, os⟩ (topStub pw)
noncomputable def fin (w : World) (s : Shared) : Bool :=
  staticsOk (importedModules pw.main.body) (boot_heap w.params) s.heap && namesBound pw s.heap && gensDone s && laidKept (boot_heap w.params) s.heap
theorem boot_small (w : World) : ((boot_heap w.params).isNs mainGlobals && (Array.mk ([] : List GenState)).size == 0) = true := by kernel_rfl
theorem opens : opening pw = plainProg pw.main.scope.names := by kernel_rfl
theorem fences (s : Shared) : fenceModules? pw s = some s := by kernel_rfl

theorem some_of {σ α β : Type} {R : Option σ} {f : σ → Bool} {g : σ → α} {y : σ → β} {G : α} {Y : β} (h : R.map (fun s => (f s, g s, y s)) = some (true, G, Y)) :
    ∃ s, R = some s ∧ f s = true ∧ g s = G ∧ y s = Y := by
  cases R with
  | none => cases h
  | some s => exact ⟨s, rfl, congrArg Prod.fst (Option.some.inj h), congrArg (fun x => x.2.1) (Option.some.inj h), congrArg (fun x => x.2.2) (Option.some.inj h)⟩
theorem topFrom_of {p : Program} {w : World} {N : Nat} {h : Heap} {d : Drawn} {k : Nat} {os : OsState} {s : Shared} (hs : (h.isNs mainGlobals && (Array.mk ([] : List GenState)).size == 0) = true)
    (r : topRun treeTable p w h.objs.size (h.nsMap mainGlobals "__annotations__") N ⟨h, Array.mk [], d, k, os⟩ (topStub p) = some s)
    (f : (staticsOk (importedModules p.main.body) h s.heap && namesBound p s.heap && gensDone s && laidKept h s.heap) = true) : topFrom treeTable p w N ⟨h, Array.mk [], d, k, os⟩ = some s := by
  unfold topFrom
  dsimp only
  rw [hs, r]
  show (match staticsOk (importedModules p.main.body) h s.heap && namesBound p s.heap && gensDone s && laidKept h s.heap with | true => _ | false => _) = _
  rw [f]
theorem openEnds_of {p : Program} {w : World} {N : Nat} {s₀ s : Shared} {α : Type} {F : Shared → α} {v : α} (e : fencedOpening treeTable p w N = some s₀) (t : topFrom treeTable p w N s₀ = some s) (h : F s = v) :
    (openEnds treeTable p w N).map F = some v := by
  unfold openEnds
  rw [e]
  show (topFrom treeTable p w N s₀).map F = _
  rw [t]
  exact congrArg some h
theorem boot_shared {h : Heap} {gs : Array GenState} {d : Drawn} {k : Nat} {os : OsState} {H : Heap} {D : Drawn} {T : Nat} (e : (h, gs, d, k) = (H, Array.mk [], D, T)) : Shared.mk h gs d k os = ⟨H, Array.mk [], D, T, os⟩ := by
  cases e; rfl
theorem run_boot {w : World} {os : OsState} {s : SharedT} (hr : run w os = some s) :
    topRun treeTable pw w (boot_heap w.params).objs.size ((boot_heap w.params).nsMap mainGlobals "__annotations__") 4388 ⟨boot_heap w.params, Array.mk [], boot_drawn, boot_toks, os⟩ (topStub pw) = some s.abs := by
  unfold run at hr
  rw [← Fast.te14364793385576792824] at hr
  have r := topRun_of hr
  unfold SharedT.abs at r
  dsimp only at r
  rw [boot_abs] at r
  exact r
theorem left_of {α : Type} {Yf : Shared → α} {Ya : World → α}
    (h : ∀ (w : World) (os : OsState), (run w os).map (fun s => (fin w s.abs, Fast.tw4187177175401517315 view loose (importedModules pw.main.body) Xt true s.abs, Yf s.abs)) = some (true, openGood view loose, Ya w)) : LeftO pw view loose Xt Yf Ya 4388 := fun w => by
  obtain ⟨⟨hp, gs, d, k, os⟩, e, e'⟩ := Option.map_eq_some_iff.mp (boot_open (p := pw) (N := 4388) opens (Nat.ble_eq_true_of_le (by decide)) fences w)
  rw [boot_shared e'] at e
  obtain ⟨s, hr, h1, h2, h3⟩ := some_of (h w os)
  rw [← Fast.te4187177175401517315] at h2
  exact openEnds_of e (topFrom_of (boot_small w) (run_boot hr) h1) (Prod.ext h2 h3)

local macro_rules | `(tactic| o_head $H:term) => `(tactic| (
  refine holds_open (d := ?d) (kwd := ?kwd) (q := Mine.view) (loose := Mine.loose) (Xt := Mine.Xt) (XP := XL Mine.view []) (Yf := Hook.obs $H) (Ya := Hook.val $H) (YP := Hook.says $H) (N := 4388) (Mine.left_of ?hl) (Hook.of $H) (Hook.keeps $H)
    (fun s e => xl_of s (Bool.and_eq_true_iff.mp e).1) XL.keeps ?a1 ?a2 ?a3 (fun s e => recFacts_of (Bool.and_eq_true_iff.mp e).2) ?a6 ?a4 ?a5 ?a7 ?hw ?hc
  (case a1 => rfl)
  (case a2 => rfl)
  (case a3 => rfl)
  (case a6 => rfl)
  (case a4 => first | assumption | decide +kernel)
  (case a5 => decide +kernel)
  (case a7 => exact ⟨rfl, rfl, rfl, rfl, rfl, by decide +kernel⟩)
  (case hl => intro w os; kernel_rfl)))
set_option maxHeartbeats 8000000 in
open_top hd for PySem.Challenge.rw_lh0031_01
end
section
/-! part Eu -/
set_option exponentiation.threshold 600
/-! plain numbers: the extended Euclid of the project's inverse -/
structure EInv (a n lm hm low high : Int) : Prop where
  l : n ∣ lm * a - low
  h : n ∣ hm * a - high
  g : ∀ d : Int, d ∣ low → d ∣ high → d ∣ 1
  pos : 1 ≤ low
  lt : low < high
  b : lm.natAbs * high.natAbs + hm.natAbs * low.natAbs ≤ n.natAbs
  hn : high ≤ n
/-- r is what the project's inverse of a modulo n must be -/
def IsInv (n a r : Int) : Prop := 0 ≤ r ∧ r < n ∧ (a.fmod n = 0 → r = 0) ∧ (a.fmod n ≠ 0 → n ∣ r * a - 1)
/-- a modulus of the size at hand, every number below it coprime to it -/
def Mod (p : Int) : Prop := 1 < p ∧ p < 2 ^ 384 ∧ ∀ b : Int, 0 < b → b < p → ∀ d : Int, d ∣ b → d ∣ p → d ∣ 1
section
variable {a n lm hm low high : Int}
theorem EInv.ne (E : EInv a n lm hm low high) : low ≠ 0 := by have := E.pos; omega
theorem EInv.start (hm1 : Mod n) (h0 : a.fmod n ≠ 0) : EInv (a.fmod n) n 1 0 ((a.fmod n).fmod n) n := by
  have hpos : 0 < n := by have := hm1.1; omega
  have e : (a.fmod n).fmod n = a.fmod n := by
    rw [Int.fmod_eq_emod_of_nonneg _ (by omega), Int.fmod_eq_emod_of_nonneg _ (by omega), Int.emod_emod_of_dvd _ (Int.dvd_refl n)]
  rw [e]
  have h1 : 0 ≤ a.fmod n := by rw [Int.fmod_eq_emod_of_nonneg _ (by omega)]; exact Int.emod_nonneg _ (by omega)
  have h2 : a.fmod n < n := by rw [Int.fmod_eq_emod_of_nonneg _ (by omega)]; exact Int.emod_lt_of_pos _ hpos
  generalize a.fmod n = c at h0 h1 h2
  refine ⟨by rw [Int.one_mul, Int.sub_self]; exact Int.dvd_zero n, by rw [Int.zero_mul, Int.zero_sub]; exact Int.dvd_neg.mpr (Int.dvd_refl n), hm1.2.2 c (by omega) h2, by omega, h2, ?_, Int.le_refl n⟩
  simp
theorem EInv.step (E : EInv a n lm hm low high) (h1 : 1 < low) : EInv a n (hm - lm * high.fdiv low) lm (high - low * high.fdiv low) low := by
  obtain ⟨hl, hh, hg, hp, hlt, hb, hhn⟩ := E
  have hr : high.fdiv low = high / low := Int.fdiv_eq_ediv_of_nonneg _ (by omega)
  rw [hr]
  have hnew : high - low * (high / low) = high % low := (Int.emod_def high low).symm
  have n0 : 0 ≤ high % low := Int.emod_nonneg _ (by omega)
  have n1 : high % low < low := Int.emod_lt_of_pos _ (by omega)
  have r0 : 0 ≤ high / low := Int.ediv_nonneg (by omega) (by omega)
  have hsum : low * (high / low) + high % low = high := Int.mul_ediv_add_emod high low
  rw [hnew]
  generalize high / low = r at *
  generalize high % low = nw at *
  refine ⟨?_, hl, ?_, ?_, n1, ?_, by omega⟩
  · have e : (hm - lm * r) * a - nw = (hm * a - high) - r * (lm * a - low) := by
      rw [← hsum, Int.sub_mul, Int.mul_sub, Int.mul_comm low r, Int.mul_assoc, Int.mul_comm lm (r * a), Int.mul_assoc, Int.mul_comm a lm]
      omega
    rw [e]
    exact Int.dvd_sub hh (Int.dvd_mul_of_dvd_right hl)
  · intro d d1 d2
    exact hg d d2 (by rw [← hsum]; exact Int.dvd_add (Int.dvd_mul_of_dvd_left d2) d1)
  · rcases Int.lt_or_eq_of_le n0 with q | q
    · omega
    · exfalso
      have := hg low (Int.dvd_refl low) (by rw [← hsum, ← q, Int.add_zero]; exact Int.dvd_mul_right low r)
      have := Int.le_of_dvd (by omega) this
      omega
  · have t1 : (hm - lm * r).natAbs ≤ hm.natAbs + lm.natAbs * r.natAbs := by
      have := Int.natAbs_sub_le hm (lm * r)
      rwa [Int.natAbs_mul] at this
    have t2 : high.natAbs = low.natAbs * r.natAbs + nw.natAbs := by
      have : (low * r).natAbs = low.natAbs * r.natAbs := Int.natAbs_mul low r
      have : 0 ≤ low * r := Int.mul_nonneg (by omega) r0
      omega
    have t3 : (hm - lm * r).natAbs * low.natAbs ≤ (hm.natAbs + lm.natAbs * r.natAbs) * low.natAbs := Nat.mul_le_mul_right _ t1
    have t4 : (hm.natAbs + lm.natAbs * r.natAbs) * low.natAbs + lm.natAbs * nw.natAbs = lm.natAbs * high.natAbs + hm.natAbs * low.natAbs := by
      rw [t2, Nat.add_mul, Nat.mul_add, Nat.mul_assoc, Nat.mul_comm r.natAbs low.natAbs]
      omega
    omega
theorem EInv.falls (E : EInv a n lm hm low high) (_h1 : 1 < low) : (high - low * high.fdiv low).toNat < low.toNat := by
  have hp := E.pos
  rw [Int.fdiv_eq_ediv_of_nonneg _ (by omega), ← Int.emod_def]
  have n0 := Int.emod_nonneg high (b := low) (by omega)
  have n1 := Int.emod_lt_of_pos high (b := low) (by omega)
  omega
theorem EInv.fits (E : EInv a n lm hm low high) : lm.natAbs ≤ n.natAbs ∧ low.natAbs ≤ n.natAbs ∧ (high.fdiv low).natAbs ≤ n.natAbs := by
  obtain ⟨_, _, _, hp, hlt, hb, hhn⟩ := E
  refine ⟨?_, by omega, ?_⟩
  · have : lm.natAbs * 1 ≤ lm.natAbs * high.natAbs := Nat.mul_le_mul_left _ (by omega)
    omega
  · rw [Int.fdiv_eq_ediv_of_nonneg _ (by omega)]
    have h0 : 0 ≤ high / low := Int.ediv_nonneg (by omega) (by omega)
    have h1 : high / low ≤ high := Int.ediv_le_self _ (by omega)
    omega
theorem EInv.ends (hm1 : Mod n) (E : EInv (a.fmod n) n lm hm low high) (h : ¬ 1 < low) (h0 : a.fmod n ≠ 0) : IsInv n a (lm.fmod n) := by
  have hpos : 0 < n := by have := hm1.1; omega
  have e1 : low = 1 := by have := E.pos; omega
  have hl := E.l
  rw [e1] at hl
  rw [Int.fmod_eq_emod_of_nonneg lm (by omega)]
  refine ⟨Int.emod_nonneg _ (by omega), Int.emod_lt_of_pos _ hpos, fun z => absurd z h0, fun _ => ?_⟩
  have hsplit : lm % n * a - 1 = (lm * (a.fmod n) - 1) + (lm % n * (a - a.fmod n) - (lm - lm % n) * (a.fmod n)) := by
    rw [Int.mul_sub, Int.sub_mul]; omega
  rw [hsplit]
  refine Int.dvd_add hl (Int.dvd_sub (Int.dvd_mul_of_dvd_right ?_) (Int.dvd_mul_of_dvd_left ?_))
  · rw [Int.fmod_eq_emod_of_nonneg a (by omega)]; exact Int.dvd_self_sub_emod
  · exact Int.dvd_self_sub_emod
theorem IsInv.zero (hpos : 1 < n) (h0 : a.fmod n = 0) : IsInv n a 0 := ⟨by omega, by omega, fun _ => rfl, fun h => absurd h0 h⟩
end
theorem bits_of_le {x n : Int} (hn : n < 2 ^ 384) (h0 : 0 ≤ n) (h : x.natAbs ≤ n.natAbs) : Builtin.Int.intBits x ≤ 2 ^ 20 := by
  unfold Builtin.Int.intBits
  split
  · exact Nat.zero_le _
  · rename_i hx
    have hne : x.natAbs ≠ 0 := by intro q; apply hx; rw [beq_iff_eq]; omega
    have hlt : x.natAbs < 2 ^ 384 := by
      refine Nat.lt_of_le_of_lt h ?_
      have : ((n.natAbs : Nat) : Int) < ((2 ^ 384 : Nat) : Int) := by rw [Int.natAbs_of_nonneg h0]; exact hn
      exact Int.ofNat_lt.mp this
    have := (Nat.log2_lt hne).mpr hlt
    have e : (2 : Nat) ^ 20 = 1048576 := by decide
    omega
theorem mulOk {p x y : Int} (h : Mod p) (hx : x.natAbs ≤ p.natAbs) (hy : y.natAbs ≤ p.natAbs) : IntMulOk x y :=
  .of_bits (bits_of_le h.2.1 (by have := h.1; omega) hx) (bits_of_le h.2.1 (by have := h.1; omega) hy)
theorem noPy {p x y : Int} (h : Mod p) (hy : y.natAbs ≤ p.natAbs) : Builtin.divisionGoesByPylong x y = false := by
  have hb := bits_of_le (x := y) h.2.1 (by have := h.1; omega) hy
  have hlt : y.natAbs < 2 ^ 384 := by
    refine Nat.lt_of_le_of_lt hy ?_
    have h1 := h.1
    have : ((p.natAbs : Nat) : Int) < ((2 ^ 384 : Nat) : Int) := by rw [Int.natAbs_of_nonneg (by omega)]; exact h.2.1
    exact Int.ofNat_lt.mp this
  unfold Builtin.divisionGoesByPylong
  dsimp only
  rw [Bool.and_eq_false_iff]
  left
  rw [decide_eq_false_iff_not]
  split
  · omega
  · rename_i hy0
    have hne : y.natAbs ≠ 0 := by intro q; apply hy0; rw [beq_iff_eq]; omega
    have := (Nat.log2_lt hne).mpr hlt
    omega
/-- an int of the form's own size -/
def Sm (x : Int) : Prop := Builtin.Int.intBits x ≤ 2 ^ 20
theorem Sm.mul {x y : Int} (hx : Sm x) (hy : Sm y) : IntMulOk x y := .of_bits hx hy
theorem Sm.of_le {p x : Int} (h : Mod p) (hx : x.natAbs ≤ p.natAbs) : Sm x := bits_of_le h.2.1 (by have := h.1; omega) hx
theorem IsInv.sm {n a r : Int} (h : Mod n) (I : IsInv n a r) : Sm r := Sm.of_le h (by have := I.1; have := I.2.1; omega)
theorem ff {x p : Int} (h : 0 < p) : (x.fmod p).fmod p = x.fmod p := by
  rw [Int.fmod_eq_emod_of_nonneg _ (by omega), Int.fmod_eq_emod_of_nonneg _ (by omega), Int.emod_emod_of_dvd _ (Int.dvd_refl p)]
theorem fmod_lo {x p : Int} (h : 0 < p) : 0 ≤ x.fmod p := by
  rw [Int.fmod_eq_emod_of_nonneg _ (by omega)]; exact Int.emod_nonneg _ (by omega)
theorem fmod_hi {x p : Int} (h : 0 < p) : x.fmod p < p := by
  rw [Int.fmod_eq_emod_of_nonneg _ (by omega)]; exact Int.emod_lt_of_pos _ h
theorem Sm.fmod {x p : Int} (h : Mod p) : Sm (x.fmod p) := Sm.of_le h (by
  have h1 := h.1
  have := fmod_lo (x := x) (p := p) (by omega)
  have := fmod_hi (x := x) (p := p) (by omega)
  omega)
end
section
/-! part Eu2 -/
set_option exponentiation.threshold 600
/-- r is what a power by squaring must be -/
def PowIs (p n e r : Int) : Prop := r = (n ^ e.toNat).fmod p
theorem fm {x p : Int} (h : 0 < p) : x.fmod p = x % p := Int.fmod_eq_emod_of_nonneg _ (by omega)
theorem half {e : Int} {j : Nat} (h : 0 ≤ e ∧ e < 2 ^ (j + 1)) : 0 ≤ e.fdiv 2 ∧ e.fdiv 2 < 2 ^ j := by
  rw [Int.fdiv_eq_ediv_of_nonneg _ (by omega)]
  rw [Int.pow_succ] at h
  generalize (2 : Int) ^ j = q at *
  omega
theorem emod_pow {a p : Int} (k : Nat) : (a % p) ^ k % p = a ^ k % p := by
  induction k with
  | zero => rw [Int.pow_zero, Int.pow_zero]
  | succ k ih => rw [Int.pow_succ, Int.pow_succ, Int.mul_emod, ih, Int.emod_emod_of_dvd _ (Int.dvd_refl p), ← Int.mul_emod]
theorem PowIs.even {p n e r : Int} (hp : 0 < p) (h0 : 0 ≤ e) (he : e.fmod 2 = 0) (h : PowIs p ((n * n).fmod p) (e.fdiv 2) r) : PowIs p n e r := by
  unfold PowIs at *
  rw [h, fm hp, fm hp, fm hp, emod_pow]
  rw [Int.fdiv_eq_ediv_of_nonneg _ (by omega)]
  rw [Int.fmod_eq_emod_of_nonneg _ (by omega)] at he
  have : e.toNat = 2 * (e / 2).toNat := by omega
  rw [this, Int.pow_mul, show n ^ 2 = n * n by rw [Int.pow_succ, Int.pow_succ, Int.pow_zero, Int.one_mul]]
theorem PowIs.odd {p n e r : Int} (hp : 0 < p) (h0 : 0 ≤ e) (he : ¬ e.fmod 2 = 0) (h : PowIs p ((n * n).fmod p) (e.fdiv 2) r) : PowIs p n e ((r * n).fmod p) := by
  unfold PowIs at *
  rw [h, fm hp, fm hp, fm hp, fm hp, emod_pow]
  rw [Int.fdiv_eq_ediv_of_nonneg _ (by omega)]
  rw [Int.fmod_eq_emod_of_nonneg _ (by omega)] at he
  have : e.toNat = 2 * (e / 2).toNat + 1 := by omega
  rw [this, Int.pow_succ, Int.pow_mul, show n ^ 2 = n * n by rw [Int.pow_succ, Int.pow_succ, Int.pow_zero, Int.one_mul], Int.mul_emod, Int.emod_emod_of_dvd _ (Int.dvd_refl p), ← Int.mul_emod]
theorem PowIs.zero {p n : Int} : PowIs p n 0 ((1 : Int).fmod p) := by
  unfold PowIs
  rw [show (0 : Int).toNat = 0 from rfl, Int.pow_zero]
theorem PowIs.one {p n : Int} : PowIs p n 1 (n.fmod p) := by
  unfold PowIs
  rw [show (1 : Int).toNat = 1 from rfl, Int.pow_succ, Int.pow_zero, Int.one_mul]
theorem PowIs.sm {p n e r : Int} (h : Mod p) (I : PowIs p n e r) : Sm r := by rw [I]; exact Sm.fmod h
theorem PowIs.zero' {p n e : Int} (h : e = 0) : PowIs p n e ((1 : Int).fmod p) := by subst h; exact PowIs.zero
theorem PowIs.one' {p n e : Int} (h : e = 1) : PowIs p n e (n.fmod p) := by subst h; exact PowIs.one
section
variable {h₀ h : Heap} {L : Addr} {a b c d e f : Addr × Obj} {news : List (Addr × Obj)}
theorem drop_mid2 (N : News h₀ L h (a :: b :: c :: d :: news)) : News h₀ L h (a :: b :: news) :=
  News.cons (N _ (.head _)) (News.cons (N _ (.tail _ (.head _))) fun p hp => N p (.tail _ (.tail _ (.tail _ (.tail _ hp)))))
where
  News.cons {p : Addr × Obj} {l : List (Addr × Obj)} (hp : h.get? p.1 = some p.2 ∧ p.1 ≠ L ∧ h₀.get? p.1 = none) (N : News h₀ L h l) : News h₀ L h (p :: l) := fun q hq => by
    rcases List.mem_cons.mp hq with rfl | hq
    · exact hp
    · exact N q hq
theorem drop_mid4 (N : News h₀ L h (a :: b :: c :: d :: e :: f :: news)) : News h₀ L h (a :: b :: news) :=
  drop_mid2 (c := e) (d := f) (drop_mid2 N)
end
end
section
/-! part Ft -/
/-! the text of a type: an f-string's field that holds a class -/
namespace Ft
theorem slot_format : Slot "type" "__format__" "object.__format__" :=
  .of (owner := "object") (n := "__format__") (by rw [typeLookup_type, builtinLookup_eq_fast]; kernel_rfl) (by decide +kernel) (by decide +kernel) (by decide +kernel)
    (by first | exact .inl (by decide +kernel) | exact .inr (by decide +kernel)) (by rw [isSubtype_type]; kernel_rfl)
theorem slot_str : Slot "type" "__str__" "object.__str__" :=
  .of (owner := "object") (n := "__str__") (by rw [typeLookup_type, builtinLookup_eq_fast]; kernel_rfl) (by decide +kernel) (by decide +kernel) (by decide +kernel)
    (by first | exact .inl (by decide +kernel) | exact .inr (by decide +kernel)) (by rw [isSubtype_type]; kernel_rfl)
theorem slot_repr : Slot "type" "__repr__" "type.__repr__" :=
  .of (owner := "type") (n := "__repr__") (by rw [typeLookup_type, builtinLookup_eq_fast]; kernel_rfl) (by decide +kernel) (by decide +kernel) (by decide +kernel)
    (by first | exact .inl (by decide +kernel) | exact .inr (by decide +kernel)) (by rw [isSubtype_type]; kernel_rfl)
theorem entry_repr : entryFor table "type.__repr__" = some Builtin.«type.__repr__» := entryFor_of_tree (by kernel_rfl)
theorem args_repr (a : Value) : argsOk "type.__repr__" ⟨[a], []⟩ := by unfold argsOk; kernel_rfl
theorem sub_object : isSubtype (.type "type") (.type "object") = pure true := by rw [isSubtype_type]; kernel_rfl
theorem sub_type : isSubtype (.type "type") (.type "type") = pure true := by rw [isSubtype_type]; kernel_rfl
section
variable {prog : Program} {w : World} {M : Model} {A : Around} {E : Value → Shared → Prop} {s : Shared} {v : Value}
theorem special {name : Str} {id : String} {args : List Value} {Q : Option Value → Shared → Prop} (hT : Looks M s.heap (typeOf v) (.type "type")) (S : Slot "type" name id)
    (h : wpAny M A (call (.builtin id) (v :: args)) (fun v => Q (some v)) E s) : wpAny M A (callSpecial? v name args) Q E s :=
  wpAny_bind (wpAny_bind (hT.here ((Looks.of_pure S.lookup).here (wpAny_holding (wpAny_bind ((Looks.of_pure (S.bind _)).here (wpAny_bind (wpAny_mono h (fun _ _ z => wpAny_pure z) fun _ _ z => z))))))))
theorem ifBound {name : Str} {id : String} {args : List Value} {Q : Option Value → Shared → Prop} (hT : Looks M s.heap (typeOf v) (.type "type")) (S : Slot "type" name id)
    (h : wpAny M A (call (.builtin id) (v :: args)) (fun v => Q (some v)) E s) : wpAny M A (callSpecialIfBound? v name args) Q E s := by
  simp only [callSpecialIfBound?, bindSpecialIfBound?]
  refine wpAny_holding (wpAny_bind (wpAny_bind (wpAny_bind (hT.here ((Looks.of_pure S.lookup).here ?_)))))
  refine wpAny_bind (wpAny_askSetting (wpAny_ite ?_))
  have fin : wpAny M A (call (.builtin id) ([v] ++ args) >>= fun v => pure (some v)) Q E s := wpAny_bind (wpAny_mono h (fun v s' h' => wpAny_pure h') fun _ _ h' => h')
  split
  · exact wpAny_bind ((Looks.of_pure (S.bind _)).here (wpAny_pure (by exact fin)))
  · exact wpAny_tryCatch (wpAny_bind ((Looks.of_pure (S.bind _)).here (wpAny_pure (by exact fin))))
/-- what type.__repr__ gives back: a short text, nothing changed but the tokens -/
def Reprs (prog : Program) (w : World) (h : Heap) (v : Value) (x : Str) : Prop :=
  ∀ (A : Around) (Q : Fin → Shared → Prop) (E : Value → Shared → Prop) (s : Shared), (∀ b o, h.get? b = some o → s.heap.get? b = some o) → Q (.done (.ret (.str x s.toks))) { s with toks := s.toks + 1 } → wpAny (model prog w) A (Builtin.«type.__repr__» ⟨[v], []⟩) Q E s
open Builtin in
theorem ostr {x : Str} {Q : Value → Shared → Prop} (hu : A.in1.units < cLine) (hT : Looks (model prog w) s.heap (typeOf v) (.type "type")) (hr : Reprs prog w s.heap v x)
    (h : Q (.str x s.toks) { s with toks := s.toks + 1 }) : wpAny (model prog w) A (call (.builtin "object.__str__") [v]) Q E s := by
  refine wpAny_call (codeAny_call_builtin PySem.F.slot_object_str.plain PySem.F.entry_object_str (check_slot (i := "object.__str__") (owner := "object") (n := "__str__") (by decide +kernel) (by decide +kernel) (hT.andThen (Looks.of_pure sub_object)) (PySem.F.args_object_str_1 _) ?_))
  unfold Builtin.«object.__str__»
  refine wpAny_bind (m := slotArgs "__str__" 0 _) (wpAny_pure ?_)
  refine wpAny_bind (m := cRoomFor _ _) (wpAny_cRoomFor hu ?_)
  refine wpAny_bind (m := callSpecialIfBound? v (Str.ofString "__repr__") _) (ifBound hT slot_repr ?_)
  refine wpAny_call (codeAny_call_builtin slot_repr.plain entry_repr (check_slot (i := "type.__repr__") (owner := "type") (n := "__repr__") (by decide +kernel) (by decide +kernel) (hT.andThen (Looks.of_pure sub_type)) (args_repr _) ?_))
  exact hr _ _ _ _ (fun _ _ e => e) (wpAny_pure h)
theorem obj {x : Str} {Q : Value → Shared → Prop} (hv : ∀ y t, v ≠ .str y t) (hu : A.in1.units < cLine) (hu0 : A.units < cLine) (hT : Looks (model prog w) s.heap (typeOf v) (.type "type")) (hr : Reprs prog w s.heap v x)
    (h : Q (.str x s.toks) { s with toks := s.toks + 1 }) : wpAny (model prog w) A (pyStrObj v) Q E s := by
  have e : pyStrObj v = (do cRoomFor "str" [v]; match ← callSpecial? v "__str__" with
      | some r => if ← isInstance r (.type "str") then pure r else raiseError "TypeError" s!"__str__ returned non-string (type {← PySem.typeNameOf r})"
      | none => unsupported "internal:no-__str__") := by
    cases v with
    | str y t => exact absurd rfl (hv y t)
    | _ => rfl
  rw [e]
  refine wpAny_bind (m := cRoomFor _ _) (wpAny_cRoomFor hu0 ?_)
  refine wpAny_bind (m := callSpecial? v (Str.ofString "__str__")) (special hT slot_str (ostr hu hT hr ?_))
  refine wpAny_bind (wpAny_isInstance (T := "str") (b := true) (typeIs_str _ _ _) isSubtype_str_str ?_)
  first
    | exact wpAny_pure h
    | (rw [if_pos rfl]; exact wpAny_pure h)
    | (simp only [if_true]; exact wpAny_pure h)
theorem field {x : Str} {Q : Value → Shared → Prop} (hv : ∀ y t, v ≠ .str y t) (hu : A.units + 2 < cLine) (hT : Looks (model prog w) s.heap (typeOf v) (.type "type")) (hr : Reprs prog w s.heap v x)
    (h : Q (.str x (s.toks + 1)) { s with toks := s.toks + 1 + 1 }) : wpAny (model prog w) A (formatField v Str.empty) Q E s := by
  have e : formatField v Str.empty = holding [v] (pyFormat v Str.empty) := by
    cases v with
    | str y t => exact absurd rfl (hv y t)
    | _ => rfl
  rw [e]
  refine wpAny_holding ?_
  unfold pyFormat
  refine wpAny_bind (wpAny_mkStr ?_ (by decide))
  refine wpAny_bind (m := callSpecial? v (Str.ofString "__format__") [.str Str.empty s.toks]) (special (s := { s with toks := s.toks + 1 }) hT slot_format ?_)
  refine wpAny_call (codeAny_call_builtin PySem.F.slot_object_format.plain PySem.F.entry_object_format (kfo_check (i := "object.__format__") (owner := "object") (n := "__format__") (by decide +kernel) (by decide +kernel) (hT.andThen (Looks.of_pure sub_object)) (PySem.F.args_object_format_2 _ _) ?_))
  show wpAny _ _ (do let _shown ← PySem.typeNameOf (Value.str Str.empty s.toks); (do ret (← pyStrObj v))) _ _ _
  refine wpAny_bind (PySem.wpAny_typeNameOf (T := "str") (typeIs_str _ _ _) (by decide) fun _ => ?_)
  refine wpAny_bind (obj (s := { s with toks := s.toks + 1 }) hv (by show A.units + 1 + 1 < cLine; omega) (by show A.units + 1 < cLine; omega) hT hr ?_)
  refine wpAny_pure ?_
  exact wpAny_bind (wpAny_isInstance (T := "str") (b := true) (typeIs_str _ _ _) isSubtype_str_str (wpAny_pure h))
theorem reprs_type {h : Heap} {n : String} (hl : (Str.ofString s!"<class '{n}'>").length ≤ sizeLine) : Reprs prog w h (.type n) (Str.ofString s!"<class '{n}'>") := fun A Q E s _ q => by
  show wpAny _ _ (retStr _) _ _ _
  exact wpAny_bind (wpAny_mkStr (wpAny_pure q) hl)
theorem reprs_cls {K : Frag} {h : Heap} {C : Addr} {cd : ClassData} {m : Str} {t : Tok} (X : K.In h) (e : clsIn K C = some cd) (en : nsIn K cd.ns "__module__" = some (some (.str m t))) (hm : (m == ("builtins" : Str)) = false)
    (hl : ((("<class '" : Str) ++ m ++ "." ++ cd.qualname ++ "'>")).length ≤ sizeLine) : Reprs prog w h (.ref C) ((("<class '" : Str) ++ m ++ "." ++ cd.qualname ++ "'>")) := fun A Q E s k q => by
  unfold Builtin.«type.__repr__»
  refine wpAny_bind ((looks_clsIn (X.keeps k) e).here ?_)
  refine wpAny_bind ((looks_nsIn (X.keeps k) en).here ?_)
  dsimp only
  rw [hm]
  simp only [Bool.false_eq_true, if_false]
  exact wpAny_bind (wpAny_mkStr (wpAny_pure q) hl)
end
end Ft
end
section
/-! part St -/
section
variable {prog : Program} {w : World} {A : Around} {E : Value → Shared → Prop} {s : Shared} {K : Frag} {x C C' f f' : Addr} {ox : Obj} {od : Option Obj}
/-- a binary operation whose left side's method raises, the right side of another own class -/
theorem bin_other {op : Operator} {b : Value} {rc rc' : Option Value} {Q : Value → Shared → Prop} (X : K.In s.heap) (I : InstAt s.heap x ox C od) (hb : Looks (model prog w) s.heap (typeOf b) (.ref C')) (hc : selfFirst K C = true) (hc' : selfFirst K C' = true) (hCC : C ≠ C')
    (hs : findIn K (.ref C) (PySem.dunder op.info.2) = some (some (.ref f))) (hf : isFn K (.ref f) = true) (hr : findIn K (.ref C) (dunderR op.info.2) = some rc) (hp : rc = none ∨ ∃ g : Addr, rc = some (.ref g))
    (hs' : findIn K (.ref C') (PySem.dunder op.info.2) = some (some (.ref f'))) (hr' : findIn K (.ref C') (dunderR op.info.2) = some rc') (hp' : rc' = none ∨ ∃ g : Addr, rc' = some (.ref g)) (hsub : subIn K (.ref C') (.ref C) = some false)
    (h : wpAny (model prog w) A (call (.ref f) [.ref x, b]) (fun _ _ => False) E s) : wpAny (model prog w) A (binaryOp op (.ref x) b) Q E s := by
  obtain ⟨cd, rest, hcd, hm⟩ := ksp_first hc
  obtain ⟨cd', rest', hcd', hm'⟩ := ksp_first hc'
  rcases hi : op.info with ⟨sym, nm'⟩
  rw [hi] at hs hr hs' hr'
  dsimp only at hs hr hs' hr'
  have one : wpAny (model prog w) A (tryMethod (.ref x) (PySem.dunder nm') b) (fun _ _ => False) E s := by
    unfold tryMethod
    exact wpAny_bind (special_fn X I hs (beq_iff_eq.mp hf) (wpAny_mono h (fun v s' hv => hv.elim) fun _ _ e => e))
  obtain ⟨hh, g, d, tt, os⟩ := s
  have L1 : Looks (model prog w) hh (typeOf (.ref x)) (.ref C) := I.type
  have L2 : Looks (model prog w) hh (typeOf b) (.ref C') := hb
  have L3 : Looks (model prog w) hh (fillsNumberSlot (.ref C) nm') true := fills_K X hcd hm hs
  have L4 : Looks (model prog w) hh (fillsNumberSlot (.ref C') nm') true := fills_K X hcd' hm' hs'
  have L5 : Looks (model prog w) hh (isSubtype (.ref C') (.ref C)) false := looks_subIn X hsub
  have L6 : Looks (model prog w) hh (numberSlotInPython (.ref C) nm') true := ksp_inPy X hs hr hp
  have L7 : Looks (model prog w) hh (numberSlotInPython (.ref C') nm') true := ksp_inPy X hs' hr' hp'
  have hne : (Value.ref C == Value.ref C') = false := Bool.eq_false_iff.mpr fun q => hCC (Value.ref.inj (beq_iff_eq.mp q))
  simp only [binaryOp, hi]
  refine wpAny_holding (wpAny_bind ?_)
  unfold binaryOp1
  refine wpAny_bind (L1.at (wpAny_bind (L2.at (wpAny_bind (L3.at ?_)))))
  simp only [hne, Bool.false_eq_true, if_false]
  ksp_lk
  refine wpAny_mono one (fun r s' hr' => hr'.elim) fun _ _ e => e
end
abbrev MD (w : World) : Model := model PySem.Challenge.rw_lh0031_01.row.prog w
/-- what the methods ask of an argument that is neither an int nor an element of C -/
def StrangeAt (w : World) (C : Addr) (v tv T : Value) (x : Str) (A : Around) (E : Value → Shared → Prop) (s : Shared) : Prop :=
  (∀ Q : Value → Shared → Prop, (∀ tk, Q (.bool false) { s with toks := tk }) → wpAny (MD w) A (call (.builtin "isinstance") [v, .ref C]) Q E s) ∧
  (∀ Q : Value → Shared → Prop, (∀ tk, Q (.bool false) { s with toks := tk }) → wpAny (MD w) A (call (.builtin "isinstance") [v, .type "int"]) Q E s) ∧
  (∀ Q : Value → Shared → Prop, (∀ tk, Q tv { s with toks := tk }) → wpAny (MD w) A (call (.type "type") [v]) Q E s) ∧
  (∀ Q : Value → Shared → Prop, (∀ t tk, Q (.str x t) { s with toks := tk }) → wpAny (MD w) A (formatField tv Str.empty) Q E s) ∧
  Looks (MD w) s.heap (typeOf v) T ∧
  (∀ (op : Operator) (x : Addr) (ox : Obj) (od : Option Obj) (f : Addr) (Q : Value → Shared → Prop), op = .Add ∨ op = .Sub ∨ op = .Mult ∨ op = .Div → InstAt s.heap x ox C od → findIn (hd.heap_39 w.params) (.ref C) (PySem.dunder op.info.2) = some (some (.ref f)) →
    isFn (hd.heap_39 w.params) (.ref f) = true → wpAny (MD w) A (call (.ref f) [.ref x, v]) (fun _ _ => False) E s → wpAny (MD w) A (binaryOp op (.ref x) v) Q E s)
structure Strange (w : World) (C : Addr) (news : List (Addr × Obj)) (v tv T : Value) (x : Str) : Prop where
  len : x.length ≤ 100
  first : notFirst (hd.heap_39 w.params) C T = true
  at_ : ∀ (A : Around) (E : Value → Shared → Prop) (s : Shared), A.units + 8 < cLine → (hd.heap_39 w.params).In s.heap → (∀ q ∈ news, s.heap.get? q.1 = some q.2) → StrangeAt w C v tv T x A E s
theorem Strange.mono {w : World} {C : Addr} {news news' : List (Addr × Obj)} {v tv T : Value} {x : Str} (S : Strange w C news v tv T x) (h : ∀ q ∈ news, q ∈ news') : Strange w C news' v tv T x :=
  ⟨S.len, S.first, fun A E s hu X N => S.at_ A E s hu X fun q hq => N q (h q hq)⟩
theorem news_at {h₀ h : Heap} {L : Addr} {news : List (Addr × Obj)} (N : News h₀ L h news) : ∀ q ∈ news, h.get? q.1 = some q.2 := fun q hq => (N q hq).1
theorem fits3 {a b x : Str} (ha : a.length ≤ 1000) (hb : b.length ≤ 1000) (hx : x.length ≤ 100) : (a ++ b ++ x).length ≤ sizeLine := by
  rw [strLen_append, strLen_append, sizeLine_eq]; omega
theorem and_keep {a b : Prop} (h : a) (k : a → b) : a ∧ b := ⟨h, k h⟩
theorem raisedK_mono {base h : Heap} {l : List Env} {e t : Addr} {cls : Value} {vs : List Value} {news news' : List (Addr × Obj)} (R : RaisedK base l e cls t vs news h) (hs : ∀ q ∈ news', q ∈ news) : RaisedK base l e cls t vs news' h := by
  obtain ⟨⟨B, h1, h2, h3⟩, h4⟩ := R
  exact ⟨⟨B, h1, fun q hq => h2 q (hs q hq), h3⟩, h4⟩
theorem ksp_binT0 {prog : Program} {w : World} {A : Around} {E : Value → Shared → Prop} {s : Shared} {K : Frag} {x C f : Addr} {ox : Obj} {od : Option Obj} {T : String} {op : Operator} {b : Value} {fo ro rc : Option Value} {Q : Value → Shared → Prop} (X : K.In s.heap) (I : InstAt s.heap x ox C od) (hb : typeOf b = pure (.type T)) (hc : selfFirst K C = true)
    (hs : findIn K (.ref C) (PySem.dunder op.info.2) = some (some (.ref f))) (hf : isFn K (.ref f) = true) (hr : findIn K (.ref C) (dunderR op.info.2) = some rc) (hp : rc = none ∨ ∃ g : Addr, rc = some (.ref g))
    (h1 : findIn K (.type T) (PySem.dunder op.info.2) = some fo) (h2 : findIn K (.type T) (dunderR op.info.2) = some ro) (hsub : subIn K (.type T) (.ref C) = some false)
    (h : wpAny (model prog w) A (call (.ref f) [.ref x, b]) (fun _ _ => False) E s) : wpAny (model prog w) A (binaryOp op (.ref x) b) Q E s := by
  obtain ⟨cd, rest, hcd, hm⟩ := ksp_first hc
  rcases hi : op.info with ⟨sym, nm'⟩
  rw [hi] at hs hr h1 h2
  dsimp only at hs hr h1 h2
  have one : wpAny (model prog w) A (tryMethod (.ref x) (PySem.dunder nm') b) (fun _ _ => False) E s := by
    unfold tryMethod
    exact wpAny_bind (special_fn X I hs (beq_iff_eq.mp hf) (wpAny_mono h (fun v s' hv => hv.elim) fun _ _ e => e))
  obtain ⟨hh, g, d, tt, os⟩ := s
  have L1 : Looks (model prog w) hh (typeOf (.ref x)) (.ref C) := I.type
  have L2 : Looks (model prog w) hh (typeOf b) (.type T) := Looks.of_pure hb
  have L3 : Looks (model prog w) hh (fillsNumberSlot (.ref C) nm') true := fills_K X hcd hm hs
  have L4 : Looks (model prog w) hh (fillsNumberSlot (.type T) nm') ((fo.isSome && !isSeqSlot fo) || (ro.isSome && !isSeqSlot ro)) := ksp_fillsT X h1 h2
  have L5 : Looks (model prog w) hh (isSubtype (.type T) (.ref C)) false := looks_subIn X hsub
  have L6 : Looks (model prog w) hh (numberSlotInPython (.ref C) nm') true := ksp_inPy X hs hr hp
  have L7 : Looks (model prog w) hh (numberSlotInPython (.type T) nm') false := Looks.of_pure rfl
  have L8 : Looks (model prog w) hh (typeLookup (.type T) (dunderR nm')) ro := looks_findIn X h2
  generalize ((fo.isSome && !isSeqSlot fo) || (ro.isSome && !isSeqSlot ro)) = right at L4
  have hne : (Value.ref C == Value.type T) = false := Bool.eq_false_iff.mpr fun q => by cases beq_iff_eq.mp q
  simp only [binaryOp, hi]
  refine wpAny_holding (wpAny_bind ?_)
  unfold binaryOp1
  refine wpAny_bind (L1.at (wpAny_bind (L2.at (wpAny_bind (L3.at ?_)))))
  simp only [hne, Bool.false_eq_true, if_false]
  cases right with
  | false =>
    ksp_lk
    exact wpAny_mono one (fun r s' hr' => hr'.elim) fun _ _ e => e
  | true =>
    ksp_lk
    exact wpAny_mono one (fun r s' hr' => hr'.elim) fun _ _ e => e
end
local macro_rules | `(tactic| walk_at "my k") => `(tactic| ((case k1 => k_asm); (case k2 => k_asm); (case k3 => k_asm); (case k4 => k_asm); (case k5 => k_asm); (case kK => first | exact rfl | assumption)))
local macro_rules | `(tactic| walk_at "my khp") => `(tactic| (case khp => first | assumption | omega))
local macro_rules | `(tactic| walk_at "my du") => `(tactic| ((case kd => first | omega | decide | (dsimp only [ktrTop, Around.deeper, Around.in1, Around.mark]; omega) | (simp only [depth_deeper, depth_in1, depth_under_make, depth_under_kw]; (try dsimp only [ktrTop]); omega)); (case ku => first | omega | decide | (dsimp only [ktrTop, Around.deeper, Around.in1, Around.mark]; omega) | (simp only [units_deeper, units_in1, units_under_make]; (try dsimp only [ktrTop]); omega)); k_whole))
local macro_rules | `(tactic| walk_at "my q") => `(tactic| (walk_at "my k"; walk_at "my khp"; walk_at "my du"))
local macro_rules | `(tactic| walk_at "my in") => `(tactic| (intro z' d' t1' t2' t3' t4' h' tk' F' N' l1 l2; (try k_lt l1); (try k_lt2 l2); (try k_sweep); (try dsimp only)))
local macro_rules | `(tactic| walk_at "my kx") => `(tactic| (case kx => k_mem))
local macro_rules | `(tactic| walk_at "my kdx") => `(tactic| (case kdx => k_mem))
local macro_rules | `(tactic| walk_at "my q1") => `(tactic| (walk_at "my k"; walk_at "my kx"; walk_at "my kdx"; walk_at "my khp"; walk_at "my du"))
/-! part C1 -/
/-- the dict of an element -/
abbrev fqd (P : Params) (p n : Int) (t1 t2 t3 t4 : Tok) : Obj :=
  dictOf [⟨PyData.keyHash P (Str.ofString "field_modulus"), .str (Str.ofString "field_modulus") t1, .int p t2⟩, ⟨PyData.keyHash P (Str.ofString "n"), .str (Str.ofString "n") t3, .int n t4⟩] 2
theorem cmpBack_ref {Q : Value → Shared → Prop} {a : Addr} {s : Shared} (h : Q (.ref a) s) : PySem.W.CmpBack Q (.ref a) s := h
theorem cmpBack_bool {Q : Value → Shared → Prop} {b : Bool} {s : Shared} (h : Q (.bool b) s) : PySem.W.CmpBack Q (.bool b) s := h
local macro_rules | `(tactic| walk_at "CmpBack") => `(tactic| first | refine cmpBack_ref ?_ | refine cmpBack_bool ?_)
local macro_rules | `(tactic| k_mem) => `(tactic| first | ktr_member | exact List.Mem.head _ | (refine' List.mem_cons_of_mem _ ?_; k_mem))
set_option maxHeartbeats 8000000 in
theorem new_int_o {w : World} {mean : ExcName → Option Value} {mg mb : Str → Option Value} {dp un : Nat} {gd : Option (List Code)} {cn : Str} {cs : Scope} {L a : Addr} {ccd : Value} {cl : List (Str × Addr)} {outer : List Env} {A₀ : Around} {base h₀ : Heap}
    {m : Str → Option Value} {news : List (Addr × Obj)} {s : Shared} {Q E : Value → Shared → Prop} (B : Below A₀ base outer h₀) (F : Fr h₀ L s.heap m) (X : (hd.heap_39 w.params).In h₀) (N : News h₀ L s.heap news) (T : Top view (looseW view loose) mean mg mb h₀) (hk : cs.kind = .function)
    {v p : Int} {tv tp : Tok} (hp : 0 < p) (hd : dp + 4 < recursionLimit) (hu : un + 16 < cLine)
    (ret : ∀ z dz t1 t2 t3 t4 h' tk', Fr h₀ L h' m → News h₀ L h' ((z, instObj 186 dz) :: (dz, fqd w.params p (v.fmod p) t1 t2 t3 t4) :: news) → (∀ q ∈ news, q.1 < dz) → dz < z → Q (.ref z) { s with heap := h', toks := tk' }) :
    wpAny (model PySem.Challenge.rw_lh0031_01.row.prog w) (ktrTop dp un gd cn cs L a ccd cl outer) (call (.ref 186) [.int v tv, .int p tp]) Q E s := by
  revert X; k_fill; intro X
  refine' call_cls F X N ?k4 ?k5 ?k6 ?_
  (case k4 => k_is)
  (case k5 => k_is)
  (case k6 => k_is)
  intro x' d' h' F' N' l1 l2; (try k_lt l1); (try k_lt2 l2)
  k_dflt ktr_enter
  k_steps
  exact ret _ _ _ _ _ _ _ _ (by assumption) (by assumption) (by assumption) (by assumption)
set_option maxHeartbeats 8000000 in
theorem new_fq_o {w : World} {mean : ExcName → Option Value} {mg mb : Str → Option Value} {dp un : Nat} {gd : Option (List Code)} {cn : Str} {cs : Scope} {L a : Addr} {ccd : Value} {cl : List (Str × Addr)} {outer : List Env} {A₀ : Around} {base h₀ : Heap}
    {m : Str → Option Value} {news : List (Addr × Obj)} {s : Shared} {Q E : Value → Shared → Prop} (B : Below A₀ base outer h₀) (F : Fr h₀ L s.heap m) (X : (hd.heap_39 w.params).In h₀) (N : News h₀ L s.heap news) (T : Top view (looseW view loose) mean mg mb h₀) (hk : cs.kind = .function)
    {p p0 : Int} {tp : Tok} {x dx : Addr} {n : Int} {x1 x2 x3 x4 : Tok} (hx : (x, instObj 186 dx) ∈ news) (hdx : (dx, fqd w.params p0 n x1 x2 x3 x4) ∈ news) (hp : 0 < p) (hd : dp + 4 < recursionLimit) (hu : un + 16 < cLine)
    (ret : ∀ z dz t1 t2 t3 t4 h' tk', Fr h₀ L h' m → News h₀ L h' ((z, instObj 186 dz) :: (dz, fqd w.params p (n) t1 t2 t3 t4) :: news) → (∀ q ∈ news, q.1 < dz) → dz < z → Q (.ref z) { s with heap := h', toks := tk' }) :
    wpAny (model PySem.Challenge.rw_lh0031_01.row.prog w) (ktrTop dp un gd cn cs L a ccd cl outer) (call (.ref 186) [.ref x, .int p tp]) Q E s := by
  revert X; k_fill; intro X
  refine' call_cls F X N ?k4 ?k5 ?k6 ?_
  (case k4 => k_is)
  (case k5 => k_is)
  (case k6 => k_is)
  intro x' d' h' F' N' l1 l2; (try k_lt l1); (try k_lt2 l2)
  k_dflt ktr_enter
  k_steps
  exact ret _ _ _ _ _ _ _ _ (by assumption) (by assumption) (by assumption) (by assumption)
local macro_rules | `(tactic| walk_at "call ref") => `(tactic| (k_here; (with_reducible show wpAny _ _ (call (Value.ref 186) [Value.int _ _, Value.int _ _]) _ _ _); k_dflt (refine' new_int_o ?k1 ?k2 ?k3 ?k4 ?k5 ?kK ?khp ?kd ?ku ?_; walk_at "my q"); walk_at "my in"))
local macro_rules | `(tactic| walk_at "call ref") => `(tactic| (k_here; (with_reducible show wpAny _ _ (call (Value.ref 186) [Value.ref _, Value.int _ _]) _ _ _); k_dflt (refine' new_fq_o ?k1 ?k2 ?k3 ?k4 ?k5 ?kK ?kx ?kdx ?khp ?kd ?ku ?_; walk_at "my q1"); walk_at "my in"))
set_option maxHeartbeats 8000000 in
theorem new_int_f {w : World} {mean : ExcName → Option Value} {mg mb : Str → Option Value} {dp un : Nat} {gd : Option (List Code)} {cn : Str} {cs : Scope} {L a : Addr} {ccd : Value} {cl : List (Str × Addr)} {outer : List Env} {A₀ : Around} {base h₀ : Heap}
    {m : Str → Option Value} {news : List (Addr × Obj)} {s : Shared} {Q E : Value → Shared → Prop} (B : Below A₀ base outer h₀) (F : Fr h₀ L s.heap m) (X : (hd.heap_39 w.params).In h₀) (N : News h₀ L s.heap news) (T : Top view (looseW view loose) mean mg mb h₀) (hk : cs.kind = .function)
    {v p : Int} {tv tp : Tok} (hp : 0 < p) (hd : dp + 4 < recursionLimit) (hu : un + 16 < cLine)
    (ret : ∀ z dz t1 t2 t3 t4 h' tk', Fr h₀ L h' m → News h₀ L h' ((z, instObj 333 dz) :: (dz, fqd w.params p (v.fmod p) t1 t2 t3 t4) :: news) → (∀ q ∈ news, q.1 < dz) → dz < z → Q (.ref z) { s with heap := h', toks := tk' }) :
    wpAny (model PySem.Challenge.rw_lh0031_01.row.prog w) (ktrTop dp un gd cn cs L a ccd cl outer) (call (.ref 333) [.int v tv, .int p tp]) Q E s := by
  revert X; k_fill; intro X
  refine' call_cls F X N ?k4 ?k5 ?k6 ?_
  (case k4 => k_is)
  (case k5 => k_is)
  (case k6 => k_is)
  intro x' d' h' F' N' l1 l2; (try k_lt l1); (try k_lt2 l2)
  k_dflt ktr_enter
  k_steps
  exact ret _ _ _ _ _ _ _ _ (by assumption) (by assumption) (by assumption) (by assumption)
set_option maxHeartbeats 8000000 in
theorem new_fq_f {w : World} {mean : ExcName → Option Value} {mg mb : Str → Option Value} {dp un : Nat} {gd : Option (List Code)} {cn : Str} {cs : Scope} {L a : Addr} {ccd : Value} {cl : List (Str × Addr)} {outer : List Env} {A₀ : Around} {base h₀ : Heap}
    {m : Str → Option Value} {news : List (Addr × Obj)} {s : Shared} {Q E : Value → Shared → Prop} (B : Below A₀ base outer h₀) (F : Fr h₀ L s.heap m) (X : (hd.heap_39 w.params).In h₀) (N : News h₀ L s.heap news) (T : Top view (looseW view loose) mean mg mb h₀) (hk : cs.kind = .function)
    {p p0 : Int} {tp : Tok} {x dx : Addr} {n : Int} {x1 x2 x3 x4 : Tok} (hx : (x, instObj 333 dx) ∈ news) (hdx : (dx, fqd w.params p0 n x1 x2 x3 x4) ∈ news) (hp : 0 < p) (hd : dp + 4 < recursionLimit) (hu : un + 16 < cLine)
    (ret : ∀ z dz t1 t2 t3 t4 h' tk', Fr h₀ L h' m → News h₀ L h' ((z, instObj 333 dz) :: (dz, fqd w.params p (n) t1 t2 t3 t4) :: news) → (∀ q ∈ news, q.1 < dz) → dz < z → Q (.ref z) { s with heap := h', toks := tk' }) :
    wpAny (model PySem.Challenge.rw_lh0031_01.row.prog w) (ktrTop dp un gd cn cs L a ccd cl outer) (call (.ref 333) [.ref x, .int p tp]) Q E s := by
  revert X; k_fill; intro X
  refine' call_cls F X N ?k4 ?k5 ?k6 ?_
  (case k4 => k_is)
  (case k5 => k_is)
  (case k6 => k_is)
  intro x' d' h' F' N' l1 l2; (try k_lt l1); (try k_lt2 l2)
  k_dflt ktr_enter
  k_steps
  exact ret _ _ _ _ _ _ _ _ (by assumption) (by assumption) (by assumption) (by assumption)
local macro_rules | `(tactic| walk_at "call ref") => `(tactic| (k_here; (with_reducible show wpAny _ _ (call (Value.ref 333) [Value.int _ _, Value.int _ _]) _ _ _); k_dflt (refine' new_int_f ?k1 ?k2 ?k3 ?k4 ?k5 ?kK ?khp ?kd ?ku ?_; walk_at "my q"); walk_at "my in"))
local macro_rules | `(tactic| walk_at "call ref") => `(tactic| (k_here; (with_reducible show wpAny _ _ (call (Value.ref 333) [Value.ref _, Value.int _ _]) _ _ _); k_dflt (refine' new_fq_f ?k1 ?k2 ?k3 ?k4 ?k5 ?kK ?kx ?kdx ?khp ?kd ?ku ?_; walk_at "my q1"); walk_at "my in"))
set_option maxHeartbeats 8000000 in
theorem made_o {w : World} {mean : ExcName → Option Value} {mg mb : Str → Option Value} {dp un : Nat} {gd : Option (List Code)} {cn : Str} {cs : Scope} {L a : Addr} {ccd : Value} {cl : List (Str × Addr)} {outer : List Env} {A₀ : Around} {base h₀ : Heap}
    {m : Str → Option Value} {news : List (Addr × Obj)} {s : Shared} {Q E : Value → Shared → Prop} (B : Below A₀ base outer h₀) (F : Fr h₀ L s.heap m) (X : (hd.heap_39 w.params).In h₀) (N : News h₀ L s.heap news) (T : Top view (looseW view loose) mean mg mb h₀) (hk : cs.kind = .function)
    {v p : Int} {tv : Tok} {x dx : Addr} {n : Int} {x1 x2 x3 x4 : Tok} (hx : (x, instObj 186 dx) ∈ news) (hdx : (dx, fqd w.params p n x1 x2 x3 x4) ∈ news) (hp : 0 < p) (hd : dp + 6 < recursionLimit) (hu : un + 24 < cLine)
    (ret : ∀ z dz t1 t2 t3 t4 h' tk', Fr h₀ L h' m → News h₀ L h' ((z, instObj 186 dz) :: (dz, fqd w.params p (v.fmod p) t1 t2 t3 t4) :: news) → (∀ q ∈ news, q.1 < dz) → dz < z → Q (.ref z) { s with heap := h', toks := tk' }) :
    wpAny (model PySem.Challenge.rw_lh0031_01.row.prog w) (ktrTop dp un gd cn cs L a ccd cl outer) (call (.ref 169) [.ref x, .int v tv]) Q E s := by
  revert X; k_fill; intro X
  refine wpAny_call ?_
  k_dflt ktr_enter
  k_steps
  exact ret _ _ _ _ _ _ _ _ (by assumption) (by assumption) (by assumption) (by assumption)
set_option maxHeartbeats 8000000 in
theorem made_f {w : World} {mean : ExcName → Option Value} {mg mb : Str → Option Value} {dp un : Nat} {gd : Option (List Code)} {cn : Str} {cs : Scope} {L a : Addr} {ccd : Value} {cl : List (Str × Addr)} {outer : List Env} {A₀ : Around} {base h₀ : Heap}
    {m : Str → Option Value} {news : List (Addr × Obj)} {s : Shared} {Q E : Value → Shared → Prop} (B : Below A₀ base outer h₀) (F : Fr h₀ L s.heap m) (X : (hd.heap_39 w.params).In h₀) (N : News h₀ L s.heap news) (T : Top view (looseW view loose) mean mg mb h₀) (hk : cs.kind = .function)
    {v p : Int} {tv : Tok} {x dx : Addr} {n : Int} {x1 x2 x3 x4 : Tok} (hx : (x, instObj 333 dx) ∈ news) (hdx : (dx, fqd w.params p n x1 x2 x3 x4) ∈ news) (hp : 0 < p) (hd : dp + 6 < recursionLimit) (hu : un + 24 < cLine)
    (ret : ∀ z dz t1 t2 t3 t4 h' tk', Fr h₀ L h' m → News h₀ L h' ((z, instObj 333 dz) :: (dz, fqd w.params p (v.fmod p) t1 t2 t3 t4) :: news) → (∀ q ∈ news, q.1 < dz) → dz < z → Q (.ref z) { s with heap := h', toks := tk' }) :
    wpAny (model PySem.Challenge.rw_lh0031_01.row.prog w) (ktrTop dp un gd cn cs L a ccd cl outer) (call (.ref 316) [.ref x, .int v tv]) Q E s := by
  revert X; k_fill; intro X
  refine wpAny_call ?_
  k_dflt ktr_enter
  k_steps
  exact ret _ _ _ _ _ _ _ _ (by assumption) (by assumption) (by assumption) (by assumption)
section
/-! part C2 -/
local macro_rules | `(tactic| walk_at "binaryOp FloorDiv int int") => `(tactic| (k_here; refine PyProof.Rows.floordiv_int (EInv.ne (by assumption)) ?_ (Or.inl (noPy (by assumption) (EInv.fits (by assumption)).2.1))))
local macro_rules | `(tactic| walk_at "binaryOp Mult int int") => `(tactic| (k_here; first | refine PyProof.Rows.mul_int ?_ (mulOk (by assumption) (EInv.fits (by assumption)).1 (EInv.fits (by assumption)).2.2) | refine PyProof.Rows.mul_int ?_ (mulOk (by assumption) (EInv.fits (by assumption)).2.1 (EInv.fits (by assumption)).2.2)))
set_option maxHeartbeats 8000000 in
theorem c_pfi {w : World} {mean : ExcName → Option Value} {mg mb : Str → Option Value} {dp un : Nat} {gd : Option (List Code)} {cn : Str} {cs : Scope} {L a : Addr} {ccd : Value} {cl : List (Str × Addr)} {outer : List Env} {A₀ : Around} {base h₀ : Heap}
    {m : Str → Option Value} {news : List (Addr × Obj)} {s : Shared} {Q E : Value → Shared → Prop} (B : Below A₀ base outer h₀) (F : Fr h₀ L s.heap m) (X : (hd.heap_39 w.params).In h₀) (N : News h₀ L s.heap news) (T : Top view (looseW view loose) mean mg mb h₀) (hk : cs.kind = .function)
    {v p : Int} {tv tp : Tok} (hm : Mod p) (hd : dp + 2 < recursionLimit) (hu : un + 16 < cLine)
    (ret : ∀ r t1 h' tk', Fr h₀ L h' m → News h₀ L h' news → IsInv p v r → Q (.int r t1) { s with heap := h', toks := tk' }) :
    wpAny (model PySem.Challenge.rw_lh0031_01.row.prog w) (ktrTop dp un gd cn cs L a ccd cl outer) (call (.ref 28) [.int v tv, .int p tp]) Q E s := by
  revert X; k_fill; intro X
  have hp := hm.1
  refine wpAny_call ?_
  k_dflt ktr_enter
  k_with "exec While Compare cons nil" => k_while (fun _ lm hm' low high => EInv (v.fmod p) p lm hm' low high) (fun _ _ _ low _ => low.toNat) "lm" "hm" "low" "high"
  k_with "state" => first | exact EInv.start hm (by assumption) | exact EInv.step (by assumption) (by assumption)
  k_with "measure" => exact EInv.falls (by assumption) (by assumption)
  k_steps
  k_with_none
  · exact ret _ _ _ _ (by assumption) (by assumption) (IsInv.zero hp (by assumption))
  · exact ret _ _ _ _ (by assumption) (by first | assumption | exact cb_drop (by assumption) fun _ hq => List.mem_cons_of_mem _ hq | exact cb_drop (by assumption) fun _ hq => List.mem_cons_of_mem _ (List.mem_cons_of_mem _ hq)) (EInv.ends hm (by assumption) (by assumption) (by assumption))
end
local macro_rules | `(tactic| walk_at "my khm") => `(tactic| (case khm => assumption))
local macro_rules | `(tactic| walk_at "my q2") => `(tactic| (walk_at "my k"; walk_at "my khm"; walk_at "my du"))
local macro_rules | `(tactic| walk_at "my in1") => `(tactic| (intro r' t1' h' tk' F' N' I'; (try k_sweep); (try dsimp only)))
/-! part C3 -/
local macro_rules | `(tactic| walk_at "call ref") => `(tactic| (k_here; (with_reducible show wpAny _ _ (call (Value.ref 169) _) _ _ _); k_dflt (refine' made_o ?k1 ?k2 ?k3 ?k4 ?k5 ?kK ?kx ?kdx ?khp ?kd ?ku ?_; walk_at "my q1"); walk_at "my in"))
theorem made_m_o {w : World} {mean : ExcName → Option Value} {mg mb : Str → Option Value} {dp un : Nat} {gd : Option (List Code)} {cn : Str} {cs : Scope} {L a : Addr} {ccd : Value} {cl : List (Str × Addr)} {outer : List Env} {A₀ : Around} {base h₀ : Heap}
    {m : Str → Option Value} {news : List (Addr × Obj)} {s : Shared} {Q E : Value → Shared → Prop} (B : Below A₀ base outer h₀) (F : Fr h₀ L s.heap m) (X : (hd.heap_39 w.params).In h₀) (N : News h₀ L s.heap news) (T : Top view (looseW view loose) mean mg mb h₀) (hk : cs.kind = .function)
    {v p : Int} {tv : Tok} {x dx : Addr} {n : Int} {x1 x2 x3 x4 : Tok} (hx : (x, instObj 186 dx) ∈ news) (hdx : (dx, fqd w.params p n x1 x2 x3 x4) ∈ news) (hp : 0 < p) (hd : dp + 6 < recursionLimit) (hu : un + 24 < cLine)
    (ret : ∀ z dz t1 t2 t3 t4 h' tk', Fr h₀ L h' m → News h₀ L h' ((z, instObj 186 dz) :: (dz, fqd w.params p (v.fmod p) t1 t2 t3 t4) :: news) → (∀ q ∈ news, q.1 < dz) → dz < z → Q (.ref z) { s with heap := h', toks := tk' }) :
    wpAny (model PySem.Challenge.rw_lh0031_01.row.prog w) (ktrTop dp un gd cn cs L a ccd cl outer) (call (.ref 169) [.ref x, .int (v.fmod p) tv]) Q E s :=
  made_o B F X N T hk hx hdx hp hd hu (by rw [ff hp]; exact ret)
local macro_rules | `(tactic| walk_at "call ref") => `(tactic| (k_here; (with_reducible show wpAny _ _ (call (Value.ref 169) [_, Value.int (Int.fmod _ _) _]) _ _ _); k_dflt (refine' made_m_o ?k1 ?k2 ?k3 ?k4 ?k5 ?kK ?kx ?kdx ?khp ?kd ?ku ?_; walk_at "my q1"); walk_at "my in"))
local macro_rules | `(tactic| walk_at "call ref") => `(tactic| (k_here; (with_reducible show wpAny _ _ (call (Value.ref 316) _) _ _ _); k_dflt (refine' made_f ?k1 ?k2 ?k3 ?k4 ?k5 ?kK ?kx ?kdx ?khp ?kd ?ku ?_; walk_at "my q1"); walk_at "my in"))
theorem made_m_f {w : World} {mean : ExcName → Option Value} {mg mb : Str → Option Value} {dp un : Nat} {gd : Option (List Code)} {cn : Str} {cs : Scope} {L a : Addr} {ccd : Value} {cl : List (Str × Addr)} {outer : List Env} {A₀ : Around} {base h₀ : Heap}
    {m : Str → Option Value} {news : List (Addr × Obj)} {s : Shared} {Q E : Value → Shared → Prop} (B : Below A₀ base outer h₀) (F : Fr h₀ L s.heap m) (X : (hd.heap_39 w.params).In h₀) (N : News h₀ L s.heap news) (T : Top view (looseW view loose) mean mg mb h₀) (hk : cs.kind = .function)
    {v p : Int} {tv : Tok} {x dx : Addr} {n : Int} {x1 x2 x3 x4 : Tok} (hx : (x, instObj 333 dx) ∈ news) (hdx : (dx, fqd w.params p n x1 x2 x3 x4) ∈ news) (hp : 0 < p) (hd : dp + 6 < recursionLimit) (hu : un + 24 < cLine)
    (ret : ∀ z dz t1 t2 t3 t4 h' tk', Fr h₀ L h' m → News h₀ L h' ((z, instObj 333 dz) :: (dz, fqd w.params p (v.fmod p) t1 t2 t3 t4) :: news) → (∀ q ∈ news, q.1 < dz) → dz < z → Q (.ref z) { s with heap := h', toks := tk' }) :
    wpAny (model PySem.Challenge.rw_lh0031_01.row.prog w) (ktrTop dp un gd cn cs L a ccd cl outer) (call (.ref 316) [.ref x, .int (v.fmod p) tv]) Q E s :=
  made_f B F X N T hk hx hdx hp hd hu (by rw [ff hp]; exact ret)
local macro_rules | `(tactic| walk_at "call ref") => `(tactic| (k_here; (with_reducible show wpAny _ _ (call (Value.ref 316) [_, Value.int (Int.fmod _ _) _]) _ _ _); k_dflt (refine' made_m_f ?k1 ?k2 ?k3 ?k4 ?k5 ?kK ?kx ?kdx ?khp ?kd ?ku ?_; walk_at "my q1"); walk_at "my in"))
local macro_rules | `(tactic| walk_at "call ref") => `(tactic| (k_here; (with_reducible show wpAny _ _ (call (Value.ref 28) _) _ _ _); k_dflt (refine' c_pfi ?k1 ?k2 ?k3 ?k4 ?k5 ?kK ?khm ?kd ?ku ?_; walk_at "my q2"); walk_at "my in1"))
local macro_rules | `(tactic| walk_at "binaryOp Mult int int") => `(tactic| (k_here; refine PyProof.Rows.mul_int ?_ (Sm.mul (by first | assumption | exact Sm.fmod (by assumption) | exact IsInv.sm (by assumption) (by assumption) | exact PowIs.sm (by assumption) (by assumption)) (by first | assumption | exact Sm.fmod (by assumption) | exact IsInv.sm (by assumption) (by assumption) | exact PowIs.sm (by assumption) (by assumption)))))
set_option maxHeartbeats 8000000 in
theorem add_ff_o {w : World} {mean : ExcName → Option Value} {mg mb : Str → Option Value} {dp un : Nat} {gd : Option (List Code)} {cn : Str} {cs : Scope} {L a : Addr} {ccd : Value} {cl : List (Str × Addr)} {outer : List Env} {A₀ : Around} {base h₀ : Heap}
    {m : Str → Option Value} {news : List (Addr × Obj)} {s : Shared} {Q E : Value → Shared → Prop} (B : Below A₀ base outer h₀) (F : Fr h₀ L s.heap m) (X : (hd.heap_39 w.params).In h₀) (N : News h₀ L s.heap news) (T : Top view (looseW view loose) mean mg mb h₀) (hk : cs.kind = .function)
    {p : Int} {x dx : Addr} {n : Int} {x1 x2 x3 x4 : Tok} (hx : (x, instObj 186 dx) ∈ news) (hdx : (dx, fqd w.params p n x1 x2 x3 x4) ∈ news) {y dy : Addr} {k : Int} {y1 y2 y3 y4 : Tok} (hy : (y, instObj 186 dy) ∈ news) (hdy : (dy, fqd w.params p k y1 y2 y3 y4) ∈ news) (hm : Mod p)  (hd : dp + 8 < recursionLimit) (hu : un + 40 < cLine)
    (ret : ∀ z dz t1 t2 t3 t4 h' tk', Fr h₀ L h' m → News h₀ L h' ((z, instObj 186 dz) :: (dz, fqd w.params p ((n + k).fmod p) t1 t2 t3 t4) :: news) → (∀ q ∈ news, q.1 < dz) → dz < z → Q (.ref z) { s with heap := h', toks := tk' }) :
    wpAny (model PySem.Challenge.rw_lh0031_01.row.prog w) (ktrTop dp un gd cn cs L a ccd cl outer) (call (.ref 49) [.ref x, .ref y]) Q E s := by
  revert X; k_fill; intro X
  have hp : 0 < p := by have := hm.1; omega
  refine wpAny_call ?_
  k_dflt ktr_enter
  k_steps
  exact ret _ _ _ _ _ _ _ _ (by assumption) (by assumption) (by assumption) (by assumption)
set_option maxHeartbeats 8000000 in
theorem add_fi_o {w : World} {mean : ExcName → Option Value} {mg mb : Str → Option Value} {dp un : Nat} {gd : Option (List Code)} {cn : Str} {cs : Scope} {L a : Addr} {ccd : Value} {cl : List (Str × Addr)} {outer : List Env} {A₀ : Around} {base h₀ : Heap}
    {m : Str → Option Value} {news : List (Addr × Obj)} {s : Shared} {Q E : Value → Shared → Prop} (B : Below A₀ base outer h₀) (F : Fr h₀ L s.heap m) (X : (hd.heap_39 w.params).In h₀) (N : News h₀ L s.heap news) (T : Top view (looseW view loose) mean mg mb h₀) (hk : cs.kind = .function)
    {p : Int} {x dx : Addr} {n : Int} {x1 x2 x3 x4 : Tok} (hx : (x, instObj 186 dx) ∈ news) (hdx : (dx, fqd w.params p n x1 x2 x3 x4) ∈ news) {k : Int} {tk0 : Tok} (hm : Mod p)  (hd : dp + 8 < recursionLimit) (hu : un + 40 < cLine)
    (ret : ∀ z dz t1 t2 t3 t4 h' tk', Fr h₀ L h' m → News h₀ L h' ((z, instObj 186 dz) :: (dz, fqd w.params p ((n + k).fmod p) t1 t2 t3 t4) :: news) → (∀ q ∈ news, q.1 < dz) → dz < z → Q (.ref z) { s with heap := h', toks := tk' }) :
    wpAny (model PySem.Challenge.rw_lh0031_01.row.prog w) (ktrTop dp un gd cn cs L a ccd cl outer) (call (.ref 49) [.ref x, .int k tk0]) Q E s := by
  revert X; k_fill; intro X
  have hp : 0 < p := by have := hm.1; omega
  refine wpAny_call ?_
  k_dflt ktr_enter
  k_steps
  exact ret _ _ _ _ _ _ _ _ (by assumption) (by assumption) (by assumption) (by assumption)
set_option maxHeartbeats 8000000 in
theorem sub_ff_o {w : World} {mean : ExcName → Option Value} {mg mb : Str → Option Value} {dp un : Nat} {gd : Option (List Code)} {cn : Str} {cs : Scope} {L a : Addr} {ccd : Value} {cl : List (Str × Addr)} {outer : List Env} {A₀ : Around} {base h₀ : Heap}
    {m : Str → Option Value} {news : List (Addr × Obj)} {s : Shared} {Q E : Value → Shared → Prop} (B : Below A₀ base outer h₀) (F : Fr h₀ L s.heap m) (X : (hd.heap_39 w.params).In h₀) (N : News h₀ L s.heap news) (T : Top view (looseW view loose) mean mg mb h₀) (hk : cs.kind = .function)
    {p : Int} {x dx : Addr} {n : Int} {x1 x2 x3 x4 : Tok} (hx : (x, instObj 186 dx) ∈ news) (hdx : (dx, fqd w.params p n x1 x2 x3 x4) ∈ news) {y dy : Addr} {k : Int} {y1 y2 y3 y4 : Tok} (hy : (y, instObj 186 dy) ∈ news) (hdy : (dy, fqd w.params p k y1 y2 y3 y4) ∈ news) (hm : Mod p)  (hd : dp + 8 < recursionLimit) (hu : un + 40 < cLine)
    (ret : ∀ z dz t1 t2 t3 t4 h' tk', Fr h₀ L h' m → News h₀ L h' ((z, instObj 186 dz) :: (dz, fqd w.params p ((n - k).fmod p) t1 t2 t3 t4) :: news) → (∀ q ∈ news, q.1 < dz) → dz < z → Q (.ref z) { s with heap := h', toks := tk' }) :
    wpAny (model PySem.Challenge.rw_lh0031_01.row.prog w) (ktrTop dp un gd cn cs L a ccd cl outer) (call (.ref 84) [.ref x, .ref y]) Q E s := by
  revert X; k_fill; intro X
  have hp : 0 < p := by have := hm.1; omega
  refine wpAny_call ?_
  k_dflt ktr_enter
  k_steps
  exact ret _ _ _ _ _ _ _ _ (by assumption) (by assumption) (by assumption) (by assumption)
set_option maxHeartbeats 8000000 in
theorem sub_fi_o {w : World} {mean : ExcName → Option Value} {mg mb : Str → Option Value} {dp un : Nat} {gd : Option (List Code)} {cn : Str} {cs : Scope} {L a : Addr} {ccd : Value} {cl : List (Str × Addr)} {outer : List Env} {A₀ : Around} {base h₀ : Heap}
    {m : Str → Option Value} {news : List (Addr × Obj)} {s : Shared} {Q E : Value → Shared → Prop} (B : Below A₀ base outer h₀) (F : Fr h₀ L s.heap m) (X : (hd.heap_39 w.params).In h₀) (N : News h₀ L s.heap news) (T : Top view (looseW view loose) mean mg mb h₀) (hk : cs.kind = .function)
    {p : Int} {x dx : Addr} {n : Int} {x1 x2 x3 x4 : Tok} (hx : (x, instObj 186 dx) ∈ news) (hdx : (dx, fqd w.params p n x1 x2 x3 x4) ∈ news) {k : Int} {tk0 : Tok} (hm : Mod p)  (hd : dp + 8 < recursionLimit) (hu : un + 40 < cLine)
    (ret : ∀ z dz t1 t2 t3 t4 h' tk', Fr h₀ L h' m → News h₀ L h' ((z, instObj 186 dz) :: (dz, fqd w.params p ((n - k).fmod p) t1 t2 t3 t4) :: news) → (∀ q ∈ news, q.1 < dz) → dz < z → Q (.ref z) { s with heap := h', toks := tk' }) :
    wpAny (model PySem.Challenge.rw_lh0031_01.row.prog w) (ktrTop dp un gd cn cs L a ccd cl outer) (call (.ref 84) [.ref x, .int k tk0]) Q E s := by
  revert X; k_fill; intro X
  have hp : 0 < p := by have := hm.1; omega
  refine wpAny_call ?_
  k_dflt ktr_enter
  k_steps
  exact ret _ _ _ _ _ _ _ _ (by assumption) (by assumption) (by assumption) (by assumption)
set_option maxHeartbeats 8000000 in
theorem rsub_fi_o {w : World} {mean : ExcName → Option Value} {mg mb : Str → Option Value} {dp un : Nat} {gd : Option (List Code)} {cn : Str} {cs : Scope} {L a : Addr} {ccd : Value} {cl : List (Str × Addr)} {outer : List Env} {A₀ : Around} {base h₀ : Heap}
    {m : Str → Option Value} {news : List (Addr × Obj)} {s : Shared} {Q E : Value → Shared → Prop} (B : Below A₀ base outer h₀) (F : Fr h₀ L s.heap m) (X : (hd.heap_39 w.params).In h₀) (N : News h₀ L s.heap news) (T : Top view (looseW view loose) mean mg mb h₀) (hk : cs.kind = .function)
    {p : Int} {x dx : Addr} {n : Int} {x1 x2 x3 x4 : Tok} (hx : (x, instObj 186 dx) ∈ news) (hdx : (dx, fqd w.params p n x1 x2 x3 x4) ∈ news) {k : Int} {tk0 : Tok} (hm : Mod p)  (hd : dp + 8 < recursionLimit) (hu : un + 40 < cLine)
    (ret : ∀ z dz t1 t2 t3 t4 h' tk', Fr h₀ L h' m → News h₀ L h' ((z, instObj 186 dz) :: (dz, fqd w.params p ((k - n).fmod p) t1 t2 t3 t4) :: news) → (∀ q ∈ news, q.1 < dz) → dz < z → Q (.ref z) { s with heap := h', toks := tk' }) :
    wpAny (model PySem.Challenge.rw_lh0031_01.row.prog w) (ktrTop dp un gd cn cs L a ccd cl outer) (call (.ref 77) [.ref x, .int k tk0]) Q E s := by
  revert X; k_fill; intro X
  have hp : 0 < p := by have := hm.1; omega
  refine wpAny_call ?_
  k_dflt ktr_enter
  k_steps
  exact ret _ _ _ _ _ _ _ _ (by assumption) (by assumption) (by assumption) (by assumption)
set_option maxHeartbeats 8000000 in
theorem mul_ff_o {w : World} {mean : ExcName → Option Value} {mg mb : Str → Option Value} {dp un : Nat} {gd : Option (List Code)} {cn : Str} {cs : Scope} {L a : Addr} {ccd : Value} {cl : List (Str × Addr)} {outer : List Env} {A₀ : Around} {base h₀ : Heap}
    {m : Str → Option Value} {news : List (Addr × Obj)} {s : Shared} {Q E : Value → Shared → Prop} (B : Below A₀ base outer h₀) (F : Fr h₀ L s.heap m) (X : (hd.heap_39 w.params).In h₀) (N : News h₀ L s.heap news) (T : Top view (looseW view loose) mean mg mb h₀) (hk : cs.kind = .function)
    {p : Int} {x dx : Addr} {n : Int} {x1 x2 x3 x4 : Tok} (hx : (x, instObj 186 dx) ∈ news) (hdx : (dx, fqd w.params p n x1 x2 x3 x4) ∈ news) {y dy : Addr} {k : Int} {y1 y2 y3 y4 : Tok} (hy : (y, instObj 186 dy) ∈ news) (hdy : (dy, fqd w.params p k y1 y2 y3 y4) ∈ news) (hm : Mod p) (sn : Sm n) (sk : Sm k) (hd : dp + 8 < recursionLimit) (hu : un + 40 < cLine)
    (ret : ∀ z dz t1 t2 t3 t4 h' tk', Fr h₀ L h' m → News h₀ L h' ((z, instObj 186 dz) :: (dz, fqd w.params p ((n * k).fmod p) t1 t2 t3 t4) :: news) → (∀ q ∈ news, q.1 < dz) → dz < z → Q (.ref z) { s with heap := h', toks := tk' }) :
    wpAny (model PySem.Challenge.rw_lh0031_01.row.prog w) (ktrTop dp un gd cn cs L a ccd cl outer) (call (.ref 56) [.ref x, .ref y]) Q E s := by
  revert X; k_fill; intro X
  have hp : 0 < p := by have := hm.1; omega
  refine wpAny_call ?_
  k_dflt ktr_enter
  k_steps
  exact ret _ _ _ _ _ _ _ _ (by assumption) (by assumption) (by assumption) (by assumption)
set_option maxHeartbeats 8000000 in
theorem mul_fi_o {w : World} {mean : ExcName → Option Value} {mg mb : Str → Option Value} {dp un : Nat} {gd : Option (List Code)} {cn : Str} {cs : Scope} {L a : Addr} {ccd : Value} {cl : List (Str × Addr)} {outer : List Env} {A₀ : Around} {base h₀ : Heap}
    {m : Str → Option Value} {news : List (Addr × Obj)} {s : Shared} {Q E : Value → Shared → Prop} (B : Below A₀ base outer h₀) (F : Fr h₀ L s.heap m) (X : (hd.heap_39 w.params).In h₀) (N : News h₀ L s.heap news) (T : Top view (looseW view loose) mean mg mb h₀) (hk : cs.kind = .function)
    {p : Int} {x dx : Addr} {n : Int} {x1 x2 x3 x4 : Tok} (hx : (x, instObj 186 dx) ∈ news) (hdx : (dx, fqd w.params p n x1 x2 x3 x4) ∈ news) {k : Int} {tk0 : Tok} (hm : Mod p) (sn : Sm n) (sk : Sm k) (hd : dp + 8 < recursionLimit) (hu : un + 40 < cLine)
    (ret : ∀ z dz t1 t2 t3 t4 h' tk', Fr h₀ L h' m → News h₀ L h' ((z, instObj 186 dz) :: (dz, fqd w.params p ((n * k).fmod p) t1 t2 t3 t4) :: news) → (∀ q ∈ news, q.1 < dz) → dz < z → Q (.ref z) { s with heap := h', toks := tk' }) :
    wpAny (model PySem.Challenge.rw_lh0031_01.row.prog w) (ktrTop dp un gd cn cs L a ccd cl outer) (call (.ref 56) [.ref x, .int k tk0]) Q E s := by
  revert X; k_fill; intro X
  have hp : 0 < p := by have := hm.1; omega
  refine wpAny_call ?_
  k_dflt ktr_enter
  k_steps
  exact ret _ _ _ _ _ _ _ _ (by assumption) (by assumption) (by assumption) (by assumption)
set_option maxHeartbeats 8000000 in
theorem div_ff_o {w : World} {mean : ExcName → Option Value} {mg mb : Str → Option Value} {dp un : Nat} {gd : Option (List Code)} {cn : Str} {cs : Scope} {L a : Addr} {ccd : Value} {cl : List (Str × Addr)} {outer : List Env} {A₀ : Around} {base h₀ : Heap}
    {m : Str → Option Value} {news : List (Addr × Obj)} {s : Shared} {Q E : Value → Shared → Prop} (B : Below A₀ base outer h₀) (F : Fr h₀ L s.heap m) (X : (hd.heap_39 w.params).In h₀) (N : News h₀ L s.heap news) (T : Top view (looseW view loose) mean mg mb h₀) (hk : cs.kind = .function)
    {p : Int} {x dx : Addr} {n : Int} {x1 x2 x3 x4 : Tok} (hx : (x, instObj 186 dx) ∈ news) (hdx : (dx, fqd w.params p n x1 x2 x3 x4) ∈ news) {y dy : Addr} {k : Int} {y1 y2 y3 y4 : Tok} (hy : (y, instObj 186 dy) ∈ news) (hdy : (dy, fqd w.params p k y1 y2 y3 y4) ∈ news) (hm : Mod p) (sn : Sm n) (hd : dp + 8 < recursionLimit) (hu : un + 40 < cLine)
    (ret : ∀ r z dz t1 t2 t3 t4 h' tk', IsInv p k r → Fr h₀ L h' m → News h₀ L h' ((z, instObj 186 dz) :: (dz, fqd w.params p ((n * r).fmod p) t1 t2 t3 t4) :: news) → (∀ q ∈ news, q.1 < dz) → dz < z → Q (.ref z) { s with heap := h', toks := tk' }) :
    wpAny (model PySem.Challenge.rw_lh0031_01.row.prog w) (ktrTop dp un gd cn cs L a ccd cl outer) (call (.ref 98) [.ref x, .ref y]) Q E s := by
  revert X; k_fill; intro X
  have hp : 0 < p := by have := hm.1; omega
  refine wpAny_call ?_
  k_dflt ktr_enter
  k_steps
  exact ret _ _ _ _ _ _ _ _ _ (by assumption) (by assumption) (by assumption) (by assumption) (by assumption)
set_option maxHeartbeats 8000000 in
theorem div_fi_o {w : World} {mean : ExcName → Option Value} {mg mb : Str → Option Value} {dp un : Nat} {gd : Option (List Code)} {cn : Str} {cs : Scope} {L a : Addr} {ccd : Value} {cl : List (Str × Addr)} {outer : List Env} {A₀ : Around} {base h₀ : Heap}
    {m : Str → Option Value} {news : List (Addr × Obj)} {s : Shared} {Q E : Value → Shared → Prop} (B : Below A₀ base outer h₀) (F : Fr h₀ L s.heap m) (X : (hd.heap_39 w.params).In h₀) (N : News h₀ L s.heap news) (T : Top view (looseW view loose) mean mg mb h₀) (hk : cs.kind = .function)
    {p : Int} {x dx : Addr} {n : Int} {x1 x2 x3 x4 : Tok} (hx : (x, instObj 186 dx) ∈ news) (hdx : (dx, fqd w.params p n x1 x2 x3 x4) ∈ news) {k : Int} {tk0 : Tok} (hm : Mod p) (sn : Sm n) (hd : dp + 8 < recursionLimit) (hu : un + 40 < cLine)
    (ret : ∀ r z dz t1 t2 t3 t4 h' tk', IsInv p k r → Fr h₀ L h' m → News h₀ L h' ((z, instObj 186 dz) :: (dz, fqd w.params p ((n * r).fmod p) t1 t2 t3 t4) :: news) → (∀ q ∈ news, q.1 < dz) → dz < z → Q (.ref z) { s with heap := h', toks := tk' }) :
    wpAny (model PySem.Challenge.rw_lh0031_01.row.prog w) (ktrTop dp un gd cn cs L a ccd cl outer) (call (.ref 98) [.ref x, .int k tk0]) Q E s := by
  revert X; k_fill; intro X
  have hp : 0 < p := by have := hm.1; omega
  refine wpAny_call ?_
  k_dflt ktr_enter
  k_steps
  exact ret _ _ _ _ _ _ _ _ _ (by assumption) (by assumption) (by assumption) (by assumption) (by assumption)
set_option maxHeartbeats 8000000 in
theorem rdiv_fi_o {w : World} {mean : ExcName → Option Value} {mg mb : Str → Option Value} {dp un : Nat} {gd : Option (List Code)} {cn : Str} {cs : Scope} {L a : Addr} {ccd : Value} {cl : List (Str × Addr)} {outer : List Env} {A₀ : Around} {base h₀ : Heap}
    {m : Str → Option Value} {news : List (Addr × Obj)} {s : Shared} {Q E : Value → Shared → Prop} (B : Below A₀ base outer h₀) (F : Fr h₀ L s.heap m) (X : (hd.heap_39 w.params).In h₀) (N : News h₀ L s.heap news) (T : Top view (looseW view loose) mean mg mb h₀) (hk : cs.kind = .function)
    {p : Int} {x dx : Addr} {n : Int} {x1 x2 x3 x4 : Tok} (hx : (x, instObj 186 dx) ∈ news) (hdx : (dx, fqd w.params p n x1 x2 x3 x4) ∈ news) {k : Int} {tk0 : Tok} (hm : Mod p) (sk : Sm k) (hd : dp + 8 < recursionLimit) (hu : un + 40 < cLine)
    (ret : ∀ r z dz t1 t2 t3 t4 h' tk', IsInv p n r → Fr h₀ L h' m → News h₀ L h' ((z, instObj 186 dz) :: (dz, fqd w.params p ((r * k).fmod p) t1 t2 t3 t4) :: news) → (∀ q ∈ news, q.1 < dz) → dz < z → Q (.ref z) { s with heap := h', toks := tk' }) :
    wpAny (model PySem.Challenge.rw_lh0031_01.row.prog w) (ktrTop dp un gd cn cs L a ccd cl outer) (call (.ref 105) [.ref x, .int k tk0]) Q E s := by
  revert X; k_fill; intro X
  have hp : 0 < p := by have := hm.1; omega
  refine wpAny_call ?_
  k_dflt ktr_enter
  k_steps
  exact ret _ _ _ _ _ _ _ _ _ (by assumption) (by assumption) (by assumption) (by assumption) (by assumption)
local macro_rules | `(tactic| walk_at "my ky") => `(tactic| (case ky => k_mem))
local macro_rules | `(tactic| walk_at "my kdy") => `(tactic| (case kdy => k_mem))
local macro_rules | `(tactic| walk_at "my q3") => `(tactic| (walk_at "my k"; walk_at "my kx"; walk_at "my kdx"; walk_at "my ky"; walk_at "my kdy"; walk_at "my khm"; walk_at "my du"))
local macro_rules | `(tactic| walk_at "my q4") => `(tactic| (walk_at "my k"; walk_at "my kx"; walk_at "my kdx"; walk_at "my khm"; walk_at "my du"))
local macro_rules | `(tactic| walk_at "my sn") => `(tactic| (case sn => first | assumption | exact Sm.fmod (by assumption) | exact IsInv.sm (by assumption) (by assumption) | exact PowIs.sm (by assumption) (by assumption)))
local macro_rules | `(tactic| walk_at "my sk") => `(tactic| (case sk => first | assumption | exact Sm.fmod (by assumption) | exact IsInv.sm (by assumption) (by assumption) | exact PowIs.sm (by assumption) (by assumption)))
local macro_rules | `(tactic| walk_at "my q5") => `(tactic| (walk_at "my k"; walk_at "my kx"; walk_at "my kdx"; walk_at "my ky"; walk_at "my kdy"; walk_at "my khm"; walk_at "my sn"; walk_at "my sk"; walk_at "my du"))
local macro_rules | `(tactic| walk_at "my q6") => `(tactic| (walk_at "my k"; walk_at "my kx"; walk_at "my kdx"; walk_at "my khm"; walk_at "my sn"; walk_at "my sk"; walk_at "my du"))
local macro_rules | `(tactic| walk_at "my q7") => `(tactic| (walk_at "my k"; walk_at "my kx"; walk_at "my kdx"; walk_at "my ky"; walk_at "my kdy"; walk_at "my khm"; walk_at "my sn"; walk_at "my du"))
local macro_rules | `(tactic| walk_at "my in2") => `(tactic| (intro r' z' d' t1' t2' t3' t4' h' tk' I' F' N' l1 l2; (try k_lt l1); (try k_lt2 l2); (try k_sweep); (try dsimp only)))
local macro_rules | `(tactic| walk_at "my q8") => `(tactic| (walk_at "my k"; walk_at "my kx"; walk_at "my kdx"; walk_at "my khm"; walk_at "my sn"; walk_at "my du"))
local macro_rules | `(tactic| walk_at "my q9") => `(tactic| (walk_at "my k"; walk_at "my kx"; walk_at "my kdx"; walk_at "my khm"; walk_at "my sk"; walk_at "my du"))
local macro_rules | `(tactic| walk_at "my cmp") => `(tactic| (k_dflt (refine' cmp_K ?k1 ?k2 ?k3 ?k4 ?k5 ?k6 ?k7 ?k8 ?_; (case k1 => first | omega | decide | (dsimp only [ktrTop, Around.deeper, Around.in1, Around.mark]; omega) | (simp only [units_deeper, units_in1, units_under_make]; (try dsimp only [ktrTop]); omega)); (case k2 => k_asm); (case k3 => k_asm); (case k4 => k_inst); (case k5 => k_typeOf); (case k6 => k_is); (case k7 => k_is); (case k8 => k_is); k_whole)))
local macro_rules | `(tactic| walk_at "my q10") => `(tactic| (walk_at "my k"; walk_at "my kx"; walk_at "my kdx"; walk_at "my ky"; walk_at "my kdy"; walk_at "my du"))
local macro_rules | `(tactic| walk_at "my in3") => `(tactic| (intro h' tk' F' N'; (try k_sweep); (try dsimp only)))
local macro_rules | `(tactic| walk_at "my q11") => `(tactic| (walk_at "my k"; walk_at "my kx"; walk_at "my kdx"; walk_at "my du"))
local macro_rules | `(tactic| walk_at "compareOp Eq ref") => `(tactic| (k_here; (with_reducible show wpAny _ _ (compareOp CmpOp.Eq (Value.ref _) _) _ _ _); (refine cmp_ofEq ?_); walk_at "my cmp"))
local macro_rules | `(tactic| walk_at "compareOp NotEq ref") => `(tactic| (k_here; (with_reducible show wpAny _ _ (compareOp CmpOp.NotEq (Value.ref _) _) _ _ _); (refine cmp_ofNotEq ?_); walk_at "my cmp"))
local macro_rules | `(tactic| walk_at "compareOp Lt ref") => `(tactic| (k_here; (with_reducible show wpAny _ _ (compareOp CmpOp.Lt (Value.ref _) _) _ _ _); (refine cmp_ofLt ?_); walk_at "my cmp"))
/-! part C4 -/
local macro_rules | `(tactic| walk_at "call ref") => `(tactic| (k_here; (with_reducible show wpAny _ _ (call (Value.ref 49) [Value.ref _, Value.ref _]) _ _ _); k_dflt (refine' add_ff_o ?k1 ?k2 ?k3 ?k4 ?k5 ?kK ?kx ?kdx ?ky ?kdy ?khm ?kd ?ku ?_; walk_at "my q3"); walk_at "my in"))
local macro_rules | `(tactic| walk_at "call ref") => `(tactic| (k_here; (with_reducible show wpAny _ _ (call (Value.ref 49) [Value.ref _, Value.int _ _]) _ _ _); k_dflt (refine' add_fi_o ?k1 ?k2 ?k3 ?k4 ?k5 ?kK ?kx ?kdx ?khm ?kd ?ku ?_; walk_at "my q4"); walk_at "my in"))
local macro_rules | `(tactic| walk_at "call ref") => `(tactic| (k_here; (with_reducible show wpAny _ _ (call (Value.ref 84) [Value.ref _, Value.ref _]) _ _ _); k_dflt (refine' sub_ff_o ?k1 ?k2 ?k3 ?k4 ?k5 ?kK ?kx ?kdx ?ky ?kdy ?khm ?kd ?ku ?_; walk_at "my q3"); walk_at "my in"))
local macro_rules | `(tactic| walk_at "call ref") => `(tactic| (k_here; (with_reducible show wpAny _ _ (call (Value.ref 84) [Value.ref _, Value.int _ _]) _ _ _); k_dflt (refine' sub_fi_o ?k1 ?k2 ?k3 ?k4 ?k5 ?kK ?kx ?kdx ?khm ?kd ?ku ?_; walk_at "my q4"); walk_at "my in"))
local macro_rules | `(tactic| walk_at "call ref") => `(tactic| (k_here; (with_reducible show wpAny _ _ (call (Value.ref 77) [Value.ref _, Value.int _ _]) _ _ _); k_dflt (refine' rsub_fi_o ?k1 ?k2 ?k3 ?k4 ?k5 ?kK ?kx ?kdx ?khm ?kd ?ku ?_; walk_at "my q4"); walk_at "my in"))
local macro_rules | `(tactic| walk_at "call ref") => `(tactic| (k_here; (with_reducible show wpAny _ _ (call (Value.ref 56) [Value.ref _, Value.ref _]) _ _ _); k_dflt (refine' mul_ff_o ?k1 ?k2 ?k3 ?k4 ?k5 ?kK ?kx ?kdx ?ky ?kdy ?khm ?sn ?sk ?kd ?ku ?_; walk_at "my q5"); walk_at "my in"))
local macro_rules | `(tactic| walk_at "call ref") => `(tactic| (k_here; (with_reducible show wpAny _ _ (call (Value.ref 56) [Value.ref _, Value.int _ _]) _ _ _); k_dflt (refine' mul_fi_o ?k1 ?k2 ?k3 ?k4 ?k5 ?kK ?kx ?kdx ?khm ?sn ?sk ?kd ?ku ?_; walk_at "my q6"); walk_at "my in"))
local macro_rules | `(tactic| walk_at "call ref") => `(tactic| (k_here; (with_reducible show wpAny _ _ (call (Value.ref 98) [Value.ref _, Value.ref _]) _ _ _); k_dflt (refine' div_ff_o ?k1 ?k2 ?k3 ?k4 ?k5 ?kK ?kx ?kdx ?ky ?kdy ?khm ?sn ?kd ?ku ?_; walk_at "my q7"); walk_at "my in2"))
local macro_rules | `(tactic| walk_at "call ref") => `(tactic| (k_here; (with_reducible show wpAny _ _ (call (Value.ref 98) [Value.ref _, Value.int _ _]) _ _ _); k_dflt (refine' div_fi_o ?k1 ?k2 ?k3 ?k4 ?k5 ?kK ?kx ?kdx ?khm ?sn ?kd ?ku ?_; walk_at "my q8"); walk_at "my in2"))
local macro_rules | `(tactic| walk_at "call ref") => `(tactic| (k_here; (with_reducible show wpAny _ _ (call (Value.ref 105) [Value.ref _, Value.int _ _]) _ _ _); k_dflt (refine' rdiv_fi_o ?k1 ?k2 ?k3 ?k4 ?k5 ?kK ?kx ?kdx ?khm ?sk ?kd ?ku ?_; walk_at "my q9"); walk_at "my in2"))
set_option maxHeartbeats 8000000 in
theorem radd_fi_o {w : World} {mean : ExcName → Option Value} {mg mb : Str → Option Value} {dp un : Nat} {gd : Option (List Code)} {cn : Str} {cs : Scope} {L a : Addr} {ccd : Value} {cl : List (Str × Addr)} {outer : List Env} {A₀ : Around} {base h₀ : Heap}
    {m : Str → Option Value} {news : List (Addr × Obj)} {s : Shared} {Q E : Value → Shared → Prop} (B : Below A₀ base outer h₀) (F : Fr h₀ L s.heap m) (X : (hd.heap_39 w.params).In h₀) (N : News h₀ L s.heap news) (T : Top view (looseW view loose) mean mg mb h₀) (hk : cs.kind = .function)
    {p : Int} {x dx : Addr} {n : Int} {x1 x2 x3 x4 : Tok} (hx : (x, instObj 186 dx) ∈ news) (hdx : (dx, fqd w.params p n x1 x2 x3 x4) ∈ news) {k : Int} {tk0 : Tok} (hm : Mod p)  (hd : dp + 12 < recursionLimit) (hu : un + 80 < cLine)
    (ret : ∀ z dz t1 t2 t3 t4 h' tk', Fr h₀ L h' m → News h₀ L h' ((z, instObj 186 dz) :: (dz, fqd w.params p ((n + k).fmod p) t1 t2 t3 t4) :: news) → (∀ q ∈ news, q.1 < dz) → dz < z → Q (.ref z) { s with heap := h', toks := tk' }) :
    wpAny (model PySem.Challenge.rw_lh0031_01.row.prog w) (ktrTop dp un gd cn cs L a ccd cl outer) (call (.ref 70) [.ref x, .int k tk0]) Q E s := by
  revert X; k_fill; intro X
  have hp : 0 < p := by have := hm.1; omega
  refine wpAny_call ?_
  k_dflt ktr_enter
  k_steps
  exact ret _ _ _ _ _ _ _ _ (by assumption) (by assumption) (by assumption) (by assumption)
set_option maxHeartbeats 8000000 in
theorem rmul_fi_o {w : World} {mean : ExcName → Option Value} {mg mb : Str → Option Value} {dp un : Nat} {gd : Option (List Code)} {cn : Str} {cs : Scope} {L a : Addr} {ccd : Value} {cl : List (Str × Addr)} {outer : List Env} {A₀ : Around} {base h₀ : Heap}
    {m : Str → Option Value} {news : List (Addr × Obj)} {s : Shared} {Q E : Value → Shared → Prop} (B : Below A₀ base outer h₀) (F : Fr h₀ L s.heap m) (X : (hd.heap_39 w.params).In h₀) (N : News h₀ L s.heap news) (T : Top view (looseW view loose) mean mg mb h₀) (hk : cs.kind = .function)
    {p : Int} {x dx : Addr} {n : Int} {x1 x2 x3 x4 : Tok} (hx : (x, instObj 186 dx) ∈ news) (hdx : (dx, fqd w.params p n x1 x2 x3 x4) ∈ news) {k : Int} {tk0 : Tok} (hm : Mod p) (sn : Sm n) (sk : Sm k) (hd : dp + 12 < recursionLimit) (hu : un + 80 < cLine)
    (ret : ∀ z dz t1 t2 t3 t4 h' tk', Fr h₀ L h' m → News h₀ L h' ((z, instObj 186 dz) :: (dz, fqd w.params p ((n * k).fmod p) t1 t2 t3 t4) :: news) → (∀ q ∈ news, q.1 < dz) → dz < z → Q (.ref z) { s with heap := h', toks := tk' }) :
    wpAny (model PySem.Challenge.rw_lh0031_01.row.prog w) (ktrTop dp un gd cn cs L a ccd cl outer) (call (.ref 63) [.ref x, .int k tk0]) Q E s := by
  revert X; k_fill; intro X
  have hp : 0 < p := by have := hm.1; omega
  refine wpAny_call ?_
  k_dflt ktr_enter
  k_steps
  exact ret _ _ _ _ _ _ _ _ (by assumption) (by assumption) (by assumption) (by assumption)
set_option maxHeartbeats 8000000 in
theorem neg_f_o {w : World} {mean : ExcName → Option Value} {mg mb : Str → Option Value} {dp un : Nat} {gd : Option (List Code)} {cn : Str} {cs : Scope} {L a : Addr} {ccd : Value} {cl : List (Str × Addr)} {outer : List Env} {A₀ : Around} {base h₀ : Heap}
    {m : Str → Option Value} {news : List (Addr × Obj)} {s : Shared} {Q E : Value → Shared → Prop} (B : Below A₀ base outer h₀) (F : Fr h₀ L s.heap m) (X : (hd.heap_39 w.params).In h₀) (N : News h₀ L s.heap news) (T : Top view (looseW view loose) mean mg mb h₀) (hk : cs.kind = .function)
    {p : Int} {x dx : Addr} {n : Int} {x1 x2 x3 x4 : Tok} (hx : (x, instObj 186 dx) ∈ news) (hdx : (dx, fqd w.params p n x1 x2 x3 x4) ∈ news) (hm : Mod p)  (hd : dp + 12 < recursionLimit) (hu : un + 80 < cLine)
    (ret : ∀ z dz t1 t2 t3 t4 h' tk', Fr h₀ L h' m → News h₀ L h' ((z, instObj 186 dz) :: (dz, fqd w.params p ((-n).fmod p) t1 t2 t3 t4) :: news) → (∀ q ∈ news, q.1 < dz) → dz < z → Q (.ref z) { s with heap := h', toks := tk' }) :
    wpAny (model PySem.Challenge.rw_lh0031_01.row.prog w) (ktrTop dp un gd cn cs L a ccd cl outer) (call (.ref 133) [.ref x]) Q E s := by
  revert X; k_fill; intro X
  have hp : 0 < p := by have := hm.1; omega
  refine wpAny_call ?_
  k_dflt ktr_enter
  k_steps
  exact ret _ _ _ _ _ _ _ _ (by assumption) (by assumption) (by assumption) (by assumption)
set_option maxHeartbeats 8000000 in
theorem one_f_o {w : World} {mean : ExcName → Option Value} {mg mb : Str → Option Value} {dp un : Nat} {gd : Option (List Code)} {cn : Str} {cs : Scope} {L a : Addr} {ccd : Value} {cl : List (Str × Addr)} {outer : List Env} {A₀ : Around} {base h₀ : Heap}
    {m : Str → Option Value} {news : List (Addr × Obj)} {s : Shared} {Q E : Value → Shared → Prop} (B : Below A₀ base outer h₀) (F : Fr h₀ L s.heap m) (X : (hd.heap_39 w.params).In h₀) (N : News h₀ L s.heap news) (T : Top view (looseW view loose) mean mg mb h₀) (hk : cs.kind = .function)
    {p : Int} {x dx : Addr} {n : Int} {x1 x2 x3 x4 : Tok} (hx : (x, instObj 186 dx) ∈ news) (hdx : (dx, fqd w.params p n x1 x2 x3 x4) ∈ news) (hm : Mod p)  (hd : dp + 12 < recursionLimit) (hu : un + 80 < cLine)
    (ret : ∀ z dz t1 t2 t3 t4 h' tk', Fr h₀ L h' m → News h₀ L h' ((z, instObj 186 dz) :: (dz, fqd w.params p ((1 : Int).fmod p) t1 t2 t3 t4) :: news) → (∀ q ∈ news, q.1 < dz) → dz < z → Q (.ref z) { s with heap := h', toks := tk' }) :
    wpAny (model PySem.Challenge.rw_lh0031_01.row.prog w) (ktrTop dp un gd cn cs L a ccd cl outer) (call (.ref 176) [.ref x]) Q E s := by
  revert X; k_fill; intro X
  have hp : 0 < p := by have := hm.1; omega
  refine wpAny_call ?_
  k_dflt ktr_enter
  k_steps
  exact ret _ _ _ _ _ _ _ _ (by assumption) (by assumption) (by assumption) (by assumption)
set_option maxHeartbeats 8000000 in
theorem zero_f_o {w : World} {mean : ExcName → Option Value} {mg mb : Str → Option Value} {dp un : Nat} {gd : Option (List Code)} {cn : Str} {cs : Scope} {L a : Addr} {ccd : Value} {cl : List (Str × Addr)} {outer : List Env} {A₀ : Around} {base h₀ : Heap}
    {m : Str → Option Value} {news : List (Addr × Obj)} {s : Shared} {Q E : Value → Shared → Prop} (B : Below A₀ base outer h₀) (F : Fr h₀ L s.heap m) (X : (hd.heap_39 w.params).In h₀) (N : News h₀ L s.heap news) (T : Top view (looseW view loose) mean mg mb h₀) (hk : cs.kind = .function)
    {p : Int} {x dx : Addr} {n : Int} {x1 x2 x3 x4 : Tok} (hx : (x, instObj 186 dx) ∈ news) (hdx : (dx, fqd w.params p n x1 x2 x3 x4) ∈ news) (hm : Mod p)  (hd : dp + 12 < recursionLimit) (hu : un + 80 < cLine)
    (ret : ∀ z dz t1 t2 t3 t4 h' tk', Fr h₀ L h' m → News h₀ L h' ((z, instObj 186 dz) :: (dz, fqd w.params p ((0 : Int).fmod p) t1 t2 t3 t4) :: news) → (∀ q ∈ news, q.1 < dz) → dz < z → Q (.ref z) { s with heap := h', toks := tk' }) :
    wpAny (model PySem.Challenge.rw_lh0031_01.row.prog w) (ktrTop dp un gd cn cs L a ccd cl outer) (call (.ref 183) [.ref x]) Q E s := by
  revert X; k_fill; intro X
  have hp : 0 < p := by have := hm.1; omega
  refine wpAny_call ?_
  k_dflt ktr_enter
  k_steps
  exact ret _ _ _ _ _ _ _ _ (by assumption) (by assumption) (by assumption) (by assumption)
set_option maxHeartbeats 8000000 in
theorem eq_ff_o {w : World} {mean : ExcName → Option Value} {mg mb : Str → Option Value} {dp un : Nat} {gd : Option (List Code)} {cn : Str} {cs : Scope} {L a : Addr} {ccd : Value} {cl : List (Str × Addr)} {outer : List Env} {A₀ : Around} {base h₀ : Heap}
    {m : Str → Option Value} {news : List (Addr × Obj)} {s : Shared} {Q E : Value → Shared → Prop} (B : Below A₀ base outer h₀) (F : Fr h₀ L s.heap m) (X : (hd.heap_39 w.params).In h₀) (N : News h₀ L s.heap news) (T : Top view (looseW view loose) mean mg mb h₀) (hk : cs.kind = .function)
    {p : Int} {x dx : Addr} {n : Int} {x1 x2 x3 x4 : Tok} (hx : (x, instObj 186 dx) ∈ news) (hdx : (dx, fqd w.params p n x1 x2 x3 x4) ∈ news) {y dy : Addr} {k : Int} {y1 y2 y3 y4 : Tok} (hy : (y, instObj 186 dy) ∈ news) (hdy : (dy, fqd w.params p k y1 y2 y3 y4) ∈ news) (hd : dp + 12 < recursionLimit) (hu : un + 80 < cLine)
    (ret : ∀ h' tk', Fr h₀ L h' m → News h₀ L h' news → Q (.bool (decide (n = k))) { s with heap := h', toks := tk' }) :
    wpAny (model PySem.Challenge.rw_lh0031_01.row.prog w) (ktrTop dp un gd cn cs L a ccd cl outer) (call (.ref 119) [.ref x, .ref y]) Q E s := by
  revert X; k_fill; intro X
  refine wpAny_call ?_
  k_dflt ktr_enter
  k_steps
  all_goals exact ret _ _ (by assumption) (by assumption)
set_option maxHeartbeats 8000000 in
theorem eq_fi_o {w : World} {mean : ExcName → Option Value} {mg mb : Str → Option Value} {dp un : Nat} {gd : Option (List Code)} {cn : Str} {cs : Scope} {L a : Addr} {ccd : Value} {cl : List (Str × Addr)} {outer : List Env} {A₀ : Around} {base h₀ : Heap}
    {m : Str → Option Value} {news : List (Addr × Obj)} {s : Shared} {Q E : Value → Shared → Prop} (B : Below A₀ base outer h₀) (F : Fr h₀ L s.heap m) (X : (hd.heap_39 w.params).In h₀) (N : News h₀ L s.heap news) (T : Top view (looseW view loose) mean mg mb h₀) (hk : cs.kind = .function)
    {p : Int} {x dx : Addr} {n : Int} {x1 x2 x3 x4 : Tok} (hx : (x, instObj 186 dx) ∈ news) (hdx : (dx, fqd w.params p n x1 x2 x3 x4) ∈ news) {k : Int} {tk0 : Tok} (hd : dp + 12 < recursionLimit) (hu : un + 80 < cLine)
    (ret : ∀ h' tk', Fr h₀ L h' m → News h₀ L h' news → Q (.bool (decide (n = k))) { s with heap := h', toks := tk' }) :
    wpAny (model PySem.Challenge.rw_lh0031_01.row.prog w) (ktrTop dp un gd cn cs L a ccd cl outer) (call (.ref 119) [.ref x, .int k tk0]) Q E s := by
  revert X; k_fill; intro X
  refine wpAny_call ?_
  k_dflt ktr_enter
  k_steps
  all_goals exact ret _ _ (by assumption) (by assumption)
set_option maxHeartbeats 8000000 in
theorem lt_ff_o {w : World} {mean : ExcName → Option Value} {mg mb : Str → Option Value} {dp un : Nat} {gd : Option (List Code)} {cn : Str} {cs : Scope} {L a : Addr} {ccd : Value} {cl : List (Str × Addr)} {outer : List Env} {A₀ : Around} {base h₀ : Heap}
    {m : Str → Option Value} {news : List (Addr × Obj)} {s : Shared} {Q E : Value → Shared → Prop} (B : Below A₀ base outer h₀) (F : Fr h₀ L s.heap m) (X : (hd.heap_39 w.params).In h₀) (N : News h₀ L s.heap news) (T : Top view (looseW view loose) mean mg mb h₀) (hk : cs.kind = .function)
    {p : Int} {x dx : Addr} {n : Int} {x1 x2 x3 x4 : Tok} (hx : (x, instObj 186 dx) ∈ news) (hdx : (dx, fqd w.params p n x1 x2 x3 x4) ∈ news) {y dy : Addr} {k : Int} {y1 y2 y3 y4 : Tok} (hy : (y, instObj 186 dy) ∈ news) (hdy : (dy, fqd w.params p k y1 y2 y3 y4) ∈ news) (hd : dp + 12 < recursionLimit) (hu : un + 80 < cLine)
    (ret : ∀ h' tk', Fr h₀ L h' m → News h₀ L h' news → Q (.bool (decide (n < k))) { s with heap := h', toks := tk' }) :
    wpAny (model PySem.Challenge.rw_lh0031_01.row.prog w) (ktrTop dp un gd cn cs L a ccd cl outer) (call (.ref 154) [.ref x, .ref y]) Q E s := by
  revert X; k_fill; intro X
  refine wpAny_call ?_
  k_dflt ktr_enter
  k_steps
  all_goals exact ret _ _ (by assumption) (by assumption)
set_option maxHeartbeats 8000000 in
theorem lt_fi_o {w : World} {mean : ExcName → Option Value} {mg mb : Str → Option Value} {dp un : Nat} {gd : Option (List Code)} {cn : Str} {cs : Scope} {L a : Addr} {ccd : Value} {cl : List (Str × Addr)} {outer : List Env} {A₀ : Around} {base h₀ : Heap}
    {m : Str → Option Value} {news : List (Addr × Obj)} {s : Shared} {Q E : Value → Shared → Prop} (B : Below A₀ base outer h₀) (F : Fr h₀ L s.heap m) (X : (hd.heap_39 w.params).In h₀) (N : News h₀ L s.heap news) (T : Top view (looseW view loose) mean mg mb h₀) (hk : cs.kind = .function)
    {p : Int} {x dx : Addr} {n : Int} {x1 x2 x3 x4 : Tok} (hx : (x, instObj 186 dx) ∈ news) (hdx : (dx, fqd w.params p n x1 x2 x3 x4) ∈ news) {k : Int} {tk0 : Tok} (hd : dp + 12 < recursionLimit) (hu : un + 80 < cLine)
    (ret : ∀ h' tk', Fr h₀ L h' m → News h₀ L h' news → Q (.bool (decide (n < k))) { s with heap := h', toks := tk' }) :
    wpAny (model PySem.Challenge.rw_lh0031_01.row.prog w) (ktrTop dp un gd cn cs L a ccd cl outer) (call (.ref 154) [.ref x, .int k tk0]) Q E s := by
  revert X; k_fill; intro X
  refine wpAny_call ?_
  k_dflt ktr_enter
  k_steps
  all_goals exact ret _ _ (by assumption) (by assumption)
set_option maxHeartbeats 8000000 in
theorem int_f_o {w : World} {mean : ExcName → Option Value} {mg mb : Str → Option Value} {dp un : Nat} {gd : Option (List Code)} {cn : Str} {cs : Scope} {L a : Addr} {ccd : Value} {cl : List (Str × Addr)} {outer : List Env} {A₀ : Around} {base h₀ : Heap}
    {m : Str → Option Value} {news : List (Addr × Obj)} {s : Shared} {Q E : Value → Shared → Prop} (B : Below A₀ base outer h₀) (F : Fr h₀ L s.heap m) (X : (hd.heap_39 w.params).In h₀) (N : News h₀ L s.heap news) (T : Top view (looseW view loose) mean mg mb h₀) (hk : cs.kind = .function)
    {p : Int} {x dx : Addr} {n : Int} {x1 x2 x3 x4 : Tok} (hx : (x, instObj 186 dx) ∈ news) (hdx : (dx, fqd w.params p n x1 x2 x3 x4) ∈ news) (hd : dp + 12 < recursionLimit) (hu : un + 80 < cLine)
    (ret : ∀ t1 h' tk', Fr h₀ L h' m → News h₀ L h' news → Q (.int (n) t1) { s with heap := h', toks := tk' }) :
    wpAny (model PySem.Challenge.rw_lh0031_01.row.prog w) (ktrTop dp un gd cn cs L a ccd cl outer) (call (.ref 147) [.ref x]) Q E s := by
  revert X; k_fill; intro X
  refine wpAny_call ?_
  k_dflt ktr_enter
  k_steps
  exact ret _ _ _ (by assumption) (by assumption)
local macro_rules | `(tactic| walk_at "call ref") => `(tactic| (k_here; (with_reducible show wpAny _ _ (call (Value.ref 119) [Value.ref _, Value.ref _]) _ _ _); k_dflt (refine' eq_ff_o ?k1 ?k2 ?k3 ?k4 ?k5 ?kK ?kx ?kdx ?ky ?kdy ?kd ?ku ?_; walk_at "my q10"); walk_at "my in3"))
local macro_rules | `(tactic| walk_at "call ref") => `(tactic| (k_here; (with_reducible show wpAny _ _ (call (Value.ref 119) [Value.ref _, Value.int _ _]) _ _ _); k_dflt (refine' eq_fi_o ?k1 ?k2 ?k3 ?k4 ?k5 ?kK ?kx ?kdx ?kd ?ku ?_; walk_at "my q11"); walk_at "my in3"))
local macro_rules | `(tactic| walk_at "call ref") => `(tactic| (k_here; (with_reducible show wpAny _ _ (call (Value.ref 154) [Value.ref _, Value.ref _]) _ _ _); k_dflt (refine' lt_ff_o ?k1 ?k2 ?k3 ?k4 ?k5 ?kK ?kx ?kdx ?ky ?kdy ?kd ?ku ?_; walk_at "my q10"); walk_at "my in3"))
local macro_rules | `(tactic| walk_at "call ref") => `(tactic| (k_here; (with_reducible show wpAny _ _ (call (Value.ref 154) [Value.ref _, Value.int _ _]) _ _ _); k_dflt (refine' lt_fi_o ?k1 ?k2 ?k3 ?k4 ?k5 ?kK ?kx ?kdx ?kd ?ku ?_; walk_at "my q11"); walk_at "my in3"))
set_option maxHeartbeats 8000000 in
theorem ne_ff_o {w : World} {mean : ExcName → Option Value} {mg mb : Str → Option Value} {dp un : Nat} {gd : Option (List Code)} {cn : Str} {cs : Scope} {L a : Addr} {ccd : Value} {cl : List (Str × Addr)} {outer : List Env} {A₀ : Around} {base h₀ : Heap}
    {m : Str → Option Value} {news : List (Addr × Obj)} {s : Shared} {Q E : Value → Shared → Prop} (B : Below A₀ base outer h₀) (F : Fr h₀ L s.heap m) (X : (hd.heap_39 w.params).In h₀) (N : News h₀ L s.heap news) (T : Top view (looseW view loose) mean mg mb h₀) (hk : cs.kind = .function)
    {p : Int} {x dx : Addr} {n : Int} {x1 x2 x3 x4 : Tok} (hx : (x, instObj 186 dx) ∈ news) (hdx : (dx, fqd w.params p n x1 x2 x3 x4) ∈ news) {y dy : Addr} {k : Int} {y1 y2 y3 y4 : Tok} (hy : (y, instObj 186 dy) ∈ news) (hdy : (dy, fqd w.params p k y1 y2 y3 y4) ∈ news) (hd : dp + 20 < recursionLimit) (hu : un + 120 < cLine)
    (ret : ∀ h' tk', Fr h₀ L h' m → News h₀ L h' news → Q (.bool (!decide (n = k))) { s with heap := h', toks := tk' }) :
    wpAny (model PySem.Challenge.rw_lh0031_01.row.prog w) (ktrTop dp un gd cn cs L a ccd cl outer) (call (.ref 126) [.ref x, .ref y]) Q E s := by
  revert X; k_fill; intro X
  refine wpAny_call ?_
  k_dflt ktr_enter
  k_steps
  all_goals exact ret _ _ (by assumption) (by assumption)
set_option maxHeartbeats 8000000 in
theorem ne_fi_o {w : World} {mean : ExcName → Option Value} {mg mb : Str → Option Value} {dp un : Nat} {gd : Option (List Code)} {cn : Str} {cs : Scope} {L a : Addr} {ccd : Value} {cl : List (Str × Addr)} {outer : List Env} {A₀ : Around} {base h₀ : Heap}
    {m : Str → Option Value} {news : List (Addr × Obj)} {s : Shared} {Q E : Value → Shared → Prop} (B : Below A₀ base outer h₀) (F : Fr h₀ L s.heap m) (X : (hd.heap_39 w.params).In h₀) (N : News h₀ L s.heap news) (T : Top view (looseW view loose) mean mg mb h₀) (hk : cs.kind = .function)
    {p : Int} {x dx : Addr} {n : Int} {x1 x2 x3 x4 : Tok} (hx : (x, instObj 186 dx) ∈ news) (hdx : (dx, fqd w.params p n x1 x2 x3 x4) ∈ news) {k : Int} {tk0 : Tok} (hd : dp + 20 < recursionLimit) (hu : un + 120 < cLine)
    (ret : ∀ h' tk', Fr h₀ L h' m → News h₀ L h' news → Q (.bool (!decide (n = k))) { s with heap := h', toks := tk' }) :
    wpAny (model PySem.Challenge.rw_lh0031_01.row.prog w) (ktrTop dp un gd cn cs L a ccd cl outer) (call (.ref 126) [.ref x, .int k tk0]) Q E s := by
  revert X; k_fill; intro X
  refine wpAny_call ?_
  k_dflt ktr_enter
  k_steps
  all_goals exact ret _ _ (by assumption) (by assumption)
/-! part C5 -/
section
local macro_rules | `(tactic| walk_at "call ref") => `(tactic| (k_here; (with_reducible show wpAny _ _ (call (Value.ref 112) _) _ _ _); (rename ∀ (_ : World), _ => ih'); k_dflt (refine' ih' _ ?k1 ?k2 ?k3 ?k4 ?k5 ?kK ?kx ?kdx ?khm ?sn ?khe ?kd ?ku ?_; (case k1 => k_asm); (case k2 => k_asm); (case k3 => k_asm); (case k4 => k_asm); (case k5 => k_asm); (case kK => first | exact rfl | assumption); (case kx => k_mem); (case kdx => k_mem); (case khm => assumption); (case sn => first | assumption | exact Sm.fmod (by assumption) | exact IsInv.sm (by assumption) (by assumption) | exact PowIs.sm (by assumption) (by assumption)); (case khe => exact half (by assumption)); (case kd => first | omega | decide | (dsimp only [ktrTop, Around.deeper, Around.in1, Around.mark]; omega) | (simp only [depth_deeper, depth_in1, depth_under_make, depth_under_kw]; (try dsimp only [ktrTop]); omega)); (case ku => first | omega | decide | (dsimp only [ktrTop, Around.deeper, Around.in1, Around.mark]; omega) | (simp only [units_deeper, units_in1, units_under_make]; (try dsimp only [ktrTop]); omega)); k_whole); intro r' z' d' t1' t2' t3' t4' h' tk' P' F' N' l1 l2; (try k_lt l1); (try k_lt2 l2); (try k_sweep); (try dsimp only)))
set_option maxHeartbeats 8000000 in
theorem pow_o (j : Nat) : ∀ (w : World) {mean : ExcName → Option Value} {mg mb : Str → Option Value} {dp un : Nat} {gd : Option (List Code)} {cn : Str} {cs : Scope} {L a : Addr} {ccd : Value} {cl : List (Str × Addr)} {outer : List Env} {A₀ : Around} {base h₀ : Heap}
    {m : Str → Option Value} {news : List (Addr × Obj)} {s : Shared} {Q E : Value → Shared → Prop} (B : Below A₀ base outer h₀) (F : Fr h₀ L s.heap m) (X : (hd.heap_39 w.params).In h₀) (N : News h₀ L s.heap news) (T : Top view (looseW view loose) mean mg mb h₀) (hk : cs.kind = .function)
    {p e : Int} {te : Tok} {x dx : Addr} {n : Int} {x1 x2 x3 x4 : Tok} (hx : (x, instObj 186 dx) ∈ news) (hdx : (dx, fqd w.params p n x1 x2 x3 x4) ∈ news) (hm : Mod p) (sn : Sm n) (he : 0 ≤ e ∧ e < 2 ^ j) (hd : dp + (2 * j + 16) < recursionLimit) (hu : un + (24 * j + 120) < cLine)
    (ret : ∀ r z dz t1 t2 t3 t4 h' tk', PowIs p n e r → Fr h₀ L h' m → News h₀ L h' ((z, instObj 186 dz) :: (dz, fqd w.params p r t1 t2 t3 t4) :: news) → (∀ q ∈ news, q.1 < dz) → dz < z → Q (.ref z) { s with heap := h', toks := tk' }), wpAny (model PySem.Challenge.rw_lh0031_01.row.prog w) (ktrTop dp un gd cn cs L a ccd cl outer) (call (.ref 112) [.ref x, .int e te]) Q E s := by
  induction j with
  | zero =>
    intro w mean mg mb dp un gd cn cs L a ccd cl outer A₀ base h₀ m news s Q E B F X N T hk p e te x dx n x1 x2 x3 x4 hx hdx hm sn he hd hu ret
    obtain rfl : e = 0 := by omega
    have hp : 0 < p := by have := hm.1; omega
    revert X; k_fill; intro X
    refine wpAny_call ?_
    k_dflt ktr_enter
    k_steps
    exact ret _ _ _ _ _ _ _ _ _ PowIs.zero (by assumption) (by first | assumption | exact drop_mid2 (by assumption) | exact drop_mid4 (by assumption)) (by first | assumption | exact ktn_ltOf (by first | assumption | tbn_find) | (intro q hq; have := ktn_ltOf (l := news) (by first | assumption | tbn_find) q hq; omega)) (by assumption)
  | succ j ih =>
    intro w mean mg mb dp un gd cn cs L a ccd cl outer A₀ base h₀ m news s Q E B F X N T hk p e te x dx n x1 x2 x3 x4 hx hdx hm sn he hd hu ret
    have hp : 0 < p := by have := hm.1; omega
    have he0 : 0 ≤ e := he.1
    revert X; k_fill; intro X
    refine wpAny_call ?_
    k_dflt ktr_enter
    k_steps
    · exact ret _ _ _ _ _ _ _ _ _ (PowIs.zero' (by assumption)) (by assumption) (by first | assumption | exact drop_mid2 (by assumption) | exact drop_mid4 (by assumption)) (by first | assumption | exact ktn_ltOf (by first | assumption | tbn_find) | (intro q hq; have := ktn_ltOf (l := news) (by first | assumption | tbn_find) q hq; omega)) (by assumption)
    · exact ret _ _ _ _ _ _ _ _ _ (PowIs.one' (by assumption)) (by assumption) (by first | assumption | exact drop_mid2 (by assumption) | exact drop_mid4 (by assumption)) (by first | assumption | exact ktn_ltOf (by first | assumption | tbn_find) | (intro q hq; have := ktn_ltOf (l := news) (by first | assumption | tbn_find) q hq; omega)) (by assumption)
    · exact ret _ _ _ _ _ _ _ _ _ (PowIs.even hp he0 (by assumption) (by assumption)) (by assumption) (by first | assumption | exact drop_mid2 (by assumption) | exact drop_mid4 (by assumption)) (by first | assumption | exact ktn_ltOf (by first | assumption | tbn_find) | (intro q hq; have := ktn_ltOf (l := news) (by first | assumption | tbn_find) q hq; omega)) (by assumption)
    · exact ret _ _ _ _ _ _ _ _ _ (PowIs.odd hp he0 (by assumption) (by assumption)) (by assumption) (by first | assumption | exact drop_mid2 (by assumption) | exact drop_mid4 (by assumption)) (by first | assumption | exact ktn_ltOf (by first | assumption | tbn_find) | (intro q hq; have := ktn_ltOf (l := news) (by first | assumption | tbn_find) q hq; omega)) (by assumption)
end
local macro_rules | `(tactic| walk_at "my unx") => `(tactic| ((case kU => first | omega | decide | (dsimp only [ktrTop, Around.deeper, Around.in1, Around.mark]; omega) | (simp only [units_deeper, units_in1, units_under_make]; (try dsimp only [ktrTop]); omega)); (case kX => k_in); (case kN => first | exact news_at (by assumption) | exact news_at (cb_drop (by assumption) fun _ hq => List.mem_cons_of_mem _ (List.mem_cons_of_mem _ hq)))))
section
/-! part C6 -/
section
local macro_rules | `(tactic| walk_at "call builtin:isinstance") => `(tactic| (k_here; (with_reducible show wpAny _ _ (call (Value.builtin "isinstance") [_, Value.ref _]) _ _ _); (rename Strange _ _ _ _ _ _ _ => sS); k_dflt (refine' (sS.at_ _ _ _ ?kU ?kX ?kN).1 _ ?_; walk_at "my unx"; k_whole); intro tk'; (try dsimp only)))
local macro_rules | `(tactic| walk_at "call builtin:isinstance") => `(tactic| (k_here; (with_reducible show wpAny _ _ (call (Value.builtin "isinstance") [_, Value.type _]) _ _ _); (rename Strange _ _ _ _ _ _ _ => sS); k_dflt (refine' (sS.at_ _ _ _ ?kU ?kX ?kN).2.1 _ ?_; walk_at "my unx"; k_whole); intro tk'; (try dsimp only)))
local macro_rules | `(tactic| walk_at "call type:type") => `(tactic| (k_here; (with_reducible show wpAny _ _ (call (Value.type "type") _) _ _ _); (rename Strange _ _ _ _ _ _ _ => sS); k_dflt (refine' (sS.at_ _ _ _ ?kU ?kX ?kN).2.2.1 _ ?_; walk_at "my unx"; k_whole); intro tk'; (try dsimp only)))
local macro_rules | `(tactic| walk_at "formatField") => `(tactic| (k_here; (rename Strange _ _ _ _ _ _ _ => sS); k_dflt (refine' (sS.at_ _ _ _ ?kU ?kX ?kN).2.2.2.1 _ ?_; walk_at "my unx"; k_whole); intro t' tk'; (try dsimp only); refine and_keep (fits3 (by decide +kernel) (by decide +kernel) sS.len) (fun hz9 => ?_)))
set_option maxHeartbeats 8000000 in
theorem no_add_o {w : World} {mean : ExcName → Option Value} {mg mb : Str → Option Value} {dp un : Nat} {gd : Option (List Code)} {cn : Str} {cs : Scope} {L a : Addr} {ccd : Value} {cl : List (Str × Addr)} {outer : List Env} {A₀ : Around} {base h₀ : Heap}
    {m : Str → Option Value} {news : List (Addr × Obj)} {s : Shared} {Q E : Value → Shared → Prop} (B : Below A₀ base outer h₀) (F : Fr h₀ L s.heap m) (X : (hd.heap_39 w.params).In h₀) (N : News h₀ L s.heap news) (T : Top view (looseW view loose) mean mg mb h₀) (hk : cs.kind = .function)
    {p : Int} {v tv T : Value} {xs : Str} {x dx : Addr} {n : Int} {x1 x2 x3 x4 : Tok} (hx : (x, instObj 186 dx) ∈ news) (hdx : (dx, fqd w.params p n x1 x2 x3 x4) ∈ news) (sS : Strange w 186 news v tv T xs) (hd : dp + 4 < recursionLimit) (hu : un + 40 < cLine)
    (raised : ∀ g e t vs h' tk', Fr h₀ L g m → g.UpToSlots h' → RaisedK base (envX cn cs L a ccd cl :: outer) e (.type "TypeError") t vs news h' → E (.ref e) { s with heap := h', toks := tk' }) :
    wpAny (model PySem.Challenge.rw_lh0031_01.row.prog w) (ktrTop dp un gd cn cs L a ccd cl outer) (call (.ref 49) [.ref x, v]) Q E s := by
  revert X; k_fill; intro X
  refine wpAny_call ?_
  k_dflt ktr_enter
  k_steps
  exact raised _ _ _ _ _ _ (by assumption) (by assumption) (by assumption)
set_option maxHeartbeats 8000000 in
theorem no_sub_o {w : World} {mean : ExcName → Option Value} {mg mb : Str → Option Value} {dp un : Nat} {gd : Option (List Code)} {cn : Str} {cs : Scope} {L a : Addr} {ccd : Value} {cl : List (Str × Addr)} {outer : List Env} {A₀ : Around} {base h₀ : Heap}
    {m : Str → Option Value} {news : List (Addr × Obj)} {s : Shared} {Q E : Value → Shared → Prop} (B : Below A₀ base outer h₀) (F : Fr h₀ L s.heap m) (X : (hd.heap_39 w.params).In h₀) (N : News h₀ L s.heap news) (T : Top view (looseW view loose) mean mg mb h₀) (hk : cs.kind = .function)
    {p : Int} {v tv T : Value} {xs : Str} {x dx : Addr} {n : Int} {x1 x2 x3 x4 : Tok} (hx : (x, instObj 186 dx) ∈ news) (hdx : (dx, fqd w.params p n x1 x2 x3 x4) ∈ news) (sS : Strange w 186 news v tv T xs) (hd : dp + 4 < recursionLimit) (hu : un + 40 < cLine)
    (raised : ∀ g e t vs h' tk', Fr h₀ L g m → g.UpToSlots h' → RaisedK base (envX cn cs L a ccd cl :: outer) e (.type "TypeError") t vs news h' → E (.ref e) { s with heap := h', toks := tk' }) :
    wpAny (model PySem.Challenge.rw_lh0031_01.row.prog w) (ktrTop dp un gd cn cs L a ccd cl outer) (call (.ref 84) [.ref x, v]) Q E s := by
  revert X; k_fill; intro X
  refine wpAny_call ?_
  k_dflt ktr_enter
  k_steps
  exact raised _ _ _ _ _ _ (by assumption) (by assumption) (by assumption)
set_option maxHeartbeats 8000000 in
theorem no_mul_o {w : World} {mean : ExcName → Option Value} {mg mb : Str → Option Value} {dp un : Nat} {gd : Option (List Code)} {cn : Str} {cs : Scope} {L a : Addr} {ccd : Value} {cl : List (Str × Addr)} {outer : List Env} {A₀ : Around} {base h₀ : Heap}
    {m : Str → Option Value} {news : List (Addr × Obj)} {s : Shared} {Q E : Value → Shared → Prop} (B : Below A₀ base outer h₀) (F : Fr h₀ L s.heap m) (X : (hd.heap_39 w.params).In h₀) (N : News h₀ L s.heap news) (T : Top view (looseW view loose) mean mg mb h₀) (hk : cs.kind = .function)
    {p : Int} {v tv T : Value} {xs : Str} {x dx : Addr} {n : Int} {x1 x2 x3 x4 : Tok} (hx : (x, instObj 186 dx) ∈ news) (hdx : (dx, fqd w.params p n x1 x2 x3 x4) ∈ news) (sS : Strange w 186 news v tv T xs) (hd : dp + 4 < recursionLimit) (hu : un + 40 < cLine)
    (raised : ∀ g e t vs h' tk', Fr h₀ L g m → g.UpToSlots h' → RaisedK base (envX cn cs L a ccd cl :: outer) e (.type "TypeError") t vs news h' → E (.ref e) { s with heap := h', toks := tk' }) :
    wpAny (model PySem.Challenge.rw_lh0031_01.row.prog w) (ktrTop dp un gd cn cs L a ccd cl outer) (call (.ref 56) [.ref x, v]) Q E s := by
  revert X; k_fill; intro X
  refine wpAny_call ?_
  k_dflt ktr_enter
  k_steps
  exact raised _ _ _ _ _ _ (by assumption) (by assumption) (by assumption)
set_option maxHeartbeats 8000000 in
theorem no_truediv_o {w : World} {mean : ExcName → Option Value} {mg mb : Str → Option Value} {dp un : Nat} {gd : Option (List Code)} {cn : Str} {cs : Scope} {L a : Addr} {ccd : Value} {cl : List (Str × Addr)} {outer : List Env} {A₀ : Around} {base h₀ : Heap}
    {m : Str → Option Value} {news : List (Addr × Obj)} {s : Shared} {Q E : Value → Shared → Prop} (B : Below A₀ base outer h₀) (F : Fr h₀ L s.heap m) (X : (hd.heap_39 w.params).In h₀) (N : News h₀ L s.heap news) (T : Top view (looseW view loose) mean mg mb h₀) (hk : cs.kind = .function)
    {p : Int} {v tv T : Value} {xs : Str} {x dx : Addr} {n : Int} {x1 x2 x3 x4 : Tok} (hx : (x, instObj 186 dx) ∈ news) (hdx : (dx, fqd w.params p n x1 x2 x3 x4) ∈ news) (sS : Strange w 186 news v tv T xs) (hd : dp + 4 < recursionLimit) (hu : un + 40 < cLine)
    (raised : ∀ g e t vs h' tk', Fr h₀ L g m → g.UpToSlots h' → RaisedK base (envX cn cs L a ccd cl :: outer) e (.type "TypeError") t vs news h' → E (.ref e) { s with heap := h', toks := tk' }) :
    wpAny (model PySem.Challenge.rw_lh0031_01.row.prog w) (ktrTop dp un gd cn cs L a ccd cl outer) (call (.ref 98) [.ref x, v]) Q E s := by
  revert X; k_fill; intro X
  refine wpAny_call ?_
  k_dflt ktr_enter
  k_steps
  exact raised _ _ _ _ _ _ (by assumption) (by assumption) (by assumption)
set_option maxHeartbeats 8000000 in
theorem no_eq_o {w : World} {mean : ExcName → Option Value} {mg mb : Str → Option Value} {dp un : Nat} {gd : Option (List Code)} {cn : Str} {cs : Scope} {L a : Addr} {ccd : Value} {cl : List (Str × Addr)} {outer : List Env} {A₀ : Around} {base h₀ : Heap}
    {m : Str → Option Value} {news : List (Addr × Obj)} {s : Shared} {Q E : Value → Shared → Prop} (B : Below A₀ base outer h₀) (F : Fr h₀ L s.heap m) (X : (hd.heap_39 w.params).In h₀) (N : News h₀ L s.heap news) (T : Top view (looseW view loose) mean mg mb h₀) (hk : cs.kind = .function)
    {p : Int} {v tv T : Value} {xs : Str} {x dx : Addr} {n : Int} {x1 x2 x3 x4 : Tok} (hx : (x, instObj 186 dx) ∈ news) (hdx : (dx, fqd w.params p n x1 x2 x3 x4) ∈ news) (sS : Strange w 186 news v tv T xs) (hd : dp + 4 < recursionLimit) (hu : un + 40 < cLine)
    (raised : ∀ g e t vs h' tk', Fr h₀ L g m → g.UpToSlots h' → RaisedK base (envX cn cs L a ccd cl :: outer) e (.type "TypeError") t vs news h' → E (.ref e) { s with heap := h', toks := tk' }) :
    wpAny (model PySem.Challenge.rw_lh0031_01.row.prog w) (ktrTop dp un gd cn cs L a ccd cl outer) (call (.ref 119) [.ref x, v]) Q E s := by
  revert X; k_fill; intro X
  refine wpAny_call ?_
  k_dflt ktr_enter
  k_steps
  exact raised _ _ _ _ _ _ (by assumption) (by assumption) (by assumption)
set_option maxHeartbeats 8000000 in
theorem no_lt_o {w : World} {mean : ExcName → Option Value} {mg mb : Str → Option Value} {dp un : Nat} {gd : Option (List Code)} {cn : Str} {cs : Scope} {L a : Addr} {ccd : Value} {cl : List (Str × Addr)} {outer : List Env} {A₀ : Around} {base h₀ : Heap}
    {m : Str → Option Value} {news : List (Addr × Obj)} {s : Shared} {Q E : Value → Shared → Prop} (B : Below A₀ base outer h₀) (F : Fr h₀ L s.heap m) (X : (hd.heap_39 w.params).In h₀) (N : News h₀ L s.heap news) (T : Top view (looseW view loose) mean mg mb h₀) (hk : cs.kind = .function)
    {p : Int} {v tv T : Value} {xs : Str} {x dx : Addr} {n : Int} {x1 x2 x3 x4 : Tok} (hx : (x, instObj 186 dx) ∈ news) (hdx : (dx, fqd w.params p n x1 x2 x3 x4) ∈ news) (sS : Strange w 186 news v tv T xs) (hd : dp + 4 < recursionLimit) (hu : un + 40 < cLine)
    (raised : ∀ g e t vs h' tk', Fr h₀ L g m → g.UpToSlots h' → RaisedK base (envX cn cs L a ccd cl :: outer) e (.type "TypeError") t vs news h' → E (.ref e) { s with heap := h', toks := tk' }) :
    wpAny (model PySem.Challenge.rw_lh0031_01.row.prog w) (ktrTop dp un gd cn cs L a ccd cl outer) (call (.ref 154) [.ref x, v]) Q E s := by
  revert X; k_fill; intro X
  refine wpAny_call ?_
  k_dflt ktr_enter
  k_steps
  exact raised _ _ _ _ _ _ (by assumption) (by assumption) (by assumption)
set_option maxHeartbeats 8000000 in
theorem no_init_o {w : World} {mean : ExcName → Option Value} {mg mb : Str → Option Value} {dp un : Nat} {gd : Option (List Code)} {cn : Str} {cs : Scope} {L a : Addr} {ccd : Value} {cl : List (Str × Addr)} {outer : List Env} {A₀ : Around} {base h₀ : Heap}
    {m : Str → Option Value} {news : List (Addr × Obj)} {s : Shared} {Q E : Value → Shared → Prop} (B : Below A₀ base outer h₀) (F : Fr h₀ L s.heap m) (X : (hd.heap_39 w.params).In h₀) (N : News h₀ L s.heap news) (T : Top view (looseW view loose) mean mg mb h₀) (hk : cs.kind = .function)
    {p : Int} {tp : Tok} {v tv T : Value} {xs : Str} (sS : Strange w 186 news v tv T xs) (hd : dp + 4 < recursionLimit) (hu : un + 40 < cLine)
    (raised : ∀ g e t vs h' tk', Fr h₀ L g m → g.UpToSlots h' → RaisedK base (envX cn cs L a ccd cl :: outer) e (.type "TypeError") t vs news h' → E (.ref e) { s with heap := h', toks := tk' }) :
    wpAny (model PySem.Challenge.rw_lh0031_01.row.prog w) (ktrTop dp un gd cn cs L a ccd cl outer) (call (.ref 186) [v, .int p tp]) Q E s := by
  revert X; k_fill; intro X
  refine' call_cls F X N ?k4 ?k5 ?k6 ?_
  (case k4 => k_is)
  (case k5 => k_is)
  (case k6 => k_is)
  intro x' d' h' F' N' l1 l2; (try k_lt l1); (try k_lt2 l2)
  k_dflt ktr_enter
  k_steps
  exact raised _ _ _ _ _ _ (by assumption) (by assumption) (raisedK_mono (by assumption) fun _ hq => List.mem_cons_of_mem _ (List.mem_cons_of_mem _ hq))
end
end
section
/-! part Sg -/
noncomputable def cls_o (P : Params) : ClassData := (clsIn (hd.heap_39 P) 333).getD default
noncomputable def modv_o (P : Params) : Value := ((nsIn (hd.heap_39 P) (cls_o P).ns "__module__").getD none).getD .none
noncomputable def mod_o (P : Params) : Str := match modv_o P with | .str m _ => m | _ => Str.empty
noncomputable def tok_o (P : Params) : Tok := match modv_o P with | .str _ t => t | _ => 0
def xs_o : Str := ("<class '" : Str) ++ Str.ofString "py_ecc.fields.field_elements" ++ "." ++ Str.ofString "FQ" ++ "'>"
set_option maxHeartbeats 8000000 in
theorem strange_str_o {w : World} {news : List (Addr × Obj)} {tk0 : Tok} : Strange w 186 news (.str (Str.ofString "1") tk0) (.type "str") (.type "str") (Str.ofString "<class 'str'>") := by
  have K9 : ∃ K, K = (hd.heap_39 w.params, PySem.Challenge.rw_lh0031_01) := ⟨_, rfl⟩
  revert K9; k_fill; intro _
  refine ⟨by decide +kernel, by k_is, fun A E s hu X N => ?_⟩
  refine ⟨fun Q h => ?_, fun Q h => ?_, fun Q h => ?_, fun Q h => ?_, Looks.of_pure rfl, fun op x ox od f Q ho I hs hf h => ?_⟩
  · walk1; exact h _
  · walk1; exact h _
  · walk1; exact h _
  · exact Ft.field (fun _ _ e => nomatch e) (by omega) (Looks.of_pure rfl) (Ft.reprs_type (by decide +kernel)) (h _ _)
  · rcases ho with rfl | rfl | rfl | rfl <;>
      (refine' ksp_binT0 X I ?hB ?hC hs hf ?hR ?hP ?h1 ?h2 ?hU h; (case hB => exact rfl); (case hC => k_is); (case hR => k_is); (case hP => first | exact .inl rfl | exact .inr ⟨_, rfl⟩); (case h1 => k_is); (case h2 => k_is); (case hU => k_is))
set_option maxHeartbeats 8000000 in
theorem strange_none_o {w : World} {news : List (Addr × Obj)}  : Strange w 186 news (.none) (.type "NoneType") (.type "NoneType") (Str.ofString "<class 'NoneType'>") := by
  have K9 : ∃ K, K = (hd.heap_39 w.params, PySem.Challenge.rw_lh0031_01) := ⟨_, rfl⟩
  revert K9; k_fill; intro _
  refine ⟨by decide +kernel, by k_is, fun A E s hu X N => ?_⟩
  refine ⟨fun Q h => ?_, fun Q h => ?_, fun Q h => ?_, fun Q h => ?_, Looks.of_pure rfl, fun op x ox od f Q ho I hs hf h => ?_⟩
  · walk1; exact h _
  · walk1; exact h _
  · walk1; exact h _
  · exact Ft.field (fun _ _ e => nomatch e) (by omega) (Looks.of_pure rfl) (Ft.reprs_type (by decide +kernel)) (h _ _)
  · rcases ho with rfl | rfl | rfl | rfl <;>
      (refine' ksp_binT0 X I ?hB ?hC hs hf ?hR ?hP ?h1 ?h2 ?hU h; (case hB => exact rfl); (case hC => k_is); (case hR => k_is); (case hP => first | exact .inl rfl | exact .inr ⟨_, rfl⟩); (case h1 => k_is); (case h2 => k_is); (case hU => k_is))
theorem cls_eq_o {P : Params} : clsIn (hd.heap_39 P) 333 = some (cls_o P) := by kernel_rfl
theorem mod_eq_o {P : Params} : nsIn (hd.heap_39 P) (cls_o P).ns "__module__" = some (some (.str (mod_o P) (tok_o P))) := by kernel_rfl
theorem xs_eq_o {P : Params} : xs_o = ("<class '" : Str) ++ mod_o P ++ "." ++ (cls_o P).qualname ++ "'>" := by kernel_rfl
set_option maxHeartbeats 8000000 in
theorem strange_fq_o {w : World} {news : List (Addr × Obj)} {y dy : Addr} {k p : Int} {y1 y2 y3 y4 : Tok} (hy : (y, instObj 333 dy) ∈ news) (hdy : (dy, fqd w.params p k y1 y2 y3 y4) ∈ news) : Strange w 186 news (.ref y) (.ref 333) (.ref 333) (xs_o) := by
  have K9 : ∃ K, K = (hd.heap_39 w.params, PySem.Challenge.rw_lh0031_01) := ⟨_, rfl⟩
  revert K9; k_fill; intro _
  refine ⟨by decide +kernel, by k_is, fun A E s hu X N => ?_⟩
  have I9 : InstAt s.heap y (instObj 333 dy) 333 (some (fqd w.params p k y1 y2 y3 y4)) := ⟨N _ hy, rfl, rfl, N _ hdy⟩
  refine ⟨fun Q h => ?_, fun Q h => ?_, fun Q h => ?_, fun Q h => ?_, I9.type, fun op x ox od f Q ho I hs hf h => ?_⟩
  · refine' kin_callC X I9 ?k3 ?k4 ?k5 ?k6 ?k7 ?k8 ?k9 (h _); (case k3 => kin_no); (case k4 => k_is); (case k5 => k_is); (case k6 => k_is); (case k7 => k_is); (case k8 => k_is); (case k9 => k_is)
  · refine' kin_callT X I9 ?k3 ?ty ?k4 ?k5 ?k6 ?k7 ?k8 ?k9 (h _); (case k3 => kin_no); (case ty => kernel_rfl); (case k4 => k_is); (case k5 => k_is); (case k6 => k_is); (case k7 => k_is); (case k8 => k_is); (case k9 => k_is)
  · exact kto_own I9 (h _)
  · refine' Ft.field (fun _ _ e => nomatch e) (by omega) (looks_typeIn X ?q1) ?q2 (h _ _)
    (case q1 => k_is)
    (case q2 => rw [xs_eq_o (P := w.params)]; exact Ft.reprs_cls X cls_eq_o mod_eq_o (by kernel_rfl) (by rw [← xs_eq_o (P := w.params)]; decide +kernel))
  · rcases ho with rfl | rfl | rfl | rfl <;>
      (refine' bin_other (C' := 333) X I ?hB ?hC ?hD ?hE hs hf ?hR ?hP ?hS ?hT ?hZ ?hU h; (case hB => exact I9.type); (case hC => k_is); (case hD => k_is); (case hE => decide); (case hR => k_is); (case hP => first | exact .inl rfl | exact .inr ⟨_, rfl⟩); (case hS => k_is); (case hT => k_is); (case hZ => first | exact .inl rfl | exact .inr ⟨_, rfl⟩); (case hU => k_is))
noncomputable def cls_f (P : Params) : ClassData := (clsIn (hd.heap_39 P) 186).getD default
noncomputable def modv_f (P : Params) : Value := ((nsIn (hd.heap_39 P) (cls_f P).ns "__module__").getD none).getD .none
noncomputable def mod_f (P : Params) : Str := match modv_f P with | .str m _ => m | _ => Str.empty
noncomputable def tok_f (P : Params) : Tok := match modv_f P with | .str _ t => t | _ => 0
def xs_f : Str := ("<class '" : Str) ++ Str.ofString "py_ecc.fields.optimized_field_elements" ++ "." ++ Str.ofString "FQ" ++ "'>"
set_option maxHeartbeats 8000000 in
theorem strange_str_f {w : World} {news : List (Addr × Obj)} {tk0 : Tok} : Strange w 333 news (.str (Str.ofString "1") tk0) (.type "str") (.type "str") (Str.ofString "<class 'str'>") := by
  have K9 : ∃ K, K = (hd.heap_39 w.params, PySem.Challenge.rw_lh0031_01) := ⟨_, rfl⟩
  revert K9; k_fill; intro _
  refine ⟨by decide +kernel, by k_is, fun A E s hu X N => ?_⟩
  refine ⟨fun Q h => ?_, fun Q h => ?_, fun Q h => ?_, fun Q h => ?_, Looks.of_pure rfl, fun op x ox od f Q ho I hs hf h => ?_⟩
  · walk1; exact h _
  · walk1; exact h _
  · walk1; exact h _
  · exact Ft.field (fun _ _ e => nomatch e) (by omega) (Looks.of_pure rfl) (Ft.reprs_type (by decide +kernel)) (h _ _)
  · rcases ho with rfl | rfl | rfl | rfl <;>
      (refine' ksp_binT0 X I ?hB ?hC hs hf ?hR ?hP ?h1 ?h2 ?hU h; (case hB => exact rfl); (case hC => k_is); (case hR => k_is); (case hP => first | exact .inl rfl | exact .inr ⟨_, rfl⟩); (case h1 => k_is); (case h2 => k_is); (case hU => k_is))
set_option maxHeartbeats 8000000 in
theorem strange_none_f {w : World} {news : List (Addr × Obj)}  : Strange w 333 news (.none) (.type "NoneType") (.type "NoneType") (Str.ofString "<class 'NoneType'>") := by
  have K9 : ∃ K, K = (hd.heap_39 w.params, PySem.Challenge.rw_lh0031_01) := ⟨_, rfl⟩
  revert K9; k_fill; intro _
  refine ⟨by decide +kernel, by k_is, fun A E s hu X N => ?_⟩
  refine ⟨fun Q h => ?_, fun Q h => ?_, fun Q h => ?_, fun Q h => ?_, Looks.of_pure rfl, fun op x ox od f Q ho I hs hf h => ?_⟩
  · walk1; exact h _
  · walk1; exact h _
  · walk1; exact h _
  · exact Ft.field (fun _ _ e => nomatch e) (by omega) (Looks.of_pure rfl) (Ft.reprs_type (by decide +kernel)) (h _ _)
  · rcases ho with rfl | rfl | rfl | rfl <;>
      (refine' ksp_binT0 X I ?hB ?hC hs hf ?hR ?hP ?h1 ?h2 ?hU h; (case hB => exact rfl); (case hC => k_is); (case hR => k_is); (case hP => first | exact .inl rfl | exact .inr ⟨_, rfl⟩); (case h1 => k_is); (case h2 => k_is); (case hU => k_is))
theorem cls_eq_f {P : Params} : clsIn (hd.heap_39 P) 186 = some (cls_f P) := by kernel_rfl
theorem mod_eq_f {P : Params} : nsIn (hd.heap_39 P) (cls_f P).ns "__module__" = some (some (.str (mod_f P) (tok_f P))) := by kernel_rfl
theorem xs_eq_f {P : Params} : xs_f = ("<class '" : Str) ++ mod_f P ++ "." ++ (cls_f P).qualname ++ "'>" := by kernel_rfl
set_option maxHeartbeats 8000000 in
theorem strange_fq_f {w : World} {news : List (Addr × Obj)} {y dy : Addr} {k p : Int} {y1 y2 y3 y4 : Tok} (hy : (y, instObj 186 dy) ∈ news) (hdy : (dy, fqd w.params p k y1 y2 y3 y4) ∈ news) : Strange w 333 news (.ref y) (.ref 186) (.ref 186) (xs_f) := by
  have K9 : ∃ K, K = (hd.heap_39 w.params, PySem.Challenge.rw_lh0031_01) := ⟨_, rfl⟩
  revert K9; k_fill; intro _
  refine ⟨by decide +kernel, by k_is, fun A E s hu X N => ?_⟩
  have I9 : InstAt s.heap y (instObj 186 dy) 186 (some (fqd w.params p k y1 y2 y3 y4)) := ⟨N _ hy, rfl, rfl, N _ hdy⟩
  refine ⟨fun Q h => ?_, fun Q h => ?_, fun Q h => ?_, fun Q h => ?_, I9.type, fun op x ox od f Q ho I hs hf h => ?_⟩
  · refine' kin_callC X I9 ?k3 ?k4 ?k5 ?k6 ?k7 ?k8 ?k9 (h _); (case k3 => kin_no); (case k4 => k_is); (case k5 => k_is); (case k6 => k_is); (case k7 => k_is); (case k8 => k_is); (case k9 => k_is)
  · refine' kin_callT X I9 ?k3 ?ty ?k4 ?k5 ?k6 ?k7 ?k8 ?k9 (h _); (case k3 => kin_no); (case ty => kernel_rfl); (case k4 => k_is); (case k5 => k_is); (case k6 => k_is); (case k7 => k_is); (case k8 => k_is); (case k9 => k_is)
  · exact kto_own I9 (h _)
  · refine' Ft.field (fun _ _ e => nomatch e) (by omega) (looks_typeIn X ?q1) ?q2 (h _ _)
    (case q1 => k_is)
    (case q2 => rw [xs_eq_f (P := w.params)]; exact Ft.reprs_cls X cls_eq_f mod_eq_f (by kernel_rfl) (by rw [← xs_eq_f (P := w.params)]; decide +kernel))
  · rcases ho with rfl | rfl | rfl | rfl <;>
      (refine' bin_other (C' := 186) X I ?hB ?hC ?hD ?hE hs hf ?hR ?hP ?hS ?hT ?hZ ?hU h; (case hB => exact I9.type); (case hC => k_is); (case hD => k_is); (case hE => decide); (case hR => k_is); (case hP => first | exact .inl rfl | exact .inr ⟨_, rfl⟩); (case hS => k_is); (case hT => k_is); (case hZ => first | exact .inl rfl | exact .inr ⟨_, rfl⟩); (case hU => k_is))
end
section
/-! part St2 -/
section
variable {A₀ A : Around} {base g G h h' : Heap} {outer : List Env} {L a e t : Addr} {m : Str → Option Value} {name : Str} {scope : Scope} {cd cls : Value} {vs : List Value} {news : List (Addr × Obj)}
/-- the base may be the entry heap without its frames -/
theorem below_hide (K : Below A base outer g) : Below A (hideAll g (outer.filterMap (·.frame))) outer g :=
  ⟨K.stack, fun _ _ q => of_hideAll _ q, funFrames_hide K.frames fun env he b hb => List.mem_filterMap.mpr ⟨env, he, hb⟩⟩
theorem stays_hide (K : Below A base outer g) : base.StaysIn (hideAll g (outer.filterMap (·.frame))) := fun b o q => hideAll_get _ (K.stays b o q) fun hm => by
  rw [(K.frames.mem hm).1] at q; cases q
theorem raised_S (F : Fr g L G m) (N : News g L h news) (st : ∀ b o, g.get? b = some o → b ∉ outer.filterMap (·.frame) → base.get? b = some o)
    (R : RaisedK base (envOf name scope L a cd :: outer) e cls t vs news h') (U : G.UpToSlots h') :
    ∃ G', Fr g L G' m ∧ G'.UpToSlots h' ∧ RaisedS base G' (envOf name scope L a cd :: outer) e cls t vs news h' := by
  obtain ⟨⟨B, h1, h2, h3, h4⟩, h5⟩ := R
  have hin : ∀ b o, (hideAll G ((List.range G.objs.size).filter fun b => decide (b ≠ L) && (g.get? b).isNone)).get? b = some o → b = L ∨ g.get? b = some o := fun b o q => by
    by_cases hb : b = L
    · exact .inl hb
    · refine .inr ?_
      have q' := of_hideAll _ q
      cases hg : g.get? b with
      | some o' => rw [F.keep b o' hg] at q'; exact q'
      | none =>
        rw [hideAll_none] at q
        · cases q
        · exact List.mem_filter.mpr ⟨List.mem_range.mpr (Heap.lt_size q'), by simp [hb, hg]⟩
  refine ⟨(hideAll G ((List.range G.objs.size).filter fun b => decide (b ≠ L) && (g.get? b).isNone)), ⟨?_, fun b o q => ?_, F.above⟩, fun b o q hd => U b o (of_hideAll _ q) hd, ⟨⟨B, h1, fun b o q nm => ?_, fun q hq => ⟨(h2 q hq).1, ?_, (h2 q hq).2⟩, h3, h4⟩, h5⟩⟩
  · obtain ⟨oL, es, ep, hL, hLd, hLk, hLf⟩ := F.ns
    exact ⟨oL, es, ep, hideAll_get _ hL (fun q => by simp at q), hLd, hLk, hLf⟩
  · exact hideAll_get _ (F.keep b o q) fun hm => by
      simp [q] at hm
  · rcases hin b o q with rfl | q'
    · exact (nm (List.mem_filterMap.mpr ⟨envOf name scope b a cd, List.mem_cons_self .., rfl⟩)).elim
    · exact h1 b o (st b o q' fun hm => nm (by
        obtain ⟨env, he, hf⟩ := List.mem_filterMap.mp hm
        exact List.mem_filterMap.mpr ⟨env, List.mem_cons_of_mem _ he, hf⟩))
  · cases q' : (hideAll G ((List.range G.objs.size).filter fun b => decide (b ≠ L) && (g.get? b).isNone)).get? q.1 with
    | none => rfl
    | some o =>
      rcases hin _ _ q' with z | z
      · exact absurd z (N q hq).2.1
      · rw [(N q hq).2.2] at z; cases z
end
section
variable {prog : Program} {w : World} {A₀ A : Around} {s : Shared} {base h₀ : Heap} {L a : Addr} {m : Str → Option Value} {env : Env} {news : List (Addr × Obj)} {K : Frag} {p : Program} {loose : List Str} {mean : ExcName → Option Value} {mg mb : Str → Option Value}
    {R : Result → Shared → Prop} {name qual : Str} {params : Arguments} {body : List Stmt} {scope : Scope} {dV kV doc pm cdv ct oc : Value} {an od : Option Addr} {osl : Array (Option Value)} {f : Addr} {args : Args} {binds : List (Str × Value)}
/-- a def that catches, called from any frame that stands lowest (one with cells too) -/
theorem code_defS1 (B : Below A₀ base [] h₀) (F : Fr h₀ L s.heap m) (X₀ : K.In h₀) (N : News h₀ L s.heap news) (T : Top p loose mean mg mb h₀) (hA : A.frames = some [env]) (hf : env.frame = some L) (hke : env.scope.kind = .function)
    (ho : K.lookup f = some ⟨oc, od, .func (fnOf name qual params body scope dV kV doc pm an cdv ct), osl⟩) (hcd : codeIn K cdv qual = true) (hroom : A.depth < recursionLimit)
    (hbind : BindsTo s (fnOf name qual params body scope dV kV doc pm an cdv ct) args binds) (hloc : ∀ y ∈ binds, scope.names.lookup y.1 = some .local)
    (h : ∀ g L' h₁, Fr h₀ L g m → Fr g L' h₁ (fun y => binds.reverse.lookup y) → News g L' h₁ news → Below A base [env] g → K.In g → Top p loose mean mg mb g → KtsDicts ([env].filterMap (·.frame)) g →
      wpAny (model prog w) (A.deeper (envOf qual scope L' f cdv)) (execs body (envOf qual scope L' f cdv))
        (fun fl s' => LeaveS0 ([env].filterMap (·.frame)) h₀ L m g R (match fl with | .ret v => v | _ => .none) s')
        (fun e s' => wpAny (model prog w) (A.deeper (envOf qual scope L' f cdv)) (leaving (envOf qual scope L' f cdv) e) (fun _ s'' => R (.error e) s'') (fun e' s'' => R (.error e') s'') s')
        { s with heap := h₁, toks := s.toks + binds.length })
    (hco : scope.isCoroutine = false) (hgen : scope.isGenerator = false) (hk : scope.kind = .function)
    (hcell : ∀ x ∈ scope.names, x.2 ≠ .cell) : codeAny (model prog w) A (.call (.ref f) args) R s := by
  have X := X₀.keeps F.keep
  have hfs : [env].filterMap (·.frame) = [L] := by rw [List.filterMap_cons, hf]; rfl
  refine codeAny_call_def (fd := fnOf name qual params body scope dV kV doc pm an cdv ct) (body := body) (binds := binds) hroom (X _ _ ho) rfl (T.nolimit.keeps F.keep) (codeRec_of X hcd) rfl hbind hcell hloc (fun h₁ hns hk₁ => ?_) hco hgen hk
  obtain ⟨FG, B₂, st, _⟩ := groundX (R := R) B F N hA hf hke
  have nL₀ : h₀.get? L = none := kts_self F
  obtain ⟨oL, es, ep, hLg, hLd, hLk, hLf⟩ := FG.ns
  refine wpAny_mono (h _ s.heap.objs.size h₁ FG ⟨hns, fun b o e => hk₁ b o (of_hideAll _ e), Nat.le_of_eq (hideAll_size _ _)⟩
    (fun p hp => ⟨hk₁ _ _ (N p hp).1, Nat.ne_of_lt (Heap.lt_size (N p hp).1), hideAll_none _ (List.mem_map_of_mem hp)⟩) B₂ (X₀.keeps st) (T.keeps st) (fun b hb => by
      rw [hfs] at hb
      obtain rfl := List.mem_singleton.mp hb
      exact ⟨oL, es, ep, hLg, hLd⟩)) (fun fl s' hl => ?_) fun _ _ y => y
  rw [hfs] at hl
  obtain ⟨g', L', m', news', T', F', N', k⟩ := hl
  obtain ⟨sl, hs⟩ := T'.up hLg
  refine k ⟨⟨_, es, ep, F'.keep _ _ hs, hLd, hLk, hLf⟩, fun b o e => F'.keep b o (T'.other b o (st b o e) (fun q => by
    obtain rfl := List.mem_singleton.mp q
    rw [nL₀] at e
    cases e)), F.above⟩ fun p hp => ⟨(N' p hp).1, fun q => ?_, ?_⟩
  · have := (N' p hp).2.2; rw [q, hs] at this; cases this
  · cases q : h₀.get? p.1 with
    | none => rfl
    | some o =>
      obtain ⟨sl', hs'⟩ := T'.up (st _ _ q)
      have := (N' p hp).2.2
      rw [hs'] at this
      cases this
end
end
local macro_rules | `(tactic| walk_at "my sopc") => `(tactic| ((case ho => first | exact .inl rfl | exact .inr (.inl rfl) | exact .inr (.inr (.inl rfl)) | exact .inr (.inr (.inr rfl))); (case I => k_inst); (case hs => k_is); (case hf => k_is); k_whole))
local macro_rules | `(tactic| walk_at "my unx2") => `(tactic| ((case kU => (show 4 + 8 < cLine); omega); (case kX => k_in); (case kN => first | exact news_at (by assumption) | exact news_at (cb_drop (by assumption) fun _ hq => List.mem_cons_of_mem _ (List.mem_cons_of_mem _ hq)))))
local macro_rules | `(tactic| walk_at "my scmp") => `(tactic| ((rename Strange _ _ _ _ _ _ _ => sS); k_dflt (refine' cmp_K ?k1 ?k2 ?k3 ?k4 (sS.at_ callerA (fun _ _ => True) _ ?kU ?kX ?kN).2.2.2.2.1 sS.first ?k7 ?k8 ?_; (case k1 => first | omega | decide | (dsimp only [ktrTop, Around.deeper, Around.in1, Around.mark]; omega) | (simp only [units_deeper, units_in1, units_under_make]; (try dsimp only [ktrTop]); omega)); (case k2 => k_asm); (case k3 => k_asm); (case k4 => k_inst); walk_at "my unx2"; (case k7 => k_is); (case k8 => k_is); k_whole)))
local macro_rules | `(tactic| walk_at "my kS") => `(tactic| (case kS => assumption))
local macro_rules | `(tactic| walk_at "my q12") => `(tactic| (walk_at "my k"; walk_at "my kx"; walk_at "my kdx"; walk_at "my kS"; walk_at "my du"))
local macro_rules | `(tactic| walk_at "my in4") => `(tactic| (intro g' e' t' vs' h' tk' FG' U' R'; (try dsimp only)))
local macro_rules | `(tactic| walk_at "my q13") => `(tactic| (walk_at "my k"; walk_at "my kS"; walk_at "my du"))
section
/-! part C7 -/
section
local macro_rules | `(tactic| walk_at "binaryOp Add ref") => `(tactic| (k_here; (with_reducible show wpAny _ _ (binaryOp Operator.Add (Value.ref _) _) _ _ _); (rename Strange _ _ _ _ _ _ _ => sS); k_dflt (refine' (sS.at_ _ _ _ ?kU ?kX ?kN).2.2.2.2.2 _ _ _ _ 49 _ ?ho ?I ?hs ?hf ?_; walk_at "my unx"; walk_at "my sopc")))
local macro_rules | `(tactic| walk_at "binaryOp Sub ref") => `(tactic| (k_here; (with_reducible show wpAny _ _ (binaryOp Operator.Sub (Value.ref _) _) _ _ _); (rename Strange _ _ _ _ _ _ _ => sS); k_dflt (refine' (sS.at_ _ _ _ ?kU ?kX ?kN).2.2.2.2.2 _ _ _ _ 84 _ ?ho ?I ?hs ?hf ?_; walk_at "my unx"; walk_at "my sopc")))
local macro_rules | `(tactic| walk_at "binaryOp Mult ref") => `(tactic| (k_here; (with_reducible show wpAny _ _ (binaryOp Operator.Mult (Value.ref _) _) _ _ _); (rename Strange _ _ _ _ _ _ _ => sS); k_dflt (refine' (sS.at_ _ _ _ ?kU ?kX ?kN).2.2.2.2.2 _ _ _ _ 56 _ ?ho ?I ?hs ?hf ?_; walk_at "my unx"; walk_at "my sopc")))
local macro_rules | `(tactic| walk_at "binaryOp Div ref") => `(tactic| (k_here; (with_reducible show wpAny _ _ (binaryOp Operator.Div (Value.ref _) _) _ _ _); (rename Strange _ _ _ _ _ _ _ => sS); k_dflt (refine' (sS.at_ _ _ _ ?kU ?kX ?kN).2.2.2.2.2 _ _ _ _ 98 _ ?ho ?I ?hs ?hf ?_; walk_at "my unx"; walk_at "my sopc")))
local macro_rules | `(tactic| walk_at "compareOp Eq ref") => `(tactic| (k_here; (with_reducible show wpAny _ _ (compareOp CmpOp.Eq (Value.ref _) _) _ _ _); (refine cmp_ofEq ?_); walk_at "my scmp"))
local macro_rules | `(tactic| walk_at "compareOp NotEq ref") => `(tactic| (k_here; (with_reducible show wpAny _ _ (compareOp CmpOp.NotEq (Value.ref _) _) _ _ _); (refine cmp_ofNotEq ?_); walk_at "my scmp"))
local macro_rules | `(tactic| walk_at "compareOp Lt ref") => `(tactic| (k_here; (with_reducible show wpAny _ _ (compareOp CmpOp.Lt (Value.ref _) _) _ _ _); (refine cmp_ofLt ?_); walk_at "my scmp"))
local macro_rules | `(tactic| walk_at "call ref") => `(tactic| (k_here; (with_reducible show wpAny _ _ (call (Value.ref 49) _) _ _ _); k_dflt (refine' no_add_o ?k1 ?k2 ?k3 ?k4 ?k5 ?kK ?kx ?kdx ?kS ?kd ?ku ?_; walk_at "my q12"); walk_at "my in4"))
local macro_rules | `(tactic| walk_at "call ref") => `(tactic| (k_here; (with_reducible show wpAny _ _ (call (Value.ref 84) _) _ _ _); k_dflt (refine' no_sub_o ?k1 ?k2 ?k3 ?k4 ?k5 ?kK ?kx ?kdx ?kS ?kd ?ku ?_; walk_at "my q12"); walk_at "my in4"))
local macro_rules | `(tactic| walk_at "call ref") => `(tactic| (k_here; (with_reducible show wpAny _ _ (call (Value.ref 56) _) _ _ _); k_dflt (refine' no_mul_o ?k1 ?k2 ?k3 ?k4 ?k5 ?kK ?kx ?kdx ?kS ?kd ?ku ?_; walk_at "my q12"); walk_at "my in4"))
local macro_rules | `(tactic| walk_at "call ref") => `(tactic| (k_here; (with_reducible show wpAny _ _ (call (Value.ref 98) _) _ _ _); k_dflt (refine' no_truediv_o ?k1 ?k2 ?k3 ?k4 ?k5 ?kK ?kx ?kdx ?kS ?kd ?ku ?_; walk_at "my q12"); walk_at "my in4"))
local macro_rules | `(tactic| walk_at "call ref") => `(tactic| (k_here; (with_reducible show wpAny _ _ (call (Value.ref 119) _) _ _ _); k_dflt (refine' no_eq_o ?k1 ?k2 ?k3 ?k4 ?k5 ?kK ?kx ?kdx ?kS ?kd ?ku ?_; walk_at "my q12"); walk_at "my in4"))
local macro_rules | `(tactic| walk_at "call ref") => `(tactic| (k_here; (with_reducible show wpAny _ _ (call (Value.ref 154) _) _ _ _); k_dflt (refine' no_lt_o ?k1 ?k2 ?k3 ?k4 ?k5 ?kK ?kx ?kdx ?kS ?kd ?ku ?_; walk_at "my q12"); walk_at "my in4"))
local macro_rules | `(tactic| walk_at "call ref") => `(tactic| (k_here; (with_reducible show wpAny _ _ (call (Value.ref 186) _) _ _ _); k_dflt (refine' no_init_o ?k1 ?k2 ?k3 ?k4 ?k5 ?kK ?kS ?kd ?ku ?_; walk_at "my q13"); walk_at "my in4"))
set_option maxHeartbeats 8000000 in
theorem no_ne_o {w : World} {mean : ExcName → Option Value} {mg mb : Str → Option Value} {dp un : Nat} {gd : Option (List Code)} {cn : Str} {cs : Scope} {L a : Addr} {ccd : Value} {cl : List (Str × Addr)} {outer : List Env} {A₀ : Around} {base h₀ : Heap}
    {m : Str → Option Value} {news : List (Addr × Obj)} {s : Shared} {Q E : Value → Shared → Prop} (B : Below A₀ base outer h₀) (F : Fr h₀ L s.heap m) (X : (hd.heap_39 w.params).In h₀) (N : News h₀ L s.heap news) (T : Top view (looseW view loose) mean mg mb h₀) (hk : cs.kind = .function)
    {p : Int} {v tv TV : Value} {xs : Str} {x dx : Addr} {n : Int} {x1 x2 x3 x4 : Tok} (hx : (x, instObj 186 dx) ∈ news) (hdx : (dx, fqd w.params p n x1 x2 x3 x4) ∈ news) (sS : Strange w 186 news v tv TV xs) (hd : dp + 10 < recursionLimit) (hu : un + 80 < cLine)
    (raised : ∀ g e t vs h' tk', Fr h₀ L g m → g.UpToSlots h' → RaisedK base (envX cn cs L a ccd cl :: outer) e (.type "TypeError") t vs news h' → E (.ref e) { s with heap := h', toks := tk' }) :
    wpAny (model PySem.Challenge.rw_lh0031_01.row.prog w) (ktrTop dp un gd cn cs L a ccd cl outer) (call (.ref 126) [.ref x, v]) Q E s := by
  revert X; k_fill; intro X
  refine wpAny_call ?_
  k_dflt ktr_enter
  k_steps
  exact raised _ _ _ _ _ _ (by assumption) (by assumption) (by assumption)
local macro_rules | `(tactic| walk_at "call ref") => `(tactic| (k_here; (with_reducible show wpAny _ _ (call (Value.ref 126) _) _ _ _); k_dflt (refine' no_ne_o ?k1 ?k2 ?k3 ?k4 ?k5 ?kK ?kx ?kdx ?kS ?kd ?ku ?_; walk_at "my q12"); walk_at "my in4"))
set_option maxHeartbeats 8000000 in
theorem refused_o {w : World} {mean : ExcName → Option Value} {mg mb : Str → Option Value} {dp un : Nat} {gd : Option (List Code)} {cn : Str} {cs : Scope} {L a : Addr} {ccd : Value} {cl : List (Str × Addr)} {A₀ : Around} {h₀ : Heap}
    {m : Str → Option Value} {news : List (Addr × Obj)} {s : Shared} {Q E : Value → Shared → Prop} (B : Below A₀ h₀ [] h₀) (F : Fr h₀ L s.heap m) (X : (hd.heap_39 w.params).In h₀) (N : News h₀ L s.heap news) (T : Top view (looseW view loose) mean mg mb h₀) (hk : cs.kind = .function)
    {p k : Int} {tp tk0 : Tok} {v tv TV : Value} {xs : Str} {x dx : Addr} {n : Int} {x1 x2 x3 x4 : Tok} (hx : (x, instObj 186 dx) ∈ news) (hdx : (dx, fqd w.params p n x1 x2 x3 x4) ∈ news) (sS : Strange w 186 news v tv TV xs) (hd : dp + 20 < recursionLimit) (hu : un + 120 < cLine)
    (ret : ∀ h' tk', Fr h₀ L h' m → News h₀ L h' news → Q (.bool true) { s with heap := h', toks := tk' }) :
    wpAny (model PySem.Challenge.rw_lh0031_01.row.prog w) (ktrTop dp un gd cn cs L a ccd cl []) (call (.ref 377) [.int k tk0, .ref x, v, .ref 186, .int p tp]) Q E s := by
  revert X; k_fill; intro X
  refine wpAny_call ?_
  k_dflt (refine' code_defS1 (env := envX cn cs L a ccd cl) ?k1 ?k2 ?k3 ?k4 ?k5 ?kA ?kF ?kE ?k6 ?k7 ?k8 ?k9 ?kB ?_ ?c2 ?c3 ?c4 ?c5; (case kA => exact rfl); (case kF => exact rfl); (case kE => assumption); (case k2 => k_asm); (case k1 => k_asm); (case k3 => k_asm); (case k4 => k_asm); (case k5 => k_asm); (case k6 => k_is); (case k7 => k_is); (case k8 => ktr_room); (case k9 => exact BindsTo.of_eq rfl); (case kB => exact locs rfl); (case c2 => exact rfl); (case c3 => exact rfl); (case c4 => exact rfl); (case c5 => decide); k_whole; intro g' L' h' FG' F' N' B' X' T' D'; (try dsimp only); (try k_fold))
  (rename Below _ _ _ _ => B8)
  have st8 := stays_hide B8
  replace B8 := below_hide B8
  have X8 := X.keeps st8
  have T8 := T.keeps st8
  k_steps
  all_goals
    rename RaisedK _ _ _ _ _ _ _ _ => rkX
    obtain ⟨G9, F9, U9, S9⟩ := raised_S (by assumption) (by assumption) (fun b o q nm => hideAll_get _ q nm) rkX (by assumption)
    clear rkX
    k_dflt (refine' caught_S0 (T' := "TypeError") S9 F9 ?K U9 ?XB ?TB ?D KtsTurn.refl ?ex PyProof.Rows.Boot.«TypeError» ?hn PySem.F.isExc_TypeError PySem.F.notTuple_TypeError ?hs ?_; (case K => assumption); (case XB => assumption); (case TB => assumption); (case D => assumption); (case hs => kts_sub); (case ex => k_is); (case hn => decide); k_whole)
    intro h' g' n₂ T' F' N₂ G' N' K' X' P' D'; (try k_lift K'); (try k_sweep)
    k_steps
    exact ret _ _ (by assumption) (by assumption)

end
end
section
/-! part In -/
section
variable {prog : Program} {w : World} {A : Around} {E : Value → Shared → Prop} {s : Shared} {K : Frag} {x C f : Addr} {ox : Obj} {od : Option Obj}
def IntBack (Q : Value → Shared → Prop) (v : Value) (s' : Shared) : Prop := ∃ n t, v = .int n t ∧ Q v s'
theorem intBack {Q : Value → Shared → Prop} {n : Int} {t : Tok} {s : Shared} (h : Q (.int n t) s) : IntBack Q (.int n t) s := ⟨n, t, rfl, h⟩
open Builtin in
theorem int_new_ref {Q : Value → Shared → Prop} (X : K.In s.heap) (I : InstAt s.heap x ox C od) (hs : findIn K (.ref C) "__int__" = some (some (.ref f))) (hf : isFn K (.ref f) = true)
    (h : wpAny (model prog w) A (call (.ref f) [.ref x]) (IntBack Q) E s) :
    wpAny (model prog w) A (Builtin.«int.__new__» ⟨[.type "int", .ref x], []⟩) (fun fin s' => ∃ n t, fin = .done (.ret (.int n t)) ∧ Q (.int n t) s') E s := by
  have one : wpAny (model prog w) A (callSpecial? (.ref x) (Str.ofString "__int__") []) (fun r s' => ∃ n t, r = some (.int n t) ∧ Q (.int n t) s') E s :=
    special_fn X I hs (beq_iff_eq.mp hf) (wpAny_mono h (fun v s' hv => by
      obtain ⟨n, t, rfl, hq⟩ := hv
      exact ⟨n, t, rfl, hq⟩) fun _ _ e => e)
  clear h X I hs hf
  obtain ⟨hp, g, d, tk, os⟩ := s
  have f1 := F.conv_sub_int
  have f2 := F.madeHere_int
  repeat (any_goals (first | assumption | ((with_reducible show wpAny _ _ (callSpecial? _ _ _) _ _ _); refine wpAny_mono one (fun r s' hr => ?_) (fun _ _ e => e); obtain ⟨n, t, rfl, hq⟩ := hr) | wp_step))
  all_goals exact ⟨_, _, rfl, hq⟩
set_option maxHeartbeats 2000000 in
theorem int_ref {Q : Value → Shared → Prop} (X : K.In s.heap) (I : InstAt s.heap x ox C od) (hs : findIn K (.ref C) "__int__" = some (some (.ref f))) (hf : isFn K (.ref f) = true)
    (h : wpAny (model prog w) A.in1.in1 (call (.ref f) [.ref x]) (IntBack Q) E s) : wpAny (model prog w) A (call (.type "int") [.ref x]) Q E s := by
  have ft := F.called_int
  obtain ⟨c, tl, hmro⟩ := ft.mro
  have hmade := ft.made
  have hsub := ft.sub
  have hct := F.typeCall_int_1 (.ref x)
  have hcn := F.newCall_int_1 (.ref x)
  have run := int_new_ref (prog := prog) (w := w) (A := A.in1.in1) (E := E) X I hs hf h
  clear h X I hs hf
  refine wpAny_call (codeAny_of_tree ?_)
  show wpAny _ _ (callAny (.type "int") _) _ _ _
  refine wpAny_pure ⟨Code.quiet_builtin _ (by decide +kernel), codeAny_builtin F.entry_type_call ?_⟩
  rw [Around.under_plain (weight_type_call_type "int" [.ref x] []) (units_type_call_type "int" [.ref x] [])]
  have h1 := ft.notType
  have h2 := ft.canCreate
  repeat (any_goals (first | assumption | wp_step))
  refine codeAny_mono (R := wants (IntBack Q) E) (codeAny_call_builtin ft.plain F.entry_int_new (wpAny_of_eq hcn (wpAny_mono run (fun fin s' hf => ?_) fun _ _ e => e))) fun r s₁ hr => ?_
  · obtain ⟨n, t, rfl, hq⟩ := hf
    exact ⟨n, t, rfl, hq⟩
  cases r with
  | error e => exact hr
  | ok fl =>
    cases fl with
    | ret obj =>
      obtain ⟨n, t, rfl, hq⟩ := hr
      have hT : s₁.TypeIs (.int n t) "int" := rfl
      have hli := ft.init.lookup
      have hbi := ft.init.bind (.int n t)
      repeat (any_goals (first | assumption | wp_step))
      have om := object_init_meets (T := "int") (newId := "int.__new__") (self := .int n t) (rest := [.ref x]) ft.init.lookup ft.made F.newNe_int
      refine codeAny_mono (R := fun r s' => r = .ok (.ret .none) ∧ Q (.int n t) s') (codeAny_call_builtin ft.init.plain F.entry_object_init (ft.init.check _ _ _ _ _ _ _ _ hT (F.args_object_init_2 _ _) (om prog w _ (fun r s' => r = .ok (.ret .none) ∧ Q (.int n t) s') s₁ ⟨hT, rfl, hq⟩))) fun r₂ s₂ hr₂ => ?_
      obtain ⟨rfl, hq⟩ := hr₂
      repeat (any_goals (first | assumption | wp_step))
    | _ => exact hr.elim
end
end
local macro_rules | `(tactic| walk_at "my hh") => `(tactic| (case hh => first | rfl | exact decide_eq_true rfl | exact congrArg Bool.not (decide_eq_true rfl) | exact decide_eq_false (by assumption) | exact congrArg Bool.not (decide_eq_false (by assumption)) | (simp; done)))
local macro_rules | `(tactic| walk_at "my q14") => `(tactic| (walk_at "my k"; walk_at "my hh"; walk_at "my du"))
local macro_rules | `(tactic| walk_at "my in5") => `(tactic| (intro t1' h' tk' F' N'; (try k_sweep); (try dsimp only)))
/-! part C8 -/
set_option maxHeartbeats 8000000 in
theorem c_tells {w : World} {mean : ExcName → Option Value} {mg mb : Str → Option Value} {dp un : Nat} {gd : Option (List Code)} {cn : Str} {cs : Scope} {L a : Addr} {ccd : Value} {cl : List (Str × Addr)} {outer : List Env} {A₀ : Around} {base h₀ : Heap}
    {m : Str → Option Value} {news : List (Addr × Obj)} {s : Shared} {Q E : Value → Shared → Prop} (B : Below A₀ base outer h₀) (F : Fr h₀ L s.heap m) (X : (hd.heap_39 w.params).In h₀) (N : News h₀ L s.heap news) (T : Top view (looseW view loose) mean mg mb h₀) (hk : cs.kind = .function)
    {b c : Bool} (h : b = c) (hd : dp + 4 < recursionLimit) (hu : un + 40 < cLine)
    (ret : ∀ h' tk', Fr h₀ L h' m → News h₀ L h' news → Q (.bool (true)) { s with heap := h', toks := tk' }) :
    wpAny (model PySem.Challenge.rw_lh0031_01.row.prog w) (ktrTop dp un gd cn cs L a ccd cl outer) (call (.ref 384) [.bool b, .bool c]) Q E s := by
  revert X; k_fill; intro X
  refine wpAny_call ?_
  k_dflt ktr_enter
  cases h
  cases b
  all_goals k_steps
  all_goals exact ret _ _ (by assumption) (by assumption)
local macro_rules | `(tactic| walk_at "call ref") => `(tactic| (k_here; (with_reducible show wpAny _ _ (call (Value.ref 384) _) _ _ _); k_dflt (refine' c_tells ?k1 ?k2 ?k3 ?k4 ?k5 ?kK ?hh ?kd ?ku ?_; walk_at "my q14"); walk_at "my in3"))
local macro_rules | `(tactic| walk_at "call type:int") => `(tactic| (k_here; (with_reducible show wpAny _ _ (call (Value.type "int") [Value.ref _]) _ _ _); k_dflt (refine' int_ref (C := 186) (f := 147) ?kX ?kI ?k5 ?k6 ?_; (case kX => k_in); (case kI => k_inst); (case k5 => k_is); (case k6 => k_is); k_whole)))
local macro_rules | `(tactic| walk_at "IntBack") => `(tactic| refine intBack ?_)
local macro_rules | `(tactic| walk_at "call ref") => `(tactic| (k_here; (with_reducible show wpAny _ _ (call (Value.ref 147) _) _ _ _); k_dflt (refine' int_f_o ?k1 ?k2 ?k3 ?k4 ?k5 ?kK ?kx ?kdx ?kd ?ku ?_; walk_at "my q11"); walk_at "my in5"))
local macro_rules | `(tactic| walk_at "call ref") => `(tactic| (k_here; (with_reducible show wpAny _ _ (call (Value.ref 126) [Value.ref _, Value.ref _]) _ _ _); k_dflt (refine' ne_ff_o ?k1 ?k2 ?k3 ?k4 ?k5 ?kK ?kx ?kdx ?ky ?kdy ?kd ?ku ?_; walk_at "my q10"); walk_at "my in3"))
local macro_rules | `(tactic| walk_at "call ref") => `(tactic| (k_here; (with_reducible show wpAny _ _ (call (Value.ref 126) [Value.ref _, Value.int _ _]) _ _ _); k_dflt (refine' ne_fi_o ?k1 ?k2 ?k3 ?k4 ?k5 ?kK ?kx ?kdx ?kd ?ku ?_; walk_at "my q11"); walk_at "my in3"))
set_option maxHeartbeats 8000000 in
theorem holds_o {w : World} {mean : ExcName → Option Value} {mg mb : Str → Option Value} {dp un : Nat} {gd : Option (List Code)} {cn : Str} {cs : Scope} {L a : Addr} {ccd : Value} {cl : List (Str × Addr)} {outer : List Env} {A₀ : Around} {base h₀ : Heap}
    {m : Str → Option Value} {news : List (Addr × Obj)} {s : Shared} {Q E : Value → Shared → Prop} (B : Below A₀ base outer h₀) (F : Fr h₀ L s.heap m) (X : (hd.heap_39 w.params).In h₀) (N : News h₀ L s.heap news) (T : Top view (looseW view loose) mean mg mb h₀) (hk : cs.kind = .function)
    {p k : Int} {tk0 tp : Tok} {x dx : Addr} {n : Int} {x1 x2 x3 x4 : Tok} (hx : (x, instObj 186 dx) ∈ news) (hdx : (dx, fqd w.params p n x1 x2 x3 x4) ∈ news) (hn : n = k) (hd : dp + 20 < recursionLimit) (hu : un + 200 < cLine)
    (ret : ∀ h' tk', Fr h₀ L h' m → News h₀ L h' news → Q (.bool (true)) { s with heap := h', toks := tk' }) :
    wpAny (model PySem.Challenge.rw_lh0031_01.row.prog w) (ktrTop dp un gd cn cs L a ccd cl outer) (call (.ref 370) [.ref x, .int k tk0, .ref 186, .ref 333, .int p tp]) Q E s := by
  revert X; k_fill; intro X
  cases hn
  refine wpAny_call ?_
  k_dflt ktr_enter
  k_steps
  all_goals first | exact ret _ _ (by assumption) (by assumption) | contradiction | (rw [beq_self_eq_true]; exact ret _ _ (by assumption) (by assumption))
set_option maxHeartbeats 8000000 in
theorem compares_o {w : World} {mean : ExcName → Option Value} {mg mb : Str → Option Value} {dp un : Nat} {gd : Option (List Code)} {cn : Str} {cs : Scope} {L a : Addr} {ccd : Value} {cl : List (Str × Addr)} {outer : List Env} {A₀ : Around} {base h₀ : Heap}
    {m : Str → Option Value} {news : List (Addr × Obj)} {s : Shared} {Q E : Value → Shared → Prop} (B : Below A₀ base outer h₀) (F : Fr h₀ L s.heap m) (X : (hd.heap_39 w.params).In h₀) (N : News h₀ L s.heap news) (T : Top view (looseW view loose) mean mg mb h₀) (hk : cs.kind = .function)
    {p : Int} {ta tb tp : Tok} {x dx : Addr} {n : Int} {x1 x2 x3 x4 : Tok} (hx : (x, instObj 186 dx) ∈ news) (hdx : (dx, fqd w.params p n x1 x2 x3 x4) ∈ news) {y dy : Addr} {k : Int} {y1 y2 y3 y4 : Tok} (hy : (y, instObj 186 dy) ∈ news) (hdy : (dy, fqd w.params p k y1 y2 y3 y4) ∈ news) (hne : ¬ n = (n + 1).fmod p) (hp : 0 < p) (hd : dp + 40 < recursionLimit) (hu : un + 300 < cLine)
    (ret : ∀ h' tk', Fr h₀ L h' m → News h₀ L h' news → Q (.bool (true)) { s with heap := h', toks := tk' }) :
    wpAny (model PySem.Challenge.rw_lh0031_01.row.prog w) (ktrTop dp un gd cn cs L a ccd cl outer) (call (.ref 391) [.ref x, .ref y, .int n ta, .int k tb, .int p tp]) Q E s := by
  revert X; k_fill; intro X
  refine wpAny_call ?_
  k_dflt ktr_enter
  k_steps
  all_goals first | exact ret _ _ (by assumption) (by assumption) | contradiction
section
/-! part Pw -/
theorem gives_pow3 (a : Int) (t : Tok) (b : Int) (u : Tok) (c : Int) (v : Tok) (hc0 : ¬(c == 0) = true) (hc1 : ¬(c.natAbs == 1) = true) (hc2 : ¬ b < 0) (hc3 : ¬ c < 0) :
    Gives (Builtin.«int.__pow__» ⟨[.int a t, .int b u, .int c v], []⟩) (.int (Builtin.powMod (a % (c.natAbs : Int)).toNat b.natAbs c.natAbs)) :=
  .of_wp fun M A E s Q h => by
    obtain ⟨hp, g, d, tk, os⟩ := s
    have hc4 : ¬ (decide (c < 0) && ((Builtin.powMod (a % (c.natAbs : Int)).toNat b.natAbs c.natAbs : Nat) : Int) != 0) = true := by simp [hc3]
    wp_walk; rw [if_neg hc4]; exact ⟨_, rfl, h⟩
theorem entry_pow : entryFor table "pow" = some Builtin.«pow» := entryFor_of_tree (by kernel_rfl)
theorem kind_pow : builtinKind "pow" = none := by decide +kernel
theorem plain_pow : plainId "pow" = true := by decide +kernel
theorem args_pow3 (a : Int) (t : Tok) (b : Int) (u : Tok) (c : Int) (v : Tok) : argsOk "pow" ⟨[.int a t, .int b u, .int c v], []⟩ := by unfold argsOk; kernel_rfl
theorem args_int_pow3 (a : Int) (t : Tok) (b : Int) (u : Tok) (c : Int) (v : Tok) : argsOk "int.__pow__" ⟨[.int a t, .int b u, .int c v], []⟩ := by unfold argsOk; kernel_rfl
theorem bind_pow3 (a : Int) (t : Tok) (b : Int) (u : Tok) (c : Int) (v : Tok) : Builtin.Builtins.bindParams "pow" ["base", "exp", "mod"] 2 ⟨[.int a t, .int b u, .int c v], []⟩ = pure [some (.int a t), some (.int b u), some (.int c v)] := by kernel_rfl
section
variable {prog : Program} {w : World} {A : Around} {E : Value → Shared → Prop} {s : Shared}
set_option maxHeartbeats 2000000 in
theorem call_pow3 {a b c : Int} {t u v : Tok} {Q : Value → Shared → Prop} (hb : 0 ≤ b) (hc : 1 < c) (h : Q (.int (Builtin.powMod (a % c).toNat b.toNat c.toNat) s.toks) { s with toks := s.toks + 1 }) :
    wpAny (model prog w) A (call (.builtin "pow") [.int a t, .int b u, .int c v]) Q E s := by
  refine Calls.call_function_entry kind_pow plain_pow entry_pow (args_pow3 ..) ?_
  have e1 : (c.natAbs : Int) = c := by omega
  have e2 : b.natAbs = b.toNat := by omega
  have e3 : c.natAbs = c.toNat := by omega
  have g := gives_pow3 a t b u c v (by simp; omega) (by simp; omega) (by omega) (by omega)
  rw [e1, e2, e3] at g
  have one : wpAny (model prog w) A.in1 (callSpecial? (.int a t) (Str.ofString "__pow__") [.int b u, .int c v]) (fun r s' => r = some (.int (Builtin.powMod (a % c).toNat b.toNat c.toNat) s.toks) ∧ s' = { s with toks := s.toks + 1 }) E s :=
    wpAny_callSpecial?_slot (typeIs_int s a t) F.slot_int_pow (call_gives F.slot_int_pow (typeIs_int s a t) F.entry_int_pow (args_int_pow3 ..) g ⟨rfl, rfl⟩)
  have hl := F.slot_int_pow.lookup
  obtain ⟨hp, gg, d, tk, os⟩ := s
  unfold Builtin.«pow»
  refine wpAny_bind (wpAny_of_eq (bind_pow3 ..) ?_)
  repeat (any_goals (first | ((with_reducible show wpAny _ _ (typeLookup _ _) _ _ _); refine wpAny_of_eq hl ?_) | ((with_reducible show wpAny _ _ (callSpecial? _ _ _) _ _ _); refine wpAny_mono one (fun r s' hr => ?_) (fun _ _ e => e); obtain ⟨rfl, rfl⟩ := hr) | wp_step))
  all_goals exact ⟨_, rfl, h⟩
end
end
section
/-! part Pl -/
theorem powMod_fold (b e m : Nat) (f : Nat → Nat → Nat) (hf : ∀ p i, f p i = if e.testBit i then p * p % m * b % m else p * p % m) : ∀ k, ((List.range k).reverse).foldl f (b ^ (e / 2 ^ k) % m) = b ^ e % m
  | 0 => by simp
  | k + 1 => by
    rw [List.range_succ, List.reverse_append, List.reverse_singleton, List.singleton_append, List.foldl_cons]
    have h : f (b ^ (e / 2 ^ (k + 1)) % m) k = b ^ (e / 2 ^ k) % m := by
      rw [hf]
      have hd : e / 2 ^ (k + 1) = e / 2 ^ k / 2 := by rw [Nat.pow_succ, Nat.div_div_eq_div_mul]
      have ht : e.testBit k = decide (e / 2 ^ k % 2 = 1) := by
        rw [Nat.testBit_eq_decide_div_mod_eq]
      rw [hd, ht]
      generalize e / 2 ^ k = q
      by_cases hq : q % 2 = 1
      · simp only [hq, decide_true, if_true]
        have e1 : q = q / 2 + q / 2 + 1 := by omega
        have : b ^ q % m = b ^ (q / 2 + q / 2 + 1) % m := by rw [← e1]
        rw [this, Nat.pow_add, Nat.pow_add, Nat.pow_one, Nat.mul_mod, Nat.mul_mod (b ^ (q / 2) * b ^ (q / 2)) b m, ← Nat.mul_mod (b ^ (q / 2)) (b ^ (q / 2)) m]
        simp [Nat.mul_mod]
      · simp only [hq, decide_false, Bool.false_eq_true, if_false]
        have e1 : q = q / 2 + q / 2 := by omega
        have : b ^ q % m = b ^ (q / 2 + q / 2) % m := by rw [← e1]
        rw [this, Nat.pow_add, ← Nat.mul_mod]
    rw [h]
    exact powMod_fold b e m f hf k
theorem powMod_eq (b e m : Nat) : Builtin.powMod b e m = b ^ e % m := by
  unfold Builtin.powMod
  have h0 : e / 2 ^ (Builtin.Int.intBits (e : Int)) = 0 := by
    refine Nat.div_eq_of_lt ?_
    unfold Builtin.Int.intBits
    by_cases he : e = 0
    · subst he; simp
    · have : ((e : Int) == 0) = false := by simp; omega
      rw [this]
      simp only [Bool.false_eq_true, if_false, Int.natAbs_natCast]
      exact Nat.lt_log2_self
  have := powMod_fold b e m (fun p i => if e.testBit i then p * p % m * b % m else p * p % m) (fun _ _ => rfl) (Builtin.Int.intBits (e : Int))
  rw [h0, Nat.pow_zero] at this
  exact this
structure Pr (p : Int) : Prop where
  m : Mod p
  g : Good p.toNat
theorem mod_of_good {q : Nat} (h : Good q) (hb : (q : Int) < 2 ^ 384) : Pr (q : Int) := by
  refine ⟨⟨by have := h.1; omega, hb, fun b h1 h2 d hd hp => ?_⟩, by rw [Int.toNat_natCast]; exact h⟩
  obtain ⟨n, rfl⟩ := Int.eq_ofNat_of_zero_le (show 0 ≤ b by omega)
  have e := h.2 n (by omega) (by omega)
  have e' : ((n : Int) ^ (q - 1)) % (q : Int) = 1 := by
    have := congrArg (Nat.cast (R := Int)) e
    simpa using this
  have h3 : (q : Int) ∣ (n : Int) ^ (q - 1) - 1 := Int.dvd_self_sub_of_emod_eq e'
  have h4 : d ∣ (n : Int) ^ (q - 1) := by
    have : q - 1 = (q - 2) + 1 := by have := h.1; omega
    rw [this, Int.pow_succ]
    exact Int.dvd_trans hd (Int.dvd_mul_left _ _)
  have h5 := Int.dvd_sub h4 (Int.dvd_trans hp h3)
  have : (n : Int) ^ (q - 1) - ((n : Int) ^ (q - 1) - 1) = 1 := by omega
  rwa [this] at h5
theorem isInv_pow {p v : Int} (h : Pr p) (h2 : 2 < p) : IsInv p v (Builtin.powMod ((v.fmod p) % p).toNat (p - 2).toNat p.toNat : Nat) := by
  have hlo := fmod_lo (x := v) (p := p) (by omega)
  have hhi := fmod_hi (x := v) (p := p) (by omega)
  have hg := h.g
  have hv : v % p = v.fmod p := (fm (by omega)).symm
  rw [powMod_eq, Int.emod_eq_of_lt hlo hhi]
  obtain ⟨q, rfl⟩ := Int.eq_ofNat_of_zero_le (show 0 ≤ p by omega)
  simp only [Int.toNat_natCast] at hg ⊢
  have e2 : ((q : Int) - 2).toNat = q - 2 := by omega
  rw [e2]
  generalize hn : v.fmod (q : Int) = a at *
  obtain ⟨n, rfl⟩ := Int.eq_ofNat_of_zero_le hlo
  simp only [Int.toNat_natCast]
  refine ⟨by omega, ?_, fun h0 => ?_, fun h0 => ?_⟩
  · exact Int.ofNat_lt.mpr (Nat.mod_lt _ (by omega))
  · have : n = 0 := by omega
    subst this
    rw [Nat.zero_pow (by omega)]; simp
  · refine Int.dvd_self_sub_of_emod_eq ?_
    have e := hg.2 n (by omega) (by omega)
    have e1 : q - 1 = (q - 2) + 1 := by omega
    rw [e1, Nat.pow_succ] at e
    rw [Int.mul_emod, hv]
    have : (((n ^ (q - 2) % q : Nat) : Int) % (q : Int) * (n : Int)) % (q : Int) = ((n ^ (q - 2) * n % q : Nat) : Int) := by
      rw [← Int.natCast_emod, ← Int.natCast_mul, ← Int.natCast_emod, Nat.mod_mod, Nat.mod_mul_mod]
    rw [this, e]; rfl
theorem isInv_two {p v : Int} (h : Mod p) (h2 : ¬ 2 < p) : IsInv p v (v.fmod 2) := by
  have := h.1
  obtain rfl : p = 2 := by omega
  have e : v.fmod 2 = v % 2 := fm (by omega)
  refine ⟨by omega, by omega, fun h0 => by omega, fun h0 => ?_⟩
  have : v.fmod 2 = 1 := by omega
  rw [this]; omega
theorem isInv_unique {p a r r' : Int} (I : IsInv p a r) (J : IsInv p a r') : r = r' := by
  obtain ⟨i1, i2, i3, i4⟩ := I
  obtain ⟨j1, j2, j3, j4⟩ := J
  by_cases h : a.fmod p = 0
  · rw [i3 h, j3 h]
  · have h1 := i4 h
    have h2 := j4 h
    have h3 : p ∣ (r - r') * a := by
      have := Int.dvd_sub h1 h2
      have e : r * a - 1 - (r' * a - 1) = (r - r') * a := by rw [Int.sub_mul]; omega
      rwa [e] at this
    have h4 : p ∣ r - r' := by
      have x1 := Int.dvd_trans h3 (Int.dvd_mul_right ((r - r') * a) r)
      have x2 := Int.dvd_trans h1 (Int.dvd_mul_left (r - r') (r * a - 1))
      have := Int.dvd_sub x1 x2
      have e : (r - r') * a * r - (r - r') * (r * a - 1) = r - r' := by
        rw [Int.mul_sub, Int.mul_one, Int.mul_assoc, Int.mul_comm a r]; omega
      rwa [e] at this
    have h5 := Int.emod_eq_zero_of_dvd h4
    rcases Int.lt_trichotomy (r - r') 0 with h6 | h6 | h6
    · have := Int.emod_emod_of_dvd
      have h7 : p ∣ r' - r := by
        have := Int.dvd_neg.mpr h4
        rwa [Int.neg_sub] at this
      have := Int.le_of_dvd (by omega) h7
      omega
    · omega
    · have := Int.le_of_dvd (by omega) h4
      omega
end
local macro_rules | `(tactic| walk_at "my hp") => `(tactic| (case hp => assumption))
local macro_rules | `(tactic| walk_at "my q15") => `(tactic| (walk_at "my k"; walk_at "my hp"; walk_at "my du"))
local macro_rules | `(tactic| walk_at "my in6") => `(tactic| (intro r' t1' h' tk' I' F' N'; (try k_sweep); (try dsimp only)))
/-! part C9 -/
local macro_rules | `(tactic| walk_at "call builtin:pow") => `(tactic| (k_here; (with_reducible show wpAny _ _ (call (Value.builtin "pow") [Value.int _ _, Value.int _ _, Value.int _ _]) _ _ _); refine' call_pow3 ?kb ?kc ?_; (case kb => first | assumption | omega); (case kc => first | assumption | omega)))
set_option maxHeartbeats 8000000 in
theorem c_inverse {w : World} {mean : ExcName → Option Value} {mg mb : Str → Option Value} {dp un : Nat} {gd : Option (List Code)} {cn : Str} {cs : Scope} {L a : Addr} {ccd : Value} {cl : List (Str × Addr)} {outer : List Env} {A₀ : Around} {base h₀ : Heap}
    {m : Str → Option Value} {news : List (Addr × Obj)} {s : Shared} {Q E : Value → Shared → Prop} (B : Below A₀ base outer h₀) (F : Fr h₀ L s.heap m) (X : (hd.heap_39 w.params).In h₀) (N : News h₀ L s.heap news) (T : Top view (looseW view loose) mean mg mb h₀) (hk : cs.kind = .function)
    {v p : Int} {tv tp : Tok} (hp : Pr p) (hd : dp + 4 < recursionLimit) (hu : un + 40 < cLine)
    (ret : ∀ r t1 h' tk', IsInv p v r → Fr h₀ L h' m → News h₀ L h' news → Q (.int r t1) { s with heap := h', toks := tk' }) :
    wpAny (model PySem.Challenge.rw_lh0031_01.row.prog w) (ktrTop dp un gd cn cs L a ccd cl outer) (call (.ref 351) [.int v tv, .int p tp]) Q E s := by
  revert X; k_fill; intro X
  have hp1 := hp.m.1
  refine wpAny_call ?_
  k_dflt ktr_enter
  k_steps
  · exact ret _ _ _ _ (isInv_pow hp (by omega)) (by assumption) (by assumption)
  · exact ret _ _ _ _ (isInv_two hp.m (by omega)) (by assumption) (by assumption)
local macro_rules | `(tactic| walk_at "call ref") => `(tactic| (k_here; (with_reducible show wpAny _ _ (call (Value.ref 351) _) _ _ _); k_dflt (refine' c_inverse ?k1 ?k2 ?k3 ?k4 ?k5 ?kK ?hp ?kd ?ku ?_; walk_at "my q15"); walk_at "my in6"))
/-- what the law works out -/
def dueL (i j k e p r1 r2 r3 : Int) : List Int := List.map (fun x => x.fmod p) [i + j, i - j, i * j, i * r1, i + k, k + i, i - k, k - i, i * k, k * i, i * r2, k * r3, -i, (Builtin.powMod (i % p).toNat e.toNat p.toNat : Nat), 1, 0]
set_option maxHeartbeats 8000000 in
theorem c_due {w : World} {mean : ExcName → Option Value} {mg mb : Str → Option Value} {dp un : Nat} {gd : Option (List Code)} {cn : Str} {cs : Scope} {L a : Addr} {ccd : Value} {cl : List (Str × Addr)} {outer : List Env} {A₀ : Around} {base h₀ : Heap}
    {m : Str → Option Value} {news : List (Addr × Obj)} {s : Shared} {Q E : Value → Shared → Prop} (B : Below A₀ base outer h₀) (F : Fr h₀ L s.heap m) (X : (hd.heap_39 w.params).In h₀) (N : News h₀ L s.heap news) (T : Top view (looseW view loose) mean mg mb h₀) (hk : cs.kind = .function)
    {i j k e p : Int} {ti tj tk0 te tp : Tok} (hp : Pr p) (he : 0 ≤ e) (si : Sm i) (sj : Sm j) (sk : Sm k) (hd : dp + 20 < recursionLimit) (hu : un + 200 < cLine)
    (ret : ∀ ys r1 r2 r3 D h' tk', IntsAre ys (dueL i j k e p r1 r2 r3) → IsInv p j r1 → IsInv p k r2 → IsInv p i r3 → Fr h₀ L h' m → News h₀ L h' ((D, LCg.lst ys) :: news) → Q (.ref D) { s with heap := h', toks := tk' }) :
    wpAny (model PySem.Challenge.rw_lh0031_01.row.prog w) (ktrTop dp un gd cn cs L a ccd cl outer) (call (.ref 356) [.int i ti, .int j tj, .int k tk0, .int e te, .int p tp]) Q E s := by
  revert X; k_fill; intro X
  have hp1 := hp.m.1
  have hm := hp.m
  refine wpAny_call ?_
  k_dflt (refine' code_defC ?k1 ?k2 ?k3 ?k4 ?k5 ?kA ?kF ?kK ?k6 ?k7 ?k8 ?k9 ?kB ?kD ?_ ?c2 ?c3 ?c4; (case kA => exact rfl); (case kF => exact rfl); (case kK => assumption); (case k1 => k_asm); (case k2 => k_asm); (case k3 => k_asm); (case k4 => k_asm); (case k5 => k_asm); (case k6 => k_is); (case k7 => k_is); (case k8 => ktr_room); (case k9 => exact BindsTo.of_eq rfl); (case kB => exact rfl); (case kD => decide +kernel); (case c2 => exact rfl); (case c3 => exact rfl); (case c4 => exact rfl); k_whole; intro g' L' h' tk' cells' FG' F' N' Y' B' X' T' l1; (try k_lt l1); k_cells Y'; (try simp only [List.cons_append, List.nil_append] at N'); (try dsimp only); (try k_fold))
  k_steps
  exact ret _ _ _ _ _ _ _ (by assumption) (by assumption) (by assumption) (by assumption) (by assumption) (cb_drop (by assumption) fun q hq => by
    rcases List.mem_cons.mp hq with rfl | h
    · exact List.mem_cons_self ..
    · repeat first | exact h | refine List.mem_cons_of_mem _ ?_)
section
/-! part Rb -/
section
variable {prog : Program} {w : World} {A : Around} {E : Value → Shared → Prop} {s : Shared} {K : Frag} {x C f f' L : Addr} {ox : Obj} {od : Option Obj} {h₀ : Heap} {m : Str → Option Value}
theorem asInt_plain {Q : Option Int → Shared → Prop} (hx : s.heap.get? x = some ox) (ho : ox.data = .plain) (hq : Q none s) : wpAny (model prog w) A (asInt? (.ref x)) Q E s := by
  obtain ⟨hh, g, d, t, os⟩ := s
  unfold asInt?
  refine wpAny_bind (wpAny_loadPart_at hx ?_)
  rw [ho]
  exact wpAny_pure hq
open Builtin in
theorem intBinary_no {nm : String} {fn : Int → Int → Sem Fin} {j : Int} {t : Tok} {Q : Fin → Shared → Prop} (hx : s.heap.get? x = some ox) (ho : ox.data = .plain) (hq : Q (.done (.ret .notImplemented)) s) :
    wpAny (model prog w) A (Builtin.Int.intBinary nm fn false ⟨[.int j t, .ref x], []⟩) Q E s := by
  unfold Builtin.Int.intBinary
  refine wpAny_bind (m := slotArgs nm 1 _) (wpAny_pure ?_)
  refine wpAny_bind (m := Builtin.Int.intOfSelf _) (wpAny_pure ?_)
  refine wpAny_bind (m := asInt? (.ref x)) (asInt_plain hx ho ?_)
  obtain ⟨hh, g, d, tk, os⟩ := s
  dsimp only
  repeat wp_step
  exact hq
open Builtin in
theorem intDiv_no {j : Int} {t : Tok} {Q : Fin → Shared → Prop} (hx : s.heap.get? x = some ox) (ho : ox.data = .plain) (hq : Q (.done (.ret .notImplemented)) s) :
    wpAny (model prog w) A (Builtin.«int.__truediv__» ⟨[.int j t, .ref x], []⟩) Q E s := by
  unfold Builtin.«int.__truediv__»
  refine wpAny_bind (m := (pure (j, [Value.ref x]) : Sem (Int × List Value))) (wpAny_pure ?_)
  refine wpAny_bind (m := asInt? (.ref x)) (asInt_plain hx ho ?_)
  exact wpAny_pure hq
def Declines (prog : Program) (w : World) (op : Operator) : Prop := ∀ (A : Around) (E : Value → Shared → Prop) (s : Shared) (x : Addr) (ox : Obj) (j : Int) (t : Tok) (Q : Option Value → Shared → Prop), s.heap.get? x = some ox → ox.data = .plain → Q none s →
  wpAny (model prog w) A (tryMethod (.int j t) (PySem.dunder op.info.2) (.ref x)) Q E s
theorem declines_of {op : Operator} {id : String} {B : Builtin} (slot : Slot "int" (PySem.dunder op.info.2) id) (entry : entryFor table id = some B) (args : ∀ a b, argsOk id ⟨[a, b], []⟩)
    (run : ∀ (A : Around) (E : Value → Shared → Prop) (s : Shared) (x : Addr) (ox : Obj) (j : Int) (t : Tok) (Q : Fin → Shared → Prop), s.heap.get? x = some ox → ox.data = .plain → Q (.done (.ret .notImplemented)) s → wpAny (model prog w) A (B ⟨[.int j t, .ref x], []⟩) Q E s) : Declines prog w op := by
  intro A E s x ox j t Q hx ho hq
  unfold tryMethod
  refine wpAny_bind (m := callSpecial? (.int j t) (PySem.dunder op.info.2) [.ref x]) (wpAny_callSpecial?_slot (typeIs_int s j t) slot ?_)
  refine wpAny_call (codeAny_call_builtin slot.plain entry (slot.check _ _ _ _ _ _ _ _ (typeIs_int s j t) (args _ _) (run _ _ _ _ _ _ _ _ hx ho ?_)))
  exact wpAny_pure hq
theorem declines_add : Declines prog w .Add := declines_of (op := .Add) F.slot_int_add F.entry_int_add F.args_int_add_2 fun _ _ _ _ _ _ _ _ hx ho hq => intBinary_no hx ho hq
theorem declines_sub : Declines prog w .Sub := declines_of (op := .Sub) F.slot_int_sub F.entry_int_sub F.args_int_sub_2 fun _ _ _ _ _ _ _ _ hx ho hq => intBinary_no hx ho hq
theorem declines_mul : Declines prog w .Mult := declines_of (op := .Mult) F.slot_int_mul F.entry_int_mul F.args_int_mul_2 fun _ _ _ _ _ _ _ _ hx ho hq => intBinary_no hx ho hq
theorem declines_div : Declines prog w .Div := declines_of (op := .Div) F.slot_int_truediv F.entry_int_truediv F.args_int_truediv_2 fun _ _ _ _ _ _ _ _ hx ho hq => intDiv_no hx ho hq
theorem int_op_ref {op : Operator} {j : Int} {t : Tok} {fo ro : Option Value} {Q : Value → Shared → Prop} (F : Fr h₀ L s.heap m) (X₀ : K.In h₀) (I : InstAt s.heap x ox C od) (ho : ox.data = .plain) (D : Declines prog w op) (hc : selfFirst K C = true)
    (hv : findIn K (.ref C) (PySem.dunder op.info.2) = some (some (.ref f'))) (hr : findIn K (.ref C) (dunderR op.info.2) = some (some (.ref f))) (hf : isFn K (.ref f) = true)
    (h1 : findIn K (.type "int") (PySem.dunder op.info.2) = some fo) (h2 : findIn K (.type "int") (dunderR op.info.2) = some ro) (hs1 : ((fo.isSome && !isSeqSlot fo) || (ro.isSome && !isSeqSlot ro)) = true) (hsub : subIn K (.ref C) (.type "int") = some false)
    (h : wpAny (model prog w) A (call (.ref f) [.ref x, .int j t]) (PySem.W.CmpBack Q) E s) : wpAny (model prog w) A (binaryOp op (.int j t) (.ref x)) Q E s := by
  have X := X₀.keeps F.keep
  obtain ⟨cd, rest, hcd, hm⟩ := ksp_first hc
  rcases hi : op.info with ⟨sym, nm'⟩
  have d1 := D A E s x ox j t (fun r s' => r = none ∧ s' = s) I.1 ho ⟨rfl, rfl⟩
  rw [hi] at hv hr h1 h2 d1
  dsimp only at hv hr h1 h2 d1
  have one := ksp_try X I hr hf h
  clear h D
  obtain ⟨hh, g, d, tt, os⟩ := s
  have L1 : Looks (model prog w) hh (typeOf (.int j t)) (.type "int") := Looks.of_pure rfl
  have L2 : Looks (model prog w) hh (typeOf (.ref x)) (.ref C) := I.type
  have L3 : Looks (model prog w) hh (fillsNumberSlot (.ref C) nm') true := fills_K X hcd hm hv
  have L4 : Looks (model prog w) hh (fillsNumberSlot (.type "int") nm') ((fo.isSome && !isSeqSlot fo) || (ro.isSome && !isSeqSlot ro)) := ksp_fillsT X h1 h2
  have L5 : Looks (model prog w) hh (isSubtype (.ref C) (.type "int")) false := looks_subIn X hsub
  have L7 : Looks (model prog w) hh (numberSlotInPython (.type "int") nm') false := Looks.of_pure rfl
  rw [hs1] at L4
  have hne : (Value.type "int" == Value.ref C) = false := Bool.eq_false_iff.mpr fun q => by cases beq_iff_eq.mp q
  simp only [binaryOp, hi]
  refine wpAny_holding (wpAny_bind ?_)
  unfold binaryOp1
  refine wpAny_bind (L1.at (wpAny_bind (L2.at (wpAny_bind (L4.at ?_)))))
  simp only [hne, Bool.false_eq_true, if_false]
  ksp_lk
  refine wpAny_mono d1 (fun r s' hr' => ?_) fun _ _ e => e
  obtain ⟨rfl, rfl⟩ := hr'
  ksp_lk
  refine wpAny_mono one (fun r s' hr' => ?_) fun _ _ e => e
  obtain ⟨v, rfl, hq⟩ := hr'
  ksp_lk
  exact hq
end
end
local macro_rules | `(tactic| walk_at "my khe") => `(tactic| (case khe => assumption))
local macro_rules | `(tactic| walk_at "my q16") => `(tactic| (walk_at "my k"; walk_at "my kx"; walk_at "my kdx"; walk_at "my khm"; walk_at "my sn"; walk_at "my khe"; walk_at "my du"))
local macro_rules | `(tactic| walk_at "my iop") => `(tactic| ((case F => k_asm); (case X => k_asm); (case I => k_inst); (case ho => exact rfl); (case hC => k_is); (case hV => k_is); (case hR => k_is); (case hF => k_is); (case h1 => k_is); (case h2 => k_is); (case hS => exact rfl); (case hU => k_is); k_whole))
/-! part C10 -/
/-- an exponent of up to 24 binary digits -/
structure Exp (e : Int) : Prop where
  r : 0 ≤ e ∧ e < 2 ^ 24
theorem sub_keep {α : Type _} {a : α} {l l' : List α} (h : ∀ q ∈ l, q ∈ l') : ∀ q ∈ a :: l, q ∈ a :: l' := fun q hq => by
  rcases List.mem_cons.mp hq with rfl | hq
  · exact List.mem_cons_self ..
  · exact List.mem_cons_of_mem _ (h q hq)
theorem sub_skip {α : Type _} {a : α} {l l' : List α} (h : ∀ q ∈ l, q ∈ l') : ∀ q ∈ l, q ∈ a :: l' := fun q hq => List.mem_cons_of_mem _ (h q hq)
theorem sub_refl {α : Type _} {l : List α} : ∀ q ∈ l, q ∈ l := fun _ hq => hq
theorem pow_s_o {w : World} {mean : ExcName → Option Value} {mg mb : Str → Option Value} {dp un : Nat} {gd : Option (List Code)} {cn : Str} {cs : Scope} {L a : Addr} {ccd : Value} {cl : List (Str × Addr)} {outer : List Env} {A₀ : Around} {base h₀ : Heap}
    {m : Str → Option Value} {news : List (Addr × Obj)} {s : Shared} {Q E : Value → Shared → Prop} (B : Below A₀ base outer h₀) (F : Fr h₀ L s.heap m) (X : (hd.heap_39 w.params).In h₀) (N : News h₀ L s.heap news) (T : Top view (looseW view loose) mean mg mb h₀) (hk : cs.kind = .function)
    {p e : Int} {te : Tok} {x dx : Addr} {n : Int} {x1 x2 x3 x4 : Tok} (hx : (x, instObj 186 dx) ∈ news) (hdx : (dx, fqd w.params p n x1 x2 x3 x4) ∈ news) (hm : Mod p) (sn : Sm n) (he : Exp e) (hd : dp + 64 < recursionLimit) (hu : un + 696 < cLine)
    (ret : ∀ r z dz t1 t2 t3 t4 h' tk', PowIs p n e r → Fr h₀ L h' m → News h₀ L h' ((z, instObj 186 dz) :: (dz, fqd w.params p r t1 t2 t3 t4) :: news) → (∀ q ∈ news, q.1 < dz) → dz < z → Q (.ref z) { s with heap := h', toks := tk' }) :
    wpAny (model PySem.Challenge.rw_lh0031_01.row.prog w) (ktrTop dp un gd cn cs L a ccd cl outer) (call (.ref 112) [.ref x, .int e te]) Q E s :=
  pow_o 24 w B F X N T hk hx hdx hm sn he.r hd hu ret
local macro_rules | `(tactic| walk_at "call ref") => `(tactic| (k_here; (with_reducible show wpAny _ _ (call (Value.ref 70) [Value.ref _, Value.int _ _]) _ _ _); k_dflt (refine' radd_fi_o ?k1 ?k2 ?k3 ?k4 ?k5 ?kK ?kx ?kdx ?khm ?kd ?ku ?_; walk_at "my q4"); walk_at "my in"))
local macro_rules | `(tactic| walk_at "call ref") => `(tactic| (k_here; (with_reducible show wpAny _ _ (call (Value.ref 63) [Value.ref _, Value.int _ _]) _ _ _); k_dflt (refine' rmul_fi_o ?k1 ?k2 ?k3 ?k4 ?k5 ?kK ?kx ?kdx ?khm ?sn ?sk ?kd ?ku ?_; walk_at "my q6"); walk_at "my in"))
local macro_rules | `(tactic| walk_at "call ref") => `(tactic| (k_here; (with_reducible show wpAny _ _ (call (Value.ref 133) [Value.ref _]) _ _ _); k_dflt (refine' neg_f_o ?k1 ?k2 ?k3 ?k4 ?k5 ?kK ?kx ?kdx ?khm ?kd ?ku ?_; walk_at "my q4"); walk_at "my in"))
local macro_rules | `(tactic| walk_at "call ref") => `(tactic| (k_here; (with_reducible show wpAny _ _ (call (Value.ref 176) [Value.ref _]) _ _ _); k_dflt (refine' one_f_o ?k1 ?k2 ?k3 ?k4 ?k5 ?kK ?kx ?kdx ?khm ?kd ?ku ?_; walk_at "my q4"); walk_at "my in"))
local macro_rules | `(tactic| walk_at "call ref") => `(tactic| (k_here; (with_reducible show wpAny _ _ (call (Value.ref 183) [Value.ref _]) _ _ _); k_dflt (refine' zero_f_o ?k1 ?k2 ?k3 ?k4 ?k5 ?kK ?kx ?kdx ?khm ?kd ?ku ?_; walk_at "my q4"); walk_at "my in"))
local macro_rules | `(tactic| walk_at "call ref") => `(tactic| (k_here; (with_reducible show wpAny _ _ (call (Value.ref 112) [Value.ref _, Value.int _ _]) _ _ _); k_dflt (refine' pow_s_o ?k1 ?k2 ?k3 ?k4 ?k5 ?kK ?kx ?kdx ?khm ?sn ?khe ?kd ?ku ?_; walk_at "my q16"); walk_at "my in2"))
local macro_rules | `(tactic| walk_at "binaryOp Div ref ref") => `(tactic| (k_here; (with_reducible show wpAny _ _ (binaryOp _ (Value.ref _) (Value.ref _)) _ _ _); k_dflt (refine' binop_K ?k1 ?k2 ?k3 ?k4 ?k5 ?k6 ?k7 ?_; (case k1 => k_asm); (case k2 => k_asm); (case k3 => k_inst); (case k4 => k_typeOf); (case k5 => k_is); (case k6 => k_is); (case k7 => k_is); k_whole)))
local macro_rules | `(tactic| walk_at "binaryOp Add int ref") => `(tactic| (k_here; (with_reducible show wpAny _ _ (binaryOp _ (Value.int _ _) (Value.ref _)) _ _ _); k_dflt (refine' int_op_ref (C := 186) (f' := 49) (f := 70) ?F ?X ?I ?ho declines_add ?hC ?hV ?hR ?hF ?h1 ?h2 ?hS ?hU ?_; walk_at "my iop")))
local macro_rules | `(tactic| walk_at "binaryOp Sub int ref") => `(tactic| (k_here; (with_reducible show wpAny _ _ (binaryOp _ (Value.int _ _) (Value.ref _)) _ _ _); k_dflt (refine' int_op_ref (C := 186) (f' := 84) (f := 77) ?F ?X ?I ?ho declines_sub ?hC ?hV ?hR ?hF ?h1 ?h2 ?hS ?hU ?_; walk_at "my iop")))
local macro_rules | `(tactic| walk_at "binaryOp Mult int ref") => `(tactic| (k_here; (with_reducible show wpAny _ _ (binaryOp _ (Value.int _ _) (Value.ref _)) _ _ _); k_dflt (refine' int_op_ref (C := 186) (f' := 56) (f := 63) ?F ?X ?I ?ho declines_mul ?hC ?hV ?hR ?hF ?h1 ?h2 ?hS ?hU ?_; walk_at "my iop")))
local macro_rules | `(tactic| walk_at "binaryOp Div int ref") => `(tactic| (k_here; (with_reducible show wpAny _ _ (binaryOp _ (Value.int _ _) (Value.ref _)) _ _ _); k_dflt (refine' int_op_ref (C := 186) (f' := 98) (f := 105) ?F ?X ?I ?ho declines_div ?hC ?hV ?hR ?hF ?h1 ?h2 ?hS ?hU ?_; walk_at "my iop")))
local macro_rules | `(tactic| walk_at "call ref") => `(tactic| ((with_reducible show wpAny _ _ (call (Prod.fst _) _) _ _ _); dsimp only [List.cons_append, List.nil_append]))
theorem pack_o {w : World} {h₀ h : Heap} {L D : Addr} {news : List (Addr × Obj)} {p n k j r1 r2 r3 r4 : Int} {z0 d0 z1 d1 z2 d2 z3 d3 z4 d4 z5 d5 z6 d6 z7 d7 z8 d8 z9 d9 z10 d10 z11 d11 z12 d12 z13 d13 z14 d14 z15 d15 : Addr} {t0_0 t0_1 t0_2 t0_3 t1_0 t1_1 t1_2 t1_3 t2_0 t2_1 t2_2 t2_3 t3_0 t3_1 t3_2 t3_3 t4_0 t4_1 t4_2 t4_3 t5_0 t5_1 t5_2 t5_3 t6_0 t6_1 t6_2 t6_3 t7_0 t7_1 t7_2 t7_3 t8_0 t8_1 t8_2 t8_3 t9_0 t9_1 t9_2 t9_3 t10_0 t10_1 t10_2 t10_3 t11_0 t11_1 t11_2 t11_3 t12_0 t12_1 t12_2 t12_3 t13_0 t13_1 t13_2 t13_3 t14_0 t14_1 t14_2 t14_3 t15_0 t15_1 t15_2 t15_3 : Tok} (N : News h₀ L h ((D, W.listOf #[Value.ref z0, Value.ref z1, Value.ref z2, Value.ref z3, Value.ref z4, Value.ref z5, Value.ref z6, Value.ref z7, Value.ref z8, Value.ref z9, Value.ref z10, Value.ref z11, Value.ref z12, Value.ref z13, Value.ref z14, Value.ref z15] 0) :: (z15, instObj 186 d15) :: (d15, fqd w.params p ((0 : Int).fmod p) t15_0 t15_1 t15_2 t15_3) :: (z14, instObj 186 d14) :: (d14, fqd w.params p ((1 : Int).fmod p) t14_0 t14_1 t14_2 t14_3) :: (z13, instObj 186 d13) :: (d13, fqd w.params p (r4) t13_0 t13_1 t13_2 t13_3) :: (z12, instObj 186 d12) :: (d12, fqd w.params p ((-n).fmod p) t12_0 t12_1 t12_2 t12_3) :: (z11, instObj 186 d11) :: (d11, fqd w.params p ((r3 * j).fmod p) t11_0 t11_1 t11_2 t11_3) :: (z10, instObj 186 d10) :: (d10, fqd w.params p ((n * r2).fmod p) t10_0 t10_1 t10_2 t10_3) :: (z9, instObj 186 d9) :: (d9, fqd w.params p ((n * j).fmod p) t9_0 t9_1 t9_2 t9_3) :: (z8, instObj 186 d8) :: (d8, fqd w.params p ((n * j).fmod p) t8_0 t8_1 t8_2 t8_3) :: (z7, instObj 186 d7) :: (d7, fqd w.params p ((j - n).fmod p) t7_0 t7_1 t7_2 t7_3) :: (z6, instObj 186 d6) :: (d6, fqd w.params p ((n - j).fmod p) t6_0 t6_1 t6_2 t6_3) :: (z5, instObj 186 d5) :: (d5, fqd w.params p ((n + j).fmod p) t5_0 t5_1 t5_2 t5_3) :: (z4, instObj 186 d4) :: (d4, fqd w.params p ((n + j).fmod p) t4_0 t4_1 t4_2 t4_3) :: (z3, instObj 186 d3) :: (d3, fqd w.params p ((n * r1).fmod p) t3_0 t3_1 t3_2 t3_3) :: (z2, instObj 186 d2) :: (d2, fqd w.params p ((n * k).fmod p) t2_0 t2_1 t2_2 t2_3) :: (z1, instObj 186 d1) :: (d1, fqd w.params p ((n - k).fmod p) t1_0 t1_1 t1_2 t1_3) :: (z0, instObj 186 d0) :: (d0, fqd w.params p ((n + k).fmod p) t0_0 t0_1 t0_2 t0_3) :: news)) :
    ∃ (z d : Nat → Addr) (t : Nat → Nat → Tok), News h₀ L h ((D, W.listOf #[Value.ref (z 0), Value.ref (z 1), Value.ref (z 2), Value.ref (z 3), Value.ref (z 4), Value.ref (z 5), Value.ref (z 6), Value.ref (z 7), Value.ref (z 8), Value.ref (z 9), Value.ref (z 10), Value.ref (z 11), Value.ref (z 12), Value.ref (z 13), Value.ref (z 14), Value.ref (z 15)] 0) :: ((z 15), instObj 186 (d 15)) :: ((d 15), fqd w.params p ((0 : Int).fmod p) (t 15 0) (t 15 1) (t 15 2) (t 15 3)) :: ((z 14), instObj 186 (d 14)) :: ((d 14), fqd w.params p ((1 : Int).fmod p) (t 14 0) (t 14 1) (t 14 2) (t 14 3)) :: ((z 13), instObj 186 (d 13)) :: ((d 13), fqd w.params p (r4) (t 13 0) (t 13 1) (t 13 2) (t 13 3)) :: ((z 12), instObj 186 (d 12)) :: ((d 12), fqd w.params p ((-n).fmod p) (t 12 0) (t 12 1) (t 12 2) (t 12 3)) :: ((z 11), instObj 186 (d 11)) :: ((d 11), fqd w.params p ((r3 * j).fmod p) (t 11 0) (t 11 1) (t 11 2) (t 11 3)) :: ((z 10), instObj 186 (d 10)) :: ((d 10), fqd w.params p ((n * r2).fmod p) (t 10 0) (t 10 1) (t 10 2) (t 10 3)) :: ((z 9), instObj 186 (d 9)) :: ((d 9), fqd w.params p ((n * j).fmod p) (t 9 0) (t 9 1) (t 9 2) (t 9 3)) :: ((z 8), instObj 186 (d 8)) :: ((d 8), fqd w.params p ((n * j).fmod p) (t 8 0) (t 8 1) (t 8 2) (t 8 3)) :: ((z 7), instObj 186 (d 7)) :: ((d 7), fqd w.params p ((j - n).fmod p) (t 7 0) (t 7 1) (t 7 2) (t 7 3)) :: ((z 6), instObj 186 (d 6)) :: ((d 6), fqd w.params p ((n - j).fmod p) (t 6 0) (t 6 1) (t 6 2) (t 6 3)) :: ((z 5), instObj 186 (d 5)) :: ((d 5), fqd w.params p ((n + j).fmod p) (t 5 0) (t 5 1) (t 5 2) (t 5 3)) :: ((z 4), instObj 186 (d 4)) :: ((d 4), fqd w.params p ((n + j).fmod p) (t 4 0) (t 4 1) (t 4 2) (t 4 3)) :: ((z 3), instObj 186 (d 3)) :: ((d 3), fqd w.params p ((n * r1).fmod p) (t 3 0) (t 3 1) (t 3 2) (t 3 3)) :: ((z 2), instObj 186 (d 2)) :: ((d 2), fqd w.params p ((n * k).fmod p) (t 2 0) (t 2 1) (t 2 2) (t 2 3)) :: ((z 1), instObj 186 (d 1)) :: ((d 1), fqd w.params p ((n - k).fmod p) (t 1 0) (t 1 1) (t 1 2) (t 1 3)) :: ((z 0), instObj 186 (d 0)) :: ((d 0), fqd w.params p ((n + k).fmod p) (t 0 0) (t 0 1) (t 0 2) (t 0 3)) :: news) :=
  ⟨fun i => [z0, z1, z2, z3, z4, z5, z6, z7, z8, z9, z10, z11, z12, z13, z14, z15].getD i 0, fun i => [d0, d1, d2, d3, d4, d5, d6, d7, d8, d9, d10, d11, d12, d13, d14, d15].getD i 0, fun i q => ([[t0_0, t0_1, t0_2, t0_3], [t1_0, t1_1, t1_2, t1_3], [t2_0, t2_1, t2_2, t2_3], [t3_0, t3_1, t3_2, t3_3], [t4_0, t4_1, t4_2, t4_3], [t5_0, t5_1, t5_2, t5_3], [t6_0, t6_1, t6_2, t6_3], [t7_0, t7_1, t7_2, t7_3], [t8_0, t8_1, t8_2, t8_3], [t9_0, t9_1, t9_2, t9_3], [t10_0, t10_1, t10_2, t10_3], [t11_0, t11_1, t11_2, t11_3], [t12_0, t12_1, t12_2, t12_3], [t13_0, t13_1, t13_2, t13_3], [t14_0, t14_1, t14_2, t14_3], [t15_0, t15_1, t15_2, t15_3]].getD i []).getD q 0, N⟩
set_option maxHeartbeats 8000000 in
theorem found_o {w : World} {mean : ExcName → Option Value} {mg mb : Str → Option Value} {dp un : Nat} {gd : Option (List Code)} {cn : Str} {cs : Scope} {L a : Addr} {ccd : Value} {cl : List (Str × Addr)} {outer : List Env} {A₀ : Around} {base h₀ : Heap}
    {m : Str → Option Value} {news : List (Addr × Obj)} {s : Shared} {Q E : Value → Shared → Prop} (B : Below A₀ base outer h₀) (F : Fr h₀ L s.heap m) (X : (hd.heap_39 w.params).In h₀) (N : News h₀ L s.heap news) (T : Top view (looseW view loose) mean mg mb h₀) (hk : cs.kind = .function)
    {e j p : Int} {tj te : Tok} {x dx : Addr} {n : Int} {x1 x2 x3 x4 : Tok} (hx : (x, instObj 186 dx) ∈ news) (hdx : (dx, fqd w.params p n x1 x2 x3 x4) ∈ news) {y dy : Addr} {k : Int} {y1 y2 y3 y4 : Tok} (hy : (y, instObj 186 dy) ∈ news) (hdy : (dy, fqd w.params p k y1 y2 y3 y4) ∈ news) (hm : Mod p) (he : Exp e) (sn : Sm n) (sk : Sm k) (sj : Sm j) (hd : dp + 100 < recursionLimit) (hu : un + 1000 < cLine)
    (ret : ∀ r1 r2 r3 r4 D (z d : Nat → Addr) (t : Nat → Nat → Tok) h' tk', IsInv p k r1 → IsInv p j r2 → IsInv p n r3 → PowIs p n e r4 → Fr h₀ L h' m → News h₀ L h' ((D, W.listOf #[Value.ref (z 0), Value.ref (z 1), Value.ref (z 2), Value.ref (z 3), Value.ref (z 4), Value.ref (z 5), Value.ref (z 6), Value.ref (z 7), Value.ref (z 8), Value.ref (z 9), Value.ref (z 10), Value.ref (z 11), Value.ref (z 12), Value.ref (z 13), Value.ref (z 14), Value.ref (z 15)] 0) :: ((z 15), instObj 186 (d 15)) :: ((d 15), fqd w.params p ((0 : Int).fmod p) (t 15 0) (t 15 1) (t 15 2) (t 15 3)) :: ((z 14), instObj 186 (d 14)) :: ((d 14), fqd w.params p ((1 : Int).fmod p) (t 14 0) (t 14 1) (t 14 2) (t 14 3)) :: ((z 13), instObj 186 (d 13)) :: ((d 13), fqd w.params p (r4) (t 13 0) (t 13 1) (t 13 2) (t 13 3)) :: ((z 12), instObj 186 (d 12)) :: ((d 12), fqd w.params p ((-n).fmod p) (t 12 0) (t 12 1) (t 12 2) (t 12 3)) :: ((z 11), instObj 186 (d 11)) :: ((d 11), fqd w.params p ((r3 * j).fmod p) (t 11 0) (t 11 1) (t 11 2) (t 11 3)) :: ((z 10), instObj 186 (d 10)) :: ((d 10), fqd w.params p ((n * r2).fmod p) (t 10 0) (t 10 1) (t 10 2) (t 10 3)) :: ((z 9), instObj 186 (d 9)) :: ((d 9), fqd w.params p ((n * j).fmod p) (t 9 0) (t 9 1) (t 9 2) (t 9 3)) :: ((z 8), instObj 186 (d 8)) :: ((d 8), fqd w.params p ((n * j).fmod p) (t 8 0) (t 8 1) (t 8 2) (t 8 3)) :: ((z 7), instObj 186 (d 7)) :: ((d 7), fqd w.params p ((j - n).fmod p) (t 7 0) (t 7 1) (t 7 2) (t 7 3)) :: ((z 6), instObj 186 (d 6)) :: ((d 6), fqd w.params p ((n - j).fmod p) (t 6 0) (t 6 1) (t 6 2) (t 6 3)) :: ((z 5), instObj 186 (d 5)) :: ((d 5), fqd w.params p ((n + j).fmod p) (t 5 0) (t 5 1) (t 5 2) (t 5 3)) :: ((z 4), instObj 186 (d 4)) :: ((d 4), fqd w.params p ((n + j).fmod p) (t 4 0) (t 4 1) (t 4 2) (t 4 3)) :: ((z 3), instObj 186 (d 3)) :: ((d 3), fqd w.params p ((n * r1).fmod p) (t 3 0) (t 3 1) (t 3 2) (t 3 3)) :: ((z 2), instObj 186 (d 2)) :: ((d 2), fqd w.params p ((n * k).fmod p) (t 2 0) (t 2 1) (t 2 2) (t 2 3)) :: ((z 1), instObj 186 (d 1)) :: ((d 1), fqd w.params p ((n - k).fmod p) (t 1 0) (t 1 1) (t 1 2) (t 1 3)) :: ((z 0), instObj 186 (d 0)) :: ((d 0), fqd w.params p ((n + k).fmod p) (t 0 0) (t 0 1) (t 0 2) (t 0 3)) :: news) → Q (.ref D) { s with heap := h', toks := tk' }) :
    wpAny (model PySem.Challenge.rw_lh0031_01.row.prog w) (ktrTop dp un gd cn cs L a ccd cl outer) (call (.ref 363) [.ref x, .ref y, .int j tj, .int e te]) Q E s := by
  revert X; k_fill; intro X
  have hp : 0 < p := by have := hm.1; omega
  refine wpAny_call ?_
  k_dflt ktr_enter
  k_steps
  obtain ⟨z, d, t, N9⟩ := pack_o (w := w) (news := news) (cb_drop (by assumption) (by repeat first | exact sub_refl | refine sub_keep ?_ | refine sub_skip ?_))
  exact ret _ _ _ _ _ z d t _ _ (by assumption) (by assumption) (by assumption) (by assumption) (by assumption) N9
section
/-! part Lw -/
set_option exponentiation.threshold 600
/-- the primes of the law -/
def primes : List Int := [4002409555221667393417789825735904156556882819939007885332058136124031650490837864442687629129015664037894272559787, 21888242871839275222246405745257275088696311157297823662689037894645226208583, 115792089237316195423570985008687907853269984665640564039457584007908834671663, 115792089237316195423570985008687907852837564279074904382605163141518161494337, 2, 3, 5, 7, 11, 13, 251, 257, 65521, 65537]
theorem primes_pr {p : Int} (h : p ∈ primes) : Pr p := by
  simp only [primes, List.mem_cons, List.not_mem_nil, or_false] at h
  rcases h with rfl | rfl | rfl | rfl | rfl | rfl | rfl | rfl | rfl | rfl | rfl | rfl | rfl | rfl
  · exact mod_of_good good_4002409555221667393417789825735904156556882819939007885332058136124031650490837864442687629129015664037894272559787 (by decide)
  · exact mod_of_good good_21888242871839275222246405745257275088696311157297823662689037894645226208583 (by decide)
  · exact mod_of_good good_115792089237316195423570985008687907853269984665640564039457584007908834671663 (by decide)
  · exact mod_of_good good_115792089237316195423570985008687907852837564279074904382605163141518161494337 (by decide)
  · exact mod_of_good good_2 (by decide)
  · exact mod_of_good good_3 (by decide)
  · exact mod_of_good good_5 (by decide)
  · exact mod_of_good good_7 (by decide)
  · exact mod_of_good good_11 (by decide)
  · exact mod_of_good good_13 (by decide)
  · exact mod_of_good good_251 (by decide)
  · exact mod_of_good good_257 (by decide)
  · exact mod_of_good good_65521 (by decide)
  · exact mod_of_good good_65537 (by decide)
theorem item_prime {prog : Program} {w : World} {A : Around} {E : Value → Shared → Prop} {s : Shared} {value slice : Expr} {l : Addr} {vs : List Value} {k : Int} {u : Tok} {Q : Value → Shared → Prop} (hl : s.heap.IsList l vs.toArray) (hi : IntsAre vs [4002409555221667393417789825735904156556882819939007885332058136124031650490837864442687629129015664037894272559787, 21888242871839275222246405745257275088696311157297823662689037894645226208583, 115792089237316195423570985008687907853269984665640564039457584007908834671663, 115792089237316195423570985008687907852837564279074904382605163141518161494337, 2, 3, 5, 7, 11, 13, 251, 257, 65521, 65537])
    (h0 : 0 ≤ k) (h1 : k < 14) (h : ∀ p t, Pr p → Q (.int p t) s)
    (hs : subscripted slice false (.ref l) (.int k u) = operate [.ref l, .int k u] (getItem (.ref l) (.int k u)) := by with_unfolding_all rfl) :
    wpAny (model prog w) A (subscriptTail value slice (.ref l) (.int k u)) Q E s :=
  item_list_intsR (ns := primes) hl hi h0 (by show k < 14; exact h1) (by omega) (fun t => h _ t (primes_pr (by
    have hk : k.toNat < primes.length := by show k.toNat < 14; omega
    rw [List.getD_eq_getElem?_getD, List.getElem?_eq_getElem hk]; exact List.getElem_mem hk))) hs
theorem sm_small {x : Int} (h : x.natAbs < 2 ^ 400) : Sm x := by
  unfold Sm Builtin.Int.intBits
  split
  · exact Nat.zero_le _
  · rename_i hx
    have h0 : x.natAbs ≠ 0 := by simpa using hx
    have := (Nat.log2_lt h0).mpr h
    omega
theorem sm_f {ns : List Int} (h : PyData.layable0 (.list (ns.map .int)) = true) (k : Int) (h0 : 0 ≤ k) (h1 : k < 6) : Sm (if k < (ns.length : Int) then ns.getD k.toNat 0 else 11 * k + 3) := by
  split
  · exact bits_getD h
  · exact sm_small (Nat.lt_of_lt_of_le (show (11 * k + 3).natAbs < 2 ^ 10 by omega) (Nat.pow_le_pow_right (by omega) (by omega)))
/-- the six numbers that the law reads -/
theorem six {ys : List Value} {ns : List Int} (hl : PyData.layable0 (.list (ns.map .int)) = true) (h : IntsAre ys (List.map (fun k' => if k' < (ns.length : Int) then ns.getD k'.toNat 0 else 11 * k' + 3) (rangeKs 0 (6 - 0 : Int).toNat))) :
    ∃ g0 g1 g2 g3 g4 g5 : Int, IntsAre ys [g0, g1, g2, g3, g4, g5] ∧ Sm g3 :=
  ⟨_, _, _, _, _, _, h, sm_f hl 3 (by omega) (by omega)⟩
section
variable {M : Model} {A : Around} {E : Value → Shared → Prop} {s : Shared} {h₀ : Heap} {L : Addr} {m : Str → Option Value} {news : List (Addr × Obj)} {st : Stmt} {env : Env} {Q : Flow → Shared → Prop}
/-- after the branch: the number is some int of fair size, all else is as before -/
def JoinNum (h₀ : Heap) (L : Addr) (m : Str → Option Value) (news : List (Addr × Obj)) (s s' : Shared) : Prop :=
  ∃ r t, Sm r ∧ Fr h₀ L s'.heap (fun y => if y = Str.ofString "number" then some (.int r t) else m y) ∧ News h₀ L s'.heap news ∧ s' = { s with heap := s'.heap, toks := s'.toks }
theorem join_num (_ : Fr h₀ L s.heap m) (_ : News h₀ L s.heap news) (k0 : wpAny M A (exec st env) (fun fl s' => fl = Flow.next ∧ JoinNum h₀ L m news s s') E s)
    (k : ∀ r t h' tk', Sm r → Fr h₀ L h' (fun y => if y = Str.ofString "number" then some (.int r t) else m y) → News h₀ L h' news → Q .next { s with heap := h', toks := tk' }) : wpAny M A (exec st env) Q E s :=
  wpAny_mono k0 (fun fl s' hq => by
    obtain ⟨rfl, r, t, h1, h2, h3, h4⟩ := hq
    rw [h4]; exact k r t _ _ h1 h2 h3) fun _ _ e => e
theorem join_same {g : Int} {t : Tok} {s' : Shared} (hm : m (Str.ofString "number") = some (.int g t)) (hg : Sm g) (F : Fr h₀ L s'.heap m) (N : News h₀ L s'.heap news) (hs : s' = { s with heap := s'.heap, toks := s'.toks }) : JoinNum h₀ L m news s s' := by
  refine ⟨g, t, hg, ?_, N, hs⟩
  have : (fun y => if y = Str.ofString "number" then some (.int g t) else m y) = m := funext fun y => by
    by_cases h : y = Str.ofString "number"
    · rw [if_pos h, h, hm]
    · rw [if_neg h]
  rw [this]; exact F
end
theorem sm_prod {p x : Int} (hp : Mod p) : Sm (p * (x.fmod 7 - 3)) := by
  have h1 := hp.1
  have h2 := hp.2.1
  have h3 := fmod_lo (x := x) (p := 7) (by omega)
  have h4 := fmod_hi (x := x) (p := 7) (by omega)
  generalize x.fmod 7 = y at *
  refine sm_small ?_
  rw [Int.natAbs_mul]
  have h5 : p.natAbs ≤ 2 ^ 384 := by omega
  have h6 : (y - 3).natAbs ≤ 4 := by omega
  exact Nat.lt_of_le_of_lt (Nat.mul_le_mul h5 h6) (by decide)
end
section
/-! part Lx -/
section
variable {prog : Program} {w : World} {A : Around} {E : Value → Shared → Prop} {s : Shared}
/-- an item of a made list of ints at a written place, by its own value -/
theorem item_at {value slice : Expr} {l : Addr} {vs : List Value} {ns : List Int} {k x : Int} {u : Tok} {Q : Value → Shared → Prop} (hl : s.heap.IsList l vs.toArray) (hi : IntsAre vs ns)
    (h0 : 0 ≤ k) (hfit : k < 2 ^ 63) (hx : ns[k.toNat]? = some x) (h : ∀ t, Q (.int x t) s)
    (hs : subscripted slice false (.ref l) (.int k u) = operate [.ref l, .int k u] (getItem (.ref l) (.int k u)) := by with_unfolding_all rfl) :
    wpAny (model prog w) A (subscriptTail value slice (.ref l) (.int k u)) Q E s := by
  have h1 : k < ns.length := by
    have := (List.getElem?_eq_some_iff.mp hx).1
    omega
  refine item_list_intsR hl hi h0 h1 hfit (fun t => ?_) hs
  rw [List.getD_eq_getElem?_getD, hx]
  exact h t
end
/-- what the sixteen elements hold -/
def foundL (n k j p r1 r2 r3 r4 : Int) : List Int := [(n + k).fmod p, (n - k).fmod p, (n * k).fmod p, (n * r1).fmod p, (n + j).fmod p, (n + j).fmod p, (n - j).fmod p, (j - n).fmod p, (n * j).fmod p, (n * j).fmod p, (n * r2).fmod p, (r3 * j).fmod p, (-n).fmod p, r4, (1 : Int).fmod p, (0 : Int).fmod p]
theorem powIs_due {p n e r : Int} (hp : 1 < p) (h : PowIs p n e r) : r = ((Builtin.powMod (n % p).toNat e.toNat p.toNat : Nat) : Int).fmod p := by
  have h1 := Int.emod_nonneg n (show p ≠ 0 by omega)
  rw [h, powMod_eq, fm (by omega), fm (by omega)]
  obtain ⟨q, rfl⟩ := Int.eq_ofNat_of_zero_le (show 0 ≤ p by omega)
  rw [Int.toNat_natCast, Int.natCast_emod, Int.emod_emod_of_dvd _ (Int.dvd_refl _), Int.natCast_pow, Int.toNat_of_nonneg h1, emod_pow]
theorem found_due {i j k e p r1 r2 r3 s1 s2 s3 s4 : Int} (hp : 1 < p) (d1 : IsInv p j r1) (d2 : IsInv p k r2) (d3 : IsInv p i r3) (f1 : IsInv p j s1) (f2 : IsInv p k s2) (f3 : IsInv p i s3) (f4 : PowIs p i e s4) :
    foundL i j k p s1 s2 s3 s4 = dueL i j k e p r1 r2 r3 := by
  obtain rfl := isInv_unique d1 f1
  obtain rfl := isInv_unique d2 f2
  obtain rfl := isInv_unique d3 f3
  have h := powIs_due hp f4
  unfold foundL dueL
  simp only [List.map_cons, List.map_nil]
  rw [← h, Int.add_comm k i, Int.mul_comm k i, Int.mul_comm k r3]
theorem ne_succ {x p : Int} (hp : 1 < p) : ¬ x.fmod p = (x.fmod p + 1).fmod p := by
  have h1 := fmod_lo (x := x) (p := p) (by omega)
  have h2 := fmod_hi (x := x) (p := p) (by omega)
  generalize x.fmod p = y at *
  intro h
  rw [fm (by omega)] at h
  by_cases hy : y + 1 = p
  · rw [hy, Int.emod_self] at h; omega
  · rw [Int.emod_eq_of_lt (by omega) (by omega)] at h; omega
theorem exp_of {x : Int} : Exp (x.fmod (2 ^ Int.toNat 24)) :=
  ⟨fmod_lo (by decide), fmod_hi (by decide)⟩
theorem hide_news {h₀ h : Heap} {L : Addr} {led : List (Addr × Obj)} {P : List (Addr × Obj) → Prop} (N : News h₀ L h led) (p : P led) : ∃ nw, News h₀ L h nw ∧ P nw ∧ ∀ h', News h₀ L h' nw → News h₀ L h' led := ⟨led, N, p, fun _ x => x⟩
theorem mem_up {h₀ h : Heap} {L : Addr} {a x : Addr × Obj} {l : List (Addr × Obj)} (_ : News h₀ L h (a :: l)) (h : x ∈ l) : x ∈ a :: l := List.mem_cons_of_mem _ h
def Keep (_ : List (Addr × Obj)) : Prop := True
theorem keep_of {h₀ h : Heap} {L : Addr} {l : List (Addr × Obj)} (_ : News h₀ L h l) : Keep l := trivial
theorem drop_to {h₀ h : Heap} {L : Addr} {l l' : List (Addr × Obj)} (_ : Keep l) (N : News h₀ L h l') (s : ∀ q ∈ l, q ∈ l') : News h₀ L h l := fun q hq => N q (s q hq)
theorem subL_tail {p : Addr × Obj} {l : List (Addr × Obj)} : ∀ {k : List (Addr × Obj)}, (∀ q ∈ k, q ∈ l) → SubL k l
  | [], _ => trivial
  | _ :: _, h => ⟨h _ (List.mem_cons_self ..), subL_tail (p := p) fun q hq => h q (List.mem_cons_of_mem _ hq)⟩
theorem unrEnd1 {h₀ : Heap} {L : Addr} {p : Addr × Obj} {l : List (Addr × Obj)} {rest : (Str → Option Value) → List (Addr × Obj) → Prop} {s₁ : Shared} {h' : Heap} {tk : Nat} {m' : Str → Option Value} (F : Fr h₀ L h' m') (N : News h₀ L h' (p :: l))
    (off : OffW [p] l) (r : rest m' l) : UnrEndW h₀ L s₁ [p] rest { s₁ with heap := h', toks := tk } :=
  UnrEndW.intro F N l ⟨List.mem_cons_self .., trivial⟩ (subL_tail (p := p) fun q hq => List.mem_cons_of_mem _ hq) off r
theorem mem16_o {w : World} {h₀ h : Heap} {L D : Addr} {news : List (Addr × Obj)} {p n k j r1 r2 r3 r4 : Int} {z d : Nat → Addr} {t : Nat → Nat → Tok} {dl : List Int} (_ : News h₀ L h ((D, W.listOf #[Value.ref (z 0), Value.ref (z 1), Value.ref (z 2), Value.ref (z 3), Value.ref (z 4), Value.ref (z 5), Value.ref (z 6), Value.ref (z 7), Value.ref (z 8), Value.ref (z 9), Value.ref (z 10), Value.ref (z 11), Value.ref (z 12), Value.ref (z 13), Value.ref (z 14), Value.ref (z 15)] 0) :: ((z 15), instObj 186 (d 15)) :: ((d 15), fqd w.params p ((0 : Int).fmod p) (t 15 0) (t 15 1) (t 15 2) (t 15 3)) :: ((z 14), instObj 186 (d 14)) :: ((d 14), fqd w.params p ((1 : Int).fmod p) (t 14 0) (t 14 1) (t 14 2) (t 14 3)) :: ((z 13), instObj 186 (d 13)) :: ((d 13), fqd w.params p (r4) (t 13 0) (t 13 1) (t 13 2) (t 13 3)) :: ((z 12), instObj 186 (d 12)) :: ((d 12), fqd w.params p ((-n).fmod p) (t 12 0) (t 12 1) (t 12 2) (t 12 3)) :: ((z 11), instObj 186 (d 11)) :: ((d 11), fqd w.params p ((r3 * j).fmod p) (t 11 0) (t 11 1) (t 11 2) (t 11 3)) :: ((z 10), instObj 186 (d 10)) :: ((d 10), fqd w.params p ((n * r2).fmod p) (t 10 0) (t 10 1) (t 10 2) (t 10 3)) :: ((z 9), instObj 186 (d 9)) :: ((d 9), fqd w.params p ((n * j).fmod p) (t 9 0) (t 9 1) (t 9 2) (t 9 3)) :: ((z 8), instObj 186 (d 8)) :: ((d 8), fqd w.params p ((n * j).fmod p) (t 8 0) (t 8 1) (t 8 2) (t 8 3)) :: ((z 7), instObj 186 (d 7)) :: ((d 7), fqd w.params p ((j - n).fmod p) (t 7 0) (t 7 1) (t 7 2) (t 7 3)) :: ((z 6), instObj 186 (d 6)) :: ((d 6), fqd w.params p ((n - j).fmod p) (t 6 0) (t 6 1) (t 6 2) (t 6 3)) :: ((z 5), instObj 186 (d 5)) :: ((d 5), fqd w.params p ((n + j).fmod p) (t 5 0) (t 5 1) (t 5 2) (t 5 3)) :: ((z 4), instObj 186 (d 4)) :: ((d 4), fqd w.params p ((n + j).fmod p) (t 4 0) (t 4 1) (t 4 2) (t 4 3)) :: ((z 3), instObj 186 (d 3)) :: ((d 3), fqd w.params p ((n * r1).fmod p) (t 3 0) (t 3 1) (t 3 2) (t 3 3)) :: ((z 2), instObj 186 (d 2)) :: ((d 2), fqd w.params p ((n * k).fmod p) (t 2 0) (t 2 1) (t 2 2) (t 2 3)) :: ((z 1), instObj 186 (d 1)) :: ((d 1), fqd w.params p ((n - k).fmod p) (t 1 0) (t 1 1) (t 1 2) (t 1 3)) :: ((z 0), instObj 186 (d 0)) :: ((d 0), fqd w.params p ((n + k).fmod p) (t 0 0) (t 0 1) (t 0 2) (t 0 3)) :: news))
    (hl : foundL n k j p r1 r2 r3 r4 = dl) (i : Int) (h0 : 0 ≤ i) (h16 : i < 0 + ((16 : Nat) : Int)) :
    (z i.toNat, instObj 186 (d i.toNat)) ∈ ((D, W.listOf #[Value.ref (z 0), Value.ref (z 1), Value.ref (z 2), Value.ref (z 3), Value.ref (z 4), Value.ref (z 5), Value.ref (z 6), Value.ref (z 7), Value.ref (z 8), Value.ref (z 9), Value.ref (z 10), Value.ref (z 11), Value.ref (z 12), Value.ref (z 13), Value.ref (z 14), Value.ref (z 15)] 0) :: ((z 15), instObj 186 (d 15)) :: ((d 15), fqd w.params p ((0 : Int).fmod p) (t 15 0) (t 15 1) (t 15 2) (t 15 3)) :: ((z 14), instObj 186 (d 14)) :: ((d 14), fqd w.params p ((1 : Int).fmod p) (t 14 0) (t 14 1) (t 14 2) (t 14 3)) :: ((z 13), instObj 186 (d 13)) :: ((d 13), fqd w.params p (r4) (t 13 0) (t 13 1) (t 13 2) (t 13 3)) :: ((z 12), instObj 186 (d 12)) :: ((d 12), fqd w.params p ((-n).fmod p) (t 12 0) (t 12 1) (t 12 2) (t 12 3)) :: ((z 11), instObj 186 (d 11)) :: ((d 11), fqd w.params p ((r3 * j).fmod p) (t 11 0) (t 11 1) (t 11 2) (t 11 3)) :: ((z 10), instObj 186 (d 10)) :: ((d 10), fqd w.params p ((n * r2).fmod p) (t 10 0) (t 10 1) (t 10 2) (t 10 3)) :: ((z 9), instObj 186 (d 9)) :: ((d 9), fqd w.params p ((n * j).fmod p) (t 9 0) (t 9 1) (t 9 2) (t 9 3)) :: ((z 8), instObj 186 (d 8)) :: ((d 8), fqd w.params p ((n * j).fmod p) (t 8 0) (t 8 1) (t 8 2) (t 8 3)) :: ((z 7), instObj 186 (d 7)) :: ((d 7), fqd w.params p ((j - n).fmod p) (t 7 0) (t 7 1) (t 7 2) (t 7 3)) :: ((z 6), instObj 186 (d 6)) :: ((d 6), fqd w.params p ((n - j).fmod p) (t 6 0) (t 6 1) (t 6 2) (t 6 3)) :: ((z 5), instObj 186 (d 5)) :: ((d 5), fqd w.params p ((n + j).fmod p) (t 5 0) (t 5 1) (t 5 2) (t 5 3)) :: ((z 4), instObj 186 (d 4)) :: ((d 4), fqd w.params p ((n + j).fmod p) (t 4 0) (t 4 1) (t 4 2) (t 4 3)) :: ((z 3), instObj 186 (d 3)) :: ((d 3), fqd w.params p ((n * r1).fmod p) (t 3 0) (t 3 1) (t 3 2) (t 3 3)) :: ((z 2), instObj 186 (d 2)) :: ((d 2), fqd w.params p ((n * k).fmod p) (t 2 0) (t 2 1) (t 2 2) (t 2 3)) :: ((z 1), instObj 186 (d 1)) :: ((d 1), fqd w.params p ((n - k).fmod p) (t 1 0) (t 1 1) (t 1 2) (t 1 3)) :: ((z 0), instObj 186 (d 0)) :: ((d 0), fqd w.params p ((n + k).fmod p) (t 0 0) (t 0 1) (t 0 2) (t 0 3)) :: news) ∧ (d i.toNat, fqd w.params p (dl.getD i.toNat 0) (t i.toNat 0) (t i.toNat 1) (t i.toNat 2) (t i.toNat 3)) ∈ ((D, W.listOf #[Value.ref (z 0), Value.ref (z 1), Value.ref (z 2), Value.ref (z 3), Value.ref (z 4), Value.ref (z 5), Value.ref (z 6), Value.ref (z 7), Value.ref (z 8), Value.ref (z 9), Value.ref (z 10), Value.ref (z 11), Value.ref (z 12), Value.ref (z 13), Value.ref (z 14), Value.ref (z 15)] 0) :: ((z 15), instObj 186 (d 15)) :: ((d 15), fqd w.params p ((0 : Int).fmod p) (t 15 0) (t 15 1) (t 15 2) (t 15 3)) :: ((z 14), instObj 186 (d 14)) :: ((d 14), fqd w.params p ((1 : Int).fmod p) (t 14 0) (t 14 1) (t 14 2) (t 14 3)) :: ((z 13), instObj 186 (d 13)) :: ((d 13), fqd w.params p (r4) (t 13 0) (t 13 1) (t 13 2) (t 13 3)) :: ((z 12), instObj 186 (d 12)) :: ((d 12), fqd w.params p ((-n).fmod p) (t 12 0) (t 12 1) (t 12 2) (t 12 3)) :: ((z 11), instObj 186 (d 11)) :: ((d 11), fqd w.params p ((r3 * j).fmod p) (t 11 0) (t 11 1) (t 11 2) (t 11 3)) :: ((z 10), instObj 186 (d 10)) :: ((d 10), fqd w.params p ((n * r2).fmod p) (t 10 0) (t 10 1) (t 10 2) (t 10 3)) :: ((z 9), instObj 186 (d 9)) :: ((d 9), fqd w.params p ((n * j).fmod p) (t 9 0) (t 9 1) (t 9 2) (t 9 3)) :: ((z 8), instObj 186 (d 8)) :: ((d 8), fqd w.params p ((n * j).fmod p) (t 8 0) (t 8 1) (t 8 2) (t 8 3)) :: ((z 7), instObj 186 (d 7)) :: ((d 7), fqd w.params p ((j - n).fmod p) (t 7 0) (t 7 1) (t 7 2) (t 7 3)) :: ((z 6), instObj 186 (d 6)) :: ((d 6), fqd w.params p ((n - j).fmod p) (t 6 0) (t 6 1) (t 6 2) (t 6 3)) :: ((z 5), instObj 186 (d 5)) :: ((d 5), fqd w.params p ((n + j).fmod p) (t 5 0) (t 5 1) (t 5 2) (t 5 3)) :: ((z 4), instObj 186 (d 4)) :: ((d 4), fqd w.params p ((n + j).fmod p) (t 4 0) (t 4 1) (t 4 2) (t 4 3)) :: ((z 3), instObj 186 (d 3)) :: ((d 3), fqd w.params p ((n * r1).fmod p) (t 3 0) (t 3 1) (t 3 2) (t 3 3)) :: ((z 2), instObj 186 (d 2)) :: ((d 2), fqd w.params p ((n * k).fmod p) (t 2 0) (t 2 1) (t 2 2) (t 2 3)) :: ((z 1), instObj 186 (d 1)) :: ((d 1), fqd w.params p ((n - k).fmod p) (t 1 0) (t 1 1) (t 1 2) (t 1 3)) :: ((z 0), instObj 186 (d 0)) :: ((d 0), fqd w.params p ((n + k).fmod p) (t 0 0) (t 0 1) (t 0 2) (t 0 3)) :: news) ∧ (#[Value.ref (z 0), Value.ref (z 1), Value.ref (z 2), Value.ref (z 3), Value.ref (z 4), Value.ref (z 5), Value.ref (z 6), Value.ref (z 7), Value.ref (z 8), Value.ref (z 9), Value.ref (z 10), Value.ref (z 11), Value.ref (z 12), Value.ref (z 13), Value.ref (z 14), Value.ref (z 15)] : Array Value)[i.toNat]? = some (.ref (z i.toNat)) := by
  subst hl
  generalize hq : i.toNat = q
  have hq' : q < 16 := by omega
  clear hq h0 h16
  match q, hq' with
  | 0, _ => exact ⟨.tail _ (.tail _ (.tail _ (.tail _ (.tail _ (.tail _ (.tail _ (.tail _ (.tail _ (.tail _ (.tail _ (.tail _ (.tail _ (.tail _ (.tail _ (.tail _ (.tail _ (.tail _ (.tail _ (.tail _ (.tail _ (.tail _ (.tail _ (.tail _ (.tail _ (.tail _ (.tail _ (.tail _ (.tail _ (.tail _ (.tail _ (.head _))))))))))))))))))))))))))))))), .tail _ (.tail _ (.tail _ (.tail _ (.tail _ (.tail _ (.tail _ (.tail _ (.tail _ (.tail _ (.tail _ (.tail _ (.tail _ (.tail _ (.tail _ (.tail _ (.tail _ (.tail _ (.tail _ (.tail _ (.tail _ (.tail _ (.tail _ (.tail _ (.tail _ (.tail _ (.tail _ (.tail _ (.tail _ (.tail _ (.tail _ (.tail _ (.head _)))))))))))))))))))))))))))))))), rfl⟩
  | 1, _ => exact ⟨.tail _ (.tail _ (.tail _ (.tail _ (.tail _ (.tail _ (.tail _ (.tail _ (.tail _ (.tail _ (.tail _ (.tail _ (.tail _ (.tail _ (.tail _ (.tail _ (.tail _ (.tail _ (.tail _ (.tail _ (.tail _ (.tail _ (.tail _ (.tail _ (.tail _ (.tail _ (.tail _ (.tail _ (.tail _ (.head _))))))))))))))))))))))))))))), .tail _ (.tail _ (.tail _ (.tail _ (.tail _ (.tail _ (.tail _ (.tail _ (.tail _ (.tail _ (.tail _ (.tail _ (.tail _ (.tail _ (.tail _ (.tail _ (.tail _ (.tail _ (.tail _ (.tail _ (.tail _ (.tail _ (.tail _ (.tail _ (.tail _ (.tail _ (.tail _ (.tail _ (.tail _ (.tail _ (.head _)))))))))))))))))))))))))))))), rfl⟩
  | 2, _ => exact ⟨.tail _ (.tail _ (.tail _ (.tail _ (.tail _ (.tail _ (.tail _ (.tail _ (.tail _ (.tail _ (.tail _ (.tail _ (.tail _ (.tail _ (.tail _ (.tail _ (.tail _ (.tail _ (.tail _ (.tail _ (.tail _ (.tail _ (.tail _ (.tail _ (.tail _ (.tail _ (.tail _ (.head _))))))))))))))))))))))))))), .tail _ (.tail _ (.tail _ (.tail _ (.tail _ (.tail _ (.tail _ (.tail _ (.tail _ (.tail _ (.tail _ (.tail _ (.tail _ (.tail _ (.tail _ (.tail _ (.tail _ (.tail _ (.tail _ (.tail _ (.tail _ (.tail _ (.tail _ (.tail _ (.tail _ (.tail _ (.tail _ (.tail _ (.head _)))))))))))))))))))))))))))), rfl⟩
  | 3, _ => exact ⟨.tail _ (.tail _ (.tail _ (.tail _ (.tail _ (.tail _ (.tail _ (.tail _ (.tail _ (.tail _ (.tail _ (.tail _ (.tail _ (.tail _ (.tail _ (.tail _ (.tail _ (.tail _ (.tail _ (.tail _ (.tail _ (.tail _ (.tail _ (.tail _ (.tail _ (.head _))))))))))))))))))))))))), .tail _ (.tail _ (.tail _ (.tail _ (.tail _ (.tail _ (.tail _ (.tail _ (.tail _ (.tail _ (.tail _ (.tail _ (.tail _ (.tail _ (.tail _ (.tail _ (.tail _ (.tail _ (.tail _ (.tail _ (.tail _ (.tail _ (.tail _ (.tail _ (.tail _ (.tail _ (.head _)))))))))))))))))))))))))), rfl⟩
  | 4, _ => exact ⟨.tail _ (.tail _ (.tail _ (.tail _ (.tail _ (.tail _ (.tail _ (.tail _ (.tail _ (.tail _ (.tail _ (.tail _ (.tail _ (.tail _ (.tail _ (.tail _ (.tail _ (.tail _ (.tail _ (.tail _ (.tail _ (.tail _ (.tail _ (.head _))))))))))))))))))))))), .tail _ (.tail _ (.tail _ (.tail _ (.tail _ (.tail _ (.tail _ (.tail _ (.tail _ (.tail _ (.tail _ (.tail _ (.tail _ (.tail _ (.tail _ (.tail _ (.tail _ (.tail _ (.tail _ (.tail _ (.tail _ (.tail _ (.tail _ (.tail _ (.head _)))))))))))))))))))))))), rfl⟩
  | 5, _ => exact ⟨.tail _ (.tail _ (.tail _ (.tail _ (.tail _ (.tail _ (.tail _ (.tail _ (.tail _ (.tail _ (.tail _ (.tail _ (.tail _ (.tail _ (.tail _ (.tail _ (.tail _ (.tail _ (.tail _ (.tail _ (.tail _ (.head _))))))))))))))))))))), .tail _ (.tail _ (.tail _ (.tail _ (.tail _ (.tail _ (.tail _ (.tail _ (.tail _ (.tail _ (.tail _ (.tail _ (.tail _ (.tail _ (.tail _ (.tail _ (.tail _ (.tail _ (.tail _ (.tail _ (.tail _ (.tail _ (.head _)))))))))))))))))))))), rfl⟩
  | 6, _ => exact ⟨.tail _ (.tail _ (.tail _ (.tail _ (.tail _ (.tail _ (.tail _ (.tail _ (.tail _ (.tail _ (.tail _ (.tail _ (.tail _ (.tail _ (.tail _ (.tail _ (.tail _ (.tail _ (.tail _ (.head _))))))))))))))))))), .tail _ (.tail _ (.tail _ (.tail _ (.tail _ (.tail _ (.tail _ (.tail _ (.tail _ (.tail _ (.tail _ (.tail _ (.tail _ (.tail _ (.tail _ (.tail _ (.tail _ (.tail _ (.tail _ (.tail _ (.head _)))))))))))))))))))), rfl⟩
  | 7, _ => exact ⟨.tail _ (.tail _ (.tail _ (.tail _ (.tail _ (.tail _ (.tail _ (.tail _ (.tail _ (.tail _ (.tail _ (.tail _ (.tail _ (.tail _ (.tail _ (.tail _ (.tail _ (.head _))))))))))))))))), .tail _ (.tail _ (.tail _ (.tail _ (.tail _ (.tail _ (.tail _ (.tail _ (.tail _ (.tail _ (.tail _ (.tail _ (.tail _ (.tail _ (.tail _ (.tail _ (.tail _ (.tail _ (.head _)))))))))))))))))), rfl⟩
  | 8, _ => exact ⟨.tail _ (.tail _ (.tail _ (.tail _ (.tail _ (.tail _ (.tail _ (.tail _ (.tail _ (.tail _ (.tail _ (.tail _ (.tail _ (.tail _ (.tail _ (.head _))))))))))))))), .tail _ (.tail _ (.tail _ (.tail _ (.tail _ (.tail _ (.tail _ (.tail _ (.tail _ (.tail _ (.tail _ (.tail _ (.tail _ (.tail _ (.tail _ (.tail _ (.head _)))))))))))))))), rfl⟩
  | 9, _ => exact ⟨.tail _ (.tail _ (.tail _ (.tail _ (.tail _ (.tail _ (.tail _ (.tail _ (.tail _ (.tail _ (.tail _ (.tail _ (.tail _ (.head _))))))))))))), .tail _ (.tail _ (.tail _ (.tail _ (.tail _ (.tail _ (.tail _ (.tail _ (.tail _ (.tail _ (.tail _ (.tail _ (.tail _ (.tail _ (.head _)))))))))))))), rfl⟩
  | 10, _ => exact ⟨.tail _ (.tail _ (.tail _ (.tail _ (.tail _ (.tail _ (.tail _ (.tail _ (.tail _ (.tail _ (.tail _ (.head _))))))))))), .tail _ (.tail _ (.tail _ (.tail _ (.tail _ (.tail _ (.tail _ (.tail _ (.tail _ (.tail _ (.tail _ (.tail _ (.head _)))))))))))), rfl⟩
  | 11, _ => exact ⟨.tail _ (.tail _ (.tail _ (.tail _ (.tail _ (.tail _ (.tail _ (.tail _ (.tail _ (.head _))))))))), .tail _ (.tail _ (.tail _ (.tail _ (.tail _ (.tail _ (.tail _ (.tail _ (.tail _ (.tail _ (.head _)))))))))), rfl⟩
  | 12, _ => exact ⟨.tail _ (.tail _ (.tail _ (.tail _ (.tail _ (.tail _ (.tail _ (.head _))))))), .tail _ (.tail _ (.tail _ (.tail _ (.tail _ (.tail _ (.tail _ (.tail _ (.head _)))))))), rfl⟩
  | 13, _ => exact ⟨.tail _ (.tail _ (.tail _ (.tail _ (.tail _ (.head _))))), .tail _ (.tail _ (.tail _ (.tail _ (.tail _ (.tail _ (.head _)))))), rfl⟩
  | 14, _ => exact ⟨.tail _ (.tail _ (.tail _ (.head _))), .tail _ (.tail _ (.tail _ (.tail _ (.head _)))), rfl⟩
  | 15, _ => exact ⟨.tail _ (.head _), .tail _ (.tail _ (.head _)), rfl⟩
  | q + 16, h => exact absurd h (by omega)
theorem mem16_f {w : World} {h₀ h : Heap} {L D : Addr} {news : List (Addr × Obj)} {p n k j r1 r2 r3 r4 : Int} {z d : Nat → Addr} {t : Nat → Nat → Tok} {dl : List Int} (_ : News h₀ L h ((D, W.listOf #[Value.ref (z 0), Value.ref (z 1), Value.ref (z 2), Value.ref (z 3), Value.ref (z 4), Value.ref (z 5), Value.ref (z 6), Value.ref (z 7), Value.ref (z 8), Value.ref (z 9), Value.ref (z 10), Value.ref (z 11), Value.ref (z 12), Value.ref (z 13), Value.ref (z 14), Value.ref (z 15)] 0) :: ((z 15), instObj 333 (d 15)) :: ((d 15), fqd w.params p ((0 : Int).fmod p) (t 15 0) (t 15 1) (t 15 2) (t 15 3)) :: ((z 14), instObj 333 (d 14)) :: ((d 14), fqd w.params p ((1 : Int).fmod p) (t 14 0) (t 14 1) (t 14 2) (t 14 3)) :: ((z 13), instObj 333 (d 13)) :: ((d 13), fqd w.params p (r4) (t 13 0) (t 13 1) (t 13 2) (t 13 3)) :: ((z 12), instObj 333 (d 12)) :: ((d 12), fqd w.params p ((-n).fmod p) (t 12 0) (t 12 1) (t 12 2) (t 12 3)) :: ((z 11), instObj 333 (d 11)) :: ((d 11), fqd w.params p ((r3 * j).fmod p) (t 11 0) (t 11 1) (t 11 2) (t 11 3)) :: ((z 10), instObj 333 (d 10)) :: ((d 10), fqd w.params p ((n * r2).fmod p) (t 10 0) (t 10 1) (t 10 2) (t 10 3)) :: ((z 9), instObj 333 (d 9)) :: ((d 9), fqd w.params p ((n * j).fmod p) (t 9 0) (t 9 1) (t 9 2) (t 9 3)) :: ((z 8), instObj 333 (d 8)) :: ((d 8), fqd w.params p ((n * j).fmod p) (t 8 0) (t 8 1) (t 8 2) (t 8 3)) :: ((z 7), instObj 333 (d 7)) :: ((d 7), fqd w.params p ((j - n).fmod p) (t 7 0) (t 7 1) (t 7 2) (t 7 3)) :: ((z 6), instObj 333 (d 6)) :: ((d 6), fqd w.params p ((n - j).fmod p) (t 6 0) (t 6 1) (t 6 2) (t 6 3)) :: ((z 5), instObj 333 (d 5)) :: ((d 5), fqd w.params p ((n + j).fmod p) (t 5 0) (t 5 1) (t 5 2) (t 5 3)) :: ((z 4), instObj 333 (d 4)) :: ((d 4), fqd w.params p ((n + j).fmod p) (t 4 0) (t 4 1) (t 4 2) (t 4 3)) :: ((z 3), instObj 333 (d 3)) :: ((d 3), fqd w.params p ((n * r1).fmod p) (t 3 0) (t 3 1) (t 3 2) (t 3 3)) :: ((z 2), instObj 333 (d 2)) :: ((d 2), fqd w.params p ((n * k).fmod p) (t 2 0) (t 2 1) (t 2 2) (t 2 3)) :: ((z 1), instObj 333 (d 1)) :: ((d 1), fqd w.params p ((n - k).fmod p) (t 1 0) (t 1 1) (t 1 2) (t 1 3)) :: ((z 0), instObj 333 (d 0)) :: ((d 0), fqd w.params p ((n + k).fmod p) (t 0 0) (t 0 1) (t 0 2) (t 0 3)) :: news))
    (hl : foundL n k j p r1 r2 r3 r4 = dl) (i : Int) (h0 : 0 ≤ i) (h16 : i < 0 + ((16 : Nat) : Int)) :
    (z i.toNat, instObj 333 (d i.toNat)) ∈ ((D, W.listOf #[Value.ref (z 0), Value.ref (z 1), Value.ref (z 2), Value.ref (z 3), Value.ref (z 4), Value.ref (z 5), Value.ref (z 6), Value.ref (z 7), Value.ref (z 8), Value.ref (z 9), Value.ref (z 10), Value.ref (z 11), Value.ref (z 12), Value.ref (z 13), Value.ref (z 14), Value.ref (z 15)] 0) :: ((z 15), instObj 333 (d 15)) :: ((d 15), fqd w.params p ((0 : Int).fmod p) (t 15 0) (t 15 1) (t 15 2) (t 15 3)) :: ((z 14), instObj 333 (d 14)) :: ((d 14), fqd w.params p ((1 : Int).fmod p) (t 14 0) (t 14 1) (t 14 2) (t 14 3)) :: ((z 13), instObj 333 (d 13)) :: ((d 13), fqd w.params p (r4) (t 13 0) (t 13 1) (t 13 2) (t 13 3)) :: ((z 12), instObj 333 (d 12)) :: ((d 12), fqd w.params p ((-n).fmod p) (t 12 0) (t 12 1) (t 12 2) (t 12 3)) :: ((z 11), instObj 333 (d 11)) :: ((d 11), fqd w.params p ((r3 * j).fmod p) (t 11 0) (t 11 1) (t 11 2) (t 11 3)) :: ((z 10), instObj 333 (d 10)) :: ((d 10), fqd w.params p ((n * r2).fmod p) (t 10 0) (t 10 1) (t 10 2) (t 10 3)) :: ((z 9), instObj 333 (d 9)) :: ((d 9), fqd w.params p ((n * j).fmod p) (t 9 0) (t 9 1) (t 9 2) (t 9 3)) :: ((z 8), instObj 333 (d 8)) :: ((d 8), fqd w.params p ((n * j).fmod p) (t 8 0) (t 8 1) (t 8 2) (t 8 3)) :: ((z 7), instObj 333 (d 7)) :: ((d 7), fqd w.params p ((j - n).fmod p) (t 7 0) (t 7 1) (t 7 2) (t 7 3)) :: ((z 6), instObj 333 (d 6)) :: ((d 6), fqd w.params p ((n - j).fmod p) (t 6 0) (t 6 1) (t 6 2) (t 6 3)) :: ((z 5), instObj 333 (d 5)) :: ((d 5), fqd w.params p ((n + j).fmod p) (t 5 0) (t 5 1) (t 5 2) (t 5 3)) :: ((z 4), instObj 333 (d 4)) :: ((d 4), fqd w.params p ((n + j).fmod p) (t 4 0) (t 4 1) (t 4 2) (t 4 3)) :: ((z 3), instObj 333 (d 3)) :: ((d 3), fqd w.params p ((n * r1).fmod p) (t 3 0) (t 3 1) (t 3 2) (t 3 3)) :: ((z 2), instObj 333 (d 2)) :: ((d 2), fqd w.params p ((n * k).fmod p) (t 2 0) (t 2 1) (t 2 2) (t 2 3)) :: ((z 1), instObj 333 (d 1)) :: ((d 1), fqd w.params p ((n - k).fmod p) (t 1 0) (t 1 1) (t 1 2) (t 1 3)) :: ((z 0), instObj 333 (d 0)) :: ((d 0), fqd w.params p ((n + k).fmod p) (t 0 0) (t 0 1) (t 0 2) (t 0 3)) :: news) ∧ (d i.toNat, fqd w.params p (dl.getD i.toNat 0) (t i.toNat 0) (t i.toNat 1) (t i.toNat 2) (t i.toNat 3)) ∈ ((D, W.listOf #[Value.ref (z 0), Value.ref (z 1), Value.ref (z 2), Value.ref (z 3), Value.ref (z 4), Value.ref (z 5), Value.ref (z 6), Value.ref (z 7), Value.ref (z 8), Value.ref (z 9), Value.ref (z 10), Value.ref (z 11), Value.ref (z 12), Value.ref (z 13), Value.ref (z 14), Value.ref (z 15)] 0) :: ((z 15), instObj 333 (d 15)) :: ((d 15), fqd w.params p ((0 : Int).fmod p) (t 15 0) (t 15 1) (t 15 2) (t 15 3)) :: ((z 14), instObj 333 (d 14)) :: ((d 14), fqd w.params p ((1 : Int).fmod p) (t 14 0) (t 14 1) (t 14 2) (t 14 3)) :: ((z 13), instObj 333 (d 13)) :: ((d 13), fqd w.params p (r4) (t 13 0) (t 13 1) (t 13 2) (t 13 3)) :: ((z 12), instObj 333 (d 12)) :: ((d 12), fqd w.params p ((-n).fmod p) (t 12 0) (t 12 1) (t 12 2) (t 12 3)) :: ((z 11), instObj 333 (d 11)) :: ((d 11), fqd w.params p ((r3 * j).fmod p) (t 11 0) (t 11 1) (t 11 2) (t 11 3)) :: ((z 10), instObj 333 (d 10)) :: ((d 10), fqd w.params p ((n * r2).fmod p) (t 10 0) (t 10 1) (t 10 2) (t 10 3)) :: ((z 9), instObj 333 (d 9)) :: ((d 9), fqd w.params p ((n * j).fmod p) (t 9 0) (t 9 1) (t 9 2) (t 9 3)) :: ((z 8), instObj 333 (d 8)) :: ((d 8), fqd w.params p ((n * j).fmod p) (t 8 0) (t 8 1) (t 8 2) (t 8 3)) :: ((z 7), instObj 333 (d 7)) :: ((d 7), fqd w.params p ((j - n).fmod p) (t 7 0) (t 7 1) (t 7 2) (t 7 3)) :: ((z 6), instObj 333 (d 6)) :: ((d 6), fqd w.params p ((n - j).fmod p) (t 6 0) (t 6 1) (t 6 2) (t 6 3)) :: ((z 5), instObj 333 (d 5)) :: ((d 5), fqd w.params p ((n + j).fmod p) (t 5 0) (t 5 1) (t 5 2) (t 5 3)) :: ((z 4), instObj 333 (d 4)) :: ((d 4), fqd w.params p ((n + j).fmod p) (t 4 0) (t 4 1) (t 4 2) (t 4 3)) :: ((z 3), instObj 333 (d 3)) :: ((d 3), fqd w.params p ((n * r1).fmod p) (t 3 0) (t 3 1) (t 3 2) (t 3 3)) :: ((z 2), instObj 333 (d 2)) :: ((d 2), fqd w.params p ((n * k).fmod p) (t 2 0) (t 2 1) (t 2 2) (t 2 3)) :: ((z 1), instObj 333 (d 1)) :: ((d 1), fqd w.params p ((n - k).fmod p) (t 1 0) (t 1 1) (t 1 2) (t 1 3)) :: ((z 0), instObj 333 (d 0)) :: ((d 0), fqd w.params p ((n + k).fmod p) (t 0 0) (t 0 1) (t 0 2) (t 0 3)) :: news) ∧ (#[Value.ref (z 0), Value.ref (z 1), Value.ref (z 2), Value.ref (z 3), Value.ref (z 4), Value.ref (z 5), Value.ref (z 6), Value.ref (z 7), Value.ref (z 8), Value.ref (z 9), Value.ref (z 10), Value.ref (z 11), Value.ref (z 12), Value.ref (z 13), Value.ref (z 14), Value.ref (z 15)] : Array Value)[i.toNat]? = some (.ref (z i.toNat)) := by
  subst hl
  generalize hq : i.toNat = q
  have hq' : q < 16 := by omega
  clear hq h0 h16
  match q, hq' with
  | 0, _ => exact ⟨.tail _ (.tail _ (.tail _ (.tail _ (.tail _ (.tail _ (.tail _ (.tail _ (.tail _ (.tail _ (.tail _ (.tail _ (.tail _ (.tail _ (.tail _ (.tail _ (.tail _ (.tail _ (.tail _ (.tail _ (.tail _ (.tail _ (.tail _ (.tail _ (.tail _ (.tail _ (.tail _ (.tail _ (.tail _ (.tail _ (.tail _ (.head _))))))))))))))))))))))))))))))), .tail _ (.tail _ (.tail _ (.tail _ (.tail _ (.tail _ (.tail _ (.tail _ (.tail _ (.tail _ (.tail _ (.tail _ (.tail _ (.tail _ (.tail _ (.tail _ (.tail _ (.tail _ (.tail _ (.tail _ (.tail _ (.tail _ (.tail _ (.tail _ (.tail _ (.tail _ (.tail _ (.tail _ (.tail _ (.tail _ (.tail _ (.tail _ (.head _)))))))))))))))))))))))))))))))), rfl⟩
  | 1, _ => exact ⟨.tail _ (.tail _ (.tail _ (.tail _ (.tail _ (.tail _ (.tail _ (.tail _ (.tail _ (.tail _ (.tail _ (.tail _ (.tail _ (.tail _ (.tail _ (.tail _ (.tail _ (.tail _ (.tail _ (.tail _ (.tail _ (.tail _ (.tail _ (.tail _ (.tail _ (.tail _ (.tail _ (.tail _ (.tail _ (.head _))))))))))))))))))))))))))))), .tail _ (.tail _ (.tail _ (.tail _ (.tail _ (.tail _ (.tail _ (.tail _ (.tail _ (.tail _ (.tail _ (.tail _ (.tail _ (.tail _ (.tail _ (.tail _ (.tail _ (.tail _ (.tail _ (.tail _ (.tail _ (.tail _ (.tail _ (.tail _ (.tail _ (.tail _ (.tail _ (.tail _ (.tail _ (.tail _ (.head _)))))))))))))))))))))))))))))), rfl⟩
  | 2, _ => exact ⟨.tail _ (.tail _ (.tail _ (.tail _ (.tail _ (.tail _ (.tail _ (.tail _ (.tail _ (.tail _ (.tail _ (.tail _ (.tail _ (.tail _ (.tail _ (.tail _ (.tail _ (.tail _ (.tail _ (.tail _ (.tail _ (.tail _ (.tail _ (.tail _ (.tail _ (.tail _ (.tail _ (.head _))))))))))))))))))))))))))), .tail _ (.tail _ (.tail _ (.tail _ (.tail _ (.tail _ (.tail _ (.tail _ (.tail _ (.tail _ (.tail _ (.tail _ (.tail _ (.tail _ (.tail _ (.tail _ (.tail _ (.tail _ (.tail _ (.tail _ (.tail _ (.tail _ (.tail _ (.tail _ (.tail _ (.tail _ (.tail _ (.tail _ (.head _)))))))))))))))))))))))))))), rfl⟩
  | 3, _ => exact ⟨.tail _ (.tail _ (.tail _ (.tail _ (.tail _ (.tail _ (.tail _ (.tail _ (.tail _ (.tail _ (.tail _ (.tail _ (.tail _ (.tail _ (.tail _ (.tail _ (.tail _ (.tail _ (.tail _ (.tail _ (.tail _ (.tail _ (.tail _ (.tail _ (.tail _ (.head _))))))))))))))))))))))))), .tail _ (.tail _ (.tail _ (.tail _ (.tail _ (.tail _ (.tail _ (.tail _ (.tail _ (.tail _ (.tail _ (.tail _ (.tail _ (.tail _ (.tail _ (.tail _ (.tail _ (.tail _ (.tail _ (.tail _ (.tail _ (.tail _ (.tail _ (.tail _ (.tail _ (.tail _ (.head _)))))))))))))))))))))))))), rfl⟩
  | 4, _ => exact ⟨.tail _ (.tail _ (.tail _ (.tail _ (.tail _ (.tail _ (.tail _ (.tail _ (.tail _ (.tail _ (.tail _ (.tail _ (.tail _ (.tail _ (.tail _ (.tail _ (.tail _ (.tail _ (.tail _ (.tail _ (.tail _ (.tail _ (.tail _ (.head _))))))))))))))))))))))), .tail _ (.tail _ (.tail _ (.tail _ (.tail _ (.tail _ (.tail _ (.tail _ (.tail _ (.tail _ (.tail _ (.tail _ (.tail _ (.tail _ (.tail _ (.tail _ (.tail _ (.tail _ (.tail _ (.tail _ (.tail _ (.tail _ (.tail _ (.tail _ (.head _)))))))))))))))))))))))), rfl⟩
  | 5, _ => exact ⟨.tail _ (.tail _ (.tail _ (.tail _ (.tail _ (.tail _ (.tail _ (.tail _ (.tail _ (.tail _ (.tail _ (.tail _ (.tail _ (.tail _ (.tail _ (.tail _ (.tail _ (.tail _ (.tail _ (.tail _ (.tail _ (.head _))))))))))))))))))))), .tail _ (.tail _ (.tail _ (.tail _ (.tail _ (.tail _ (.tail _ (.tail _ (.tail _ (.tail _ (.tail _ (.tail _ (.tail _ (.tail _ (.tail _ (.tail _ (.tail _ (.tail _ (.tail _ (.tail _ (.tail _ (.tail _ (.head _)))))))))))))))))))))), rfl⟩
  | 6, _ => exact ⟨.tail _ (.tail _ (.tail _ (.tail _ (.tail _ (.tail _ (.tail _ (.tail _ (.tail _ (.tail _ (.tail _ (.tail _ (.tail _ (.tail _ (.tail _ (.tail _ (.tail _ (.tail _ (.tail _ (.head _))))))))))))))))))), .tail _ (.tail _ (.tail _ (.tail _ (.tail _ (.tail _ (.tail _ (.tail _ (.tail _ (.tail _ (.tail _ (.tail _ (.tail _ (.tail _ (.tail _ (.tail _ (.tail _ (.tail _ (.tail _ (.tail _ (.head _)))))))))))))))))))), rfl⟩
  | 7, _ => exact ⟨.tail _ (.tail _ (.tail _ (.tail _ (.tail _ (.tail _ (.tail _ (.tail _ (.tail _ (.tail _ (.tail _ (.tail _ (.tail _ (.tail _ (.tail _ (.tail _ (.tail _ (.head _))))))))))))))))), .tail _ (.tail _ (.tail _ (.tail _ (.tail _ (.tail _ (.tail _ (.tail _ (.tail _ (.tail _ (.tail _ (.tail _ (.tail _ (.tail _ (.tail _ (.tail _ (.tail _ (.tail _ (.head _)))))))))))))))))), rfl⟩
  | 8, _ => exact ⟨.tail _ (.tail _ (.tail _ (.tail _ (.tail _ (.tail _ (.tail _ (.tail _ (.tail _ (.tail _ (.tail _ (.tail _ (.tail _ (.tail _ (.tail _ (.head _))))))))))))))), .tail _ (.tail _ (.tail _ (.tail _ (.tail _ (.tail _ (.tail _ (.tail _ (.tail _ (.tail _ (.tail _ (.tail _ (.tail _ (.tail _ (.tail _ (.tail _ (.head _)))))))))))))))), rfl⟩
  | 9, _ => exact ⟨.tail _ (.tail _ (.tail _ (.tail _ (.tail _ (.tail _ (.tail _ (.tail _ (.tail _ (.tail _ (.tail _ (.tail _ (.tail _ (.head _))))))))))))), .tail _ (.tail _ (.tail _ (.tail _ (.tail _ (.tail _ (.tail _ (.tail _ (.tail _ (.tail _ (.tail _ (.tail _ (.tail _ (.tail _ (.head _)))))))))))))), rfl⟩
  | 10, _ => exact ⟨.tail _ (.tail _ (.tail _ (.tail _ (.tail _ (.tail _ (.tail _ (.tail _ (.tail _ (.tail _ (.tail _ (.head _))))))))))), .tail _ (.tail _ (.tail _ (.tail _ (.tail _ (.tail _ (.tail _ (.tail _ (.tail _ (.tail _ (.tail _ (.tail _ (.head _)))))))))))), rfl⟩
  | 11, _ => exact ⟨.tail _ (.tail _ (.tail _ (.tail _ (.tail _ (.tail _ (.tail _ (.tail _ (.tail _ (.head _))))))))), .tail _ (.tail _ (.tail _ (.tail _ (.tail _ (.tail _ (.tail _ (.tail _ (.tail _ (.tail _ (.head _)))))))))), rfl⟩
  | 12, _ => exact ⟨.tail _ (.tail _ (.tail _ (.tail _ (.tail _ (.tail _ (.tail _ (.head _))))))), .tail _ (.tail _ (.tail _ (.tail _ (.tail _ (.tail _ (.tail _ (.tail _ (.head _)))))))), rfl⟩
  | 13, _ => exact ⟨.tail _ (.tail _ (.tail _ (.tail _ (.tail _ (.head _))))), .tail _ (.tail _ (.tail _ (.tail _ (.tail _ (.tail _ (.head _)))))), rfl⟩
  | 14, _ => exact ⟨.tail _ (.tail _ (.tail _ (.head _))), .tail _ (.tail _ (.tail _ (.tail _ (.head _)))), rfl⟩
  | 15, _ => exact ⟨.tail _ (.head _), .tail _ (.tail _ (.head _)), rfl⟩
  | q + 16, h => exact absurd h (by omega)
theorem pick_o {prog : Program} {w : World} {A : Around} {E : Value → Shared → Prop} {s : Shared} {value slice : Expr} {l : Addr} {k p n : Int} {u t1 : Tok} {Q : Value → Shared → Prop} {news : List (Addr × Obj)} {y dy : Addr} {y1 y2 y3 y4 : Tok} {h₀ : Heap} {L : Addr} {nn : Nat} (N : News h₀ L s.heap news) (hm : (l, W.listOf #[.str (Str.ofString "1") t1, .none, .ref y] nn) ∈ news)
    (h0 : 0 ≤ k) (h3 : k < 3) (hy : (y, instObj 333 dy) ∈ news) (hdy : (dy, fqd w.params p n y1 y2 y3 y4) ∈ news) (h : ∀ v tv TV xs, Strange w 186 news v tv TV xs → Q v s)
    (hs : subscripted slice false (.ref l) (.int k u) = operate [.ref l, .int k u] (getItem (.ref l) (.int k u)) := by with_unfolding_all rfl) :
    wpAny (model prog w) A (subscriptTail value slice (.ref l) (.int k u)) Q E s := by
  have hl := News.isList N hm
  have h4 : k = 0 ∨ k = 1 ∨ k = 2 := by omega
  rcases h4 with rfl | rfl | rfl
  · exact item_listR hl (by decide) (by decide) (x := .str (Str.ofString "1") t1) rfl (h _ _ _ _ strange_str_o) hs
  · exact item_listR hl (by decide) (by decide) (x := .none) rfl (h _ _ _ _ strange_none_o) hs
  · exact item_listR hl (by decide) (by decide) (x := .ref y) rfl (h _ _ _ _ (strange_fq_o hy hdy)) hs
theorem pick_f {prog : Program} {w : World} {A : Around} {E : Value → Shared → Prop} {s : Shared} {value slice : Expr} {l : Addr} {k p n : Int} {u t1 : Tok} {Q : Value → Shared → Prop} {news : List (Addr × Obj)} {y dy : Addr} {y1 y2 y3 y4 : Tok} {h₀ : Heap} {L : Addr} {nn : Nat} (N : News h₀ L s.heap news) (hm : (l, W.listOf #[.str (Str.ofString "1") t1, .none, .ref y] nn) ∈ news)
    (h0 : 0 ≤ k) (h3 : k < 3) (hy : (y, instObj 186 dy) ∈ news) (hdy : (dy, fqd w.params p n y1 y2 y3 y4) ∈ news) (h : ∀ v tv TV xs, Strange w 333 news v tv TV xs → Q v s)
    (hs : subscripted slice false (.ref l) (.int k u) = operate [.ref l, .int k u] (getItem (.ref l) (.int k u)) := by with_unfolding_all rfl) :
    wpAny (model prog w) A (subscriptTail value slice (.ref l) (.int k u)) Q E s := by
  have hl := News.isList N hm
  have h4 : k = 0 ∨ k = 1 ∨ k = 2 := by omega
  rcases h4 with rfl | rfl | rfl
  · exact item_listR hl (by decide) (by decide) (x := .str (Str.ofString "1") t1) rfl (h _ _ _ _ strange_str_f) hs
  · exact item_listR hl (by decide) (by decide) (x := .none) rfl (h _ _ _ _ strange_none_f) hs
  · exact item_listR hl (by decide) (by decide) (x := .ref y) rfl (h _ _ _ _ (strange_fq_f hy hdy)) hs
end
/-! part C3f -/
set_option maxHeartbeats 8000000 in
theorem add_ff_f {w : World} {mean : ExcName → Option Value} {mg mb : Str → Option Value} {dp un : Nat} {gd : Option (List Code)} {cn : Str} {cs : Scope} {L a : Addr} {ccd : Value} {cl : List (Str × Addr)} {outer : List Env} {A₀ : Around} {base h₀ : Heap}
    {m : Str → Option Value} {news : List (Addr × Obj)} {s : Shared} {Q E : Value → Shared → Prop} (B : Below A₀ base outer h₀) (F : Fr h₀ L s.heap m) (X : (hd.heap_39 w.params).In h₀) (N : News h₀ L s.heap news) (T : Top view (looseW view loose) mean mg mb h₀) (hk : cs.kind = .function)
    {p : Int} {x dx : Addr} {n : Int} {x1 x2 x3 x4 : Tok} (hx : (x, instObj 333 dx) ∈ news) (hdx : (dx, fqd w.params p n x1 x2 x3 x4) ∈ news) {y dy : Addr} {k : Int} {y1 y2 y3 y4 : Tok} (hy : (y, instObj 333 dy) ∈ news) (hdy : (dy, fqd w.params p k y1 y2 y3 y4) ∈ news) (hm : Mod p)  (hd : dp + 8 < recursionLimit) (hu : un + 40 < cLine)
    (ret : ∀ z dz t1 t2 t3 t4 h' tk', Fr h₀ L h' m → News h₀ L h' ((z, instObj 333 dz) :: (dz, fqd w.params p ((n + k).fmod p) t1 t2 t3 t4) :: news) → (∀ q ∈ news, q.1 < dz) → dz < z → Q (.ref z) { s with heap := h', toks := tk' }) :
    wpAny (model PySem.Challenge.rw_lh0031_01.row.prog w) (ktrTop dp un gd cn cs L a ccd cl outer) (call (.ref 211) [.ref x, .ref y]) Q E s := by
  revert X; k_fill; intro X
  have hp : 0 < p := by have := hm.1; omega
  refine wpAny_call ?_
  k_dflt ktr_enter
  k_steps
  exact ret _ _ _ _ _ _ _ _ (by assumption) (by assumption) (by assumption) (by assumption)
set_option maxHeartbeats 8000000 in
theorem add_fi_f {w : World} {mean : ExcName → Option Value} {mg mb : Str → Option Value} {dp un : Nat} {gd : Option (List Code)} {cn : Str} {cs : Scope} {L a : Addr} {ccd : Value} {cl : List (Str × Addr)} {outer : List Env} {A₀ : Around} {base h₀ : Heap}
    {m : Str → Option Value} {news : List (Addr × Obj)} {s : Shared} {Q E : Value → Shared → Prop} (B : Below A₀ base outer h₀) (F : Fr h₀ L s.heap m) (X : (hd.heap_39 w.params).In h₀) (N : News h₀ L s.heap news) (T : Top view (looseW view loose) mean mg mb h₀) (hk : cs.kind = .function)
    {p : Int} {x dx : Addr} {n : Int} {x1 x2 x3 x4 : Tok} (hx : (x, instObj 333 dx) ∈ news) (hdx : (dx, fqd w.params p n x1 x2 x3 x4) ∈ news) {k : Int} {tk0 : Tok} (hm : Mod p)  (hd : dp + 8 < recursionLimit) (hu : un + 40 < cLine)
    (ret : ∀ z dz t1 t2 t3 t4 h' tk', Fr h₀ L h' m → News h₀ L h' ((z, instObj 333 dz) :: (dz, fqd w.params p ((n + k).fmod p) t1 t2 t3 t4) :: news) → (∀ q ∈ news, q.1 < dz) → dz < z → Q (.ref z) { s with heap := h', toks := tk' }) :
    wpAny (model PySem.Challenge.rw_lh0031_01.row.prog w) (ktrTop dp un gd cn cs L a ccd cl outer) (call (.ref 211) [.ref x, .int k tk0]) Q E s := by
  revert X; k_fill; intro X
  have hp : 0 < p := by have := hm.1; omega
  refine wpAny_call ?_
  k_dflt ktr_enter
  k_steps
  exact ret _ _ _ _ _ _ _ _ (by assumption) (by assumption) (by assumption) (by assumption)
set_option maxHeartbeats 8000000 in
theorem sub_ff_f {w : World} {mean : ExcName → Option Value} {mg mb : Str → Option Value} {dp un : Nat} {gd : Option (List Code)} {cn : Str} {cs : Scope} {L a : Addr} {ccd : Value} {cl : List (Str × Addr)} {outer : List Env} {A₀ : Around} {base h₀ : Heap}
    {m : Str → Option Value} {news : List (Addr × Obj)} {s : Shared} {Q E : Value → Shared → Prop} (B : Below A₀ base outer h₀) (F : Fr h₀ L s.heap m) (X : (hd.heap_39 w.params).In h₀) (N : News h₀ L s.heap news) (T : Top view (looseW view loose) mean mg mb h₀) (hk : cs.kind = .function)
    {p : Int} {x dx : Addr} {n : Int} {x1 x2 x3 x4 : Tok} (hx : (x, instObj 333 dx) ∈ news) (hdx : (dx, fqd w.params p n x1 x2 x3 x4) ∈ news) {y dy : Addr} {k : Int} {y1 y2 y3 y4 : Tok} (hy : (y, instObj 333 dy) ∈ news) (hdy : (dy, fqd w.params p k y1 y2 y3 y4) ∈ news) (hm : Mod p)  (hd : dp + 8 < recursionLimit) (hu : un + 40 < cLine)
    (ret : ∀ z dz t1 t2 t3 t4 h' tk', Fr h₀ L h' m → News h₀ L h' ((z, instObj 333 dz) :: (dz, fqd w.params p ((n - k).fmod p) t1 t2 t3 t4) :: news) → (∀ q ∈ news, q.1 < dz) → dz < z → Q (.ref z) { s with heap := h', toks := tk' }) :
    wpAny (model PySem.Challenge.rw_lh0031_01.row.prog w) (ktrTop dp un gd cn cs L a ccd cl outer) (call (.ref 246) [.ref x, .ref y]) Q E s := by
  revert X; k_fill; intro X
  have hp : 0 < p := by have := hm.1; omega
  refine wpAny_call ?_
  k_dflt ktr_enter
  k_steps
  exact ret _ _ _ _ _ _ _ _ (by assumption) (by assumption) (by assumption) (by assumption)
set_option maxHeartbeats 8000000 in
theorem sub_fi_f {w : World} {mean : ExcName → Option Value} {mg mb : Str → Option Value} {dp un : Nat} {gd : Option (List Code)} {cn : Str} {cs : Scope} {L a : Addr} {ccd : Value} {cl : List (Str × Addr)} {outer : List Env} {A₀ : Around} {base h₀ : Heap}
    {m : Str → Option Value} {news : List (Addr × Obj)} {s : Shared} {Q E : Value → Shared → Prop} (B : Below A₀ base outer h₀) (F : Fr h₀ L s.heap m) (X : (hd.heap_39 w.params).In h₀) (N : News h₀ L s.heap news) (T : Top view (looseW view loose) mean mg mb h₀) (hk : cs.kind = .function)
    {p : Int} {x dx : Addr} {n : Int} {x1 x2 x3 x4 : Tok} (hx : (x, instObj 333 dx) ∈ news) (hdx : (dx, fqd w.params p n x1 x2 x3 x4) ∈ news) {k : Int} {tk0 : Tok} (hm : Mod p)  (hd : dp + 8 < recursionLimit) (hu : un + 40 < cLine)
    (ret : ∀ z dz t1 t2 t3 t4 h' tk', Fr h₀ L h' m → News h₀ L h' ((z, instObj 333 dz) :: (dz, fqd w.params p ((n - k).fmod p) t1 t2 t3 t4) :: news) → (∀ q ∈ news, q.1 < dz) → dz < z → Q (.ref z) { s with heap := h', toks := tk' }) :
    wpAny (model PySem.Challenge.rw_lh0031_01.row.prog w) (ktrTop dp un gd cn cs L a ccd cl outer) (call (.ref 246) [.ref x, .int k tk0]) Q E s := by
  revert X; k_fill; intro X
  have hp : 0 < p := by have := hm.1; omega
  refine wpAny_call ?_
  k_dflt ktr_enter
  k_steps
  exact ret _ _ _ _ _ _ _ _ (by assumption) (by assumption) (by assumption) (by assumption)
set_option maxHeartbeats 8000000 in
theorem rsub_fi_f {w : World} {mean : ExcName → Option Value} {mg mb : Str → Option Value} {dp un : Nat} {gd : Option (List Code)} {cn : Str} {cs : Scope} {L a : Addr} {ccd : Value} {cl : List (Str × Addr)} {outer : List Env} {A₀ : Around} {base h₀ : Heap}
    {m : Str → Option Value} {news : List (Addr × Obj)} {s : Shared} {Q E : Value → Shared → Prop} (B : Below A₀ base outer h₀) (F : Fr h₀ L s.heap m) (X : (hd.heap_39 w.params).In h₀) (N : News h₀ L s.heap news) (T : Top view (looseW view loose) mean mg mb h₀) (hk : cs.kind = .function)
    {p : Int} {x dx : Addr} {n : Int} {x1 x2 x3 x4 : Tok} (hx : (x, instObj 333 dx) ∈ news) (hdx : (dx, fqd w.params p n x1 x2 x3 x4) ∈ news) {k : Int} {tk0 : Tok} (hm : Mod p)  (hd : dp + 8 < recursionLimit) (hu : un + 40 < cLine)
    (ret : ∀ z dz t1 t2 t3 t4 h' tk', Fr h₀ L h' m → News h₀ L h' ((z, instObj 333 dz) :: (dz, fqd w.params p ((k - n).fmod p) t1 t2 t3 t4) :: news) → (∀ q ∈ news, q.1 < dz) → dz < z → Q (.ref z) { s with heap := h', toks := tk' }) :
    wpAny (model PySem.Challenge.rw_lh0031_01.row.prog w) (ktrTop dp un gd cn cs L a ccd cl outer) (call (.ref 239) [.ref x, .int k tk0]) Q E s := by
  revert X; k_fill; intro X
  have hp : 0 < p := by have := hm.1; omega
  refine wpAny_call ?_
  k_dflt ktr_enter
  k_steps
  exact ret _ _ _ _ _ _ _ _ (by assumption) (by assumption) (by assumption) (by assumption)
set_option maxHeartbeats 8000000 in
theorem mul_ff_f {w : World} {mean : ExcName → Option Value} {mg mb : Str → Option Value} {dp un : Nat} {gd : Option (List Code)} {cn : Str} {cs : Scope} {L a : Addr} {ccd : Value} {cl : List (Str × Addr)} {outer : List Env} {A₀ : Around} {base h₀ : Heap}
    {m : Str → Option Value} {news : List (Addr × Obj)} {s : Shared} {Q E : Value → Shared → Prop} (B : Below A₀ base outer h₀) (F : Fr h₀ L s.heap m) (X : (hd.heap_39 w.params).In h₀) (N : News h₀ L s.heap news) (T : Top view (looseW view loose) mean mg mb h₀) (hk : cs.kind = .function)
    {p : Int} {x dx : Addr} {n : Int} {x1 x2 x3 x4 : Tok} (hx : (x, instObj 333 dx) ∈ news) (hdx : (dx, fqd w.params p n x1 x2 x3 x4) ∈ news) {y dy : Addr} {k : Int} {y1 y2 y3 y4 : Tok} (hy : (y, instObj 333 dy) ∈ news) (hdy : (dy, fqd w.params p k y1 y2 y3 y4) ∈ news) (hm : Mod p) (sn : Sm n) (sk : Sm k) (hd : dp + 8 < recursionLimit) (hu : un + 40 < cLine)
    (ret : ∀ z dz t1 t2 t3 t4 h' tk', Fr h₀ L h' m → News h₀ L h' ((z, instObj 333 dz) :: (dz, fqd w.params p ((n * k).fmod p) t1 t2 t3 t4) :: news) → (∀ q ∈ news, q.1 < dz) → dz < z → Q (.ref z) { s with heap := h', toks := tk' }) :
    wpAny (model PySem.Challenge.rw_lh0031_01.row.prog w) (ktrTop dp un gd cn cs L a ccd cl outer) (call (.ref 218) [.ref x, .ref y]) Q E s := by
  revert X; k_fill; intro X
  have hp : 0 < p := by have := hm.1; omega
  refine wpAny_call ?_
  k_dflt ktr_enter
  k_steps
  exact ret _ _ _ _ _ _ _ _ (by assumption) (by assumption) (by assumption) (by assumption)
set_option maxHeartbeats 8000000 in
theorem mul_fi_f {w : World} {mean : ExcName → Option Value} {mg mb : Str → Option Value} {dp un : Nat} {gd : Option (List Code)} {cn : Str} {cs : Scope} {L a : Addr} {ccd : Value} {cl : List (Str × Addr)} {outer : List Env} {A₀ : Around} {base h₀ : Heap}
    {m : Str → Option Value} {news : List (Addr × Obj)} {s : Shared} {Q E : Value → Shared → Prop} (B : Below A₀ base outer h₀) (F : Fr h₀ L s.heap m) (X : (hd.heap_39 w.params).In h₀) (N : News h₀ L s.heap news) (T : Top view (looseW view loose) mean mg mb h₀) (hk : cs.kind = .function)
    {p : Int} {x dx : Addr} {n : Int} {x1 x2 x3 x4 : Tok} (hx : (x, instObj 333 dx) ∈ news) (hdx : (dx, fqd w.params p n x1 x2 x3 x4) ∈ news) {k : Int} {tk0 : Tok} (hm : Mod p) (sn : Sm n) (sk : Sm k) (hd : dp + 8 < recursionLimit) (hu : un + 40 < cLine)
    (ret : ∀ z dz t1 t2 t3 t4 h' tk', Fr h₀ L h' m → News h₀ L h' ((z, instObj 333 dz) :: (dz, fqd w.params p ((n * k).fmod p) t1 t2 t3 t4) :: news) → (∀ q ∈ news, q.1 < dz) → dz < z → Q (.ref z) { s with heap := h', toks := tk' }) :
    wpAny (model PySem.Challenge.rw_lh0031_01.row.prog w) (ktrTop dp un gd cn cs L a ccd cl outer) (call (.ref 218) [.ref x, .int k tk0]) Q E s := by
  revert X; k_fill; intro X
  have hp : 0 < p := by have := hm.1; omega
  refine wpAny_call ?_
  k_dflt ktr_enter
  k_steps
  exact ret _ _ _ _ _ _ _ _ (by assumption) (by assumption) (by assumption) (by assumption)
set_option maxHeartbeats 8000000 in
theorem div_ff_f {w : World} {mean : ExcName → Option Value} {mg mb : Str → Option Value} {dp un : Nat} {gd : Option (List Code)} {cn : Str} {cs : Scope} {L a : Addr} {ccd : Value} {cl : List (Str × Addr)} {outer : List Env} {A₀ : Around} {base h₀ : Heap}
    {m : Str → Option Value} {news : List (Addr × Obj)} {s : Shared} {Q E : Value → Shared → Prop} (B : Below A₀ base outer h₀) (F : Fr h₀ L s.heap m) (X : (hd.heap_39 w.params).In h₀) (N : News h₀ L s.heap news) (T : Top view (looseW view loose) mean mg mb h₀) (hk : cs.kind = .function)
    {p : Int} {x dx : Addr} {n : Int} {x1 x2 x3 x4 : Tok} (hx : (x, instObj 333 dx) ∈ news) (hdx : (dx, fqd w.params p n x1 x2 x3 x4) ∈ news) {y dy : Addr} {k : Int} {y1 y2 y3 y4 : Tok} (hy : (y, instObj 333 dy) ∈ news) (hdy : (dy, fqd w.params p k y1 y2 y3 y4) ∈ news) (hm : Mod p) (sn : Sm n) (hd : dp + 8 < recursionLimit) (hu : un + 40 < cLine)
    (ret : ∀ r z dz t1 t2 t3 t4 h' tk', IsInv p k r → Fr h₀ L h' m → News h₀ L h' ((z, instObj 333 dz) :: (dz, fqd w.params p ((n * r).fmod p) t1 t2 t3 t4) :: news) → (∀ q ∈ news, q.1 < dz) → dz < z → Q (.ref z) { s with heap := h', toks := tk' }) :
    wpAny (model PySem.Challenge.rw_lh0031_01.row.prog w) (ktrTop dp un gd cn cs L a ccd cl outer) (call (.ref 253) [.ref x, .ref y]) Q E s := by
  revert X; k_fill; intro X
  have hp : 0 < p := by have := hm.1; omega
  refine wpAny_call ?_
  k_dflt ktr_enter
  k_steps
  exact ret _ _ _ _ _ _ _ _ _ (by assumption) (by assumption) (by assumption) (by assumption) (by assumption)
set_option maxHeartbeats 8000000 in
theorem div_fi_f {w : World} {mean : ExcName → Option Value} {mg mb : Str → Option Value} {dp un : Nat} {gd : Option (List Code)} {cn : Str} {cs : Scope} {L a : Addr} {ccd : Value} {cl : List (Str × Addr)} {outer : List Env} {A₀ : Around} {base h₀ : Heap}
    {m : Str → Option Value} {news : List (Addr × Obj)} {s : Shared} {Q E : Value → Shared → Prop} (B : Below A₀ base outer h₀) (F : Fr h₀ L s.heap m) (X : (hd.heap_39 w.params).In h₀) (N : News h₀ L s.heap news) (T : Top view (looseW view loose) mean mg mb h₀) (hk : cs.kind = .function)
    {p : Int} {x dx : Addr} {n : Int} {x1 x2 x3 x4 : Tok} (hx : (x, instObj 333 dx) ∈ news) (hdx : (dx, fqd w.params p n x1 x2 x3 x4) ∈ news) {k : Int} {tk0 : Tok} (hm : Mod p) (sn : Sm n) (hd : dp + 8 < recursionLimit) (hu : un + 40 < cLine)
    (ret : ∀ r z dz t1 t2 t3 t4 h' tk', IsInv p k r → Fr h₀ L h' m → News h₀ L h' ((z, instObj 333 dz) :: (dz, fqd w.params p ((n * r).fmod p) t1 t2 t3 t4) :: news) → (∀ q ∈ news, q.1 < dz) → dz < z → Q (.ref z) { s with heap := h', toks := tk' }) :
    wpAny (model PySem.Challenge.rw_lh0031_01.row.prog w) (ktrTop dp un gd cn cs L a ccd cl outer) (call (.ref 253) [.ref x, .int k tk0]) Q E s := by
  revert X; k_fill; intro X
  have hp : 0 < p := by have := hm.1; omega
  refine wpAny_call ?_
  k_dflt ktr_enter
  k_steps
  exact ret _ _ _ _ _ _ _ _ _ (by assumption) (by assumption) (by assumption) (by assumption) (by assumption)
set_option maxHeartbeats 8000000 in
theorem rdiv_fi_f {w : World} {mean : ExcName → Option Value} {mg mb : Str → Option Value} {dp un : Nat} {gd : Option (List Code)} {cn : Str} {cs : Scope} {L a : Addr} {ccd : Value} {cl : List (Str × Addr)} {outer : List Env} {A₀ : Around} {base h₀ : Heap}
    {m : Str → Option Value} {news : List (Addr × Obj)} {s : Shared} {Q E : Value → Shared → Prop} (B : Below A₀ base outer h₀) (F : Fr h₀ L s.heap m) (X : (hd.heap_39 w.params).In h₀) (N : News h₀ L s.heap news) (T : Top view (looseW view loose) mean mg mb h₀) (hk : cs.kind = .function)
    {p : Int} {x dx : Addr} {n : Int} {x1 x2 x3 x4 : Tok} (hx : (x, instObj 333 dx) ∈ news) (hdx : (dx, fqd w.params p n x1 x2 x3 x4) ∈ news) {k : Int} {tk0 : Tok} (hm : Mod p) (sk : Sm k) (hd : dp + 8 < recursionLimit) (hu : un + 40 < cLine)
    (ret : ∀ r z dz t1 t2 t3 t4 h' tk', IsInv p n r → Fr h₀ L h' m → News h₀ L h' ((z, instObj 333 dz) :: (dz, fqd w.params p ((r * k).fmod p) t1 t2 t3 t4) :: news) → (∀ q ∈ news, q.1 < dz) → dz < z → Q (.ref z) { s with heap := h', toks := tk' }) :
    wpAny (model PySem.Challenge.rw_lh0031_01.row.prog w) (ktrTop dp un gd cn cs L a ccd cl outer) (call (.ref 260) [.ref x, .int k tk0]) Q E s := by
  revert X; k_fill; intro X
  have hp : 0 < p := by have := hm.1; omega
  refine wpAny_call ?_
  k_dflt ktr_enter
  k_steps
  exact ret _ _ _ _ _ _ _ _ _ (by assumption) (by assumption) (by assumption) (by assumption) (by assumption)
/-! part C4f -/
local macro_rules | `(tactic| walk_at "call ref") => `(tactic| (k_here; (with_reducible show wpAny _ _ (call (Value.ref 211) [Value.ref _, Value.ref _]) _ _ _); k_dflt (refine' add_ff_f ?k1 ?k2 ?k3 ?k4 ?k5 ?kK ?kx ?kdx ?ky ?kdy ?khm ?kd ?ku ?_; walk_at "my q3"); walk_at "my in"))
local macro_rules | `(tactic| walk_at "call ref") => `(tactic| (k_here; (with_reducible show wpAny _ _ (call (Value.ref 211) [Value.ref _, Value.int _ _]) _ _ _); k_dflt (refine' add_fi_f ?k1 ?k2 ?k3 ?k4 ?k5 ?kK ?kx ?kdx ?khm ?kd ?ku ?_; walk_at "my q4"); walk_at "my in"))
local macro_rules | `(tactic| walk_at "call ref") => `(tactic| (k_here; (with_reducible show wpAny _ _ (call (Value.ref 246) [Value.ref _, Value.ref _]) _ _ _); k_dflt (refine' sub_ff_f ?k1 ?k2 ?k3 ?k4 ?k5 ?kK ?kx ?kdx ?ky ?kdy ?khm ?kd ?ku ?_; walk_at "my q3"); walk_at "my in"))
local macro_rules | `(tactic| walk_at "call ref") => `(tactic| (k_here; (with_reducible show wpAny _ _ (call (Value.ref 246) [Value.ref _, Value.int _ _]) _ _ _); k_dflt (refine' sub_fi_f ?k1 ?k2 ?k3 ?k4 ?k5 ?kK ?kx ?kdx ?khm ?kd ?ku ?_; walk_at "my q4"); walk_at "my in"))
local macro_rules | `(tactic| walk_at "call ref") => `(tactic| (k_here; (with_reducible show wpAny _ _ (call (Value.ref 239) [Value.ref _, Value.int _ _]) _ _ _); k_dflt (refine' rsub_fi_f ?k1 ?k2 ?k3 ?k4 ?k5 ?kK ?kx ?kdx ?khm ?kd ?ku ?_; walk_at "my q4"); walk_at "my in"))
local macro_rules | `(tactic| walk_at "call ref") => `(tactic| (k_here; (with_reducible show wpAny _ _ (call (Value.ref 218) [Value.ref _, Value.ref _]) _ _ _); k_dflt (refine' mul_ff_f ?k1 ?k2 ?k3 ?k4 ?k5 ?kK ?kx ?kdx ?ky ?kdy ?khm ?sn ?sk ?kd ?ku ?_; walk_at "my q5"); walk_at "my in"))
local macro_rules | `(tactic| walk_at "call ref") => `(tactic| (k_here; (with_reducible show wpAny _ _ (call (Value.ref 218) [Value.ref _, Value.int _ _]) _ _ _); k_dflt (refine' mul_fi_f ?k1 ?k2 ?k3 ?k4 ?k5 ?kK ?kx ?kdx ?khm ?sn ?sk ?kd ?ku ?_; walk_at "my q6"); walk_at "my in"))
local macro_rules | `(tactic| walk_at "call ref") => `(tactic| (k_here; (with_reducible show wpAny _ _ (call (Value.ref 253) [Value.ref _, Value.ref _]) _ _ _); k_dflt (refine' div_ff_f ?k1 ?k2 ?k3 ?k4 ?k5 ?kK ?kx ?kdx ?ky ?kdy ?khm ?sn ?kd ?ku ?_; walk_at "my q7"); walk_at "my in2"))
local macro_rules | `(tactic| walk_at "call ref") => `(tactic| (k_here; (with_reducible show wpAny _ _ (call (Value.ref 253) [Value.ref _, Value.int _ _]) _ _ _); k_dflt (refine' div_fi_f ?k1 ?k2 ?k3 ?k4 ?k5 ?kK ?kx ?kdx ?khm ?sn ?kd ?ku ?_; walk_at "my q8"); walk_at "my in2"))
local macro_rules | `(tactic| walk_at "call ref") => `(tactic| (k_here; (with_reducible show wpAny _ _ (call (Value.ref 260) [Value.ref _, Value.int _ _]) _ _ _); k_dflt (refine' rdiv_fi_f ?k1 ?k2 ?k3 ?k4 ?k5 ?kK ?kx ?kdx ?khm ?sk ?kd ?ku ?_; walk_at "my q9"); walk_at "my in2"))
set_option maxHeartbeats 8000000 in
theorem radd_fi_f {w : World} {mean : ExcName → Option Value} {mg mb : Str → Option Value} {dp un : Nat} {gd : Option (List Code)} {cn : Str} {cs : Scope} {L a : Addr} {ccd : Value} {cl : List (Str × Addr)} {outer : List Env} {A₀ : Around} {base h₀ : Heap}
    {m : Str → Option Value} {news : List (Addr × Obj)} {s : Shared} {Q E : Value → Shared → Prop} (B : Below A₀ base outer h₀) (F : Fr h₀ L s.heap m) (X : (hd.heap_39 w.params).In h₀) (N : News h₀ L s.heap news) (T : Top view (looseW view loose) mean mg mb h₀) (hk : cs.kind = .function)
    {p : Int} {x dx : Addr} {n : Int} {x1 x2 x3 x4 : Tok} (hx : (x, instObj 333 dx) ∈ news) (hdx : (dx, fqd w.params p n x1 x2 x3 x4) ∈ news) {k : Int} {tk0 : Tok} (hm : Mod p)  (hd : dp + 12 < recursionLimit) (hu : un + 80 < cLine)
    (ret : ∀ z dz t1 t2 t3 t4 h' tk', Fr h₀ L h' m → News h₀ L h' ((z, instObj 333 dz) :: (dz, fqd w.params p ((n + k).fmod p) t1 t2 t3 t4) :: news) → (∀ q ∈ news, q.1 < dz) → dz < z → Q (.ref z) { s with heap := h', toks := tk' }) :
    wpAny (model PySem.Challenge.rw_lh0031_01.row.prog w) (ktrTop dp un gd cn cs L a ccd cl outer) (call (.ref 232) [.ref x, .int k tk0]) Q E s := by
  revert X; k_fill; intro X
  have hp : 0 < p := by have := hm.1; omega
  refine wpAny_call ?_
  k_dflt ktr_enter
  k_steps
  exact ret _ _ _ _ _ _ _ _ (by assumption) (by assumption) (by assumption) (by assumption)
set_option maxHeartbeats 8000000 in
theorem rmul_fi_f {w : World} {mean : ExcName → Option Value} {mg mb : Str → Option Value} {dp un : Nat} {gd : Option (List Code)} {cn : Str} {cs : Scope} {L a : Addr} {ccd : Value} {cl : List (Str × Addr)} {outer : List Env} {A₀ : Around} {base h₀ : Heap}
    {m : Str → Option Value} {news : List (Addr × Obj)} {s : Shared} {Q E : Value → Shared → Prop} (B : Below A₀ base outer h₀) (F : Fr h₀ L s.heap m) (X : (hd.heap_39 w.params).In h₀) (N : News h₀ L s.heap news) (T : Top view (looseW view loose) mean mg mb h₀) (hk : cs.kind = .function)
    {p : Int} {x dx : Addr} {n : Int} {x1 x2 x3 x4 : Tok} (hx : (x, instObj 333 dx) ∈ news) (hdx : (dx, fqd w.params p n x1 x2 x3 x4) ∈ news) {k : Int} {tk0 : Tok} (hm : Mod p) (sn : Sm n) (sk : Sm k) (hd : dp + 12 < recursionLimit) (hu : un + 80 < cLine)
    (ret : ∀ z dz t1 t2 t3 t4 h' tk', Fr h₀ L h' m → News h₀ L h' ((z, instObj 333 dz) :: (dz, fqd w.params p ((n * k).fmod p) t1 t2 t3 t4) :: news) → (∀ q ∈ news, q.1 < dz) → dz < z → Q (.ref z) { s with heap := h', toks := tk' }) :
    wpAny (model PySem.Challenge.rw_lh0031_01.row.prog w) (ktrTop dp un gd cn cs L a ccd cl outer) (call (.ref 225) [.ref x, .int k tk0]) Q E s := by
  revert X; k_fill; intro X
  have hp : 0 < p := by have := hm.1; omega
  refine wpAny_call ?_
  k_dflt ktr_enter
  k_steps
  exact ret _ _ _ _ _ _ _ _ (by assumption) (by assumption) (by assumption) (by assumption)
set_option maxHeartbeats 8000000 in
theorem neg_f_f {w : World} {mean : ExcName → Option Value} {mg mb : Str → Option Value} {dp un : Nat} {gd : Option (List Code)} {cn : Str} {cs : Scope} {L a : Addr} {ccd : Value} {cl : List (Str × Addr)} {outer : List Env} {A₀ : Around} {base h₀ : Heap}
    {m : Str → Option Value} {news : List (Addr × Obj)} {s : Shared} {Q E : Value → Shared → Prop} (B : Below A₀ base outer h₀) (F : Fr h₀ L s.heap m) (X : (hd.heap_39 w.params).In h₀) (N : News h₀ L s.heap news) (T : Top view (looseW view loose) mean mg mb h₀) (hk : cs.kind = .function)
    {p : Int} {x dx : Addr} {n : Int} {x1 x2 x3 x4 : Tok} (hx : (x, instObj 333 dx) ∈ news) (hdx : (dx, fqd w.params p n x1 x2 x3 x4) ∈ news) (hm : Mod p)  (hd : dp + 12 < recursionLimit) (hu : un + 80 < cLine)
    (ret : ∀ z dz t1 t2 t3 t4 h' tk', Fr h₀ L h' m → News h₀ L h' ((z, instObj 333 dz) :: (dz, fqd w.params p ((-n).fmod p) t1 t2 t3 t4) :: news) → (∀ q ∈ news, q.1 < dz) → dz < z → Q (.ref z) { s with heap := h', toks := tk' }) :
    wpAny (model PySem.Challenge.rw_lh0031_01.row.prog w) (ktrTop dp un gd cn cs L a ccd cl outer) (call (.ref 288) [.ref x]) Q E s := by
  revert X; k_fill; intro X
  have hp : 0 < p := by have := hm.1; omega
  refine wpAny_call ?_
  k_dflt ktr_enter
  k_steps
  exact ret _ _ _ _ _ _ _ _ (by assumption) (by assumption) (by assumption) (by assumption)
set_option maxHeartbeats 8000000 in
theorem one_f_f {w : World} {mean : ExcName → Option Value} {mg mb : Str → Option Value} {dp un : Nat} {gd : Option (List Code)} {cn : Str} {cs : Scope} {L a : Addr} {ccd : Value} {cl : List (Str × Addr)} {outer : List Env} {A₀ : Around} {base h₀ : Heap}
    {m : Str → Option Value} {news : List (Addr × Obj)} {s : Shared} {Q E : Value → Shared → Prop} (B : Below A₀ base outer h₀) (F : Fr h₀ L s.heap m) (X : (hd.heap_39 w.params).In h₀) (N : News h₀ L s.heap news) (T : Top view (looseW view loose) mean mg mb h₀) (hk : cs.kind = .function)
    {p : Int} {x dx : Addr} {n : Int} {x1 x2 x3 x4 : Tok} (hx : (x, instObj 333 dx) ∈ news) (hdx : (dx, fqd w.params p n x1 x2 x3 x4) ∈ news) (hm : Mod p)  (hd : dp + 12 < recursionLimit) (hu : un + 80 < cLine)
    (ret : ∀ z dz t1 t2 t3 t4 h' tk', Fr h₀ L h' m → News h₀ L h' ((z, instObj 333 dz) :: (dz, fqd w.params p ((1 : Int).fmod p) t1 t2 t3 t4) :: news) → (∀ q ∈ news, q.1 < dz) → dz < z → Q (.ref z) { s with heap := h', toks := tk' }) :
    wpAny (model PySem.Challenge.rw_lh0031_01.row.prog w) (ktrTop dp un gd cn cs L a ccd cl outer) (call (.ref 323) [.ref x]) Q E s := by
  revert X; k_fill; intro X
  have hp : 0 < p := by have := hm.1; omega
  refine wpAny_call ?_
  k_dflt ktr_enter
  k_steps
  exact ret _ _ _ _ _ _ _ _ (by assumption) (by assumption) (by assumption) (by assumption)
set_option maxHeartbeats 8000000 in
theorem zero_f_f {w : World} {mean : ExcName → Option Value} {mg mb : Str → Option Value} {dp un : Nat} {gd : Option (List Code)} {cn : Str} {cs : Scope} {L a : Addr} {ccd : Value} {cl : List (Str × Addr)} {outer : List Env} {A₀ : Around} {base h₀ : Heap}
    {m : Str → Option Value} {news : List (Addr × Obj)} {s : Shared} {Q E : Value → Shared → Prop} (B : Below A₀ base outer h₀) (F : Fr h₀ L s.heap m) (X : (hd.heap_39 w.params).In h₀) (N : News h₀ L s.heap news) (T : Top view (looseW view loose) mean mg mb h₀) (hk : cs.kind = .function)
    {p : Int} {x dx : Addr} {n : Int} {x1 x2 x3 x4 : Tok} (hx : (x, instObj 333 dx) ∈ news) (hdx : (dx, fqd w.params p n x1 x2 x3 x4) ∈ news) (hm : Mod p)  (hd : dp + 12 < recursionLimit) (hu : un + 80 < cLine)
    (ret : ∀ z dz t1 t2 t3 t4 h' tk', Fr h₀ L h' m → News h₀ L h' ((z, instObj 333 dz) :: (dz, fqd w.params p ((0 : Int).fmod p) t1 t2 t3 t4) :: news) → (∀ q ∈ news, q.1 < dz) → dz < z → Q (.ref z) { s with heap := h', toks := tk' }) :
    wpAny (model PySem.Challenge.rw_lh0031_01.row.prog w) (ktrTop dp un gd cn cs L a ccd cl outer) (call (.ref 330) [.ref x]) Q E s := by
  revert X; k_fill; intro X
  have hp : 0 < p := by have := hm.1; omega
  refine wpAny_call ?_
  k_dflt ktr_enter
  k_steps
  exact ret _ _ _ _ _ _ _ _ (by assumption) (by assumption) (by assumption) (by assumption)
set_option maxHeartbeats 8000000 in
theorem eq_ff_f {w : World} {mean : ExcName → Option Value} {mg mb : Str → Option Value} {dp un : Nat} {gd : Option (List Code)} {cn : Str} {cs : Scope} {L a : Addr} {ccd : Value} {cl : List (Str × Addr)} {outer : List Env} {A₀ : Around} {base h₀ : Heap}
    {m : Str → Option Value} {news : List (Addr × Obj)} {s : Shared} {Q E : Value → Shared → Prop} (B : Below A₀ base outer h₀) (F : Fr h₀ L s.heap m) (X : (hd.heap_39 w.params).In h₀) (N : News h₀ L s.heap news) (T : Top view (looseW view loose) mean mg mb h₀) (hk : cs.kind = .function)
    {p : Int} {x dx : Addr} {n : Int} {x1 x2 x3 x4 : Tok} (hx : (x, instObj 333 dx) ∈ news) (hdx : (dx, fqd w.params p n x1 x2 x3 x4) ∈ news) {y dy : Addr} {k : Int} {y1 y2 y3 y4 : Tok} (hy : (y, instObj 333 dy) ∈ news) (hdy : (dy, fqd w.params p k y1 y2 y3 y4) ∈ news) (hd : dp + 12 < recursionLimit) (hu : un + 80 < cLine)
    (ret : ∀ h' tk', Fr h₀ L h' m → News h₀ L h' news → Q (.bool (decide (n = k))) { s with heap := h', toks := tk' }) :
    wpAny (model PySem.Challenge.rw_lh0031_01.row.prog w) (ktrTop dp un gd cn cs L a ccd cl outer) (call (.ref 274) [.ref x, .ref y]) Q E s := by
  revert X; k_fill; intro X
  refine wpAny_call ?_
  k_dflt ktr_enter
  k_steps
  all_goals exact ret _ _ (by assumption) (by assumption)
set_option maxHeartbeats 8000000 in
theorem eq_fi_f {w : World} {mean : ExcName → Option Value} {mg mb : Str → Option Value} {dp un : Nat} {gd : Option (List Code)} {cn : Str} {cs : Scope} {L a : Addr} {ccd : Value} {cl : List (Str × Addr)} {outer : List Env} {A₀ : Around} {base h₀ : Heap}
    {m : Str → Option Value} {news : List (Addr × Obj)} {s : Shared} {Q E : Value → Shared → Prop} (B : Below A₀ base outer h₀) (F : Fr h₀ L s.heap m) (X : (hd.heap_39 w.params).In h₀) (N : News h₀ L s.heap news) (T : Top view (looseW view loose) mean mg mb h₀) (hk : cs.kind = .function)
    {p : Int} {x dx : Addr} {n : Int} {x1 x2 x3 x4 : Tok} (hx : (x, instObj 333 dx) ∈ news) (hdx : (dx, fqd w.params p n x1 x2 x3 x4) ∈ news) {k : Int} {tk0 : Tok} (hd : dp + 12 < recursionLimit) (hu : un + 80 < cLine)
    (ret : ∀ h' tk', Fr h₀ L h' m → News h₀ L h' news → Q (.bool (decide (n = k))) { s with heap := h', toks := tk' }) :
    wpAny (model PySem.Challenge.rw_lh0031_01.row.prog w) (ktrTop dp un gd cn cs L a ccd cl outer) (call (.ref 274) [.ref x, .int k tk0]) Q E s := by
  revert X; k_fill; intro X
  refine wpAny_call ?_
  k_dflt ktr_enter
  k_steps
  all_goals exact ret _ _ (by assumption) (by assumption)
set_option maxHeartbeats 8000000 in
theorem lt_ff_f {w : World} {mean : ExcName → Option Value} {mg mb : Str → Option Value} {dp un : Nat} {gd : Option (List Code)} {cn : Str} {cs : Scope} {L a : Addr} {ccd : Value} {cl : List (Str × Addr)} {outer : List Env} {A₀ : Around} {base h₀ : Heap}
    {m : Str → Option Value} {news : List (Addr × Obj)} {s : Shared} {Q E : Value → Shared → Prop} (B : Below A₀ base outer h₀) (F : Fr h₀ L s.heap m) (X : (hd.heap_39 w.params).In h₀) (N : News h₀ L s.heap news) (T : Top view (looseW view loose) mean mg mb h₀) (hk : cs.kind = .function)
    {p : Int} {x dx : Addr} {n : Int} {x1 x2 x3 x4 : Tok} (hx : (x, instObj 333 dx) ∈ news) (hdx : (dx, fqd w.params p n x1 x2 x3 x4) ∈ news) {y dy : Addr} {k : Int} {y1 y2 y3 y4 : Tok} (hy : (y, instObj 333 dy) ∈ news) (hdy : (dy, fqd w.params p k y1 y2 y3 y4) ∈ news) (hd : dp + 12 < recursionLimit) (hu : un + 80 < cLine)
    (ret : ∀ h' tk', Fr h₀ L h' m → News h₀ L h' news → Q (.bool (decide (n < k))) { s with heap := h', toks := tk' }) :
    wpAny (model PySem.Challenge.rw_lh0031_01.row.prog w) (ktrTop dp un gd cn cs L a ccd cl outer) (call (.ref 309) [.ref x, .ref y]) Q E s := by
  revert X; k_fill; intro X
  refine wpAny_call ?_
  k_dflt ktr_enter
  k_steps
  all_goals exact ret _ _ (by assumption) (by assumption)
set_option maxHeartbeats 8000000 in
theorem lt_fi_f {w : World} {mean : ExcName → Option Value} {mg mb : Str → Option Value} {dp un : Nat} {gd : Option (List Code)} {cn : Str} {cs : Scope} {L a : Addr} {ccd : Value} {cl : List (Str × Addr)} {outer : List Env} {A₀ : Around} {base h₀ : Heap}
    {m : Str → Option Value} {news : List (Addr × Obj)} {s : Shared} {Q E : Value → Shared → Prop} (B : Below A₀ base outer h₀) (F : Fr h₀ L s.heap m) (X : (hd.heap_39 w.params).In h₀) (N : News h₀ L s.heap news) (T : Top view (looseW view loose) mean mg mb h₀) (hk : cs.kind = .function)
    {p : Int} {x dx : Addr} {n : Int} {x1 x2 x3 x4 : Tok} (hx : (x, instObj 333 dx) ∈ news) (hdx : (dx, fqd w.params p n x1 x2 x3 x4) ∈ news) {k : Int} {tk0 : Tok} (hd : dp + 12 < recursionLimit) (hu : un + 80 < cLine)
    (ret : ∀ h' tk', Fr h₀ L h' m → News h₀ L h' news → Q (.bool (decide (n < k))) { s with heap := h', toks := tk' }) :
    wpAny (model PySem.Challenge.rw_lh0031_01.row.prog w) (ktrTop dp un gd cn cs L a ccd cl outer) (call (.ref 309) [.ref x, .int k tk0]) Q E s := by
  revert X; k_fill; intro X
  refine wpAny_call ?_
  k_dflt ktr_enter
  k_steps
  all_goals exact ret _ _ (by assumption) (by assumption)
set_option maxHeartbeats 8000000 in
theorem int_f_f {w : World} {mean : ExcName → Option Value} {mg mb : Str → Option Value} {dp un : Nat} {gd : Option (List Code)} {cn : Str} {cs : Scope} {L a : Addr} {ccd : Value} {cl : List (Str × Addr)} {outer : List Env} {A₀ : Around} {base h₀ : Heap}
    {m : Str → Option Value} {news : List (Addr × Obj)} {s : Shared} {Q E : Value → Shared → Prop} (B : Below A₀ base outer h₀) (F : Fr h₀ L s.heap m) (X : (hd.heap_39 w.params).In h₀) (N : News h₀ L s.heap news) (T : Top view (looseW view loose) mean mg mb h₀) (hk : cs.kind = .function)
    {p : Int} {x dx : Addr} {n : Int} {x1 x2 x3 x4 : Tok} (hx : (x, instObj 333 dx) ∈ news) (hdx : (dx, fqd w.params p n x1 x2 x3 x4) ∈ news) (hd : dp + 12 < recursionLimit) (hu : un + 80 < cLine)
    (ret : ∀ t1 h' tk', Fr h₀ L h' m → News h₀ L h' news → Q (.int (n) t1) { s with heap := h', toks := tk' }) :
    wpAny (model PySem.Challenge.rw_lh0031_01.row.prog w) (ktrTop dp un gd cn cs L a ccd cl outer) (call (.ref 302) [.ref x]) Q E s := by
  revert X; k_fill; intro X
  refine wpAny_call ?_
  k_dflt ktr_enter
  k_steps
  exact ret _ _ _ (by assumption) (by assumption)
local macro_rules | `(tactic| walk_at "call ref") => `(tactic| (k_here; (with_reducible show wpAny _ _ (call (Value.ref 274) [Value.ref _, Value.ref _]) _ _ _); k_dflt (refine' eq_ff_f ?k1 ?k2 ?k3 ?k4 ?k5 ?kK ?kx ?kdx ?ky ?kdy ?kd ?ku ?_; walk_at "my q10"); walk_at "my in3"))
local macro_rules | `(tactic| walk_at "call ref") => `(tactic| (k_here; (with_reducible show wpAny _ _ (call (Value.ref 274) [Value.ref _, Value.int _ _]) _ _ _); k_dflt (refine' eq_fi_f ?k1 ?k2 ?k3 ?k4 ?k5 ?kK ?kx ?kdx ?kd ?ku ?_; walk_at "my q11"); walk_at "my in3"))
local macro_rules | `(tactic| walk_at "call ref") => `(tactic| (k_here; (with_reducible show wpAny _ _ (call (Value.ref 309) [Value.ref _, Value.ref _]) _ _ _); k_dflt (refine' lt_ff_f ?k1 ?k2 ?k3 ?k4 ?k5 ?kK ?kx ?kdx ?ky ?kdy ?kd ?ku ?_; walk_at "my q10"); walk_at "my in3"))
local macro_rules | `(tactic| walk_at "call ref") => `(tactic| (k_here; (with_reducible show wpAny _ _ (call (Value.ref 309) [Value.ref _, Value.int _ _]) _ _ _); k_dflt (refine' lt_fi_f ?k1 ?k2 ?k3 ?k4 ?k5 ?kK ?kx ?kdx ?kd ?ku ?_; walk_at "my q11"); walk_at "my in3"))
set_option maxHeartbeats 8000000 in
theorem ne_ff_f {w : World} {mean : ExcName → Option Value} {mg mb : Str → Option Value} {dp un : Nat} {gd : Option (List Code)} {cn : Str} {cs : Scope} {L a : Addr} {ccd : Value} {cl : List (Str × Addr)} {outer : List Env} {A₀ : Around} {base h₀ : Heap}
    {m : Str → Option Value} {news : List (Addr × Obj)} {s : Shared} {Q E : Value → Shared → Prop} (B : Below A₀ base outer h₀) (F : Fr h₀ L s.heap m) (X : (hd.heap_39 w.params).In h₀) (N : News h₀ L s.heap news) (T : Top view (looseW view loose) mean mg mb h₀) (hk : cs.kind = .function)
    {p : Int} {x dx : Addr} {n : Int} {x1 x2 x3 x4 : Tok} (hx : (x, instObj 333 dx) ∈ news) (hdx : (dx, fqd w.params p n x1 x2 x3 x4) ∈ news) {y dy : Addr} {k : Int} {y1 y2 y3 y4 : Tok} (hy : (y, instObj 333 dy) ∈ news) (hdy : (dy, fqd w.params p k y1 y2 y3 y4) ∈ news) (hd : dp + 20 < recursionLimit) (hu : un + 120 < cLine)
    (ret : ∀ h' tk', Fr h₀ L h' m → News h₀ L h' news → Q (.bool (!decide (n = k))) { s with heap := h', toks := tk' }) :
    wpAny (model PySem.Challenge.rw_lh0031_01.row.prog w) (ktrTop dp un gd cn cs L a ccd cl outer) (call (.ref 281) [.ref x, .ref y]) Q E s := by
  revert X; k_fill; intro X
  refine wpAny_call ?_
  k_dflt ktr_enter
  k_steps
  all_goals exact ret _ _ (by assumption) (by assumption)
set_option maxHeartbeats 8000000 in
theorem ne_fi_f {w : World} {mean : ExcName → Option Value} {mg mb : Str → Option Value} {dp un : Nat} {gd : Option (List Code)} {cn : Str} {cs : Scope} {L a : Addr} {ccd : Value} {cl : List (Str × Addr)} {outer : List Env} {A₀ : Around} {base h₀ : Heap}
    {m : Str → Option Value} {news : List (Addr × Obj)} {s : Shared} {Q E : Value → Shared → Prop} (B : Below A₀ base outer h₀) (F : Fr h₀ L s.heap m) (X : (hd.heap_39 w.params).In h₀) (N : News h₀ L s.heap news) (T : Top view (looseW view loose) mean mg mb h₀) (hk : cs.kind = .function)
    {p : Int} {x dx : Addr} {n : Int} {x1 x2 x3 x4 : Tok} (hx : (x, instObj 333 dx) ∈ news) (hdx : (dx, fqd w.params p n x1 x2 x3 x4) ∈ news) {k : Int} {tk0 : Tok} (hd : dp + 20 < recursionLimit) (hu : un + 120 < cLine)
    (ret : ∀ h' tk', Fr h₀ L h' m → News h₀ L h' news → Q (.bool (!decide (n = k))) { s with heap := h', toks := tk' }) :
    wpAny (model PySem.Challenge.rw_lh0031_01.row.prog w) (ktrTop dp un gd cn cs L a ccd cl outer) (call (.ref 281) [.ref x, .int k tk0]) Q E s := by
  revert X; k_fill; intro X
  refine wpAny_call ?_
  k_dflt ktr_enter
  k_steps
  all_goals exact ret _ _ (by assumption) (by assumption)
/-! part C5f -/
section
local macro_rules | `(tactic| walk_at "call ref") => `(tactic| (k_here; (with_reducible show wpAny _ _ (call (Value.ref 267) _) _ _ _); (rename ∀ (_ : World), _ => ih'); k_dflt (refine' ih' _ ?k1 ?k2 ?k3 ?k4 ?k5 ?kK ?kx ?kdx ?khm ?sn ?khe ?kd ?ku ?_; (case k1 => k_asm); (case k2 => k_asm); (case k3 => k_asm); (case k4 => k_asm); (case k5 => k_asm); (case kK => first | exact rfl | assumption); (case kx => k_mem); (case kdx => k_mem); (case khm => assumption); (case sn => first | assumption | exact Sm.fmod (by assumption) | exact IsInv.sm (by assumption) (by assumption) | exact PowIs.sm (by assumption) (by assumption)); (case khe => exact half (by assumption)); (case kd => first | omega | decide | (dsimp only [ktrTop, Around.deeper, Around.in1, Around.mark]; omega) | (simp only [depth_deeper, depth_in1, depth_under_make, depth_under_kw]; (try dsimp only [ktrTop]); omega)); (case ku => first | omega | decide | (dsimp only [ktrTop, Around.deeper, Around.in1, Around.mark]; omega) | (simp only [units_deeper, units_in1, units_under_make]; (try dsimp only [ktrTop]); omega)); k_whole); intro r' z' d' t1' t2' t3' t4' h' tk' P' F' N' l1 l2; (try k_lt l1); (try k_lt2 l2); (try k_sweep); (try dsimp only)))
set_option maxHeartbeats 8000000 in
theorem pow_f (j : Nat) : ∀ (w : World) {mean : ExcName → Option Value} {mg mb : Str → Option Value} {dp un : Nat} {gd : Option (List Code)} {cn : Str} {cs : Scope} {L a : Addr} {ccd : Value} {cl : List (Str × Addr)} {outer : List Env} {A₀ : Around} {base h₀ : Heap}
    {m : Str → Option Value} {news : List (Addr × Obj)} {s : Shared} {Q E : Value → Shared → Prop} (B : Below A₀ base outer h₀) (F : Fr h₀ L s.heap m) (X : (hd.heap_39 w.params).In h₀) (N : News h₀ L s.heap news) (T : Top view (looseW view loose) mean mg mb h₀) (hk : cs.kind = .function)
    {p e : Int} {te : Tok} {x dx : Addr} {n : Int} {x1 x2 x3 x4 : Tok} (hx : (x, instObj 333 dx) ∈ news) (hdx : (dx, fqd w.params p n x1 x2 x3 x4) ∈ news) (hm : Mod p) (sn : Sm n) (he : 0 ≤ e ∧ e < 2 ^ j) (hd : dp + (2 * j + 16) < recursionLimit) (hu : un + (24 * j + 120) < cLine)
    (ret : ∀ r z dz t1 t2 t3 t4 h' tk', PowIs p n e r → Fr h₀ L h' m → News h₀ L h' ((z, instObj 333 dz) :: (dz, fqd w.params p r t1 t2 t3 t4) :: news) → (∀ q ∈ news, q.1 < dz) → dz < z → Q (.ref z) { s with heap := h', toks := tk' }), wpAny (model PySem.Challenge.rw_lh0031_01.row.prog w) (ktrTop dp un gd cn cs L a ccd cl outer) (call (.ref 267) [.ref x, .int e te]) Q E s := by
  induction j with
  | zero =>
    intro w mean mg mb dp un gd cn cs L a ccd cl outer A₀ base h₀ m news s Q E B F X N T hk p e te x dx n x1 x2 x3 x4 hx hdx hm sn he hd hu ret
    obtain rfl : e = 0 := by omega
    have hp : 0 < p := by have := hm.1; omega
    revert X; k_fill; intro X
    refine wpAny_call ?_
    k_dflt ktr_enter
    k_steps
    exact ret _ _ _ _ _ _ _ _ _ PowIs.zero (by assumption) (by first | assumption | exact drop_mid2 (by assumption) | exact drop_mid4 (by assumption)) (by first | assumption | exact ktn_ltOf (by first | assumption | tbn_find) | (intro q hq; have := ktn_ltOf (l := news) (by first | assumption | tbn_find) q hq; omega)) (by assumption)
  | succ j ih =>
    intro w mean mg mb dp un gd cn cs L a ccd cl outer A₀ base h₀ m news s Q E B F X N T hk p e te x dx n x1 x2 x3 x4 hx hdx hm sn he hd hu ret
    have hp : 0 < p := by have := hm.1; omega
    have he0 : 0 ≤ e := he.1
    revert X; k_fill; intro X
    refine wpAny_call ?_
    k_dflt ktr_enter
    k_steps
    · exact ret _ _ _ _ _ _ _ _ _ (PowIs.zero' (by assumption)) (by assumption) (by first | assumption | exact drop_mid2 (by assumption) | exact drop_mid4 (by assumption)) (by first | assumption | exact ktn_ltOf (by first | assumption | tbn_find) | (intro q hq; have := ktn_ltOf (l := news) (by first | assumption | tbn_find) q hq; omega)) (by assumption)
    · exact ret _ _ _ _ _ _ _ _ _ (PowIs.one' (by assumption)) (by assumption) (by first | assumption | exact drop_mid2 (by assumption) | exact drop_mid4 (by assumption)) (by first | assumption | exact ktn_ltOf (by first | assumption | tbn_find) | (intro q hq; have := ktn_ltOf (l := news) (by first | assumption | tbn_find) q hq; omega)) (by assumption)
    · exact ret _ _ _ _ _ _ _ _ _ (PowIs.even hp he0 (by assumption) (by assumption)) (by assumption) (by first | assumption | exact drop_mid2 (by assumption) | exact drop_mid4 (by assumption)) (by first | assumption | exact ktn_ltOf (by first | assumption | tbn_find) | (intro q hq; have := ktn_ltOf (l := news) (by first | assumption | tbn_find) q hq; omega)) (by assumption)
    · exact ret _ _ _ _ _ _ _ _ _ (PowIs.odd hp he0 (by assumption) (by assumption)) (by assumption) (by first | assumption | exact drop_mid2 (by assumption) | exact drop_mid4 (by assumption)) (by first | assumption | exact ktn_ltOf (by first | assumption | tbn_find) | (intro q hq; have := ktn_ltOf (l := news) (by first | assumption | tbn_find) q hq; omega)) (by assumption)
end
section
/-! part C6f -/
section
local macro_rules | `(tactic| walk_at "call builtin:isinstance") => `(tactic| (k_here; (with_reducible show wpAny _ _ (call (Value.builtin "isinstance") [_, Value.ref _]) _ _ _); (rename Strange _ _ _ _ _ _ _ => sS); k_dflt (refine' (sS.at_ _ _ _ ?kU ?kX ?kN).1 _ ?_; walk_at "my unx"; k_whole); intro tk'; (try dsimp only)))
local macro_rules | `(tactic| walk_at "call builtin:isinstance") => `(tactic| (k_here; (with_reducible show wpAny _ _ (call (Value.builtin "isinstance") [_, Value.type _]) _ _ _); (rename Strange _ _ _ _ _ _ _ => sS); k_dflt (refine' (sS.at_ _ _ _ ?kU ?kX ?kN).2.1 _ ?_; walk_at "my unx"; k_whole); intro tk'; (try dsimp only)))
local macro_rules | `(tactic| walk_at "call type:type") => `(tactic| (k_here; (with_reducible show wpAny _ _ (call (Value.type "type") _) _ _ _); (rename Strange _ _ _ _ _ _ _ => sS); k_dflt (refine' (sS.at_ _ _ _ ?kU ?kX ?kN).2.2.1 _ ?_; walk_at "my unx"; k_whole); intro tk'; (try dsimp only)))
local macro_rules | `(tactic| walk_at "formatField") => `(tactic| (k_here; (rename Strange _ _ _ _ _ _ _ => sS); k_dflt (refine' (sS.at_ _ _ _ ?kU ?kX ?kN).2.2.2.1 _ ?_; walk_at "my unx"; k_whole); intro t' tk'; (try dsimp only); refine and_keep (fits3 (by decide +kernel) (by decide +kernel) sS.len) (fun hz9 => ?_)))
set_option maxHeartbeats 8000000 in
theorem no_add_f {w : World} {mean : ExcName → Option Value} {mg mb : Str → Option Value} {dp un : Nat} {gd : Option (List Code)} {cn : Str} {cs : Scope} {L a : Addr} {ccd : Value} {cl : List (Str × Addr)} {outer : List Env} {A₀ : Around} {base h₀ : Heap}
    {m : Str → Option Value} {news : List (Addr × Obj)} {s : Shared} {Q E : Value → Shared → Prop} (B : Below A₀ base outer h₀) (F : Fr h₀ L s.heap m) (X : (hd.heap_39 w.params).In h₀) (N : News h₀ L s.heap news) (T : Top view (looseW view loose) mean mg mb h₀) (hk : cs.kind = .function)
    {p : Int} {v tv T : Value} {xs : Str} {x dx : Addr} {n : Int} {x1 x2 x3 x4 : Tok} (hx : (x, instObj 333 dx) ∈ news) (hdx : (dx, fqd w.params p n x1 x2 x3 x4) ∈ news) (sS : Strange w 333 news v tv T xs) (hd : dp + 4 < recursionLimit) (hu : un + 40 < cLine)
    (raised : ∀ g e t vs h' tk', Fr h₀ L g m → g.UpToSlots h' → RaisedK base (envX cn cs L a ccd cl :: outer) e (.type "TypeError") t vs news h' → E (.ref e) { s with heap := h', toks := tk' }) :
    wpAny (model PySem.Challenge.rw_lh0031_01.row.prog w) (ktrTop dp un gd cn cs L a ccd cl outer) (call (.ref 211) [.ref x, v]) Q E s := by
  revert X; k_fill; intro X
  refine wpAny_call ?_
  k_dflt ktr_enter
  k_steps
  exact raised _ _ _ _ _ _ (by assumption) (by assumption) (by assumption)
set_option maxHeartbeats 8000000 in
theorem no_sub_f {w : World} {mean : ExcName → Option Value} {mg mb : Str → Option Value} {dp un : Nat} {gd : Option (List Code)} {cn : Str} {cs : Scope} {L a : Addr} {ccd : Value} {cl : List (Str × Addr)} {outer : List Env} {A₀ : Around} {base h₀ : Heap}
    {m : Str → Option Value} {news : List (Addr × Obj)} {s : Shared} {Q E : Value → Shared → Prop} (B : Below A₀ base outer h₀) (F : Fr h₀ L s.heap m) (X : (hd.heap_39 w.params).In h₀) (N : News h₀ L s.heap news) (T : Top view (looseW view loose) mean mg mb h₀) (hk : cs.kind = .function)
    {p : Int} {v tv T : Value} {xs : Str} {x dx : Addr} {n : Int} {x1 x2 x3 x4 : Tok} (hx : (x, instObj 333 dx) ∈ news) (hdx : (dx, fqd w.params p n x1 x2 x3 x4) ∈ news) (sS : Strange w 333 news v tv T xs) (hd : dp + 4 < recursionLimit) (hu : un + 40 < cLine)
    (raised : ∀ g e t vs h' tk', Fr h₀ L g m → g.UpToSlots h' → RaisedK base (envX cn cs L a ccd cl :: outer) e (.type "TypeError") t vs news h' → E (.ref e) { s with heap := h', toks := tk' }) :
    wpAny (model PySem.Challenge.rw_lh0031_01.row.prog w) (ktrTop dp un gd cn cs L a ccd cl outer) (call (.ref 246) [.ref x, v]) Q E s := by
  revert X; k_fill; intro X
  refine wpAny_call ?_
  k_dflt ktr_enter
  k_steps
  exact raised _ _ _ _ _ _ (by assumption) (by assumption) (by assumption)
set_option maxHeartbeats 8000000 in
theorem no_mul_f {w : World} {mean : ExcName → Option Value} {mg mb : Str → Option Value} {dp un : Nat} {gd : Option (List Code)} {cn : Str} {cs : Scope} {L a : Addr} {ccd : Value} {cl : List (Str × Addr)} {outer : List Env} {A₀ : Around} {base h₀ : Heap}
    {m : Str → Option Value} {news : List (Addr × Obj)} {s : Shared} {Q E : Value → Shared → Prop} (B : Below A₀ base outer h₀) (F : Fr h₀ L s.heap m) (X : (hd.heap_39 w.params).In h₀) (N : News h₀ L s.heap news) (T : Top view (looseW view loose) mean mg mb h₀) (hk : cs.kind = .function)
    {p : Int} {v tv T : Value} {xs : Str} {x dx : Addr} {n : Int} {x1 x2 x3 x4 : Tok} (hx : (x, instObj 333 dx) ∈ news) (hdx : (dx, fqd w.params p n x1 x2 x3 x4) ∈ news) (sS : Strange w 333 news v tv T xs) (hd : dp + 4 < recursionLimit) (hu : un + 40 < cLine)
    (raised : ∀ g e t vs h' tk', Fr h₀ L g m → g.UpToSlots h' → RaisedK base (envX cn cs L a ccd cl :: outer) e (.type "TypeError") t vs news h' → E (.ref e) { s with heap := h', toks := tk' }) :
    wpAny (model PySem.Challenge.rw_lh0031_01.row.prog w) (ktrTop dp un gd cn cs L a ccd cl outer) (call (.ref 218) [.ref x, v]) Q E s := by
  revert X; k_fill; intro X
  refine wpAny_call ?_
  k_dflt ktr_enter
  k_steps
  exact raised _ _ _ _ _ _ (by assumption) (by assumption) (by assumption)
set_option maxHeartbeats 8000000 in
theorem no_truediv_f {w : World} {mean : ExcName → Option Value} {mg mb : Str → Option Value} {dp un : Nat} {gd : Option (List Code)} {cn : Str} {cs : Scope} {L a : Addr} {ccd : Value} {cl : List (Str × Addr)} {outer : List Env} {A₀ : Around} {base h₀ : Heap}
    {m : Str → Option Value} {news : List (Addr × Obj)} {s : Shared} {Q E : Value → Shared → Prop} (B : Below A₀ base outer h₀) (F : Fr h₀ L s.heap m) (X : (hd.heap_39 w.params).In h₀) (N : News h₀ L s.heap news) (T : Top view (looseW view loose) mean mg mb h₀) (hk : cs.kind = .function)
    {p : Int} {v tv T : Value} {xs : Str} {x dx : Addr} {n : Int} {x1 x2 x3 x4 : Tok} (hx : (x, instObj 333 dx) ∈ news) (hdx : (dx, fqd w.params p n x1 x2 x3 x4) ∈ news) (sS : Strange w 333 news v tv T xs) (hd : dp + 4 < recursionLimit) (hu : un + 40 < cLine)
    (raised : ∀ g e t vs h' tk', Fr h₀ L g m → g.UpToSlots h' → RaisedK base (envX cn cs L a ccd cl :: outer) e (.type "TypeError") t vs news h' → E (.ref e) { s with heap := h', toks := tk' }) :
    wpAny (model PySem.Challenge.rw_lh0031_01.row.prog w) (ktrTop dp un gd cn cs L a ccd cl outer) (call (.ref 253) [.ref x, v]) Q E s := by
  revert X; k_fill; intro X
  refine wpAny_call ?_
  k_dflt ktr_enter
  k_steps
  exact raised _ _ _ _ _ _ (by assumption) (by assumption) (by assumption)
set_option maxHeartbeats 8000000 in
theorem no_eq_f {w : World} {mean : ExcName → Option Value} {mg mb : Str → Option Value} {dp un : Nat} {gd : Option (List Code)} {cn : Str} {cs : Scope} {L a : Addr} {ccd : Value} {cl : List (Str × Addr)} {outer : List Env} {A₀ : Around} {base h₀ : Heap}
    {m : Str → Option Value} {news : List (Addr × Obj)} {s : Shared} {Q E : Value → Shared → Prop} (B : Below A₀ base outer h₀) (F : Fr h₀ L s.heap m) (X : (hd.heap_39 w.params).In h₀) (N : News h₀ L s.heap news) (T : Top view (looseW view loose) mean mg mb h₀) (hk : cs.kind = .function)
    {p : Int} {v tv T : Value} {xs : Str} {x dx : Addr} {n : Int} {x1 x2 x3 x4 : Tok} (hx : (x, instObj 333 dx) ∈ news) (hdx : (dx, fqd w.params p n x1 x2 x3 x4) ∈ news) (sS : Strange w 333 news v tv T xs) (hd : dp + 4 < recursionLimit) (hu : un + 40 < cLine)
    (raised : ∀ g e t vs h' tk', Fr h₀ L g m → g.UpToSlots h' → RaisedK base (envX cn cs L a ccd cl :: outer) e (.type "TypeError") t vs news h' → E (.ref e) { s with heap := h', toks := tk' }) :
    wpAny (model PySem.Challenge.rw_lh0031_01.row.prog w) (ktrTop dp un gd cn cs L a ccd cl outer) (call (.ref 274) [.ref x, v]) Q E s := by
  revert X; k_fill; intro X
  refine wpAny_call ?_
  k_dflt ktr_enter
  k_steps
  exact raised _ _ _ _ _ _ (by assumption) (by assumption) (by assumption)
set_option maxHeartbeats 8000000 in
theorem no_lt_f {w : World} {mean : ExcName → Option Value} {mg mb : Str → Option Value} {dp un : Nat} {gd : Option (List Code)} {cn : Str} {cs : Scope} {L a : Addr} {ccd : Value} {cl : List (Str × Addr)} {outer : List Env} {A₀ : Around} {base h₀ : Heap}
    {m : Str → Option Value} {news : List (Addr × Obj)} {s : Shared} {Q E : Value → Shared → Prop} (B : Below A₀ base outer h₀) (F : Fr h₀ L s.heap m) (X : (hd.heap_39 w.params).In h₀) (N : News h₀ L s.heap news) (T : Top view (looseW view loose) mean mg mb h₀) (hk : cs.kind = .function)
    {p : Int} {v tv T : Value} {xs : Str} {x dx : Addr} {n : Int} {x1 x2 x3 x4 : Tok} (hx : (x, instObj 333 dx) ∈ news) (hdx : (dx, fqd w.params p n x1 x2 x3 x4) ∈ news) (sS : Strange w 333 news v tv T xs) (hd : dp + 4 < recursionLimit) (hu : un + 40 < cLine)
    (raised : ∀ g e t vs h' tk', Fr h₀ L g m → g.UpToSlots h' → RaisedK base (envX cn cs L a ccd cl :: outer) e (.type "TypeError") t vs news h' → E (.ref e) { s with heap := h', toks := tk' }) :
    wpAny (model PySem.Challenge.rw_lh0031_01.row.prog w) (ktrTop dp un gd cn cs L a ccd cl outer) (call (.ref 309) [.ref x, v]) Q E s := by
  revert X; k_fill; intro X
  refine wpAny_call ?_
  k_dflt ktr_enter
  k_steps
  exact raised _ _ _ _ _ _ (by assumption) (by assumption) (by assumption)
set_option maxHeartbeats 8000000 in
theorem no_init_f {w : World} {mean : ExcName → Option Value} {mg mb : Str → Option Value} {dp un : Nat} {gd : Option (List Code)} {cn : Str} {cs : Scope} {L a : Addr} {ccd : Value} {cl : List (Str × Addr)} {outer : List Env} {A₀ : Around} {base h₀ : Heap}
    {m : Str → Option Value} {news : List (Addr × Obj)} {s : Shared} {Q E : Value → Shared → Prop} (B : Below A₀ base outer h₀) (F : Fr h₀ L s.heap m) (X : (hd.heap_39 w.params).In h₀) (N : News h₀ L s.heap news) (T : Top view (looseW view loose) mean mg mb h₀) (hk : cs.kind = .function)
    {p : Int} {tp : Tok} {v tv T : Value} {xs : Str} (sS : Strange w 333 news v tv T xs) (hd : dp + 4 < recursionLimit) (hu : un + 40 < cLine)
    (raised : ∀ g e t vs h' tk', Fr h₀ L g m → g.UpToSlots h' → RaisedK base (envX cn cs L a ccd cl :: outer) e (.type "TypeError") t vs news h' → E (.ref e) { s with heap := h', toks := tk' }) :
    wpAny (model PySem.Challenge.rw_lh0031_01.row.prog w) (ktrTop dp un gd cn cs L a ccd cl outer) (call (.ref 333) [v, .int p tp]) Q E s := by
  revert X; k_fill; intro X
  refine' call_cls F X N ?k4 ?k5 ?k6 ?_
  (case k4 => k_is)
  (case k5 => k_is)
  (case k6 => k_is)
  intro x' d' h' F' N' l1 l2; (try k_lt l1); (try k_lt2 l2)
  k_dflt ktr_enter
  k_steps
  exact raised _ _ _ _ _ _ (by assumption) (by assumption) (raisedK_mono (by assumption) fun _ hq => List.mem_cons_of_mem _ (List.mem_cons_of_mem _ hq))
end
end
section
/-! part C7f -/
section
local macro_rules | `(tactic| walk_at "binaryOp Add ref") => `(tactic| (k_here; (with_reducible show wpAny _ _ (binaryOp Operator.Add (Value.ref _) _) _ _ _); (rename Strange _ _ _ _ _ _ _ => sS); k_dflt (refine' (sS.at_ _ _ _ ?kU ?kX ?kN).2.2.2.2.2 _ _ _ _ 211 _ ?ho ?I ?hs ?hf ?_; walk_at "my unx"; walk_at "my sopc")))
local macro_rules | `(tactic| walk_at "binaryOp Sub ref") => `(tactic| (k_here; (with_reducible show wpAny _ _ (binaryOp Operator.Sub (Value.ref _) _) _ _ _); (rename Strange _ _ _ _ _ _ _ => sS); k_dflt (refine' (sS.at_ _ _ _ ?kU ?kX ?kN).2.2.2.2.2 _ _ _ _ 246 _ ?ho ?I ?hs ?hf ?_; walk_at "my unx"; walk_at "my sopc")))
local macro_rules | `(tactic| walk_at "binaryOp Mult ref") => `(tactic| (k_here; (with_reducible show wpAny _ _ (binaryOp Operator.Mult (Value.ref _) _) _ _ _); (rename Strange _ _ _ _ _ _ _ => sS); k_dflt (refine' (sS.at_ _ _ _ ?kU ?kX ?kN).2.2.2.2.2 _ _ _ _ 218 _ ?ho ?I ?hs ?hf ?_; walk_at "my unx"; walk_at "my sopc")))
local macro_rules | `(tactic| walk_at "binaryOp Div ref") => `(tactic| (k_here; (with_reducible show wpAny _ _ (binaryOp Operator.Div (Value.ref _) _) _ _ _); (rename Strange _ _ _ _ _ _ _ => sS); k_dflt (refine' (sS.at_ _ _ _ ?kU ?kX ?kN).2.2.2.2.2 _ _ _ _ 253 _ ?ho ?I ?hs ?hf ?_; walk_at "my unx"; walk_at "my sopc")))
local macro_rules | `(tactic| walk_at "compareOp Eq ref") => `(tactic| (k_here; (with_reducible show wpAny _ _ (compareOp CmpOp.Eq (Value.ref _) _) _ _ _); (refine cmp_ofEq ?_); walk_at "my scmp"))
local macro_rules | `(tactic| walk_at "compareOp NotEq ref") => `(tactic| (k_here; (with_reducible show wpAny _ _ (compareOp CmpOp.NotEq (Value.ref _) _) _ _ _); (refine cmp_ofNotEq ?_); walk_at "my scmp"))
local macro_rules | `(tactic| walk_at "compareOp Lt ref") => `(tactic| (k_here; (with_reducible show wpAny _ _ (compareOp CmpOp.Lt (Value.ref _) _) _ _ _); (refine cmp_ofLt ?_); walk_at "my scmp"))
local macro_rules | `(tactic| walk_at "call ref") => `(tactic| (k_here; (with_reducible show wpAny _ _ (call (Value.ref 211) _) _ _ _); k_dflt (refine' no_add_f ?k1 ?k2 ?k3 ?k4 ?k5 ?kK ?kx ?kdx ?kS ?kd ?ku ?_; walk_at "my q12"); walk_at "my in4"))
local macro_rules | `(tactic| walk_at "call ref") => `(tactic| (k_here; (with_reducible show wpAny _ _ (call (Value.ref 246) _) _ _ _); k_dflt (refine' no_sub_f ?k1 ?k2 ?k3 ?k4 ?k5 ?kK ?kx ?kdx ?kS ?kd ?ku ?_; walk_at "my q12"); walk_at "my in4"))
local macro_rules | `(tactic| walk_at "call ref") => `(tactic| (k_here; (with_reducible show wpAny _ _ (call (Value.ref 218) _) _ _ _); k_dflt (refine' no_mul_f ?k1 ?k2 ?k3 ?k4 ?k5 ?kK ?kx ?kdx ?kS ?kd ?ku ?_; walk_at "my q12"); walk_at "my in4"))
local macro_rules | `(tactic| walk_at "call ref") => `(tactic| (k_here; (with_reducible show wpAny _ _ (call (Value.ref 253) _) _ _ _); k_dflt (refine' no_truediv_f ?k1 ?k2 ?k3 ?k4 ?k5 ?kK ?kx ?kdx ?kS ?kd ?ku ?_; walk_at "my q12"); walk_at "my in4"))
local macro_rules | `(tactic| walk_at "call ref") => `(tactic| (k_here; (with_reducible show wpAny _ _ (call (Value.ref 274) _) _ _ _); k_dflt (refine' no_eq_f ?k1 ?k2 ?k3 ?k4 ?k5 ?kK ?kx ?kdx ?kS ?kd ?ku ?_; walk_at "my q12"); walk_at "my in4"))
local macro_rules | `(tactic| walk_at "call ref") => `(tactic| (k_here; (with_reducible show wpAny _ _ (call (Value.ref 309) _) _ _ _); k_dflt (refine' no_lt_f ?k1 ?k2 ?k3 ?k4 ?k5 ?kK ?kx ?kdx ?kS ?kd ?ku ?_; walk_at "my q12"); walk_at "my in4"))
local macro_rules | `(tactic| walk_at "call ref") => `(tactic| (k_here; (with_reducible show wpAny _ _ (call (Value.ref 333) _) _ _ _); k_dflt (refine' no_init_f ?k1 ?k2 ?k3 ?k4 ?k5 ?kK ?kS ?kd ?ku ?_; walk_at "my q13"); walk_at "my in4"))
set_option maxHeartbeats 8000000 in
theorem no_ne_f {w : World} {mean : ExcName → Option Value} {mg mb : Str → Option Value} {dp un : Nat} {gd : Option (List Code)} {cn : Str} {cs : Scope} {L a : Addr} {ccd : Value} {cl : List (Str × Addr)} {outer : List Env} {A₀ : Around} {base h₀ : Heap}
    {m : Str → Option Value} {news : List (Addr × Obj)} {s : Shared} {Q E : Value → Shared → Prop} (B : Below A₀ base outer h₀) (F : Fr h₀ L s.heap m) (X : (hd.heap_39 w.params).In h₀) (N : News h₀ L s.heap news) (T : Top view (looseW view loose) mean mg mb h₀) (hk : cs.kind = .function)
    {p : Int} {v tv TV : Value} {xs : Str} {x dx : Addr} {n : Int} {x1 x2 x3 x4 : Tok} (hx : (x, instObj 333 dx) ∈ news) (hdx : (dx, fqd w.params p n x1 x2 x3 x4) ∈ news) (sS : Strange w 333 news v tv TV xs) (hd : dp + 10 < recursionLimit) (hu : un + 80 < cLine)
    (raised : ∀ g e t vs h' tk', Fr h₀ L g m → g.UpToSlots h' → RaisedK base (envX cn cs L a ccd cl :: outer) e (.type "TypeError") t vs news h' → E (.ref e) { s with heap := h', toks := tk' }) :
    wpAny (model PySem.Challenge.rw_lh0031_01.row.prog w) (ktrTop dp un gd cn cs L a ccd cl outer) (call (.ref 281) [.ref x, v]) Q E s := by
  revert X; k_fill; intro X
  refine wpAny_call ?_
  k_dflt ktr_enter
  k_steps
  exact raised _ _ _ _ _ _ (by assumption) (by assumption) (by assumption)
local macro_rules | `(tactic| walk_at "call ref") => `(tactic| (k_here; (with_reducible show wpAny _ _ (call (Value.ref 281) _) _ _ _); k_dflt (refine' no_ne_f ?k1 ?k2 ?k3 ?k4 ?k5 ?kK ?kx ?kdx ?kS ?kd ?ku ?_; walk_at "my q12"); walk_at "my in4"))
set_option maxHeartbeats 8000000 in
theorem refused_f {w : World} {mean : ExcName → Option Value} {mg mb : Str → Option Value} {dp un : Nat} {gd : Option (List Code)} {cn : Str} {cs : Scope} {L a : Addr} {ccd : Value} {cl : List (Str × Addr)} {A₀ : Around} {h₀ : Heap}
    {m : Str → Option Value} {news : List (Addr × Obj)} {s : Shared} {Q E : Value → Shared → Prop} (B : Below A₀ h₀ [] h₀) (F : Fr h₀ L s.heap m) (X : (hd.heap_39 w.params).In h₀) (N : News h₀ L s.heap news) (T : Top view (looseW view loose) mean mg mb h₀) (hk : cs.kind = .function)
    {p k : Int} {tp tk0 : Tok} {v tv TV : Value} {xs : Str} {x dx : Addr} {n : Int} {x1 x2 x3 x4 : Tok} (hx : (x, instObj 333 dx) ∈ news) (hdx : (dx, fqd w.params p n x1 x2 x3 x4) ∈ news) (sS : Strange w 333 news v tv TV xs) (hd : dp + 20 < recursionLimit) (hu : un + 120 < cLine)
    (ret : ∀ h' tk', Fr h₀ L h' m → News h₀ L h' news → Q (.bool true) { s with heap := h', toks := tk' }) :
    wpAny (model PySem.Challenge.rw_lh0031_01.row.prog w) (ktrTop dp un gd cn cs L a ccd cl []) (call (.ref 377) [.int k tk0, .ref x, v, .ref 333, .int p tp]) Q E s := by
  revert X; k_fill; intro X
  refine wpAny_call ?_
  k_dflt (refine' code_defS1 (env := envX cn cs L a ccd cl) ?k1 ?k2 ?k3 ?k4 ?k5 ?kA ?kF ?kE ?k6 ?k7 ?k8 ?k9 ?kB ?_ ?c2 ?c3 ?c4 ?c5; (case kA => exact rfl); (case kF => exact rfl); (case kE => assumption); (case k2 => k_asm); (case k1 => k_asm); (case k3 => k_asm); (case k4 => k_asm); (case k5 => k_asm); (case k6 => k_is); (case k7 => k_is); (case k8 => ktr_room); (case k9 => exact BindsTo.of_eq rfl); (case kB => exact locs rfl); (case c2 => exact rfl); (case c3 => exact rfl); (case c4 => exact rfl); (case c5 => decide); k_whole; intro g' L' h' FG' F' N' B' X' T' D'; (try dsimp only); (try k_fold))
  (rename Below _ _ _ _ => B8)
  have st8 := stays_hide B8
  replace B8 := below_hide B8
  have X8 := X.keeps st8
  have T8 := T.keeps st8
  k_steps
  all_goals
    rename RaisedK _ _ _ _ _ _ _ _ => rkX
    obtain ⟨G9, F9, U9, S9⟩ := raised_S (by assumption) (by assumption) (fun b o q nm => hideAll_get _ q nm) rkX (by assumption)
    clear rkX
    k_dflt (refine' caught_S0 (T' := "TypeError") S9 F9 ?K U9 ?XB ?TB ?D KtsTurn.refl ?ex PyProof.Rows.Boot.«TypeError» ?hn PySem.F.isExc_TypeError PySem.F.notTuple_TypeError ?hs ?_; (case K => assumption); (case XB => assumption); (case TB => assumption); (case D => assumption); (case hs => kts_sub); (case ex => k_is); (case hn => decide); k_whole)
    intro h' g' n₂ T' F' N₂ G' N' K' X' P' D'; (try k_lift K'); (try k_sweep)
    k_steps
    exact ret _ _ (by assumption) (by assumption)

end
end
/-! part C8f -/
local macro_rules | `(tactic| walk_at "call type:int") => `(tactic| (k_here; (with_reducible show wpAny _ _ (call (Value.type "int") [Value.ref _]) _ _ _); k_dflt (refine' int_ref (C := 333) (f := 302) ?kX ?kI ?k5 ?k6 ?_; (case kX => k_in); (case kI => k_inst); (case k5 => k_is); (case k6 => k_is); k_whole)))
local macro_rules | `(tactic| walk_at "call ref") => `(tactic| (k_here; (with_reducible show wpAny _ _ (call (Value.ref 302) _) _ _ _); k_dflt (refine' int_f_f ?k1 ?k2 ?k3 ?k4 ?k5 ?kK ?kx ?kdx ?kd ?ku ?_; walk_at "my q11"); walk_at "my in5"))
local macro_rules | `(tactic| walk_at "call ref") => `(tactic| (k_here; (with_reducible show wpAny _ _ (call (Value.ref 281) [Value.ref _, Value.ref _]) _ _ _); k_dflt (refine' ne_ff_f ?k1 ?k2 ?k3 ?k4 ?k5 ?kK ?kx ?kdx ?ky ?kdy ?kd ?ku ?_; walk_at "my q10"); walk_at "my in3"))
local macro_rules | `(tactic| walk_at "call ref") => `(tactic| (k_here; (with_reducible show wpAny _ _ (call (Value.ref 281) [Value.ref _, Value.int _ _]) _ _ _); k_dflt (refine' ne_fi_f ?k1 ?k2 ?k3 ?k4 ?k5 ?kK ?kx ?kdx ?kd ?ku ?_; walk_at "my q11"); walk_at "my in3"))
set_option maxHeartbeats 8000000 in
theorem holds_f {w : World} {mean : ExcName → Option Value} {mg mb : Str → Option Value} {dp un : Nat} {gd : Option (List Code)} {cn : Str} {cs : Scope} {L a : Addr} {ccd : Value} {cl : List (Str × Addr)} {outer : List Env} {A₀ : Around} {base h₀ : Heap}
    {m : Str → Option Value} {news : List (Addr × Obj)} {s : Shared} {Q E : Value → Shared → Prop} (B : Below A₀ base outer h₀) (F : Fr h₀ L s.heap m) (X : (hd.heap_39 w.params).In h₀) (N : News h₀ L s.heap news) (T : Top view (looseW view loose) mean mg mb h₀) (hk : cs.kind = .function)
    {p k : Int} {tk0 tp : Tok} {x dx : Addr} {n : Int} {x1 x2 x3 x4 : Tok} (hx : (x, instObj 333 dx) ∈ news) (hdx : (dx, fqd w.params p n x1 x2 x3 x4) ∈ news) (hn : n = k) (hd : dp + 20 < recursionLimit) (hu : un + 200 < cLine)
    (ret : ∀ h' tk', Fr h₀ L h' m → News h₀ L h' news → Q (.bool (true)) { s with heap := h', toks := tk' }) :
    wpAny (model PySem.Challenge.rw_lh0031_01.row.prog w) (ktrTop dp un gd cn cs L a ccd cl outer) (call (.ref 370) [.ref x, .int k tk0, .ref 333, .ref 186, .int p tp]) Q E s := by
  revert X; k_fill; intro X
  cases hn
  refine wpAny_call ?_
  k_dflt ktr_enter
  k_steps
  all_goals first | exact ret _ _ (by assumption) (by assumption) | contradiction | (rw [beq_self_eq_true]; exact ret _ _ (by assumption) (by assumption))
set_option maxHeartbeats 8000000 in
theorem compares_f {w : World} {mean : ExcName → Option Value} {mg mb : Str → Option Value} {dp un : Nat} {gd : Option (List Code)} {cn : Str} {cs : Scope} {L a : Addr} {ccd : Value} {cl : List (Str × Addr)} {outer : List Env} {A₀ : Around} {base h₀ : Heap}
    {m : Str → Option Value} {news : List (Addr × Obj)} {s : Shared} {Q E : Value → Shared → Prop} (B : Below A₀ base outer h₀) (F : Fr h₀ L s.heap m) (X : (hd.heap_39 w.params).In h₀) (N : News h₀ L s.heap news) (T : Top view (looseW view loose) mean mg mb h₀) (hk : cs.kind = .function)
    {p : Int} {ta tb tp : Tok} {x dx : Addr} {n : Int} {x1 x2 x3 x4 : Tok} (hx : (x, instObj 333 dx) ∈ news) (hdx : (dx, fqd w.params p n x1 x2 x3 x4) ∈ news) {y dy : Addr} {k : Int} {y1 y2 y3 y4 : Tok} (hy : (y, instObj 333 dy) ∈ news) (hdy : (dy, fqd w.params p k y1 y2 y3 y4) ∈ news) (hne : ¬ n = (n + 1).fmod p) (hp : 0 < p) (hd : dp + 40 < recursionLimit) (hu : un + 300 < cLine)
    (ret : ∀ h' tk', Fr h₀ L h' m → News h₀ L h' news → Q (.bool (true)) { s with heap := h', toks := tk' }) :
    wpAny (model PySem.Challenge.rw_lh0031_01.row.prog w) (ktrTop dp un gd cn cs L a ccd cl outer) (call (.ref 391) [.ref x, .ref y, .int n ta, .int k tb, .int p tp]) Q E s := by
  revert X; k_fill; intro X
  refine wpAny_call ?_
  k_dflt ktr_enter
  k_steps
  all_goals first | exact ret _ _ (by assumption) (by assumption) | contradiction
/-! part C10f -/
theorem pow_s_f {w : World} {mean : ExcName → Option Value} {mg mb : Str → Option Value} {dp un : Nat} {gd : Option (List Code)} {cn : Str} {cs : Scope} {L a : Addr} {ccd : Value} {cl : List (Str × Addr)} {outer : List Env} {A₀ : Around} {base h₀ : Heap}
    {m : Str → Option Value} {news : List (Addr × Obj)} {s : Shared} {Q E : Value → Shared → Prop} (B : Below A₀ base outer h₀) (F : Fr h₀ L s.heap m) (X : (hd.heap_39 w.params).In h₀) (N : News h₀ L s.heap news) (T : Top view (looseW view loose) mean mg mb h₀) (hk : cs.kind = .function)
    {p e : Int} {te : Tok} {x dx : Addr} {n : Int} {x1 x2 x3 x4 : Tok} (hx : (x, instObj 333 dx) ∈ news) (hdx : (dx, fqd w.params p n x1 x2 x3 x4) ∈ news) (hm : Mod p) (sn : Sm n) (he : Exp e) (hd : dp + 64 < recursionLimit) (hu : un + 696 < cLine)
    (ret : ∀ r z dz t1 t2 t3 t4 h' tk', PowIs p n e r → Fr h₀ L h' m → News h₀ L h' ((z, instObj 333 dz) :: (dz, fqd w.params p r t1 t2 t3 t4) :: news) → (∀ q ∈ news, q.1 < dz) → dz < z → Q (.ref z) { s with heap := h', toks := tk' }) :
    wpAny (model PySem.Challenge.rw_lh0031_01.row.prog w) (ktrTop dp un gd cn cs L a ccd cl outer) (call (.ref 267) [.ref x, .int e te]) Q E s :=
  pow_f 24 w B F X N T hk hx hdx hm sn he.r hd hu ret
local macro_rules | `(tactic| walk_at "call ref") => `(tactic| (k_here; (with_reducible show wpAny _ _ (call (Value.ref 232) [Value.ref _, Value.int _ _]) _ _ _); k_dflt (refine' radd_fi_f ?k1 ?k2 ?k3 ?k4 ?k5 ?kK ?kx ?kdx ?khm ?kd ?ku ?_; walk_at "my q4"); walk_at "my in"))
local macro_rules | `(tactic| walk_at "call ref") => `(tactic| (k_here; (with_reducible show wpAny _ _ (call (Value.ref 225) [Value.ref _, Value.int _ _]) _ _ _); k_dflt (refine' rmul_fi_f ?k1 ?k2 ?k3 ?k4 ?k5 ?kK ?kx ?kdx ?khm ?sn ?sk ?kd ?ku ?_; walk_at "my q6"); walk_at "my in"))
local macro_rules | `(tactic| walk_at "call ref") => `(tactic| (k_here; (with_reducible show wpAny _ _ (call (Value.ref 288) [Value.ref _]) _ _ _); k_dflt (refine' neg_f_f ?k1 ?k2 ?k3 ?k4 ?k5 ?kK ?kx ?kdx ?khm ?kd ?ku ?_; walk_at "my q4"); walk_at "my in"))
local macro_rules | `(tactic| walk_at "call ref") => `(tactic| (k_here; (with_reducible show wpAny _ _ (call (Value.ref 323) [Value.ref _]) _ _ _); k_dflt (refine' one_f_f ?k1 ?k2 ?k3 ?k4 ?k5 ?kK ?kx ?kdx ?khm ?kd ?ku ?_; walk_at "my q4"); walk_at "my in"))
local macro_rules | `(tactic| walk_at "call ref") => `(tactic| (k_here; (with_reducible show wpAny _ _ (call (Value.ref 330) [Value.ref _]) _ _ _); k_dflt (refine' zero_f_f ?k1 ?k2 ?k3 ?k4 ?k5 ?kK ?kx ?kdx ?khm ?kd ?ku ?_; walk_at "my q4"); walk_at "my in"))
local macro_rules | `(tactic| walk_at "call ref") => `(tactic| (k_here; (with_reducible show wpAny _ _ (call (Value.ref 267) [Value.ref _, Value.int _ _]) _ _ _); k_dflt (refine' pow_s_f ?k1 ?k2 ?k3 ?k4 ?k5 ?kK ?kx ?kdx ?khm ?sn ?khe ?kd ?ku ?_; walk_at "my q16"); walk_at "my in2"))
local macro_rules | `(tactic| walk_at "binaryOp Add int ref") => `(tactic| (k_here; (with_reducible show wpAny _ _ (binaryOp _ (Value.int _ _) (Value.ref _)) _ _ _); k_dflt (refine' int_op_ref (C := 333) (f' := 211) (f := 232) ?F ?X ?I ?ho declines_add ?hC ?hV ?hR ?hF ?h1 ?h2 ?hS ?hU ?_; walk_at "my iop")))
local macro_rules | `(tactic| walk_at "binaryOp Sub int ref") => `(tactic| (k_here; (with_reducible show wpAny _ _ (binaryOp _ (Value.int _ _) (Value.ref _)) _ _ _); k_dflt (refine' int_op_ref (C := 333) (f' := 246) (f := 239) ?F ?X ?I ?ho declines_sub ?hC ?hV ?hR ?hF ?h1 ?h2 ?hS ?hU ?_; walk_at "my iop")))
local macro_rules | `(tactic| walk_at "binaryOp Mult int ref") => `(tactic| (k_here; (with_reducible show wpAny _ _ (binaryOp _ (Value.int _ _) (Value.ref _)) _ _ _); k_dflt (refine' int_op_ref (C := 333) (f' := 218) (f := 225) ?F ?X ?I ?ho declines_mul ?hC ?hV ?hR ?hF ?h1 ?h2 ?hS ?hU ?_; walk_at "my iop")))
local macro_rules | `(tactic| walk_at "binaryOp Div int ref") => `(tactic| (k_here; (with_reducible show wpAny _ _ (binaryOp _ (Value.int _ _) (Value.ref _)) _ _ _); k_dflt (refine' int_op_ref (C := 333) (f' := 253) (f := 260) ?F ?X ?I ?ho declines_div ?hC ?hV ?hR ?hF ?h1 ?h2 ?hS ?hU ?_; walk_at "my iop")))
theorem pack_f {w : World} {h₀ h : Heap} {L D : Addr} {news : List (Addr × Obj)} {p n k j r1 r2 r3 r4 : Int} {z0 d0 z1 d1 z2 d2 z3 d3 z4 d4 z5 d5 z6 d6 z7 d7 z8 d8 z9 d9 z10 d10 z11 d11 z12 d12 z13 d13 z14 d14 z15 d15 : Addr} {t0_0 t0_1 t0_2 t0_3 t1_0 t1_1 t1_2 t1_3 t2_0 t2_1 t2_2 t2_3 t3_0 t3_1 t3_2 t3_3 t4_0 t4_1 t4_2 t4_3 t5_0 t5_1 t5_2 t5_3 t6_0 t6_1 t6_2 t6_3 t7_0 t7_1 t7_2 t7_3 t8_0 t8_1 t8_2 t8_3 t9_0 t9_1 t9_2 t9_3 t10_0 t10_1 t10_2 t10_3 t11_0 t11_1 t11_2 t11_3 t12_0 t12_1 t12_2 t12_3 t13_0 t13_1 t13_2 t13_3 t14_0 t14_1 t14_2 t14_3 t15_0 t15_1 t15_2 t15_3 : Tok} (N : News h₀ L h ((D, W.listOf #[Value.ref z0, Value.ref z1, Value.ref z2, Value.ref z3, Value.ref z4, Value.ref z5, Value.ref z6, Value.ref z7, Value.ref z8, Value.ref z9, Value.ref z10, Value.ref z11, Value.ref z12, Value.ref z13, Value.ref z14, Value.ref z15] 0) :: (z15, instObj 333 d15) :: (d15, fqd w.params p ((0 : Int).fmod p) t15_0 t15_1 t15_2 t15_3) :: (z14, instObj 333 d14) :: (d14, fqd w.params p ((1 : Int).fmod p) t14_0 t14_1 t14_2 t14_3) :: (z13, instObj 333 d13) :: (d13, fqd w.params p (r4) t13_0 t13_1 t13_2 t13_3) :: (z12, instObj 333 d12) :: (d12, fqd w.params p ((-n).fmod p) t12_0 t12_1 t12_2 t12_3) :: (z11, instObj 333 d11) :: (d11, fqd w.params p ((r3 * j).fmod p) t11_0 t11_1 t11_2 t11_3) :: (z10, instObj 333 d10) :: (d10, fqd w.params p ((n * r2).fmod p) t10_0 t10_1 t10_2 t10_3) :: (z9, instObj 333 d9) :: (d9, fqd w.params p ((n * j).fmod p) t9_0 t9_1 t9_2 t9_3) :: (z8, instObj 333 d8) :: (d8, fqd w.params p ((n * j).fmod p) t8_0 t8_1 t8_2 t8_3) :: (z7, instObj 333 d7) :: (d7, fqd w.params p ((j - n).fmod p) t7_0 t7_1 t7_2 t7_3) :: (z6, instObj 333 d6) :: (d6, fqd w.params p ((n - j).fmod p) t6_0 t6_1 t6_2 t6_3) :: (z5, instObj 333 d5) :: (d5, fqd w.params p ((n + j).fmod p) t5_0 t5_1 t5_2 t5_3) :: (z4, instObj 333 d4) :: (d4, fqd w.params p ((n + j).fmod p) t4_0 t4_1 t4_2 t4_3) :: (z3, instObj 333 d3) :: (d3, fqd w.params p ((n * r1).fmod p) t3_0 t3_1 t3_2 t3_3) :: (z2, instObj 333 d2) :: (d2, fqd w.params p ((n * k).fmod p) t2_0 t2_1 t2_2 t2_3) :: (z1, instObj 333 d1) :: (d1, fqd w.params p ((n - k).fmod p) t1_0 t1_1 t1_2 t1_3) :: (z0, instObj 333 d0) :: (d0, fqd w.params p ((n + k).fmod p) t0_0 t0_1 t0_2 t0_3) :: news)) :
    ∃ (z d : Nat → Addr) (t : Nat → Nat → Tok), News h₀ L h ((D, W.listOf #[Value.ref (z 0), Value.ref (z 1), Value.ref (z 2), Value.ref (z 3), Value.ref (z 4), Value.ref (z 5), Value.ref (z 6), Value.ref (z 7), Value.ref (z 8), Value.ref (z 9), Value.ref (z 10), Value.ref (z 11), Value.ref (z 12), Value.ref (z 13), Value.ref (z 14), Value.ref (z 15)] 0) :: ((z 15), instObj 333 (d 15)) :: ((d 15), fqd w.params p ((0 : Int).fmod p) (t 15 0) (t 15 1) (t 15 2) (t 15 3)) :: ((z 14), instObj 333 (d 14)) :: ((d 14), fqd w.params p ((1 : Int).fmod p) (t 14 0) (t 14 1) (t 14 2) (t 14 3)) :: ((z 13), instObj 333 (d 13)) :: ((d 13), fqd w.params p (r4) (t 13 0) (t 13 1) (t 13 2) (t 13 3)) :: ((z 12), instObj 333 (d 12)) :: ((d 12), fqd w.params p ((-n).fmod p) (t 12 0) (t 12 1) (t 12 2) (t 12 3)) :: ((z 11), instObj 333 (d 11)) :: ((d 11), fqd w.params p ((r3 * j).fmod p) (t 11 0) (t 11 1) (t 11 2) (t 11 3)) :: ((z 10), instObj 333 (d 10)) :: ((d 10), fqd w.params p ((n * r2).fmod p) (t 10 0) (t 10 1) (t 10 2) (t 10 3)) :: ((z 9), instObj 333 (d 9)) :: ((d 9), fqd w.params p ((n * j).fmod p) (t 9 0) (t 9 1) (t 9 2) (t 9 3)) :: ((z 8), instObj 333 (d 8)) :: ((d 8), fqd w.params p ((n * j).fmod p) (t 8 0) (t 8 1) (t 8 2) (t 8 3)) :: ((z 7), instObj 333 (d 7)) :: ((d 7), fqd w.params p ((j - n).fmod p) (t 7 0) (t 7 1) (t 7 2) (t 7 3)) :: ((z 6), instObj 333 (d 6)) :: ((d 6), fqd w.params p ((n - j).fmod p) (t 6 0) (t 6 1) (t 6 2) (t 6 3)) :: ((z 5), instObj 333 (d 5)) :: ((d 5), fqd w.params p ((n + j).fmod p) (t 5 0) (t 5 1) (t 5 2) (t 5 3)) :: ((z 4), instObj 333 (d 4)) :: ((d 4), fqd w.params p ((n + j).fmod p) (t 4 0) (t 4 1) (t 4 2) (t 4 3)) :: ((z 3), instObj 333 (d 3)) :: ((d 3), fqd w.params p ((n * r1).fmod p) (t 3 0) (t 3 1) (t 3 2) (t 3 3)) :: ((z 2), instObj 333 (d 2)) :: ((d 2), fqd w.params p ((n * k).fmod p) (t 2 0) (t 2 1) (t 2 2) (t 2 3)) :: ((z 1), instObj 333 (d 1)) :: ((d 1), fqd w.params p ((n - k).fmod p) (t 1 0) (t 1 1) (t 1 2) (t 1 3)) :: ((z 0), instObj 333 (d 0)) :: ((d 0), fqd w.params p ((n + k).fmod p) (t 0 0) (t 0 1) (t 0 2) (t 0 3)) :: news) :=
  ⟨fun i => [z0, z1, z2, z3, z4, z5, z6, z7, z8, z9, z10, z11, z12, z13, z14, z15].getD i 0, fun i => [d0, d1, d2, d3, d4, d5, d6, d7, d8, d9, d10, d11, d12, d13, d14, d15].getD i 0, fun i q => ([[t0_0, t0_1, t0_2, t0_3], [t1_0, t1_1, t1_2, t1_3], [t2_0, t2_1, t2_2, t2_3], [t3_0, t3_1, t3_2, t3_3], [t4_0, t4_1, t4_2, t4_3], [t5_0, t5_1, t5_2, t5_3], [t6_0, t6_1, t6_2, t6_3], [t7_0, t7_1, t7_2, t7_3], [t8_0, t8_1, t8_2, t8_3], [t9_0, t9_1, t9_2, t9_3], [t10_0, t10_1, t10_2, t10_3], [t11_0, t11_1, t11_2, t11_3], [t12_0, t12_1, t12_2, t12_3], [t13_0, t13_1, t13_2, t13_3], [t14_0, t14_1, t14_2, t14_3], [t15_0, t15_1, t15_2, t15_3]].getD i []).getD q 0, N⟩
set_option maxHeartbeats 8000000 in
theorem found_f {w : World} {mean : ExcName → Option Value} {mg mb : Str → Option Value} {dp un : Nat} {gd : Option (List Code)} {cn : Str} {cs : Scope} {L a : Addr} {ccd : Value} {cl : List (Str × Addr)} {outer : List Env} {A₀ : Around} {base h₀ : Heap}
    {m : Str → Option Value} {news : List (Addr × Obj)} {s : Shared} {Q E : Value → Shared → Prop} (B : Below A₀ base outer h₀) (F : Fr h₀ L s.heap m) (X : (hd.heap_39 w.params).In h₀) (N : News h₀ L s.heap news) (T : Top view (looseW view loose) mean mg mb h₀) (hk : cs.kind = .function)
    {e j p : Int} {tj te : Tok} {x dx : Addr} {n : Int} {x1 x2 x3 x4 : Tok} (hx : (x, instObj 333 dx) ∈ news) (hdx : (dx, fqd w.params p n x1 x2 x3 x4) ∈ news) {y dy : Addr} {k : Int} {y1 y2 y3 y4 : Tok} (hy : (y, instObj 333 dy) ∈ news) (hdy : (dy, fqd w.params p k y1 y2 y3 y4) ∈ news) (hm : Mod p) (he : Exp e) (sn : Sm n) (sk : Sm k) (sj : Sm j) (hd : dp + 100 < recursionLimit) (hu : un + 1000 < cLine)
    (ret : ∀ r1 r2 r3 r4 D (z d : Nat → Addr) (t : Nat → Nat → Tok) h' tk', IsInv p k r1 → IsInv p j r2 → IsInv p n r3 → PowIs p n e r4 → Fr h₀ L h' m → News h₀ L h' ((D, W.listOf #[Value.ref (z 0), Value.ref (z 1), Value.ref (z 2), Value.ref (z 3), Value.ref (z 4), Value.ref (z 5), Value.ref (z 6), Value.ref (z 7), Value.ref (z 8), Value.ref (z 9), Value.ref (z 10), Value.ref (z 11), Value.ref (z 12), Value.ref (z 13), Value.ref (z 14), Value.ref (z 15)] 0) :: ((z 15), instObj 333 (d 15)) :: ((d 15), fqd w.params p ((0 : Int).fmod p) (t 15 0) (t 15 1) (t 15 2) (t 15 3)) :: ((z 14), instObj 333 (d 14)) :: ((d 14), fqd w.params p ((1 : Int).fmod p) (t 14 0) (t 14 1) (t 14 2) (t 14 3)) :: ((z 13), instObj 333 (d 13)) :: ((d 13), fqd w.params p (r4) (t 13 0) (t 13 1) (t 13 2) (t 13 3)) :: ((z 12), instObj 333 (d 12)) :: ((d 12), fqd w.params p ((-n).fmod p) (t 12 0) (t 12 1) (t 12 2) (t 12 3)) :: ((z 11), instObj 333 (d 11)) :: ((d 11), fqd w.params p ((r3 * j).fmod p) (t 11 0) (t 11 1) (t 11 2) (t 11 3)) :: ((z 10), instObj 333 (d 10)) :: ((d 10), fqd w.params p ((n * r2).fmod p) (t 10 0) (t 10 1) (t 10 2) (t 10 3)) :: ((z 9), instObj 333 (d 9)) :: ((d 9), fqd w.params p ((n * j).fmod p) (t 9 0) (t 9 1) (t 9 2) (t 9 3)) :: ((z 8), instObj 333 (d 8)) :: ((d 8), fqd w.params p ((n * j).fmod p) (t 8 0) (t 8 1) (t 8 2) (t 8 3)) :: ((z 7), instObj 333 (d 7)) :: ((d 7), fqd w.params p ((j - n).fmod p) (t 7 0) (t 7 1) (t 7 2) (t 7 3)) :: ((z 6), instObj 333 (d 6)) :: ((d 6), fqd w.params p ((n - j).fmod p) (t 6 0) (t 6 1) (t 6 2) (t 6 3)) :: ((z 5), instObj 333 (d 5)) :: ((d 5), fqd w.params p ((n + j).fmod p) (t 5 0) (t 5 1) (t 5 2) (t 5 3)) :: ((z 4), instObj 333 (d 4)) :: ((d 4), fqd w.params p ((n + j).fmod p) (t 4 0) (t 4 1) (t 4 2) (t 4 3)) :: ((z 3), instObj 333 (d 3)) :: ((d 3), fqd w.params p ((n * r1).fmod p) (t 3 0) (t 3 1) (t 3 2) (t 3 3)) :: ((z 2), instObj 333 (d 2)) :: ((d 2), fqd w.params p ((n * k).fmod p) (t 2 0) (t 2 1) (t 2 2) (t 2 3)) :: ((z 1), instObj 333 (d 1)) :: ((d 1), fqd w.params p ((n - k).fmod p) (t 1 0) (t 1 1) (t 1 2) (t 1 3)) :: ((z 0), instObj 333 (d 0)) :: ((d 0), fqd w.params p ((n + k).fmod p) (t 0 0) (t 0 1) (t 0 2) (t 0 3)) :: news) → Q (.ref D) { s with heap := h', toks := tk' }) :
    wpAny (model PySem.Challenge.rw_lh0031_01.row.prog w) (ktrTop dp un gd cn cs L a ccd cl outer) (call (.ref 363) [.ref x, .ref y, .int j tj, .int e te]) Q E s := by
  revert X; k_fill; intro X
  have hp : 0 < p := by have := hm.1; omega
  refine wpAny_call ?_
  k_dflt ktr_enter
  k_steps
  obtain ⟨z, d, t, N9⟩ := pack_f (w := w) (news := news) (cb_drop (by assumption) (by repeat first | exact sub_refl | refine sub_keep ?_ | refine sub_skip ?_))
  exact ret _ _ _ _ _ z d t _ _ (by assumption) (by assumption) (by assumption) (by assumption) (by assumption) N9
local macro_rules | `(tactic| walk_at "my khe1") => `(tactic| (case khe => first | assumption | exact fmod_lo (by decide)))
local macro_rules | `(tactic| walk_at "my si") => `(tactic| (case si => first | assumption | exact Sm.fmod (by assumption) | exact IsInv.sm (by assumption) (by assumption) | exact PowIs.sm (by assumption) (by assumption)))
local macro_rules | `(tactic| walk_at "my sj") => `(tactic| (case sj => first | assumption | exact Sm.fmod (by assumption) | exact IsInv.sm (by assumption) (by assumption) | exact PowIs.sm (by assumption) (by assumption)))
local macro_rules | `(tactic| walk_at "my q17") => `(tactic| (walk_at "my k"; walk_at "my hp"; walk_at "my khe1"; walk_at "my si"; walk_at "my sj"; walk_at "my sk"; walk_at "my du"))
local macro_rules | `(tactic| walk_at "my in7") => `(tactic| (intro ys' r1' r2' r3' D' h' tk' I' J1' J2' J3' F' N'; (try k_sweep); (try dsimp only)))
local macro_rules | `(tactic| walk_at "my kx1") => `(tactic| (case kx => first | assumption | k_mem))
local macro_rules | `(tactic| walk_at "my kdx1") => `(tactic| (case kdx => first | assumption | k_mem))
local macro_rules | `(tactic| walk_at "my khn") => `(tactic| (case khn => rfl))
local macro_rules | `(tactic| walk_at "my q18") => `(tactic| (walk_at "my k"; walk_at "my kx1"; walk_at "my kdx1"; walk_at "my khn"; walk_at "my du"))
local macro_rules | `(tactic| walk_at "my q19") => `(tactic| (walk_at "my k"; walk_at "my kx1"; walk_at "my kdx1"; walk_at "my kS"; walk_at "my du"))
section
/-! part L1 -/
section
local macro_rules | `(tactic| walk_at "eval Call") => `(tactic| (k_dflt refine Call_ ?_))
local macro_rules | `(tactic| walk_at "subscriptTail Name Constant ref int") => `(tactic| ((with_reducible show wpAny _ _ (subscriptTail _ _ (Value.ref _) (Value.int _ _)) _ _ _); (with_unfolding_all refine' item_at ?k1 ?k2 ?k3 ?k4 ?k5 ?_; (case k1 => exact News.isList (by assumption) (by k_mem)); (case k2 => assumption); (case k3 => decide); (case k4 => decide); (case k5 => exact rfl); k_whole); intro t'))
local macro_rules | `(tactic| walk_at "subscriptTail Call Name nil nil BinOp ref int") => `(tactic| (k_here; (with_reducible show wpAny _ _ (subscriptTail _ _ (Value.ref _) (Value.int _ _)) _ _ _); (with_unfolding_all refine' item_prime ?k1 ?k2 ?k3 ?k4 ?_); (case k1 => exact News.isList (by assumption) (by k_mem)); (case k2 => l_ints); (case k3 => exact fmod_lo (by decide)); (case k4 => exact fmod_hi (by decide)); intro p t' hpr; (have hm := hpr.m); (have hp1 : 1 < p := hm.1)))
local macro_rules | `(tactic| walk_at "call ref") => `(tactic| (k_here; (with_reducible show wpAny _ _ (call (Value.ref 356) _) _ _ _); k_dflt (refine' c_due ?k1 ?k2 ?k3 ?k4 ?k5 ?kK ?hp ?khe ?si ?sj ?sk ?kd ?ku ?_; walk_at "my q17"); walk_at "my in7"))
local macro_rules | `(tactic| walk_at "call ref") => `(tactic| (k_here; (with_reducible show wpAny _ _ (call (Value.ref 370) [_, _, Value.ref 186, _, _]) _ _ _); k_dflt (refine' holds_o ?k1 ?k2 ?k3 ?k4 ?k5 ?kK ?kx ?kdx ?khn ?kd ?ku ?_; walk_at "my q18"); walk_at "my in3"))
local macro_rules | `(tactic| walk_at "call ref") => `(tactic| (k_here; (with_reducible show wpAny _ _ (call (Value.ref 377) [_, _, _, Value.ref 186, _]) _ _ _); k_dflt (refine' refused_o ?k1 ?k2 ?k3 ?k4 ?k5 ?kK ?kx ?kdx ?kS ?kd ?ku ?_; walk_at "my q19"); walk_at "my in3"))
local macro_rules | `(tactic| walk_at "call ref") => `(tactic| (k_here; (with_reducible show wpAny _ _ (call (Value.ref 370) [_, _, Value.ref 333, _, _]) _ _ _); k_dflt (refine' holds_f ?k1 ?k2 ?k3 ?k4 ?k5 ?kK ?kx ?kdx ?khn ?kd ?ku ?_; walk_at "my q18"); walk_at "my in3"))
local macro_rules | `(tactic| walk_at "call ref") => `(tactic| (k_here; (with_reducible show wpAny _ _ (call (Value.ref 377) [_, _, _, Value.ref 333, _]) _ _ _); k_dflt (refine' refused_f ?k1 ?k2 ?k3 ?k4 ?k5 ?kK ?kx ?kdx ?kS ?kd ?ku ?_; walk_at "my q19"); walk_at "my in3"))
set_option maxHeartbeats 8000000 in
theorem t1 : PySem.Challenge.rw_lh0031_01.Holds := hd (by
  k_go0
  (all_goals try k_fold)
  repeat ((fail_if_success (with_reducible show wpAny _ _ (execs _ _) _ _ _)); first | (k_unfold; (try dsimp only)) | walk1 | (dsimp only; walk1))
  iterate 1 (first | (k_unfold; (try dsimp only)) | walk1 | (dsimp only; walk1))
  repeat ((fail_if_success (with_reducible show wpAny _ _ (execs _ _) _ _ _)); first | (k_unfold; (try dsimp only)) | walk1 | (dsimp only; walk1))
  rename IntsAre _ (List.map _ _) => hI8
  rename PyData.layable0 _ = true => hL9
  obtain ⟨g0, g1, g2, g3, g4, g5, hI9, sm3⟩ := six hL9 hI8
  clear hI8
  repeat ((fail_if_success (with_reducible show wpAny _ _ (exec (Stmt.If _ _ _ _) _) _ _ _)); first | (k_unfold; (try dsimp only)) | walk1 | (dsimp only; walk1) | skip)
  rename Fr _ _ _ _ => F9
  rename News _ _ _ _ => N9
  refine join_num F9 N9 ?way fun r t h' tk' smr F' N' => ?_
  case way =>
    repeat (any_goals (first | (k_unfold; (try dsimp only)) | walk1 | (dsimp only; walk1)))
    · refine' ⟨_, _, ?jg, ?jF, ?jN, ?js⟩
      case jF => assumption
      case jN => assumption
      case js => exact rfl
      case jg =>
        exact sm_prod (by assumption)
    · refine' join_same ?jm ?jg ?jF ?jN ?js
      case jm => exact rfl
      case jF => assumption
      case jN => assumption
      case js => exact rfl
      case jg =>
        exact sm3
  clear F9 N9
  repeat ((fail_if_success (with_reducible show wpAny _ _ (exec (Stmt.For _ _ _ _ _) _) _ _ _)); (first | (k_unfold; (try dsimp only)) | walk1 | (dsimp only; walk1)))
  repeat ((fail_if_success (with_reducible show wpAny _ _ (exec (Stmt.Assign _ _ _) _) _ _ _)); (first | (k_unfold; (try dsimp only)) | walk1 | (dsimp only; walk1)))
  rename News _ _ _ _ => N5
  have K0 := keep_of N5
  repeat ((fail_if_success (with_reducible show wpAny _ _ (call (Value.ref 363) _) _ _ _)); (first | (k_unfold; (try dsimp only)) | walk1 | (dsimp only; walk1)))
  rename IsInv _ (Int.fmod g2 _) _ => J1
  rename IsInv _ (Int.fmod g1 _) _ => J3
  rename IsInv _ r _ => J2
  rename IntsAre _ (dueL _ _ _ _ _ _ _ _) => I5
  rename News _ _ _ _ => N5
  have K1 := keep_of N5
  k_dflt (refine' found_f ?k1 ?k2 ?k3 ?k4 ?k5 ?kK ?kx ?kdx ?ky ?kdy ?hm ?he ?sn ?sk ?sj ?kd ?ku ?_)
  case k1 => k_asm
  case k2 => k_asm
  case k3 => k_asm
  case k4 => k_asm
  case k5 => k_asm
  case kK => first | exact rfl | assumption
  case kx => k_mem
  case kdx => k_mem
  case ky => k_mem
  case kdy => k_mem
  case hm => assumption
  case he => exact exp_of
  case sn => exact Sm.fmod (by assumption)
  case sk => exact Sm.fmod (by assumption)
  case sj => assumption
  case kd => decide
  case ku => decide
  intro q1 q2 q3 q4 FD fz fd ft h' tk' Q1 Q2 Q3 Q4 F' N'
  (try k_sweep)
  (try dsimp only)
  have M := mem16_f N' (found_due (by assumption) J1 J2 J3 Q1 Q2 Q3 Q4)
  repeat ((fail_if_success (with_reducible show wpAny _ _ (pyIter _) _ _ _)); (first | (k_unfold; (try dsimp only)) | walk1 | (dsimp only; walk1)))
  rename Fr _ _ _ _ => F5
  rename News _ _ _ _ => N5
  rename IsRange _ _ _ _ _ _ _ _ => rgX
  (with_unfolding_all refine iter_rangeLawO (n := 16) [] (by rfl) (by first | exact rgX | assumption) (by first | decide | rfl) (by first | rfl | decide) F5 N5 (fun kk kt ku h' tk' ko hlt' hlo' hhi' F' F5N => ?_) (fun ku h' tk' F' N' => ?_))
  · clear hlt'
    obtain ⟨M1, M2, M3⟩ := M kk hlo' hhi'
    have M1' := mem_up F5N M1
    have M2' := mem_up F5N M2
    clear F5 N5 M
    repeat ((fail_if_success (with_reducible show wpAny _ _ (subscriptTail _ _ (Value.ref _) (Value.int _ _)) _ _ _)); (first | (k_unfold; (try dsimp only)) | walk1 | (dsimp only; walk1)))
    refine' item_listR (News.isList F5N ?k1) hlo' ?k3 M3 ?_
    case k1 => k_mem
    case k3 => omega
    repeat ((fail_if_success (with_reducible show wpAny _ _ (subscriptTail _ _ (Value.ref _) (Value.int _ _)) _ _ _)); (first | (k_unfold; (try dsimp only)) | walk1 | (dsimp only; walk1)))
    refine' item_list_intsR (News.isList F5N ?k1) I5 hlo' hhi' ?k3 fun it => ?_
    case k1 => k_mem
    case k3 => omega
    repeat (any_goals ((first | (k_unfold; (try dsimp only)) | walk1 | (dsimp only; walk1))))
  replace N' := drop_to K1 N' (by repeat first | exact sub_refl | refine sub_keep ?_ | refine sub_skip ?_)
  clear F5 N5 M
  with_reducible change wpAny _ _ (execs _ _) _ _ _
  repeat ((fail_if_success (with_reducible show wpAny _ _ (call (Value.ref 391) _) _ _ _)); (first | (k_unfold; (try dsimp only)) | walk1 | (dsimp only; walk1)))
  k_dflt (refine' compares_f ?k1 ?k2 ?k3 ?k4 ?k5 ?kK ?kx ?kdx ?ky ?kdy ?khn ?khp ?kd ?ku ?_)
  case k1 => k_asm
  case k2 => k_asm
  case k3 => k_asm
  case k4 => k_asm
  case k5 => k_asm
  case kK => first | exact rfl | assumption
  case kx => k_mem
  case kdx => k_mem
  case ky => k_mem
  case kdy => k_mem
  case khn => exact ne_succ (by assumption)
  case khp => omega
  case kd => decide
  case ku => decide
  intro h' tk' F' N'
  (try k_sweep)
  (try dsimp only)
  repeat ((fail_if_success (with_reducible show wpAny _ _ (pyIter _) _ _ _)); (first | (k_unfold; (try dsimp only)) | walk1 | (dsimp only; walk1)))
  rename Fr _ _ _ _ => F5
  rename News _ _ _ _ => N5
  rename IsRange _ _ _ _ _ _ _ _ => rgX
  (with_unfolding_all refine iter_rangeLawO (n := 8) [Str.ofString "strange"] (by rfl) (by first | exact rgX | assumption) (by first | decide | rfl) (by first | rfl | decide) F5 N5 (fun kk kt ku h' tk' ko hlt' hlo' hhi' F' F5N => ?_) (fun ku h' tk' F' N' => ?_))
  · (try k_lt hlt')
    clear F5 N5
    repeat ((fail_if_success (with_reducible show wpAny _ _ (subscriptTail (Expr.List _ _) _ (Value.ref _) (Value.int _ _)) _ _ _)); (first | (k_unfold; (try dsimp only)) | walk1 | (dsimp only; walk1)))
    rename News _ _ _ _ => N6
    refine' pick_f N6 ?k1 (fmod_lo (by decide)) (fmod_hi (by decide)) ?hy ?hdy fun pv ptv pTV pxs sS => ?_
    case k1 => k_mem
    case hy => k_mem
    case hdy => k_mem
    repeat (any_goals ((first | (k_unfold; (try dsimp only)) | walk1 | (dsimp only; walk1))))
  replace N' := drop_to K0 N' (by repeat first | exact sub_refl | refine sub_keep ?_ | refine sub_skip ?_)
  clear F5 N5 K1 K0
  with_reducible change wpAny _ _ (execs _ _) _ _ _
  iterate 2 (first | (k_unfold; (try dsimp only)) | walk1 | (dsimp only; walk1))
  refine' unrEnd1 ?uF N' ?uO ⟨?uK, ?_⟩
  case uF => assumption
  case uO => ktu_offL
  case uK => k_subL
  repeat ((fail_if_success (with_reducible show wpAny _ _ (exec (Stmt.Assign _ _ _) _) _ _ _)); (first | (k_unfold; (try dsimp only)) | walk1 | (dsimp only; walk1)))
  rename News _ _ _ _ => N5
  have K0 := keep_of N5
  repeat ((fail_if_success (with_reducible show wpAny _ _ (call (Value.ref 363) _) _ _ _)); (first | (k_unfold; (try dsimp only)) | walk1 | (dsimp only; walk1)))
  rename News _ _ _ _ => N5
  have K1 := keep_of N5
  k_dflt (refine' found_o ?k1 ?k2 ?k3 ?k4 ?k5 ?kK ?kx ?kdx ?ky ?kdy ?hm ?he ?sn ?sk ?sj ?kd ?ku ?_)
  case k1 => k_asm
  case k2 => k_asm
  case k3 => k_asm
  case k4 => k_asm
  case k5 => k_asm
  case kK => first | exact rfl | assumption
  case kx => k_mem
  case kdx => k_mem
  case ky => k_mem
  case kdy => k_mem
  case hm => assumption
  case he => exact exp_of
  case sn => exact Sm.fmod (by assumption)
  case sk => exact Sm.fmod (by assumption)
  case sj => assumption
  case kd => decide
  case ku => decide
  intro q1 q2 q3 q4 FD fz fd ft h' tk' Q1 Q2 Q3 Q4 F' N'
  (try k_sweep)
  (try dsimp only)
  have M := mem16_o N' (found_due (by assumption) J1 J2 J3 Q1 Q2 Q3 Q4)
  repeat ((fail_if_success (with_reducible show wpAny _ _ (pyIter _) _ _ _)); (first | (k_unfold; (try dsimp only)) | walk1 | (dsimp only; walk1)))
  rename Fr _ _ _ _ => F5
  rename News _ _ _ _ => N5
  rename IsRange _ _ _ _ _ _ _ _ => rgX
  (with_unfolding_all refine iter_rangeLawO (n := 16) [] (by rfl) (by first | exact rgX | assumption) (by first | decide | rfl) (by first | rfl | decide) F5 N5 (fun kk kt ku h' tk' ko hlt' hlo' hhi' F' F5N => ?_) (fun ku h' tk' F' N' => ?_))
  · clear hlt'
    obtain ⟨M1, M2, M3⟩ := M kk hlo' hhi'
    have M1' := mem_up F5N M1
    have M2' := mem_up F5N M2
    clear F5 N5 M
    repeat ((fail_if_success (with_reducible show wpAny _ _ (subscriptTail _ _ (Value.ref _) (Value.int _ _)) _ _ _)); (first | (k_unfold; (try dsimp only)) | walk1 | (dsimp only; walk1)))
    refine' item_listR (News.isList F5N ?k1) hlo' ?k3 M3 ?_
    case k1 => k_mem
    case k3 => omega
    repeat ((fail_if_success (with_reducible show wpAny _ _ (subscriptTail _ _ (Value.ref _) (Value.int _ _)) _ _ _)); (first | (k_unfold; (try dsimp only)) | walk1 | (dsimp only; walk1)))
    refine' item_list_intsR (News.isList F5N ?k1) I5 hlo' hhi' ?k3 fun it => ?_
    case k1 => k_mem
    case k3 => omega
    repeat (any_goals ((first | (k_unfold; (try dsimp only)) | walk1 | (dsimp only; walk1))))
  replace N' := drop_to K1 N' (by repeat first | exact sub_refl | refine sub_keep ?_ | refine sub_skip ?_)
  clear F5 N5 M
  with_reducible change wpAny _ _ (execs _ _) _ _ _
  repeat ((fail_if_success (with_reducible show wpAny _ _ (call (Value.ref 391) _) _ _ _)); (first | (k_unfold; (try dsimp only)) | walk1 | (dsimp only; walk1)))
  k_dflt (refine' compares_o ?k1 ?k2 ?k3 ?k4 ?k5 ?kK ?kx ?kdx ?ky ?kdy ?khn ?khp ?kd ?ku ?_)
  case k1 => k_asm
  case k2 => k_asm
  case k3 => k_asm
  case k4 => k_asm
  case k5 => k_asm
  case kK => first | exact rfl | assumption
  case kx => k_mem
  case kdx => k_mem
  case ky => k_mem
  case kdy => k_mem
  case khn => exact ne_succ (by assumption)
  case khp => omega
  case kd => decide
  case ku => decide
  intro h' tk' F' N'
  (try k_sweep)
  (try dsimp only)
  repeat ((fail_if_success (with_reducible show wpAny _ _ (pyIter _) _ _ _)); (first | (k_unfold; (try dsimp only)) | walk1 | (dsimp only; walk1)))
  rename Fr _ _ _ _ => F5
  rename News _ _ _ _ => N5
  rename IsRange _ _ _ _ _ _ _ _ => rgX
  (with_unfolding_all refine iter_rangeLawO (n := 8) [Str.ofString "strange"] (by rfl) (by first | exact rgX | assumption) (by first | decide | rfl) (by first | rfl | decide) F5 N5 (fun kk kt ku h' tk' ko hlt' hlo' hhi' F' F5N => ?_) (fun ku h' tk' F' N' => ?_))
  · (try k_lt hlt')
    clear F5 N5
    repeat ((fail_if_success (with_reducible show wpAny _ _ (subscriptTail (Expr.List _ _) _ (Value.ref _) (Value.int _ _)) _ _ _)); (first | (k_unfold; (try dsimp only)) | walk1 | (dsimp only; walk1)))
    rename News _ _ _ _ => N6
    refine' pick_o N6 ?k1 (fmod_lo (by decide)) (fmod_hi (by decide)) ?hy ?hdy fun pv ptv pTV pxs sS => ?_
    case k1 => k_mem
    case hy => k_mem
    case hdy => k_mem
    repeat (any_goals ((first | (k_unfold; (try dsimp only)) | walk1 | (dsimp only; walk1))))
  replace N' := drop_to K0 N' (by repeat first | exact sub_refl | refine sub_keep ?_ | refine sub_skip ?_)
  clear F5 N5 K1 K0
  with_reducible change wpAny _ _ (execs _ _) _ _ _
  iterate 2 (first | (k_unfold; (try dsimp only)) | walk1 | (dsimp only; walk1))
  refine' unrEnd1 ?uF N' ?uO ⟨?uK, ?_⟩
  case uF => assumption
  case uO => ktu_offL
  case uK => k_subL
  k_steps
  all_goals (try k_data)
  all_goals w_report)
end
end
end Mine
theorem PySem.Challenge.cw_lh0031_01_holds : PySem.Challenge.rw_lh0031_01.Holds :=
  Mine.t1
