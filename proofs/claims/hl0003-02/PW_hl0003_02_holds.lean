import PyProof.Rows.All
import Wide.All
import OpenK.AllK
import Wide.FinOn
import Lean
import PySem.Challenge.RW_hl0003_02
open PySem PySem.W PySem.Calls PyProof.Rows
set_option Elab.async false
set_option maxRecDepth 100000
set_option maxHeartbeats 8000000
set_option rowWalk.seconds 0
set_option compiler.extract_closed false
namespace Mine
open_top hd for PySem.Challenge.rw_hl0003_02
theorem walk_off : True := by
  w_top off
  trivial
section
variable {M : Model} {A : Around} {E : Value → Shared → Prop} {s : Shared}
theorem gd_ii {f a b c d} {Q : Value → Shared → Prop} (h : wpAny M A (call (Value.builtin f) [Value.int a b, Value.int c d]) Q E s) : wpAny M A (call (Value.builtin f) [Value.int a b, Value.int c d]) Q E s := h
theorem gd_ri {f a b c} {Q : Value → Shared → Prop} (h : wpAny M A (call (Value.builtin f) [Value.ref a, Value.int b c]) Q E s) : wpAny M A (call (Value.builtin f) [Value.ref a, Value.int b c]) Q E s := h
theorem gd_rv {f a v} {Q : Value → Shared → Prop} (h : wpAny M A (call (Value.builtin f) [Value.ref a, v]) Q E s) : wpAny M A (call (Value.builtin f) [Value.ref a, v]) Q E s := h
theorem gd_r {f a} {Q : Value → Shared → Prop} (h : wpAny M A (call (Value.builtin f) [Value.ref a]) Q E s) : wpAny M A (call (Value.builtin f) [Value.ref a]) Q E s := h
theorem gd_f (n : Nat) {xs} {Q : Value → Shared → Prop} (h : wpAny M A (call (Value.ref n) xs) Q E s) : wpAny M A (call (Value.ref n) xs) Q E s := h
theorem gd_it {r p w B h0 e x b Q R} (h : wpAny M A (pyIter (Value.ref r)) (fun it s₂ => LoopAtV p w B h0 e x b Q R it s₂) E s) : wpAny M A (pyIter (Value.ref r)) (fun it s₂ => LoopAtV p w B h0 e x b Q R it s₂) E s := h
theorem gd_sL {a b c d e f} {Q : Value → Shared → Prop} (h : wpAny M A (subscriptTail (PySem.Expr.List a b) c (Value.ref d) (Value.int e f)) Q E s) : wpAny M A (subscriptTail (PySem.Expr.List a b) c (Value.ref d) (Value.int e f)) Q E s := h
theorem gd_sB {a b c d e f g i} {Q : Value → Shared → Prop} (h : wpAny M A (subscriptTail (PySem.Expr.BinOp a b c d) e (Value.ref f) (Value.int g i)) Q E s) : wpAny M A (subscriptTail (PySem.Expr.BinOp a b c d) e (Value.ref f) (Value.int g i)) Q E s := h
theorem gd_sNN {a b c d e f g} {Q : Value → Shared → Prop} (h : wpAny M A (subscriptTail (PySem.Expr.Name a b) (PySem.Expr.Name c d) (Value.ref e) (Value.int f g)) Q E s) : wpAny M A (subscriptTail (PySem.Expr.Name a b) (PySem.Expr.Name c d) (Value.ref e) (Value.int f g)) Q E s := h
theorem gd_sN {a c d e f g} {Q : Value → Shared → Prop} (h : wpAny M A (subscriptTail a (PySem.Expr.Name c d) (Value.ref e) (Value.int f g)) Q E s) : wpAny M A (subscriptTail a (PySem.Expr.Name c d) (Value.ref e) (Value.int f g)) Q E s := h
theorem gd_sS {a b c d e} {Q : Value → Shared → Prop} (h : wpAny M A (subscriptTail a (PySem.Expr.Slice none none (some b) c) (Value.ref d) (Value.ref e)) Q E s) : wpAny M A (subscriptTail a (PySem.Expr.Slice none none (some b) c) (Value.ref d) (Value.ref e)) Q E s := h
theorem gd_s {a b d e f} {Q : Value → Shared → Prop} (h : wpAny M A (subscriptTail a b (Value.ref d) (Value.int e f)) Q E s) : wpAny M A (subscriptTail a b (Value.ref d) (Value.int e f)) Q E s := h
theorem gd_t {a} {Q : Bool → Shared → Prop} (h : wpAny M A (truthy (Value.ref a)) Q E s) : wpAny M A (truthy (Value.ref a)) Q E s := h
end
section

theorem pow_cast (s : Nat) : (2 : Int) ^ s = ((2 ^ s : Nat) : Int) := by
  rw [Int.natCast_pow]; rfl
theorem up_eq (x : Int) (hx : 0 ≤ x) (s : Nat) : x.fdiv (2 ^ s) = ((x.toNat / 2 ^ s : Nat) : Int) := by
  obtain ⟨X, rfl⟩ := Int.eq_ofNat_of_zero_le hx
  rw [pow_cast, Int.fdiv_eq_ediv_of_nonneg _ (Int.natCast_nonneg _)]
  rfl
theorem and_up (X s : Nat) : X &&& (X / 2 ^ s * 2 ^ s) = X / 2 ^ s * 2 ^ s := by
  rw [← Nat.shiftRight_eq_div_pow, ← Nat.shiftLeft_eq]
  apply Nat.eq_of_testBit_eq
  intro i
  rw [Nat.testBit_and, Nat.testBit_shiftLeft, Nat.testBit_shiftRight]
  by_cases h : i ≥ s
  · rw [show s + (i - s) = i by omega]; simp [h]
  · simp [h]
theorem low_eq (x : Int) (hx : 0 ≤ x) (s : Nat) : Builtin.bitXor x (x.fdiv (2 ^ s) * 2 ^ s) = ((x.toNat % 2 ^ s : Nat) : Int) := by
  rw [up_eq x hx, pow_cast, ← Int.natCast_mul]
  obtain ⟨X, rfl⟩ := Int.eq_ofNat_of_zero_le hx
  rw [bitXor_and, bitAnd_pp (by omega) (by omega)]
  simp only [Int.toNat_natCast]
  rw [and_up]
  have h1 := Nat.div_add_mod X (2 ^ s)
  rw [Nat.mul_comm] at h1
  omega

/-- k digits of n bits, the least first; the last keeps what is left -/
noncomputable def digs (n : Nat) : Nat → Nat → List Int
  | 0, _ => []
  | 1, x => [(x : Int)]
  | k + 2, x => ((x % 2 ^ n : Nat) : Int) :: digs n (k + 1) (x / 2 ^ n)
theorem digs_len (n : Nat) : ∀ k x, (digs n k x).length = k
  | 0, _ => rfl
  | 1, _ => rfl
  | k + 2, x => by unfold digs; rw [List.length_cons, digs_len n (k + 1)]
theorem digs_step (n k x : Nat) (h : 0 < k) : digs n (k + 1) x = ((x % 2 ^ n : Nat) : Int) :: digs n k (x / 2 ^ n) := by
  cases k with
  | zero => exact absurd h (Nat.lt_irrefl _)
  | succ k => rfl
theorem digs_app (n k : Nat) (hk : 0 < k) : ∀ (j x : Nat), 0 < j → digs n j (x % 2 ^ (n * j)) ++ digs n k (x / 2 ^ (n * j)) = digs n (j + k) x
  | 0, _, h => absurd h (Nat.lt_irrefl _)
  | 1, x, _ => by
    rw [Nat.mul_one, Nat.add_comm, digs_step n k x hk]; rfl
  | j + 2, x, _ => by
    have ih := digs_app n k hk (j + 1) (x / 2 ^ n) (Nat.succ_pos _)
    rw [show j + 2 + k = (j + 1 + k) + 1 by omega, digs_step n (j + 1 + k) x (by omega), ← ih]
    have e : 2 ^ (n * (j + 2)) = 2 ^ n * 2 ^ (n * (j + 1)) := by rw [← Nat.pow_add]; congr 1; rw [Nat.mul_add, Nat.mul_add]; omega
    show ((x % 2 ^ (n * (j + 2)) % 2 ^ n : Nat) : Int) :: digs n (j + 1) (x % 2 ^ (n * (j + 2)) / 2 ^ n) ++ _ = _
    rw [e, Nat.mod_mul_right_mod, Nat.mod_mul_right_div_self, Nat.div_div_eq_div_mul]
    rfl

theorem ns_join (ns A B : List Int) (lo mid hi : Nat) (h1 : lo ≤ mid) (h2 : mid ≤ hi) (h3 : hi ≤ ns.length) (hA : A.length = mid - lo) :
    (ns.take lo ++ A ++ ns.drop mid).take mid ++ B ++ (ns.take lo ++ A ++ ns.drop mid).drop hi = ns.take lo ++ (A ++ B) ++ ns.drop hi := by
  have hl : (ns.take lo ++ A).length = mid := by rw [List.length_append, List.length_take, hA]; omega
  rw [List.take_append_of_le_length (by omega), List.take_of_length_le (by omega), List.drop_append, List.drop_of_length_le (by omega), hl, List.nil_append, List.drop_drop]
  rw [show mid + (hi - mid) = hi by omega]
  simp [List.append_assoc]
theorem ns_leaf (ns : List Int) (x : Int) (lo : Nat) (h : lo < ns.length) : ns.set lo x = ns.take lo ++ [x] ++ ns.drop (lo + 1) := by
  rw [List.set_eq_take_append_cons_drop, if_pos h]; simp

/-- the number of the digits -/
noncomputable def dval (n : Nat) : List Int → Int
  | [] => 0
  | d :: r => d + 2 ^ n * dval n r
theorem dval_app (n : Nat) (ys : List Int) : ∀ xs : List Int, dval n (xs ++ ys) = dval n xs + 2 ^ (n * xs.length) * dval n ys
  | [] => by simp [dval]
  | x :: r => by
    rw [List.cons_append, dval, dval, dval_app n ys r, List.length_cons, Nat.mul_add, Nat.mul_one, Int.pow_add, Int.mul_add]
    rw [Int.mul_comm (2 ^ (n * r.length)) (2 ^ n), Int.mul_assoc, Int.add_assoc]
theorem dval_digs (n : Nat) : ∀ k x, 0 < k → dval n (digs n k x) = x
  | 0, _, h => absurd h (Nat.lt_irrefl _)
  | 1, x, _ => by simp [digs, dval]
  | k + 2, x, _ => by
    unfold digs
    rw [dval, dval_digs n (k + 1) _ (Nat.succ_pos _), pow_cast, ← Int.natCast_mul, ← Int.natCast_add]
    congr 1
    exact Nat.mod_add_div x (2 ^ n)
theorem digs_bound (n : Nat) : ∀ k x, x < 2 ^ (n * k) → ∀ d ∈ digs n k x, 0 ≤ d ∧ d < 2 ^ n
  | 0, _, _, d, hd => by simp [digs] at hd
  | 1, x, h, d, hd => by
    simp only [digs, List.mem_singleton] at hd
    subst hd
    rw [Nat.mul_one] at h
    rw [pow_cast]
    omega
  | k + 2, x, h, d, hd => by
    unfold digs at hd
    rcases List.mem_cons.mp hd with rfl | hd
    · rw [pow_cast]
      have := Nat.mod_lt x (Nat.two_pow_pos n)
      omega
    · refine digs_bound n (k + 1) _ ?_ d hd
      rw [Nat.div_lt_iff_lt_mul (Nat.two_pow_pos n), ← Nat.pow_add]
      exact Nat.lt_of_lt_of_eq h (congrArg (2 ^ ·) (Nat.mul_succ n (k + 1)))

/-- the long division: the greatest digit first -/
noncomputable def ldiv (n : Nat) (b : Int) : List Int → List Int × Int
  | [] => ([], 0)
  | d :: r => ((((ldiv n b r).2 * 2 ^ n + d).fdiv b) :: (ldiv n b r).1, ((ldiv n b r).2 * 2 ^ n + d).fmod b)
theorem ldiv_ok (n : Nat) (b : Int) (hb : 0 < b) : ∀ ds : List Int, dval n (ldiv n b ds).1 * b + (ldiv n b ds).2 = dval n ds ∧ 0 ≤ (ldiv n b ds).2 ∧ (ldiv n b ds).2 < b
  | [] => by simp [ldiv, dval, hb]
  | d :: r => by
    have ih := (ldiv_ok n b hb r).1
    simp only [ldiv, dval]
    generalize (ldiv n b r).2 = q at *
    generalize (ldiv n b r).1 = l at *
    have h := Int.fmod_add_mul_fdiv (q * 2 ^ n + d) b
    refine ⟨?_, Int.fmod_nonneg_of_pos _ hb, Int.fmod_lt_of_pos _ hb⟩
    rw [← ih, Int.add_mul, Int.mul_add]
    have e1 : b * (q * 2 ^ n + d).fdiv b = (q * 2 ^ n + d).fdiv b * b := Int.mul_comm _ _
    have e2 : 2 ^ n * (dval n l * b) = 2 ^ n * dval n l * b := (Int.mul_assoc _ _ _).symm
    have e3 : 2 ^ n * q = q * 2 ^ n := Int.mul_comm _ _
    omega
theorem divmod_uniq {a b q r : Int} (hb : 0 < b) (h : q * b + r = a) (h0 : 0 ≤ r) (h1 : r < b) : a.fdiv b = q ∧ a.fmod b = r := by
  rw [Int.fdiv_eq_ediv_of_nonneg _ (Int.le_of_lt hb), Int.fmod_eq_emod_of_nonneg _ (Int.le_of_lt hb)]
  subst h
  constructor
  · rw [Int.add_comm, Int.add_mul_ediv_right _ _ (by omega), Int.ediv_eq_zero_of_lt h0 h1, Int.zero_add]
  · rw [Int.add_comm, Int.add_mul_emod_self_right, Int.emod_eq_of_lt h0 h1]

theorem bits_le (x : Int) (hx : 0 ≤ x) (k : Nat) (h : x < 2 ^ k) : Builtin.Int.intBits x ≤ k := by
  unfold Builtin.Int.intBits
  split
  · omega
  · rename_i h0
    have h0' : x ≠ 0 := by simpa using h0
    obtain ⟨X, rfl⟩ := Int.eq_ofNat_of_zero_le hx
    rw [pow_cast] at h
    have h2 : X < 2 ^ k := by omega
    have : X.log2 < k := (Nat.log2_lt (by omega)).mpr h2
    simpa using Nat.succ_le_of_lt this
theorem lt_bits (x : Int) (hx : 0 ≤ x) : x.toNat < 2 ^ Builtin.Int.intBits x := by
  obtain ⟨X, rfl⟩ := Int.eq_ofNat_of_zero_le hx
  unfold Builtin.Int.intBits
  split
  · rename_i h; simp at h; simp [h]
  · rename_i h0
    have h0' : X ≠ 0 := by simpa using h0
    simpa using Nat.lt_log2_self (n := X)
theorem dcount (x n : Int) (hx : 0 ≤ x) (hx2 : x < 2 ^ 20) (hn : 0 < n) :
    0 ≤ ((Builtin.Int.intBits x : Int) + n - 1).fdiv n ∧ ((Builtin.Int.intBits x : Int) + n - 1).fdiv n ≤ 20 ∧ (x = 0 → ((Builtin.Int.intBits x : Int) + n - 1).fdiv n = 0) ∧ (0 < x → 0 < ((Builtin.Int.intBits x : Int) + n - 1).fdiv n) ∧
      x.toNat < 2 ^ (n.toNat * (((Builtin.Int.intBits x : Int) + n - 1).fdiv n).toNat) := by
  have hb := bits_le x hx 20 hx2
  have hl := lt_bits x hx
  have h0 : x = 0 → Builtin.Int.intBits x = 0 := fun e => by subst e; rfl
  have h1 : 0 < x → 0 < Builtin.Int.intBits x := fun e => by
    unfold Builtin.Int.intBits
    rw [if_neg (by simpa using (by omega : x ≠ 0))]
    exact Nat.succ_pos _
  generalize Builtin.Int.intBits x = b at *
  rw [Int.fdiv_eq_ediv_of_nonneg _ (Int.le_of_lt hn)]
  obtain ⟨N, rfl⟩ := Int.eq_ofNat_of_zero_le (Int.le_of_lt hn)
  have hN : 0 < N := by omega
  have e : ((b : Int) + (N : Int) - 1) = ((b + N - 1 : Nat) : Int) := by omega
  rw [e, ← Int.natCast_ediv]
  have hm := Nat.div_add_mod (b + N - 1) N
  have hlt := Nat.mod_lt (b + N - 1) hN
  generalize hq : (b + N - 1) / N = q at *
  generalize (b + N - 1) % N = r at *
  have hbq : b ≤ N * q := by omega
  refine ⟨by omega, ?_, fun e => ?_, fun e => ?_, ?_⟩
  · have : q < 21 := by
      rw [← hq]
      rw [Nat.div_lt_iff_lt_mul hN]
      have : 21 ≤ 21 * N := by omega
      omega
    omega
  · have := h0 e
    subst this
    have : q = 0 := by rw [← hq]; exact Nat.div_eq_of_lt (by omega)
    omega
  · have := h1 e
    have : q ≠ 0 := fun z => by subst z; omega
    omega
  · rw [Int.toNat_natCast, Int.toNat_natCast]
    exact Nat.lt_of_lt_of_le hl (Nat.pow_le_pow_right (by decide) hbq)
theorem mid_facts (Lo Hi n : Int) (h : 0 ≤ Lo) (h2 : Lo < Hi) (hn : 0 < n) (hn2 : n ≤ 20) (hHi : Hi ≤ 1000) :
    Lo ≤ (Lo + Hi).fdiv (2 ^ Int.toNat 1) ∧ (Lo + 1 ≠ Hi → Lo < (Lo + Hi).fdiv (2 ^ Int.toNat 1)) ∧ (Lo + Hi).fdiv (2 ^ Int.toNat 1) < Hi ∧ 0 ≤ ((Lo + Hi).fdiv (2 ^ Int.toNat 1) - Lo) * n ∧
      ((Lo + Hi).fdiv (2 ^ Int.toNat 1) - Lo) * n ≤ 20000 ∧ (((Lo + Hi).fdiv (2 ^ Int.toNat 1) - Lo) * n).toNat = n.toNat * ((Lo + Hi).fdiv (2 ^ Int.toNat 1) - Lo).toNat := by
  have e : (Lo + Hi).fdiv (2 ^ Int.toNat 1) = (Lo + Hi) / 2 := Int.fdiv_eq_ediv_of_nonneg _ (by decide)
  rw [e]
  have h3 : 0 ≤ (Lo + Hi) / 2 - Lo := by omega
  have h4 : (Lo + Hi) / 2 - Lo ≤ 1000 := by omega
  generalize hk : (Lo + Hi) / 2 = M at *
  refine ⟨by omega, fun _ => by omega, by omega, Int.mul_nonneg h3 (Int.le_of_lt hn), ?_, ?_⟩
  · exact Int.le_trans (Int.mul_le_mul h4 hn2 (Int.le_of_lt hn) (by decide)) (by decide)
  · obtain ⟨A, hA⟩ := Int.eq_ofNat_of_zero_le h3
    obtain ⟨B, rfl⟩ := Int.eq_ofNat_of_zero_le (Int.le_of_lt hn)
    rw [hA, ← Int.natCast_mul]
    simp only [Int.toNat_natCast]
    exact Nat.mul_comm _ _
theorem x_facts (x : Int) (hx : 0 ≤ x) (hx2 : x < 2 ^ 20) (s : Nat) : 0 ≤ x.fdiv (2 ^ s) ∧ x.fdiv (2 ^ s) < 2 ^ 20 ∧ (x.fdiv (2 ^ s)).natAbs < 2 ^ 64 ∧ (x.fdiv (2 ^ s)).toNat = x.toNat / 2 ^ s ∧
    0 ≤ Builtin.bitXor x (x.fdiv (2 ^ s) * 2 ^ s) ∧ Builtin.bitXor x (x.fdiv (2 ^ s) * 2 ^ s) < 2 ^ 20 ∧ (Builtin.bitXor x (x.fdiv (2 ^ s) * 2 ^ s)).toNat = x.toNat % 2 ^ s := by
  rw [low_eq x hx, up_eq x hx]
  have h1 : x.toNat / 2 ^ s ≤ x.toNat := Nat.div_le_self _ _
  have h2 : x.toNat % 2 ^ s ≤ x.toNat := Nat.mod_le _ _
  generalize x.toNat / 2 ^ s = a at *
  generalize x.toNat % 2 ^ s = b at *
  refine ⟨by omega, by omega, by omega, by omega, by omega, by omega, by omega⟩
theorem tn1 {Lo M Hi : Int} (h1 : Lo ≤ M) (h2 : M ≤ Hi) : (Hi - Lo).toNat = (M - Lo).toNat + (Hi - M).toNat := by omega
theorem tn2 {Lo M : Int} (h0 : 0 ≤ Lo) (h1 : Lo ≤ M) : Lo.toNat + (M - Lo).toNat = M.toNat := by omega
theorem tn3 {Lo M : Int} {n : Nat} (h0 : 0 ≤ Lo) (h1 : Lo ≤ M) (h : M ≤ n) : (M - Lo).toNat ≤ n - Lo.toNat := by omega
theorem tn4 {Lo M : Int} (h0 : 0 ≤ Lo) (h1 : Lo < M) : (M - Lo).toNat = M.toNat - Lo.toNat := by omega
theorem tn5 {a b : Int} (h : a < b) : 0 < (b - a).toNat := by omega
theorem tn6 {a b : Int} (h : a < b) : a.toNat ≤ b.toNat := by omega
theorem inner_end (ns : List Int) (Lo M Hi n x lw up : Int) (s : Nat) (h0 : 0 ≤ Lo) (h1 : Lo < M) (h2 : M < Hi) (h3 : Hi ≤ ns.length) (hs : s = n.toNat * (M - Lo).toNat) (hl : lw.toNat = x.toNat % 2 ^ s) (hu : up.toNat = x.toNat / 2 ^ s) :
    (ns.take Lo.toNat ++ digs n.toNat (M - Lo).toNat lw.toNat ++ ns.drop M.toNat).take M.toNat ++ digs n.toNat (Hi - M).toNat up.toNat ++ (ns.take Lo.toNat ++ digs n.toNat (M - Lo).toNat lw.toNat ++ ns.drop M.toNat).drop Hi.toNat
      = ns.take Lo.toNat ++ digs n.toNat (Hi - Lo).toNat x.toNat ++ ns.drop Hi.toNat := by
  rw [ns_join ns _ _ Lo.toNat M.toNat Hi.toNat (tn6 h1) (tn6 h2) (Int.toNat_le.mpr h3) (by rw [digs_len]; exact tn4 h0 h1), hl, hu, hs, digs_app _ _ (tn5 h2) _ _ (tn5 h1)]
  congr 3
  exact (tn1 (Int.le_of_lt h1) (Int.le_of_lt h2)).symm
theorem inner_leaf (ns : List Int) (Lo Hi n x : Int) (h0 : 0 ≤ Lo) (h1 : Lo + 1 = Hi) (h3 : Hi ≤ ns.length) (hx : 0 ≤ x) : ns.set Lo.toNat x = ns.take Lo.toNat ++ digs n.toNat (Hi - Lo).toNat x.toNat ++ ns.drop Hi.toNat := by
  subst h1
  rw [ns_leaf ns x Lo.toNat (by omega), show (Lo + 1 - Lo).toNat = 1 by omega, show (Lo + 1).toNat = Lo.toNat + 1 by omega]
  show _ = _ ++ [((x.toNat : Nat) : Int)] ++ _
  rw [Int.toNat_of_nonneg hx]
theorem inner_fin {ns ns1 ns2 : List Int} {Lo M Hi n x lw up : Int} {s : Nat} (e2 : ns2 = ns1.take M.toNat ++ digs n.toNat (Hi - M).toNat up.toNat ++ ns1.drop Hi.toNat) (e1 : ns1 = ns.take Lo.toNat ++ digs n.toNat (M - Lo).toNat lw.toNat ++ ns.drop M.toNat)
    (h0 : 0 ≤ Lo) (h1 : Lo < M) (h2 : M < Hi) (h3 : Hi ≤ ns.length) (hs : s = n.toNat * (M - Lo).toNat) (hl : lw.toNat = x.toNat % 2 ^ s) (hu : up.toNat = x.toNat / 2 ^ s) :
    ns2 = ns.take Lo.toNat ++ digs n.toNat (Hi - Lo).toNat x.toNat ++ ns.drop Hi.toNat := by
  rw [e2, e1]
  exact inner_end ns Lo M Hi n x lw up s h0 h1 h2 h3 hs hl hu
theorem i2d_fin {ns ns0 : List Int} {n x D : Int} {n1 : Nat} (e : ns = ns0.take (0 : Int).toNat ++ digs n.toNat ((n1 : Int) - 0).toNat x.toNat ++ ns0.drop (n1 : Int).toNat) (hl : ns0.length = n1) (h : (n1 : Int) = D) : ns = digs n.toNat D.toNat x.toNat := by
  subst h
  rw [e, Int.toNat_zero, List.take_zero, List.nil_append, Int.toNat_natCast, List.drop_of_length_le (Nat.le_of_eq hl), List.append_nil, Int.sub_zero, Int.toNat_natCast]
theorem i2d_nil {n x D : Int} (hx : x = 0) (h : x = 0 → D = 0) : (List.replicate D.toNat [(0 : Int)]).flatten = digs n.toNat D.toNat x.toNat := by
  rw [h hx]; rfl
theorem shl_ok {v S : Int} (h0 : 0 ≤ v) (h1 : v < 2 ^ 400) (h2 : S ≤ 20000) : (Builtin.Int.intBits v : Int) + S ≤ 2 ^ 27 := by
  have := bits_le v h0 400 h1
  omega
theorem dval_bound (n : Nat) : ∀ ds : List Int, (∀ d ∈ ds, 0 ≤ d ∧ d < 2 ^ n) → 0 ≤ dval n ds ∧ dval n ds < 2 ^ (n * ds.length)
  | [], _ => by simp [dval]
  | d :: r, h => by
    obtain ⟨h0, h1⟩ := h d (.head _)
    obtain ⟨i0, i1⟩ := dval_bound n r fun x hx => h x (.tail _ hx)
    have hp : (0 : Int) < 2 ^ n := Int.pow_pos (by decide)
    rw [dval, List.length_cons, Nat.mul_add, Nat.mul_one, Int.pow_add, Int.mul_comm (2 ^ (n * r.length)) (2 ^ n)]
    have e1 : 0 ≤ 2 ^ n * dval n r := Int.mul_nonneg (Int.le_of_lt hp) i0
    have e2 : 2 ^ n * (dval n r + 1) ≤ 2 ^ n * 2 ^ (n * r.length) := Int.mul_le_mul_of_nonneg_left (by omega) (Int.le_of_lt hp)
    rw [Int.mul_add, Int.mul_one] at e2
    omega
theorem dval_part {n : Int} {ns : List Int} (hd : ∀ d ∈ ns, 0 ≤ d ∧ d < 2 ^ n.toNat) (hn : n ≤ 20) (hl : ns.length ≤ 20) (a b : Nat) : 0 ≤ dval n.toNat ((ns.drop a).take b) ∧ dval n.toNat ((ns.drop a).take b) < 2 ^ 400 := by
  obtain ⟨h0, h1⟩ := dval_bound n.toNat ((ns.drop a).take b) fun d h => hd d (List.mem_of_mem_drop (List.mem_of_mem_take h))
  refine ⟨h0, Int.lt_of_lt_of_le h1 ?_⟩
  rw [pow_cast, pow_cast]
  have : n.toNat * ((ns.drop a).take b).length ≤ 400 := by
    have e : ((ns.drop a).take b).length ≤ 20 := by simp only [List.length_take, List.length_drop]; omega
    exact Nat.le_trans (Nat.mul_le_mul (show n.toNat ≤ 20 by omega) e) (by decide)
  exact Int.ofNat_le.mpr (Nat.pow_le_pow_right (by decide) this)
theorem in2_leaf {n : Int} {ns : List Int} {Lo Hi : Int} (h0 : 0 ≤ Lo) (h1 : Lo + 1 = Hi) (h2 : Hi ≤ ns.length) : ns.getD Lo.toNat 0 = dval n.toNat ((ns.drop Lo.toNat).take (Hi - Lo).toNat) := by
  subst h1
  rw [show (Lo + 1 - Lo).toNat = 1 by omega]
  have h : Lo.toNat < ns.length := by omega
  rw [List.drop_eq_getElem_cons h, List.take_succ_cons, List.take_zero, List.getD_eq_getElem?_getD, List.getElem?_eq_getElem h]
  simp [dval]
theorem in2_fin {n : Int} {ns : List Int} {Lo M Hi v1 v2 : Int} {s : Nat} (h0 : 0 ≤ Lo) (h1 : Lo ≤ M) (h2 : M ≤ Hi) (h3 : Hi ≤ ns.length) (e1 : v1 = dval n.toNat ((ns.drop M.toNat).take (Hi - M).toNat)) (e2 : v2 = dval n.toNat ((ns.drop Lo.toNat).take (M - Lo).toNat)) (hs : s = n.toNat * (M - Lo).toNat) :
    v1 * 2 ^ s + v2 = dval n.toNat ((ns.drop Lo.toNat).take (Hi - Lo).toNat) := by
  rw [tn1 h1 h2, List.take_add, dval_app, List.drop_drop, ← e2, tn2 h0 h1, ← e1]
  rw [List.length_take, List.length_drop, Nat.min_eq_left (tn3 h0 h1 (Int.le_trans h2 h3)), ← hs, Int.mul_comm, Int.add_comm]
inductive LD (n : Nat) (y : Int) : List Int → List Int → Int → Prop
  | nil : LD n y [] [] 0
  | cons {d q r r' : Int} {ds qs : List Int} : LD n y ds qs r → q = (r * 2 ^ n + d).fdiv y → r' = (r * 2 ^ n + d).fmod y → LD n y (d :: ds) (q :: qs) r'
theorem LD.eq {n : Nat} {y : Int} : ∀ {ds qs : List Int} {r : Int}, LD n y ds qs r → ldiv n y ds = (qs, r)
  | _, _, _, .nil => rfl
  | _, _, _, .cons h e1 e2 => by
    rw [ldiv, h.eq]
    simp only [e1, e2]
theorem LD.fin {n K : Nat} {x y v r : Int} {ds qs : List Int} (h : LD n y ds qs r) (hx : 0 ≤ x) (hy : 0 < y) (hK : 0 < K) (e : digs n K x.toNat = ds) (hv : v = dval n qs) : v = x.fdiv y ∧ r = x.fmod y := by
  obtain ⟨a, b, c⟩ := ldiv_ok n y hy ds
  rw [h.eq] at a b c
  rw [← e, dval_digs n K _ hK, Int.toNat_of_nonneg hx, ← hv] at a
  obtain ⟨e1, e2⟩ := divmod_uniq hy a b c
  exact ⟨e1.symm, e2.symm⟩
theorem LD.fin0 {x y v : Int} {n : Nat} (hy : 0 < y) (hx : x = 0) (hv : v = dval n []) : v = x.fdiv y ∧ 0 = x.fmod y := by
  subst hx
  rw [hv]
  exact ⟨by simp [dval], by simp⟩
theorem dp_fin {n K : Nat} {x y v r : Int} {ds0 ds qs : List Int} (h : LD n y ds qs r) (hx : 0 ≤ x) (hy : 0 < y) (e : ds0 = digs n K x.toNat) (j4 : ds0 = ds) (hK0 : K = 0 → x = 0) (hv : v = dval n qs) : v = x.fdiv y ∧ r = x.fmod y := by
  by_cases hK : K = 0
  · subst hK
    have e1 : ds = [] := by rw [← j4, e]; rfl
    subst e1
    cases h with
    | nil => exact LD.fin0 hy (hK0 rfl) hv
  · exact h.fin hx hy (by omega) (e ▸ j4) hv
theorem neg_divmod {x y q r : Int} (hy : 0 < y) (eq : q = (Builtin.bitNot x).fdiv y) (er : r = (Builtin.bitNot x).fmod y) : Builtin.bitNot q = x.fdiv y ∧ y + Builtin.bitNot r = x.fmod y := by
  have h1 := Int.fmod_add_mul_fdiv (Builtin.bitNot x) y
  have h2 := Int.fmod_nonneg_of_pos (Builtin.bitNot x) hy
  have h3 := Int.fmod_lt_of_pos (Builtin.bitNot x) hy
  rw [← eq, ← er] at h1
  rw [← er] at h2 h3
  unfold Builtin.bitNot at *
  obtain ⟨a, b⟩ := divmod_uniq (a := x) (b := y) (q := -q - 1) (r := y + (-r - 1)) hy (by rw [Int.sub_mul, Int.neg_mul, Int.mul_comm q y]; omega) (by omega) (by omega)
  exact ⟨a.symm, b.symm⟩
/-- one turn of the law's power -/
noncomputable def lpt (x y r f : Int) : Int := (r * r * (if f = 1 then x else 1)).fmod y
@[irreducible] noncomputable def lpv (x n y : Int) : Int := ((digs 1 (((Builtin.Int.intBits n : Int) + 1 - 1).fdiv 1).toNat n.toNat).reverse).foldl (lpt x y) 1
theorem step_ok {r y d : Int} {k : Nat} (hk : k ≤ 20) (h0 : 0 ≤ r) (h1 : r < y) (hy : y < 2 ^ 20) (d0 : 0 ≤ d) (d1 : d < 2 ^ k) : 0 ≤ r * 2 ^ k + d ∧ r * 2 ^ k + d < 2 ^ 100 ∧ 0 ≤ (r * 2 ^ k + d).fdiv y ∧ (r * 2 ^ k + d).fdiv y < 2 ^ k ∧ 0 ≤ (r * 2 ^ k + d).fmod y ∧ (r * 2 ^ k + d).fmod y < y := by
  have hp : (0 : Int) < 2 ^ k := Int.pow_pos (by decide)
  have hp2 : (2 : Int) ^ k ≤ 2 ^ 20 := by
    rw [pow_cast, pow_cast]
    exact Int.ofNat_le.mpr (Nat.pow_le_pow_right (by decide) hk)
  have e1 : 0 ≤ r * 2 ^ k := Int.mul_nonneg h0 (Int.le_of_lt hp)
  have e2 : (r + 1) * 2 ^ k ≤ y * 2 ^ k := Int.mul_le_mul_of_nonneg_right (by omega) (Int.le_of_lt hp)
  have e3 : y * 2 ^ k ≤ 2 ^ 20 * 2 ^ 20 := Int.mul_le_mul (by omega) hp2 (Int.le_of_lt hp) (by decide)
  have hy0 : 0 < y := by omega
  rw [Int.add_mul, Int.one_mul] at e2
  refine ⟨by omega, by omega, ?_, ?_, Int.fmod_nonneg_of_pos _ hy0, Int.fmod_lt_of_pos _ hy0⟩
  · rw [Int.fdiv_eq_ediv_of_nonneg _ (Int.le_of_lt hy0)]
    exact Int.ediv_nonneg (by omega) (by omega)
  · rw [Int.fdiv_eq_ediv_of_nonneg _ (Int.le_of_lt hy0)]
    rw [Int.ediv_lt_iff_lt_mul hy0, Int.mul_comm (2 ^ k) y]
    omega
theorem shl0 {r y : Int} {n : Int} (h0 : 0 ≤ r) (h1 : r < y) (hy : y < 2 ^ 20) (hn : n ≤ 20) : (Builtin.Int.intBits r : Int) + n ≤ 2 ^ 27 := by
  have := bits_le r h0 20 (by omega)
  omega
theorem bits_pos (y : Int) (h : 0 < y) : 0 < Builtin.Int.intBits y := by
  unfold Builtin.Int.intBits
  rw [if_neg (by simpa using (by omega : y ≠ 0))]
  exact Nat.succ_pos _
/-- a number without its sign, as int_divmod takes it -/
noncomputable def mag (x : Int) : Int := if x < 0 then -x - 1 else x
theorem mag_pos {x : Int} (h : 0 ≤ x) : mag x = x := if_neg (by omega)
/-- a number of at most 4 n bits has at most four digits of n bits -/
theorem dig4 {x y : Int} {k : Nat} (hx : 0 ≤ x) (hk : x < 2 ^ k) (hb : k ≤ 4 * Builtin.Int.intBits y) (hy : 0 < y) : ((Builtin.Int.intBits x : Int) + Builtin.Int.intBits y - 1).fdiv (Builtin.Int.intBits y) ≤ 4 := by
  have h1 := bits_le x hx k hk
  have h2 := bits_pos y hy
  rw [Int.fdiv_eq_ediv_of_nonneg _ (by omega)]
  have : ((Builtin.Int.intBits x : Int) + Builtin.Int.intBits y - 1) / (Builtin.Int.intBits y) < 5 := by
    rw [Int.ediv_lt_iff_lt_mul (by omega)]
    omega
  omega
theorem bits_ge {y : Int} {k : Nat} (hy : (2 : Int) ^ k ≤ y) : k < Builtin.Int.intBits y := by
  have hp : (0 : Int) < 2 ^ k := Int.pow_pos (by decide)
  have h1 := lt_bits y (by omega)
  have h2 : y.toNat < 2 ^ Builtin.Int.intBits y := h1
  rw [pow_cast] at hy
  have h3 : 2 ^ k < 2 ^ Builtin.Int.intBits y := by omega
  exact (Nat.pow_lt_pow_iff_right (by decide)).mp h3
theorem d2i_fin {n v : Int} {ns : List Int} (e : v = dval n.toNat ((ns.drop (0 : Int).toNat).take ((ns.length : Int) - 0).toNat)) : v = dval n.toNat ns := by
  rw [e, Int.toNat_zero, List.drop_zero, Int.sub_zero, Int.toNat_natCast, List.take_length]
theorem d2i_nil {n : Int} {ns : List Int} (e : ns.length = 0) : 0 = dval n.toNat ns := by
  rw [List.eq_nil_of_length_eq_zero e]; rfl
end
section

/-- a table object that holds one code: at line l, column k, code c -/
noncomputable abbrev T3 (l k : Nat) (c : Addr) : Obj := tabObj #[rawInt l, rawInt k, .ref c]
/-- the table is filled, its code in the ledger -/
noncomputable def Hot (l k : Nat) (q : Str) (o : Obj) (news : List (Addr × Obj)) : Prop :=
  ∃ c oc vs t, o = T3 l k c ∧ (c, oc) ∈ news ∧ oc.data = .fields vs ∧ vs[1]? = some (.str q t)

theorem hotUp {l k : Nat} {q : Str} {o : Obj} {rest news : List (Addr × Obj)} (h : o = tabObj #[] ∨ Hot l k q o rest) (hs : ∀ p ∈ rest, p ∈ news) : o = tabObj #[] ∨ Hot l k q o news :=
  h.imp id fun ⟨c, oc, vs, t, a, b, d⟩ => ⟨c, oc, vs, t, a, hs _ b, d⟩
theorem sub_tl {x : Addr × Obj} {rest news : List (Addr × Obj)} (h : ∀ p ∈ rest, p ∈ news) : ∀ p ∈ rest, p ∈ x :: news := fun p hp => .tail _ (h p hp)
theorem ar_a {Lo M Hi : Int} {kk : Nat} (h : (Hi - Lo).toNat ≤ kk + 1) (a : Lo < M) : (Hi - M).toNat ≤ kk := by omega
theorem ar_b {Lo M Hi : Int} {kk : Nat} (h : (Hi - Lo).toNat ≤ kk + 1) (a : M < Hi) : (M - Lo).toNat ≤ kk := by omega
theorem ar_c {Lo M Hi : Int} (a : Lo + 1 ≠ Hi → Lo < M) (n : Lo + 1 ≠ Hi) : Lo < M := a n
theorem lt9c {x : Addr × Obj} {l : List (Addr × Obj)} {d : Addr} (h : ∀ p ∈ x :: l, p.1 < d) : ∀ p ∈ l, p.1 < d := fun p hp => h p (.tail _ hp)
theorem lt9 {l : List (Addr × Obj)} {d : Addr} (h : ∀ p ∈ l, p.1 < d) (q : Addr × Obj) (hq : q ∈ l) : @LT.lt Nat _ q.1 d := h q hq
section
variable {M : Model} {A : Around} {E : Value → Shared → Prop} {s : Shared} {h₀ : Heap} {L a c P : Addr} {m mg mb : Str → Option Value} {cn : Str} {cs : Scope} {ccd : Value} {cl : List (Str × Addr)} {news : List (Addr × Obj)} {g : Obj → List (Addr × Obj)}
  {p : Program} {loose : List Str} {mean : ExcName → Option Value} {name qual : Str} {params : Arguments} {body : List Stmt} {scope : Scope} {oP : Obj} {pos : Pos} {firstLine : Nat} {clos : List (Str × Addr)}

theorem allLtOf {d : Addr} : ∀ {l : List (Addr × Obj)}, (∀ p ∈ l, p.1 < d) → AllLt d l
  | [], _ => trivial
  | _ :: _, h => ⟨h _ (.head _), allLtOf fun q hq => h q (.tail _ hq)⟩
/-- where a code record comes from: the table's own, or new -/
noncomputable def Born (oP : Obj) (l k : Nat) (c : Addr) (rest : List (Addr × Obj)) : Prop := (∀ c₀, oP = T3 l k c₀ → c = c₀) ∧ (oP = tabObj #[] → ∀ q ∈ rest, q.1 < c)
theorem Born.mono {oP : Obj} {l k : Nat} {c : Addr} {rest news : List (Addr × Obj)} (h : Born oP l k c news) (hs : ∀ p ∈ rest, p ∈ news) : Born oP l k c rest := ⟨h.1, fun e q hq => h.2 e q (hs q hq)⟩
theorem nestAny {Q : Value → Shared → Prop} {rest : List (Addr × Obj)} {D : Addr} (F : Fr h₀ L s.heap m) (N : News h₀ L s.heap news) (T : Top p loose mean mg mb h₀) (C : CodeHd h₀ c P) (hcd : ccd = .ref c) (U : UpdF P oP news g)
    (hst : oP = tabObj #[] ∨ Hot pos.line pos.col qual oP rest) (hsub : ∀ p ∈ rest, p ∈ news) (hlt : ∀ p ∈ rest, p.1 < D)
    (hcl : closureFor scope (envX cn cs L a ccd cl) = pure clos)
    (h : ∀ f c' oc vs t ctv doc h' tk, Fr h₀ L h' m →
      News h₀ L h' ((f, fnMade name qual params body scope clos doc ((mg "__name__").getD .none) c' ctv) :: (c', oc) :: g (T3 pos.line pos.col c')) →
      oc.data = .fields vs → vs[1]? = some (.str qual t) → (∀ q ∈ news, q.1 < f) → c' < f → (@LT.lt Nat _ c' D ∨ AllLt c' news) → Born oP pos.line pos.col c' news → Q (.ref f) { s with heap := h', toks := tk }) :
    wpAny M A (makeFunction name qual params (.stmts body) scope (envX cn cs L a ccd cl) [] [] [] pos firstLine) Q E s := by
  rcases hst with rfl | ⟨c₁, oc, vs, t, rfl, hmr, hd, hv⟩
  · refine nest_K F N T C hcd U trivial rfl hcl fun f c' oc vs t ctv doc h' tk F' N' hd hv l1 l2 => ?_
    refine h f c' oc vs t ctv doc h' tk F' N' hd hv (fun q hq => Nat.lt_trans (l1 q hq) l2) l2 (.inr (allLtOf l1)) ⟨fun c₀ e => ?_, fun _ q hq => l1 q hq⟩
    have e1 : (#[] : Array Value) = #[rawInt pos.line, rawInt pos.col, .ref c₀] := Data.fields.inj (congrArg Obj.data e)
    exact absurd (congrArg Array.size e1) (by simp)
  · have hm := hsub _ hmr
    obtain ⟨pre, post, e1, e2, e3, e4⟩ := U.split
    have hmP : (P, T3 pos.line pos.col c₁) ∈ news := by rw [e1]; exact List.mem_append_right _ (.head _)
    have hg : g (T3 pos.line pos.col c₁) = news := by rw [e2, e1]
    refine nestHit_K (c' := c₁) (ps := #[rawInt pos.line, rawInt pos.col, .ref c₁]) F N T C hcd hmP (by exact trivial) (by simp [codeAmong, rawInt]) hcl fun f ctv doc h' tk F' N' l1 => ?_
    refine h f c₁ oc vs t ctv doc h' tk F' (fun q hq => ?_) hd hv l1 (l1 _ hm) (.inl (hlt _ hmr)) ⟨fun c₀ e => ?_, fun e => ?_⟩
    · rcases List.mem_cons.mp hq with rfl | hq
      · exact N' _ (.head _)
      · rcases List.mem_cons.mp hq with rfl | hq
        · exact N' _ (.tail _ hm)
        · rw [hg] at hq
          exact N' _ (.tail _ hq)
    · have e1 : #[rawInt pos.line, rawInt pos.col, .ref c₁] = #[rawInt pos.line, rawInt pos.col, .ref c₀] := Data.fields.inj (congrArg Obj.data e)
      simpa using e1
    · have e1 : #[rawInt pos.line, rawInt pos.col, .ref c₁] = (#[] : Array Value) := Data.fields.inj (congrArg Obj.data e)
      exact absurd (congrArg Array.size e1) (by simp)
end
theorem truthy_ints {prog : Program} {w : World} {A : Around} {E : Value → Shared → Prop} {s : Shared} {h₀ : Heap} {L : Addr} {news : List (Addr × Obj)} {a : Addr} {vs : List Value} {ns : List Int} {n : Nat} {Q : Bool → Shared → Prop} (N : News h₀ L s.heap news) (hm : (a, listOf vs.toArray n) ∈ news) (hI : IntsAre vs ns) (hfit : ns.length ≤ 1000)
    (h1 : 0 < ns.length → Q true { s with toks := s.toks + 1 + 1 }) (h2 : ns.length = 0 → Q false { s with toks := s.toks + 1 + 1 }) : wpAny (model prog w) A (truthy (.ref a)) Q E s := by
  have hl := hI.length
  refine kgr_truthy (vs := vs) (n := n) N hm rfl rfl (by omega) ?_
  cases hI with
  | nil => exact h2 rfl
  | cons => exact h1 (by simp)
theorem len_ints {prog : Program} {w : World} {A : Around} {E : Value → Shared → Prop} {s : Shared} {h₀ : Heap} {L : Addr} {news : List (Addr × Obj)} {a : Addr} {vs : List Value} {ns : List Int} {n : Nat} {Q : Value → Shared → Prop} (N : News h₀ L s.heap news) (hm : (a, listOf vs.toArray n) ∈ news) (hI : IntsAre vs ns) (hfit : ns.length ≤ 1000)
    (h : Q (.int (ns.length : Nat) (s.toks + 1)) { s with toks := s.toks + 1 + 1 }) : wpAny (model prog w) A (call (.builtin "len") [.ref a]) Q E s :=
  KM.len_K (n := ns.length) N hm (by rw [List.size_toArray]; exact hI.length) (by omega) h
theorem divmod_N2 {prog : Program} {w : World} {A : Around} {E : Value → Shared → Prop} {s : Shared} {h₀ : Heap} {L : Addr} {m : Str → Option Value} {news : List (Addr × Obj)} {a b : Int} {t u : Tok} {Q : Value → Shared → Prop} (F : Fr h₀ L s.heap m) (N : News h₀ L s.heap news) (hb : 0 < b) (hb2 : b < 2 ^ 30)
    (h : ∀ d t1 t2 h' tk', Fr h₀ L h' m → News h₀ L h' ((d, { cls := .type "tuple", data := .seq #[.int (a.fdiv b) t1, .int (a.fmod b) t2] }) :: news) → (∀ p ∈ news, p.1 < d) →
      Q (.ref d) { s with heap := h', toks := tk' }) : wpAny (model prog w) A (call (.builtin "divmod") [.int a t, .int b u]) Q E s :=
  divmod_N F N (by omega) (fun h' F' N' => h _ _ _ h' _ F' N' (fun p hp => Heap.lt_size (N p hp).1)) (Or.inl (PyProof.noPylong_small (by omega)))
/-- a deeper room serves a shallower one -/
theorem wp_room {α : Type} {M : Model} {hv : Option Value} {fr : Option (List Env)} {gd : Option (List Code)} {d d' u u' : Nat} {t : Sem α} {Q : α → Shared → Prop} {E : Value → Shared → Prop} {s : Shared}
    (h : wpAny M { handled := hv, depth := d, frames := fr, guards := gd, units := u } t Q E s) (hd : d' ≤ d) (hu : u' ≤ u) : wpAny M { handled := hv, depth := d', frames := fr, guards := gd, units := u' } t Q E s :=
  fun Γ p hΓ => h Γ p ⟨hΓ.1, Nat.le_trans hΓ.2.1 hd, hΓ.2.2.1, hΓ.2.2.2.1, Nat.le_trans hΓ.2.2.2.2 hu⟩
/-- the ledger without the address a -/
inductive Rm (a : Addr) : List (Addr × Obj) → List (Addr × Obj) → Prop
  | tl {l} : (∀ p ∈ l, p.1 ≠ a) → Rm a l l
  | hit {o l k} : Rm a l k → Rm a ((a, o) :: l) k
  | miss {x l k} : x.1 ≠ a → Rm a l k → Rm a (x :: l) (x :: k)
theorem Rm.ok {a : Addr} : ∀ {l k : List (Addr × Obj)}, Rm a l k → (∀ p ∈ k, p ∈ l) ∧ ∀ p ∈ k, p.1 ≠ a
  | _, _, .tl h => ⟨fun _ h => h, h⟩
  | _, _, .hit r => ⟨fun p hp => .tail _ (r.ok.1 p hp), r.ok.2⟩
  | _, _, .miss h r => ⟨fun p hp => by
      rcases List.mem_cons.mp hp with rfl | hp
      · exact .head _
      · exact .tail _ (r.ok.1 p hp), fun p hp => by
      rcases List.mem_cons.mp hp with rfl | hp
      · exact h
      · exact r.ok.2 p hp⟩
theorem code_ne {h₀ h : Heap} {L c P : Addr} {news : List (Addr × Obj)} {oc oP : Obj} {cvs : Array Value} {q : Str} {t : Tok} (N : News h₀ L h news) (hc : (c, oc) ∈ news) (hd : oc.data = .fields cvs) (hv : cvs[1]? = some (.str q t)) (hP : (P, oP) ∈ news) (h : oP = tabObj #[] ∨ ∃ l k a, oP = T3 l k a) : c ≠ P := fun e => by
  subst e
  have e1 := (N _ hc).1
  rw [(N _ hP).1] at e1
  have e2 : oP = oc := Option.some.inj e1
  subst e2
  rcases h with rfl | ⟨l, k, a, rfl⟩
  · have e3 : (#[] : Array Value) = cvs := Data.fields.inj hd
    subst e3
    simp at hv
  · have e3 : #[rawInt l, rawInt k, .ref a] = cvs := Data.fields.inj hd
    subst e3
    simp [rawInt] at hv
theorem code_ne_list {h₀ h : Heap} {L c l : Addr} {news : List (Addr × Obj)} {oc ol : Obj} {cvs : Array Value} (N : News h₀ L h news) (hc : (c, oc) ∈ news) (hd : oc.data = .fields cvs) (hl : (l, ol) ∈ news) (h : ∀ cvs, ol.data ≠ .fields cvs) : c ≠ l := fun e => by
  subst e
  have e1 := (N _ hc).1
  rw [(N _ hl).1] at e1
  have e2 : ol = oc := Option.some.inj e1
  subst e2
  exact h _ hd
theorem hotT {l k : Nat} {q : Str} {o : Obj} {rest : List (Addr × Obj)} (h : o = tabObj #[] ∨ Hot l k q o rest) : o = tabObj #[] ∨ ∃ l k a, o = T3 l k a :=
  h.imp id fun ⟨c, _, _, _, e, _⟩ => ⟨l, k, c, e⟩
theorem offI_of {I : Addr} {it : Obj} : ∀ {l : List (Addr × Obj)}, (∀ p ∈ l, p.1 ≠ I) → OffI I it l
  | [], _ => trivial
  | _ :: _, h => ⟨.inl (h _ (.head _)), offI_of fun q hq => h q (.tail _ hq)⟩
section
variable {prog : Program} {w : World} {A : Around} {E : Value → Shared → Prop} {s : Shared} {env : Env} {h₀ : Heap} {x : Str} {body : List Stmt} {Q : Flow → Shared → Prop}
/-- a loop over a reversed list, by what holds of what is left -/
theorem rev_ind {I : Addr} {lp : Addr × Obj} (J : List Value → (Str → Option Value) → List (Addr × Obj) → Prop)
    (step : ∀ v r m news, J (v :: r) m news → ∀ (it : Obj) h tk, it.cls = .type "list_reverseiterator" → Fr h₀ env.locals h (fun y => if y = x then some v else m y) → News h₀ env.locals h ((I, it) :: news) →
      wpAny (model prog w) A (execs body env) (UnrPost h₀ env.locals { s with heap := h, toks := tk } I it (fun m' n' => lp ∈ n' ∧ J r m' n') Q) E { s with heap := h, toks := tk })
    (fin : ∀ m news, J [] m news → ∀ h tk, Fr h₀ env.locals h m → News h₀ env.locals h news → Q .next { s with heap := h, toks := tk }) :
    ∀ l m news, J l m news → RevRest prog w A E h₀ env x body Q s I lp l m news
  | [], m, news, hJ => RevRest.zero fun h tk F N => fin m news hJ h tk F N
  | v :: r, m, news, hJ => RevRest.succ fun it h tk hc F N => by
    refine wpAny_mono (step v r m news hJ it h tk hc F N) (fun f s₂ p => ?_) fun _ _ e => e
    have conv : ∀ {s₂ : Shared}, UnrEnd h₀ env.locals { s with heap := h, toks := tk } I it (fun m' n' => lp ∈ n' ∧ J r m' n') s₂ → UnrEnd h₀ env.locals { s with heap := h, toks := tk } I it (fun m' n' => lp ∈ n' ∧ RevRest prog w A E h₀ env x body Q s I lp r m' n') s₂ :=
      fun ⟨h', tk', m', n', e, F', N', o, l, j⟩ => ⟨h', tk', m', n', e, F', N', o, l, rev_ind J step fin r m' n' j⟩
    cases f with
    | ret v => exact p
    | brk => exact p
    | next => exact conv p
    | cont => exact conv p
theorem unrEnd_eq {L I : Addr} {it : Obj} {lp : Addr × Obj} {J : (Str → Option Value) → List (Addr × Obj) → Prop} {s₁ : Shared} {h' : Heap} {tk : Nat} {m1 m2 : Str → Option Value} {all news' : List (Addr × Obj)} (F : Fr h₀ L h' m1) (N : News h₀ L h' all)
    (e : m1 = m2) (r : J m2 news') (hlp : lp ∈ news') (sub : ∀ p ∈ (I, it) :: news', p ∈ all) (off : ∀ p ∈ news', p.1 ≠ I) : UnrEnd h₀ L s₁ I it (fun m' n' => lp ∈ n' ∧ J m' n') { s₁ with heap := h', toks := tk } :=
  UnrEnd.intro (e ▸ F) N news' sub off ⟨hlp, r⟩
end
section
variable {prog : Program} {w : World} {A : Around} {E : Value → Shared → Prop} {s : Shared} {h₀ : Heap} {L D : Addr} {m : Str → Option Value} {news news' : List (Addr × Obj)}
theorem append_L {vs : List Value} {n : Nat} {x : Value} {Q : Value → Shared → Prop} (F : Fr h₀ L s.heap m) (N : News h₀ L s.heap news) (U : Upd D (listOf vs.toArray n) (listOf (vs ++ [x]).toArray (n + 1)) news news') (hz : vs.length ≤ 1000)
    (h : ∀ h', Fr h₀ L h' m → News h₀ L h' news' → Q .none { s with heap := h' }) : wpAny (model prog w) A (call (.builtin "list.append") [.ref D, x]) Q E s :=
  append_K (its := vs.toArray) F N (by rw [List.push_toArray]; exact U) h (by rw [List.size_toArray, sizeLine_eq]; omega)
theorem reverse_L {vs : List Value} {n : Nat} {Q : Value → Shared → Prop} (F : Fr h₀ L s.heap m) (N : News h₀ L s.heap news) (U : Upd D (listOf vs.toArray n) (listOf vs.reverse.toArray n) news news') (hz : vs.length ≤ 1000)
    (h : ∀ h', Fr h₀ L h' m → News h₀ L h' news' → Q .none { s with heap := h' }) : wpAny (model prog w) A (call (.builtin "list.reverse") [.ref D]) Q E s :=
  kl_reverse (its := vs.toArray) F N rfl U (by show vs.length ≤ _; rw [sizeLine_eq]; omega) h
end
theorem ite_dec_pos {p A B : Prop} [Decidable p] (h : p) (hq : A) : if decide p = true then A else B := by rw [if_pos (decide_eq_true h)]; exact hq
theorem ite_dec_neg {p A B : Prop} [Decidable p] (h : ¬ p) (hq : B) : if decide p = true then A else B := by
  rw [if_neg (by simpa using h)]; exact hq
theorem ite_beq_pos {x y : Int} {A B : Prop} (h : x = y) (hq : A) : if (x == y) = true then A else B := by rw [if_pos (by simpa using h)]; exact hq
theorem ite_beq_neg {x y : Int} {A B : Prop} (h : x ≠ y) (hq : B) : if (x == y) = true then A else B := by rw [if_neg (by simpa using h)]; exact hq
theorem ite_bne_pos {x y : Int} {A B : Prop} (h : x ≠ y) (hq : A) : if (x != y) = true then A else B := by rw [if_pos (by simpa using h)]; exact hq
theorem ite_bne_neg {x y : Int} {A B : Prop} (h : x = y) (hq : B) : if (x != y) = true then A else B := by rw [if_neg (by simpa using h)]; exact hq
section
variable {prog : Program} {w : World} {A : Around} {E : Value → Shared → Prop} {s : Shared} {env : Env} {h₀ : Heap} {x : Str} {body : List Stmt} {Q : Flow → Shared → Prop}
end
end
local macro_rules | `(tactic| k_room) => `(tactic| first | exact Nat.le_of_ble_eq_true rfl | ktr_room)
local macro_rules | `(tactic| k_all) => `(tactic| (tbn_letter; first | assumption | (intro q9 h9; (have a9 := lt9 (by assumption) q9 h9); (refine neN ?_); (try dsimp only at a9 ⊢); omega)))
local macro_rules | `(tactic| walk_at "MINE mem") => `(tactic| first | with_reducible assumption | exact List.mem_cons_self | (refine List.mem_cons_of_mem _ ?_; walk_at "MINE mem"))
local macro_rules | `(tactic| k_mem) => `(tactic| walk_at "MINE mem")
local macro_rules | `(tactic| walk_at "exec FunctionDef") => `(tactic| (k_here; kn_here; k_dflt (refine' nestDef_K ?d0 ?k0 ?a0 ?_; (case d0 | k0 => exact rfl); (case a0 => exact rfl)); (k_dflt (refine' nestAny ?F ?N ?T ?C ?cd ?U ?t ?sb ?lt ?cl ?_; (case F | N | T => k_asm); (case cd => exact rfl); (case C => kn_code); (case U => k_updF); (case t => assumption); (case sb => repeat (first | exact (fun _ h => h) | refine sub_tl ?_)); (case lt => assumption); (case cl => exact rfl); k_whole); intro _ _ _ _ _ _ _ _ _ _ N' _ _ l1 l2 lc _; (try dsimp only at N'); (try k_lt l1); (try k_lt2 l2); (try simp only [AllLt, and_true] at lc))))
local macro_rules | `(tactic| walk_at "MINE arith") => `(tactic| first | assumption | with_reducible exact ar_c (by assumption) (by assumption) | with_reducible exact ar_a (by assumption) (ar_c (by assumption) (by assumption)) | with_reducible exact ar_b (by assumption) (by assumption) | omega | ((simp only [decide_eq_true_eq, decide_eq_false_iff_not] at *); omega))
local macro_rules | `(tactic| walk_at "MINE drop") => `(tactic| (refine' cb_drop ?cbN ?cbS; (case cbN => assumption); (case cbS => walk_at "MINE sub")))
local macro_rules | `(tactic| walk_at "MINE ca") => `(tactic| ((case hdp | hun => exact Nat.le_of_ble_eq_true rfl); (case B | F | X | N | T => k_asm); (case hk => exact rfl)))
local macro_rules | `(tactic| walk_at "MINE cc") => `(tactic| ((case hdp | hun => exact Nat.le_of_ble_eq_true rfl); (case B | F | X | N | T => k_asm); (case C1 => assumption); (case hk => exact rfl)))
local macro_rules | `(tactic| walk_at "MINE cb") => `(tactic| ((case hdp | hun => exact Nat.le_of_ble_eq_true rfl); (case B | F | X | N | T => k_asm); (case C1 | C2 => assumption); (case hk => exact rfl)))
section
noncomputable def InnerAt (w : World) (p : Program) (loose : List Str) (mean : ExcName → Option Value) (mg mb : Str → Option Value) (f l : Addr) (n : Int) (e : Nat) (rest : List (Addr × Obj)) (kk : Nat) : Prop :=
  ∀ (dp un : Nat) (gd : Option (List Code)) (cn : Str) (cs : Scope) (a : Addr) (ccd : Value) (cl : List (Str × Addr)) (outer : List Env) (A₀ : Around) (base h₀ : Heap) (L : Addr) (m : Str → Option Value) (s : Shared) (Q E : Value → Shared → Prop)
    (vs : List Value) (ns : List Int) (x Lo Hi : Int) (tx tl th : Tok),
    Below A₀ base outer h₀ → Fr h₀ L s.heap m → (Mine.hd.heap_39 w.params).In h₀ → Top p loose mean mg mb h₀ → cs.kind = .function →
    News h₀ L s.heap ((l, listOf vs.toArray e) :: rest) → IntsAre vs ns → 0 ≤ x → x < 2 ^ 20 → 0 ≤ Lo → Lo < Hi → (Hi - Lo).toNat ≤ kk → Hi ≤ ns.length → ns.length ≤ 1000 → dp + kk + 2 < recursionLimit →
    (∀ h' tk' vs' ns', Fr h₀ L h' m → News h₀ L h' ((l, listOf vs'.toArray e) :: rest) → IntsAre vs' ns' → ns' = ns.take Lo.toNat ++ digs n.toNat (Hi - Lo).toNat x.toNat ++ ns.drop Hi.toNat → ns'.length = ns.length → Q .none { s with heap := h', toks := tk' }) →
    wpAny (model Challenge.rw_hl0003_02.row.prog w) (ktrTop dp un gd cn cs L a ccd cl outer) (call (.ref f) [.int x tx, .int Lo tl, .int Hi th]) Q E s

noncomputable def InnerCl (w : World) (qual : Str) (params : Arguments) (body : List Stmt) (scope : Scope) : Prop :=
  ∀ (p : Program) (loose : List Str) (mean : ExcName → Option Value) (mg mb : Str → Option Value) (f l ca ci cN c : Addr) (oa oi oN oc : Obj) (doc pm ctv : Value) (cvs : Array Value) (t tn : Tok) (n : Int) (e : Nat) (rest : List (Addr × Obj)) (kk : Nat),
    (f, fnMade (Str.ofString "inner") qual params body scope [(Str.ofString "n", cN), (Str.ofString "inner", ci), (Str.ofString "a_digits", ca)] doc pm c ctv) ∈ rest → (c, oc) ∈ rest → oc.data = .fields cvs → cvs[1]? = some (.str qual t) →
    (ca, oa) ∈ rest → oa.data = .cell (some (.ref l)) → (ci, oi) ∈ rest → oi.data = .cell (some (.ref f)) → (cN, oN) ∈ rest → oN.data = .cell (some (.int n tn)) →
    (∀ p ∈ rest, p.1 ≠ l) → 0 < n → n ≤ 20 → InnerAt w p loose mean mg mb f l n e rest kk

theorem inner_use {w : World} {p : Program} {loose : List Str} {mean : ExcName → Option Value} {mg mb : Str → Option Value} {f l : Addr} {n : Int} {e : Nat} {rest : List (Addr × Obj)} {kk : Nat}
  {dp un : Nat} {gd : Option (List Code)} {cn : Str} {cs : Scope} {a : Addr} {ccd : Value} {cl : List (Str × Addr)} {outer : List Env} {A₀ : Around} {base h₀ : Heap} {L : Addr} {m : Str → Option Value} {s : Shared} {Q E : Value → Shared → Prop}
    {vs : List Value} {ns : List Int} {x Lo Hi : Int} {tx tl th : Tok} (IH : InnerAt w p loose mean mg mb f l n e rest kk)
    (B : Below A₀ base outer h₀) (F : Fr h₀ L s.heap m) (X : (Mine.hd.heap_39 w.params).In h₀) (T : Top p loose mean mg mb h₀) (hk : cs.kind = .function)
    (N : News h₀ L s.heap ((l, listOf vs.toArray e) :: rest)) (hI : IntsAre vs ns) (h1 : 0 ≤ x) (h2 : x < 2 ^ 20) (h3 : 0 ≤ Lo) (h4 : Lo < Hi) (h5 : (Hi - Lo).toNat ≤ kk) (h6 : Hi ≤ ns.length) (h7 : ns.length ≤ 1000) (h8 : dp + kk + 2 < recursionLimit)
    (h : ∀ h' tk' vs' ns', Fr h₀ L h' m → News h₀ L h' ((l, listOf vs'.toArray e) :: rest) → IntsAre vs' ns' → ns' = ns.take Lo.toNat ++ digs n.toNat (Hi - Lo).toNat x.toNat ++ ns.drop Hi.toNat → ns'.length = ns.length → Q .none { s with heap := h', toks := tk' }) :
    wpAny (model Challenge.rw_hl0003_02.row.prog w) (ktrTop dp un gd cn cs L a ccd cl outer) (call (.ref f) [.int x tx, .int Lo tl, .int Hi th]) Q E s :=
  IH _ _ _ _ _ _ _ _ _ _ _ _ _ _ _ _ _ _ _ _ _ _ _ _ _ B F X T hk N hI h1 h2 h3 h4 h5 h6 h7 h8 h

theorem inner_first {w : World} {p : Program} {loose : List Str} {mean : ExcName → Option Value} {mg mb : Str → Option Value} {f l ca ci cN c : Addr} {oa oi oN oc : Obj} {doc pm ctv : Value} {cvs : Array Value} {t tn : Tok} {n : Int} {e : Nat} {rest : List (Addr × Obj)}
  {qual : Str} {params : Arguments} {body : List Stmt} {scope : Scope}
  {dp un : Nat} {gd : Option (List Code)} {cn : Str} {cs : Scope} {a : Addr} {ccd : Value} {cl : List (Str × Addr)} {outer : List Env} {A₀ : Around} {base h₀ : Heap} {L : Addr} {m : Str → Option Value} {s : Shared} {Q E : Value → Shared → Prop}
    {vs : List Value} {ns : List Int} {x Lo Hi : Int} {tx tl th : Tok} (H : InnerCl w qual params body scope)
    (N : News h₀ L s.heap ((l, listOf vs.toArray e) :: rest))
    (hf : (f, fnMade (Str.ofString "inner") qual params body scope [(Str.ofString "n", cN), (Str.ofString "inner", ci), (Str.ofString "a_digits", ca)] doc pm c ctv) ∈ rest) (hc : (c, oc) ∈ rest) (hcd : oc.data = .fields cvs) (hcv : cvs[1]? = some (.str qual t))
    (hca : (ca, oa) ∈ rest) (hda : oa.data = .cell (some (.ref l))) (hci : (ci, oi) ∈ rest) (hdi : oi.data = .cell (some (.ref f))) (hcN : (cN, oN) ∈ rest) (hdN : oN.data = .cell (some (.int n tn)))
    (hl : ∀ p ∈ rest, p.1 ≠ l) (hn : 0 < n) (hn2 : n ≤ 20)
    (B : Below A₀ base outer h₀) (F : Fr h₀ L s.heap m) (X : (Mine.hd.heap_39 w.params).In h₀) (T : Top p loose mean mg mb h₀) (hk : cs.kind = .function)
    (hI : IntsAre vs ns) (h1 : 0 ≤ x) (h2 : x < 2 ^ 20) (h3 : 0 ≤ Lo) (h4 : Lo < Hi) (h6 : Hi ≤ ns.length) (h7 : ns.length ≤ 50) (h8 : dp + 60 < recursionLimit)
    (h : ∀ h' tk' vs' ns', Fr h₀ L h' m → News h₀ L h' ((l, listOf vs'.toArray e) :: rest) → IntsAre vs' ns' → ns' = ns.take Lo.toNat ++ digs n.toNat (Hi - Lo).toNat x.toNat ++ ns.drop Hi.toNat → ns'.length = ns.length → Q .none { s with heap := h', toks := tk' }) :
    wpAny (model Challenge.rw_hl0003_02.row.prog w) (ktrTop dp un gd cn cs L a ccd cl outer) (call (.ref f) [.int x tx, .int Lo tl, .int Hi th]) Q E s :=
  inner_use (H p loose mean mg mb f l ca ci cN c oa oi oN oc doc pm ctv cvs t tn n e rest 50 hf hc hcd hcv hca hda hci hdi hcN hdN hl hn hn2) B F X T hk N hI h1 h2 h3 h4 (by omega) h6 (by omega) (by omega) h

theorem rot3 {h₀ h : Heap} {L : Addr} {x y z : Addr × Obj} {r : List (Addr × Obj)} (N : News h₀ L h (x :: y :: z :: r)) : News h₀ L h (z :: x :: y :: r) := fun p hp => N p (by
  simp only [List.mem_cons] at hp ⊢
  rcases hp with h | h | h | h <;> simp [h])
theorem lt_up {l : List (Addr × Obj)} {a b : Addr} (h : ∀ p ∈ l, p.1 < a) (hab : @LT.lt Nat _ a b) : ∀ p ∈ l, p.1 < b := fun p hp => Nat.lt_trans (h p hp) hab
theorem sub_cons {x : Addr × Obj} {l big : List (Addr × Obj)} (h : x ∈ big) (k : ∀ p ∈ l, p ∈ big) : ∀ p ∈ x :: l, p ∈ big := fun p hp => by
  rcases List.mem_cons.mp hp with rfl | hp
  · exact h
  · exact k p hp

theorem use_inner {P : Prop} {w : World} {h₀ h : Heap} {L : Addr} {news : List (Addr × Obj)} {f ca ci cN c : Addr} {qual : Str} {params : Arguments} {body : List Stmt} {scope : Scope} {doc pm ctv : Value}
  (_ : News h₀ L h news) (_ : (f, fnMade (Str.ofString "inner") qual params body scope [(Str.ofString "n", cN), (Str.ofString "inner", ci), (Str.ofString "a_digits", ca)] doc pm c ctv) ∈ news)
  (H : InnerCl w qual params body scope) (k : InnerCl w qual params body scope → P) : P := k H

local macro_rules | `(tactic| walk_at "MINE sub") => `(tactic| first | assumption | exact (fun _ h => h) | (refine sub_cons ?a ?b; (case a => k_mem); (case b => walk_at "MINE sub")) | (refine sub_tl ?_; walk_at "MINE sub"))
section
local macro_rules | `(tactic| walk_at "call ref") => `(tactic| (k_here; k_dflt (apply inner_use; (case IH => assumption); (case B | F | X | T => k_asm); (case hk => exact rfl); (case N => k_asm); (case hI => assumption); (case h1 | h2 | h3 | h4 | h5 | h6 | h7 => walk_at "MINE arith"); (case h8 => ktr_room); k_whole); intro _ _ _ _ _ _ _ _ _; (try dsimp only); (try k_fold)))
local macro_rules | `(tactic| walk_at "call ref") => `(tactic| (k_here; k_dflt (apply inner_first; (case H => assumption); (case N => k_asm); (case hf | hc => k_mem); (case hcd | hcv => assumption); (case hca => k_mem); (case hda => k_asm); (case hci => k_mem); (case hdi => k_asm); (case hcN => k_mem); (case hdN => k_asm); (case hl => k_all); (case hn | hn2 => assumption); (case B | F | X | T => k_asm); (case hk => exact rfl); (case hI => assumption); (case h1 | h2 | h3 | h4 | h6 | h7 => walk_at "MINE arith"); (case h8 => exact Nat.le_of_ble_eq_true rfl); k_whole); intro _ _ _ _ _ _ _ _ _; (try dsimp only); (try k_fold)))
set_option rowWalk.seconds 0 in
theorem i2d_ok (w : World) (p : Program) (loose : List Str) (mean : ExcName → Option Value) (mg mb : Str → Option Value)
  (gd : Option (List Code)) (cn : Str) (cs : Scope) (a : Addr) (ccd : Value) (cl : List (Str × Addr)) (outer : List Env) (A₀ : Around) (base h₀ : Heap) (L : Addr) (m : Str → Option Value) (s : Shared) (Q E : Value → Shared → Prop)
  (x n : Int) (tx tn : Tok) (o30 : Obj) (rest : List (Addr × Obj)) :
  (Mine.hd.heap_39 w.params).In h₀ →
  Below A₀ base outer h₀ → CodeHd base 34 30 → Fr h₀ L s.heap m → News h₀ L s.heap ((30, o30) :: rest) → (∀ p ∈ rest, p.1 ≠ 30) → 
  (o30 = tabObj #[] ∨ Hot 32 4 "_int2digits.<locals>.inner" o30 rest) → Top p loose mean mg mb h₀ →
  cs.kind = .function → 0 ≤ x → x < 2 ^ 20 → 0 < n → n ≤ 20 →
  (∀ l vs ns e c oc cvs t h' tk', Fr h₀ L h' m → News h₀ L h' ((l, listOf vs.toArray e) :: (c, oc) :: (30, T3 32 4 c) :: rest) → oc.data = .fields cvs → cvs[1]? = some (.str "_int2digits.<locals>.inner" t) → (∀ p ∈ rest, p.1 < l) → @LT.lt Nat _ 30 l → c ≠ l → Born o30 32 4 c rest →
    IntsAre vs ns → ns = digs n.toNat (((Builtin.Int.intBits x : Int) + n - 1).fdiv n).toNat x.toNat → Q (.ref l) { s with heap := h', toks := tk' }) →
  wpAny (model Challenge.rw_hl0003_02.row.prog w) (ktrTop 400 1000 gd cn cs L a ccd cl outer) (call (.ref 35) [.int x tx, .int n tn]) Q E s := by
  k_fill
  intro X B C1 F N h30 hst T hk hx hx2 hn hn2 hret
  have hdc := dcount x n hx hx2 hn
  obtain ⟨hc0, hc1, hc2, hc3, hc4⟩ := hdc
  refine wpAny_call ?_
  (k_dflt (refine' code_defC ?zzk1u1 ?zzk2u1 ?zzk3u1 ?zzk4u1 ?zzk5u1 ?zzkAu1 ?zzkFu1 ?zzkKu1 ?zzk6u1 ?zzk7u1 ?zzk8u1 ?zzk9u1 ?zzkBu1 ?zzkDu1 ?_ ?zzc2u1 ?zzc3u1 ?zzc4u1; (case zzkAu1 | zzkFu1 => exact rfl); (case zzkKu1 => assumption); (case zzk1u1 | zzk2u1 | zzk3u1 | zzk4u1 | zzk5u1 => k_asm); (case zzk6u1 | zzk7u1 => k_is); (case zzk8u1 => k_room); (case zzk9u1 => first | exact BindsTo.of_eq rfl | exact binds_K (by k_in) rfl (by k_is) rfl rfl rfl | fail "k_enter: no rule for these arguments"); (case zzkBu1 => exact rfl); (case zzkDu1 => decide +kernel); (case zzc2u1 | zzc3u1 | zzc4u1 => exact rfl); k_whole; intro _ _ _ _ _ _ _ N' Y' B' _ _ l1; (have l9 := lt9c l1); (try k_lt l1); k_cells Y'; (try simp only [List.cons_append, List.nil_append] at N'); (try dsimp only); (try k_lift B'); (try k_fold)))
  iterate 29 walk1
  refine use_inner (w := w) (by assumption) (List.Mem.head _) ?zzH ?_
  case zzH =>
    unfold InnerCl
    intro p loose mean mg mb f l ca ci cN c oa oi oN oc doc pm ctv cvs t tn n e rest kk hf hc hcd hcv hca hda hci hdi hcN hdN hl hn hn2
    induction kk with
    | zero => 
      unfold InnerAt; intros; omega
    | succ kk IH =>
      unfold InnerAt
      intro dp un gd cn cs a ccd cl outer A₀ base h₀ L m s Q E vs ns x Lo Hi tx tl th B F X T hk N hI hx hx2 hLo hLH hkk hHi hns hdp hret
      obtain ⟨m1, m2, m3, m4, m5, m6⟩ := mid_facts Lo Hi n hLo hLH hn hn2 (by omega)
      obtain ⟨x1, x2, x3, x4, x5, x6, x7⟩ := x_facts x hx hx2 (((Lo + Hi).fdiv (2 ^ Int.toNat 1) - Lo) * n).toNat
      refine wpAny_call ?_
      (k_dflt (refine' code_nest ?zzk1u2 ?zzk2u2 ?zzk3u2 ?zzk4u2 ?zzk5u2 ?zzkAu2 ?zzkFu2 ?zzkKu2 ?zzk6u2 ?zzk7u2 ?zzk8u2 ?zzk9u2 ?zzkBu2 ?_ ?zzc2u2 ?zzc3u2 ?zzc4u2 ?zzc5u2; (case zzkAu2 | zzkFu2 => exact rfl); (case zzkKu2 => assumption); (case zzk1u2 | zzk2u2 | zzk3u2 | zzk4u2 | zzk5u2 => k_asm); (case zzk6u2 => k_mem); (case zzk7u2 => exact codeRec_news (by k_asm) (by k_mem) (by assumption) (by assumption)); (case zzk8u2 => k_room); (case zzk9u2 => exact BindsTo.of_eq rfl); (case zzc5u2 => decide); (case zzkBu2 => exact locs rfl); (case zzc2u2 | zzc3u2 | zzc4u2 => exact rfl); k_whole; intro _ _ _ _ _ _ B' _ _; (try dsimp only); (try k_lift B'); (try k_fold)))
      k_steps
      · refine hret _ _ _ _ (by k_asm) (by k_asm) (by assumption) (inner_leaf ns Lo Hi n x hLo (by walk_at "MINE arith") hHi hx) (by assumption)
      · refine hret _ _ _ _ (by k_asm) (by k_asm) (by assumption) (inner_fin (by assumption) (by assumption) hLo (by walk_at "MINE arith") m3 hHi m6 x7 x4) (by omega)
  intro HI
  with_reducible rename News _ _ _ _ => N8
  have N9 := rot3 N8
  clear N8
  k_steps
  · refine' hret _ _ _ _ _ _ _ _ _ _ ?zzF ?zzN ?zzd ?zzv ?zzl ?zzl30 ?zzne ?zzhc ?zzI ?zze
    case zzhc => exact Born.mono (by assumption) (by walk_at "MINE sub")
    case zzd => assumption
    case zzv => assumption
    case zzF => k_asm
    case zzN => walk_at "MINE drop"
    case zzl => exact lt_up (by assumption) (by omega)
    case zzl30 => exact ltN (by omega)
    case zzne => exact neN (by omega)
    case zzI => assumption
    case zze => exact i2d_fin (by assumption) (by assumption) (by omega)
  · refine' hret _ _ _ _ _ _ _ _ _ _ ?zzF ?zzN ?zzd ?zzv ?zzl ?zzl30 ?zzne ?zzhc ?zzI ?zze
    case zzhc => exact Born.mono (by assumption) (by walk_at "MINE sub")
    case zzd => assumption
    case zzv => assumption
    case zzF => k_asm
    case zzN => walk_at "MINE drop"
    case zzl => exact lt_up (by assumption) (by omega)
    case zzl30 => exact ltN (by omega)
    case zzne => exact neN (by omega)
    case zzI => assumption
    case zze => exact i2d_nil (by assumption) (by assumption)
end
end
local macro_rules | `(tactic| walk_at "MINE sub") => `(tactic| first | assumption | exact (fun _ h => h) | (refine sub_cons ?a ?b; (case a => k_mem); (case b => walk_at "MINE sub")) | (refine sub_tl ?_; walk_at "MINE sub"))
local macro_rules | `(tactic| walk_at "ite") => `(tactic| first
  | ((with_reducible refine ite_dec_pos ?itp ?_); (case itp => omega))
  | ((with_reducible refine ite_dec_neg ?itn ?_); (case itn => omega))
  | ((with_reducible refine ite_beq_pos ?itp ?_); (case itp => omega))
  | ((with_reducible refine ite_beq_neg ?itn ?_); (case itn => omega))
  | ((with_reducible refine ite_bne_pos ?itp ?_); (case itp => omega))
  | ((with_reducible refine ite_bne_neg ?itn ?_); (case itn => omega)))
local macro_rules | `(tactic| walk_at "MINE h0") => `(tactic| (k_here; (with_reducible refine gd_r ?_); k_dflt (refine' len_ints ?N ?m ?I ?f ?_; (case N => k_asm); (case m => k_mem); (case I => assumption); (case f => omega))))
section
noncomputable def InAt2 (w : World) (p : Program) (loose : List Str) (mean : ExcName → Option Value) (mg mb : Str → Option Value) (f : Addr) (n : Int) (ns : List Int) (rest : List (Addr × Obj)) (kk : Nat) : Prop :=
  ∀ (dp un : Nat) (gd : Option (List Code)) (cn : Str) (cs : Scope) (a : Addr) (ccd : Value) (cl : List (Str × Addr)) (outer : List Env) (A₀ : Around) (base h₀ : Heap) (L : Addr) (m : Str → Option Value) (s : Shared) (Q E : Value → Shared → Prop)
    (Lo Hi : Int) (tl th : Tok),
    Below A₀ base outer h₀ → Fr h₀ L s.heap m → (Mine.hd.heap_39 w.params).In h₀ → Top p loose mean mg mb h₀ → cs.kind = .function →
    News h₀ L s.heap rest → 0 ≤ Lo → Lo < Hi → (Hi - Lo).toNat ≤ kk → Hi ≤ ns.length → dp + kk + 2 < recursionLimit →
    (∀ v t h' tk', Fr h₀ L h' m → News h₀ L h' rest → v = dval n.toNat ((ns.drop Lo.toNat).take (Hi - Lo).toNat) → 0 ≤ v → v < 2 ^ 400 → Q (.int v t) { s with heap := h', toks := tk' }) →
    wpAny (model Challenge.rw_hl0003_02.row.prog w) (ktrTop dp un gd cn cs L a ccd cl outer) (call (.ref f) [.int Lo tl, .int Hi th]) Q E s

noncomputable def InCl2 (w : World) (qual : Str) (params : Arguments) (body : List Stmt) (scope : Scope) : Prop :=
  ∀ (p : Program) (loose : List Str) (mean : ExcName → Option Value) (mg mb : Str → Option Value) (f l ca ci cN c : Addr) (oa oi oN oc : Obj) (doc pm ctv : Value) (cvs : Array Value) (t tn : Tok) (n : Int) (e : Nat) (rest : List (Addr × Obj)) (kk : Nat) (vs : List Value) (ns : List Int),
    (f, fnMade (Str.ofString "inner") qual params body scope [(Str.ofString "n", cN), (Str.ofString "inner", ci), (Str.ofString "digits", ca)] doc pm c ctv) ∈ rest → (c, oc) ∈ rest → oc.data = .fields cvs → cvs[1]? = some (.str qual t) →
    (ca, oa) ∈ rest → oa.data = .cell (some (.ref l)) → (ci, oi) ∈ rest → oi.data = .cell (some (.ref f)) → (cN, oN) ∈ rest → oN.data = .cell (some (.int n tn)) →
    (l, listOf vs.toArray e) ∈ rest → IntsAre vs ns → ns.length ≤ 20 → (∀ d ∈ ns, 0 ≤ d ∧ d < 2 ^ n.toNat) → 0 < n → n ≤ 20 → InAt2 w p loose mean mg mb f n ns rest kk

theorem in_use2 {w : World} {p : Program} {loose : List Str} {mean : ExcName → Option Value} {mg mb : Str → Option Value} {f : Addr} {n : Int} {rest : List (Addr × Obj)} {kk : Nat}
  {dp un : Nat} {gd : Option (List Code)} {cn : Str} {cs : Scope} {a : Addr} {ccd : Value} {cl : List (Str × Addr)} {outer : List Env} {A₀ : Around} {base h₀ : Heap} {L : Addr} {m : Str → Option Value} {s : Shared} {Q E : Value → Shared → Prop}
    {ns : List Int} {Lo Hi : Int} {tl th : Tok} (IH : InAt2 w p loose mean mg mb f n ns rest kk)
    (B : Below A₀ base outer h₀) (F : Fr h₀ L s.heap m) (X : (Mine.hd.heap_39 w.params).In h₀) (T : Top p loose mean mg mb h₀) (hk : cs.kind = .function)
    (N : News h₀ L s.heap rest) (h3 : 0 ≤ Lo) (h4 : Lo < Hi) (h5 : (Hi - Lo).toNat ≤ kk) (h6 : Hi ≤ ns.length) (h8 : dp + kk + 2 < recursionLimit)
    (h : ∀ v t h' tk', Fr h₀ L h' m → News h₀ L h' rest → v = dval n.toNat ((ns.drop Lo.toNat).take (Hi - Lo).toNat) → 0 ≤ v → v < 2 ^ 400 → Q (.int v t) { s with heap := h', toks := tk' }) :
    wpAny (model Challenge.rw_hl0003_02.row.prog w) (ktrTop dp un gd cn cs L a ccd cl outer) (call (.ref f) [.int Lo tl, .int Hi th]) Q E s :=
  IH _ _ _ _ _ _ _ _ _ _ _ _ _ _ _ _ _ _ _ _ _ B F X T hk N h3 h4 h5 h6 h8 h

theorem in_first2 {w : World} {p : Program} {loose : List Str} {mean : ExcName → Option Value} {mg mb : Str → Option Value} {f l ca ci cN c : Addr} {oa oi oN oc : Obj} {doc pm ctv : Value} {cvs : Array Value} {t tn : Tok} {n : Int} {e : Nat} {rest : List (Addr × Obj)}
  {qual : Str} {params : Arguments} {body : List Stmt} {scope : Scope}
  {dp un : Nat} {gd : Option (List Code)} {cn : Str} {cs : Scope} {a : Addr} {ccd : Value} {cl : List (Str × Addr)} {outer : List Env} {A₀ : Around} {base h₀ : Heap} {L : Addr} {m : Str → Option Value} {s : Shared} {Q E : Value → Shared → Prop}
    {vs : List Value} {ns : List Int} {Lo Hi : Int} {tl th : Tok} (H : InCl2 w qual params body scope)
    (N : News h₀ L s.heap rest)
    (hf : (f, fnMade (Str.ofString "inner") qual params body scope [(Str.ofString "n", cN), (Str.ofString "inner", ci), (Str.ofString "digits", ca)] doc pm c ctv) ∈ rest) (hc : (c, oc) ∈ rest) (hcd : oc.data = .fields cvs) (hcv : cvs[1]? = some (.str qual t))
    (hca : (ca, oa) ∈ rest) (hda : oa.data = .cell (some (.ref l))) (hci : (ci, oi) ∈ rest) (hdi : oi.data = .cell (some (.ref f))) (hcN : (cN, oN) ∈ rest) (hdN : oN.data = .cell (some (.int n tn)))
    (hl : (l, listOf vs.toArray e) ∈ rest) (hI : IntsAre vs ns) (hlen : ns.length ≤ 20) (hdg : ∀ d ∈ ns, 0 ≤ d ∧ d < 2 ^ n.toNat) (hn : 0 < n) (hn2 : n ≤ 20)
    (B : Below A₀ base outer h₀) (F : Fr h₀ L s.heap m) (X : (Mine.hd.heap_39 w.params).In h₀) (T : Top p loose mean mg mb h₀) (hk : cs.kind = .function)
    (h3 : 0 ≤ Lo) (h4 : Lo < Hi) (h6 : Hi ≤ ns.length) (h8 : dp + 60 < recursionLimit)
    (h : ∀ v t h' tk', Fr h₀ L h' m → News h₀ L h' rest → v = dval n.toNat ((ns.drop Lo.toNat).take (Hi - Lo).toNat) → 0 ≤ v → v < 2 ^ 400 → Q (.int v t) { s with heap := h', toks := tk' }) :
    wpAny (model Challenge.rw_hl0003_02.row.prog w) (ktrTop dp un gd cn cs L a ccd cl outer) (call (.ref f) [.int Lo tl, .int Hi th]) Q E s :=
  in_use2 (H p loose mean mg mb f l ca ci cN c oa oi oN oc doc pm ctv cvs t tn n e rest 50 vs ns hf hc hcd hcv hca hda hci hdi hcN hdN hl hI hlen hdg hn hn2) B F X T hk N h3 h4 (by omega) h6 (by omega) h

theorem in2_end {h₀ h' : Heap} {L : Addr} {m : Str → Option Value} {rest : List (Addr × Obj)} {Q : Value → Shared → Prop} {s : Shared} {x y : Int} {t : Tok} {tk' : Nat}
    (hret : ∀ v t h' tk', Fr h₀ L h' m → News h₀ L h' rest → v = x → 0 ≤ v → v < 2 ^ 400 → Q (.int v t) { s with heap := h', toks := tk' }) (F : Fr h₀ L h' m) (N : News h₀ L h' rest) (e : y = x) (q0 : 0 ≤ x) (q1 : x < 2 ^ 400) : Q (.int y t) { s with heap := h', toks := tk' } :=
  hret y t h' tk' F N e (e ▸ q0) (e ▸ q1)
theorem use_in2 {P : Prop} {w : World} {h₀ h : Heap} {L : Addr} {news : List (Addr × Obj)} {f ca ci cN c : Addr} {qual : Str} {params : Arguments} {body : List Stmt} {scope : Scope} {doc pm ctv : Value}
  (_ : News h₀ L h news) (_ : (f, fnMade (Str.ofString "inner") qual params body scope [(Str.ofString "n", cN), (Str.ofString "inner", ci), (Str.ofString "digits", ca)] doc pm c ctv) ∈ news)
  (H : InCl2 w qual params body scope) (k : InCl2 w qual params body scope → P) : P := k H

section
local macro_rules | `(tactic| walk_at "call ref") => `(tactic| (k_here; k_dflt (apply in_use2; (case IH => assumption); (case B | F | X | T => k_asm); (case hk => exact rfl); (case N => k_asm); (case h3 | h4 | h5 | h6 => walk_at "MINE arith"); (case h8 => ktr_room); k_whole); intro _ _ _ _ _ _ _ _ _; (try dsimp only); (try k_fold)))
local macro_rules | `(tactic| walk_at "call ref") => `(tactic| (k_here; k_dflt (apply in_first2; (case H => assumption); (case N => k_asm); (case hf | hc => k_mem); (case hcd | hcv => assumption); (case hca => k_mem); (case hda => k_asm); (case hci => k_mem); (case hdi => k_asm); (case hcN => k_mem); (case hdN => k_asm); (case hl => k_mem); (case hI | hlen | hdg | hn | hn2 => assumption); (case B | F | X | T => k_asm); (case hk => exact rfl); (case h3 | h4 | h6 => walk_at "MINE arith"); (case h8 => exact Nat.le_of_ble_eq_true rfl); k_whole); intro _ _ _ _ _ _ _ _ _; (try dsimp only); (try k_fold)))
local macro_rules | `(tactic| walk_at "binaryOp LShift int int") => `(tactic| ((with_reducible refine lshift_int ?kbn ?kbs ?_); (case kbn => assumption); (case kbs => exact shl_ok (by assumption) (by assumption) (by assumption))))
local macro_rules | `(tactic| walk_at "truthy ref") => `(tactic| (k_here; (with_reducible refine gd_t ?_); k_dflt (refine' truthy_ints ?N ?m ?I ?f ?_ ?_; (case N => k_asm); (case m => k_mem); (case I => assumption); (case f => omega)); (all_goals intro _)))
local macro_rules | `(tactic| walk_at "call builtin:len") => `(tactic| walk_at "MINE h0")
set_option rowWalk.seconds 0 in
theorem d2i_ok (w : World) (p : Program) (loose : List Str) (mean : ExcName → Option Value) (mg mb : Str → Option Value)
  (gd : Option (List Code)) (cn : Str) (cs : Scope) (a : Addr) (ccd : Value) (cl : List (Str × Addr)) (outer : List Env) (A₀ : Around) (base h₀ : Heap) (L : Addr) (m : Str → Option Value) (s : Shared) (Q E : Value → Shared → Prop)
  (n : Int) (l : Addr) (vs : List Value) (ns : List Int) (e : Nat) (tn : Tok) (o37 : Obj) (rest : List (Addr × Obj)) :
  (Mine.hd.heap_39 w.params).In h₀ →
  Below A₀ base outer h₀ → CodeHd base 41 37 → Fr h₀ L s.heap m → News h₀ L s.heap ((37, o37) :: rest) → (∀ p ∈ rest, p.1 ≠ 37) → 
  (o37 = tabObj #[] ∨ Hot 47 4 "_digits2int.<locals>.inner" o37 rest) → Top p loose mean mg mb h₀ →
  cs.kind = .function → (l, listOf vs.toArray e) ∈ rest → IntsAre vs ns → ns.length ≤ 20 → (∀ d ∈ ns, 0 ≤ d ∧ d < 2 ^ n.toNat) → 0 < n → n ≤ 20 →
  (∀ v c oc cvs t t' h' tk', Fr h₀ L h' m → News h₀ L h' ((c, oc) :: (37, T3 47 4 c) :: rest) → oc.data = .fields cvs → cvs[1]? = some (.str "_digits2int.<locals>.inner" t) → Born o37 47 4 c rest →
    v = dval n.toNat ns → Q (.int v t') { s with heap := h', toks := tk' }) →
  wpAny (model Challenge.rw_hl0003_02.row.prog w) (ktrTop 400 1000 gd cn cs L a ccd cl outer) (call (.ref 42) [.ref l, .int n tn]) Q E s := by
  k_fill
  intro X B C1 F N h37 hst T hk hl hI hlen hdg hn hn2 hret
  refine wpAny_call ?_
  (k_dflt (refine' code_defC ?zzk1u3 ?zzk2u3 ?zzk3u3 ?zzk4u3 ?zzk5u3 ?zzkAu3 ?zzkFu3 ?zzkKu3 ?zzk6u3 ?zzk7u3 ?zzk8u3 ?zzk9u3 ?zzkBu3 ?zzkDu3 ?_ ?zzc2u3 ?zzc3u3 ?zzc4u3; (case zzkAu3 | zzkFu3 => exact rfl); (case zzkKu3 => assumption); (case zzk1u3 | zzk2u3 | zzk3u3 | zzk4u3 | zzk5u3 => k_asm); (case zzk6u3 | zzk7u3 => k_is); (case zzk8u3 => k_room); (case zzk9u3 => first | exact BindsTo.of_eq rfl | exact binds_K (by k_in) rfl (by k_is) rfl rfl rfl | fail "k_enter: no rule for these arguments"); (case zzkBu3 => exact rfl); (case zzkDu3 => decide +kernel); (case zzc2u3 | zzc3u3 | zzc4u3 => exact rfl); k_whole; intro _ _ _ _ _ _ _ N' Y' B' _ _ l1; (have l9 := lt9c l1); (try k_lt l1); k_cells Y'; (try simp only [List.cons_append, List.nil_append] at N'); (try dsimp only); (try k_lift B'); (try k_fold)))
  iterate 4 walk1
  refine use_in2 (w := w) (by assumption) (List.Mem.head _) ?zzH ?_
  case zzH =>
    unfold InCl2
    intro p loose mean mg mb f l ca ci cN c oa oi oN oc doc pm ctv cvs t tn n e rest kk vs ns hf hc hcd hcv hca hda hci hdi hcN hdN hl hI hlen hdg hn hn2
    induction kk with
    | zero => 
      unfold InAt2; intros; omega
    | succ kk IH =>
      unfold InAt2
      intro dp un gd cn cs a ccd cl outer A₀ base h₀ L m s Q E Lo Hi tl th B F X T hk N hLo hLH hkk hHi hdp hret
      obtain ⟨m1, m2, m3, m4, m5, m6⟩ := mid_facts Lo Hi n hLo hLH hn hn2 (by omega)
      refine wpAny_call ?_
      (k_dflt (refine' code_nest ?zzk1u4 ?zzk2u4 ?zzk3u4 ?zzk4u4 ?zzk5u4 ?zzkAu4 ?zzkFu4 ?zzkKu4 ?zzk6u4 ?zzk7u4 ?zzk8u4 ?zzk9u4 ?zzkBu4 ?_ ?zzc2u4 ?zzc3u4 ?zzc4u4 ?zzc5u4; (case zzkAu4 | zzkFu4 => exact rfl); (case zzkKu4 => assumption); (case zzk1u4 | zzk2u4 | zzk3u4 | zzk4u4 | zzk5u4 => k_asm); (case zzk6u4 => k_mem); (case zzk7u4 => exact codeRec_news (by k_asm) (by k_mem) (by assumption) (by assumption)); (case zzk8u4 => k_room); (case zzk9u4 => exact BindsTo.of_eq rfl); (case zzc5u4 => decide); (case zzkBu4 => exact locs rfl); (case zzc2u4 | zzc3u4 | zzc4u4 => exact rfl); k_whole; intro _ _ _ _ _ _ B' _ _; (try dsimp only); (try k_lift B'); (try k_fold)))
      k_steps
      · obtain ⟨q0, q1⟩ := dval_part hdg hn2 hlen Lo.toNat (Hi - Lo).toNat
        have q2 := in2_leaf (n := n) (ns := ns) hLo (by walk_at "MINE arith" : Lo + 1 = Hi) hHi
        exact hret _ _ _ _ (by k_asm) (by k_asm) q2 (q2 ▸ q0) (q2 ▸ q1)
      · obtain ⟨q0, q1⟩ := dval_part hdg hn2 hlen Lo.toNat (Hi - Lo).toNat
        refine in2_end hret (by k_asm) (by k_asm) (in2_fin hLo m1 (Int.le_of_lt m3) hHi (by assumption) (by assumption) m6) q0 q1
  intro HI
  k_steps
  · refine' hret _ _ _ _ _ _ _ _ ?zzF ?zzN ?zzd ?zzv ?zzhc ?zze
    case zzhc => exact Born.mono (by assumption) (by walk_at "MINE sub")
    case zzd => assumption
    case zzv => assumption
    case zzF => k_asm
    case zzN => walk_at "MINE drop"
    case zze => exact d2i_fin (by assumption)
  · refine' hret _ _ _ _ _ _ _ _ ?zzF ?zzN ?zzd ?zzv ?zzhc ?zze
    case zzhc => exact Born.mono (by assumption) (by walk_at "MINE sub")
    case zzd => assumption
    case zzv => assumption
    case zzF => k_asm
    case zzN => walk_at "MINE drop"
    case zze => exact d2i_nil (by assumption)
end
end
section
local macro_rules | `(tactic| walk_at "call builtin:divmod") => `(tactic| ((with_reducible refine gd_ii ?_); k_dflt (refine' divmod_N2 ?F ?N ?b ?b2 ?_; (case F | N => k_asm); (case b => assumption); (case b2 => assumption)); intro _ _ _ _ _ _ _ _; (try k_fold)))
theorem dm2_ok (w : World) (p : Program) (loose : List Str) (mean : ExcName → Option Value) (mg mb : Str → Option Value)
  (gd : Option (List Code)) (cn : Str) (cs : Scope) (a : Addr) (ccd : Value) (cl : List (Str × Addr)) (outer : List Env) (A₀ : Around) (base h₀ : Heap) (L : Addr) (m : Str → Option Value) (s : Shared) (Q E : Value → Shared → Prop)
  (x y n : Int) (tx ty tn : Tok) (news : List (Addr × Obj)) :
  (Mine.hd.heap_39 w.params).In h₀ →
  Below A₀ base outer h₀ → Fr h₀ L s.heap m → News h₀ L s.heap news → Top p loose mean mg mb h₀ →
  cs.kind = .function → 0 ≤ x → x < 2 ^ 100 → 0 < y → y < 2 ^ 30 → 0 < n →
  (∀ d t1 t2 h' tk', Fr h₀ L h' m → News h₀ L h' ((d, { cls := .type "tuple", data := .seq #[.int (x.fdiv y) t1, .int (x.fmod y) t2] }) :: news) → (∀ p ∈ news, p.1 < d) → Q (.ref d) { s with heap := h', toks := tk' }) →
  wpAny (model Challenge.rw_hl0003_02.row.prog w) (ktrTop 400 1000 gd cn cs L a ccd cl outer) (call (.ref 21) [.int x tx, .int y ty, .int n tn]) Q E s := by
  k_fill
  intro X B F N T hk hx hx2 hy hy2 hn hret
  have hbits := bits_le x hx 100 hx2
  refine wpAny_call ?_
  k_dflt cell_enter
  k_steps
  exact hret _ _ _ _ _ (by k_asm) (by k_asm) (by assumption)
noncomputable abbrev tup2 (a b : Value) : Obj := { cls := .type "tuple", data := .seq #[a, b] }
theorem st_use {w : World} {p : Program} {loose : List Str} {mean : ExcName → Option Value} {mg mb : Str → Option Value}
  {dp un : Nat} {gd : Option (List Code)} {cn : Str} {cs : Scope} {a : Addr} {ccd : Value} {cl : List (Str × Addr)} {outer : List Env} {A₀ : Around} {base h₀ : Heap} {L : Addr} {m : Str → Option Value} {s : Shared} {Q E : Value → Shared → Prop}
  {r y d n : Int} {tx ty tn : Tok} {news : List (Addr × Obj)} (hdp : dp ≤ 400) (hun : un ≤ 1000)
  (X : (Mine.hd.heap_39 w.params).In h₀) (B : Below A₀ base outer h₀) (F : Fr h₀ L s.heap m) (N : News h₀ L s.heap news) (T : Top p loose mean mg mb h₀) (hk : cs.kind = .function)
  (h0 : 0 ≤ r) (h1 : r < y) (hy : y < 2 ^ 20) (hd : 0 ≤ d ∧ d < 2 ^ n.toNat) (hn : 0 < n) (hn2 : n ≤ 20)
  (ret : ∀ a q r' t1 t2 h' tk', Fr h₀ L h' m → News h₀ L h' ((a, tup2 (.int q t1) (.int r' t2)) :: news) → (∀ p ∈ news, p.1 < a) → q = (r * 2 ^ n.toNat + d).fdiv y → r' = (r * 2 ^ n.toNat + d).fmod y → 0 ≤ r' → r' < y → (0 ≤ q ∧ q < 2 ^ n.toNat) → Q (.ref a) { s with heap := h', toks := tk' }) :
  wpAny (model Challenge.rw_hl0003_02.row.prog w) (ktrTop dp un gd cn cs L a ccd cl outer) (call (.ref 21) [.int (r * 2 ^ n.toNat + d) tx, .int y ty, .int n tn]) Q E s := by
  obtain ⟨e1, e2, e3, e4, e5, e6⟩ := step_ok (k := n.toNat) (by omega) h0 h1 hy hd.1 hd.2
  refine wp_room (dm2_ok w p loose mean mg mb gd cn cs a ccd cl outer A₀ base h₀ L m s Q E _ y n tx ty tn news X B F N T hk e1 e2 (by omega) (by omega) hn fun d t1 t2 h' tk' F' N' l1 => ?_) hdp hun
  exact ret _ _ _ _ _ _ _ F' N' l1 rfl rfl e5 e6 ⟨e3, e4⟩

theorem i2d_use {w : World} {p : Program} {loose : List Str} {mean : ExcName → Option Value} {mg mb : Str → Option Value}
  {dp un : Nat} {gd : Option (List Code)} {cn : Str} {cs : Scope} {a : Addr} {ccd : Value} {cl : List (Str × Addr)} {outer : List Env} {A₀ : Around} {base h₀ : Heap} {L : Addr} {m : Str → Option Value} {s : Shared} {Q E : Value → Shared → Prop}
  {x n : Int} {tx tn : Tok} {o30 : Obj} {news keep : List (Addr × Obj)} (hdp : dp ≤ 400) (hun : un ≤ 1000)
  (X : (Mine.hd.heap_39 w.params).In h₀) (B : Below A₀ base outer h₀) (C1 : CodeHd base 34 30) (F : Fr h₀ L s.heap m) (N : News h₀ L s.heap news) (hm : (30, o30) ∈ news) (R : Rm 30 news keep)
  (hst : o30 = tabObj #[] ∨ Hot 32 4 "_int2digits.<locals>.inner" o30 keep) (T : Top p loose mean mg mb h₀)
  (hk : cs.kind = .function) (hx : 0 ≤ x) (hx2 : x < 2 ^ 20) (hn : 0 < n) (hn2 : n ≤ 20)
  (ret : ∀ l vs ns e c oc cvs t h' tk', Fr h₀ L h' m → News h₀ L h' ((l, listOf vs.toArray e) :: (c, oc) :: (30, T3 32 4 c) :: keep) → oc.data = .fields cvs → cvs[1]? = some (.str "_int2digits.<locals>.inner" t) → (∀ p ∈ keep, p.1 < l) → @LT.lt Nat _ 30 l → c ≠ l → Born o30 32 4 c keep →
    IntsAre vs ns → ns = digs n.toNat (((Builtin.Int.intBits x : Int) + n - 1).fdiv n).toNat x.toNat → Q (.ref l) { s with heap := h', toks := tk' }) :
  wpAny (model Challenge.rw_hl0003_02.row.prog w) (ktrTop dp un gd cn cs L a ccd cl outer) (call (.ref 35) [.int x tx, .int n tn]) Q E s :=
  wp_room (i2d_ok w p loose mean mg mb gd cn cs a ccd cl outer A₀ base h₀ L m s Q E x n tx tn o30 keep X B C1 F (fun q hq => N q (by rcases List.mem_cons.mp hq with rfl | hq; exact hm; exact R.ok.1 q hq)) R.ok.2 hst T hk hx hx2 hn hn2 ret) hdp hun

theorem d2i_use {w : World} {p : Program} {loose : List Str} {mean : ExcName → Option Value} {mg mb : Str → Option Value}
  {dp un : Nat} {gd : Option (List Code)} {cn : Str} {cs : Scope} {a : Addr} {ccd : Value} {cl : List (Str × Addr)} {outer : List Env} {A₀ : Around} {base h₀ : Heap} {L : Addr} {m : Str → Option Value} {s : Shared} {Q E : Value → Shared → Prop}
  {n : Int} {l : Addr} {vs : List Value} {ns : List Int} {e : Nat} {tn : Tok} {o37 : Obj} {news keep : List (Addr × Obj)} (hdp : dp ≤ 400) (hun : un ≤ 1000)
  (X : (Mine.hd.heap_39 w.params).In h₀) (B : Below A₀ base outer h₀) (C1 : CodeHd base 41 37) (F : Fr h₀ L s.heap m) (N : News h₀ L s.heap news) (hm : (37, o37) ∈ news) (R : Rm 37 news keep)
  (hst : o37 = tabObj #[] ∨ Hot 47 4 "_digits2int.<locals>.inner" o37 keep) (T : Top p loose mean mg mb h₀)
  (hk : cs.kind = .function) (hl : (l, listOf vs.toArray e) ∈ keep) (hI : IntsAre vs ns) (hlen : ns.length ≤ 20) (hdg : ∀ d ∈ ns, 0 ≤ d ∧ d < 2 ^ n.toNat) (hn : 0 < n) (hn2 : n ≤ 20)
  (ret : ∀ v c oc cvs t t' h' tk', Fr h₀ L h' m → News h₀ L h' ((c, oc) :: (37, T3 47 4 c) :: keep) → oc.data = .fields cvs → cvs[1]? = some (.str "_digits2int.<locals>.inner" t) → Born o37 47 4 c keep →
    v = dval n.toNat ns → Q (.int v t') { s with heap := h', toks := tk' }) :
  wpAny (model Challenge.rw_hl0003_02.row.prog w) (ktrTop dp un gd cn cs L a ccd cl outer) (call (.ref 42) [.ref l, .int n tn]) Q E s :=
  wp_room (d2i_ok w p loose mean mg mb gd cn cs a ccd cl outer A₀ base h₀ L m s Q E n l vs ns e tn o37 keep X B C1 F (fun q hq => N q (by rcases List.mem_cons.mp hq with rfl | hq; exact hm; exact R.ok.1 q hq)) R.ok.2 hst T hk hl hI hlen hdg hn hn2 ret) hdp hun

local macro_rules | `(tactic| walk_at "MINE rm") => `(tactic| first | (refine' Rm.tl ?h; (case h => k_all)) | (refine' Rm.hit ?b; (case b => walk_at "MINE rm")) | (refine' Rm.miss ?a ?b; (case a => first | (refine neN ?_; (try dsimp only); first | done | omega) | exact code_ne (by assumption) (by k_mem) (by assumption) (by assumption) (by k_mem) (hotT (by assumption))); (case b => walk_at "MINE rm")))
local macro_rules | `(tactic| walk_at "MINE hot") => `(tactic| (refine' hotUp ?h ?s; (case h => assumption); (case s => walk_at "MINE sub")))
noncomputable abbrev dpM (m0 : Str → Option Value) (vq vd : Option Value) (r : Int) (tr : Tok) : Str → Option Value :=
  fun z => if z = Str.ofString "r" then some (.int r tr) else if z = Str.ofString "q_digit" then vq else if z = Str.ofString "a_digit" then vd else m0 z
theorem dpM_init {m : Str → Option Value} {vq vd : Option Value} {tr : Tok} (h1 : m (Str.ofString "r") = some (.int 0 tr)) (h2 : m (Str.ofString "q_digit") = vq) (h3 : m (Str.ofString "a_digit") = vd) : m = dpM m vq vd 0 tr := by
  funext z
  unfold dpM
  split
  · subst z; exact h1
  · split
    · subst z; exact h2
    · split
      · subst z; exact h3
      · rfl
theorem dpM_step (m0 : Str → Option Value) (vq vd vq' vd' : Option Value) (r r' : Int) (tr tr' : Tok) :
    (fun z => if z = Str.ofString "r" then some (.int r' tr') else if z = Str.ofString "q_digit" then vq' else if z = Str.ofString "a_digit" then vd' else dpM m0 vq vd r tr z) = dpM m0 vq' vd' r' tr' := by
  funext z
  unfold dpM
  (repeat' split) <;> first | rfl | contradiction
inductive DpJ (n y : Int) (m0 : Str → Option Value) (lq : Addr) (keep : List (Addr × Obj)) (ds0 : List Int) : List Value → (Str → Option Value) → List (Addr × Obj) → Prop
  | mk {vq vd : Option Value} {r : Int} {tr : Tok} {ds qs rem : List Int} {rv qv : List Value} {eq : Nat} (h1 : LD n.toNat y ds qs r) (h2 : 0 ≤ r) (h3 : r < y) (h4 : ds0 = rem.reverse ++ ds) (h5 : IntsAre rv rem) (h6 : IntsAre qv qs.reverse)
      (h7 : ∀ q ∈ qs, 0 ≤ q ∧ q < 2 ^ n.toNat) (h8 : qs.length = ds.length) : DpJ n y m0 lq keep ds0 rv (dpM m0 vq vd r tr) ((lq, listOf qv.toArray eq) :: keep)
theorem DpJ.start {n y : Int} {m : Str → Option Value} {lq : Addr} {keep : List (Addr × Obj)} {ds0 : List Int} {vs : List Value} {vq vd : Option Value} {tr : Tok} (hy : 0 < y) (hI : IntsAre vs ds0) : DpJ n y m lq keep ds0 vs.reverse (dpM m vq vd 0 tr) ((lq, listOf #[] 0) :: keep) :=
  DpJ.mk (qv := []) (ds := []) (qs := []) (rem := ds0.reverse) .nil (Int.le_refl _) hy (by simp) hI.reverse .nil (by simp) rfl
theorem DpJ.next {n y : Int} {m0 : Str → Option Value} {lq : Addr} {keep : List (Addr × Obj)} {ds0 : List Int} {r q r' d : Int} {ds qs rem : List Int} {rv qv qv' : List Value} {tr' tq : Tok} {eq' : Nat} {vq' vd' : Option Value}
    (h1 : LD n.toNat y ds qs r) (h4 : ds0 = (d :: rem).reverse ++ ds) (h5 : IntsAre rv rem) (h6 : IntsAre qv qs.reverse) (h7 : ∀ q ∈ qs, 0 ≤ q ∧ q < 2 ^ n.toNat) (h8 : qs.length = ds.length)
    (e1 : q = (r * 2 ^ n.toNat + d).fdiv y) (e2 : r' = (r * 2 ^ n.toNat + d).fmod y) (r0 : 0 ≤ r') (r1 : r' < y) (qb : 0 ≤ q ∧ q < 2 ^ n.toNat) (e3 : qv' = qv ++ [.int q tq]) : DpJ n y m0 lq keep ds0 rv (dpM m0 vq' vd' r' tr') ((lq, listOf qv'.toArray eq') :: keep) :=
  DpJ.mk (ds := d :: ds) (qs := q :: qs) (.cons h1 e1 e2) r0 r1 (by rw [h4]; simp) h5 (by rw [e3, List.reverse_cons]; exact IntsAre.append h6 (.cons _ _ .nil)) (fun x hx => by
    rcases List.mem_cons.mp hx with rfl | hx
    · exact qb
    · exact h7 x hx) (by simp [h8])

theorem dp_loop {prog : Program} {w : World} {A : Around} {E : Value → Shared → Prop} {s : Shared} {env : Env} {h₀ : Heap} {x : Str} {body : List Stmt} {Q : Flow → Shared → Prop} {I : Addr} {lp : Addr × Obj}
    {n y : Int} {m : Str → Option Value} {lq : Addr} {keep : List (Addr × Obj)} {ds0 : List Int} {vs : List Value} {vq vd : Option Value} {tr : Tok} {K X : Nat} (h1 : m (Str.ofString "r") = some (.int 0 tr)) (h2 : m (Str.ofString "q_digit") = vq) (h3 : m (Str.ofString "a_digit") = vd) (hI : IntsAre vs ds0) (hy : 0 < y)
    (hds : ds0 = digs n.toNat K X) (hK : K ≤ 20) (hX : X < 2 ^ (n.toNat * K))
    (step : (∀ d ∈ ds0, 0 ≤ d ∧ d < 2 ^ n.toNat) → ds0.length ≤ 20 → ∀ v r m1 news, DpJ n y m lq keep ds0 (v :: r) m1 news → ∀ (it : Obj) h tk, it.cls = .type "list_reverseiterator" → Fr h₀ env.locals h (fun y => if y = x then some v else m1 y) → News h₀ env.locals h ((I, it) :: news) →
      wpAny (model prog w) A (execs body env) (UnrPost h₀ env.locals { s with heap := h, toks := tk } I it (fun m' n' => lp ∈ n' ∧ DpJ n y m lq keep ds0 r m' n') Q) E { s with heap := h, toks := tk })
    (fin : ds0.length ≤ 20 → ∀ m1 news, DpJ n y m lq keep ds0 [] m1 news → ∀ h tk, Fr h₀ env.locals h m1 → News h₀ env.locals h news → Q .next { s with heap := h, toks := tk }) :
    RevRest prog w A E h₀ env x body Q s I lp vs.reverse m ((lq, listOf #[] 0) :: keep) := by
  have hl : ds0.length ≤ 20 := by rw [hds, digs_len]; exact hK
  refine rev_ind (DpJ n y m lq keep ds0) (step (by rw [hds]; exact digs_bound _ _ _ hX) hl) (fin hl) _ _ _ ?_
  have h := DpJ.start (m := m) (lq := lq) (keep := keep) (vq := vq) (vd := vd) (tr := tr) (n := n) hy hI
  rw [← dpM_init h1 h2 h3] at h
  exact h
theorem ints_split {v : Value} {r : List Value} {ns : List Int} (h : IntsAre (v :: r) ns) : ∃ d t ns', v = .int d t ∧ ns = d :: ns' ∧ IntsAre r ns' := by
  cases h with
  | cons i t h => exact ⟨_, _, _, rfl, rfl, h⟩
theorem ints_nil {ns : List Int} (h : IntsAre [] ns) : ns = [] := by cases h; rfl
section
local macro_rules | `(tactic| walk_at "call ref") => `(tactic| (k_here; k_dflt (apply st_use; walk_at "MINE ca"; (case h0 | h1 | hy => walk_at "MINE arith"); (case hd => assumption); (case hn | hn2 => walk_at "MINE arith"); k_whole); intro _ _ _ _ _ _ _ _ _ l1 _ _ _ _ _; (try k_lt l1); (try dsimp only); (try k_fold)))
local macro_rules | `(tactic| walk_at "call ref") => `(tactic| (k_here; k_dflt (apply i2d_use; walk_at "MINE cc"; (case hm => k_mem); (case R => walk_at "MINE rm"); (case hst => walk_at "MINE hot"); (case hx | hx2 | hn | hn2 => walk_at "MINE arith"); k_whole); intro _ _ _ _ _ _ _ _ _ _ _ _ _ _ l1 l30 _ _ _ _; (try k_lt l1); (try k_lt2 l30); (try dsimp only); (try k_fold)))
local macro_rules | `(tactic| walk_at "binaryOp LShift int int") => `(tactic| ((with_reducible refine lshift_int ?kbn ?kbs ?_); (case kbn => omega); (case kbs => exact shl0 (by assumption) (by assumption) (by assumption) (by omega))))
local macro_rules | `(tactic| walk_at "pyIter ref") => `(tactic| ((with_reducible refine gd_it ?_); k_dflt (refine' iter_revUnr ?hh ?F ?N ?of ?m ?c ?d ?rr; (case hh => exact rfl); (case F | N => k_asm); (case m => k_mem); (case c | d => exact rfl); (case of => (refine offI_of ?_; k_all)))))
local macro_rules | `(tactic| walk_at "call builtin:list.append") => `(tactic| (k_here; (with_reducible refine gd_rv ?_); k_dflt (refine' append_L ?k1 ?k2 ?k3 ?z ?_; (case k1 | k2 => k_asm); (case k3 => k_upd); (case z => omega)); intro _ _ _; (try k_sweep)))
local macro_rules | `(tactic| walk_at "call builtin:list.reverse") => `(tactic| (k_here; (with_reducible refine gd_r ?_); k_dflt (refine' reverse_L ?k1 ?k2 ?k3 ?z ?_; (case k1 | k2 => k_asm); (case k3 => k_upd); (case z => omega)); intro _ _ _; (try k_sweep)))
local macro_rules | `(tactic| walk_at "call ref") => `(tactic| (k_here; k_dflt (apply d2i_use; walk_at "MINE cc"; (case hm => k_mem); (case R => walk_at "MINE rm"); (case hst => walk_at "MINE hot"); (case hl => k_mem); (case hI => assumption); (case hlen => omega); (case hdg => assumption); (case hn | hn2 => walk_at "MINE arith"); k_whole); intro _ _ _ _ _ _ _ _ _ _ _ _ _ _; (try dsimp only); (try k_fold)))
set_option rowWalk.seconds 0 in
theorem dp_ok (w : World) (p : Program) (loose : List Str) (mean : ExcName → Option Value) (mg mb : Str → Option Value)
  (gd : Option (List Code)) (cn : Str) (cs : Scope) (a : Addr) (ccd : Value) (cl : List (Str × Addr)) (outer : List Env) (A₀ : Around) (base h₀ : Heap) (L : Addr) (m : Str → Option Value) (s : Shared) (Q E : Value → Shared → Prop)
  (x y : Int) (tx ty : Tok) (o30 o37 : Obj) (rest : List (Addr × Obj)) :
  (Mine.hd.heap_39 w.params).In h₀ →
  Below A₀ base outer h₀ → CodeHd base 34 30 → CodeHd base 41 37 → Fr h₀ L s.heap m → News h₀ L s.heap ((30, o30) :: (37, o37) :: rest) → (∀ p ∈ rest, p.1 ≠ 30) → (∀ p ∈ rest, p.1 ≠ 37) → 
  (o30 = tabObj #[] ∨ Hot 32 4 "_int2digits.<locals>.inner" o30 rest) → (o37 = tabObj #[] ∨ Hot 47 4 "_digits2int.<locals>.inner" o37 rest) → Top p loose mean mg mb h₀ →
  cs.kind = .function → 0 ≤ x → x < 2 ^ 20 → 0 < y → y < 2 ^ 20 → ((Builtin.Int.intBits x : Int) + Builtin.Int.intBits y - 1).fdiv (Builtin.Int.intBits y) ≤ 4 →
  (∀ d q r t1 t2 c oc cvs t c7 oc7 cvs7 t7 h' tk', Fr h₀ L h' m → News h₀ L h' ((d, tup2 (.int q t1) (.int r t2)) :: (c7, oc7) :: (37, T3 47 4 c7) :: (c, oc) :: (30, T3 32 4 c) :: rest) →
    oc.data = .fields cvs → cvs[1]? = some (.str "_int2digits.<locals>.inner" t) → oc7.data = .fields cvs7 → cvs7[1]? = some (.str "_digits2int.<locals>.inner" t7) → (∀ p ∈ rest, p.1 < d) → @LT.lt Nat _ 37 d → c ≠ d → c7 ≠ d →
    Born o30 32 4 c rest → Born o37 47 4 c7 rest → q = x.fdiv y → r = x.fmod y → Q (.ref d) { s with heap := h', toks := tk' }) →
  wpAny (model Challenge.rw_hl0003_02.row.prog w) (ktrTop 395 990 gd cn cs L a ccd cl outer) (call (.ref 49) [.int x tx, .int y ty]) Q E s := by
  k_fill
  intro X B C1 C2 F N h30 h37 hst hst7 T hk hx hx2 hy hy2 hD hret
  have hb1 := bits_pos y hy
  have hb2 := bits_le y (Int.le_of_lt hy) 20 hy2
  have hdc := dcount x (Builtin.Int.intBits y) hx hx2 (by omega)
  obtain ⟨hc0, hc1, hc2, hc3, hc4⟩ := hdc
  refine wpAny_call ?_
  k_dflt cell_enter
  k_steps
  k_dflt (refine' dp_loop (n := (Builtin.Int.intBits y : Int)) (y := y) ?zzh1 ?zzh2 ?zzh3 ?zzhI hy ?zzhds ?zzhK hc4 ?zzstep ?zzfin; (case zzh1 => exact rfl); (case zzh2 => exact rfl); (case zzh3 => exact rfl); (case zzhI => assumption); (case zzhds => assumption); (case zzhK => omega))
  case zzstep =>
    intro hb hlen v r m1 news hJ it h tk hc F N
    cases hJ with
    | mk j1 j2 j3 j4 j5 j6 j7 j8 =>
      obtain ⟨d, td, rem', rfl, rfl, j9⟩ := ints_split j5
      have hb3 := hb d (by rw [j4]; simp)
      have hq1 := j6.length
      have hq2 := congrArg List.length j4
      simp only [List.length_append, List.length_reverse, List.length_cons] at hq1 hq2
      k_steps
      refine' unrEnd_eq ?zzF ?zzN (dpM_step _ _ _ _ _ _ _ _ _) (DpJ.next j1 j4 j9 j6 j7 j8 ?zzq1 ?zzq2 ?zzq3 ?zzq4 ?zzq5 rfl) ?zzlp ?zzsub ?zzoff
      case zzF => k_asm
      case zzN => k_asm
      case zzq1 => assumption
      case zzq2 => assumption
      case zzq3 => assumption
      case zzq4 => assumption
      case zzq5 => assumption
      case zzsub => walk_at "MINE sub"
      case zzlp => k_mem
      case zzoff => k_all
  case zzfin =>
    intro hlen m1 news hJ h tk F N
    cases hJ with
    | @mk vq vd r tr ds qs rem rv qv eq j1 j2 j3 j4 j5 j6 j7 j8 =>
      obtain rfl := ints_nil j5
      have hq1 := j6.length
      simp only [List.length_reverse] at hq1
      rw [List.reverse_nil, List.nil_append] at j4
      have hq2 := congrArg List.length j4
      have j6' := j6.reverse
      rw [List.reverse_reverse] at j6'
      k_steps
      refine' hret _ _ _ _ _ _ _ _ _ _ _ _ _ _ _ ?zzF ?zzN ?zza ?zzb ?zzc ?zzd ?zzl ?zzl37 ?zzne ?zzne7 ?zzhc ?zzhc7 ?zzq ?zzr
      case zzhc => exact Born.mono (by assumption) (by walk_at "MINE sub")
      case zzhc7 => exact Born.mono (by assumption) (by walk_at "MINE sub")
      case zzF => k_asm
      case zzN => walk_at "MINE drop"
      case zza => assumption
      case zzb => assumption
      case zzc => assumption
      case zzd => assumption
      case zzl => exact ktn_ltOf (by tbn_find)
      case zzl37 => exact ltN (by omega)
      case zzne => exact neN (by omega)
      case zzne7 => exact neN (by omega)
      case zzq => exact (dp_fin j1 hx hy (by assumption) j4 (by omega) (by assumption)).1
      case zzr => exact (dp_fin (v := dval _ qs) j1 hx hy (by assumption) j4 (by omega) rfl).2
end
end
section
theorem dp_use {w : World} {p : Program} {loose : List Str} {mean : ExcName → Option Value} {mg mb : Str → Option Value}
  {dp un : Nat} {gd : Option (List Code)} {cn : Str} {cs : Scope} {a : Addr} {ccd : Value} {cl : List (Str × Addr)} {outer : List Env} {A₀ : Around} {base h₀ : Heap} {L : Addr} {m : Str → Option Value} {s : Shared} {Q E : Value → Shared → Prop}
  {x y : Int} {tx ty : Tok} {o30 o37 : Obj} {rest : List (Addr × Obj)} (hdp : dp ≤ 395) (hun : un ≤ 990)
  (X : (Mine.hd.heap_39 w.params).In h₀) (B : Below A₀ base outer h₀) (C1 : CodeHd base 34 30) (C2 : CodeHd base 41 37) (F : Fr h₀ L s.heap m) (N : News h₀ L s.heap ((30, o30) :: (37, o37) :: rest)) (h30 : ∀ p ∈ rest, p.1 ≠ 30) (h37 : ∀ p ∈ rest, p.1 ≠ 37)
  (hst : o30 = tabObj #[] ∨ Hot 32 4 "_int2digits.<locals>.inner" o30 rest) (hst7 : o37 = tabObj #[] ∨ Hot 47 4 "_digits2int.<locals>.inner" o37 rest) (T : Top p loose mean mg mb h₀)
  (hk : cs.kind = .function) (hx : 0 ≤ x) (hx2 : x < 2 ^ 20) (hy : 0 < y) (hy2 : y < 2 ^ 20) (hD : ((Builtin.Int.intBits x : Int) + Builtin.Int.intBits y - 1).fdiv (Builtin.Int.intBits y) ≤ 4)
  (ret : ∀ d q r t1 t2 c oc cvs t c7 oc7 cvs7 t7 h' tk', Fr h₀ L h' m → News h₀ L h' ((d, tup2 (.int q t1) (.int r t2)) :: (c7, oc7) :: (37, T3 47 4 c7) :: (c, oc) :: (30, T3 32 4 c) :: rest) →
    oc.data = .fields cvs → cvs[1]? = some (.str "_int2digits.<locals>.inner" t) → oc7.data = .fields cvs7 → cvs7[1]? = some (.str "_digits2int.<locals>.inner" t7) → (∀ p ∈ rest, p.1 < d) → @LT.lt Nat _ 37 d → c ≠ d → c7 ≠ d →
    Born o30 32 4 c rest → Born o37 47 4 c7 rest → q = x.fdiv y → r = x.fmod y → Q (.ref d) { s with heap := h', toks := tk' }) :
  wpAny (model Challenge.rw_hl0003_02.row.prog w) (ktrTop dp un gd cn cs L a ccd cl outer) (call (.ref 49) [.int x tx, .int y ty]) Q E s :=
  wp_room (dp_ok w p loose mean mg mb gd cn cs a ccd cl outer A₀ base h₀ L m s Q E x y tx ty o30 o37 rest X B C1 C2 F N h30 h37 hst hst7 T hk hx hx2 hy hy2 hD ret) hdp hun

section
local macro_rules | `(tactic| walk_at "call ref") => `(tactic| (k_here; k_dflt (apply dp_use; walk_at "MINE cb"; (case h30 | h37 | hst | hst7 => assumption); (case hx | hx2 => walk_at "MINE arith"); (case hy | hy2 | hD => assumption); k_whole); intro _ _ _ _ _ _ _ _ _ _ _ _ _ _ _ _ _ _ _ _ _ l1 l37 _ _ _ _ _ _; (try k_lt l1); (try k_lt2 l37); (try dsimp only); (try k_fold)))
set_option rowWalk.seconds 0 in
theorem idm_ok (w : World) (p : Program) (loose : List Str) (mean : ExcName → Option Value) (mg mb : Str → Option Value)
  (gd : Option (List Code)) (cn : Str) (cs : Scope) (a : Addr) (ccd : Value) (cl : List (Str × Addr)) (outer : List Env) (A₀ : Around) (base h₀ : Heap) (L : Addr) (m : Str → Option Value) (s : Shared) (Q E : Value → Shared → Prop)
  (x y : Int) (tx ty : Tok) (o30 o37 : Obj) (rest : List (Addr × Obj)) :
  (Mine.hd.heap_39 w.params).In h₀ →
  Below A₀ base outer h₀ → CodeHd base 34 30 → CodeHd base 41 37 → Fr h₀ L s.heap m → News h₀ L s.heap ((30, o30) :: (37, o37) :: rest) → (∀ p ∈ rest, p.1 ≠ 30) → (∀ p ∈ rest, p.1 ≠ 37) → 
  (o30 = tabObj #[] ∨ Hot 32 4 "_int2digits.<locals>.inner" o30 rest) → (o37 = tabObj #[] ∨ Hot 47 4 "_digits2int.<locals>.inner" o37 rest) → Top p loose mean mg mb h₀ →
  cs.kind = .function → mag x < 2 ^ 20 → 0 < y → y < 2 ^ 20 → ((Builtin.Int.intBits (mag x) : Int) + Builtin.Int.intBits y - 1).fdiv (Builtin.Int.intBits y) ≤ 4 →
  (∀ d q r t1 t2 c oc cvs t c7 oc7 cvs7 t7 h' tk', Fr h₀ L h' m → News h₀ L h' ((d, tup2 (.int q t1) (.int r t2)) :: (c7, oc7) :: (37, T3 47 4 c7) :: (c, oc) :: (30, T3 32 4 c) :: rest) →
    oc.data = .fields cvs → cvs[1]? = some (.str "_int2digits.<locals>.inner" t) → oc7.data = .fields cvs7 → cvs7[1]? = some (.str "_digits2int.<locals>.inner" t7) → (∀ p ∈ rest, p.1 < d) → @LT.lt Nat _ 37 d → c ≠ d → c7 ≠ d →
    Born o30 32 4 c rest → Born o37 47 4 c7 rest → q = x.fdiv y → r = x.fmod y → Q (.ref d) { s with heap := h', toks := tk' }) →
  wpAny (model Challenge.rw_hl0003_02.row.prog w) (ktrTop 390 980 gd cn cs L a ccd cl outer) (call (.ref 56) [.int x tx, .int y ty]) Q E s := by
  k_fill
  intro X B C1 C2 F N h30 h37 hst hst7 T hk hx2 hy hy2 hD hret
  have hmag : mag x = if x < 0 then Builtin.bitNot x else x := rfl
  have hbn : Builtin.bitNot x = -x - 1 := rfl
  by_cases hx : x < 0
  · rw [if_pos hx] at hmag
    rw [hmag] at hD hx2
    refine wpAny_call ?_
    k_dflt cell_enter
    k_steps
    refine' hret _ _ _ _ _ _ _ _ _ _ _ _ _ _ _ ?zzF ?zzN ?zza ?zzb ?zzc ?zzd ?zzl ?zzl37 ?zzne ?zzne7 ?zzhc ?zzhc7 ?zzq ?zzr
    case zzhc => exact Born.mono (by assumption) (by walk_at "MINE sub")
    case zzhc7 => exact Born.mono (by assumption) (by walk_at "MINE sub")
    case zzF => k_asm
    case zzN => walk_at "MINE drop"
    case zza => assumption
    case zzb => assumption
    case zzc => assumption
    case zzd => assumption
    case zzl => exact ktn_ltOf (by tbn_find)
    case zzl37 => exact ltN (by omega)
    case zzne => exact neN (by omega)
    case zzne7 => exact neN (by omega)
    case zzq => exact (neg_divmod hy (by assumption) rfl).1
    case zzr => exact (neg_divmod (q := (Builtin.bitNot x).fdiv y) hy rfl (by assumption)).2
  · rw [if_neg hx] at hmag
    rw [hmag] at hD hx2
    have hx0 : 0 ≤ x := by omega
    refine wpAny_call ?_
    k_dflt cell_enter
    k_steps
    refine' hret _ _ _ _ _ _ _ _ _ _ _ _ _ _ _ ?zzF ?zzN ?zza ?zzb ?zzc ?zzd ?zzl ?zzl37 ?zzne ?zzne7 ?zzhc ?zzhc7 ?zzq ?zzr
    case zzhc => exact Born.mono (by assumption) (by walk_at "MINE sub")
    case zzhc7 => exact Born.mono (by assumption) (by walk_at "MINE sub")
    case zzF => k_asm
    case zzN => walk_at "MINE drop"
    case zza => assumption
    case zzb => assumption
    case zzc => assumption
    case zzd => assumption
    case zzl => first | exact ktn_ltOf (by tbn_find) | assumption
    case zzl37 => exact ltN (by omega)
    case zzne => assumption
    case zzne7 => assumption
    case zzq => assumption
    case zzr => assumption
end

/-- both tables are filled, their codes in the ledger -/
noncomputable def Warm (news : List (Addr × Obj)) : Prop := ∃ c oc cvs t c7 oc7 cvs7 t7, (30, T3 32 4 c) ∈ news ∧ (c, oc) ∈ news ∧ oc.data = .fields cvs ∧ cvs[1]? = some (.str "_int2digits.<locals>.inner" t) ∧
  (37, T3 47 4 c7) ∈ news ∧ (c7, oc7) ∈ news ∧ oc7.data = .fields cvs7 ∧ cvs7[1]? = some (.str "_digits2int.<locals>.inner" t7)
theorem Warm.mono {l l' : List (Addr × Obj)} (h : Warm l) (hs : ∀ p ∈ l, p ∈ l') : Warm l' :=
  let ⟨c, oc, cvs, t, c7, oc7, cvs7, t7, a1, a2, a3, a4, b1, b2, b3, b4⟩ := h
  ⟨c, oc, cvs, t, c7, oc7, cvs7, t7, hs _ a1, hs _ a2, a3, a4, hs _ b1, hs _ b2, b3, b4⟩
theorem news_fn {h₀ h : Heap} {L : Addr} {news : List (Addr × Obj)} {a : Addr} {o o' : Obj} (N : News h₀ L h news) (h1 : (a, o) ∈ news) (h2 : (a, o') ∈ news) : o = o' := by
  have e1 := (N _ h1).1
  have e2 := (N _ h2).1
  exact Option.some.inj (e1.symm.trans e2)
theorem idm_warm {w : World} {p : Program} {loose : List Str} {mean : ExcName → Option Value} {mg mb : Str → Option Value}
  {dp un : Nat} {gd : Option (List Code)} {cn : Str} {cs : Scope} {a : Addr} {ccd : Value} {cl : List (Str × Addr)} {outer : List Env} {A₀ : Around} {base h₀ : Heap} {L : Addr} {m : Str → Option Value} {s : Shared} {Q E : Value → Shared → Prop}
  {x y : Int} {tx ty : Tok} {news wl : List (Addr × Obj)} (hdp : dp ≤ 390) (hun : un ≤ 980)
  (X : (Mine.hd.heap_39 w.params).In h₀) (B : Below A₀ base outer h₀) (C1 : CodeHd base 34 30) (C2 : CodeHd base 41 37) (F : Fr h₀ L s.heap m) (N : News h₀ L s.heap news) (hw : Warm wl) (hs : ∀ p ∈ wl, p ∈ news) (T : Top p loose mean mg mb h₀)
  (hk : cs.kind = .function) (hx2 : mag x < 2 ^ 20) (hy : 0 < y) (hy2 : y < 2 ^ 20) (hD : ((Builtin.Int.intBits (mag x) : Int) + Builtin.Int.intBits y - 1).fdiv (Builtin.Int.intBits y) ≤ 4)
  (ret : ∀ d q r t1 t2 h' tk', Fr h₀ L h' m → News h₀ L h' ((d, tup2 (.int q t1) (.int r t2)) :: news) → (∀ p ∈ news, p.1 < d) → q = x.fdiv y → r = x.fmod y → Q (.ref d) { s with heap := h', toks := tk' }) :
  wpAny (model Challenge.rw_hl0003_02.row.prog w) (ktrTop dp un gd cn cs L a ccd cl outer) (call (.ref 56) [.int x tx, .int y ty]) Q E s := by
  obtain ⟨c, oc, cvs, t, c7, oc7, cvs7, t7, a1, a2, a3, a4, b1, b2, b3, b4⟩ := hw.mono hs
  have c30 : c ≠ 30 := code_ne N a2 a3 a4 a1 (.inr ⟨_, _, _, rfl⟩)
  have c37 : c ≠ 37 := code_ne N a2 a3 a4 b1 (.inr ⟨_, _, _, rfl⟩)
  have d30 : c7 ≠ 30 := code_ne N b2 b3 b4 a1 (.inr ⟨_, _, _, rfl⟩)
  have d37 : c7 ≠ 37 := code_ne N b2 b3 b4 b1 (.inr ⟨_, _, _, rfl⟩)
  let keep := news.filter fun p => decide (p.1 ≠ 30 ∧ p.1 ≠ 37)
  have hkp : ∀ p, p ∈ keep ↔ p ∈ news ∧ p.1 ≠ 30 ∧ p.1 ≠ 37 := fun p => by simp [keep, List.mem_filter]
  refine wp_room (idm_ok w p loose mean mg mb gd cn cs a ccd cl outer A₀ base h₀ L m s Q E x y tx ty (T3 32 4 c) (T3 47 4 c7) keep X B C1 C2 F (fun q hq => ?_) (fun q hq => ((hkp q).mp hq).2.1) (fun q hq => ((hkp q).mp hq).2.2)
    (.inr ⟨c, oc, cvs, t, rfl, (hkp _).mpr ⟨a2, c30, c37⟩, a3, a4⟩) (.inr ⟨c7, oc7, cvs7, t7, rfl, (hkp _).mpr ⟨b2, d30, d37⟩, b3, b4⟩) T hk hx2 hy hy2 hD
    fun d q r t1 t2 c' oc' cvs' t' c7' oc7' cvs7' t7' h' tk' F' N' _ _ _ _ l1 l37 _ _ e1 e7 eq er => ?_) hdp hun
  · rcases List.mem_cons.mp hq with rfl | hq
    · exact N _ a1
    · rcases List.mem_cons.mp hq with rfl | hq
      · exact N _ b1
      · exact N _ ((hkp q).mp hq).1
  · obtain rfl := e1.1 c rfl
    obtain rfl := e7.1 c7 rfl
    have h30 : ∀ q ∈ news, q.1 = 30 → q = (30, T3 32 4 c') := fun q hq e => by
      obtain ⟨q1, q2⟩ := q
      subst e
      rw [news_fn N hq a1]
    have h37 : ∀ q ∈ news, q.1 = 37 → q = (37, T3 47 4 c7') := fun q hq e => by
      obtain ⟨q1, q2⟩ := q
      subst e
      rw [news_fn N hq b1]
    refine ret d q r t1 t2 h' tk' F' (fun q hq => ?_) (fun q hq => ?_) eq er
    · rcases List.mem_cons.mp hq with rfl | hq
      · exact N' _ (.head _)
      · by_cases e : q.1 = 30
        · rw [h30 q hq e]; exact N' _ (by simp)
        · by_cases e' : q.1 = 37
          · rw [h37 q hq e']; exact N' _ (by simp)
          · exact N' _ (by simp only [List.mem_cons]; exact .inr (.inr (.inr (.inr (.inr ((hkp q).mpr ⟨hq, e, e'⟩))))))
    · by_cases e : q.1 = 30
      · rw [e]; exact Nat.lt_trans (by decide : 30 < 37) l37
      · by_cases e' : q.1 = 37
        · rw [e']; exact l37
        · exact l1 q ((hkp q).mpr ⟨hq, e, e'⟩)
end
section
/-! a comprehension over a range with one test, whose name lies in a cell -/
noncomputable abbrev cellO (v : Option Value) : Obj := { cls := .type "cell", data := .cell v }
/-- the n whole numbers from a on that pass -/
noncomputable def filtR (f : Int → Bool) (a : Int) : Nat → List Int
  | 0 => []
  | n + 1 => if f (a + (n : Int)) = true then filtR f a n ++ [a + (n : Int)] else filtR f a n
@[irreducible] noncomputable def filt (f : Int → Bool) (a : Int) (n : Nat) : List Int := filtR f a n
theorem filt_zero (f : Int → Bool) (a : Int) : filt f a 0 = [] := by unfold filt; rfl
theorem filt_succ (f : Int → Bool) (a : Int) (n : Nat) : filt f a (n + 1) = if f (a + (n : Int)) = true then filt f a n ++ [a + (n : Int)] else filt f a n := by unfold filt; rfl
section
variable {prog : Program} {w : World} {A : Around} {E : Value → Shared → Prop} {s : Shared} {h₀ : Heap} {L : Addr} {m : Str → Option Value} {env : Env}
end
section
variable {prog : Program} {w : World} {A : Around} {E : Value → Shared → Prop} {s : Shared} {h₀ : Heap} {L : Addr} {m : Str → Option Value} {env : Env}
/-- what the iterable of such a comprehension is, and what a turn and the end want -/
noncomputable def CellSrc (prog : Program) (w : World) (A : Around) (h₀ : Heap) (L : Addr) (m : Str → Option Value) (env : Env) (ct : PySem.Expr) (x y : Str) (scope : Scope) (cl : List (Str × Addr)) (Q : Flow → Shared → Prop) (xv : Value) (s₁ : Shared) : Prop :=
  ∃ (f : Int → Bool) (r : Addr) (a b : Int) (t u v : Tok) (n : Nat) (news : List (Addr × Obj)), xv = .ref r ∧ A.handled = none ∧ Fr h₀ L s₁.heap m ∧ News h₀ L s₁.heap news ∧ IsRange s₁.heap r a b 1 t u v ∧ Builtin.Range.small a b 1 = true ∧ Builtin.Range.rangeSize a b 1 = ((n : Nat) : Int) ∧ n ≤ sizeLine ∧
    (∀ (i : Nat) (t : Tok) (I C Cx D : Addr) (oI oC oX : Obj) (ys : List Value) (h : Heap) (tk : Nat) (E' : Value → Shared → Prop), i < n → Fr h₀ L h m → News h₀ L h ((I, oI) :: (C, oC) :: (Cx, oX) :: (D, LCg.lst ys) :: news) → oX.data = .cell (some (.int (a + (i : Int)) t)) →
      (∀ p ∈ news, p.1 < D) → (@LT.lt Nat _ I D) → (@LT.lt Nat _ D C) → (@LT.lt Nat _ C Cx) →
      wpAny (model prog w) A (isTrue ct (compEnvC scope ((x, Cx) :: cl) C env) (eval ct (compEnvC scope ((x, Cx) :: cl) C env)))
        (fun ok s' => ok = f (a + (i : Int)) ∧ ∃ h' tk', s' = { s₁ with heap := h', toks := tk' } ∧ Fr h₀ L h' m ∧ News h₀ L h' ((I, oI) :: (C, oC) :: (Cx, oX) :: (D, LCg.lst ys) :: news)) E' { s₁ with heap := h, toks := tk }) ∧
    (∀ D h tk ys, Fr h₀ L h (fun z => if z = y then some (.ref D) else m z) → News h₀ L h ((D, LCg.lst ys) :: news) → (∀ p ∈ news, p.1 < D) → IntsAre ys (filt f a n) → Q .next { s₁ with heap := h, toks := tk })
end
/-! dict(a list of pairs of ints) -/
noncomputable def addK (acc : List Int) (k : Int) : List Int := if k ∈ acc then acc else acc ++ [k]
@[irreducible] noncomputable def keysOf (ks : List Int) : List Int := ks.foldl addK []
theorem any_mem {kvs : List (Int × Value)} {k : Int} : (kvs.any fun kv => decide (kv.1 = k)) = true ↔ k ∈ kvs.map (·.1) := by
  simp only [List.any_eq_true, decide_eq_true_eq, List.mem_map]
theorem stored_keys (kvs : List (Int × Value)) (k : Int) (v : Value) : (stored kvs k v).map (·.1) = addK (kvs.map (·.1)) k := by
  unfold stored addK
  by_cases h : (kvs.any fun kv => decide (kv.1 = k)) = true
  · rw [if_pos h, if_pos (any_mem.mp h), List.map_map]
    refine List.map_congr_left fun x _ => ?_
    show (if x.1 = k then (x.1, v) else x).1 = x.1
    split <;> rfl
  · rw [if_neg h, if_neg (fun q => h (any_mem.mpr q)), List.map_append]
    rfl
theorem addK_len (acc : List Int) (k : Int) : (addK acc k).length ≤ acc.length + 1 := by
  unfold addK
  split
  · omega
  · simp
theorem entry_dul : entryFor table "dict.update.loop" = some Builtin.«dict.update.loop» := entryFor_of_tree (by kernel_rfl)
theorem plain_dul : plainId "dict.update.loop" = true := by decide +kernel
theorem keys_miss : typeLookup (.type "list") "keys" = pure none := am_miss_of_fast (by kernel_rfl)
section
variable {prog : Program} {w : World} {A : Around} {E : Value → Shared → Prop} {s : Shared}
theorem keys_none {a : Addr} {o : Obj} {xs : Array Value} {k : Nat} {Q : Option Value → Shared → Prop}
    (hx : s.heap.get? a = some o) (hc : o.cls = .type "list") (hdat : o.data = .seq xs k) (hd : o.dict = none) (hA : A.handled = none)
    (h : ∀ h' tk, (∀ b o, s.heap.get? b = some o → h'.get? b = some o) → Q none { s with heap := h', toks := tk }) :
    wpAny (model prog w) A (getAttr? (.ref a) "keys") Q E s := by
  obtain ⟨c, dct, dat, sl⟩ := o
  simp only at hc hdat hd
  subst hc hdat hd
  obtain ⟨hp, g, d, tk, os⟩ := s
  have hT : ∀ tk', (⟨hp, g, d, tk', os⟩ : Shared).TypeIs (.ref a) "list" := fun _ => ⟨_, hx, rfl⟩
  have f1 := sub_AttributeError
  have f3 := F.slot_list_getattribute.lookup
  have f4 := F.slot_list_getattribute.bind (.ref a)
  have f5 := am_list_getattr_none
  unfold getAttr? getAttrBy? getAttrBy
  repeat (any_goals (first | assumption | exact hT _ | ((with_reducible show wpAny _ _ (call (Value.builtin "list.__getattribute__") _ _) _ _ _); refine call_meets F.slot_list_getattribute (hT _) am_entry_list_getattribute (F.args_list_getattribute_2 _ _) (meets_getattribute_miss_list a xs k sl "keys" _ keys_miss (by decide) (by size_fits)) ⟨hx, hA, fun h' tk' e hx' => ?_⟩) | wp_step))
  obtain ⟨t', u', he⟩ := hx'.there
  show wpAny _ _ (getattributeRaised _ _ _ _ _ _ _) _ _ _
  unfold getattributeRaised
  repeat (any_goals (first | assumption | wp_step))
  exact h _ _ hx'.of.keeps
end
section
variable {prog : Program} {w : World} {A : Around} {E : Value → Shared → Prop} {s : Shared} {R : Result → Shared → Prop}
theorem dict_loop {l I d : Addr} {items : Array Value} {ks : List Int} {hb : Heap} (hh : A.in1.handled = none) (hlI : l ≠ I) (hdl : d ≠ l) (hdI : d ≠ I) (hlen : ks.length = items.size) (hsz : items.size ≤ 1000)
    (hit : ∀ j (x : Value), items[j]? = some x → ∃ a o t v n, x = .ref a ∧ a ≠ d ∧ a ≠ I ∧ hb.get? a = some o ∧ o.cls = .type "tuple" ∧ o.data = .seq #[.int (ks.getD j 0) t, v] n) :
    ∀ (k i : Nat) (s : Shared) (kvs : List (Int × Value)), items.size - i = k → i ≤ items.size → (s.heap.IsListIter I l i ∧ s.heap.IsList l items) → s.heap.DictOf (intKind prog w) d kvs → kvs.map (·.1) = keysOf (ks.take i) → kvs.length ≤ i →
      (∀ b o, b ≠ d → b ≠ I → hb.get? b = some o → s.heap.get? b = some o) →
      (∀ h' tk kvs', h'.DictOf (intKind prog w) d kvs' → kvs'.map (·.1) = keysOf ks → (∀ b o, b ≠ d → b ≠ I → hb.get? b = some o → h'.get? b = some o) → R (.ok (.ret .none)) { s with heap := h', toks := tk }) →
      codeAny (model prog w) A (.builtin "dict.update.loop" ⟨[.ref d, .ref I, rawInt i, .none], []⟩) R s := by
  have W := Walks.list (prog := prog) (w := w) hh I l hlI items
  intro k
  induction k with
  | zero =>
    intro i s kvs hk hi hst hD hks hln hbk hR
    have hin : i = items.size := by omega
    subst hin
    refine codeAny_builtin entry_dul ?_
    rw [Around.under_plainId plain_dul _]
    show wpAny _ A.in1 (pyNext (.ref I) >>= _) _ _ s
    refine wpAny_bind (W.done s _ _ hst fun h' tk hm => ?_)
    show wpAny _ A.in1 (Builtin.Dict.addKeywords d [] >>= fun _ => ret Value.none) _ _ _
    refine wpAny_bind (wpAny_pure (wpAny_pure ?_))
    have hDm : h'.DictOf (intKind prog w) d kvs := by
      obtain ⟨o, es, ep, ho, rest⟩ := hD
      exact ⟨o, es, ep, hm d o (by simpa using hdI) ho, rest⟩
    refine hR h' tk kvs hDm ?_ fun b o b1 b2 e => hm b o (by simpa using b2) (hbk b o b1 b2 e)
    rw [hks, ← hlen, List.take_length]
  | succ k ih =>
    intro i s kvs hk hi hst hD hks hln hbk hR
    have hlt : i < items.size := by omega
    refine codeAny_builtin entry_dul ?_
    rw [Around.under_plainId plain_dul _]
    show wpAny _ A.in1 (pyNext (.ref I) >>= _) _ _ s
    refine wpAny_bind (W.item i s _ _ hlt hst fun v h' tk hP hst' hm => ?_)
    obtain ⟨a, o, t, v2, n, rfl, ad, aI, ga, hc, hdat⟩ := hit i v hP
    have ga' : h'.get? a = some o := hm a o (by simpa using aI) (hbk a o ad aI ga)
    have hDm : h'.DictOf (intKind prog w) d kvs := by
      obtain ⟨o, es, ep, ho, rest⟩ := hD
      exact ⟨o, es, ep, hm d o (by simpa using hdI) ho, rest⟩
    show wpAny _ A.in1 (holding [Value.ref a] _ >>= _) _ _ _
    refine wpAny_bind (wpAny_holding ?_)
    refine wpAny_bind (wpAny_tryCatch ?_)
    unfold Builtin.Dict.pairItems
    refine wpAny_bind (wpAny_typeOf ⟨o, ga', hc⟩ ?_)
    rw [if_pos (by decide)]
    refine wpAny_bind (wpAny_seqItems ga' hdat ?_)
    refine wpAny_pure ?_
    show wpAny _ A.in1 (holding _ (dictSet d (.int (ks.getD i 0) t) v2)) _ _ _
    refine wpAny_holding (wpAny_dictSet_pairs (s := { s with heap := h', toks := tk }) (knd := intKind prog w) (intKind_is _ _ _ _) hDm (fun h2 hD2 hs2 => ?_) (by rw [sizeLine_eq]; omega))
    have hk2 : (stored kvs (ks.getD i 0) v2).map (·.1) = keysOf (ks.take (i + 1)) := by
      rw [stored_keys, hks]
      have e : ks.take (i + 1) = ks.take i ++ [ks.getD i 0] := by
        rw [List.take_add_one]
        congr 1
        rw [List.getD_eq_getElem?_getD, List.getElem?_eq_getElem (by omega)]
        rfl
      rw [e]
      unfold keysOf
      rw [List.foldl_append]
      rfl
    have hl2 : (stored kvs (ks.getD i 0) v2).length ≤ i + 1 := by
      have e := congrArg List.length (stored_keys kvs (ks.getD i 0) v2)
      have e2 := addK_len (kvs.map (·.1)) (ks.getD i 0)
      rw [← e] at e2
      simp only [List.length_map] at e2
      omega
    refine wpAny_pure ⟨plainId_quiet plain_dul _, ih (i + 1) _ _ (by omega) hlt ⟨hst'.1.at fun o e => hs2.extBut _ o (Ne.symm hdI) e, hst'.2.at fun o e => hs2.extBut _ o (Ne.symm hdl) e⟩ hD2 hk2 hl2 (fun b o b1 b2 e => hs2.extBut b o b1 (hm b o (by simpa using b2) (hbk b o b1 b2 e))) fun h3 tk3 kvs3 d3 e3 k3 => ?_⟩
    exact hR h3 tk3 kvs3 d3 e3 k3
end
section
variable {prog : Program} {w : World} {A : Around} {E : Value → Shared → Prop} {s : Shared}
theorem call_dict_pairs {l : Addr} {items : Array Value} {ks : List Int} {Q : Value → Shared → Prop} {ol : Obj} {ep : Nat} (hA : A.handled = none) (hl : s.heap.get? l = some ol) (hlc : ol.cls = .type "list") (hld : ol.data = .seq items ep) (hln : ol.dict = none) (hlen : ks.length = items.size) (hsz : items.size ≤ 1000)
    (hit : ∀ j (x : Value), items[j]? = some x → ∃ a o t v n, x = .ref a ∧ s.heap.get? a = some o ∧ o.cls = .type "tuple" ∧ o.data = .seq #[.int (ks.getD j 0) t, v] n)
    (h : ∀ h' tk kvs, h'.DictOf (intKind prog w) s.heap.objs.size kvs → kvs.map (·.1) = keysOf ks → (∀ b o, s.heap.get? b = some o → h'.get? b = some o) → Q (.ref s.heap.objs.size) { s with heap := h', toks := tk }) :
    wpAny (model prog w) A (call (.type "dict") [.ref l]) Q E s := by
  refine callType_codes (Q₁ := fun obj s₁ => obj = .ref s.heap.objs.size ∧ s₁ = { s with heap := s.heap.push { cls := .type "dict", data := .dict #[] } }) F.kt_called_dict (F.kt_typeCall_dict_1 _) F.entry_dict_init (kt_code_dict_new _ ⟨rfl, rfl⟩) ?_
  rintro obj s₁ ⟨rfl, rfl⟩
  have hnew : (s.heap.push { cls := .type "dict", data := .dict #[] }).DictOf (intKind prog w) s.heap.objs.size [] := Heap.DictOf.new s.heap
  have hl' : (s.heap.push { cls := .type "dict", data := .dict #[] }).get? l = some ol := Heap.get?_push_of_some _ hl
  have hlt : l < s.heap.objs.size := Heap.lt_size hl
  refine ⟨hnew.typeIs, F.args_dict_init_2 _ _, ?_⟩
  unfold Builtin.«dict.__init__»
  refine wpAny_bind ?_
  unfold Builtin.Dict.selfAndRest
  refine wpAny_bind (wpAny_notOrdered_dict hnew.typeIs ?_)
  show wpAny _ _ (pure (s.heap.objs.size, [Value.ref l])) _ _ _
  refine wpAny_pure ?_
  show wpAny _ _ (Builtin.Dict.updateFrom "dict.__init__" s.heap.objs.size (.ref l) [] .none) _ _ _
  unfold Builtin.Dict.updateFrom
  refine wpAny_bind (wpAny_typeOf ⟨ol, hl', hlc⟩ ?_)
  rw [if_pos (by decide)]
  refine wpAny_bind (keys_none hl' hlc hld hln (by simp [hA]) fun h1 tk1 k1 => ?_)
  rw [if_pos (by rfl)]
  refine wpAny_bind (wpAny_rule ?_)
  have hl1 : h1.IsList l items := ⟨ol, k1 _ _ hl', hlc, ep, hld⟩
  refine wpAny_bind (wpAny_pyIter_list hl1 ?_)
  dsimp only at k1 ⊢
  have kd : h1.objs.size ≠ s.heap.objs.size := by
    obtain ⟨od, _, _, hod, _⟩ := hnew
    exact neN (Nat.ne_of_gt (Heap.lt_size (k1 _ _ hod)))
  have kl : h1.objs.size ≠ l := neN (Nat.ne_of_gt (Heap.lt_size (k1 _ _ hl')))
  have hD1 : h1.DictOf (intKind prog w) s.heap.objs.size [] := by
    obtain ⟨o, es, ep, ho, rest⟩ := hnew
    exact ⟨o, es, ep, k1 _ _ ho, rest⟩
  refine wpAny_pure ⟨plainId_quiet plain_dul _, dict_loop (l := l) (I := h1.objs.size) (d := s.heap.objs.size) (items := items) (ks := ks) (hb := s.heap) (by simp [hA]) (Ne.symm kl) (neN (Nat.ne_of_gt hlt)) (Ne.symm kd) hlen hsz (fun j x hx => ?_)
    (items.size - 0) 0 _ [] rfl (Nat.zero_le _) ⟨⟨_, Heap.get?_push_size _ rfl, rfl, rfl⟩, hl1.push _⟩ (hD1.push _) (by unfold keysOf; rfl) (Nat.le_refl _) (fun b o b1 b2 e => Heap.get?_push_of_some _ (k1 _ _ (Heap.get?_push_of_some _ e))) (fun h' tk kvs d3 e3 k3 => ⟨rfl, h h' tk kvs d3 e3 fun b o e => ?_⟩)⟩
  · obtain ⟨a, o, t, v, n, rfl, ga, hc, hd⟩ := hit j x hx
    exact ⟨a, o, t, v, n, rfl, neN (Nat.ne_of_lt (Heap.lt_size ga)), neN (Nat.ne_of_lt (Heap.lt_size (k1 _ _ (Heap.get?_push_of_some _ ga)))), ga, hc, hd⟩
  · exact k3 b o (neN (Nat.ne_of_lt (Heap.lt_size e))) (neN (Nat.ne_of_lt (Heap.lt_size (k1 _ _ (Heap.get?_push_of_some _ e))))) e
end
end
section
/-- refs to pairs whose first is an int -/
inductive PairsK (news : List (Addr × Obj)) : List Value → List Int → Prop
  | nil : PairsK news [] []
  | cons {a : Addr} {k : Int} {t : Tok} {v : Value} {n : Nat} {vs : List Value} {ks : List Int} : (a, ({ cls := .type "tuple", data := .seq #[.int k t, v] n } : Obj)) ∈ news → PairsK news vs ks → PairsK news (.ref a :: vs) (k :: ks)
theorem PairsK.mono {news news' : List (Addr × Obj)} (hs : ∀ p ∈ news, p ∈ news') : ∀ {vs : List Value} {ks : List Int}, PairsK news vs ks → PairsK news' vs ks
  | _, _, .nil => .nil
  | _, _, .cons h r => .cons (hs _ h) (r.mono hs)
theorem PairsK.length {news : List (Addr × Obj)} : ∀ {vs : List Value} {ks : List Int}, PairsK news vs ks → vs.length = ks.length
  | _, _, .nil => rfl
  | _, _, .cons _ r => by rw [List.length_cons, List.length_cons, r.length]
theorem PairsK.append {news : List (Addr × Obj)} {vs' : List Value} {ks' : List Int} (h' : PairsK news vs' ks') : ∀ {vs : List Value} {ks : List Int}, PairsK news vs ks → PairsK news (vs ++ vs') (ks ++ ks')
  | _, _, .nil => h'
  | _, _, .cons h r => .cons h (PairsK.append h' r)
theorem PairsK.at {h₀ h : Heap} {L : Addr} {news : List (Addr × Obj)} (N : News h₀ L h news) : ∀ {vs : List Value} {ks : List Int}, PairsK news vs ks → ∀ (j : Nat) (x : Value), vs[j]? = some x → ∃ a o t v n, x = .ref a ∧ h.get? a = some o ∧ o.cls = .type "tuple" ∧ o.data = .seq #[.int (ks.getD j 0) t, v] n
  | _, _, .nil, j, x, hx => by simp at hx
  | _, _, .cons hm r, 0, x, hx => by
    simp only [List.getElem?_cons_zero, Option.some.injEq] at hx
    subst hx
    exact ⟨_, _, _, _, _, rfl, (N _ hm).1, rfl, rfl⟩
  | _, _, .cons _ r, j + 1, x, hx => by
    simp only [List.getElem?_cons_succ] at hx
    exact r.at N j x hx
structure DK (kvs : List (Int × Value)) (ks : List Int) : Prop where
  eq : kvs.map (·.1) = keysOf ks
theorem keysOf_le (ks : List Int) : (keysOf ks).length ≤ ks.length := by
  have h : ∀ (l acc : List Int), (l.foldl addK acc).length ≤ acc.length + l.length := by
    intro l
    induction l with
    | nil => intro acc; simp
    | cons a l ih =>
      intro acc
      have h1 := ih (addK acc a)
      have h2 := addK_len acc a
      simp only [List.foldl_cons, List.length_cons]
      omega
  have := h ks []
  simpa [keysOf] using this
section
variable {prog : Program} {w : World} {A : Around} {E : Value → Shared → Prop} {s : Shared} {h₀ : Heap} {L : Addr} {m : Str → Option Value} {news : List (Addr × Obj)}
theorem dict_pairs_N {l : Addr} {ys : List Value} {ep : Nat} {ks : List Int} {Q : Value → Shared → Prop} (hh : A.handled = none) (F : Fr h₀ L s.heap m) (N : News h₀ L s.heap news) (hbig : sysModules < h₀.objs.size) (hm : (l, ({ cls := .type "list", data := .seq ys.toArray ep } : Obj)) ∈ news) (hp : PairsK news ys ks) (hsz : ks.length ≤ 1000)
    (k : ∀ d o kvs h' tk, Fr h₀ L h' m → News h₀ L h' ((d, o) :: news) → (∀ p ∈ news, p.1 < d) → (d == sysModules) = false → o.IsDictOf (intKind prog w) kvs → DK kvs ks → Q (.ref d) { s with heap := h', toks := tk }) :
    wpAny (model prog w) A (call (.type "dict") [.ref l]) Q E s := by
  have hl := hp.length
  refine call_dict_pairs (ks := ks) hh (N _ hm).1 rfl rfl rfl (by rw [List.size_toArray]; omega) (by rw [List.size_toArray]; omega) (fun j x hx => hp.at N j x (by simpa using hx)) fun h' tk kvs hd hk keep => ?_
  obtain ⟨o, ho, hdo⟩ := Heap.dictOf_iff.mp hd
  have fresh : h₀.get? s.heap.objs.size = none := next_is_new F
  refine k s.heap.objs.size o kvs h' tk (F.keeps keep) (fun p hp => ?_) (fun p hp => Heap.lt_size (N p hp).1) (F.notModules hbig) hdo ⟨hk⟩
  rcases List.mem_cons.mp hp with rfl | hp
  · exact ⟨ho, Nat.ne_of_gt F.ns.lt, fresh⟩
  · exact ⟨keep _ _ (N p hp).1, (N p hp).2⟩
end
/-- a comprehension with a test, by what holds ahead of its turn -/
theorem compT_ind {prog : Program} {w : World} {A : Around} {h₀ : Heap} {L : Addr} {m : Str → Option Value} {env : Env} {ct elt : PySem.Expr} {x : Str} {scope : Scope} {cl : List (Str × Addr)} {s : Shared} {S : List (Addr × Obj) → Prop} {P : Nat → Value → Prop} {Fin : List Value → List (Addr × Obj) → Prop}
    {n : Nat} (J : Nat → List Value → List (Addr × Obj) → Prop)
    (step : ∀ i ys news, i < n → J i ys news → ∀ v I oI C oC D m₂ h tk (E' : Value → Shared → Prop), P i v → LCg.NsObj oC m₂ → m₂ x = some v → Fr h₀ L h m → News h₀ L h ((I, oI) :: (C, oC) :: (D, LCg.lst ys) :: news) → LCg.Off3 I C D news → ((@Ne Nat I C) ∧ (@Ne Nat I D) ∧ (@Ne Nat C D)) →
      wpAny (model prog w) A (isTrue ct (compEnvC scope cl C env) (eval ct (compEnvC scope cl C env))) (fun ok s' => if ok = true then
        wpAny (model prog w) A (eval elt (compEnvC scope cl C env)) (LCg.CompEnd h₀ L m { s with heap := h, toks := tk } I oI C oC D (LCg.lst ys) S (fun y news' => J (i + 1) (ys ++ [y]) news')) E' s'
        else LCg.CompEnd h₀ L m { s with heap := h, toks := tk } I oI C oC D (LCg.lst ys) S (fun _ news' => J (i + 1) ys news') Value.none s') E' { s with heap := h, toks := tk })
    (fin : ∀ ys news, J n ys news → Fin ys news) :
    ∀ k i ys news, i + k = n → J i ys news → LCt.CompRestT prog w A h₀ L m env ct elt x scope cl s S P Fin k i ys news := by
  intro k
  induction k with
  | zero => exact fun i ys news hi hJ => LCt.CompRestT.zero (fin ys news (by rw [← hi]; exact hJ))
  | succ k ih =>
    exact fun i ys news hi hJ => LCt.CompRestT.succ fun v I oI C oC D m₂ h tk E' hP hN hx F N off ne => by
      refine wpAny_mono (step i ys news (by omega) hJ v I oI C oC D m₂ h tk E' hP hN hx F N off ne) (fun ok s₂ q => ?_) fun _ _ e => e
      by_cases hok : ok = true
      · rw [if_pos hok] at q ⊢
        refine wpAny_mono q (fun y s₃ q => ?_) fun _ _ e => e
        obtain ⟨h', tk', news', e, F', N', o', S', j⟩ := q
        exact ⟨h', tk', news', e, F', N', o', S', ih (i + 1) _ news' (by omega) j⟩
      · rw [if_neg hok] at q ⊢
        obtain ⟨h', tk', news', e, F', N', o', S', j⟩ := q
        exact ⟨h', tk', news', e, F', N', o', S', ih (i + 1) _ news' (by omega) j⟩
end
section
/-! loops over ranges, up and down -/
section
variable {prog : Program} {w : World} {A : Around} {E : Value → Shared → Prop} {s : Shared} {env : Env} {h₀ : Heap} {x : Str} {body : List Stmt} {Q : Flow → Shared → Prop}
/-- a loop over a range, by what holds before its turn -/
theorem range_ind {I : Addr} {a : Int} {n : Nat} (J : Nat → (Str → Option Value) → List (Addr × Obj) → Prop)
    (step : ∀ i m news, i < n → J i m news → ∀ t h tk, Fr h₀ env.locals h (fun y => if y = x then some (.int (a + (i : Int)) t) else m y) → News h₀ env.locals h ((I, itR (a + ((i + 1 : Nat) : Int)) ((n : Int) - ((i + 1 : Nat) : Int))) :: news) →
      wpAny (model prog w) A (execs body env) (UnrPost h₀ env.locals { s with heap := h, toks := tk } I (itR (a + ((i + 1 : Nat) : Int)) ((n : Int) - ((i + 1 : Nat) : Int))) (J (i + 1)) Q) E { s with heap := h, toks := tk })
    (fin : ∀ m news, J n m news → ∀ h tk, Fr h₀ env.locals h m → News h₀ env.locals h news → Q .next { s with heap := h, toks := tk }) :
    ∀ k i m news, i + k = n → J i m news → RangeRest prog w A E h₀ env x body Q s I a n k i m news
  | 0, i, m, news, hi, hJ => RangeRest.zero fun h tk F N => fin m news (by rw [← hi]; exact hJ) h tk F N
  | k + 1, i, m, news, hi, hJ => RangeRest.succ fun t h tk F N => by
    refine wpAny_mono (step i m news (by omega) hJ t h tk F N) (fun f s₂ p => ?_) fun _ _ e => e
    have conv : ∀ {s₂ : Shared}, UnrEnd h₀ env.locals { s with heap := h, toks := tk } I (itR (a + ((i + 1 : Nat) : Int)) ((n : Int) - ((i + 1 : Nat) : Int))) (J (i + 1)) s₂ → UnrEnd h₀ env.locals { s with heap := h, toks := tk } I (itR (a + ((i + 1 : Nat) : Int)) ((n : Int) - ((i + 1 : Nat) : Int))) (RangeRest prog w A E h₀ env x body Q s I a n k (i + 1)) s₂ :=
      fun ⟨h', tk', m', n', e, F', N', o, j⟩ => ⟨h', tk', m', n', e, F', N', o, range_ind J step fin k (i + 1) m' n' (by omega) j⟩
    cases f with
    | ret v => exact p
    | brk => exact p
    | next => exact conv p
    | cont => exact conv p
end

theorem unrEnd_eqS {h₀ : Heap} {L I : Addr} {it : Obj} {J : (Str → Option Value) → List (Addr × Obj) → Prop} {s₁ : Shared} {h' : Heap} {tk : Nat} {m1 m2 : Str → Option Value} {all news' : List (Addr × Obj)} (F : Fr h₀ L h' m1) (N : News h₀ L h' all)
    (e : m1 = m2) (sub : ∀ p ∈ (I, it) :: news', p ∈ all) (off : ∀ p ∈ news', p.1 ≠ I) (r : J m2 news') : UnrEnd h₀ L s₁ I it J { s₁ with heap := h', toks := tk } :=
  UnrEnd.intro (e ▸ F) N news' sub off r

noncomputable def itD (x left : Int) : Obj := { cls := .type "range_iterator", data := .fields #[rawInt x, rawInt left, rawInt (-1)] }
section
variable {prog : Program} {w : World} {A : Around} {E : Value → Shared → Prop} {s : Shared} {env : Env} {h₀ : Heap} {x : Str} {body : List Stmt} {Q : Flow → Shared → Prop}
theorem iter_down {r : Addr} {a₀ b₀ : Int} {t₀ u₀ v₀ : Tok} {n : Nat} {m₀ : Str → Option Value} {news : List (Addr × Obj)} (J : Addr → Nat → (Str → Option Value) → List (Addr × Obj) → Prop)
    (hh : A.handled = none) (hr : IsRange s.heap r a₀ b₀ (-1) t₀ u₀ v₀) (hsmall : Builtin.Range.small a₀ b₀ (-1) = true) (hn : Builtin.Range.rangeSize a₀ b₀ (-1) = (n : Int)) (F : Fr h₀ env.locals s.heap m₀) (N : News h₀ env.locals s.heap news)
    (start : ∀ I : Addr, (∀ p ∈ news, p.1 < I) → J I 0 m₀ news)
    (step : ∀ I i m₁ news₁, i < n → J I i m₁ news₁ → ∀ t h tk, Fr h₀ env.locals h (fun y => if y = x then some (.int (a₀ + (i : Int) * (-1)) t) else m₁ y) →
      News h₀ env.locals h ((I, itD (a₀ + ((i + 1 : Nat) : Int) * (-1)) ((n : Int) - ((i + 1 : Nat) : Int))) :: news₁) →
      wpAny (model prog w) A (execs body env) (UnrPost h₀ env.locals { s with heap := h, toks := tk } I (itD (a₀ + ((i + 1 : Nat) : Int) * (-1)) ((n : Int) - ((i + 1 : Nat) : Int))) (J I (i + 1)) Q) E { s with heap := h, toks := tk })
    (fin : ∀ I m₁ news₁, J I n m₁ news₁ → ∀ h tk, Fr h₀ env.locals h m₁ → News h₀ env.locals h news₁ → Q .next { s with heap := h, toks := tk }) :
    wpAny (model prog w) A (pyIter (.ref r)) (fun it s₂ => LoopAtV prog w A h₀ env x body Q E it s₂) E s := by
  refine wpAny_pyIter_range hr hsmall ?_
  have rest := start s.heap.objs.size fun p hp => Heap.lt_size (N p hp).1
  have W : Walks prog w A s.heap.objs.size [s.heap.objs.size] [s.heap.objs.size] n (fun i v => i < n ∧ ∃ t, v = .int (a₀ + i * (-1)) t)
      (fun i h => IsRangeIter h s.heap.objs.size (a₀ + (i : Nat) * (-1)) ((n : Int) - (i : Nat)) (-1)) := (Walks.range hh _ a₀ (-1) n).bound
  have hnew := next_is_new F
  refine ⟨_, _, _, n, _, _, m₀, news, J s.heap.objs.size, rfl, W, ?_, ?_, ?_, (by show IsRangeIter _ _ _ _ _; rw [hn]; simpa using Heap.get?_push_size _ rfl), F.push _, (fun p hp => ⟨Heap.get?_push_of_some _ (N p hp).1, (N p hp).2⟩), rest, ?_, ?_⟩
  · intro hm
    exact absurd F.ns.lt ((List.mem_singleton.mp hm) ▸ Nat.lt_irrefl _)
  · intro b hb
    rw [List.mem_singleton.mp hb]
    exact hnew
  · intro p hp hI
    exact absurd (Heap.lt_size (N p hp).1) ((List.mem_singleton.mp hI) ▸ Nat.lt_irrefl _)
  · rintro i v m₁ news₁ s₁ own ⟨hh', tk', rfl⟩ hin ⟨hin2, t, rfl⟩ hJ hoff hown hget hall hst F₁ N₁
    have hst' : hh'.get? s.heap.objs.size = some (itD (a₀ + ((i + 1 : Nat) : Int) * (-1)) ((n : Int) - ((i + 1 : Nat) : Int))) := hst
    have hmem := hall s.heap.objs.size (List.mem_singleton.mpr rfl) hnew _ hst'
    have N₂ : News h₀ env.locals hh' ((s.heap.objs.size, itD (a₀ + ((i + 1 : Nat) : Int) * (-1)) ((n : Int) - ((i + 1 : Nat) : Int))) :: news₁) := fun p hp => by
      rcases List.mem_cons.mp hp with rfl | hp
      · exact N₁ _ (List.mem_append_left _ hmem)
      · exact N₁ _ (List.mem_append_right _ hp)
    refine wpAny_mono (step _ i m₁ news₁ hin2 hJ t hh' tk' F₁ N₂) (fun f s₂ p => ?_) fun _ _ e => e
    have fin : UnrEnd h₀ env.locals { s with heap := hh', toks := tk' } s.heap.objs.size (itD (a₀ + ((i + 1 : Nat) : Int) * (-1)) ((n : Int) - ((i + 1 : Nat) : Int))) (J s.heap.objs.size (i + 1)) s₂ →
        LoopStepU h₀ env.locals [s.heap.objs.size] own (J s.heap.objs.size (i + 1)) { s with heap := hh', toks := tk' } .next s₂ := by
      rintro ⟨h', tk, m', news', e, F', N', ho, r⟩
      refine ⟨rfl, h', tk, m', news', e, F', fun p hp => ?_, fun p hp hI => ho p hp (List.mem_singleton.mp hI), r⟩
      rcases List.mem_append.mp hp with hp | hp
      · have h1 : p.1 = s.heap.objs.size := List.mem_singleton.mp (hown p hp)
        have h2 : hh'.get? p.1 = some p.2 := hget p hp
        have h3 : p = (s.heap.objs.size, itD (a₀ + ((i + 1 : Nat) : Int) * (-1)) ((n : Int) - ((i + 1 : Nat) : Int))) := by
          rw [h1, hst'] at h2
          exact Prod.ext h1 (Option.some.inj h2).symm
        rw [h3]; exact N' _ (List.mem_cons_self ..)
      · exact N' _ (List.mem_cons_of_mem _ hp)
    cases f with
    | ret v => exact .ret p
    | brk => exact .brk p
    | next => exact .next (fin p)
    | cont => exact .cont (fin p)
  · rintro h' tk m' news' F' N' _ hJ
    exact fin _ m' news' hJ h' tk F' N'
end
end
section
/-! bisect_left, insort_left over ints -/
noncomputable def bizN (ns : List Int) (x : Int) : Nat → Nat → Nat → Nat
  | 0, lo, _ => lo
  | k + 1, lo, hi => if lo < hi then (if ns.getD ((lo + hi) / 2) 0 < x then bizN ns x k ((lo + hi) / 2 + 1) hi else bizN ns x k lo ((lo + hi) / 2)) else lo
theorem bizN_more (ns : List Int) (x : Int) : ∀ k j lo hi, hi ≤ lo + k → k ≤ j → bizN ns x j lo hi = bizN ns x k lo hi
  | 0, 0, _, _, _, _ => rfl
  | 0, j + 1, lo, hi, h, _ => by unfold bizN; rw [if_neg (by omega)]
  | k + 1, 0, _, _, _, h => by omega
  | k + 1, j + 1, lo, hi, h, h2 => by
    unfold bizN
    split
    · rw [bizN_more ns x k j _ _ (by omega) (by omega), bizN_more ns x k j lo _ (by omega) (by omega)]
    · rfl
@[irreducible] noncomputable def biz (ns : List Int) (x : Int) : Nat := bizN ns x ns.length 0 ns.length
theorem hfN0 (a b : Nat) (h : a ≤ b) : a ≤ (a + b) / 2 ∧ (a + b) / 2 ≤ b := by omega
theorem hfL0 (a b : Nat) (h : a < b) : (a + b) / 2 < b := by omega
theorem bizN_le (ns : List Int) (x : Int) : ∀ k lo hi, lo ≤ hi → lo ≤ bizN ns x k lo hi ∧ bizN ns x k lo hi ≤ hi
  | 0, lo, hi, h => ⟨Nat.le_refl _, h⟩
  | k + 1, lo, hi, h => by
    unfold bizN
    by_cases c : lo < hi
    · rw [if_pos c]
      split
      · have t := bizN_le ns x k ((lo + hi) / 2 + 1) hi (hfL0 lo hi c)
        exact ⟨Nat.le_trans (hfN0 lo hi h).1 (Nat.le_trans (Nat.le_succ _) t.1), t.2⟩
      · have t := bizN_le ns x k lo ((lo + hi) / 2) (hfN0 lo hi h).1
        exact ⟨t.1, Nat.le_trans t.2 (hfN0 lo hi h).2⟩
    · rw [if_neg c]
      exact ⟨Nat.le_refl _, h⟩
theorem biz_le (ns : List Int) (x : Int) : biz ns x ≤ ns.length := by
  unfold biz
  exact (bizN_le ns x _ 0 _ (Nat.zero_le _)).2
theorem sub_ints {prog : Program} {w : World} {A : Around} {E : Value → Shared → Prop} {s : Shared} {h₀ : Heap} {L l : Addr} {news : List (Addr × Obj)} {value slice : PySem.Expr} {vs : List Value} {ns : List Int} {k : Int} {u : Tok} {n : Nat} {Q : Value → Shared → Prop}
    (N : News h₀ L s.heap news) (hm : (l, listOf vs.toArray n) ∈ news) (hI : IntsAre vs ns) (h0 : 0 ≤ k) (h1 : k < ns.length) (hfit : ns.length ≤ 1000)
    (h : ∀ t, Q (.int (ns.getD k.toNat 0) t) s)
    (hs : subscripted slice false (.ref l) (.int k u) = operate [.ref l, .int k u] (getItem (.ref l) (.int k u)) := by with_unfolding_all rfl) :
    wpAny (model prog w) A (subscriptTail value slice (.ref l) (.int k u)) Q E s := by
  have hl := hI.length
  have e : vs[k.toNat]? = some (vs[k.toNat]'(by omega)) := List.getElem?_eq_getElem (by omega)
  obtain ⟨t, ht⟩ := hI.int_at k.toNat _ e
  rw [ht] at e
  have hL : s.heap.IsList l vs.toArray := ⟨_, (N _ hm).1, rfl, n, rfl⟩
  exact tail_any hL.typeIs slot_list_getitem.lookup (wpAny_getItem_list hL h0 (by omega) (by simpa using e) (h t)) hs
noncomputable abbrev blM (m0 : Str → Option Value) (vm : Option Value) (lo hi : Int) (tl th : Tok) : Str → Option Value :=
  fun z => if z = Str.ofString "hi" then some (.int hi th) else if z = Str.ofString "lo" then some (.int lo tl) else if z = Str.ofString "mid" then vm else m0 z
theorem blM_init {m : Str → Option Value} {vm : Option Value} {lo hi : Int} {tl th : Tok} (h1 : m (Str.ofString "hi") = some (.int hi th)) (h2 : m (Str.ofString "lo") = some (.int lo tl)) (h3 : m (Str.ofString "mid") = vm) : m = blM m vm lo hi tl th := by
  funext z
  unfold blM
  split
  · subst z; exact h1
  · split
    · subst z; exact h2
    · split
      · subst z; exact h3
      · rfl
theorem blM_lo (m0 : Str → Option Value) (vm vm' : Option Value) (lo lo' hi : Int) (tl tl' th : Tok) :
    (fun z => if z = Str.ofString "lo" then some (.int lo' tl') else if z = Str.ofString "mid" then vm' else blM m0 vm lo hi tl th z) = blM m0 vm' lo' hi tl' th := by
  funext z
  unfold blM
  (repeat' split) <;> first | rfl | contradiction | (subst_vars; contradiction) | (simp_all; done)
theorem blM_hi (m0 : Str → Option Value) (vm vm' : Option Value) (lo hi hi' : Int) (tl th th' : Tok) :
    (fun z => if z = Str.ofString "hi" then some (.int hi' th') else if z = Str.ofString "mid" then vm' else blM m0 vm lo hi tl th z) = blM m0 vm' lo hi' tl th' := by
  funext z
  unfold blM
  (repeat' split) <;> first | rfl | contradiction | (subst_vars; contradiction) | (simp_all; done)
theorem fdN (a b : Nat) : ((a : Int) + b).fdiv 2 = (((a + b) / 2 : Nat) : Int) := by
  rw [Int.fdiv_eq_ediv_of_nonneg _ (by decide), ← Int.natCast_add]
  rfl
theorem fd2 {lo hi : Int} (h1 : 0 ≤ lo) (h2 : lo ≤ hi) : lo ≤ (lo + hi).fdiv 2 ∧ (lo < hi → (lo + hi).fdiv 2 < hi) ∧ (lo + hi).fdiv 2 ≤ hi ∧ ((lo + hi).fdiv 2).toNat = (lo.toNat + hi.toNat) / 2 := by
  obtain ⟨a, rfl⟩ := Int.eq_ofNat_of_zero_le h1
  obtain ⟨b, rfl⟩ := Int.eq_ofNat_of_zero_le (Int.le_trans h1 h2)
  have h := hfN0 a b (Int.ofNat_le.mp h2)
  rw [fdN]
  exact ⟨Int.ofNat_le.mpr h.1, fun q => Int.ofNat_lt.mpr (hfL0 a b (Int.ofNat_lt.mp q)), Int.ofNat_le.mpr h.2, rfl⟩
theorem mid_ge {lo hi : Int} (h1 : 0 ≤ lo) (h : lo < hi) : 0 ≤ (lo + hi).fdiv 2 := Int.le_trans h1 (fd2 h1 (Int.le_of_lt h)).1
theorem mid_lt {lo hi n : Int} (h1 : 0 ≤ lo) (h : lo < hi) (h3 : hi ≤ n) : (lo + hi).fdiv 2 < n := Int.lt_of_lt_of_le ((fd2 h1 (Int.le_of_lt h)).2.1 h) h3
theorem lo_dec {lo hi : Int} {k : Nat} (h1 : 0 ≤ lo) (h : lo < hi) (h4 : k = (hi - lo).toNat) : (hi - ((lo + hi).fdiv 2 + 1)).toNat < k := by
  have f1 := (fd2 h1 (Int.le_of_lt h)).1
  clear h1
  omega
theorem hi_dec {lo hi : Int} {k : Nat} (h1 : 0 ≤ lo) (h : lo < hi) (h4 : k = (hi - lo).toNat) : ((lo + hi).fdiv 2 - lo).toNat < k := by
  have f2 := (fd2 h1 (Int.le_of_lt h)).2.1 h
  clear h1
  omega
theorem bl_k {lo hi : Int} {k : Nat} (h : lo < hi) (h4 : k = (hi - lo).toNat) : k = (k - 1) + 1 := by omega
theorem bl_lt {lo hi : Int} (h1 : 0 ≤ lo) (h : lo < hi) : lo.toNat < hi.toNat := by omega
theorem bl_a {lo hi m : Int} {k : Nat} (h : lo < hi) (f1 : lo ≤ m) (h4 : k = (hi - lo).toNat) : (hi - (m + 1)).toNat ≤ k - 1 := by omega
theorem bl_b {lo hi m : Int} {k : Nat} (h : m < hi) (f1 : lo ≤ m) (h4 : k = (hi - lo).toNat) : (m - lo).toNat ≤ k - 1 := by omega
theorem bl_c {hi m : Int} {q : Nat} (f1 : 0 ≤ m) (f4 : m.toNat = q) : (m + 1).toNat = q + 1 := by omega
theorem bl_d {hi m : Int} {q : Nat} (f1 : 0 ≤ m) (f4 : m.toNat = q) : hi.toNat ≤ q + 1 + (hi - (m + 1)).toNat := by omega
theorem bl_e {lo m : Int} {q : Nat} (h1 : 0 ≤ lo) (f1 : lo ≤ m) (f4 : m.toNat = q) : q ≤ lo.toNat + (m - lo).toNat := by omega
theorem whileStep_eq {h₀ h' : Heap} {L : Addr} {s : Shared} {J : Nat → (Str → Option Value) → List (Addr × Obj) → Prop} {n n' tk : Nat} {m1 m2 : Str → Option Value} {news2 : List (Addr × Obj)}
    (F : Fr h₀ L h' m1) (e : m1 = m2) (N : News h₀ L h' news2) (hJ : J n' m2 news2) (hn : n' < n) : WhileStep h₀ L s J n .next { s with heap := h', toks := tk } :=
  WhileStep.intro (e ▸ F) N hn hJ
inductive BzJ (ns : List Int) (x : Int) (m0 : Str → Option Value) (keep : List (Addr × Obj)) : Nat → (Str → Option Value) → List (Addr × Obj) → Prop
  | mk {vm : Option Value} {lo hi : Int} {tl th : Tok} {k : Nat} (h1 : 0 ≤ lo) (h2 : lo ≤ hi) (h3 : hi ≤ ns.length) (h4 : k = (hi - lo).toNat) (h5 : bizN ns x k lo.toNat hi.toNat = biz ns x) : BzJ ns x m0 keep k (blM m0 vm lo hi tl th) keep
theorem BzJ.lo {ns : List Int} {x : Int} {m0 : Str → Option Value} {keep : List (Addr × Obj)} {lo hi : Int} {k : Nat} {vm' : Option Value} {tl' th : Tok} (h1 : 0 ≤ lo) (h3 : hi ≤ ns.length) (h4 : k = (hi - lo).toNat) (h5 : bizN ns x k lo.toNat hi.toNat = biz ns x) (h : lo < hi)
    (hp : ns.getD ((lo + hi).fdiv 2).toNat 0 < x) :
    BzJ ns x m0 keep (hi - ((lo + hi).fdiv 2 + 1)).toNat (blM m0 vm' ((lo + hi).fdiv 2 + 1) hi tl' th) keep := by
  obtain ⟨f1, f2, f3, f4⟩ := fd2 h1 (Int.le_of_lt h)
  have f2 := f2 h
  have g1 := mid_ge h1 h
  refine BzJ.mk (Int.le_trans g1 (Int.le_add_of_nonneg_right (by decide))) (Int.add_one_le_of_lt f2) h3 rfl ?_
  have hp' : ns.getD ((lo.toNat + hi.toNat) / 2) 0 < x := by rw [← f4]; exact hp
  clear hp
  rw [bl_k h h4] at h5
  unfold bizN at h5
  rw [if_pos (bl_lt h1 h), if_pos hp'] at h5
  rw [bl_c (hi := hi) g1 f4, ← h5]
  exact (bizN_more ns _ _ _ _ _ (bl_d g1 f4) (bl_a h f1 h4)).symm
theorem BzJ.hi {ns : List Int} {x : Int} {m0 : Str → Option Value} {keep : List (Addr × Obj)} {lo hi : Int} {k : Nat} {vm' : Option Value} {tl th' : Tok} (h1 : 0 ≤ lo) (h3 : hi ≤ ns.length) (h4 : k = (hi - lo).toNat) (h5 : bizN ns x k lo.toNat hi.toNat = biz ns x) (h : lo < hi)
    (hp : ¬ ns.getD ((lo + hi).fdiv 2).toNat 0 < x) :
    BzJ ns x m0 keep ((lo + hi).fdiv 2 - lo).toNat (blM m0 vm' lo ((lo + hi).fdiv 2) tl th') keep := by
  obtain ⟨f1, f2, f3, f4⟩ := fd2 h1 (Int.le_of_lt h)
  have f2 := f2 h
  refine BzJ.mk h1 f1 (Int.le_trans f3 h3) rfl ?_
  have hp' : ¬ ns.getD ((lo.toNat + hi.toNat) / 2) 0 < x := by rw [← f4]; exact hp
  clear hp
  rw [bl_k h h4] at h5
  unfold bizN at h5
  rw [if_pos (bl_lt h1 h), if_neg hp'] at h5
  rw [f4, ← h5]
  exact (bizN_more ns _ _ _ _ _ (bl_e h1 f1 f4) (bl_b f2 f1 h4)).symm
theorem bz_end {ns : List Int} {x : Int} {lo hi : Int} {k : Nat} (h1 : 0 ≤ lo) (h2 : lo ≤ hi) (h4 : k = (hi - lo).toNat) (h5 : bizN ns x k lo.toNat hi.toNat = biz ns x) (h : ¬ lo < hi) : lo = (biz ns x : Int) := by
  have hk : k = 0 := by omega
  subst hk
  have : bizN ns x 0 lo.toNat hi.toNat = lo.toNat := rfl
  omega
theorem bz_while {prog : Program} {w : World} {A : Around} {E : Value → Shared → Prop} {Q : Flow → Shared → Prop} {s : Shared} {env : Env} {h₀ : Heap} {L : Addr} {test : Expr} {body : List Stmt} {pos : Pos} {m : Str → Option Value} {news : List (Addr × Obj)}
    {vs : List Value} {ns : List Int} {x : Int} {tx : Tok} {vm : Option Value} {hi : Int} {tl th : Tok}
    (F : Fr h₀ L s.heap m) (N : News h₀ L s.heap news) (_ : IntsAre vs ns) (h0 : m (Str.ofString "x") = some (.int x tx)) (h1 : m (Str.ofString "hi") = some (.int hi th)) (h2 : m (Str.ofString "lo") = some (.int 0 tl)) (h3 : m (Str.ofString "mid") = vm) (hlen : hi = (ns.length : Int))
    (hE : PassesOwn (model prog w) A env E)
    (turn : ∀ n m₁ news₁ h₁ tk₁, Fr h₀ L h₁ m₁ → News h₀ L h₁ news₁ → BzJ ns x m news n m₁ news₁ →
      wpAny (model prog w) A (isTrue test env (eval test env)) (fun b s₂ =>
        if b = true then wpAny (model prog w) A (execs body env) (WhileStep h₀ L s (BzJ ns x m news) n) E s₂ else Q .next s₂) E { s with heap := h₁, toks := tk₁ }) :
    wpAny (model prog w) A (exec (.While test body [] pos) env) Q E s := by
  refine While_inv (BzJ ns x m news) (n₀ := ns.length) F N ?_ turn hE
  have h : BzJ ns x m news ns.length (blM m vm 0 hi tl th) news := BzJ.mk (Int.le_refl _) (by omega) (by omega) (by omega) (by subst hlen; unfold biz; rfl)
  rw [← blM_init h1 h2 h3] at h
  exact h
section
local macro_rules | `(tactic| walk_at "call builtin:len") => `(tactic| walk_at "MINE h0")
local macro_rules | `(tactic| walk_at "subscriptTail") => `(tactic| (k_here; (with_reducible refine gd_s ?_); k_dflt (refine' sub_ints ?k1 ?k2 ?k3 ?k4 ?k5 ?k6 ?_ ?k7; (case k1 => k_asm); (case k2 => k_mem); (case k3 => assumption); (case k4 => first | exact mid_ge (by assumption) (by assumption) | omega); (case k5 => first | exact mid_lt (by assumption) (by assumption) (by assumption) | omega); (case k6 => first | assumption | omega); (case k7 => with_unfolding_all rfl)); intro _; (try dsimp only)))
local macro_rules | `(tactic| walk_at "exec While") => `(tactic| (k_here; k_dflt (refine' bz_while ?F ?N ?hI ?h0 ?h1 ?h2 ?h3 ?hlen ?hE ?_; (case F | N => k_asm); (case hI => assumption); (case h0 | h1 | h2 | h3 | hlen => exact rfl); (case hE => passes_own)); intro _ _ _ _ _ _ _ hJ; (rcases hJ with ⟨j1, j2, j3, j4, j5⟩); (have hfd := fd2 j1 j2)))
local macro_rules | `(tactic| walk_at "WhileStep") => `(tactic| (k_dflt (first
  | (refine' whileStep_eq ?F (blM_lo _ _ _ _ _ _ _ _ _) ?N (BzJ.lo ?j1 ?j3 ?j4 ?j5 ?h ?hp) ?n; (case F => k_asm); (case N => k_asm); (case j1 => assumption); (case j3 => assumption); (case j4 => assumption); (case j5 => assumption); (case h => walk_at "MINE arith"); (case hp => walk_at "MINE arith"); (case n => first | exact lo_dec (by assumption) (by assumption) (by assumption) | omega))
  | (refine' whileStep_eq ?F (blM_hi _ _ _ _ _ _ _ _ _) ?N (BzJ.hi ?j1 ?j3 ?j4 ?j5 ?h ?hp) ?n; (case F => k_asm); (case N => k_asm); (case j1 => assumption); (case j3 => assumption); (case j4 => assumption); (case j5 => assumption); (case h => walk_at "MINE arith"); (case hp => walk_at "MINE arith"); (case n => first | exact hi_dec (by assumption) (by assumption) (by assumption) | omega)))))
set_option rowWalk.seconds 0 in
theorem bz2_ok (w : World) (p : Program) (loose : List Str) (mean : ExcName → Option Value) (mg mb : Str → Option Value)
  (gd : Option (List Code)) (cn : Str) (cs : Scope) (a : Addr) (ccd : Value) (cl : List (Str × Addr)) (outer : List Env) (A₀ : Around) (base h₀ : Heap) (L : Addr) (m : Str → Option Value) (s : Shared) (Q E : Value → Shared → Prop)
  (l : Addr) (vs : List Value) (ns : List Int) (x : Int) (tx : Tok) (e : Nat) (news : List (Addr × Obj)) :
  (Mine.hd.heap_39 w.params).In h₀ →
  Below A₀ base outer h₀ → Fr h₀ L s.heap m → News h₀ L s.heap news → Top p loose mean mg mb h₀ →
  cs.kind = .function → (l, listOf vs.toArray e) ∈ news → IntsAre vs ns → ns.length ≤ 1000 →
  (∀ v t h' tk', Fr h₀ L h' m → News h₀ L h' news → v = (biz ns x : Int) → Q (.int v t) { s with heap := h', toks := tk' }) →
  wpAny (model Challenge.rw_hl0003_02.row.prog w) (ktrTop 380 960 gd cn cs L a ccd cl outer) (call (.ref 74) [.ref l, .int x tx]) Q E s := by
  k_fill
  intro X B F N T hk hl hP hlen hret
  refine wpAny_call ?_
  (k_dflt (refine' code_def ?zzk1u5 ?zzk2u5 ?zzk3u5 ?zzk4u5 ?zzk5u5 ?zzkAu5 ?zzkFu5 ?zzkKu5 ?zzk6u5 ?zzk7u5 ?zzk8u5 ?zzk9u5 ?zzkBu5 ?_ ?zzc2u5 ?zzc3u5 ?zzc4u5 ?zzc5u5; (case zzkAu5 | zzkFu5 => exact rfl); (case zzkKu5 => assumption); (case zzk1u5 | zzk2u5 | zzk3u5 | zzk4u5 | zzk5u5 => k_asm); (case zzk6u5 | zzk7u5 => k_is); (case zzk8u5 => k_room); (case zzk9u5 => (refine' kp_binds ?zzkxu5 ?zzkeu5; (case zzkxu5 => k_in); (case zzkeu5 => exact fun _ => rfl))); (case zzc5u5 => decide); (case zzkBu5 => exact locs rfl); (case zzc2u5 | zzc3u5 | zzc4u5 => exact rfl); k_whole; intro _ _ _ _ _ _ B' _ _; (try dsimp only); (try k_lift B'); (try k_fold)))
  k_steps
  exact hret _ _ _ _ (by k_asm) (by k_asm) (bz_end (by assumption) (by assumption) (by assumption) (by assumption) (by assumption))
set_option rowWalk.seconds 0 in
theorem bz4_ok (w : World) (p : Program) (loose : List Str) (mean : ExcName → Option Value) (mg mb : Str → Option Value)
  (gd : Option (List Code)) (cn : Str) (cs : Scope) (a : Addr) (ccd : Value) (cl : List (Str × Addr)) (outer : List Env) (A₀ : Around) (base h₀ : Heap) (L : Addr) (m : Str → Option Value) (s : Shared) (Q E : Value → Shared → Prop)
  (l : Addr) (vs : List Value) (ns : List Int) (x : Int) (tx t0 : Tok) (e : Nat) (news : List (Addr × Obj)) :
  (Mine.hd.heap_39 w.params).In h₀ →
  Below A₀ base outer h₀ → Fr h₀ L s.heap m → News h₀ L s.heap news → Top p loose mean mg mb h₀ →
  cs.kind = .function → (l, listOf vs.toArray e) ∈ news → IntsAre vs ns → ns.length ≤ 1000 →
  (∀ v t h' tk', Fr h₀ L h' m → News h₀ L h' news → v = (biz ns x : Int) → Q (.int v t) { s with heap := h', toks := tk' }) →
  wpAny (model Challenge.rw_hl0003_02.row.prog w) (ktrTop 380 960 gd cn cs L a ccd cl outer) (call (.ref 74) [.ref l, .int x tx, .int 0 t0, .none]) Q E s := by
  k_fill
  intro X B F N T hk hl hP hlen hret
  refine wpAny_call ?_
  (k_dflt (refine' code_def ?zzk1u6 ?zzk2u6 ?zzk3u6 ?zzk4u6 ?zzk5u6 ?zzkAu6 ?zzkFu6 ?zzkKu6 ?zzk6u6 ?zzk7u6 ?zzk8u6 ?zzk9u6 ?zzkBu6 ?_ ?zzc2u6 ?zzc3u6 ?zzc4u6 ?zzc5u6; (case zzkAu6 | zzkFu6 => exact rfl); (case zzkKu6 => assumption); (case zzk1u6 | zzk2u6 | zzk3u6 | zzk4u6 | zzk5u6 => k_asm); (case zzk6u6 | zzk7u6 => k_is); (case zzk8u6 => k_room); (case zzk9u6 => (refine' kp_binds ?zzkxu6 ?zzkeu6; (case zzkxu6 => k_in); (case zzkeu6 => exact fun _ => rfl))); (case zzc5u6 => decide); (case zzkBu6 => exact locs rfl); (case zzc2u6 | zzc3u6 | zzc4u6 => exact rfl); k_whole; intro _ _ _ _ _ _ B' _ _; (try dsimp only); (try k_lift B'); (try k_fold)))
  k_steps
  exact hret _ _ _ _ (by k_asm) (by k_asm) (bz_end (by assumption) (by assumption) (by assumption) (by assumption) (by assumption))
end
end
section
@[irreducible] noncomputable def insZ (ns : List Int) (x : Int) : List Int := ns.take (biz ns x) ++ x :: ns.drop (biz ns x)
theorem insZ_len (ns : List Int) (x : Int) : (insZ ns x).length = ns.length + 1 := by
  unfold insZ
  simp only [List.length_append, List.length_cons, List.length_take, List.length_drop]
  omega
theorem ints_take : ∀ {vs : List Value} {ns : List Int}, IntsAre vs ns → ∀ k, IntsAre (vs.take k) (ns.take k)
  | _, _, .nil, _ => by simp only [List.take_nil]; exact .nil
  | _, _, .cons _ _ _, 0 => .nil
  | _, _, .cons a t r, k + 1 => .cons a t (ints_take r k)
theorem ints_drop : ∀ {vs : List Value} {ns : List Int}, IntsAre vs ns → ∀ k, IntsAre (vs.drop k) (ns.drop k)
  | _, _, .nil, _ => by simp only [List.drop_nil]; exact .nil
  | _, _, .cons a t r, 0 => .cons a t r
  | _, _, .cons _ _ r, k + 1 => ints_drop r k
theorem insert_Z {prog : Program} {w : World} {A : Around} {E : Value → Shared → Prop} {s : Shared} {h₀ : Heap} {L D : Addr} {m : Str → Option Value} {keep : List (Addr × Obj)} {vs : List Value} {ns : List Int} {n : Nat} {v x : Int} {u tx : Tok} {Q : Value → Shared → Prop}
    (F : Fr h₀ L s.heap m) (N : News h₀ L s.heap ((D, listOf vs.toArray n) :: keep)) (hD : ∀ p ∈ keep, p.1 ≠ D) (hP : IntsAre vs ns) (hlen : ns.length ≤ 1000) (hv : v = (biz ns x : Int))
    (h : ∀ h' vs' n', Fr h₀ L h' m → News h₀ L h' ((D, listOf vs'.toArray n') :: keep) → IntsAre vs' (insZ ns x) → Q .none { s with heap := h' }) :
    wpAny (model prog w) A (call (.builtin "list.insert") [.ref D, .int v u, .int x tx]) Q E s := by
  have hl := hP.length
  have hb := biz_le ns x
  have e : kl_ins vs v (.int x tx) = vs.take (biz ns x) ++ .int x tx :: vs.drop (biz ns x) := by
    unfold kl_ins
    rw [if_neg (by omega), show min v.toNat vs.length = biz ns x by omega]
  refine kl_insert (its := vs.toArray) F N (by simp [Builtin.List.listFitsIndex]; omega) e (.head hD) (by show vs.length ≤ _; rw [sizeLine_eq]; omega) fun h' F' N' => h h' _ _ F' N' ?_
  unfold insZ
  exact (ints_take hP _).append (.cons x tx (ints_drop hP _))
theorem bz4_use {w : World} {p : Program} {loose : List Str} {mean : ExcName → Option Value} {mg mb : Str → Option Value}
  {dp un : Nat} {gd : Option (List Code)} {cn : Str} {cs : Scope} {a : Addr} {ccd : Value} {cl : List (Str × Addr)} {outer : List Env} {A₀ : Around} {base h₀ : Heap} {L : Addr} {m : Str → Option Value} {s : Shared} {Q E : Value → Shared → Prop}
  {l : Addr} {vs : List Value} {ns : List Int} {x : Int} {tx t0 : Tok} {e : Nat} {news : List (Addr × Obj)} (hdp : dp ≤ 380) (hun : un ≤ 960)
  (X : (Mine.hd.heap_39 w.params).In h₀) (B : Below A₀ base outer h₀) (F : Fr h₀ L s.heap m) (N : News h₀ L s.heap news) (T : Top p loose mean mg mb h₀) (hk : cs.kind = .function)
  (hl : (l, listOf vs.toArray e) ∈ news) (hP : IntsAre vs ns) (hlen : ns.length ≤ 1000)
  (ret : ∀ v t h' tk', Fr h₀ L h' m → News h₀ L h' news → v = (biz ns x : Int) → Q (.int v t) { s with heap := h', toks := tk' }) :
  wpAny (model Challenge.rw_hl0003_02.row.prog w) (ktrTop dp un gd cn cs L a ccd cl outer) (call (.ref 74) [.ref l, .int x tx, .int 0 t0, .none]) Q E s :=
  wp_room (bz4_ok w p loose mean mg mb gd cn cs a ccd cl outer A₀ base h₀ L m s Q E l vs ns x tx t0 e news X B F N T hk hl hP hlen ret) hdp hun
theorem bz2_use {w : World} {p : Program} {loose : List Str} {mean : ExcName → Option Value} {mg mb : Str → Option Value}
  {dp un : Nat} {gd : Option (List Code)} {cn : Str} {cs : Scope} {a : Addr} {ccd : Value} {cl : List (Str × Addr)} {outer : List Env} {A₀ : Around} {base h₀ : Heap} {L : Addr} {m : Str → Option Value} {s : Shared} {Q E : Value → Shared → Prop}
  {l : Addr} {vs : List Value} {ns : List Int} {x : Int} {tx : Tok} {e : Nat} {news : List (Addr × Obj)} (hdp : dp ≤ 380) (hun : un ≤ 960)
  (X : (Mine.hd.heap_39 w.params).In h₀) (B : Below A₀ base outer h₀) (F : Fr h₀ L s.heap m) (N : News h₀ L s.heap news) (T : Top p loose mean mg mb h₀) (hk : cs.kind = .function)
  (hl : (l, listOf vs.toArray e) ∈ news) (hP : IntsAre vs ns) (hlen : ns.length ≤ 1000)
  (ret : ∀ v t h' tk', Fr h₀ L h' m → News h₀ L h' news → v = (biz ns x : Int) → Q (.int v t) { s with heap := h', toks := tk' }) :
  wpAny (model Challenge.rw_hl0003_02.row.prog w) (ktrTop dp un gd cn cs L a ccd cl outer) (call (.ref 74) [.ref l, .int x tx]) Q E s :=
  wp_room (bz2_ok w p loose mean mg mb gd cn cs a ccd cl outer A₀ base h₀ L m s Q E l vs ns x tx e news X B F N T hk hl hP hlen ret) hdp hun
section
local macro_rules | `(tactic| walk_at "call ref") => `(tactic| (k_here; k_dflt (apply bz4_use; walk_at "MINE ca"; (case hl => k_mem); (case hP => assumption); (case hlen => omega); k_whole); intro _ _ _ _ _ _ _; (try dsimp only); (try k_fold)))
local macro_rules | `(tactic| walk_at "call builtin:list.insert") => `(tactic| (k_here; k_dflt (refine' insert_Z ?F ?N ?D ?P ?l ?v ?_; (case F | N => k_asm); (case D | P => assumption); (case l => omega); (case v => assumption)); intro _ _ _ _ _ _; (try dsimp only); (try k_fold)))
set_option rowWalk.seconds 0 in
theorem inz_ok (w : World) (p : Program) (loose : List Str) (mean : ExcName → Option Value) (mg mb : Str → Option Value)
  (gd : Option (List Code)) (cn : Str) (cs : Scope) (a : Addr) (ccd : Value) (cl : List (Str × Addr)) (outer : List Env) (A₀ : Around) (base h₀ : Heap) (L : Addr) (m : Str → Option Value) (s : Shared) (Q E : Value → Shared → Prop)
  (l : Addr) (vs : List Value) (ns : List Int) (x : Int) (tx : Tok) (e : Nat) (keep : List (Addr × Obj)) :
  (Mine.hd.heap_39 w.params).In h₀ →
  Below A₀ base outer h₀ → Fr h₀ L s.heap m → News h₀ L s.heap ((l, listOf vs.toArray e) :: keep) → (∀ p ∈ keep, p.1 ≠ l) → Top p loose mean mg mb h₀ →
  cs.kind = .function → IntsAre vs ns → ns.length ≤ 1000 →
  (∀ vs' e' h' tk', Fr h₀ L h' m → News h₀ L h' ((l, listOf vs'.toArray e') :: keep) → IntsAre vs' (insZ ns x) → Q .none { s with heap := h', toks := tk' }) →
  wpAny (model Challenge.rw_hl0003_02.row.prog w) (ktrTop 375 950 gd cn cs L a ccd cl outer) (call (.ref 65) [.ref l, .int x tx]) Q E s := by
  k_fill
  intro X B F N hD T hk hP hlen hret
  refine wpAny_call ?_
  (k_dflt (refine' code_def ?zzk1u7 ?zzk2u7 ?zzk3u7 ?zzk4u7 ?zzk5u7 ?zzkAu7 ?zzkFu7 ?zzkKu7 ?zzk6u7 ?zzk7u7 ?zzk8u7 ?zzk9u7 ?zzkBu7 ?_ ?zzc2u7 ?zzc3u7 ?zzc4u7 ?zzc5u7; (case zzkAu7 | zzkFu7 => exact rfl); (case zzkKu7 => assumption); (case zzk1u7 | zzk2u7 | zzk3u7 | zzk4u7 | zzk5u7 => k_asm); (case zzk6u7 | zzk7u7 => k_is); (case zzk8u7 => k_room); (case zzk9u7 => (refine' kp_binds ?zzkxu7 ?zzkeu7; (case zzkxu7 => k_in); (case zzkeu7 => exact fun _ => rfl))); (case zzc5u7 => decide); (case zzkBu7 => exact locs rfl); (case zzc2u7 | zzc3u7 | zzc4u7 => exact rfl); k_whole; intro _ _ _ _ _ _ B' _ _; (try dsimp only); (try k_lift B'); (try k_fold)))
  k_steps
  exact hret _ _ _ _ (by k_asm) (by k_asm) (by assumption)
end
theorem inz_use {w : World} {p : Program} {loose : List Str} {mean : ExcName → Option Value} {mg mb : Str → Option Value}
  {dp un : Nat} {gd : Option (List Code)} {cn : Str} {cs : Scope} {a : Addr} {ccd : Value} {cl : List (Str × Addr)} {outer : List Env} {A₀ : Around} {base h₀ : Heap} {L : Addr} {m : Str → Option Value} {s : Shared} {Q E : Value → Shared → Prop}
  {l : Addr} {vs : List Value} {ns : List Int} {x : Int} {tx : Tok} {e : Nat} {news keep : List (Addr × Obj)} (hdp : dp ≤ 375) (hun : un ≤ 950)
  (X : (Mine.hd.heap_39 w.params).In h₀) (B : Below A₀ base outer h₀) (F : Fr h₀ L s.heap m) (N : News h₀ L s.heap news) (hl : (l, listOf vs.toArray e) ∈ news) (R : Rm l news keep) (T : Top p loose mean mg mb h₀) (hk : cs.kind = .function)
  (hP : IntsAre vs ns) (hlen : ns.length ≤ 1000)
  (ret : ∀ vs' e' h' tk', Fr h₀ L h' m → News h₀ L h' ((l, listOf vs'.toArray e') :: keep) → IntsAre vs' (insZ ns x) → Q .none { s with heap := h', toks := tk' }) :
  wpAny (model Challenge.rw_hl0003_02.row.prog w) (ktrTop dp un gd cn cs L a ccd cl outer) (call (.ref 65) [.ref l, .int x tx]) Q E s :=
  wp_room (inz_ok w p loose mean mg mb gd cn cs a ccd cl outer A₀ base h₀ L m s Q E l vs ns x tx e keep X B F (fun p hp => by
    rcases List.mem_cons.mp hp with rfl | hp
    · exact N _ hl
    · exact N _ (R.ok.1 p hp)) R.ok.2 T hk hP hlen ret) hdp hun
end
local macro_rules | `(tactic| walk_at "MINE h1") => `(tactic| (k_here; k_dflt (apply idm_warm; walk_at "MINE cb"; (case hw => assumption); (case hs => walk_at "MINE sub"); (case hx2 => first | assumption | walk_at "MINE idm1"); (case hy | hy2 => walk_at "MINE arith"); (case hD => first | assumption | walk_at "MINE idm2"); k_whole); intro _ _ _ _ _ _ _ _ _ l1 _ _; (try k_lt l1); (try dsimp only); (try k_fold)))
section
/-! _law_power of law 2 -/
theorem off_lt {I : Addr} {l : List (Addr × Obj)} (h : ∀ p ∈ l, p.1 < I) : ∀ p ∈ l, p.1 ≠ I := fun p hp => neN (Nat.ne_of_lt (h p hp))
noncomputable def pwZR (x y : Int) : Nat → Int
  | 0 => 1
  | k + 1 => (pwZR x y k * x).fmod y
@[irreducible] noncomputable def pwZ (x y : Int) (k : Nat) : Int := pwZR x y k
theorem pwZ_zero (x y : Int) : pwZ x y 0 = 1 := by unfold pwZ; rfl
theorem pwZ_succ (x y : Int) (k : Nat) : pwZ x y (k + 1) = (pwZ x y k * x).fmod y := by unfold pwZ; rfl
theorem pwZ_bnd {x y : Int} (hy : 1 < y) : ∀ k, 0 ≤ pwZ x y k ∧ pwZ x y k < y
  | 0 => by rw [pwZ_zero]; omega
  | k + 1 => by rw [pwZ_succ]; exact ⟨Int.fmod_nonneg_of_pos _ (by omega), Int.fmod_lt_of_pos _ (by omega)⟩
theorem mul25 {a b y : Int} (a0 : 0 ≤ a) (a1 : a ≤ 25) (b0 : 0 ≤ b) (b1 : b ≤ 25) (hy : 8 ≤ y) : mag (a * b) < 2 ^ 20 ∧ ((Builtin.Int.intBits (mag (a * b)) : Int) + Builtin.Int.intBits y - 1).fdiv (Builtin.Int.intBits y) ≤ 4 := by
  have a3 : 0 ≤ a * b := Int.mul_nonneg a0 b0
  have a4 : a * b ≤ 25 * 25 := Int.mul_le_mul a1 b1 b0 (by decide)
  rw [mag_pos a3]
  refine ⟨by omega, dig4 (k := 10) a3 (by omega) ?_ (by omega)⟩
  have := bits_ge (y := y) (k := 3) (by omega)
  omega
noncomputable abbrev lqM (m0 : Str → Option Value) (vt : Option Value) (r : Int) (tr : Tok) : Str → Option Value :=
  fun z => if z = Str.ofString "found" then some (.int r tr) else if z = Str.ofString "turn" then vt else m0 z
theorem lqM_init {m : Str → Option Value} {vt : Option Value} {tr : Tok} (h1 : m (Str.ofString "found") = some (.int 1 tr)) (h3 : m (Str.ofString "turn") = vt) : m = lqM m vt 1 tr := by
  funext z
  unfold lqM
  split
  · subst z; exact h1
  · split
    · subst z; exact h3
    · rfl
theorem lqM_step (m0 : Str → Option Value) (vt vt' : Option Value) (r r' : Int) (tr tr' : Tok) :
    (fun z => if z = Str.ofString "found" then some (.int r' tr') else if z = Str.ofString "turn" then vt' else lqM m0 vt r tr z) = lqM m0 vt' r' tr' := by
  funext z
  unfold lqM
  (repeat' split) <;> first | rfl | contradiction
inductive LqJ (x y : Int) (m0 : Str → Option Value) (keep : List (Addr × Obj)) : Nat → (Str → Option Value) → List (Addr × Obj) → Prop
  | mk {vt : Option Value} {r : Int} {tr : Tok} {i : Nat} (h1 : r = pwZ x y i) : LqJ x y m0 keep i (lqM m0 vt r tr) keep
theorem LqJ.next {x y : Int} {m0 : Str → Option Value} {keep : List (Addr × Obj)} {vt : Option Value} {r r' : Int} {tr' : Tok} {i : Nat} (h1 : r = pwZ x y i) (h2 : r' = (r * x).fmod y) : LqJ x y m0 keep (i + 1) (lqM m0 vt r' tr') keep :=
  .mk (by rw [pwZ_succ, ← h1]; exact h2)
theorem lq_loop {prog : Program} {w : World} {A : Around} {E : Value → Shared → Prop} {s : Shared} {env : Env} {h₀ : Heap} {v : Str} {body : List Stmt} {Q : Flow → Shared → Prop} {I : Addr} {a : Int} {n : Nat}
    {x y : Int} {m : Str → Option Value} {keep : List (Addr × Obj)} {vt : Option Value} {tr : Tok} (h1 : m (Str.ofString "found") = some (.int 1 tr)) (h3 : m (Str.ofString "turn") = vt)
    (step : ∀ i m1 news, i < n → LqJ x y m keep i m1 news → ∀ t h tk, Fr h₀ env.locals h (fun y => if y = v then some (.int (a + (i : Int)) t) else m1 y) → News h₀ env.locals h ((I, itR (a + ((i + 1 : Nat) : Int)) ((n : Int) - ((i + 1 : Nat) : Int))) :: news) →
      wpAny (model prog w) A (execs body env) (UnrPost h₀ env.locals { s with heap := h, toks := tk } I (itR (a + ((i + 1 : Nat) : Int)) ((n : Int) - ((i + 1 : Nat) : Int))) (LqJ x y m keep (i + 1)) Q) E { s with heap := h, toks := tk })
    (fin : ∀ m1 news, LqJ x y m keep n m1 news → ∀ h tk, Fr h₀ env.locals h m1 → News h₀ env.locals h news → Q .next { s with heap := h, toks := tk }) :
    RangeRest prog w A E h₀ env v body Q s I a n n 0 m keep := by
  refine range_ind (LqJ x y m keep) step fin n 0 _ _ (Nat.zero_add _) ?_
  have h : LqJ x y m keep 0 (lqM m vt 1 tr) keep := .mk (by rw [pwZ_zero])
  rw [← lqM_init h1 h3] at h
  exact h
local macro_rules | `(tactic| walk_at "MINE idmw") => `(tactic| walk_at "MINE h1")
local macro_rules | `(tactic| walk_at "exec For") => `(tactic| (k_here; (rename Fr _ _ _ _ => lF'); (with_unfolding_all refine' For_invVF lF' ?k1 ?k2 ?_; (case k1 | k2 => exact rfl); k_whole)))
section
local macro_rules | `(tactic| walk_at "call ref") => `(tactic| walk_at "MINE idmw")
local macro_rules | `(tactic| walk_at "MINE idm1") => `(tactic| (refine' (mul25 (y := 8) ?_ ?_ ?_ ?_ ?_).1 <;> omega))
local macro_rules | `(tactic| walk_at "MINE idm2") => `(tactic| (refine' (mul25 ?_ ?_ ?_ ?_ ?_).2 <;> omega))
local macro_rules | `(tactic| walk_at "pyIter ref") => `(tactic| ((with_reducible refine gd_it ?_); k_dflt (refine' iter_rangeUnr ?hh ?hr ?sm ?hn ?F ?N ?_; (case hh => exact rfl); (case hr => assumption); (case sm => exact small_one (by omega) (by omega) (by omega) (by omega)); (case hn => exact rangeSize_nat _ _); (case F => k_asm); (case N => k_asm)); intro _ lI9; (have oI9 := off_lt lI9)))
set_option rowWalk.seconds 0 in
theorem lq_ok (w : World) (p : Program) (loose : List Str) (mean : ExcName → Option Value) (mg mb : Str → Option Value)
  (gd : Option (List Code)) (cn : Str) (cs : Scope) (a : Addr) (ccd : Value) (cl : List (Str × Addr)) (outer : List Env) (A₀ : Around) (base h₀ : Heap) (L : Addr) (m : Str → Option Value) (s : Shared) (Q E : Value → Shared → Prop)
  (x n y : Int) (tx tn ty : Tok) (news wl : List (Addr × Obj)) :
  (Mine.hd.heap_39 w.params).In h₀ →
  Below A₀ base outer h₀ → CodeHd base 34 30 → CodeHd base 41 37 → Fr h₀ L s.heap m → News h₀ L s.heap news → Warm wl → (∀ p ∈ wl, p ∈ news) → Top p loose mean mg mb h₀ →
  cs.kind = .function → 0 ≤ x → x ≤ 25 → 0 ≤ n → n < 16 → 8 ≤ y → y ≤ 25 →
  (∀ v t h' tk', Fr h₀ L h' m → News h₀ L h' news → v = pwZ x y n.toNat → Q (.int v t) { s with heap := h', toks := tk' }) →
  wpAny (model Challenge.rw_hl0003_02.row.prog w) (ktrTop 380 960 gd cn cs L a ccd cl outer) (call (.ref 88) [.int x tx, .int n tn, .int y ty]) Q E s := by
  k_fill
  intro X B C1 C2 F N hw hs T hk hx hx2 hn hn2 hy hy2 hret
  refine wpAny_call ?_
  k_dflt cell_enter
  iterate 15 walk1
  k_dflt (refine' lq_loop (x := x) (y := y) ?zzh1 ?zzh3 ?zzstep ?zzfin; (case zzh1 => exact rfl); (case zzh3 => exact rfl))
  case zzstep =>
    intro i m1 news1 hi hJ t h tk F N
    cases hJ with
    | @mk vt r tr _ j1 =>
      obtain ⟨b1, b2⟩ := pwZ_bnd (x := x) (y := y) (by omega) i
      rw [← j1] at b1 b2
      k_steps
      refine' unrEnd_eqS ?zzF ?zzN (lqM_step _ _ _ _ _ _ _) ?zzS ?zzO (LqJ.next j1 ?zzq)
      case zzF => k_asm
      case zzN => k_asm
      case zzq => assumption
      case zzS => walk_at "MINE sub"
      case zzO => assumption
  case zzfin =>
    intro m1 news1 hJ h tk F N
    cases hJ with
    | @mk vt r tr _ j1 =>
      k_steps
      refine' hret _ _ _ _ ?zzF ?zzN ?zze
      case zzF => k_asm
      case zzN => walk_at "MINE drop"
      case zze => rw [j1, Int.sub_zero]
end
theorem lq_use {w : World} {p : Program} {loose : List Str} {mean : ExcName → Option Value} {mg mb : Str → Option Value}
  {dp un : Nat} {gd : Option (List Code)} {cn : Str} {cs : Scope} {a : Addr} {ccd : Value} {cl : List (Str × Addr)} {outer : List Env} {A₀ : Around} {base h₀ : Heap} {L : Addr} {m : Str → Option Value} {s : Shared} {Q E : Value → Shared → Prop}
  {x n y : Int} {tx tn ty : Tok} {news wl : List (Addr × Obj)} (hdp : dp ≤ 380) (hun : un ≤ 960)
  (X : (Mine.hd.heap_39 w.params).In h₀) (B : Below A₀ base outer h₀) (C1 : CodeHd base 34 30) (C2 : CodeHd base 41 37) (F : Fr h₀ L s.heap m) (N : News h₀ L s.heap news) (hw : Warm wl) (hs : ∀ p ∈ wl, p ∈ news) (T : Top p loose mean mg mb h₀)
  (hk : cs.kind = .function) (hx : 0 ≤ x) (hx2 : x ≤ 25) (hn : 0 ≤ n) (hn2 : n < 16) (hy : 8 ≤ y) (hy2 : y ≤ 25)
  (ret : ∀ v t h' tk', Fr h₀ L h' m → News h₀ L h' news → v = pwZ x y n.toNat → 0 ≤ v → v < y → Q (.int v t) { s with heap := h', toks := tk' }) :
  wpAny (model Challenge.rw_hl0003_02.row.prog w) (ktrTop dp un gd cn cs L a ccd cl outer) (call (.ref 88) [.int x tx, .int n tn, .int y ty]) Q E s :=
  wp_room (lq_ok w p loose mean mg mb gd cn cs a ccd cl outer A₀ base h₀ L m s Q E x n y tx tn ty news wl X B C1 C2 F N hw hs T hk hx hx2 hn hn2 hy hy2
    fun v t h' tk' F' N' e => ret v t h' tk' F' N' e (by rw [e]; exact (pwZ_bnd (by omega) _).1) (by rw [e]; exact (pwZ_bnd (by omega) _).2)) hdp hun
end
section
/-! _law_roots of law 2 -/
noncomputable def rtsR (a y : Int) : Nat → List Int
  | 0 => []
  | i + 1 => if (((y - 1 + (i : Int) * (-1)) * (y - 1 + (i : Int) * (-1)) - a).fmod y = 0) then insZ (rtsR a y i) (y - 1 + (i : Int) * (-1)) else rtsR a y i
@[irreducible] noncomputable def rts (a y : Int) (i : Nat) : List Int := rtsR a y i
theorem rts_zero (a y : Int) : rts a y 0 = [] := by unfold rts; rfl
theorem rts_succ (a y : Int) (i : Nat) : rts a y (i + 1) = if (((y - 1 + (i : Int) * (-1)) * (y - 1 + (i : Int) * (-1)) - a).fmod y = 0) then insZ (rts a y i) (y - 1 + (i : Int) * (-1)) else rts a y i := by unfold rts; rfl
theorem rts_len (a y : Int) : ∀ i, (rts a y i).length ≤ i
  | 0 => by rw [rts_zero]; exact Nat.le_refl _
  | i + 1 => by
    rw [rts_succ]
    have := rts_len a y i
    split
    · rw [insZ_len]; omega
    · omega
/-- the digits of what a root's square lacks -/
theorem rt_dig {r a y : Int} (r0 : 0 ≤ r) (r1 : r < y) (a0 : 0 ≤ a) (a1 : a ≤ 126) (y0 : 3 ≤ y) (y1 : y ≤ 125) :
    mag (r * r - a) < 2 ^ 20 ∧ ((Builtin.Int.intBits (mag (r * r - a)) : Int) + Builtin.Int.intBits y - 1).fdiv (Builtin.Int.intBits y) ≤ 4 := by
  have s0 : 0 ≤ r * r := Int.mul_nonneg r0 r0
  have s1 : r * r ≤ (y - 1) * (y - 1) := Int.mul_le_mul (by omega) (by omega) r0 (by omega)
  have s2 : (y - 1) * (y - 1) ≤ 124 * 124 := Int.mul_le_mul (by omega) (by omega) (by omega) (by decide)
  by_cases hx : r * r - a < 0
  · have e : mag (r * r - a) = -(r * r - a) - 1 := if_pos hx
    rw [e]
    refine ⟨by omega, dig4 (k := 7) (by omega) (by omega) ?_ (by omega)⟩
    have := bits_ge (y := y) (k := 1) (by omega)
    omega
  · have e : mag (r * r - a) = r * r - a := if_neg hx
    rw [e]
    have lb : y < 2 ^ Builtin.Int.intBits y := by
      have h := lt_bits y (by omega)
      have e : (2 : Int) ^ Builtin.Int.intBits y = ((2 ^ Builtin.Int.intBits y : Nat) : Int) := pow_cast _
      rw [e]
      omega
    have p0 : (0 : Int) < 2 ^ Builtin.Int.intBits y := Int.pow_pos (by decide)
    have lb2 : y * y < 2 ^ Builtin.Int.intBits y * 2 ^ Builtin.Int.intBits y := by
      have h1 : y * y ≤ y * 2 ^ Builtin.Int.intBits y := Int.mul_le_mul_of_nonneg_left (Int.le_of_lt lb) (by omega)
      have h2 : y * 2 ^ Builtin.Int.intBits y < 2 ^ Builtin.Int.intBits y * 2 ^ Builtin.Int.intBits y := Int.mul_lt_mul_of_pos_right lb p0
      omega
    have sy : (y - 1) * (y - 1) ≤ y * y := Int.mul_le_mul (by omega) (by omega) (by omega) (by omega)
    have pe : (2 : Int) ^ (2 * Builtin.Int.intBits y) = 2 ^ Builtin.Int.intBits y * 2 ^ Builtin.Int.intBits y := by rw [Nat.two_mul, Int.pow_add]
    refine ⟨by omega, dig4 (k := 2 * Builtin.Int.intBits y) (by omega) (by rw [pe]; omega) (by omega) (by omega)⟩
theorem code_ne_itD {h₀ h : Heap} {L c I : Addr} {news : List (Addr × Obj)} {oc : Obj} {cvs : Array Value} {q : Str} {t : Tok} {x l : Int} (N : News h₀ L h news) (hc : (c, oc) ∈ news) (hd : oc.data = .fields cvs) (hv : cvs[1]? = some (.str q t)) (hI : (I, itD x l) ∈ news) : c ≠ I := fun e => by
  subst e
  have e1 := (N _ hc).1
  rw [(N _ hI).1] at e1
  have e2 : itD x l = oc := Option.some.inj e1
  subst e2
  have e3 : #[rawInt x, rawInt l, rawInt (-1)] = cvs := Data.fields.inj hd
  subst e3
  simp [rawInt] at hv
noncomputable abbrev rtM (m0 : Str → Option Value) (v : Option Value) : Str → Option Value := fun z => if z = Str.ofString "root" then v else m0 z
theorem rtM_step (m0 : Str → Option Value) (v v' : Option Value) : (fun z => if z = Str.ofString "root" then v' else rtM m0 v z) = rtM m0 v' := by
  funext z
  unfold rtM
  (repeat' split) <;> first | rfl | contradiction
theorem rtM_init {m : Str → Option Value} : m = rtM m (m (Str.ofString "root")) := by
  funext z
  unfold rtM
  split
  · subst z; rfl
  · rfl
inductive RtJ (a y : Int) (o30 o37 : Obj) (l : Addr) (m0 : Str → Option Value) (keep : List (Addr × Obj)) : Nat → (Str → Option Value) → List (Addr × Obj) → Prop
  | z {v : Option Value} : RtJ a y o30 o37 l m0 keep 0 (rtM m0 v) ((l, listOf (List.toArray []) 0) :: (37, o37) :: (30, o30) :: keep)
  | w {v : Option Value} {i : Nat} {vs : List Value} {e : Nat} {c c7 : Addr} {oc oc7 : Obj} {cvs cvs7 : Array Value} {u u7 : Tok} (hi : 1 ≤ i) (h1 : oc.data = .fields cvs) (h2 : cvs[1]? = some (.str "_int2digits.<locals>.inner" u)) (h3 : oc7.data = .fields cvs7) (h4 : cvs7[1]? = some (.str "_digits2int.<locals>.inner" u7))
      (b : Born o30 32 4 c keep) (b7 : Born o37 47 4 c7 keep) (hI : IntsAre vs (rts a y i)) :
      RtJ a y o30 o37 l m0 keep i (rtM m0 v) ((l, listOf vs.toArray e) :: (c7, oc7) :: (37, T3 47 4 c7) :: (c, oc) :: (30, T3 32 4 c) :: keep)
theorem size_down {y : Int} (h0 : 1 ≤ y) (h1 : y ≤ 1000) : Builtin.Range.rangeSize (y - 1) (0 - 1) (-1) = ((y.toNat : Nat) : Int) := by
  unfold Builtin.Range.rangeSize
  rw [if_neg (by decide), if_pos (by omega), show (-(-1) : Int) = 1 from rfl, Int.ediv_one]
  omega
theorem fitsL {i : Int} (h0 : -1000 ≤ i) (h1 : i ≤ 1000) : Builtin.Range.rangeFitsLong i = true := by
  unfold Builtin.Range.rangeFitsLong
  rw [Bool.and_eq_true, decide_eq_true_eq, decide_eq_true_eq]
  omega
theorem small_down {y : Int} (h0 : 1 ≤ y) (h1 : y ≤ 1000) : Builtin.Range.small (y - 1) (0 - 1) (-1) = true := by
  unfold Builtin.Range.small
  rw [size_down h0 h1, fitsL (by omega) (by omega), fitsL (by omega) (by omega), fitsL (by omega) (by omega), fitsL (by omega) (by omega), if_neg (by decide), fitsL (by omega) (by omega)]
  simp

/-- the loop's word: the iterator lies above what was there, and the roots so far -/
structure RtI (l I : Addr) (keep : List (Addr × Obj)) : Prop where
  lI : @LT.lt Nat _ l I
  i37 : @LT.lt Nat _ 37 I
  kI : ∀ p ∈ keep, p.1 < I
noncomputable abbrev RtJJ (a y : Int) (o30 o37 : Obj) (l : Addr) (m0 : Str → Option Value) (keep : List (Addr × Obj)) (I : Addr) (i : Nat) (m : Str → Option Value) (n : List (Addr × Obj)) : Prop := RtI l I keep ∧ RtJ a y o30 o37 l m0 keep i m n
theorem RtJJ.start {a y : Int} {o30 o37 : Obj} {l : Addr} {m : Str → Option Value} {keep : List (Addr × Obj)} {I : Addr} (hI : ∀ p ∈ (l, listOf (List.toArray []) 0) :: (37, o37) :: (30, o30) :: keep, p.1 < I) :
    RtJJ a y o30 o37 l m keep I 0 m ((l, listOf (List.toArray []) 0) :: (37, o37) :: (30, o30) :: keep) := by
  refine ⟨⟨hI _ (.head _), hI (37, o37) (.tail _ (.head _)), fun p hp => hI p (.tail _ (.tail _ (.tail _ hp)))⟩, ?_⟩
  have h : RtJ a y o30 o37 l m keep 0 (rtM m (m (Str.ofString "root"))) ((l, listOf (List.toArray []) 0) :: (37, o37) :: (30, o30) :: keep) := .z
  rw [← rtM_init] at h
  exact h
theorem rt_root {y : Int} {i : Nat} (hy : 3 ≤ y) (hi : i < y.toNat) : 0 ≤ y - 1 + (i : Int) * (-1) ∧ y - 1 + (i : Int) * (-1) < y := by omega
theorem RtI.off {l I : Addr} {keep : List (Addr × Obj)} (h : RtI l I keep) : ∀ p ∈ keep, p.1 ≠ I := fun p hp => neN (Nat.ne_of_lt (h.kI p hp))
theorem warm4 {c c7 : Addr} {oc oc7 : Obj} {cvs cvs7 : Array Value} {u u7 : Tok} (h1 : oc.data = .fields cvs) (h2 : cvs[1]? = some (.str "_int2digits.<locals>.inner" u)) (h3 : oc7.data = .fields cvs7) (h4 : cvs7[1]? = some (.str "_digits2int.<locals>.inner" u7)) :
    Warm [(c7, oc7), (37, T3 47 4 c7), (c, oc), (30, T3 32 4 c)] :=
  ⟨c, oc, cvs, u, c7, oc7, cvs7, u7, by simp, by simp, h1, h2, by simp, by simp, h3, h4⟩
theorem idm_use {w : World} {p : Program} {loose : List Str} {mean : ExcName → Option Value} {mg mb : Str → Option Value}
  {dp un : Nat} {gd : Option (List Code)} {cn : Str} {cs : Scope} {a : Addr} {ccd : Value} {cl : List (Str × Addr)} {outer : List Env} {A₀ : Around} {base h₀ : Heap} {L : Addr} {m : Str → Option Value} {s : Shared} {Q E : Value → Shared → Prop}
  {x y : Int} {tx ty : Tok} {o30 o37 : Obj} {news k1 rest : List (Addr × Obj)} (hdp : dp ≤ 390) (hun : un ≤ 980)
  (X : (Mine.hd.heap_39 w.params).In h₀) (B : Below A₀ base outer h₀) (C1 : CodeHd base 34 30) (C2 : CodeHd base 41 37) (F : Fr h₀ L s.heap m) (N : News h₀ L s.heap news) (hm : (30, o30) ∈ news) (hm7 : (37, o37) ∈ news) (R : Rm 30 news k1) (R7 : Rm 37 k1 rest)
  (hst : o30 = tabObj #[] ∨ Hot 32 4 "_int2digits.<locals>.inner" o30 rest) (hst7 : o37 = tabObj #[] ∨ Hot 47 4 "_digits2int.<locals>.inner" o37 rest) (T : Top p loose mean mg mb h₀)
  (hk : cs.kind = .function) (hx2 : mag x < 2 ^ 20) (hy : 0 < y) (hy2 : y < 2 ^ 20) (hD : ((Builtin.Int.intBits (mag x) : Int) + Builtin.Int.intBits y - 1).fdiv (Builtin.Int.intBits y) ≤ 4)
  (ret : ∀ d q r t1 t2 c oc cvs t c7 oc7 cvs7 t7 h' tk', Fr h₀ L h' m → News h₀ L h' ((d, tup2 (.int q t1) (.int r t2)) :: (c7, oc7) :: (37, T3 47 4 c7) :: (c, oc) :: (30, T3 32 4 c) :: rest) →
    oc.data = .fields cvs → cvs[1]? = some (.str "_int2digits.<locals>.inner" t) → oc7.data = .fields cvs7 → cvs7[1]? = some (.str "_digits2int.<locals>.inner" t7) → (∀ p ∈ rest, p.1 < d) → @LT.lt Nat _ 37 d → c ≠ d → c7 ≠ d →
    Born o30 32 4 c rest → Born o37 47 4 c7 rest → q = x.fdiv y → r = x.fmod y → Q (.ref d) { s with heap := h', toks := tk' }) :
  wpAny (model Challenge.rw_hl0003_02.row.prog w) (ktrTop dp un gd cn cs L a ccd cl outer) (call (.ref 56) [.int x tx, .int y ty]) Q E s :=
  wp_room (idm_ok w p loose mean mg mb gd cn cs a ccd cl outer A₀ base h₀ L m s Q E x y tx ty o30 o37 rest X B C1 C2 F (fun q hq => by
      rcases List.mem_cons.mp hq with rfl | hq
      · exact N _ hm
      · rcases List.mem_cons.mp hq with rfl | hq
        · exact N _ hm7
        · exact N _ (R.ok.1 _ (R7.ok.1 _ hq))) (fun q hq => R.ok.2 _ (R7.ok.1 _ hq)) R7.ok.2 hst hst7 T hk hx2 hy hy2 hD ret) hdp hun
theorem rt_off {h₀ h : Heap} {L c l I : Addr} {news : List (Addr × Obj)} {oc : Obj} {cvs : Array Value} {q : Str} {t : Tok} {x y : Int} {vs : Array Value} {e : Nat} (N : News h₀ L h news) (hc : (c, oc) ∈ news) (hd : oc.data = .fields cvs) (hv : cvs[1]? = some (.str q t)) (hl : (l, listOf vs e) ∈ news) (hI : (I, itD x y) ∈ news) : c ≠ l ∧ c ≠ I :=
  ⟨code_ne_list N hc hd hl (fun _ h => nomatch h), code_ne_itD N hc hd hv hI⟩
theorem rts_yes {x y r : Int} {i : Nat} {vs : List Value} (h : IntsAre vs (insZ (rts x y i) (y - 1 + (i : Int) * (-1)))) (er : r = ((y - 1 + (i : Int) * (-1)) * (y - 1 + (i : Int) * (-1)) - x).fmod y) (e : r = 0) : IntsAre vs (rts x y (i + 1)) := by
  rw [rts_succ, if_pos (er ▸ e)]
  exact h
theorem rts_no {x y r : Int} {i : Nat} {vs : List Value} (h : IntsAre vs (rts x y i)) (er : r = ((y - 1 + (i : Int) * (-1)) * (y - 1 + (i : Int) * (-1)) - x).fmod y) (e : r ≠ 0) : IntsAre vs (rts x y (i + 1)) := by
  rw [rts_succ, if_neg (er ▸ e)]
  exact h
theorem off5 {I l c c7 : Addr} {o1 o2 o3 o4 o5 : Obj} {keep : List (Addr × Obj)} (h : RtI l I keep) (h2 : c7 ≠ I) (h3 : c ≠ I) : ∀ p ∈ (l, o1) :: (c7, o2) :: (37, o3) :: (c, o4) :: (30, o5) :: keep, p.1 ≠ I := fun p hp => by
  have h1 := h.lI
  have h37 := h.i37
  simp only [List.mem_cons] at hp
  rcases hp with rfl | rfl | rfl | rfl | rfl | hp
  · exact neN (by dsimp only; omega)
  · exact h2
  · exact neN (by dsimp only; omega)
  · exact h3
  · exact neN (by dsimp only; omega)
  · exact h.off p hp
theorem RtJ.fin {a y : Int} {o30 o37 : Obj} {l : Addr} {m0 : Str → Option Value} {keep : List (Addr × Obj)} {i : Nat} {m : Str → Option Value} {n : List (Addr × Obj)} (h : RtJ a y o30 o37 l m0 keep i m n) (hi : 1 ≤ i) :
    ∃ v vs e c c7 oc oc7 cvs cvs7 u u7, m = rtM m0 v ∧ n = (l, listOf (List.toArray vs) e) :: (c7, oc7) :: (37, T3 47 4 c7) :: (c, oc) :: (30, T3 32 4 c) :: keep ∧ oc.data = .fields cvs ∧ cvs[1]? = some (.str "_int2digits.<locals>.inner" u) ∧ oc7.data = .fields cvs7 ∧ cvs7[1]? = some (.str "_digits2int.<locals>.inner" u7) ∧
      Born o30 32 4 c keep ∧ Born o37 47 4 c7 keep ∧ IntsAre vs (rts a y i) := by
  cases h with
  | z => omega
  | w hi h1 h2 h3 h4 b b7 hI => exact ⟨_, _, _, _, _, _, _, _, _, _, _, rfl, rfl, h1, h2, h3, h4, b, b7, hI⟩
theorem warm5 {c c7 : Addr} {oc oc7 : Obj} {cvs cvs7 : Array Value} {u u7 : Tok} (keep : List (Addr × Obj)) (h1 : oc.data = .fields cvs) (h2 : cvs[1]? = some (.str "_int2digits.<locals>.inner" u)) (h3 : oc7.data = .fields cvs7) (h4 : cvs7[1]? = some (.str "_digits2int.<locals>.inner" u7)) :
    Warm ((c7, oc7) :: (37, T3 47 4 c7) :: (c, oc) :: (30, T3 32 4 c) :: keep) :=
  ⟨c, oc, cvs, u, c7, oc7, cvs7, u7, by simp, by simp, h1, h2, by simp, by simp, h3, h4⟩
end
section
local macro_rules | `(tactic| walk_at "exec For") => `(tactic| (k_here; (rename Fr _ _ _ _ => lF'); (with_unfolding_all refine' For_invVF lF' ?k1 ?k2 ?_; (case k1 | k2 => exact rfl); k_whole)))
local macro_rules | `(tactic| walk_at "MINE idmw") => `(tactic| walk_at "MINE h1")
local macro_rules | `(tactic| walk_at "MINE rm") => `(tactic| first | (refine' Rm.tl ?h; (case h => k_all)) | (refine' Rm.hit ?b; (case b => walk_at "MINE rm")) | (refine' Rm.miss ?a ?b; (case a => first | assumption | (refine neN ?_; (try dsimp only); first | done | omega) | exact code_ne (by assumption) (by k_mem) (by assumption) (by assumption) (by k_mem) (hotT (by assumption)) | exact code_ne (by assumption) (by k_mem) (by assumption) (by assumption) (by k_mem) (.inr ⟨_, _, _, rfl⟩)); (case b => walk_at "MINE rm")))
local macro_rules | `(tactic| walk_at "MINE hot") => `(tactic| first | (refine' hotUp ?h ?s; (case h => assumption); (case s => walk_at "MINE sub")) | (refine' Or.inr ⟨_, _, _, _, rfl, ?m, ?f1, ?f2⟩; (case f1 | f2 => assumption); (case m => k_mem)))
local macro_rules | `(tactic| walk_at "MINE insz") => `(tactic| (k_here; (with_reducible refine gd_f 65 ?_); k_dflt (apply inz_use; walk_at "MINE ca"; (case hl => k_mem); (case R => walk_at "MINE rm"); (case hP => assumption); (case hlen => omega); k_whole); intro _ _ _ _ _ _ _; (try dsimp only); (try k_fold)))
section
local macro_rules | `(tactic| walk_at "call ref") => `(tactic| (k_here; (with_reducible refine gd_f 56 ?_); walk_at "MINE idmw"))
local macro_rules | `(tactic| walk_at "call ref") => `(tactic| walk_at "MINE insz")
set_option rowWalk.seconds 0 in
theorem rt_ok (w : World) (p : Program) (loose : List Str) (mean : ExcName → Option Value) (mg mb : Str → Option Value)
  (gd : Option (List Code)) (cn : Str) (cs : Scope) (a : Addr) (ccd : Value) (cl : List (Str × Addr)) (outer : List Env) (A₀ : Around) (base h₀ : Heap) (L : Addr) (m : Str → Option Value) (s : Shared) (Q E : Value → Shared → Prop)
  (x y : Int) (tx ty : Tok) (o30 o37 : Obj) (keep : List (Addr × Obj)) :
  (Mine.hd.heap_39 w.params).In h₀ →
  Below A₀ base outer h₀ → CodeHd base 34 30 → CodeHd base 41 37 → Fr h₀ L s.heap m → News h₀ L s.heap ((37, o37) :: (30, o30) :: keep) → (∀ p ∈ keep, p.1 ≠ 30) → (∀ p ∈ keep, p.1 ≠ 37) →
  (o30 = tabObj #[] ∨ Hot 32 4 "_int2digits.<locals>.inner" o30 keep) → (o37 = tabObj #[] ∨ Hot 47 4 "_digits2int.<locals>.inner" o37 keep) → Top p loose mean mg mb h₀ → cs.kind = .function →
  0 ≤ x → x ≤ 126 → 3 ≤ y → y ≤ 125 →
  (∀ l vs e c oc cvs u c7 oc7 cvs7 u7 h' tk', Fr h₀ L h' m → News h₀ L h' ((l, listOf (List.toArray vs) e) :: (c7, oc7) :: (37, T3 47 4 c7) :: (c, oc) :: (30, T3 32 4 c) :: keep) → oc.data = .fields cvs → cvs[1]? = some (.str "_int2digits.<locals>.inner" u) →
    oc7.data = .fields cvs7 → cvs7[1]? = some (.str "_digits2int.<locals>.inner" u7) → Born o30 32 4 c keep → Born o37 47 4 c7 keep → (∀ p ∈ keep, p.1 < l) → @LT.lt Nat _ 37 l → c ≠ l → c7 ≠ l → IntsAre vs (rts x y y.toNat) → Q (.ref l) { s with heap := h', toks := tk' }) →
  wpAny (model Challenge.rw_hl0003_02.row.prog w) (ktrTop 370 940 gd cn cs L a ccd cl outer) (call (.ref 81) [.int x tx, .int y ty]) Q E s := by
  k_fill
  intro X B C1 C2 F N h30 h37 hst hst7 T hk hx hx2 hy hy2 hret
  refine wpAny_call ?_
  k_dflt cell_enter
  iterate 30 walk1
  rename News _ _ _ _ => N8
  rename IsRange _ _ _ _ _ _ _ _ => hr
  rename Fr _ _ _ _ => lF
  k_dflt (refine' iter_down (RtJJ x y o30 o37 _ _ keep) (by rfl) hr ?zzsm ?zzsz lF N8 (fun I hI => RtJJ.start hI) ?zzstep ?zzfin)
  case zzsm => exact small_down (by omega) (by omega)
  case zzsz => exact size_down (by omega) (by omega)
  case zzstep =>
    intro I i m1 news1 hi hJ t h tk F N
    obtain ⟨hI, hJ⟩ := hJ
    have hlI := hI.lI
    have hI37 := hI.i37
    have hIo := hI.off
    obtain ⟨r0, r1⟩ := rt_root hy hi
    obtain ⟨g1, g4⟩ := rt_dig r0 r1 hx hx2 hy hy2
    cases hJ with
    | z =>
      iterate 19 walk1
      refine' idm_use ?zzd1 ?zzd2 ?zzk3 ?zzk1 ?zzkc ?zzkc2 ?zzk2 ?zzk4 ?zzhm ?zzhm7 ?zzR ?zzR7 ?zzhst ?zzhst7 ?zzk5 ?zzkK ?zzg1 ?zzg2 ?zzg3 ?zzg4 ?zzzz
      (case zzd1 => exact Nat.le_of_ble_eq_true rfl); (case zzd2 => exact Nat.le_of_ble_eq_true rfl); (case zzk1 => k_asm); (case zzk2 => k_asm); (case zzk3 => k_asm); (case zzk4 => k_asm); (case zzk5 => k_asm); (case zzkc => assumption); (case zzkc2 => assumption); (case zzkK => exact rfl)
      case zzhm => k_mem
      case zzhm7 => k_mem
      case zzR => walk_at "MINE rm"
      case zzR7 => walk_at "MINE rm"
      case zzhst => walk_at "MINE hot"
      case zzhst7 => walk_at "MINE hot"
      case zzg1 => exact g1
      case zzg2 => omega
      case zzg3 => omega
      case zzg4 => exact g4
      case zzzz =>
        intro d9 q9 r9 t1 t2 c9 oc9 cv9 u9 c7 oc7 cv7 u7 h9 tk9 F9 N9 f1 f2 f3 f4 l1 l37 lc lc7 bo bo7 eq9 er9
        obtain ⟨n1, n2⟩ := rt_off N9 (by k_mem) f1 f2 (by k_mem) (by k_mem)
        obtain ⟨n3, n4⟩ := rt_off N9 (by k_mem) f3 f4 (by k_mem) (by k_mem)
        k_lt l1
        try k_lt2 l37
        try dsimp only
        try k_fold
        have hIs0 : IntsAre [] (rts x y 0) := by rw [rts_zero]; exact .nil
        have hrl := rts_len x y 0
        k_steps
        · rename IntsAre _ (insZ _ _) => P9
          refine' unrEnd_eqS ?zzF ?zzN (rtM_step _ _ _) ?zzS (off5 hI n4 n2) ⟨hI, RtJ.w (by omega) f1 f2 f3 f4 ?zzb ?zzb7 (rts_yes P9 er9 (by omega))⟩
          case zzF => k_asm
          case zzN => k_asm
          case zzS => walk_at "MINE sub"
          case zzb => exact Born.mono bo (by walk_at "MINE sub")
          case zzb7 => exact Born.mono bo7 (by walk_at "MINE sub")
        · refine' unrEnd_eqS ?zzF ?zzN (rtM_step _ _ _) ?zzS (off5 hI n4 n2) ⟨hI, RtJ.w (by omega) f1 f2 f3 f4 ?zzb ?zzb7 (rts_no hIs0 er9 (by omega))⟩
          case zzF => k_asm
          case zzN => k_asm
          case zzS => walk_at "MINE sub"
          case zzb => exact Born.mono bo (by walk_at "MINE sub")
          case zzb7 => exact Born.mono bo7 (by walk_at "MINE sub")
    | @w v _ vs e c c7 oc oc7 cvs cvs7 u u7 hi1 f1 f2 f3 f4 bo bo7 hIs =>
      obtain ⟨n1, n2⟩ := rt_off N (by k_mem) f1 f2 (.tail _ (.head _)) (.head _)
      obtain ⟨n3, n4⟩ := rt_off N (by k_mem) f3 f4 (.tail _ (.head _)) (.head _)
      have hw := warm5 (c := c) (c7 := c7) keep f1 f2 f3 f4
      have hrl := rts_len x y i
      k_steps
      · rename IntsAre _ (insZ _ _) => P9
        rename _ = Int.fmod _ _ => er9
        refine' unrEnd_eqS ?zzF ?zzN (rtM_step _ _ _) ?zzS (off5 hI n4 n2) ⟨hI, RtJ.w (by omega) f1 f2 f3 f4 bo bo7 (rts_yes P9 er9 (by omega))⟩
        case zzF => k_asm
        case zzN => k_asm
        case zzS => walk_at "MINE sub"
      · rename _ = Int.fmod _ _ => er9
        refine' unrEnd_eqS ?zzF ?zzN (rtM_step _ _ _) ?zzS (off5 hI n4 n2) ⟨hI, RtJ.w (by omega) f1 f2 f3 f4 bo bo7 (rts_no hIs er9 (by omega))⟩
        case zzF => k_asm
        case zzN => k_asm
        case zzS => walk_at "MINE sub"
  case zzfin =>
    intro I m1 news1 hJ h tk F N
    obtain ⟨hI, hJ⟩ := hJ
    obtain ⟨v, vs, e, c, c7, oc, oc7, cvs, cvs7, u, u7, rfl, rfl, f1, f2, f3, f4, bo, bo7, hIs⟩ := hJ.fin (by omega)
    have n1 := code_ne_list N (by k_mem) f1 (.head _) (fun _ h => nomatch h)
    have n3 := code_ne_list N (by k_mem) f3 (.head _) (fun _ h => nomatch h)
    k_steps
    refine' hret _ _ _ _ _ _ _ _ _ _ _ _ _ ?zzF ?zzN f1 f2 f3 f4 bo bo7 ?zzl ?zzl37 n1 n3 hIs
    case zzF => k_asm
    case zzN => walk_at "MINE drop"
    case zzl => exact ktn_ltOf (by tbn_find)
    case zzl37 => exact ltN (by omega)
end
end
section
theorem rt_use {w : World} {p : Program} {loose : List Str} {mean : ExcName → Option Value} {mg mb : Str → Option Value}
  {dp un : Nat} {gd : Option (List Code)} {cn : Str} {cs : Scope} {a : Addr} {ccd : Value} {cl : List (Str × Addr)} {outer : List Env} {A₀ : Around} {base h₀ : Heap} {L : Addr} {m : Str → Option Value} {s : Shared} {Q E : Value → Shared → Prop}
  {x y : Int} {tx ty : Tok} {o30 o37 : Obj} {news k1 keep : List (Addr × Obj)} (hdp : dp ≤ 370) (hun : un ≤ 940)
  (X : (Mine.hd.heap_39 w.params).In h₀) (B : Below A₀ base outer h₀) (C1 : CodeHd base 34 30) (C2 : CodeHd base 41 37) (F : Fr h₀ L s.heap m) (N : News h₀ L s.heap news) (hm : (30, o30) ∈ news) (hm7 : (37, o37) ∈ news) (R : Rm 30 news k1) (R7 : Rm 37 k1 keep)
  (hst : o30 = tabObj #[] ∨ Hot 32 4 "_int2digits.<locals>.inner" o30 keep) (hst7 : o37 = tabObj #[] ∨ Hot 47 4 "_digits2int.<locals>.inner" o37 keep) (T : Top p loose mean mg mb h₀)
  (hk : cs.kind = .function) (hx : 0 ≤ x) (hx2 : x ≤ 126) (hy : 3 ≤ y) (hy2 : y ≤ 125)
  (ret : ∀ l vs e c oc cvs u c7 oc7 cvs7 u7 h' tk', Fr h₀ L h' m → News h₀ L h' ((l, listOf (List.toArray vs) e) :: (c7, oc7) :: (37, T3 47 4 c7) :: (c, oc) :: (30, T3 32 4 c) :: keep) → oc.data = .fields cvs → cvs[1]? = some (.str "_int2digits.<locals>.inner" u) →
    oc7.data = .fields cvs7 → cvs7[1]? = some (.str "_digits2int.<locals>.inner" u7) → Born o30 32 4 c keep → Born o37 47 4 c7 keep → (∀ p ∈ keep, p.1 < l) → @LT.lt Nat _ 37 l → c ≠ l → c7 ≠ l → IntsAre vs (rts x y y.toNat) → Q (.ref l) { s with heap := h', toks := tk' }) :
  wpAny (model Challenge.rw_hl0003_02.row.prog w) (ktrTop dp un gd cn cs L a ccd cl outer) (call (.ref 81) [.int x tx, .int y ty]) Q E s :=
  wp_room (rt_ok w p loose mean mg mb gd cn cs a ccd cl outer A₀ base h₀ L m s Q E x y tx ty o30 o37 keep X B C1 C2 F (fun q hq => by
      rcases List.mem_cons.mp hq with rfl | hq
      · exact N _ hm7
      · rcases List.mem_cons.mp hq with rfl | hq
        · exact N _ hm
        · exact N _ (R.ok.1 _ (R7.ok.1 _ hq))) (fun q hq => R.ok.2 _ (R7.ok.1 _ hq)) R7.ok.2 hst hst7 T hk hx hx2 hy hy2 ret) hdp hun
theorem rt_warm {w : World} {p : Program} {loose : List Str} {mean : ExcName → Option Value} {mg mb : Str → Option Value}
  {dp un : Nat} {gd : Option (List Code)} {cn : Str} {cs : Scope} {a : Addr} {ccd : Value} {cl : List (Str × Addr)} {outer : List Env} {A₀ : Around} {base h₀ : Heap} {L : Addr} {m : Str → Option Value} {s : Shared} {Q E : Value → Shared → Prop}
  {x y : Int} {tx ty : Tok} {news wl : List (Addr × Obj)} (hdp : dp ≤ 370) (hun : un ≤ 940)
  (X : (Mine.hd.heap_39 w.params).In h₀) (B : Below A₀ base outer h₀) (C1 : CodeHd base 34 30) (C2 : CodeHd base 41 37) (F : Fr h₀ L s.heap m) (N : News h₀ L s.heap news) (hw : Warm wl) (hs : ∀ p ∈ wl, p ∈ news) (T : Top p loose mean mg mb h₀)
  (hk : cs.kind = .function) (hx : 0 ≤ x) (hx2 : x ≤ 126) (hy : 3 ≤ y) (hy2 : y ≤ 125)
  (ret : ∀ l vs e h' tk', Fr h₀ L h' m → News h₀ L h' ((l, listOf (List.toArray vs) e) :: news) → (∀ p ∈ news, p.1 < l) → IntsAre vs (rts x y y.toNat) → Q (.ref l) { s with heap := h', toks := tk' }) :
  wpAny (model Challenge.rw_hl0003_02.row.prog w) (ktrTop dp un gd cn cs L a ccd cl outer) (call (.ref 81) [.int x tx, .int y ty]) Q E s := by
  obtain ⟨c, oc, cvs, t, c7, oc7, cvs7, t7, a1, a2, a3, a4, b1, b2, b3, b4⟩ := hw.mono hs
  have c30 : c ≠ 30 := code_ne N a2 a3 a4 a1 (.inr ⟨_, _, _, rfl⟩)
  have c37 : c ≠ 37 := code_ne N a2 a3 a4 b1 (.inr ⟨_, _, _, rfl⟩)
  have d30 : c7 ≠ 30 := code_ne N b2 b3 b4 a1 (.inr ⟨_, _, _, rfl⟩)
  have d37 : c7 ≠ 37 := code_ne N b2 b3 b4 b1 (.inr ⟨_, _, _, rfl⟩)
  let keep := news.filter fun p => decide (p.1 ≠ 30 ∧ p.1 ≠ 37)
  have hkp : ∀ p, p ∈ keep ↔ p ∈ news ∧ p.1 ≠ 30 ∧ p.1 ≠ 37 := fun p => by simp [keep, List.mem_filter]
  refine wp_room (rt_ok w p loose mean mg mb gd cn cs a ccd cl outer A₀ base h₀ L m s Q E x y tx ty (T3 32 4 c) (T3 47 4 c7) keep X B C1 C2 F (fun q hq => ?_) (fun q hq => ((hkp q).mp hq).2.1) (fun q hq => ((hkp q).mp hq).2.2)
    (.inr ⟨c, oc, cvs, t, rfl, (hkp _).mpr ⟨a2, c30, c37⟩, a3, a4⟩) (.inr ⟨c7, oc7, cvs7, t7, rfl, (hkp _).mpr ⟨b2, d30, d37⟩, b3, b4⟩) T hk hx hx2 hy hy2
    fun l vs e c' oc' cvs' t' c7' oc7' cvs7' t7' h' tk' F' N' _ _ _ _ e1 e7 l1 l37 _ _ hI => ?_) hdp hun
  · rcases List.mem_cons.mp hq with rfl | hq
    · exact N _ b1
    · rcases List.mem_cons.mp hq with rfl | hq
      · exact N _ a1
      · exact N _ ((hkp q).mp hq).1
  · obtain rfl := e1.1 c rfl
    obtain rfl := e7.1 c7 rfl
    have h30 : ∀ q ∈ news, q.1 = 30 → q = (30, T3 32 4 c') := fun q hq e => by
      obtain ⟨q1, q2⟩ := q
      subst e
      rw [news_fn N hq a1]
    have h37 : ∀ q ∈ news, q.1 = 37 → q = (37, T3 47 4 c7') := fun q hq e => by
      obtain ⟨q1, q2⟩ := q
      subst e
      rw [news_fn N hq b1]
    refine ret l vs e h' tk' F' (fun q hq => ?_) (fun q hq => ?_) hI
    · rcases List.mem_cons.mp hq with rfl | hq
      · exact N' _ (.head _)
      · by_cases e : q.1 = 30
        · rw [h30 q hq e]; exact N' _ (by simp)
        · by_cases e' : q.1 = 37
          · rw [h37 q hq e']; exact N' _ (by simp)
          · exact N' _ (by simp only [List.mem_cons]; exact .inr (.inr (.inr (.inr (.inr ((hkp q).mpr ⟨hq, e, e'⟩))))))
    · by_cases e : q.1 = 30
      · rw [e]; exact Nat.lt_trans (by decide : 30 < 37) l37
      · by_cases e' : q.1 = 37
        · rw [e']; exact l37
        · exact l1 q ((hkp q).mpr ⟨hq, e, e'⟩)
end
section
/-! a comprehension of two clauses over lists of the ledger of which no pair passes -/
section
variable {prog : Program} {w : World} {A : Around} {E : Value → Shared → Prop} {s : Shared} {h₀ : Heap} {L : Addr} {m : Str → Option Value} {env : Env} {R : Result → Shared → Prop}
theorem compTurn_two0 (elt t1 i1 t2 i2 c : PySem.Expr) (scope : Scope) (pos : Pos) (it acc : Value) (env : Env) :
    compTurn (.ListComp elt [⟨t1, i1, [], 0⟩, ⟨t2, i2, [c], 0⟩] scope pos) 0 it acc env = (standAt i1.pos >>= fun _ => pyNext it >>= fun r => match r with
      | none => pure (.done .next)
      | some v => letOwnedTupleGo t1 it v >>= fun _ => assign t1 env v >>= fun _ =>
        (eval i2 env >>= fun x => standAt i2.pos >>= fun _ => foldedSetIterable i2 env x >>= fun x => holding [x] (pyIter x) >>= fun j => runOwn (.compStart (.ListComp elt [⟨t1, i1, [], 0⟩, ⟨t2, i2, [c], 0⟩] scope pos) 1 j acc env) env >>= fun _ =>
          again (.compLoop (.ListComp elt [⟨t1, i1, [], 0⟩, ⟨t2, i2, [c], 0⟩] scope pos) 0 it acc env))) := by rfl
theorem compTurn_two1 (elt t1 i1 t2 i2 c : PySem.Expr) (scope : Scope) (pos : Pos) (it acc : Value) (env : Env) :
    compTurn (.ListComp elt [⟨t1, i1, [], 0⟩, ⟨t2, i2, [c], 0⟩] scope pos) 1 it acc env = (do
      standAt i2.pos
      match ← pyNext it with
      | none => pure (.done .next)
      | some v =>
        letOwnedTupleGo t2 it v
        assign t2 env v
        let mut ok := true
        for c in [c] do
          if ok then ok ← isTrue c env (eval c env)
        if ok then
          (do let _ ← call (.builtin "list.append") [acc, ← eval elt env])
        again (.compLoop (.ListComp elt [⟨t1, i1, [], 0⟩, ⟨t2, i2, [c], 0⟩] scope pos) 1 it acc env)) := by rfl
theorem compStart_two1 {elt t1 i1 t2 i2 c : PySem.Expr} {scope : Scope} {pos : Pos} {it acc : Value} {env : Env}
    (h0 : codeAny (model prog w) A (.compLoop (.ListComp elt [⟨t1, i1, [], 0⟩, ⟨t2, i2, [c], 0⟩] scope pos) 1 it acc env) R s)
    (h : wpAny (model prog w) A (pyIter it) (fun j s' => codeAny (model prog w) A (.compLoop (.ListComp elt [⟨t1, i1, [], 0⟩, ⟨t2, i2, [c], 0⟩] scope pos) 1 j acc env) R s')
      (notedBy (model prog w) A env fun x s' => R (.error x) s') s) :
    codeAny (model prog w) A (.compStart (.ListComp elt [⟨t1, i1, [], 0⟩, ⟨t2, i2, [c], 0⟩] scope pos) 1 it acc env) R s := by
  refine codeAny_of_tree ?_
  show wpAny _ _ ((compStart (.ListComp elt [⟨t1, i1, [], 0⟩, ⟨t2, i2, [c], 0⟩] scope pos) 1 it acc env).onRaise (fun x => do noteFrame x env; standAt theWindowsPlace)) _ _ s
  refine wpAny_notedAt ?_
  unfold compStart
  show wpAny _ _ (ask >>= _) _ _ s
  refine wpAny_bind (wpAny_askSetting (wpAny_ite ?_))
  split
  · exact wpAny_pure ⟨rfl, h0⟩
  · refine wpAny_bind (wpAny_rule ?_)
    show wpAny _ _ (standAt i2.pos >>= _) _ _ s
    exact wpAny_bind (wpAny_standAt (wpAny_bind (wpAny_mono h (fun j s' h' => wpAny_pure ⟨rfl, h'⟩) fun _ _ x => x)))
/-- the inner turns -/
theorem two_inner {elt i1 i2 c : PySem.Expr} {x y : Str} {px py : Pos} {scope : Scope} {cl : List (Str × Addr)} {pos : Pos} {vs : List Value} {ax I J C D : Addr} {oI : Obj} {n : Nat} {news : List (Addr × Obj)} {v : Value} {oL : Obj}
    (hh : A.handled = none) (hm : (ax, oL) ∈ news) (hoc : oL.cls = .type "list") (hod : oL.data = .seq vs.toArray n)
    (hkind : scope.kind = .function) (hx : scope.names.lookup x = some .local) (hy : scope.names.lookup y = some .local) (hxy : ¬ x = y)
    (turn : ∀ v' oJ oC m₂ h tk (E' : Value → Shared → Prop), v' ∈ vs → LCg.NsObj oC m₂ → m₂ x = some v → m₂ y = some v' → Fr h₀ L h m → News h₀ L h ((J, oJ) :: (I, oI) :: (C, oC) :: (D, LCg.lst []) :: news) →
      wpAny (model prog w) A (isTrue c (compEnvC scope cl C env) (eval c (compEnvC scope cl C env))) (fun ok s' => ok = false ∧ ∃ h' tk', s' = { s with heap := h', toks := tk' } ∧ Fr h₀ L h' m ∧ News h₀ L h' ((J, oJ) :: (I, oI) :: (C, oC) :: (D, LCg.lst []) :: news)) E' { s with heap := h, toks := tk })
    (hJ₀ : h₀.get? J = none) (hC₀ : h₀.get? C = none) (hJL : L ≠ J) (hCL : C ≠ L) (hJC : C ≠ J) (hJax : ax ≠ J) (offJ : ∀ p ∈ (I, oI) :: (D, LCg.lst []) :: news, p.1 ≠ J) (offC : ∀ p ∈ (I, oI) :: (D, LCg.lst []) :: news, p.1 ≠ C) 
    (fin : ∀ h tk m₂, Fr h₀ L h m → h.Ns C m₂ → m₂ x = some v → News h₀ L h ((I, oI) :: (D, LCg.lst []) :: news) → R (.ok .next) { s with heap := h, toks := tk }) :
    ∀ h tk m₂, Fr h₀ L h m → h.Ns C m₂ → m₂ x = some v → News h₀ L h ((I, oI) :: (D, LCg.lst []) :: news) → h.IsListIter J ax 0 →
      codeAny (model prog w) A (.compLoop (.ListComp elt [⟨.Name x px, i1, [], 0⟩, ⟨.Name y py, i2, [c], 0⟩] scope pos) 1 (.ref J) (.ref D) (compEnvC scope cl C env)) R { s with heap := h, toks := tk } := by
  intro h tk m₂ F hn hv N hit
  have W := Walks.list (prog := prog) (w := w) hh J ax hJax vs.toArray
  rw [List.size_toArray] at W
  refine codeAny_loop rfl (fun k s' => ∃ h' tk i m₂, s' = { s with heap := h', toks := tk } ∧ i ≤ vs.length ∧ k = vs.length + 1 - i ∧ h'.IsListIter J ax i ∧ Fr h₀ L h' m ∧ h'.Ns C m₂ ∧ m₂ x = some v ∧ News h₀ L h' ((I, oI) :: (D, LCg.lst []) :: news)) ?_ (vs.length + 1)
    ⟨h, tk, 0, m₂, rfl, Nat.zero_le _, rfl, hit, F, hn, hv, N⟩
  rintro k s' ⟨h', tk', i, m', rfl, hi, rfl, hst, F', hn', hv', N'⟩
  have hL' : h'.IsList ax vs.toArray := ⟨oL, (N' _ (.tail _ (.tail _ hm))).1, hoc, n, hod⟩
  show wpAny _ A ((compTurn (.ListComp elt [⟨.Name x px, i1, [], 0⟩, ⟨.Name y py, i2, [c], 0⟩] scope pos) 1 (.ref J) (.ref D) (compEnvC scope cl C env)).onRaise (fun x => do noteFrame x (compEnvC scope cl C env); theTreesLotGoes x)) _ _ _
  refine wpAny_noted ?_
  rw [compTurn_two1]
  refine wpAny_bind (wpAny_standAt (wpAny_bind ?_))
  by_cases hlt : i < vs.length
  · refine W.item i _ _ _ hlt ⟨hst, hL'⟩ fun v' h₂ tk₂ hPv hst₂ hk₂ => ?_
    have hk3 : ∀ b o, b ≠ J → h'.get? b = some o → h₂.get? b = some o := fun b o e => hk₂ b o (by simpa using e)
    have hvm : v' ∈ vs := by
      rw [List.getElem?_toArray] at hPv
      exact List.mem_of_getElem? hPv
    show wpAny _ _ (letOwnedTupleGo (.Name y py) (.ref J) v' >>= _) _ _ _
    refine wpAny_bind (wpAny_of_eq (by rfl) ?_)
    refine wpAny_bind (wpAny_assign_Name (wpAny_storeName_local (lookup_relabel_local hy) (hn'.at' fun o e => hk3 _ o hJC e) (fun h₃ hn₃ hs₃ => ?_) (by simp [compEnvC, relabel, hkind])))
    obtain ⟨oC, gC, nC⟩ := LCg.ns_obj hn₃
    obtain ⟨it, git, _⟩ := id hst₂.1
    have F₃ : Fr h₀ L h₃ m := (LCg.fr_but F' hk₂ hJL hJ₀).change hs₃ hCL hC₀
    have N₃ : News h₀ L h₃ ((J, it) :: (I, oI) :: (C, oC) :: (D, LCg.lst []) :: news) := fun p hp => by
      have up : ∀ p ∈ (I, oI) :: (D, LCg.lst []) :: news, h₃.get? p.1 = some p.2 ∧ p.1 ≠ L ∧ h₀.get? p.1 = none := fun p hp =>
        ⟨hs₃.extBut _ _ (offC p hp) (hk3 _ _ (offJ p hp) (N' p hp).1), (N' p hp).2⟩
      rcases List.mem_cons.mp hp with rfl | hp
      · exact ⟨hs₃.extBut _ _ (Ne.symm hJC) git, Ne.symm hJL, hJ₀⟩
      · rcases List.mem_cons.mp hp with rfl | hp
        · exact up _ (.head _)
        · rcases List.mem_cons.mp hp with rfl | hp
          · exact ⟨gC, hCL, hC₀⟩
          · exact up _ (.tail _ hp)
    refine wpAny_bind (wpAny_tests_one (wpAny_mono (turn v' it oC _ h₃ _ _ hvm nC (by simp [hxy, hv']) (by simp) F₃ N₃) (fun ok s₄ h₄ => ?_) fun _ _ e => e))
    obtain ⟨rfl, h4, tk4, rfl, F4, N4⟩ := h₄
    refine wpAny_pure ⟨rfl, vs.length + 1 - (i + 1), by omega, h4, tk4, i + 1, _, rfl, hlt, rfl, ?_, F4, nC.ns (N4 (C, oC) (.tail _ (.tail _ (.head _)))).1, (by simp [hxy, hv']), fun p hp => ?_⟩
    · obtain ⟨it', g', c', d'⟩ := hst₂.1
      rw [git] at g'
      cases g'
      exact ⟨it, (N4 _ (.head _)).1, c', d'⟩
    · rcases List.mem_cons.mp hp with rfl | hp
      · exact N4 _ (.tail _ (.head _))
      · exact N4 _ (.tail _ (.tail _ (.tail _ hp)))
  · obtain rfl : i = vs.length := Nat.le_antisymm hi (Nat.not_lt.mp hlt)
    refine W.done _ _ _ ⟨hst, hL'⟩ fun h₂ tk₂ hk₂ => ?_
    have hk3 : ∀ b o, b ≠ J → h'.get? b = some o → h₂.get? b = some o := fun b o e => hk₂ b o (by simpa using e)
    refine wpAny_pure (fin h₂ _ m' (LCg.fr_but F' hk₂ hJL hJ₀) (hn'.at' fun o e => hk3 _ o hJC e) hv' fun p hp => ⟨hk3 _ _ (offJ p hp) (N' p hp).1, (N' p hp).2⟩)
end
end
section
/-- a comprehension by what holds ahead of its turn -/
theorem comp_ind {prog : Program} {w : World} {A : Around} {h₀ : Heap} {L : Addr} {m : Str → Option Value} {env : Env} {elt : PySem.Expr} {x : Str} {scope : Scope} {cl : List (Str × Addr)} {s : Shared} {S : List (Addr × Obj) → Prop} {P : Nat → Value → Prop} {Fin : List Value → List (Addr × Obj) → Prop}
    {n : Nat} (J : Nat → List Value → List (Addr × Obj) → Prop)
    (step : ∀ i ys news, i < n → J i ys news → ∀ v I oI C oC D m₂ h tk (E' : Value → Shared → Prop), P i v → LCg.NsObj oC m₂ → m₂ x = some v → Fr h₀ L h m → News h₀ L h ((I, oI) :: (C, oC) :: (D, LCg.lst ys) :: news) → LCg.Off3 I C D news → ((@Ne Nat I C) ∧ (@Ne Nat I D) ∧ (@Ne Nat C D)) →
      wpAny (model prog w) A (eval elt (compEnvC scope cl C env)) (LCg.CompEnd h₀ L m { s with heap := h, toks := tk } I oI C oC D (LCg.lst ys) S (fun y news' => J (i + 1) (ys ++ [y]) news')) E' { s with heap := h, toks := tk })
    (fin : ∀ ys news, J n ys news → Fin ys news) :
    ∀ k i ys news, i + k = n → J i ys news → LCg.CompRest prog w A h₀ L m env elt x scope cl s S P Fin k i ys news
  | 0, i, ys, news, hi, hJ => LCg.CompRest.zero (fin ys news (by rw [← hi]; exact hJ))
  | k + 1, i, ys, news, hi, hJ => LCg.CompRest.succ fun v I oI C oC D m₂ h tk E' hP hN hx F N off ne => by
    refine wpAny_mono (step i ys news (by omega) hJ v I oI C oC D m₂ h tk E' hP hN hx F N off ne) (fun y s₂ q => ?_) fun _ _ e => e
    obtain ⟨h', tk', news', e, F', N', o', S', j⟩ := q
    exact ⟨h', tk', news', e, F', N', o', S', comp_ind J step fin k (i + 1) (ys ++ [y]) news' (by omega) j⟩
theorem off3_all {I C D : Addr} {news : List (Addr × Obj)} (h : LCg.Off3 I C D news) (x : Addr) (hx : x ∈ news.map (·.1)) : x ≠ I ∧ x ≠ C ∧ x ≠ D := by
  obtain ⟨p, hp, rfl⟩ := List.mem_map.mp hx
  exact h.mem p hp
theorem off1_all {D : Addr} : ∀ {l : List (Addr × Obj)}, LCg.Off1 D l → ∀ p ∈ l, p.1 ≠ D
  | [], _, _, h => nomatch h
  | _ :: _, x, p, h => by
    rcases List.mem_cons.mp h with rfl | h
    · exact x.1
    · exact off1_all x.2 p h
theorem cell_off {h₀ h : Heap} {L : Addr} {news wl : List (Addr × Obj)} {a : Addr} {o : Obj} {v : Option Value} (N : News h₀ L h news) (hm : (a, o) ∈ news) (hd : o.data = .cell v) (hs : ∀ q ∈ wl, q ∈ news) (hf : ∀ q ∈ wl, ∃ vs, q.2.data = .fields vs) : ∀ q ∈ wl, q.1 ≠ a := fun q hq e => by
  obtain ⟨vs, hv⟩ := hf q hq
  have e1 := (N _ (hs q hq)).1
  rw [e, (N _ hm).1] at e1
  have e2 : o = q.2 := Option.some.inj e1
  rw [← e2, hd] at hv
  cases hv
theorem news_drop1 {h₀ h : Heap} {L : Addr} {a : Addr × Obj} {r : List (Addr × Obj)} (N : News h₀ L h (a :: r)) : News h₀ L h r := fun p hp => N p (.tail _ hp)
theorem grown_of {h₀ h : Heap} {L : Addr} {news wl : List (Addr × Obj)} (N : News h₀ L h news) (hw : Warm wl) (hs : ∀ p ∈ wl, p ∈ news) : GrownAll [(41, 37), (34, 30)] h :=
  let ⟨_, _, _, _, _, _, _, _, a1, _, _, _, b1, _, _, _⟩ := hw
  ⟨⟨_, (N _ (hs _ b1)).1⟩, ⟨_, (N _ (hs _ a1)).1⟩, trivial⟩
theorem law_post (ns : List Int) : PySem.Challenge.rw_hl0003_02.row.claim.post [ofPy (PyData.list (List.map PyData.int ns))] (WData.bool true) [ofPy (PyData.list (List.map PyData.int ns))] = true := by
  wrow_post
end
section
/-! sorted of a dict's keys -/
section
variable {prog : Program} {w : World} {A : Around} {E : Value → Shared → Prop} {s : Shared} {h₀ : Heap} {L : Addr} {m : Str → Option Value} {news : List (Addr × Obj)}
theorem sorted_dictK {d : Addr} {o : Obj} {kvs : List (Int × Value)} {ks : List Int} {Q : Value → Shared → Prop} (hh : A.handled = none) (F : Fr h₀ L s.heap m) (N : News h₀ L s.heap news) (hm : (d, o) ∈ news) (lo : (d == sysModules) = false) (hd : o.IsDictOf (intKind prog w) kvs) (hk : DK kvs ks) (hsz : ks.length < 64)
    (h : ∀ D vs ns c h' tk, Fr h₀ L h' m → News h₀ L h' ((D, listOf (List.toArray vs) c) :: news) → (∀ q ∈ news, q.1 < D) → IntsAre vs ns → ns.Perm (keysOf ks) → Q (.ref D) { s with heap := h', toks := tk }) :
    wpAny (model prog w) A (call (.builtin "sorted") [.ref d]) Q E s := by
  have hD : s.heap.DictOf (intKind prog w) d kvs := Heap.dictOf_iff.mpr ⟨o, (N _ hm).1, hd⟩
  obtain ⟨ep, hat⟩ := hD.dictAt
  have hke := hk.eq
  have hkl : kvs.length = (keysOf ks).length := by rw [← hke, List.length_map]
  have hle := keysOf_le ks
  refine kdu_sorted (kdl_dict (knd := intKind prog w) (kvs := kvs) (ep := ep) lo) hh F N hat (by rw [sizeLine_eq]; omega) fun B h' tk vs F' N' l1 hl hv => ?_
  have hI : IntsAre vs (keysOf ks) := kdy_ints (by rw [hl, hkl]) fun j v hj => by
    obtain ⟨k, x, hx, hik⟩ := hv j v hj
    obtain ⟨t, rfl⟩ := Value.isInt_shape hik
    refine ⟨k, ?_, t, rfl⟩
    rw [← hke, List.getElem?_map, hx]
    rfl
  refine ksk_lsort (its := vs.toArray) F' N' (fun o => Upd.head fun q hq => neN (Nat.ne_of_lt (l1 q hq))) (by simp) hI (by omega) fun vs' ns' c h2 F2 N2 i2 _ p2 _ _ => ?_
  exact h B vs' ns' c h2 tk F2 N2 l1 i2 p2
end
/-! the facts of numbers -/
noncomputable def sqsR (p : Int) : Nat → List Int
  | 0 => []
  | n + 1 => sqsR p n ++ [((1 + (n : Int)) * (1 + (n : Int))).fmod p]
@[irreducible] noncomputable def sqs (p : Int) (n : Nat) : List Int := sqsR p n
theorem sqs_zero (p : Int) : sqs p 0 = [] := by unfold sqs; rfl
theorem sqs_succ (p : Int) (n : Nat) : sqs p (n + 1) = sqs p n ++ [((1 + (n : Int)) * (1 + (n : Int))).fmod p] := by unfold sqs; rfl
theorem sqs_len (p : Int) : ∀ n, (sqs p n).length = n
  | 0 => by rw [sqs_zero]; rfl
  | n + 1 => by rw [sqs_succ, List.length_append, sqs_len p n]; rfl
/-- the roots by the k-th power -/
@[irreducible] noncomputable def rk (p x : Int) (k : Nat) : List Int := rts x (p ^ k) (p ^ k).toNat
@[irreducible] noncomputable def othF (p r one : Int) : Bool := decide ((2 * r * one).fmod p = 1)
@[irreducible] noncomputable def oth (p r : Int) : Int := (filt (othF p r) 0 p.toNat).headD 0
@[irreducible] noncomputable def aft (p x : Int) (k : Nat) (r : Int) : Int := r + p ^ k * (((x - r * r).fdiv (p ^ k) * oth p r).fmod p)
noncomputable def digOk (a y : Int) : Bool := decide (mag a < 2 ^ 20) && decide (((Builtin.Int.intBits (mag a) : Int) + Builtin.Int.intBits y - 1).fdiv (Builtin.Int.intBits y) ≤ 4)
noncomputable def sortedB : List Int → Bool
  | [] => true
  | [_] => true
  | a :: b :: r => decide (a ≤ b) && sortedB (b :: r)
noncomputable def rootOk (p x : Int) (k : Nat) (r : Int) : Bool :=
  decide (0 ≤ r) && decide (r < p ^ k) && decide ((x - r * r).fmod (p ^ k) = 0) && decide (filt (othF p r) 0 p.toNat ≠ []) && digOk (x - r * r) (p ^ k) && digOk ((x - r * r).fdiv (p ^ k) * oth p r) p &&
    decide (-1000 ≤ (x - r * r).fdiv (p ^ k)) && decide ((x - r * r).fdiv (p ^ k) ≤ 1000) && decide (0 ≤ oth p r) && decide (oth p r ≤ 10) &&
    decide (biz (rk p x (k + 1)) (aft p x k r) < (rk p x (k + 1)).length) && decide ((rk p x (k + 1)).getD (biz (rk p x (k + 1)) (aft p x k r)) 0 = aft p x k r)
noncomputable def levOk (p x : Int) (k : Nat) : Bool :=
  (rk p x k).all (rootOk p x k) && sortedB (rk p x (k + 1)) && (decide ((rk p x (k + 1)).length ≠ 2) || decide ((rk p x (k + 1)).sum = p ^ (k + 1)))
noncomputable def numOk (p x : Int) : Bool :=
  (decide (rk p x 1 ≠ []) == decide (x.fmod p ∈ keysOf (sqs p (p - 1).toNat))) && decide ((rk p x 2).length = (rk p x 1).length) && decide ((rk p x 3).length = (rk p x 1).length) && decide ((rk p x 1).length ≤ 2) && levOk p x 1 && levOk p x 2
noncomputable def allOk (p : Int) : Nat → Bool
  | 0 => true
  | n + 1 => (decide (((n : Int) + 1).fmod p = 0) || numOk p ((n : Int) + 1)) && allOk p n
set_option maxRecDepth 1000000 in
theorem all3 : allOk 3 124 = true := by decide +kernel
set_option maxRecDepth 1000000 in
theorem all5 : allOk 5 124 = true := by decide +kernel
end
section
/-! a loop over a list of the ledger whose target is stored by the walk -/
section
variable {prog : Program} {w : World} {A : Around} {E : Value → Shared → Prop} {s : Shared} {h₀ : Heap} {env : Env} {Q : Flow → Shared → Prop}
noncomputable def ForSrc (prog : Program) (w : World) (A : Around) (h₀ : Heap) (env : Env) (x : Str) (body : List Stmt) (Q : Flow → Shared → Prop) (E : Value → Shared → Prop) (xv : Value) (s : Shared) : Prop :=
  ∃ (ax : Addr) (lo : Obj) (vs : List Value) (n : Nat) (m : Str → Option Value) (news : List (Addr × Obj)) (J : Addr → List Value → (Str → Option Value) → List (Addr × Obj) → Prop),
    xv = .ref ax ∧ A.handled = none ∧ Fr h₀ env.locals s.heap m ∧ News h₀ env.locals s.heap news ∧ (ax, lo) ∈ news ∧ lo.cls = .type "list" ∧ lo.data = .seq vs.toArray n ∧ (∀ I : Addr, (∀ p ∈ news, p.1 < I) → J I vs m news) ∧
    (∀ (I : Addr) (v : Value) (r : List Value) (m₁ : Str → Option Value) (news₁ : List (Addr × Obj)), J I (v :: r) m₁ news₁ → (ax, lo) ∈ news₁ → (∀ p ∈ news₁, p.1 ≠ I) → ∀ (it : Obj) (h : Heap) (tk : Nat), it.cls = .type "list_iterator" → Fr h₀ env.locals h m₁ → News h₀ env.locals h ((I, it) :: news₁) →
      wpAny (model prog w) A (storeName env x v) (fun _ s' => wpAny (model prog w) A (execs body env) (UnrPost h₀ env.locals { s with heap := h, toks := tk } I it (fun m' n' => (ax, lo) ∈ n' ∧ J I r m' n') Q) E s') E { s with heap := h, toks := tk }) ∧
    (∀ (I : Addr) (m₁ : Str → Option Value) (news₁ : List (Addr × Obj)), J I [] m₁ news₁ → ∀ (h : Heap) (tk : Nat), Fr h₀ env.locals h m₁ → News h₀ env.locals h news₁ → Q .next { s with heap := h, toks := tk })
theorem ForSrc.intro {x : Str} {body : List Stmt} {ax : Addr} {vs : List Value} {n : Nat} {m : Str → Option Value} {news : List (Addr × Obj)} (J : Addr → List Value → (Str → Option Value) → List (Addr × Obj) → Prop)
    (hh : A.handled = none) (F : Fr h₀ env.locals s.heap m) (N : News h₀ env.locals s.heap news) (hm : (ax, listOf vs.toArray n) ∈ news) (init : ∀ I : Addr, (∀ p ∈ news, p.1 < I) → J I vs m news)
    (step : ∀ (I : Addr) (v : Value) (r : List Value) (m₁ : Str → Option Value) (news₁ : List (Addr × Obj)), J I (v :: r) m₁ news₁ → (ax, listOf vs.toArray n) ∈ news₁ → (∀ p ∈ news₁, p.1 ≠ I) → ∀ (it : Obj) (h : Heap) (tk : Nat), it.cls = .type "list_iterator" → Fr h₀ env.locals h m₁ → News h₀ env.locals h ((I, it) :: news₁) →
      wpAny (model prog w) A (storeName env x v) (fun _ s' => wpAny (model prog w) A (execs body env) (UnrPost h₀ env.locals { s with heap := h, toks := tk } I it (fun m' n' => (ax, listOf vs.toArray n) ∈ n' ∧ J I r m' n') Q) E s') E { s with heap := h, toks := tk })
    (fin : ∀ (I : Addr) (m₁ : Str → Option Value) (news₁ : List (Addr × Obj)), J I [] m₁ news₁ → ∀ (h : Heap) (tk : Nat), Fr h₀ env.locals h m₁ → News h₀ env.locals h news₁ → Q .next { s with heap := h, toks := tk }) :
    ForSrc prog w A h₀ env x body Q E (.ref ax) s :=
  ⟨ax, _, vs, n, m, news, J, rfl, hh, F, N, hm, rfl, rfl, init, step, fin⟩
theorem For_tgt {x : Str} {px pos : Pos} {iter : PySem.Expr} {body : List Stmt} {m0 : Str → Option Value} (_F : Fr h₀ env.locals s.heap m0) (h : wpAny (model prog w) A (eval iter env) (ForSrc prog w A h₀ env x body Q E) E s)
    (hs : ∀ x, foldedSetIterable iter env x = pure x := by intro _; rfl) (hE : PassesOwn (model prog w) A env E := by passes_own) :
    wpAny (model prog w) A (exec (.For (.Name x px) iter body [] pos) env) Q E s := by
  refine wpAny_For (wpAny_mono h (fun xv s₁ h₁ => ?_) fun _ _ e => e) hs
  obtain ⟨ax, lo, vs, n, m, news, J, rfl, hh, F, N, hm, hc, hd, init, step, fin⟩ := h₁
  have hax := N _ hm
  have hl : s₁.heap.IsList ax vs.toArray := ⟨lo, hax.1, hc, n, hd⟩
  have hne : ax ≠ s₁.heap.objs.size := Nat.ne_of_lt (Heap.lt_size hax.1)
  refine wpAny_pyIter_list hl ?_
  have W := Walks.list (prog := prog) (w := w) hh s₁.heap.objs.size ax hne vs.toArray
  rw [List.size_toArray] at W
  have hI₀ : h₀.get? s₁.heap.objs.size = none := next_is_new F
  have hIL : env.locals ≠ s₁.heap.objs.size := Nat.ne_of_lt F.ns.lt
  refine codeAny_forLoop_any
    (fun k s' => ∃ h' tk i m' news', s' = { s₁ with heap := h', toks := tk } ∧ h'.IsListIter s₁.heap.objs.size ax i ∧ Fr h₀ env.locals h' m' ∧ News h₀ env.locals h' news' ∧ (∀ p ∈ news', p.1 ≠ s₁.heap.objs.size) ∧ (ax, lo) ∈ news' ∧ J s₁.heap.objs.size (vs.drop i) m' news' ∧ i ≤ vs.length ∧ k = vs.length + 1 - i) ?_ (vs.length + 1)
    ⟨_, _, 0, m, news, rfl, ⟨_, Heap.get?_push_size _ rfl, rfl, rfl⟩, F.push _, (fun p hp => ⟨Heap.get?_push_of_some _ (N p hp).1, (N p hp).2⟩), (fun p hp => Nat.ne_of_lt (Heap.lt_size (N p hp).1)), hm, (by rw [List.drop_zero]; exact init _ fun p hp => Heap.lt_size (N p hp).1), Nat.zero_le _, rfl⟩
  rintro k s' ⟨h', tk, i, m', news', rfl, hst, F', N', off, hm', hJ, hi, rfl⟩
  have hL' : h'.IsList ax vs.toArray := ⟨lo, (N' _ hm').1, hc, n, hd⟩
  have next : ∀ h₂ : Heap, (∀ b o, b ∉ [s₁.heap.objs.size] → h'.get? b = some o → h₂.get? b = some o) → Fr h₀ env.locals h₂ m' ∧ News h₀ env.locals h₂ news' := fun h₂ hk => ⟨LCg.fr_but F' hk hIL hI₀, LCg.news_but N' hk off⟩
  by_cases hlt : i < vs.length
  · refine W.item i _ _ _ hlt ⟨hst, hL'⟩ fun v h₂ tk₂ hP hst₂ hk₂ => ?_
    obtain ⟨F₂, N₂⟩ := next h₂ hk₂
    obtain ⟨it, git, cit, dit⟩ := id hst₂.1
    have hdrop : vs.drop i = v :: vs.drop (i + 1) := by
      have hv : vs[i]? = some v := by simpa using hP
      rw [List.drop_eq_getElem_cons hlt]
      congr 1
      exact Option.some.inj ((List.getElem?_eq_getElem hlt).symm.trans hv)
    rw [hdrop] at hJ
    refine wpAny_of_eq (by rfl) ?_
    refine wpAny_assign_Name (wpAny_passesOwn hE (wpAny_mono (step _ v _ m' news' hJ hm' off it h₂ _ cit F₂ (fun p hp => by
      rcases List.mem_cons.mp hp with rfl | hp
      · exact ⟨git, Ne.symm hIL, hI₀⟩
      · exact N₂ p hp)) (fun _ s₂ q => wpAny_passesOwn hE (wpAny_mono q (fun f s₃ p => ?_) fun _ _ e => e)) fun _ _ e => e))
    have conv : UnrEnd h₀ env.locals { s₁ with heap := h₂, toks := tk₂ } s₁.heap.objs.size it (fun m' n' => (ax, lo) ∈ n' ∧ J s₁.heap.objs.size (vs.drop (i + 1)) m' n') s₃ → ∃ k, k < vs.length + 1 - i ∧ ∃ h' tk i m' news', s₃ = { s₁ with heap := h', toks := tk } ∧ h'.IsListIter s₁.heap.objs.size ax i ∧ Fr h₀ env.locals h' m' ∧ News h₀ env.locals h' news' ∧ (∀ p ∈ news', p.1 ≠ s₁.heap.objs.size) ∧ (ax, lo) ∈ news' ∧ J s₁.heap.objs.size (vs.drop i) m' news' ∧ i ≤ vs.length ∧ k = vs.length + 1 - i := by
      rintro ⟨h3, tk3, m3, n3, e, F3, N3, ho, hm3, hJ3⟩
      exact ⟨vs.length + 1 - (i + 1), by omega, h3, tk3, i + 1, m3, n3, e, ⟨it, (N3 _ (.head _)).1, cit, dit⟩, F3, fun p hp => N3 p (.tail _ hp), ho, hm3, hJ3, hlt, rfl⟩
    cases f with
    | ret v => exact p
    | brk => exact p
    | next => exact conv p
    | cont => exact conv p
  · obtain rfl : i = vs.length := Nat.le_antisymm hi (Nat.not_lt.mp hlt)
    refine W.done _ _ _ ⟨hst, hL'⟩ fun h₂ tk₂ hk₂ => wpAny_execs_nil ?_
    obtain ⟨F₂, N₂⟩ := next h₂ hk₂
    rw [List.drop_length] at hJ
    exact fin _ m' news' hJ h₂ _ F₂ N₂
end
end
section
/-! a comprehension of two clauses over one list of the ledger of which no pair passes -/
section
variable {prog : Program} {w : World} {A : Around} {E : Value → Shared → Prop} {s : Shared} {h₀ : Heap} {L : Addr} {m : Str → Option Value} {env : Env}
noncomputable def TwoSrc (prog : Program) (w : World) (A : Around) (h₀ : Heap) (L : Addr) (m : Str → Option Value) (env : Env) (i2 c : PySem.Expr) (x y : Str) (scope : Scope) (cl : List (Str × Addr)) (Q : Value → Shared → Prop) (xv : Value) (s : Shared) : Prop :=
  ∃ (ax : Addr) (vs : List Value) (n : Nat) (news : List (Addr × Obj)), xv = .ref ax ∧ A.handled = none ∧ Fr h₀ L s.heap m ∧ News h₀ L s.heap news ∧ (ax, listOf vs.toArray n) ∈ news ∧
    (∀ (v : Value) (I : Addr) (oI : Obj) (C : Addr) (oC : Obj) (D : Addr) (m₂ : Str → Option Value) (h : Heap) (tk : Nat) (E' : Value → Shared → Prop), v ∈ vs → LCg.NsObj oC m₂ → m₂ x = some v → Fr h₀ L h m → News h₀ L h ((I, oI) :: (C, oC) :: (D, LCg.lst []) :: news) →
      wpAny (model prog w) A (eval i2 (compEnvC scope cl C env)) (fun r s' => r = .ref ax ∧ ∃ h' tk', s' = { s with heap := h', toks := tk' } ∧ Fr h₀ L h' m ∧ News h₀ L h' ((I, oI) :: (C, oC) :: (D, LCg.lst []) :: news)) E' { s with heap := h, toks := tk }) ∧
    (∀ (v v' : Value) (I : Addr) (oI : Obj) (J : Addr) (oJ : Obj) (C : Addr) (oC : Obj) (D : Addr) (m₂ : Str → Option Value) (h : Heap) (tk : Nat) (E' : Value → Shared → Prop), v ∈ vs → v' ∈ vs → LCg.NsObj oC m₂ → m₂ x = some v → m₂ y = some v' → Fr h₀ L h m → News h₀ L h ((J, oJ) :: (I, oI) :: (C, oC) :: (D, LCg.lst []) :: news) →
      wpAny (model prog w) A (isTrue c (compEnvC scope cl C env) (eval c (compEnvC scope cl C env))) (fun ok s' => ok = false ∧ ∃ h' tk', s' = { s with heap := h', toks := tk' } ∧ Fr h₀ L h' m ∧ News h₀ L h' ((J, oJ) :: (I, oI) :: (C, oC) :: (D, LCg.lst []) :: news)) E' { s with heap := h, toks := tk }) ∧
    (∀ (D : Addr) (h : Heap) (tk : Nat), Fr h₀ L h m → News h₀ L h ((D, LCg.lst []) :: news) → LCg.Off1 D news → Q (.ref D) { s with heap := h, toks := tk })
theorem two_outer {elt i1 i2 c : PySem.Expr} {x y : Str} {px py : Pos} {scope : Scope} {cl : List (Str × Addr)} {pos : Pos} {vs : List Value} {ax I C D : Addr} {n : Nat} {news : List (Addr × Obj)} {oL : Obj} {R : Result → Shared → Prop}
    (hh : A.handled = none) (hm : (ax, oL) ∈ news) (hoc : oL.cls = .type "list") (hod : oL.data = .seq vs.toArray n)
    (hkind : scope.kind = .function) (hx : scope.names.lookup x = some .local) (hy : scope.names.lookup y = some .local) (hxy : ¬ x = y) (hs2 : ∀ e z, foldedSetIterable i2 e z = pure z)
    (turn1 : ∀ (v : Value) (oI : Obj) (oC : Obj) (m₂ : Str → Option Value) (h : Heap) (tk : Nat) (E' : Value → Shared → Prop), v ∈ vs → LCg.NsObj oC m₂ → m₂ x = some v → Fr h₀ L h m → News h₀ L h ((I, oI) :: (C, oC) :: (D, LCg.lst []) :: news) →
      wpAny (model prog w) A (eval i2 (compEnvC scope cl C env)) (fun r s' => r = .ref ax ∧ ∃ h' tk', s' = { s with heap := h', toks := tk' } ∧ Fr h₀ L h' m ∧ News h₀ L h' ((I, oI) :: (C, oC) :: (D, LCg.lst []) :: news)) E' { s with heap := h, toks := tk })
    (turn2 : ∀ (v v' : Value) (oI : Obj) (J : Addr) (oJ : Obj) (oC : Obj) (m₂ : Str → Option Value) (h : Heap) (tk : Nat) (E' : Value → Shared → Prop), v ∈ vs → v' ∈ vs → LCg.NsObj oC m₂ → m₂ x = some v → m₂ y = some v' → Fr h₀ L h m → News h₀ L h ((J, oJ) :: (I, oI) :: (C, oC) :: (D, LCg.lst []) :: news) →
      wpAny (model prog w) A (isTrue c (compEnvC scope cl C env) (eval c (compEnvC scope cl C env))) (fun ok s' => ok = false ∧ ∃ h' tk', s' = { s with heap := h', toks := tk' } ∧ Fr h₀ L h' m ∧ News h₀ L h' ((J, oJ) :: (I, oI) :: (C, oC) :: (D, LCg.lst []) :: news)) E' { s with heap := h, toks := tk })
    (hI₀ : h₀.get? I = none) (hC₀ : h₀.get? C = none) (hIL : L ≠ I) (hCL : C ≠ L) (hCI : C ≠ I) (hIax : ax ≠ I) (offI : ∀ p ∈ (D, LCg.lst []) :: news, p.1 ≠ I) (offC : ∀ p ∈ (D, LCg.lst []) :: news, p.1 ≠ C)
    (fin : ∀ h tk m₂, Fr h₀ L h m → h.Ns C m₂ → News h₀ L h ((D, LCg.lst []) :: news) → R (.ok .next) { s with heap := h, toks := tk }) :
    ∀ h tk m₂, Fr h₀ L h m → h.Ns C m₂ → News h₀ L h ((D, LCg.lst []) :: news) → h.IsListIter I ax 0 →
      codeAny (model prog w) A (.compLoop (.ListComp elt [⟨.Name x px, i1, [], 0⟩, ⟨.Name y py, i2, [c], 0⟩] scope pos) 0 (.ref I) (.ref D) (compEnvC scope cl C env)) R { s with heap := h, toks := tk } := by
  intro h tk m₂ F hn N hit
  have W := Walks.list (prog := prog) (w := w) hh I ax hIax vs.toArray
  rw [List.size_toArray] at W
  refine codeAny_loop rfl (fun k s' => ∃ h' tk i m₂, s' = { s with heap := h', toks := tk } ∧ i ≤ vs.length ∧ k = vs.length + 1 - i ∧ h'.IsListIter I ax i ∧ Fr h₀ L h' m ∧ h'.Ns C m₂ ∧ News h₀ L h' ((D, LCg.lst []) :: news)) ?_ (vs.length + 1)
    ⟨h, tk, 0, m₂, rfl, Nat.zero_le _, rfl, hit, F, hn, N⟩
  rintro k s' ⟨h', tk', i, m', rfl, hi, rfl, hst, F', hn', N'⟩
  have hL' : h'.IsList ax vs.toArray := ⟨oL, (N' _ (.tail _ hm)).1, hoc, n, hod⟩
  show wpAny _ A ((compTurn (.ListComp elt [⟨.Name x px, i1, [], 0⟩, ⟨.Name y py, i2, [c], 0⟩] scope pos) 0 (.ref I) (.ref D) (compEnvC scope cl C env)).onRaise (fun x => do noteFrame x (compEnvC scope cl C env); theTreesLotGoes x)) _ _ _
  refine wpAny_noted ?_
  rw [compTurn_two0]
  refine wpAny_bind (wpAny_standAt (wpAny_bind ?_))
  by_cases hlt : i < vs.length
  · refine W.item i _ _ _ hlt ⟨hst, hL'⟩ fun v h₂ tk₂ hPv hst₂ hk₂ => ?_
    have hk3 : ∀ b o, b ≠ I → h'.get? b = some o → h₂.get? b = some o := fun b o e => hk₂ b o (by simpa using e)
    have hvm : v ∈ vs := by
      rw [List.getElem?_toArray] at hPv
      exact List.mem_of_getElem? hPv
    show wpAny _ _ (letOwnedTupleGo (.Name x px) (.ref I) v >>= _) _ _ _
    refine wpAny_bind (wpAny_of_eq (by rfl) ?_)
    refine wpAny_bind (wpAny_assign_Name (wpAny_storeName_local (lookup_relabel_local hx) (hn'.at' fun o e => hk3 _ o hCI e) (fun h₃ hn₃ hs₃ => ?_) (by simp [compEnvC, relabel, hkind])))
    obtain ⟨oC, gC, nC⟩ := LCg.ns_obj hn₃
    obtain ⟨it, git, cit, dit⟩ := id hst₂.1
    have F₃ : Fr h₀ L h₃ m := (LCg.fr_but F' hk₂ hIL hI₀).change hs₃ hCL hC₀
    have N₃ : News h₀ L h₃ ((I, it) :: (C, oC) :: (D, LCg.lst []) :: news) := fun p hp => by
      have up : ∀ p ∈ (D, LCg.lst []) :: news, h₃.get? p.1 = some p.2 ∧ p.1 ≠ L ∧ h₀.get? p.1 = none := fun p hp =>
        ⟨hs₃.extBut _ _ (offC p hp) (hk3 _ _ (offI p hp) (N' p hp).1), (N' p hp).2⟩
      rcases List.mem_cons.mp hp with rfl | hp
      · exact ⟨hs₃.extBut _ _ (Ne.symm hCI) git, Ne.symm hIL, hI₀⟩
      · rcases List.mem_cons.mp hp with rfl | hp
        · exact ⟨gC, hCL, hC₀⟩
        · exact up _ hp
    refine wpAny_bind (wpAny_mono (turn1 v it oC _ h₃ _ _ hvm nC (by simp) F₃ N₃) (fun r s₄ h₄ => ?_) fun _ _ e => e)
    obtain ⟨rfl, h4, tk4, rfl, F4, N4⟩ := h₄
    have hL4 : h4.IsList ax vs.toArray := ⟨oL, (N4 _ (.tail _ (.tail _ (.tail _ hm)))).1, hoc, n, hod⟩
    refine wpAny_bind (wpAny_standAt (wpAny_bind (wpAny_of_eq (hs2 _ _) (wpAny_bind (wpAny_holding (wpAny_pyIter_list hL4 ?_))))))
    refine wpAny_bind (wpAny_runOwn ?_)
    have fJ : h₀.get? h4.objs.size = none := next_is_new F4
    have lJ : ∀ p ∈ (I, it) :: (C, oC) :: (D, LCg.lst []) :: news, @LT.lt Nat _ p.1 h4.objs.size := fun p hp => Heap.lt_size (N4 p hp).1
    have up4 : ∀ b o, h4.get? b = some o → (h4.push { cls := .type "list_iterator", data := .fields #[.ref ax, .int 0 0] }).get? b = some o := fun b o e => Heap.get?_push_of_some _ e
    have key := two_inner (prog := prog) (w := w) (A := A) (s := s) (elt := elt) (i1 := i1) (i2 := i2) (c := c) (x := x) (y := y) (px := px) (py := py) (pos := pos) (I := I) (J := h4.objs.size) (C := C) (D := D) (oI := it) (v := v)
      (R := fun r s' => match r with
        | .ok f => wpAny (model prog w) A (again (.compLoop (.ListComp elt [⟨.Name x px, i1, [], 0⟩, ⟨.Name y py, i2, [c], 0⟩] scope pos) 0 (.ref I) (.ref D) (compEnvC scope cl C env))) (fun fin s' => match fin with
            | .done f => R (.ok f) s'
            | .again c' => c' = .compLoop (.ListComp elt [⟨.Name x px, i1, [], 0⟩, ⟨.Name y py, i2, [c], 0⟩] scope pos) 0 (.ref I) (.ref D) (compEnvC scope cl C env) ∧ ∃ k, k < vs.length + 1 - i ∧ ∃ h' tk i m₂, s' = { s with heap := h', toks := tk } ∧ i ≤ vs.length ∧ k = vs.length + 1 - i ∧ h'.IsListIter I ax i ∧ Fr h₀ L h' m ∧ h'.Ns C m₂ ∧ News h₀ L h' ((D, LCg.lst []) :: news))
            (notedBy (model prog w) A (compEnvC scope cl C env) fun e s' => R (.error e) s') s'
        | .error e => cameBackBy (model prog w) A (compEnvC scope cl C env) (notedBy (model prog w) A (compEnvC scope cl C env) fun e s' => R (.error e) s') e s')
      hh hm hoc hod hkind hx hy hxy (fun v' oJ oC' m₃ h tk E' hv' nC' e1 e2 F N => turn2 v v' it h4.objs.size oJ oC' m₃ h tk E' hvm hv' nC' e1 e2 F N) fJ hC₀ (Nat.ne_of_lt F4.ns.lt) hCL (neN (Nat.ne_of_lt (lJ (C, oC) (.tail _ (.head _))))) (neN (Nat.ne_of_lt (lJ (ax, oL) (.tail _ (.tail _ (.tail _ hm))))))
      (fun p hp => neN (Nat.ne_of_lt (lJ p (by rcases List.mem_cons.mp hp with rfl | hp; exact .head _; exact .tail _ (.tail _ hp))))) (fun p hp => by
        rcases List.mem_cons.mp hp with rfl | hp
        · exact Ne.symm hCI
        · exact offC p hp)
      (fun h tk m₃ F hn e N => by
        refine wpAny_pure ⟨rfl, vs.length + 1 - (i + 1), by omega, h, tk, i + 1, m₃, rfl, hlt, rfl, ⟨it, (N _ (.head _)).1, cit, dit⟩, F, hn, fun p hp => N p (.tail _ hp)⟩)
    have k2 := fun tk => key (h4.push { cls := .type "list_iterator", data := .fields #[.ref ax, .int 0 0] }) tk _ (F4.push _) ((nC.ns (N4 (C, oC) (.tail _ (.head _))).1).at' fun o e => up4 _ o e) (by simp) (fun p hp => by
      have z := N4 p (by rcases List.mem_cons.mp hp with rfl | hp; exact .head _; exact .tail _ (.tail _ hp))
      exact ⟨up4 _ _ z.1, z.2⟩) ⟨_, Heap.get?_push_size _ rfl, rfl, rfl⟩
    refine compStart_two1 ?_ ?_
    · exact k2 _
    · exact wpAny_pyIter_listiter (i := 0) ⟨_, Heap.get?_push_size _ rfl, rfl, rfl⟩ (k2 _)
  · obtain rfl : i = vs.length := Nat.le_antisymm hi (Nat.not_lt.mp hlt)
    refine W.done _ _ _ ⟨hst, hL'⟩ fun h₂ tk₂ hk₂ => ?_
    have hk3 : ∀ b o, b ≠ I → h'.get? b = some o → h₂.get? b = some o := fun b o e => hk₂ b o (by simpa using e)
    refine wpAny_pure (fin h₂ _ m' (LCg.fr_but F' hk₂ hIL hI₀) (hn'.at' fun o e => hk3 _ o hCI e) fun p hp => ⟨hk3 _ _ (offI p hp) (N' p hp).1, (N' p hp).2⟩)
theorem ListComp_two {elt i1 i2 c : PySem.Expr} {x y : Str} {px py : Pos} {scope : Scope} {cl : List (Str × Addr)} {pos : Pos} {Q : Value → Shared → Prop} (_F₀ : Fr h₀ L s.heap m)
    (hclos : closureFor scope env = pure cl) (hcell : ∀ y ∈ scope.names, y.2 ≠ .cell) (hkind : scope.kind = .function)
    (hnames : ∀ y ∈ scope.names, y.2 = .local → scope.names.lookup y.1 = some .local) (hx : scope.names.lookup x = some .local) (hy : scope.names.lookup y = some .local) (hxy : ¬ x = y)
    (h : wpAny (model prog w) A (eval i1 env) (TwoSrc prog w A h₀ L m env i2 c x y scope cl Q) E s)
    (hs : ∀ x, foldedSetIterable i1 env x = pure x := by intro _; rfl) (hs2 : ∀ e z, foldedSetIterable i2 e z = pure z := by intro _ _; rfl) :
    wpAny (model prog w) A (eval (.ListComp elt [⟨.Name x px, i1, [], 0⟩, ⟨.Name y py, i2, [c], 0⟩] scope pos) env) Q E s := by
  rw [eval_ListComp]
  refine wpAny_comprehension_free (use := none) rfl hs hclos hkind hnames (wpAny_mono h (fun xv s₁ h₁ => ?_) fun _ _ e => e)
  obtain ⟨ax, vs, n, news, rfl, hh, F, N, hm, turn1, turn2, fin⟩ := h₁
  have hl : s₁.heap.IsList ax vs.toArray := ⟨_, (N _ hm).1, rfl, n, rfl⟩
  refine wpAny_pyIter_list hl ?_
  refine wpAny_newObj_type (wpAny_newFunctionEnv hcell (by intro y hy; simp at hy) (fun h₁ hns₁ hsb₁ => ?_) hkind)
  dsimp only at hns₁ hsb₁ ⊢
  generalize hH1 : s₁.heap.push { cls := .type "list_iterator", data := .fields #[.ref ax, .int 0 0] } = H1 at hns₁ hsb₁ ⊢
  have hI : H1.objs.size = s₁.heap.objs.size + 1 := by rw [← hH1, Heap.size_push]
  generalize hH2 : H1.push { cls := .type "list", dict := none, data := .seq ([] : List Value).toArray } = H2 at hns₁ hsb₁ ⊢
  have hC : H2.objs.size = s₁.heap.objs.size + 1 + 1 := by rw [← hH2, Heap.size_push, hI]
  have below : ∀ b, b < s₁.heap.objs.size → b ≠ H2.objs.size ∧ b ≠ H1.objs.size ∧ b ≠ s₁.heap.objs.size := fun b hb => by
    rw [hC, hI]
    exact ⟨neN (by omega), neN (by omega), neN (by omega)⟩
  have old : ∀ b o, s₁.heap.get? b = some o → h₁.get? b = some o := fun b o e => hsb₁.extBut b o (below b (Heap.lt_size e)).1 (Heap.get?_push_of_some _ (hH2 ▸ Heap.get?_push_of_some _ (hH1 ▸ Heap.get?_push_of_some _ e)))
  have hDC : H1.objs.size ≠ H2.objs.size := by rw [hC, hI]; exact neN (by omega)
  have hIC : s₁.heap.objs.size ≠ H2.objs.size := by rw [hC]; exact neN (by omega)
  have hDI : H1.objs.size ≠ s₁.heap.objs.size := by rw [hI]; exact neN (by omega)
  have hacc : h₁.get? H1.objs.size = some (LCg.lst []) := hsb₁.extBut _ _ hDC (Heap.get?_push_of_some _ (hH2 ▸ Heap.get?_push_size _ rfl))
  have hit : h₁.IsListIter s₁.heap.objs.size ax 0 := ⟨_, hsb₁.extBut _ _ hIC (Heap.get?_push_of_some _ (hH2 ▸ Heap.get?_push_of_some _ (hH1 ▸ Heap.get?_push_size _ rfl))), rfl, rfl⟩
  have fresh₀ : ∀ a, s₁.heap.objs.size ≤ a → h₀.get? a = none := fun a ha => by
    cases e : h₀.get? a with
    | none => rfl
    | some o' => exact absurd (Heap.lt_size (F.keep a o' e)) (Nat.not_lt.mpr ha)
  have hI₀ : h₀.get? s₁.heap.objs.size = none := fresh₀ _ (Nat.le_refl _)
  have hD₀ : h₀.get? H1.objs.size = none := fresh₀ _ (by rw [hI]; exact Nat.le_succ _)
  have hC₀ : h₀.get? H2.objs.size = none := fresh₀ _ (by rw [hC]; omega)
  have hLlt : L < s₁.heap.objs.size := F.ns.lt
  have hCL : H2.objs.size ≠ L := Ne.symm (below L hLlt).1
  have hDL : H1.objs.size ≠ L := Ne.symm (below L hLlt).2.1
  have offn : ∀ p ∈ news, p.1 ≠ H2.objs.size ∧ p.1 ≠ H1.objs.size ∧ p.1 ≠ s₁.heap.objs.size := fun p hp => below _ (Heap.lt_size (N p hp).1)
  have o1 : LCg.Off1 H1.objs.size news := by
    have : ∀ l : List (Addr × Obj), (∀ p ∈ l, p.1 ≠ H1.objs.size) → LCg.Off1 H1.objs.size l := by
      intro l
      induction l with
      | nil => intro _; trivial
      | cons p r ih => exact fun h => ⟨h p (.head _), ih fun q hq => h q (.tail _ hq)⟩
    exact this news fun p hp => (offn p hp).2.1
  have Nb : News h₀ L h₁ ((H1.objs.size, LCg.lst []) :: news) := fun p hp => by
    rcases List.mem_cons.mp hp with rfl | hp
    · exact ⟨hacc, hDL, hD₀⟩
    · exact ⟨old _ _ (N p hp).1, (N p hp).2⟩
  have loop := fun tk => two_outer (prog := prog) (w := w) (A := A) (s := s₁) (elt := elt) (i1 := i1) (px := px) (py := py) (pos := pos) (I := s₁.heap.objs.size) (C := H2.objs.size) (D := H1.objs.size) (R := compPost (model prog w) A E none Q (.ref H1.objs.size) H2.objs.size)
    hh hm rfl rfl hkind hx hy hxy hs2 (fun v oI oC m₂ h tk E' hv nC e F N => turn1 v _ oI _ oC _ m₂ h tk E' hv nC e F N) (fun v v' oI J oJ oC m₂ h tk E' hv hv' nC e e' F N => turn2 v v' _ oI J oJ _ oC _ m₂ h tk E' hv hv' nC e e' F N)
    hI₀ hC₀ (Nat.ne_of_lt hLlt) hCL (Ne.symm hIC) (below ax (Heap.lt_size (N _ hm).1)).2.2 (fun p hp => by
      rcases List.mem_cons.mp hp with rfl | hp
      · exact hDI
      · exact (offn p hp).2.2) (fun p hp => by
      rcases List.mem_cons.mp hp with rfl | hp
      · exact hDC
      · exact (offn p hp).1)
    (fun h tk m₂ F' hn N' => ⟨m₂, hn, fun h'' hs'' => fin _ h'' tk (F'.change hs'' hCL hC₀) (fun p hp => ⟨hs''.extBut _ _ (by
      rcases List.mem_cons.mp hp with rfl | hp
      · exact hDC
      · exact (offn p hp).1) (N' p hp).1, (N' p hp).2⟩) o1⟩)
    h₁ tk _ (F.keeps old) hns₁ Nb hit
  exact codeAny_compStart_list (loop _) (wpAny_pyIter_listiter (i := 0) hit (loop _))
end
end
theorem walk_off2 : True := by
  w_top off
  trivial
section
/-- the two primes -/
structure P2 (p : Int) : Prop where
  cases : p = 3 ∨ p = 5
theorem P2.bnd {p : Int} (h : P2 p) : 3 ≤ p ∧ p ≤ 5 := by
  have := h.cases
  omega
theorem sub_P2 {prog : Program} {w : World} {A : Around} {E : Value → Shared → Prop} {s : Shared} {h₀ : Heap} {L l : Addr} {news : List (Addr × Obj)} {value slice : PySem.Expr} {vs : List Value} {k : Int} {u : Tok} {n : Nat} {Q : Value → Shared → Prop}
    (N : News h₀ L s.heap news) (hm : (l, listOf vs.toArray n) ∈ news) (hI : IntsAre vs [3, 5])
    (h : ∀ p t, P2 p → Q (.int p t) s)
    (hs : subscripted slice false (.ref l) (.int (k.fmod 2) u) = operate [.ref l, .int (k.fmod 2) u] (getItem (.ref l) (.int (k.fmod 2) u)) := by with_unfolding_all rfl) :
    wpAny (model prog w) A (subscriptTail value slice (.ref l) (.int (k.fmod 2) u)) Q E s := by
  have a1 := Int.fmod_nonneg_of_pos k (show (0 : Int) < 2 by decide)
  have a2 := Int.fmod_lt_of_pos k (show (0 : Int) < 2 by decide)
  refine sub_ints N hm hI a1 (by simpa using a2) (by decide) (fun t => h _ t ⟨?_⟩) hs
  have e : k.fmod 2 = 0 ∨ k.fmod 2 = 1 := by omega
  rcases e with e | e <;> rw [e] <;> decide
theorem sub_first {prog : Program} {w : World} {A : Around} {E : Value → Shared → Prop} {s : Shared} {h₀ : Heap} {L l : Addr} {news : List (Addr × Obj)} {value slice : PySem.Expr} {vs : List Value} {ns : List Int} {u : Tok} {n : Nat} {Q : Value → Shared → Prop}
    (N : News h₀ L s.heap news) (hm : (l, listOf vs.toArray n) ∈ news) (hI : IntsAre vs (ns ++ [0])) (hl : ¬ (63 : Int) < (ns.length : Int))
    (h : ∀ k t, Q (.int k t) s)
    (hs : subscripted slice false (.ref l) (.int 0 u) = operate [.ref l, .int 0 u] (getItem (.ref l) (.int 0 u)) := by with_unfolding_all rfl) :
    wpAny (model prog w) A (subscriptTail value slice (.ref l) (.int 0 u)) Q E s :=
  sub_ints N hm hI (by omega) (by simp only [List.length_append, List.length_singleton]; omega) (by simp only [List.length_append, List.length_singleton]; omega) (fun t => h _ t) hs
/-- the number -/
structure Num (p x : Int) : Prop where
  lo : 1 ≤ x
  hi : x ≤ 124
  nd : x.fmod p ≠ 0
noncomputable def NumEnd (p : Int) (h₀ : Heap) (L : Addr) (m : Str → Option Value) (news : List (Addr × Obj)) (s : Shared) (v : Value) (s' : Shared) : Prop :=
  ∃ x t h' tk', v = .int x t ∧ Num p x ∧ s' = { s with heap := h', toks := tk' } ∧ Fr h₀ L h' m ∧ News h₀ L h' news
theorem num_cut {M : Model} {A : Around} {E : Value → Shared → Prop} {s : Shared} {h₀ : Heap} {L : Addr} {news : List (Addr × Obj)} {m : Str → Option Value} {e : Sem Value} {p : Int} {Q : Value → Shared → Prop}
    (_ : P2 p) (_ : Fr h₀ L s.heap m) (_ : News h₀ L s.heap news) (h : wpAny M A e (NumEnd p h₀ L m news s) E s)
    (k : ∀ x t h' tk', Num p x → Fr h₀ L h' m → News h₀ L h' news → Q (.int x t) { s with heap := h', toks := tk' }) : wpAny M A e Q E s :=
  wpAny_mono h (fun _ _ ⟨x, t, h', tk', e1, n, e2, F, N⟩ => by subst e1; subst e2; exact k x t h' tk' n F N) fun _ _ e => e
theorem num_one {p x : Int} (hp : P2 p) (h0 : 0 ≤ x) (h1 : x < 125) (h : x.fmod p = 0) : Num p (x + 1) := by
  rcases hp.cases with rfl | rfl
  · rw [Int.fmod_eq_emod_of_nonneg _ (by decide)] at h
    refine ⟨by omega, by omega, ?_⟩
    rw [Int.fmod_eq_emod_of_nonneg _ (by decide)]
    omega
  · rw [Int.fmod_eq_emod_of_nonneg _ (by decide)] at h
    refine ⟨by omega, by omega, ?_⟩
    rw [Int.fmod_eq_emod_of_nonneg _ (by decide)]
    omega
theorem num_same {p x : Int} (hp : P2 p) (h0 : 0 ≤ x) (h1 : x < 125) (h : ¬ x.fmod p = 0) : Num p x := by
  refine ⟨?_, by omega, h⟩
  rcases Int.lt_or_eq_of_le h0 with h2 | h2
  · omega
  · subst h2
    rw [Int.zero_fmod] at h
    exact absurd rfl h

/-- the lists of roots by the first i powers -/
inductive Lv (x p : Int) (base : List (Addr × Obj)) : List (Addr × Obj) → Nat → List Value → Prop
  | nil : Lv x p base [] 0 []
  | snoc {ts : List (Addr × Obj)} {i : Nat} {ys vs : List Value} {l : Addr} {e : Nat} (h : Lv x p base ts i ys) (hI : IntsAre vs (rts x (p ^ ((i : Int) + 1).toNat) (p ^ ((i : Int) + 1).toNat).toNat)) (lb : ∀ q ∈ base, q.1 < l) (lt : ∀ q ∈ ts, q.1 < l) : Lv x p base ((l, listOf vs.toArray e) :: ts) (i + 1) (ys ++ [.ref l])
inductive LvJ (x p : Int) (base : List (Addr × Obj)) : Nat → List Value → List (Addr × Obj) → Prop
  | z : LvJ x p base 0 [] ((37, tabObj #[]) :: (30, tabObj #[]) :: base)
  | w {i : Nat} {ys : List Value} {ts wl : List (Addr × Obj)} (hw : Warm wl) (hf : ∀ q ∈ wl, ∃ vs, q.2.data = .fields vs) (h : Lv x p base ts (i + 1) ys) : LvJ x p base (i + 1) ys (ts ++ (wl ++ base))
theorem LvJ.start {x p : Int} {base : List (Addr × Obj)} (_ : Num p x) : LvJ x p base 0 [] ((37, tabObj #[]) :: (30, tabObj #[]) :: base) := .z
theorem LvJ.sub {x p : Int} {base : List (Addr × Obj)} {i : Nat} {ys : List Value} {news : List (Addr × Obj)} (h : LvJ x p base i ys news) : ∀ q ∈ base, q ∈ news := fun q hq => by
  cases h <;> simp [hq]
theorem p2_pow {p : Int} (hp : P2 p) {i : Nat} (hi : i < 3) : 3 ≤ p ^ ((i : Int) + 1).toNat ∧ p ^ ((i : Int) + 1).toNat ≤ 125 := by
  have e : i = 0 ∨ i = 1 ∨ i = 2 := by omega
  rcases hp.cases with rfl | rfl <;> rcases e with rfl | rfl | rfl <;> decide
theorem lv_call {w : World} {pg : Program} {loose : List Str} {mean : ExcName → Option Value} {mg mb : Str → Option Value}
  {dp un : Nat} {gd : Option (List Code)} {cn : Str} {cs : Scope} {a : Addr} {ccd : Value} {cl : List (Str × Addr)} {outer : List Env} {A₀ : Around} {b0 h₀ : Heap} {L : Addr} {m : Str → Option Value} {s : Shared} {E : Value → Shared → Prop}
  {x p : Int} {tx ty : Tok} {i : Nat} {I C D ax : Addr} {oI oC : Obj} {ys : List Value} {news base : List (Addr × Obj)} {its : Array Value} {ep : Nat} (hdp : dp ≤ 370) (hun : un ≤ 940)
  (X : (Mine.hd.heap_39 w.params).In h₀) (B : Below A₀ b0 outer h₀) (C1 : CodeHd b0 34 30) (C2 : CodeHd b0 41 37) (F : Fr h₀ L s.heap m) (N : News h₀ L s.heap ((I, oI) :: (C, oC) :: (D, LCg.lst ys) :: news)) (T : Top pg loose mean mg mb h₀) (hk : cs.kind = .function)
  (hJ : LvJ x p base i ys news) (hi : i < 3) (hp : P2 p) (hx : Num p x) (off : LCg.Off3 I C D news) (hb : ∀ q ∈ base, q.1 ≠ 30 ∧ q.1 ≠ 37) (hs : (ax, ({ cls := .type "list", data := .seq its ep } : Obj)) ∈ base) :
  wpAny (model Challenge.rw_hl0003_02.row.prog w) (ktrTop dp un gd cn cs L a ccd cl outer) (call (.ref 81) [.int x tx, .int (p ^ ((i : Int) + 1).toNat) ty])
    (LCg.CompEnd h₀ L m s I oI C oC D (LCg.lst ys) (LCg.SrcAt h₀ ax its) (fun v news' => LvJ x p base (i + 1) (ys ++ [v]) news')) E s := by
  obtain ⟨x1, x2, x3⟩ := hx
  obtain ⟨y1, y2⟩ := p2_pow hp hi
  cases hJ with
  | z =>
    have o30 := off3_all off 30 (by simp)
    have o37 := off3_all off 37 (by simp)
    have R1 : Rm 30 ((I, oI) :: (C, oC) :: (D, LCg.lst []) :: (37, tabObj #[]) :: (30, tabObj #[]) :: base) ((I, oI) :: (C, oC) :: (D, LCg.lst []) :: (37, tabObj #[]) :: base) :=
      .miss (Ne.symm o30.1) (.miss (Ne.symm o30.2.1) (.miss (Ne.symm o30.2.2) (.miss (by decide) (.hit (.tl fun q hq => (hb q hq).1)))))
    have R2 : Rm 37 ((I, oI) :: (C, oC) :: (D, LCg.lst []) :: (37, tabObj #[]) :: base) ((I, oI) :: (C, oC) :: (D, LCg.lst []) :: base) :=
      .miss (Ne.symm o37.1) (.miss (Ne.symm o37.2.1) (.miss (Ne.symm o37.2.2) (.hit (.tl fun q hq => (hb q hq).2))))
    refine rt_use (o30 := tabObj #[]) (o37 := tabObj #[]) hdp hun X B C1 C2 F N (by simp) (by simp) R1 R2 (.inl rfl) (.inl rfl) T hk (by omega) (by omega) y1 y2
      fun l vs e c oc cvs u c7 oc7 cvs7 u7 h' tk' F' N' f1 f2 f3 f4 bo bo7 ll l37 n1 n2 hI => ?_
    have lt := bo.2 rfl
    have lt7 := bo7.2 rfl
    refine ⟨h', tk', [(l, listOf (List.toArray vs) e)] ++ ([(c7, oc7), (37, T3 47 4 c7), (c, oc), (30, T3 32 4 c)] ++ base), rfl, F', fun q hq => N' q (by simp only [List.cons_append, List.nil_append, List.mem_cons] at hq ⊢; grind), LCg.Off3.of fun q hq => ?_, .inr ⟨({ cls := .type "list", data := .seq its ep } : Obj), by simp [hs], rfl, _, rfl⟩, .w (warm4 f1 f2 f3 f4) (fun q hq => ?_) (.snoc .nil hI (fun q hq => ll q (by simp [hq])) (fun q hq => nomatch hq))⟩
    · simp only [List.cons_append, List.nil_append, List.mem_cons] at hq
      rcases hq with rfl | rfl | rfl | rfl | rfl | hq
      · exact ⟨neN (Nat.ne_of_gt (ll (I, oI) (by simp))), neN (Nat.ne_of_gt (ll (C, oC) (by simp))), neN (Nat.ne_of_gt (ll (D, LCg.lst []) (by simp)))⟩
      · exact ⟨neN (Nat.ne_of_gt (lt7 (I, oI) (by simp))), neN (Nat.ne_of_gt (lt7 (C, oC) (by simp))), neN (Nat.ne_of_gt (lt7 (D, LCg.lst []) (by simp)))⟩
      · exact o37
      · exact ⟨neN (Nat.ne_of_gt (lt (I, oI) (by simp))), neN (Nat.ne_of_gt (lt (C, oC) (by simp))), neN (Nat.ne_of_gt (lt (D, LCg.lst []) (by simp)))⟩
      · exact o30
      · exact off.mem q (by simp [hq])
    · simp only [List.mem_cons, List.not_mem_nil, or_false] at hq
      rcases hq with rfl | rfl | rfl | rfl
      · exact ⟨_, f3⟩
      · exact ⟨_, rfl⟩
      · exact ⟨_, f1⟩
      · exact ⟨_, rfl⟩
  | @w j _ ts wl hw hf h =>
    refine rt_warm hdp hun X B C1 C2 F N hw (fun q hq => by simp [hq]) T hk (by omega) (by omega) y1 y2 fun l vs e h' tk' F' N' ll hI => ?_
    refine ⟨h', tk', (l, listOf (List.toArray vs) e) :: (ts ++ (wl ++ base)), rfl, F', fun q hq => N' q (by simp only [List.mem_cons] at hq ⊢; grind), ⟨⟨neN (Nat.ne_of_gt (ll (I, oI) (by simp))), neN (Nat.ne_of_gt (ll (C, oC) (by simp))), neN (Nat.ne_of_gt (ll (D, LCg.lst ys) (by simp)))⟩, off⟩, .inr ⟨({ cls := .type "list", data := .seq its ep } : Obj), by simp [hs], rfl, _, rfl⟩, ?_⟩
    exact .w (ts := (l, listOf (List.toArray vs) e) :: ts) hw hf (.snoc h hI (fun q hq => ll q (by simp [hq])) (fun q hq => ll q (by simp [hq])))
/-- the three lists -/
structure Lvs (x p : Int) (base : List (Addr × Obj)) (l0 l1 l2 : Addr) (vs0 vs1 vs2 : List Value) : Prop where
  i0 : IntsAre vs0 (rts x (p ^ 1) (p ^ 1).toNat)
  i1 : IntsAre vs1 (rts x (p ^ 2) (p ^ 2).toNat)
  i2 : IntsAre vs2 (rts x (p ^ 3) (p ^ 3).toNat)
  b0 : ∀ q ∈ base, q.1 < l0
  b1 : l0 < l1
  b2 : l1 < l2
theorem LvJ.fin {x p : Int} {base : List (Addr × Obj)} {ys : List Value} {news : List (Addr × Obj)} (h : LvJ x p base 3 ys news) :
    ∃ l0 l1 l2 vs0 vs1 vs2 e0 e1 e2 wl, ys = [.ref l0, .ref l1, .ref l2] ∧ news = (l2, listOf (List.toArray vs2) e2) :: (l1, listOf (List.toArray vs1) e1) :: (l0, listOf (List.toArray vs0) e0) :: (wl ++ base) ∧ Warm wl ∧ (∀ q ∈ wl, ∃ vs, q.2.data = .fields vs) ∧ Lvs x p base l0 l1 l2 vs0 vs1 vs2 := by
  cases h with
  | w hw hf h =>
    cases h with
    | snoc h i2 b2 t2 =>
      cases h with
      | snoc h i1 b1 t1 =>
        cases h with
        | snoc h i0 b0 t0 =>
          cases h
          exact ⟨_, _, _, _, _, _, _, _, _, _, rfl, rfl, hw, hf, ⟨i0, i1, i2, b0, t1 _ (.head _), t2 _ (.head _)⟩⟩
theorem lv_item {i : Nat} {v : Value} {t1 t2 t3 : Tok} (h : #[Value.int 1 t1, Value.int 2 t2, Value.int 3 t3][i]? = some v) : ∃ t, v = .int ((i : Int) + 1) t := by
  match i with
  | 0 => simp at h; exact ⟨_, h.symm⟩
  | 1 => simp at h; exact ⟨_, h.symm⟩
  | 2 => simp at h; exact ⟨_, h.symm⟩
  | n + 3 => simp at h
theorem news_tabs9 {h₀ h : Heap} {L : Addr} {x a b c d e f g k : Addr × Obj} (N : News h₀ L h [x, a, b, c, d, e, f, g, k]) : News h₀ L h (g :: k :: [x, a, b, c, d, e, f]) := fun p hp => N p (by
  simp only [List.mem_cons, List.not_mem_nil, or_false] at hp ⊢
  grind)
theorem news_fin4 {h₀ h : Heap} {L : Addr} {a b c d x : Addr × Obj} {wl base : List (Addr × Obj)} (N : News h₀ L h (a :: b :: c :: d :: (wl ++ x :: base))) : News h₀ L h (a :: b :: c :: d :: (base ++ wl)) := fun p hp => N p (by
  simp only [List.mem_cons, List.mem_append] at hp ⊢
  grind)
/-- the three lists' ints -/
structure L3 (x p : Int) (vs0 vs1 vs2 : List Value) : Prop where
  i0 : IntsAre vs0 (rts x (p ^ 1) (p ^ 1).toNat)
  i1 : IntsAre vs1 (rts x (p ^ 2) (p ^ 2).toNat)
  i2 : IntsAre vs2 (rts x (p ^ 3) (p ^ 3).toNat)
theorem Lvs.l3 {x p : Int} {base : List (Addr × Obj)} {l0 l1 l2 : Addr} {vs0 vs1 vs2 : List Value} (h : Lvs x p base l0 l1 l2 vs0 vs1 vs2) : L3 x p vs0 vs1 vs2 := ⟨h.i0, h.i1, h.i2⟩

theorem allOk_at (p : Int) : ∀ n : Nat, allOk p n = true → ∀ x : Int, 1 ≤ x → x ≤ n → x.fmod p ≠ 0 → numOk p x = true
  | 0, _, x, h1, h2, _ => by omega
  | n + 1, h, x, h1, h2, h3 => by
    unfold allOk at h
    rw [Bool.and_eq_true, Bool.or_eq_true] at h
    by_cases e : x = (n : Int) + 1
    · subst e
      rcases h.1 with q | q
      · exact absurd (of_decide_eq_true q) h3
      · exact q
    · exact allOk_at p n h.2 x h1 (by omega) h3
theorem num_ok {p x : Int} (hp : P2 p) (hx : Num p x) : numOk p x = true := by
  obtain ⟨h1, h2, h3⟩ := hx
  rcases hp.cases with rfl | rfl
  · exact allOk_at 3 124 all3 x h1 h2 h3
  · exact allOk_at 5 124 all5 x h1 h2 h3
/-- pairs of squares -/
inductive SqJ (p : Int) (base : List (Addr × Obj)) : Nat → List Value → List (Addr × Obj) → Prop
  | mk {i : Nat} {ys : List Value} {ts : List (Addr × Obj)} (h : PairsK (ts ++ base) ys (sqs p i)) : SqJ p base i ys (ts ++ base)
theorem SqJ.start {p : Int} (_ : P2 p) (base : List (Addr × Obj)) : SqJ p base 0 [] base := SqJ.mk (ts := []) (by rw [sqs_zero]; exact .nil)
theorem SqJ.sub {p : Int} {base : List (Addr × Obj)} {i : Nat} {ys : List Value} {news : List (Addr × Obj)} (h : SqJ p base i ys news) : ∀ q ∈ base, q ∈ news := fun q hq => by
  cases h
  exact List.mem_append_right _ hq
theorem SqJ.next {p : Int} {base : List (Addr × Obj)} {i : Nat} {ys : List Value} {news : List (Addr × Obj)} {T : Addr} {t u : Tok} {k : Int} {e : Nat} (h : SqJ p base i ys news) (hk : k = ((1 + (i : Int)) * (1 + (i : Int))).fmod p) :
    SqJ p base (i + 1) (ys ++ [.ref T]) ((T, ({ cls := .type "tuple", data := .seq #[.int k t, .int 1 u] e } : Obj)) :: news) := by
  cases h with
  | @mk ts h =>
    refine SqJ.mk (ts := (T, _) :: ts) ?_
    rw [sqs_succ]
    subst hk
    exact PairsK.append (.cons (.head _) .nil) (h.mono fun q hq => .tail _ hq)
theorem SqJ.endT {p : Int} {base : List (Addr × Obj)} {i : Nat} {ys : List Value} {news : List (Addr × Obj)} {T I C D : Addr} {oI oC : Obj} {t u : Tok} {k : Int} {e : Nat} {h₀ h' : Heap} {L : Addr} {m : Str → Option Value} {s₁ : Shared} {tk : Nat} (h : SqJ p base i ys news)
    (F : Fr h₀ L h' m) (N : News h₀ L h' ((T, ({ cls := .type "tuple", data := .seq #[.int k t, .int 1 u] e } : Obj)) :: (I, oI) :: (C, oC) :: (D, LCg.lst ys) :: news)) (l : ∀ q ∈ (I, oI) :: (C, oC) :: (D, LCg.lst ys) :: news, q.1 < T) (off : LCg.Off3 I C D news) (hk : k = ((1 + (i : Int)) * (1 + (i : Int))).fmod p) :
    LCg.CompEnd h₀ L m s₁ I oI C oC D (LCg.lst ys) (fun _ => True) (fun y news' => SqJ p base (i + 1) (ys ++ [y]) news') (.ref T) { s₁ with heap := h', toks := tk } :=
  LCg.CompEnd.intro F N ((T, ({ cls := .type "tuple", data := .seq #[.int k t, .int 1 u] e } : Obj)) :: news) (fun q hq => by simp only [List.mem_cons] at hq ⊢; rcases hq with h | h | h | h | h <;> simp [h]) ⟨⟨neN (Nat.ne_of_gt (l (I, oI) (by simp))), neN (Nat.ne_of_gt (l (C, oC) (by simp))), neN (Nat.ne_of_gt (l (D, LCg.lst ys) (by simp)))⟩, off⟩ trivial (h.next hk)
theorem SqJ.fin {p : Int} {base : List (Addr × Obj)} {i : Nat} {ys : List Value} {news : List (Addr × Obj)} (h : SqJ p base i ys news) : PairsK news ys (sqs p i) := by
  cases h with
  | mk h => exact h

/-- an item of a list of the ledger, told by a literal -/
theorem sub_lit {prog : Program} {w : World} {A : Around} {E : Value → Shared → Prop} {s : Shared} {h₀ : Heap} {L l : Addr} {news : List (Addr × Obj)} {value slice : PySem.Expr} {vs : List Value} {v : Value} {k : Int} {u : Tok} {n : Nat} {Q : Value → Shared → Prop}
    (N : News h₀ L s.heap news) (hm : (l, listOf vs.toArray n) ∈ news) (h0 : 0 ≤ k) (hl : k < 2 ^ 63) (e : vs[k.toNat]? = some v) (h : Q v s)
    (hs : subscripted slice false (.ref l) (.int k u) = operate [.ref l, .int k u] (getItem (.ref l) (.int k u)) := by with_unfolding_all rfl) :
    wpAny (model prog w) A (subscriptTail value slice (.ref l) (.int k u)) Q E s := by
  have hL : s.heap.IsList l vs.toArray := ⟨_, (N _ hm).1, rfl, n, rfl⟩
  exact tail_any hL.typeIs slot_list_getitem.lookup (wpAny_getItem_list hL h0 hl (by simpa using e) h) hs
theorem L3.rk {x p : Int} {vs0 vs1 vs2 : List Value} (h : L3 x p vs0 vs1 vs2) : IntsAre vs0 (rk p x 1) ∧ IntsAre vs1 (rk p x 2) ∧ IntsAre vs2 (rk p x 3) := by
  unfold Mine.rk
  exact ⟨h.i0, h.i1, h.i2⟩
theorem ne_nil_N {prog : Program} {w : World} {A : Around} {E : Value → Shared → Prop} {s : Shared} {h₀ : Heap} {L a b : Addr} {news : List (Addr × Obj)} {vs : List Value} {ns : List Int} {n k : Nat} {Q : Value → Shared → Prop}
    (N : News h₀ L s.heap news) (hm : (a, listOf vs.toArray n) ∈ news) (hi : IntsAre vs ns) (hb : (b, listOf (List.toArray []) k) ∈ news) (hu : A.units + 64 < cLine)
    (h : Q (.bool (!decide (ns = []))) s) : wpAny (model prog w) A (compareOp .NotEq (.ref a) (.ref b)) Q E s :=
  ne_intsK ⟨_, (N _ hm).1, rfl, n, rfl⟩ hi ⟨_, (N _ hb).1, rfl, k, rfl⟩ .nil hu h
/-- what holds of a number -/
structure FX (p x : Int) : Prop where
  sq : (rk p x 1 ≠ []) ↔ (x.fmod p ∈ keysOf (sqs p (p - 1).toNat))
  e2 : (rk p x 2).length = (rk p x 1).length
  e3 : (rk p x 3).length = (rk p x 1).length
  e1 : (rk p x 1).length ≤ 2
  v1 : levOk p x 1 = true
  v2 : levOk p x 2 = true
theorem num_fx {p x : Int} (hp : P2 p) (hx : Num p x) : FX p x := by
  have h := num_ok hp hx
  unfold numOk at h
  simp only [Bool.and_eq_true, decide_eq_true_eq, beq_iff_eq] at h
  obtain ⟨⟨⟨⟨⟨a1, a2⟩, a3⟩, a4⟩, a5⟩, a6⟩ := h
  refine ⟨?_, a2, a3, a4, a5, a6⟩
  constructor
  · intro q
    rw [decide_eq_true q] at a1
    exact of_decide_eq_true a1.symm
  · intro q
    rw [decide_eq_true q] at a1
    exact of_decide_eq_true a1
theorem ne_sq {prog : Program} {w : World} {A : Around} {E : Value → Shared → Prop} {s : Shared} {p x : Int} {nsq : List Int} {Q : Value → Shared → Prop} (fx : FX p x) (pq : nsq.Perm (keysOf (sqs p (p - 1).toNat))) (h : Q (.bool false) s) :
    wpAny (model prog w) A (compareOp .NotEq (.bool (!decide (rk p x 1 = []))) (.bool (nsq.any fun y => y == x.fmod p))) Q E s := by
  have e : (!decide (rk p x 1 = [])) = (nsq.any fun y => y == x.fmod p) := by
    rw [Bool.eq_iff_iff, List.any_eq_true]
    simp only [Bool.not_eq_true', decide_eq_false_iff_not, beq_iff_eq]
    constructor
    · intro q
      exact ⟨_, pq.mem_iff.mpr (fx.sq.mp q), rfl⟩
    · rintro ⟨y, hy, rfl⟩
      exact fx.sq.mpr (pq.mem_iff.mp hy)
  rw [e]
  refine ne_bool ?_
  rw [bne_self_eq_false]
  exact h
theorem lev_item {i : Nat} {v : Value} {l0 l1 l2 : Addr} {vs0 vs1 vs2 : List Value} {e0 e1 e2 : Nat} {p x : Int} {news : List (Addr × Obj)} (h : #[Value.ref l0, Value.ref l1, Value.ref l2][i]? = some v) (m0 : (l0, listOf vs0.toArray e0) ∈ news) (m1 : (l1, listOf vs1.toArray e1) ∈ news) (m2 : (l2, listOf vs2.toArray e2) ∈ news)
    (i0 : IntsAre vs0 (rk p x 1)) (i1 : IntsAre vs1 (rk p x 2)) (i2 : IntsAre vs2 (rk p x 3)) (fx : FX p x) : ∃ l vs e ns, v = .ref l ∧ (l, listOf (List.toArray vs) e) ∈ news ∧ IntsAre vs ns ∧ ns.length = (rk p x 1).length := by
  match i with
  | 0 => simp at h; exact ⟨_, _, _, _, h.symm, m0, i0, rfl⟩
  | 1 => simp at h; exact ⟨_, _, _, _, h.symm, m1, i1, fx.e2⟩
  | 2 => simp at h; exact ⟨_, _, _, _, h.symm, m2, i2, fx.e3⟩
  | n + 3 => simp at h
/-- nothing is kept -/
inductive NoJ (base : List (Addr × Obj)) : Nat → List Value → List (Addr × Obj) → Prop
  | mk {i : Nat} : NoJ base i [] base

theorem toNat_succ {k : Int} (h : 0 ≤ k) : (k + 1).toNat = k.toNat + 1 := by omega
/-- what holds of a root -/
structure RF (p x : Int) (k : Nat) (r : Int) : Prop where
  r0 : 0 ≤ r
  r1 : r < p ^ k
  z : (x - r * r).fmod (p ^ k) = 0
  ne : filt (othF p r) 0 p.toNat ≠ []
  d1 : mag (x - r * r) < 2 ^ 20
  d2 : ((Builtin.Int.intBits (mag (x - r * r)) : Int) + Builtin.Int.intBits (p ^ k) - 1).fdiv (Builtin.Int.intBits (p ^ k)) ≤ 4
  d3 : mag ((x - r * r).fdiv (p ^ k) * oth p r) < 2 ^ 20
  d4 : ((Builtin.Int.intBits (mag ((x - r * r).fdiv (p ^ k) * oth p r)) : Int) + Builtin.Int.intBits p - 1).fdiv (Builtin.Int.intBits p) ≤ 4
  l0 : -1000 ≤ (x - r * r).fdiv (p ^ k)
  l1 : (x - r * r).fdiv (p ^ k) ≤ 1000
  o0 : 0 ≤ oth p r
  o1 : oth p r ≤ 10
  b1 : biz (rk p x (k + 1)) (r + p ^ k * ((x - r * r).fdiv (p ^ k) * oth p r).fmod p) < (rk p x (k + 1)).length
  b2 : (rk p x (k + 1)).getD (biz (rk p x (k + 1)) (r + p ^ k * ((x - r * r).fdiv (p ^ k) * oth p r).fmod p)) 0 = r + p ^ k * ((x - r * r).fdiv (p ^ k) * oth p r).fmod p
structure LF (p x : Int) (k : Nat) : Prop where
  so : (rk p x (k + 1)).Pairwise (· ≤ ·)
  sm : (rk p x (k + 1)).length = 2 → (rk p x (k + 1)).sum = p ^ (k + 1)
  ln : (rk p x (k + 1)).length ≤ 2
  ln0 : (rk p x k).length ≤ 2
theorem sortedB_ok : ∀ l : List Int, sortedB l = true → l.Pairwise (· ≤ ·)
  | [], _ => .nil
  | [_], _ => by simp
  | a :: b :: r, h => by
    unfold sortedB at h
    rw [Bool.and_eq_true] at h
    have ih := sortedB_ok (b :: r) h.2
    have hab := of_decide_eq_true h.1
    refine List.Pairwise.cons (fun y hy => ?_) ih
    rcases List.mem_cons.mp hy with rfl | hy
    · exact hab
    · exact Int.le_trans hab ((List.pairwise_cons.mp ih).1 y hy)
theorem FX.lev {p x : Int} (fx : FX p x) {k : Nat} (hk : k = 1 ∨ k = 2) : levOk p x k = true := by
  rcases hk with rfl | rfl
  · exact fx.v1
  · exact fx.v2
theorem rf_of {p x : Int} (fx : FX p x) {k : Nat} (hk : k = 1 ∨ k = 2) {r : Int} (hr : r ∈ rk p x k) : RF p x k r := by
  have h := fx.lev hk
  unfold levOk at h
  rw [Bool.and_eq_true, Bool.and_eq_true] at h
  have h1 := List.all_eq_true.mp h.1.1 r hr
  unfold rootOk digOk aft at h1
  simp only [Bool.and_eq_true, decide_eq_true_eq] at h1
  obtain ⟨⟨⟨⟨⟨⟨⟨⟨⟨⟨⟨a1, a2⟩, a3⟩, a4⟩, a5, a6⟩, a7, a8⟩, c1⟩, c2⟩, c3⟩, c4⟩, a9⟩, a10⟩ := h1
  exact ⟨a1, a2, a3, a4, a5, a6, a7, a8, c1, c2, c3, c4, a9, a10⟩
theorem lf_of {p x : Int} (fx : FX p x) {k : Nat} (hk : k = 1 ∨ k = 2) : LF p x k := by
  have h := fx.lev hk
  have e1 := fx.e1
  have e2 := fx.e2
  have e3 := fx.e3
  unfold levOk at h
  simp only [Bool.and_eq_true, Bool.or_eq_true, decide_eq_true_eq] at h
  obtain ⟨⟨_, h2⟩, h3⟩ := h
  refine ⟨sortedB_ok _ h2, fun e => ?_, ?_, ?_⟩
  · rcases h3 with q | q
    · exact absurd e q
    · exact q
  · rcases hk with rfl | rfl
    · show (rk p x 2).length ≤ 2
      omega
    · show (rk p x 3).length ≤ 2
      omega
  · rcases hk with rfl | rfl <;> omega
theorem pk_bnd {p : Int} (hp : P2 p) {k : Nat} (hk : k = 1 ∨ k = 2) : 3 ≤ p ^ k ∧ p ^ k ≤ 25 := by
  rcases hp.cases with rfl | rfl <;> rcases hk with rfl | rfl <;> decide
/-- a level, told by a number -/
theorem sub_lev {prog : Program} {w : World} {A : Around} {E : Value → Shared → Prop} {s : Shared} {h₀ : Heap} {L D l0 l1 l2 : Addr} {news : List (Addr × Obj)} {value slice : PySem.Expr} {vs0 vs1 vs2 : List Value} {e0 e1 e2 : Nat} {p x j : Int} {u : Tok} {n : Nat} {Q : Value → Shared → Prop}
    (N : News h₀ L s.heap news) (hm : (D, listOf #[Value.ref l0, Value.ref l1, Value.ref l2] n) ∈ news) (_m0 : (l0, listOf vs0.toArray e0) ∈ news) (_m1 : (l1, listOf vs1.toArray e1) ∈ news) (_m2 : (l2, listOf vs2.toArray e2) ∈ news)
    (i0 : IntsAre vs0 (rk p x 1)) (i1 : IntsAre vs1 (rk p x 2)) (i2 : IntsAre vs2 (rk p x 3)) (h0 : 0 ≤ j) (h1 : j ≤ 2)
    (h : ∀ l vs e, (l, listOf (List.toArray vs) e) ∈ [(l0, listOf vs0.toArray e0), (l1, listOf vs1.toArray e1), (l2, listOf vs2.toArray e2)] → IntsAre vs (rk p x (j.toNat + 1)) → Q (.ref l) s)
    (hs : subscripted slice false (.ref D) (.int j u) = operate [.ref D, .int j u] (getItem (.ref D) (.int j u)) := by with_unfolding_all rfl) :
    wpAny (model prog w) A (subscriptTail value slice (.ref D) (.int j u)) Q E s := by
  have e : j = 0 ∨ j = 1 ∨ j = 2 := by omega
  rcases e with rfl | rfl | rfl
  · exact sub_lit N hm (by decide) (by decide) rfl (h _ _ _ (.head _) i0) hs
  · exact sub_lit N hm (by decide) (by decide) rfl (h _ _ _ (.tail _ (.head _)) i1) hs
  · exact sub_lit N hm (by decide) (by decide) rfl (h _ _ _ (.tail _ (.tail _ (.head _))) i2) hs
theorem ints_mem : ∀ {vs : List Value} {ns : List Int}, IntsAre vs ns → ∀ v ∈ vs, ∃ r t, v = .int r t ∧ r ∈ ns
  | _, _, .nil, _, h => nomatch h
  | _, _, .cons a t r, v, h => by
    rcases List.mem_cons.mp h with rfl | h
    · exact ⟨a, t, rfl, .head _⟩
    · obtain ⟨r', t', e, m⟩ := ints_mem r v h
      exact ⟨r', t', e, .tail _ m⟩
/-- the ledger between the turns by powers: the cells of count and root change -/
inductive PoJ (x0 x1 x2 x3 x4 x5 : Addr × Obj) (a5 a4 : Addr) (back : List (Addr × Obj)) : List (Addr × Obj) → Prop
  | mk {oc orr : Obj} {vc vr : Option Value} (h1 : oc.data = .cell vc) (h2 : orr.data = .cell vr) : PoJ x0 x1 x2 x3 x4 x5 a5 a4 back (x0 :: x1 :: x2 :: x3 :: x4 :: x5 :: (a5, oc) :: (a4, orr) :: back)
theorem PoJ.off {x0 x1 x2 x3 x4 x5 : Addr × Obj} {a5 a4 I : Addr} {back n n' : List (Addr × Obj)} (h : PoJ x0 x1 x2 x3 x4 x5 a5 a4 back n) (h' : PoJ x0 x1 x2 x3 x4 x5 a5 a4 back n') (o : ∀ p ∈ n, p.1 ≠ I) : ∀ p ∈ n', p.1 ≠ I := fun p hp => by
  cases h
  cases h'
  simp only [List.mem_cons] at hp
  rcases hp with rfl | rfl | rfl | rfl | rfl | rfl | rfl | rfl | hp
  · exact o _ (by simp)
  · exact o _ (by simp)
  · exact o _ (by simp)
  · exact o _ (by simp)
  · exact o _ (by simp)
  · exact o _ (by simp)
  · have z := o _ (.tail _ (.tail _ (.tail _ (.tail _ (.tail _ (.tail _ (.head _)))))))
    exact z
  · have z := o _ (.tail _ (.tail _ (.tail _ (.tail _ (.tail _ (.tail _ (.tail _ (.head _))))))))
    exact z
  · exact o _ (by simp [hp])
/-- the powers left -/
structure Pw12 (K I : Addr) (l : List Value) : Prop where
  lt : @LT.lt Nat _ K I
  ks : ∀ v ∈ l, ∃ (k : Int) (t : Tok), v = .int k t ∧ 1 ≤ k ∧ k ≤ 2
noncomputable abbrev PoJJ (K : Addr) (x0 x1 x2 x3 x4 x5 : Addr × Obj) (a5 a4 : Addr) (back : List (Addr × Obj)) (I : Addr) (l : List Value) (_m : Str → Option Value) (n : List (Addr × Obj)) : Prop := Pw12 K I l ∧ PoJ x0 x1 x2 x3 x4 x5 a5 a4 back n
theorem pw12 {K I : Addr} {t u : Tok} (h : @LT.lt Nat _ K I) : Pw12 K I [.int 1 t, .int 2 u] := ⟨h, fun v hv => by
  simp only [List.mem_cons, List.not_mem_nil, or_false] at hv
  rcases hv with rfl | rfl
  · exact ⟨1, _, rfl, by decide, by decide⟩
  · exact ⟨2, _, rfl, by decide, by decide⟩⟩
theorem mem3 {α : Type} {q a b c : α} {n : List α} (h : q ∈ [a, b, c]) (ha : a ∈ n) (hb : b ∈ n) (hc : c ∈ n) : q ∈ n := by
  simp only [List.mem_cons, List.not_mem_nil, or_false] at h
  rcases h with rfl | rfl | rfl
  · exact ha
  · exact hb
  · exact hc
noncomputable abbrev ordM (m0 : Str → Option Value) (v u : Option Value) : Str → Option Value := fun z => if z = Str.ofString "order" then v else if z = Str.ofString "power" then u else m0 z
theorem ordM_self {m : Str → Option Value} {v u : Option Value} (h : m (Str.ofString "order") = v) (h' : m (Str.ofString "power") = u) : m = ordM m v u := by
  funext z
  unfold ordM
  split
  · subst z; exact h
  · split
    · subst z; exact h'
    · rfl
/-- the ledger between the turns by roots: the cell of root changes -/
inductive InJ (y0 y1 y2 y3 y4 y5 y6 y7 : Addr × Obj) (a4 : Addr) (back : List (Addr × Obj)) : List (Addr × Obj) → Prop
  | mk {orr : Obj} {vr : Option Value} (h2 : orr.data = .cell vr) : InJ y0 y1 y2 y3 y4 y5 y6 y7 a4 back (y0 :: y1 :: y2 :: y3 :: y4 :: y5 :: y6 :: y7 :: (a4, orr) :: back)
theorem InJ.off {y0 y1 y2 y3 y4 y5 y6 y7 : Addr × Obj} {a4 I : Addr} {back n n' : List (Addr × Obj)} (h : InJ y0 y1 y2 y3 y4 y5 y6 y7 a4 back n) (h' : InJ y0 y1 y2 y3 y4 y5 y6 y7 a4 back n') (o : ∀ p ∈ n, p.1 ≠ I) : ∀ p ∈ n', p.1 ≠ I := fun p hp => by
  cases h
  cases h'
  simp only [List.mem_cons] at hp
  rcases hp with rfl | rfl | rfl | rfl | rfl | rfl | rfl | rfl | rfl | hp
  · exact o _ (by simp)
  · exact o _ (by simp)
  · exact o _ (by simp)
  · exact o _ (by simp)
  · exact o _ (by simp)
  · exact o _ (by simp)
  · exact o _ (by simp)
  · exact o _ (by simp)
  · have z := o _ (.tail _ (.tail _ (.tail _ (.tail _ (.tail _ (.tail _ (.tail _ (.tail _ (.head _)))))))))
    exact z
  · exact o _ (by simp [hp])
structure RootsIn (p x : Int) (k : Nat) (l : List Value) : Prop where
  all : ∀ v ∈ l, ∃ (r : Int) (t : Tok), v = .int r t ∧ RF p x k r
theorem RootsIn.tail {p x : Int} {k : Nat} {v : Value} {l : List Value} (h : RootsIn p x k (v :: l)) : RootsIn p x k l := ⟨fun u hu => h.all u (.tail _ hu)⟩
theorem Pw12.tail {K I : Addr} {v : Value} {l : List Value} (h : Pw12 K I (v :: l)) : Pw12 K I l := ⟨h.lt, fun u hu => h.ks u (.tail _ hu)⟩
structure InW (p x : Int) (k : Nat) (I : Addr) (y0 : Addr × Obj) (lo : Addr) (u : Value) (l : List Value) (m : Str → Option Value) : Prop where
  lt : @LT.lt Nat _ y0.1 I
  rs : RootsIn p x k l
  mo : m (Str.ofString "order") = some (.ref lo)
  mp : m (Str.ofString "power") = some u
noncomputable abbrev InJJ (p x : Int) (k : Nat) (lo : Addr) (u : Value) (y0 y1 y2 y3 y4 y5 y6 y7 : Addr × Obj) (a4 : Addr) (back : List (Addr × Obj)) (I : Addr) (l : List Value) (m : Str → Option Value) (n : List (Addr × Obj)) : Prop := InW p x k I y0 lo u l m ∧ InJ y0 y1 y2 y3 y4 y5 y6 y7 a4 back n
theorem inw_start {p x : Int} {k : Nat} {I lo : Addr} {u : Value} {y0 : Addr × Obj} {vs : List Value} {m : Str → Option Value} (fx : FX p x) (hk : k = 1 ∨ k = 2) (hi : IntsAre vs (rk p x k)) (lt : @LT.lt Nat _ y0.1 I) (mo : m (Str.ofString "order") = some (.ref lo)) (mp : m (Str.ofString "power") = some u) : InW p x k I y0 lo u vs m :=
  ⟨lt, ⟨fun v hv => by
    obtain ⟨r, t, rfl, hr⟩ := ints_mem hi v hv
    exact ⟨r, t, rfl, rf_of fx hk hr⟩⟩, mo, mp⟩
/-- the others so far -/
inductive OthJ (p r : Int) (base : List (Addr × Obj)) : Nat → List Value → List (Addr × Obj) → Prop
  | mk {i : Nat} {ys : List Value} (h : IntsAre ys (filt (othF p r) 0 i)) : OthJ p r base i ys base
theorem OthJ.start {p x r : Int} {k : Nat} (_ : RF p x k r) (base : List (Addr × Obj)) : OthJ p r base 0 [] base := .mk (by rw [filt_zero]; exact .nil)
theorem OthJ.yes {p r : Int} {base : List (Addr × Obj)} {i : Nat} {ys : List Value} {t : Tok} (h : IntsAre ys (filt (othF p r) 0 i)) (e : (2 * r * (0 + (i : Int))).fmod p = 1) : OthJ p r base (i + 1) (ys ++ [.int (0 + (i : Int)) t]) base := by
  refine .mk ?_
  rw [filt_succ, if_pos (by unfold othF; exact decide_eq_true e)]
  exact h.append (.cons _ _ .nil)
theorem OthJ.no {p r : Int} {base : List (Addr × Obj)} {i : Nat} {ys : List Value} (h : IntsAre ys (filt (othF p r) 0 i)) (e : ¬ (2 * r * (0 + (i : Int))).fmod p = 1) : OthJ p r base (i + 1) ys base := by
  refine .mk ?_
  rw [filt_succ, if_neg (by unfold othF; simpa using e)]
  exact h
theorem filt_len (f : Int → Bool) (a : Int) : ∀ n, (filt f a n).length ≤ n
  | 0 => by rw [filt_zero]; exact Nat.le_refl _
  | n + 1 => by
    rw [filt_succ]
    have := filt_len f a n
    split
    · rw [List.length_append, List.length_singleton]; omega
    · omega
theorem sub_oth {prog : Program} {w : World} {A : Around} {E : Value → Shared → Prop} {s : Shared} {h₀ : Heap} {L l : Addr} {news : List (Addr × Obj)} {value slice : PySem.Expr} {vs : List Value} {p x r : Int} {k n : Nat} {u : Tok} {Q : Value → Shared → Prop}
    (N : News h₀ L s.heap news) (hm : (l, listOf vs.toArray n) ∈ news) (hI : IntsAre vs (filt (othF p r) 0 p.toNat)) (rf : RF p x k r) (hp : P2 p)
    (h : ∀ t, Q (.int (oth p r) t) s)
    (hs : subscripted slice false (.ref l) (.int 0 u) = operate [.ref l, .int 0 u] (getItem (.ref l) (.int 0 u)) := by with_unfolding_all rfl) :
    wpAny (model prog w) A (subscriptTail value slice (.ref l) (.int 0 u)) Q E s := by
  have hl := filt_len (othF p r) 0 p.toNat
  have hb := hp.bnd
  have hne := rf.ne
  have e : (filt (othF p r) 0 p.toNat).getD (Int.toNat 0) 0 = oth p r := by
    unfold oth
    cases filt (othF p r) 0 p.toNat <;> rfl
  refine sub_ints N hm hI (by omega) ?_ (by omega) (fun t => ?_) hs
  · have := List.length_pos_iff.mpr hne
    omega
  · rw [e]; exact h t
theorem sub_aft {prog : Program} {w : World} {A : Around} {E : Value → Shared → Prop} {s : Shared} {h₀ : Heap} {L l : Addr} {news : List (Addr × Obj)} {value slice : PySem.Expr} {vs : List Value} {p x r : Int} {k n : Nat} {u : Tok} {Q : Value → Shared → Prop}
    (N : News h₀ L s.heap news) (hm : (l, listOf vs.toArray n) ∈ news) (hI : IntsAre vs (rk p x (k + 1))) (rf : RF p x k r) (hl : (rk p x (k + 1)).length ≤ 2)
    (h : ∀ t, Q (.int (r + p ^ k * ((x - r * r).fdiv (p ^ k) * oth p r).fmod p) t) s)
    (hs : subscripted slice false (.ref l) (.int (biz (rk p x (k + 1)) (r + p ^ k * ((x - r * r).fdiv (p ^ k) * oth p r).fmod p) : Nat) u) = operate [.ref l, .int (biz (rk p x (k + 1)) (r + p ^ k * ((x - r * r).fdiv (p ^ k) * oth p r).fmod p) : Nat) u] (getItem (.ref l) (.int (biz (rk p x (k + 1)) (r + p ^ k * ((x - r * r).fdiv (p ^ k) * oth p r).fmod p) : Nat) u)) := by with_unfolding_all rfl) :
    wpAny (model prog w) A (subscriptTail value slice (.ref l) (.int (biz (rk p x (k + 1)) (r + p ^ k * ((x - r * r).fdiv (p ^ k) * oth p r).fmod p) : Nat) u)) Q E s := by
  have hb := rf.b1
  refine sub_ints N hm hI (by omega) (by omega) (by omega) (fun t => ?_) hs
  rw [Int.toNat_natCast, rf.b2]
  exact h t
local macro_rules | `(tactic| walk_at "MINE mex") => `(tactic| first | with_reducible assumption | exact List.mem_cons_self | (refine' mem3 ?mh ?ma ?mb ?mc; (case mh => with_reducible assumption); (case ma | mb | mc => walk_at "MINE mex")) | (refine List.mem_cons_of_mem _ ?_; walk_at "MINE mex"))
local macro_rules | `(tactic| k_mem) => `(tactic| walk_at "MINE mex")
theorem sub_tup1 {prog : Program} {w : World} {A : Around} {E : Value → Shared → Prop} {s : Shared} {h₀ : Heap} {L d : Addr} {news : List (Addr × Obj)} {value slice : PySem.Expr} {a b : Value} {u : Tok} {Q : Value → Shared → Prop}
    (N : News h₀ L s.heap news) (hm : (d, tup2 a b) ∈ news) (h : Q b s)
    (hs : subscripted slice false (.ref d) (.int 1 u) = operate [.ref d, .int 1 u] (getItem (.ref d) (.int 1 u)) := by with_unfolding_all rfl) :
    wpAny (model prog w) A (subscriptTail value slice (.ref d) (.int 1 u)) Q E s := by
  have ht : IsTup s.heap d #[a, b] := ⟨_, (N _ hm).1, rfl, _, rfl⟩
  exact tail_any ht.typeIs slot_tuple_getitem.lookup (getItem_tuple ht (by decide) (by decide) (j := 1) (by rfl) (by rfl) h) hs
theorem rf_f {p x r : Int} {k : Nat} (_ : RF p x k r) (hp : P2 p) : 0 ≤ ((x - r * r).fdiv (p ^ k) * oth p r).fmod p ∧ ((x - r * r).fdiv (p ^ k) * oth p r).fmod p ≤ 4 := by
  have hb := hp.bnd
  have h1 := Int.fmod_nonneg_of_pos ((x - r * r).fdiv (p ^ k) * oth p r) (show (0 : Int) < p by omega)
  have h2 := Int.fmod_lt_of_pos ((x - r * r).fdiv (p ^ k) * oth p r) (show (0 : Int) < p by omega)
  exact ⟨h1, by omega⟩
theorem sorted_L {prog : Program} {w : World} {A : Around} {E : Value → Shared → Prop} {s : Shared} {h₀ : Heap} {L l : Addr} {m : Str → Option Value} {news : List (Addr × Obj)} {vs : List Value} {ns : List Int} {n : Nat} {Q : Value → Shared → Prop}
    (F : Fr h₀ L s.heap m) (N : News h₀ L s.heap news) (hm : (l, listOf vs.toArray n) ∈ news) (hi : IntsAre vs ns) (ho : ns.Pairwise (· ≤ ·)) (hlen : ns.length < 64)
    (h : ∀ D vs' c h', Fr h₀ L h' m → News h₀ L h' ((D, listOf (List.toArray vs') c) :: news) → (∀ q ∈ news, q.1 < D) → IntsAre vs' ns → Q (.ref D) { s with heap := h' }) :
    wpAny (model prog w) A (call (.builtin "sorted") [.ref l]) Q E s :=
  kso_sorted F N ⟨_, (N _ hm).1, rfl, _, rfl⟩ hi hlen fun D vs' ns' c h' F' N' l' i' _ p' o' _ => h D vs' c h' F' N' l' (by rw [← ksm_same p' o' ho]; exact i')
theorem ne_same {prog : Program} {w : World} {A : Around} {E : Value → Shared → Prop} {s : Shared} {h₀ : Heap} {L a b : Addr} {news : List (Addr × Obj)} {vs us : List Value} {ns : List Int} {n k : Nat} {Q : Value → Shared → Prop}
    (N : News h₀ L s.heap news) (hm : (a, listOf vs.toArray n) ∈ news) (hi : IntsAre vs ns) (hb : (b, listOf us.toArray k) ∈ news) (hi' : IntsAre us ns) (hu : A.units + 64 < cLine)
    (h : Q (.bool false) s) : wpAny (model prog w) A (compareOp .NotEq (.ref a) (.ref b)) Q E s :=
  ne_intsK ⟨_, (N _ hm).1, rfl, n, rfl⟩ hi ⟨_, (N _ hb).1, rfl, k, rfl⟩ hi' hu (by rw [decide_eq_true rfl]; exact h)
theorem sum_L {prog : Program} {w : World} {A : Around} {E : Value → Shared → Prop} {s : Shared} {h₀ : Heap} {L l : Addr} {m : Str → Option Value} {news : List (Addr × Obj)} {vs : List Value} {ns : List Int} {n : Nat} {Q : Value → Shared → Prop}
    (F : Fr h₀ L s.heap m) (N : News h₀ L s.heap news) (hh : A.handled = none) (hm : (l, listOf vs.toArray n) ∈ news) (hi : IntsAre vs ns)
    (h : ∀ h' tk t', Fr h₀ L h' m → News h₀ L h' news → Q (.int ns.sum t') { s with heap := h', toks := tk }) : wpAny (model prog w) A (call (.builtin "sum") [.ref l]) Q E s :=
  LSm.sum_ints F N hh ⟨_, (N _ hm).1, rfl, _, rfl⟩ hi h

/-! the numbers told by powers -/
noncomputable def stiR (p : Int) : Nat → List Int
  | 0 => []
  | n + 1 => insZ (stiR p n) (pwZ (1 + (n : Int)) (p * p) p.toNat)
@[irreducible] noncomputable def sti (p : Int) (n : Nat) : List Int := stiR p n
theorem sti_zero (p : Int) : sti p 0 = [] := by unfold sti; rfl
theorem sti_succ (p : Int) (n : Nat) : sti p (n + 1) = insZ (sti p n) (pwZ (1 + (n : Int)) (p * p) p.toNat) := by unfold sti; rfl
theorem sti_len (p : Int) : ∀ n, (sti p n).length = n
  | 0 => by rw [sti_zero]; rfl
  | n + 1 => by rw [sti_succ, insZ_len, sti_len p n]
structure TF (p r : Int) : Prop where
  b0 : 0 ≤ pwZ r (p * p) p.toNat
  b1 : pwZ r (p * p) p.toNat ≤ 25
  m1 : (pwZ r (p * p) p.toNat).fmod p = r
  m2 : pwZ (pwZ r (p * p) p.toNat) (p * p) p.toNat = pwZ r (p * p) p.toNat
  m3 : pwZ (pwZ r (p * p) p.toNat) (p * p) (p - 1).toNat = 1
theorem tf_of {p r : Int} (hp : P2 p) (h1 : 1 ≤ r) (h2 : r < p) : TF p r := by
  rcases hp.cases with rfl | rfl
  · have e : r = 1 ∨ r = 2 := by omega
    rcases e with rfl | rfl <;> exact ⟨by decide +kernel, by decide +kernel, by decide +kernel, by decide +kernel, by decide +kernel⟩
  · have e : r = 1 ∨ r = 2 ∨ r = 3 ∨ r = 4 := by omega
    rcases e with rfl | rfl | rfl | rfl <;> exact ⟨by decide +kernel, by decide +kernel, by decide +kernel, by decide +kernel, by decide +kernel⟩
theorem pp_bnd {p : Int} (hp : P2 p) : 9 ≤ p * p ∧ p * p ≤ 25 := by
  rcases hp.cases with rfl | rfl <;> decide
/-- the told numbers so far -/
inductive StJ (p : Int) (S : Addr) (rest : List (Addr × Obj)) : Nat → (Str → Option Value) → List (Addr × Obj) → Prop
  | mk {i : Nat} {m : Str → Option Value} {vs : List Value} {e : Nat} (h : IntsAre vs (sti p i)) : StJ p S rest i m ((S, listOf vs.toArray e) :: rest)
theorem StJ.start {p : Int} (_ : P2 p) {S : Addr} {rest : List (Addr × Obj)} {m : Str → Option Value} {e : Nat} : StJ p S rest 0 m ((S, listOf (List.toArray []) e) :: rest) := .mk (by rw [sti_zero]; exact .nil)
theorem StJ.next {p : Int} {S : Addr} {rest : List (Addr × Obj)} {i : Nat} {m : Str → Option Value} {vs : List Value} {e : Nat} (h : IntsAre vs (insZ (sti p i) (pwZ (1 + (i : Int)) (p * p) p.toNat))) : StJ p S rest (i + 1) m ((S, listOf vs.toArray e) :: rest) := .mk (by rw [sti_succ]; exact h)
theorem st_len {p : Int} {vs : List Value} {i : Nat} (_ : IntsAre vs (sti p i)) : (sti p i).length = i := sti_len p i
theorem news_pick {h₀ h : Heap} {L : Addr} {x0 x1 x2 x3 x4 x5 x6 x7 x8 x9 x10 x11 : Addr × Obj} {wl : List (Addr × Obj)} (N : News h₀ L h (x0 :: x1 :: x2 :: x3 :: x4 :: x5 :: x6 :: x7 :: x8 :: x9 :: x10 :: x11 :: wl)) : News h₀ L h (x1 :: x6 :: x7 :: x11 :: wl) := fun p hp => N p (by
  simp only [List.mem_cons] at hp ⊢
  rcases hp with h | h | h | h | h <;> simp [h])
noncomputable def prodOk (p : Int) (l : List Int) : Bool := l.all fun a => l.all fun b => decide (0 ≤ a) && decide (a ≤ 25) && decide (0 ≤ b) && decide (b ≤ 25) && l.any fun x => x == (a * b).fmod (p * p)
theorem prod_ok {p : Int} (hp : P2 p) : prodOk p (sti p (p - 1).toNat) = true := by
  rcases hp.cases with rfl | rfl <;> decide +kernel
theorem prod_at {p a b : Int} {l : List Int} (h : prodOk p l = true) (ha : a ∈ l) (hb : b ∈ l) : 0 ≤ a ∧ a ≤ 25 ∧ 0 ≤ b ∧ b ≤ 25 ∧ (l.any fun x => x == (a * b).fmod (p * p)) = true := by
  unfold prodOk at h
  have h1 := List.all_eq_true.mp (List.all_eq_true.mp h a ha) b hb
  simp only [Bool.and_eq_true, decide_eq_true_eq] at h1
  exact ⟨h1.1.1.1.1, h1.1.1.1.2, h1.1.1.2, h1.1.2, h1.2⟩
theorem e8 : (rts 1 8 8).length = 4 ∧ (rts 3 8 8).length = 0 ∧ (rts 5 8 8).length = 0 ∧ (rts 7 8 8).length = 0 ∧ (rts 17 16 16).length = 4 := by decide +kernel
local macro_rules | `(tactic| walk_at "MINE rm") => `(tactic| first | (refine' Rm.tl ?h; (case h => k_all)) | (refine' Rm.hit ?b; (case b => walk_at "MINE rm")) | (refine' Rm.miss ?a ?b; (case a => first | assumption | (refine neN ?_; (try dsimp only); first | done | omega)); (case b => walk_at "MINE rm")))

noncomputable def lensR : Nat → List Int
  | 0 => []
  | n + 1 => lensR n ++ [((rts (2 * (n : Int) + 1) 8 (8 : Int).toNat).length : Int)]
@[irreducible] noncomputable def lens (n : Nat) : List Int := lensR n
theorem lens_zero : lens 0 = [] := by unfold lens; rfl
theorem lens_succ (n : Nat) : lens (n + 1) = lens n ++ [((rts (2 * (n : Int) + 1) 8 (8 : Int).toNat).length : Int)] := by unfold lens; rfl
theorem lens4 : lens 4 = [4, 0, 0, 0] := by decide +kernel
theorem r17 : (rts 17 16 (16 : Int).toNat).length = 4 := by decide +kernel
inductive EJ (base : List (Addr × Obj)) : Nat → List Value → List (Addr × Obj) → Prop
  | mk {i : Nat} {ys : List Value} (h : IntsAre ys (lens i)) : EJ base i ys base
theorem EJ.start (base : List (Addr × Obj)) : EJ base 0 [] base := .mk (by rw [lens_zero]; exact .nil)
theorem EJ.next {base : List (Addr × Obj)} {i : Nat} {ys : List Value} {t : Tok} (h : IntsAre ys (lens i)) : EJ base (i + 1) (ys ++ [.int ((rts (2 * (i : Int) + 1) 8 (8 : Int).toNat).length : Nat) t]) base := .mk (by rw [lens_succ]; exact h.append (.cons _ _ .nil))
theorem ev_item {i : Nat} {v : Value} {t1 t2 t3 t4 : Tok} (h : #[Value.int 1 t1, Value.int 3 t2, Value.int 5 t3, Value.int 7 t4][i]? = some v) : i < 4 ∧ ∃ t, v = .int (2 * (i : Int) + 1) t := by
  match i with
  | 0 => simp at h; exact ⟨by decide, _, h.symm⟩
  | 1 => simp at h; exact ⟨by decide, _, h.symm⟩
  | 2 => simp at h; exact ⟨by decide, _, h.symm⟩
  | 3 => simp at h; exact ⟨by decide, _, h.symm⟩
  | n + 4 => simp at h

theorem eq_lens {prog : Program} {w : World} {A : Around} {E : Value → Shared → Prop} {s : Shared} {h₀ : Heap} {L a b : Addr} {news : List (Addr × Obj)} {vs us : List Value} {n k : Nat} {Q : Value → Shared → Prop}
    (N : News h₀ L s.heap news) (hm : (a, listOf vs.toArray n) ∈ news) (hi : IntsAre vs (lens 4)) (hb : (b, listOf us.toArray k) ∈ news) (hi' : IntsAre us [4, 0, 0, 0]) (hu : A.units + 64 < cLine)
    (h : Q (.bool true) s) : wpAny (model prog w) A (compareOp .Eq (.ref a) (.ref b)) Q E s :=
  eq_intsK ⟨_, (N _ hm).1, rfl, n, rfl⟩ hi ⟨_, (N _ hb).1, rfl, k, rfl⟩ hi' hu (by rw [decide_eq_true lens4]; exact h)

set_option rowWalk.seconds 0 in
set_option maxHeartbeats 0 in
theorem law_ok : PySem.Challenge.rw_hl0003_02.Holds := Mine.hd (by
  k_go0
  all_goals (try k_fold)
  iterate 20 walk1
  with_reducible (k_here; (with_reducible refine gd_sL ?_); k_dflt (refine' sub_P2 ?k1v1 ?k2v1 ?k3v1 ?_ ?k7v1; (case k1v1 => k_asm); (case k2v1 => k_mem); (case k3v1 => exact .cons _ _ (.cons _ _ .nil)); (case k7v1 => with_unfolding_all rfl); k_whole); intro _ _ pp9v1; (have pc9v1 := pp9v1.bnd))
  iterate 19 walk1
  with_reducible (k_here; (with_reducible refine gd_sB ?_); k_dflt (refine' sub_first ?k1v2 ?k2v2 ?k3v2 ?k4v2 ?_ ?k7v2; (case k1v2 => k_asm); (case k2v2 => k_mem); (case k3v2 | k4v2 => assumption); (case k7v2 => with_unfolding_all rfl); k_whole); intro _ _)
  iterate 8 walk1
  rename Fr _ _ _ _ => F8
  rename News _ _ _ _ => N8
  rename P2 _ => pp
  k_dflt (refine' num_cut pp F8 N8 ?zznc ?zznk)
  case zznc =>
    iterate 10 walk1
    · iterate 4 walk1
      exact ⟨_, _, _, _, rfl, num_one pp (Int.fmod_nonneg_of_pos _ (by decide)) (Int.fmod_lt_of_pos _ (by decide)) (by assumption), rfl, by k_asm, by k_asm⟩
    · iterate 1 walk1
      exact ⟨_, _, _, _, rfl, num_same pp (Int.fmod_nonneg_of_pos _ (by decide)) (Int.fmod_lt_of_pos _ (by decide)) (by assumption), rfl, by k_asm, by k_asm⟩
  case zznk =>
    intro x tx h9 tk9 nx F9 N9
    obtain ⟨nx1, nx2, nx3⟩ := id nx
    clear N8 F8
    iterate 3 walk1
    rename News _ _ _ _ => N8
    have N9 := news_drop1 (news_drop1 (news_drop1 N8))
    clear N8
    iterate 2 (rename (_ < _ ∧ _ < _ ∧ _) => lx; clear lx)
    rename IntsAre _ (_ ++ _) => lx
    clear lx
    k_dflt (refine LCg.ListComp_U (F₀ := by k_asm) (by with_unfolding_all rfl) (by decide) (by rfl) (by decide) (by rfl) ?_)
    iterate 9 walk1
    rename News _ _ _ _ => N8
    have N9 := news_tabs9 N8
    clear N8
    rename News _ _ _ _ => N8
    rename P2 _ => pp
    rename Num _ _ => nx
    refine' LCg.CompSrc.ledger (its := #[_, _, _]) (by rfl) ?zzF N8 (.tail _ (.tail _ (.head _))) ?zzsz ?zzzz
    case zzF => k_asm
    case zzsz => rw [sizeLine_eq]; exact Nat.le_of_ble_eq_true rfl
    case zzzz =>
      intro g
      refine comp_ind (LvJ _ _ _) ?zzstep ?zzfin _ 0 _ _ (Nat.zero_add _) (LvJ.start nx)
      case zzstep =>
        intro i ys news hi hJ v I oI C oC D m₂ h tk E' hv hC hx F N off ne
        obtain ⟨tv, rfl⟩ := lv_item hv
        have hsub := hJ.sub
        have m1 := hsub _ (.head _)
        have m2 := hsub _ (.tail _ (.head _))
        have m3 := hsub _ (.tail _ (.tail _ (.head _)))
        have m4 := hsub _ (.tail _ (.tail _ (.tail _ (.head _))))
        have m5 := hsub _ (.tail _ (.tail _ (.tail _ (.tail _ (.head _)))))
        have m6 := hsub _ (.tail _ (.tail _ (.tail _ (.tail _ (.tail _ (.head _))))))
        have m7 := hsub _ (.tail _ (.tail _ (.tail _ (.tail _ (.tail _ (.tail _ (.head _)))))))
        clear hsub
        have hi3 : i < 3 := hi
        iterate 10 walk1
        with_reducible (k_here; (with_reducible refine pow_int_small ?kb1v3 ?kb2v3 ?kb3v3 ?_); (case kb1v3 | kb2v3 => omega); (case kb3v3 => omega))
        iterate 2 walk1
        refine' wpAny_mono (lv_call ?zzd1 ?zzd2 ?zzX ?zzB ?zzC1 ?zzC2 F N ?zzT ?zzK hJ hi3 pp nx off ?zzhb (.head _)) (fun _ _ q => q) (fun _ _ e => e)
        case zzd1 => exact Nat.le_of_ble_eq_true rfl
        case zzd2 => exact Nat.le_of_ble_eq_true rfl
        case zzX => k_asm
        case zzB => k_asm
        case zzC1 => assumption
        case zzC2 => assumption
        case zzT => k_asm
        case zzK => exact rfl
        case zzhb =>
          intro q hq
          simp only [List.mem_cons, List.not_mem_nil, or_false] at hq
          rcases hq with rfl | rfl | rfl | rfl | rfl | rfl | rfl <;> (dsimp only; exact ⟨neN (by omega), neN (by omega)⟩)
      case zzfin =>
        intro ys news hJ
        obtain ⟨l0, l1, l2, vs0, vs1, vs2, e0, e1, e2, wl, rfl, rfl, hw, hwf, lv⟩ := hJ.fin
        intro D h tk F N o1
        clear N8 hJ
        have N2 := news_fin4 N
        have o2 := off1_all o1
        clear N o1
        have w0 : ∀ q ∈ wl, q.1 ≠ D := fun q hq => o2 q (by simp [hq])
        have w1 := cell_off N2 (.tail _ (.tail _ (.tail _ (.tail _ (.head _))))) (by assumption) (by walk_at "MINE sub") hwf
        have w2 := cell_off N2 (.tail _ (.tail _ (.tail _ (.tail _ (.tail _ (.head _)))))) (by assumption) (by walk_at "MINE sub") hwf
        have w3 := cell_off N2 (.tail _ (.tail _ (.tail _ (.tail _ (.tail _ (.tail _ (.head _))))))) (by assumption) (by walk_at "MINE sub") hwf
        have w4 := cell_off N2 (.tail _ (.tail _ (.tail _ (.tail _ (.tail _ (.tail _ (.tail _ (.head _)))))))) (by assumption) (by walk_at "MINE sub") hwf
        have c0 : @LT.lt Nat _ _ l0 := lv.b0 _ (.tail _ (.head _))
        have c1 : @LT.lt Nat _ l0 l1 := lv.b1
        have c2 : @LT.lt Nat _ l1 l2 := lv.b2
        have d0 : @Ne Nat _ D := o2 (l0, _) (.tail _ (.tail _ (.head _)))
        have d1 : @Ne Nat _ D := o2 (l1, _) (.tail _ (.head _))
        have d2 : @Ne Nat _ D := o2 (l2, _) (.head _)
        have d3 : @Ne Nat _ D := o2 _ (.tail _ (.tail _ (.tail _ (List.mem_append_right _ (.tail _ (.head _))))))
        have d4 : @Ne Nat _ D := o2 _ (.tail _ (.tail _ (.tail _ (List.mem_append_right _ (.tail _ (.tail _ (.head _)))))))
        have d5 : @Ne Nat _ D := o2 _ (.tail _ (.tail _ (.tail _ (List.mem_append_right _ (.tail _ (.tail _ (.tail _ (.head _))))))))
        have d6 : @Ne Nat _ D := o2 _ (.tail _ (.tail _ (.tail _ (List.mem_append_right _ (.tail _ (.tail _ (.tail _ (.tail _ (.head _)))))))))
        have l3 := lv.l3
        dsimp only at c0 d0 d1 d2 d3 d4 d5 d6
        clear o2 lv hwf
        repeat (rename (_ < _ ∧ _ < _ ∧ _ < _ ∧ _) => lx; clear lx)
        have N3 : News _ _ _ ((D, listOf #[Value.ref l0, Value.ref l1, Value.ref l2] 3) :: _) := N2
        clear N2
        simp only [List.cons_append, List.nil_append] at N3
        rename (_ : Obj).data = .cell (some (.int (Int.fmod _ _) _)) => lx
        clear lx
        iterate 12 walk1
        k_dflt (refine LCg.ListComp_U (F₀ := by k_asm) (by with_unfolding_all rfl) (by decide) (by rfl) (by decide) (by rfl) ?_)
        iterate 9 walk1
        rename IsRange _ _ _ _ _ _ _ _ => hr2
        rename News _ _ _ _ => N3
        rename P2 _ => pp
        refine' LCg.CompSrc.range (by rfl) ?zzF2 N3 hr2 ?zzsm2 (rangeSize_nat _ _) ?zzsz2 ?zzzz2
        case zzF2 => k_asm
        case zzsm2 => exact small_one (by omega) (by omega) (by omega) (by omega)
        case zzsz2 => rw [sizeLine_eq]; omega
        case zzzz2 =>
          intro g2
          refine comp_ind (SqJ _ _) ?zzstep2 ?zzfin2 _ 0 _ _ (Nat.zero_add _) (SqJ.start pp _)
          case zzstep2 =>
            intro i2 ys2 news2 hi2 hJ v2 I2 oI2 C2 oC2 D2 m2 h2 tk2 E2 hv hC hx F2 N2 off2 ne2
            obtain ⟨tv, rfl⟩ := hv
            have m7 := hJ.sub _ (.tail _ (.tail _ (.tail _ (.tail _ (.tail _ (.tail _ (.tail _ (.tail _ (.tail _ (.head _))))))))))
            iterate 12 walk1
            refine kup_newTuple F2 N2 (fun T h3 F3 N3 l3 => ?_) (Nat.le_of_ble_eq_true rfl)
            exact hJ.endT F3 N3 l3 off2 rfl
          case zzfin2 =>
            intro ys2 news2 hJ
            have hp := hJ.fin
            have hsub := hJ.sub
            clear hJ
            unfold LCg.FinE
            intro D2 h2 tk2 F2 N2 o2
            iterate 1 walk1
            refine' dict_pairs_N ?zzhh F2 N2 ?zzbig (.head _) (hp.mono (sub_tl (fun _ h => h))) ?zzle (fun d o kvs h3 tk3 F3 N3 l3 lo hd hk => ?zzgo)
            case zzhh => rfl
            case zzbig =>
              rename Top topProg _ _ _ _ _ => tp
              exact modules_low tp.nolimit
            case zzle => rw [sqs_len]; omega
            case zzgo =>
              iterate 1 walk1
              refine' sorted_dictK ?zzhh F3 N3 (.head _) lo hd hk ?zzle2 ?zzgo2
              case zzhh => rfl
              case zzle2 => rw [sqs_len]; omega
              case zzgo2 =>
                intro S vsq nsq e3 h4 tk4 F4 N4 l4 iq pq
                have N5 := cb_drop N4 (fun q hq => by
                  rcases List.mem_cons.mp hq with h | hq
                  · rw [h]; exact .head _
                  · exact .tail _ (.tail _ (.tail _ (hsub q hq))))
                have l5 := fun q hq => l4 q (.tail _ (.tail _ (hsub q hq)))
                clear N2 N3 N4 l3 l4 hsub hk hd lo o2 hp F2 F3
                k_lt l5
                rename (List Int) => nsq
                rename IsRange _ _ _ _ _ _ _ _ => lx
                clear lx
                rename L3 _ _ _ _ _ => l3
                obtain ⟨j0, j1, j2⟩ := l3.rk
                rename P2 _ => pp
                rename Num _ _ => nx
                have fx := num_fx pp nx
                have fe1 := fx.e1
                iterate 10 walk1
                with_reducible (k_here; k_dflt (refine' sub_lit ?k1v4 ?k2v4 ?k3v4 ?k4v4 ?k5v4 ?_ ?k7v4; (case k1v4 => k_asm); (case k2v4 => k_mem); (case k3v4 | k4v4 => decide); (case k5v4 => exact rfl); (case k7v4 => with_unfolding_all rfl); k_whole))
                iterate 3 walk1
                with_reducible (k_here; k_dflt (refine' ne_nil_N ?a1v5 ?a2v5 ?a3v5 ?a4v5 ?a5v5 ?_; (case a1v5 => k_asm); (case a4v5 | a2v5 => k_mem); (case a3v5 => assumption); (case a5v5 => units_room); k_whole))
                iterate 8 walk1
                with_reducible (with_reducible refine' ne_sq ?fxv6 ?pqv6 ?_; (case fxv6 => assumption); (case pqv6 => assumption))
                iterate 4 walk1
                k_dflt (refine LCt.ListComp_T (F₀ := by k_asm) (by with_unfolding_all rfl) (by decide) (by rfl) (by decide) (by rfl) ?_)
                iterate 1 walk1
                rename News _ _ _ _ => N8
                have N9 := news_drop1 N8
                clear N8
                refine' LCt.CompSrcT.ledger (its := #[_, _, _]) (by rfl) ?zzF N9 (.tail _ (.head _)) ?zzsz ?zzzz
                case zzF => k_asm
                case zzsz => rw [sizeLine_eq]; exact Nat.le_of_ble_eq_true rfl
                case zzzz =>
                  intro g2
                  refine compT_ind (NoJ _) ?zzstep2 ?zzfin2 _ 0 _ _ (Nat.zero_add _) .mk
                  case zzstep2 =>
                    intro i2 ys2 news2 hi2 hJ v2 I2 oI2 C2 oC2 D2 m2 h2 tk2 E2 hv hC hx F2 N2 off2 ne2
                    cases hJ
                    obtain ⟨lx, vsx, ex, nsx, rfl, hmx, hIx, hlx⟩ := lev_item hv (.tail _ (.tail _ (.tail _ (.tail _ (.head _))))) (.tail _ (.tail _ (.tail _ (.head _)))) (.tail _ (.tail _ (.head _))) j0 j1 j2 fx
                    iterate 7 walk1
                    with_reducible (k_here; (with_reducible refine gd_r ?_); k_dflt (refine' len_ints ?Nv7 ?mv7 ?Iv7 ?fv7 ?_; (case Nv7 => k_asm); (case mv7 => k_mem); (case Iv7 => assumption); (case fv7 => omega)))
                    iterate 7 walk1
                    with_reducible (k_here; k_dflt (refine' sub_lit ?k1v8 ?k2v8 ?k3v8 ?k4v8 ?k5v8 ?_ ?k7v8; (case k1v8 => k_asm); (case k2v8 => k_mem); (case k3v8 | k4v8 => decide); (case k5v8 => exact rfl); (case k7v8 => with_unfolding_all rfl); k_whole))
                    iterate 1 walk1
                    with_reducible (k_here; (with_reducible refine gd_r ?_); k_dflt (refine' len_ints ?Nv9 ?mv9 ?Iv9 ?fv9 ?_; (case Nv9 => k_asm); (case mv9 => k_mem); (case Iv9 => assumption); (case fv9 => omega)))
                    iterate 3 walk1
                    refine' LCg.CompEnd.intro ?zzF3 ?zzN3 _ ?zzS3 off2 ?zzsrc .mk
                    case zzF3 => k_asm
                    case zzN3 => k_asm
                    case zzS3 => exact fun _ h => h
                    case zzsrc => exact .inr ⟨_, .tail _ (.head _), rfl, _, rfl⟩
                  case zzfin2 =>
                    intro ys2 news2 hJ
                    cases hJ
                    unfold LCg.FinE
                    intro D2 h2 tk2 F2 N2 o2
                    iterate 9 walk1
                    rename News _ _ _ _ => N8
                    have N10 := news_drop1 (news_drop1 (news_drop1 N8))
                    clear N8 o2 l3
                    rename List.Perm _ _ => lx
                    clear lx
                    repeat (rename IntsAre _ nsq => lx; clear lx)
                    iterate 3 (rename (_ < _ ∧ _ < _ ∧ _ < _ ∧ _) => lx; clear lx)
                    iterate 1 walk1
                    with_reducible (k_here; (rename Fr _ _ _ _ => lFv10); (with_unfolding_all refine' For_tgt lFv10 ?_); k_whole)
                    iterate 7 walk1
                    rename News _ _ _ _ => N8
                    rename P2 _ => pp
                    rename FX _ _ => fx
                    refine' ForSrc.intro (PoJJ _ _ _ _ _ _ _ _ _ _) (by rfl) ?zzF N8 (.head _) (fun I hI => ⟨pw12 (hI _ (.head _)), .mk (by assumption) (by assumption)⟩) ?zzstep ?zzfin
                    case zzF => k_asm
                    case zzstep =>
                      intro I v r m₁ news₁ hJ hmK off it h tk hit F N
                      obtain ⟨hW, hP⟩ := hJ
                      obtain ⟨hKI, hks⟩ := id hW
                      obtain ⟨k, tk9, rfl, k1, k2⟩ := hks _ (.head _)
                      have hWt := hW.tail
                      clear hks hW
                      cases hP
                      have oc1 : @Ne Nat _ I := off _ (.tail _ (.tail _ (.tail _ (.tail _ (.tail _ (.tail _ (.head _)))))))
                      have oc2 : @Ne Nat _ I := off _ (.tail _ (.tail _ (.tail _ (.tail _ (.tail _ (.tail _ (.tail _ (.head _))))))))
                      dsimp only at oc1 oc2
                      iterate 9 walk1
                      with_reducible (k_here; (with_reducible refine pow_int_small ?kb1v11 ?kb2v11 ?kb3v11 ?_); (case kb1v11 | kb2v11 => omega); (case kb3v11 => omega))
                      iterate 4 walk1
                      with_reducible (k_here; k_dflt (refine' sub_lev ?k1v12 ?k2v12 ?m0v12 ?m1v12 ?m2v12 ?i0v12 ?i1v12 ?i2v12 ?g0v12 ?g1v12 ?_ ?k7v12; (case k1v12 => k_asm); (case k2v12 => walk_at "MINE mex"); (case i0v12 | i1v12 | i2v12 => assumption); (case m0v12 | m1v12 | m2v12 => k_mem); (case g0v12 | g1v12 => omega); (case k7v12 => with_unfolding_all rfl); k_whole); intro _ _ _ _ _)
                      iterate 12 walk1
                      with_reducible (k_here; (rename Fr _ _ _ _ => lFv13); (with_unfolding_all refine' For_tgt lFv13 ?_); k_whole)
                      iterate 6 walk1
                      with_reducible (k_here; k_dflt (refine' sub_lev ?k1v14 ?k2v14 ?m0v14 ?m1v14 ?m2v14 ?i0v14 ?i1v14 ?i2v14 ?g0v14 ?g1v14 ?_ ?k7v14; (case k1v14 => k_asm); (case k2v14 => k_mem); (case i0v14 | i1v14 | i2v14 => assumption); (case m0v14 | m1v14 | m2v14 => k_mem); (case g0v14 | g1v14 => omega); (case k7v14 => with_unfolding_all rfl); k_whole); intro _ _ _ _ _)
                      rename IntsAre _ (rk _ _ ((k - 1).toNat + 1)) => ik
                      have ek : (k - 1).toNat + 1 = k.toNat := by omega
                      rw [ek] at ik
                      have hkn : k.toNat = 1 ∨ k.toNat = 2 := by omega
                      obtain ⟨pk1, pk2⟩ := pk_bnd pp hkn
                      rename News _ _ _ _ => N8
                      have N9 := news_drop1 N8
                      clear N8
                      rename News _ _ _ _ => N8
                      rename Fr _ _ _ _ => F8
                      refine' ForSrc.intro (InJJ _ _ _ _ _ _ _ _ _ _ _ _ _ _ _) (by rfl) F8 N8 ?zzhm (fun I hI => ⟨inw_start fx hkn ik (hI _ (.head _)) rfl rfl, .mk (by assumption)⟩) ?zzstep2 ?zzfin2
                      case zzhm => k_mem
                      case zzstep2 =>
                        intro I2 v2 r2 m₂ news₂ hJ2 hmK2 off2 it2 h2 tk2 hit2 F2 N2
                        obtain ⟨⟨hKI2, hrs, hmo, hmp⟩, hP2⟩ := hJ2
                        obtain ⟨ro, tr, rfl, rf⟩ := hrs.all _ (.head _)
                        have hrt := hrs.tail
                        cases hP2
                        rw [ordM_self hmo hmp] at F2
                        have oc3 : @Ne Nat _ I2 := off2 _ (.tail _ (.tail _ (.tail _ (.tail _ (.tail _ (.tail _ (.tail _ (.tail _ (.head _)))))))))
                        dsimp only at oc3 hKI2
                        clear hmo hmp hrs
                        have r0 := rf.r0
                        have r1 : ro ≤ 25 := Int.le_trans (Int.le_of_lt rf.r1) pk2
                        iterate 6 walk1
                        with_reducible (k_here; k_dflt (refine' callWith_K ?k1v15 ?k2v15 ?_; (case k1v15 => k_asm); (case k2v15 => k_is); k_whole))
                        iterate 12 walk1
                        with_reducible (k_here; (with_reducible refine gd_f 56 ?_); k_dflt (apply idm_warm; walk_at "MINE cb"; (case hw => assumption); (case hs => walk_at "MINE sub"); (case hx2 => first | with_reducible exact RF.d1 (by assumption) | with_reducible exact RF.d3 (by assumption)); (case hy | hy2 => walk_at "MINE arith"); (case hD => first | with_reducible exact RF.d2 (by assumption) | with_reducible exact RF.d4 (by assumption)); k_whole); intro _ _ _ _ _ _ _ _ _ l1v16 eq9v16 er9v16; (subst eq9v16 er9v16); (try k_lt l1v16); (try dsimp only); (try k_fold))
                        iterate 12 walk1
                        k_dflt (refine LCt.ListComp_T (F₀ := by k_asm) (by with_unfolding_all rfl) (by decide) (by rfl) (by decide) (by rfl) ?_)
                        iterate 7 walk1
                        rename IsRange _ _ _ _ _ _ _ _ => hr3
                        rename News _ _ _ _ => N3
                        refine' LCt.CompSrcT.range (by rfl) ?zzF3 N3 hr3 ?zzsm3 (rangeSize_nat _ _) ?zzsz3 ?zzzz3
                        case zzF3 => k_asm
                        case zzsm3 => exact small_one (by omega) (by omega) (by omega) (by omega)
                        case zzsz3 => rw [sizeLine_eq]; omega
                        case zzzz3 =>
                          intro g3
                          refine compT_ind (OthJ _ _ _) ?zzstep3 ?zzfin3 _ 0 _ _ (Nat.zero_add _) (OthJ.start rf _)
                          case zzstep3 =>
                            intro i3 ys3 news3 hi3 hJ3 v3 I3 oI3 C3 oC3 D3 m3 h3 tk3 E3 hv3 hC3 hx3 F3 N3 off3 ne3
                            obtain ⟨tv3, rfl⟩ := hv3
                            cases hJ3 with
                            | mk hys3 =>
                              iterate 15 walk1
                              · iterate 1 walk1
                                refine' LCg.CompEnd.intro ?zzF9 ?zzN9 _ ?zzS9 off3 trivial (OthJ.yes hys3 ?zza9)
                                case zzF9 => k_asm
                                case zzN9 => k_asm
                                case zzS9 => exact fun _ h => h
                                case zza9 => assumption
                              · refine' LCg.CompEnd.intro ?zzF9 ?zzN9 _ ?zzS9 off3 trivial (OthJ.no hys3 ?zza9)
                                case zzF9 => k_asm
                                case zzN9 => k_asm
                                case zzS9 => exact fun _ h => h
                                case zza9 => assumption
                          case zzfin3 =>
                            intro ys3 news3 hJ3
                            cases hJ3 with
                            | mk hys3 =>
                              unfold LCg.FinE
                              intro D3 h3 tk3 F3 N3 o3
                              rw [Int.sub_zero] at hys3
                              have pb9 := pp.bnd
                              obtain ⟨f0, f1⟩ := rf_f rf pp
                              have hl2 := (lf_of fx hkn).ln
                              have hz := rf.z
                              have hb1 := rf.b1
                              have l0 := rf.l0
                              have l1 := rf.l1
                              have o0 := rf.o0
                              have o1 := rf.o1
                              iterate 1 walk1
                              with_reducible (k_here; k_dflt (refine' sub_oth ?k1v17 ?k2v17 ?k3v17 ?k4v17 ?k5v17 ?_ ?k7v17; (case k1v17 => k_asm); (case k2v17 => k_mem); (case k3v17 | k4v17 | k5v17 => assumption); (case k7v17 => with_unfolding_all rfl); k_whole); intro _)
                              iterate 11 walk1
                              with_reducible (k_here; k_dflt (refine' callWith_K ?k1v18 ?k2v18 ?_; (case k1v18 => k_asm); (case k2v18 => k_is); k_whole))
                              iterate 9 walk1
                              with_reducible (k_here; (with_reducible refine gd_f 56 ?_); k_dflt (apply idm_warm; walk_at "MINE cb"; (case hw => assumption); (case hs => walk_at "MINE sub"); (case hx2 => first | with_reducible exact RF.d1 (by assumption) | with_reducible exact RF.d3 (by assumption)); (case hy | hy2 => walk_at "MINE arith"); (case hD => first | with_reducible exact RF.d2 (by assumption) | with_reducible exact RF.d4 (by assumption)); k_whole); intro _ _ _ _ _ _ _ _ _ l1v19 eq9v19 er9v19; (subst eq9v19 er9v19); (try k_lt l1v19); (try dsimp only); (try k_fold))
                              iterate 1 walk1
                              with_reducible (k_here; k_dflt (refine' sub_tup1 ?k1v20 ?k2v20 ?_ ?k7v20; (case k1v20 => k_asm); (case k2v20 => walk_at "MINE mex"); (case k7v20 => with_unfolding_all rfl); k_whole))
                              iterate 8 walk1
                              with_reducible (k_here; k_dflt (refine' callWith_K ?k1v21 ?k2v21 ?_; (case k1v21 => k_asm); (case k2v21 => k_is); k_whole))
                              iterate 6 walk1
                              with_reducible (k_here; (with_reducible refine gd_f 74 ?_); k_dflt (apply bz2_use; walk_at "MINE ca"; (case hl => k_mem); (case hP => assumption); (case hlen => omega); k_whole); intro _ _ _ _ _ _ evv22; (subst evv22); (try dsimp only); (try k_fold))
                              iterate 19 walk1
                              with_reducible (k_here; (with_reducible refine gd_r ?_); k_dflt (refine' len_ints ?Nv23 ?mv23 ?Iv23 ?fv23 ?_; (case Nv23 => k_asm); (case mv23 => k_mem); (case Iv23 => assumption); (case fv23 => omega)))
                              iterate 8 walk1
                              with_reducible (k_here; k_dflt (refine' sub_aft ?k1v24 ?k2v24 ?k3v24 ?k4v24 ?k5v24 ?_ ?k7v24; (case k1v24 => k_asm); (case k2v24 => k_mem); (case k3v24 | k4v24 | k5v24 => assumption); (case k7v24 => with_unfolding_all rfl); k_whole); intro _)
                              iterate 10 walk1
                              rename Fr _ _ _ _ => F9
                              refine' UnrEnd.intro F9 ?zzN9 (_ :: _ :: _ :: _ :: _ :: _ :: _ :: _ :: (_, _) :: _) ?zzS9 ?zzO9 ⟨?zzM9, ⟨⟨hKI2, hrt, rfl, rfl⟩, .mk ?zzD9⟩⟩
                              case zzN9 => k_asm
                              case zzS9 => walk_at "MINE sub"
                              case zzD9 => assumption
                              case zzM9 => k_mem
                              case zzO9 => exact InJ.off (.mk (by assumption)) (.mk (by assumption)) off2
                      case zzfin2 =>
                        intro I2 m₂ news₂ hJ2 h2 tk2 F2 N2
                        obtain ⟨⟨hKI2, hrs, hmo, hmp⟩, hP2⟩ := hJ2
                        cases hP2
                        rw [ordM_self hmo hmp] at F2
                        clear hmo hmp hrs
                        have lf := lf_of fx hkn
                        have hl2 := lf.ln
                        have hsm : (rk _ _ (k.toNat + 1)).length = 2 → (rk _ _ (k.toNat + 1)).sum = _ ^ (k + 1).toNat := fun q => by rw [toNat_succ (by omega)]; exact lf.sm q
                        iterate 11 walk1
                        with_reducible (k_here; k_dflt (refine' sorted_L ?Fv25 ?Nv25 ?hmv25 ?hiv25 ?hov25 ?hlenv25 ?_; (case Fv25 | Nv25 => k_asm); (case hmv25 => walk_at "MINE mex"); (case hiv25 => assumption); (case hov25 => exact LF.so (by assumption)); (case hlenv25 => omega); k_whole); intro _ _ _ _ _ _ l1v25 _; (try k_lt l1v25))
                        with_reducible (k_here; k_dflt (refine' ne_same ?a1v26 ?a2v26 ?a3v26 ?a4v26 ?a5v26 ?a6v26 ?_; (case a1v26 => k_asm); (case a2v26 | a4v26 => walk_at "MINE mex"); (case a3v26 | a5v26 => assumption); (case a6v26 => units_room); k_whole))
                        iterate 11 walk1
                        with_reducible (k_here; (with_reducible refine gd_r ?_); k_dflt (refine' len_ints ?Nv27 ?mv27 ?Iv27 ?fv27 ?_; (case Nv27 => k_asm); (case mv27 => k_mem); (case Iv27 => assumption); (case fv27 => omega)))
                        iterate 4 walk1
                        · have hse := hsm (by omega)
                          clear hsm
                          iterate 8 walk1
                          with_reducible (k_here; k_dflt (refine' sum_L ?Fv28 ?Nv28 ?hhv28 ?hmv28 ?hiv28 ?_; (case Fv28 | Nv28 => k_asm); (case hhv28 => exact rfl); (case hmv28 => walk_at "MINE mex"); (case hiv28 => assumption); k_whole); intro _ _ _ _ _)
                          iterate 6 walk1
                          with_reducible (k_here; (with_reducible refine pow_int_small ?kb1v29 ?kb2v29 ?kb3v29 ?_); (case kb1v29 | kb2v29 => omega); (case kb3v29 => omega))
                          k_steps
                          rename Fr _ _ _ _ => F9
                          refine' UnrEnd.intro F9 ?zzN9 (_ :: _ :: _ :: _ :: _ :: _ :: (_, _) :: (_, _) :: _) ?zzS9 ?zzO9 ⟨?zzM9, ⟨hWt, .mk ?zzD8 ?zzD9⟩⟩
                          case zzN9 => k_asm
                          case zzS9 => walk_at "MINE sub"
                          case zzD8 => assumption
                          case zzD9 => assumption
                          case zzM9 => k_mem
                          case zzO9 => exact PoJ.off (.mk (by assumption) (by assumption)) (.mk (by assumption) (by assumption)) off
                        · clear hsm
                          k_steps
                          rename Fr _ _ _ _ => F9
                          refine' UnrEnd.intro F9 ?zzN9 (_ :: _ :: _ :: _ :: _ :: _ :: (_, _) :: (_, _) :: _) ?zzS9 ?zzO9 ⟨?zzM9, ⟨hWt, .mk ?zzD8 ?zzD9⟩⟩
                          case zzN9 => k_asm
                          case zzS9 => walk_at "MINE sub"
                          case zzD8 => assumption
                          case zzD9 => assumption
                          case zzM9 => k_mem
                          case zzO9 => exact PoJ.off (.mk (by assumption) (by assumption)) (.mk (by assumption) (by assumption)) off
                    case zzfin =>
                      intro I m₁ news₁ hJ h tk F N
                      obtain ⟨_, hP⟩ := hJ
                      cases hP
                      have N9 := news_drop1 N
                      clear N N8
                      iterate 2 walk1
                      iterate 18 walk1
                      rename News _ _ _ _ => N8
                      have N9 := news_pick N8
                      clear N8
                      rename P2 _ => pp
                      obtain ⟨pq1, pq2⟩ := pp_bnd pp
                      iterate 4 walk1
                      with_reducible (k_here; (rename Fr _ _ _ _ => lFv30); (with_unfolding_all refine' For_invVF lFv30 ?k1v30 ?k2v30 ?_; (case k1v30 | k2v30 => exact rfl); k_whole))
                      iterate 9 walk1
                      with_reducible ((with_reducible refine gd_it ?_); k_dflt (refine' iter_rangeUnr ?hhv31 ?hrv31 ?smv31 ?hnv31 ?Fv31 ?Nv31 ?_; (case hhv31 => exact rfl); (case hrv31 => assumption); (case smv31 => exact small_one (by omega) (by omega) (by omega) (by omega)); (case hnv31 => exact rangeSize_nat _ _); (case Fv31 => k_asm); (case Nv31 => k_asm)); intro _ lI9v31; (try k_lt lI9v31))
                      refine range_ind (StJ _ _ _) ?zzstep ?zzfin _ 0 _ _ (Nat.zero_add _) (StJ.start pp)
                      case zzstep =>
                        intro i m1 news1 hi hJ t h tk F N
                        cases hJ with
                        | mk hI =>
                          have hl := st_len hI
                          have tf := tf_of pp (r := 1 + (i : Int)) (by omega) (by omega)
                          obtain ⟨b0, b1, t1, t2, t3⟩ := tf
                          iterate 4 walk1
                          with_reducible (k_here; k_dflt (refine' callWith_K ?k1v32 ?k2v32 ?_; (case k1v32 => k_asm); (case k2v32 => k_is); k_whole))
                          iterate 8 walk1
                          with_reducible (k_here; (with_reducible refine gd_f 88 ?_); k_dflt (apply lq_use; walk_at "MINE cb"; (case hw => assumption); (case hs => walk_at "MINE sub"); (case hx | hx2 | hn | hn2 | hy | hy2 => omega); k_whole); intro _ _ _ _ _ _ e9v33 _ _; (subst e9v33); (try dsimp only); (try k_fold))
                          iterate 17 walk1
                          with_reducible (k_here; k_dflt (refine' callWith_K ?k1v34 ?k2v34 ?_; (case k1v34 => k_asm); (case k2v34 => k_is); k_whole))
                          iterate 8 walk1
                          with_reducible (k_here; (with_reducible refine gd_f 88 ?_); k_dflt (apply lq_use; walk_at "MINE cb"; (case hw => assumption); (case hs => walk_at "MINE sub"); (case hx | hx2 | hn | hn2 | hy | hy2 => omega); k_whole); intro _ _ _ _ _ _ e9v35 _ _; (subst e9v35); (try dsimp only); (try k_fold))
                          iterate 8 walk1
                          with_reducible (k_here; k_dflt (refine' callWith_K ?k1v36 ?k2v36 ?_; (case k1v36 => k_asm); (case k2v36 => k_is); k_whole))
                          iterate 11 walk1
                          with_reducible (k_here; (with_reducible refine gd_f 88 ?_); k_dflt (apply lq_use; walk_at "MINE cb"; (case hw => assumption); (case hs => walk_at "MINE sub"); (case hx | hx2 | hn | hn2 | hy | hy2 => omega); k_whole); intro _ _ _ _ _ _ e9v37 _ _; (subst e9v37); (try dsimp only); (try k_fold))
                          iterate 12 walk1
                          with_reducible (k_here; k_dflt (refine' callWith_K ?k1v38 ?k2v38 ?_; (case k1v38 => k_asm); (case k2v38 => k_is); k_whole))
                          iterate 6 walk1
                          with_reducible (k_here; (with_reducible refine gd_f 65 ?_); k_dflt (apply inz_use; walk_at "MINE ca"; (case hl => k_mem); (case R => walk_at "MINE rm"); (case hP => assumption); (case hlen => omega); k_whole); intro _ _ _ _ _ _ _; (try dsimp only); (try k_fold))
                          k_steps
                          rename Fr _ _ _ _ => F9
                          refine' UnrEnd.intro F9 ?zzN9 ((_, _) :: _) ?zzS9 ?zzO9 (StJ.next (by assumption))
                          case zzN9 => k_asm
                          case zzS9 => walk_at "MINE sub"
                          case zzO9 => refine' List.forall_mem_cons.mpr ⟨?zza1, ?zzb1⟩; (case zza1 => k_ne); (case zzb1 => refine' List.forall_mem_cons.mpr ⟨?zza2, ?zzb2⟩; (case zza2 => k_ne); (case zzb2 => refine' List.forall_mem_cons.mpr ⟨?zza3, ?zzb3⟩; (case zza3 => k_ne); (case zzb3 => refine' List.forall_mem_cons.mpr ⟨?zza4, ?zzb4⟩; (case zza4 => k_ne); (case zzb4 => first | (tbn_letter; refine tbn_neAll ?_; tbn_find) | k_all))))
                      case zzfin =>
                        intro m1 news1 hJ h tk F N
                        cases hJ with
                        | mk hI =>
                          have hl := st_len hI
                          have hpr := prod_ok pp
                          iterate 10 walk1
                          with_reducible (k_here; k_dflt (refine' len_ints ?Nv40 ?mv40 ?Iv40 ?fv40 ?_; (case Nv40 => k_asm); (case mv40 => k_mem); (case Iv40 => assumption); (case fv40 => omega)))
                          iterate 9 walk1
                          rename P2 _ => pp
                          rename prodOk _ _ = true => hpr
                          k_dflt (refine ListComp_two (by k_asm) (by with_unfolding_all rfl) (by decide) (by rfl) (by decide) (by rfl) (by rfl) (by decide) ?_)
                          iterate 1 walk1
                          rename News _ _ _ _ => N8
                          rename Fr _ _ _ _ => F8
                          rename IntsAre _ (sti _ _) => hI8
                          refine' ⟨_, _, _, _, rfl, by rfl, F8, N8, .head _, ?zzt1, ?zzt2, ?zzfin⟩
                          case zzt1 =>
                            intro v I oI C oC D m₂ h tk E' hv nC hx F N
                            iterate 1 walk1
                            exact ⟨rfl, _, _, rfl, F, N⟩
                          case zzt2 =>
                            intro v v' I oI J oJ C oC D m₂ h tk E' hv hv' nC hx hy F N
                            obtain ⟨a, ta, rfl, ha⟩ := ints_mem hI8 v hv
                            obtain ⟨b, tb, rfl, hb⟩ := ints_mem hI8 v' hv'
                            obtain ⟨a0, a1, b0, b1, hin⟩ := prod_at hpr ha hb
                            iterate 12 walk1
                            exact ⟨by rw [hin]; rfl, _, _, rfl, F, N⟩
                          case zzfin =>
                            intro D h tk F N o1
                            iterate 8 walk1
                            rename News _ _ _ _ => N7
                            have N9 := news_drop1 (news_drop1 N7)
                            clear N7
                            iterate 2 walk1
                            k_dflt (refine LCg.Assign_ListComp_U (F₀ := by k_asm) (by rfl) (by with_unfolding_all rfl) (by with_unfolding_all rfl) (by decide) (by rfl) (by decide) (by rfl) (by rfl) (by rfl) ?_)
                            iterate 11 walk1
                            rename News _ _ _ _ => N7
                            refine' LCg.CompSrc.ledger (its := #[_, _, _, _]) (by rfl) ?zzF N7 (.head _) ?zzsz ?zzzz
                            case zzF => k_asm
                            case zzsz => rw [sizeLine_eq]; exact Nat.le_of_ble_eq_true rfl
                            case zzzz =>
                              intro g
                              refine comp_ind (EJ _) ?zzstep ?zzfin2 _ 0 _ _ (Nat.zero_add _) (EJ.start _)
                              case zzstep =>
                                intro i ys news hi hJ v I oI C oC D m₂ h tk E' hv hC hx F N off ne
                                obtain ⟨hi4, tv, rfl⟩ := ev_item hv
                                cases hJ with
                                | mk hys =>
                                  iterate 7 walk1
                                  with_reducible (k_here; k_dflt (refine' callWith_K ?k1v41 ?k2v41 ?_; (case k1v41 => k_asm); (case k2v41 => k_is); k_whole))
                                  iterate 6 walk1
                                  with_reducible (k_here; (with_reducible refine gd_f 81 ?_); k_dflt (apply rt_warm; walk_at "MINE cb"; (case hw => assumption); (case hs => walk_at "MINE sub"); (case hx | hx2 | hy | hy2 => omega); k_whole); intro _ _ _ _ _ _ _ l1v42 _; (try k_lt l1v42); (try dsimp only); (try k_fold))
                                  iterate 1 walk1
                                  with_reducible (k_here; k_dflt (refine' len_ints ?Nv43 ?mv43 ?Iv43 ?fv43 ?_; (case Nv43 => k_asm); (case mv43 => k_mem); (case Iv43 => assumption); (case fv43 => exact Nat.le_trans (rts_len _ _ _) (by decide))))
                                  refine' LCg.CompEnd.intro ?zzF3 ?zzN3 _ ?zzS3 off ?zzsrc (EJ.next hys)
                                  case zzF3 => k_asm
                                  case zzN3 => k_asm
                                  case zzS3 => walk_at "MINE sub"
                                  case zzsrc => exact .inr ⟨_, .head _, rfl, _, rfl⟩
                              case zzfin2 =>
                                intro ys news hJ
                                cases hJ with
                                | mk hys =>
                                  unfold LCg.FinA
                                  intro D2 h2 tk2 F2 N2 o2
                                  have h17 := r17
                                  iterate 16 walk1
                                  with_reducible (k_here; k_dflt (refine' eq_lens ?a1v44 ?a2v44 ?a3v44 ?a4v44 ?a5v44 ?a6v44 ?_; (case a1v44 => k_asm); (case a2v44 | a4v44 => walk_at "MINE mex"); (case a3v44 => assumption); (case a5v44 => exact .cons _ _ (.cons _ _ (.cons _ _ (.cons _ _ .nil)))); (case a6v44 => units_room); k_whole))
                                  iterate 10 walk1
                                  with_reducible (k_here; k_dflt (refine' callWith_K ?k1v45 ?k2v45 ?_; (case k1v45 => k_asm); (case k2v45 => k_is); k_whole))
                                  iterate 6 walk1
                                  with_reducible (k_here; (with_reducible refine gd_f 81 ?_); k_dflt (apply rt_warm; walk_at "MINE cb"; (case hw => assumption); (case hs => walk_at "MINE sub"); (case hx | hx2 | hy | hy2 => omega); k_whole); intro _ _ _ _ _ _ _ l1v46 _; (try k_lt l1v46); (try dsimp only); (try k_fold))
                                  iterate 1 walk1
                                  with_reducible (k_here; k_dflt (refine' len_ints ?Nv47 ?mv47 ?Iv47 ?fv47 ?_; (case Nv47 => k_asm); (case mv47 => k_mem); (case Iv47 => assumption); (case fv47 => exact Nat.le_trans (rts_len _ _ _) (by decide))))
                                  iterate 2 walk1
                                  rename Warm _ => hww
                                  rename News _ _ _ _ => N4
                                  rename Fr _ _ _ _ => F4
                                  rw [show (((rts 17 16 (Int.toNat 16)).length : Int) == 4) = true from by rw [h17]; rfl]
                                  refine ⟨goodW_bool F4 (by assumption) (raisesW_false ?_) ?_, grown_of N4 hww (by walk_at "MINE sub")⟩
                                  · exact allW_false_nil
                                  · exact law_post _)
end
end Mine
set_option maxRecDepth 100000 in
set_option maxHeartbeats 8000000 in
theorem PySem.Challenge.cw_hl0003_02_holds : PySem.Challenge.rw_hl0003_02.Holds := by
  exact Mine.law_ok
