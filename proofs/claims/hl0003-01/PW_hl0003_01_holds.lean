import PyProof.Rows.All
import Wide.All
import OpenK.AllK
import Wide.FinOn
import Lean
import PySem.Challenge.RW_hl0003_01
open PySem PySem.W PySem.Calls PyProof.Rows
set_option Elab.async false
set_option maxRecDepth 100000
set_option maxHeartbeats 8000000
set_option rowWalk.seconds 0
set_option compiler.extract_closed false
namespace Mine
open_top hd for PySem.Challenge.rw_hl0003_01
theorem walk_off : True := by
  w_top off
  trivial
section
variable {M : Model} {A : Around} {E : Value → Shared → Prop} {s : Shared}
theorem gd_ii {f a b c d} {Q : Value → Shared → Prop} (h : wpAny M A (call (Value.builtin f) [Value.int a b, Value.int c d]) Q E s) : wpAny M A (call (Value.builtin f) [Value.int a b, Value.int c d]) Q E s := h
theorem gd_ri {f a b c} {Q : Value → Shared → Prop} (h : wpAny M A (call (Value.builtin f) [Value.ref a, Value.int b c]) Q E s) : wpAny M A (call (Value.builtin f) [Value.ref a, Value.int b c]) Q E s := h
theorem gd_rv {f a v} {Q : Value → Shared → Prop} (h : wpAny M A (call (Value.builtin f) [Value.ref a, v]) Q E s) : wpAny M A (call (Value.builtin f) [Value.ref a, v]) Q E s := h
theorem gd_r {f a} {Q : Value → Shared → Prop} (h : wpAny M A (call (Value.builtin f) [Value.ref a]) Q E s) : wpAny M A (call (Value.builtin f) [Value.ref a]) Q E s := h
theorem gd_f (n : Nat) {xs} {Q : Value → Shared → Prop} (h : wpAny M A (call (Value.ref n) xs) Q E s) : wpAny M A (call (Value.ref n) xs) Q E s := h
theorem gd_it {r p w B h0 e x b Q R} (h : wpAny M A (pyIter (Value.ref r)) (fun it s₂ => LoopAtV p w B h0 e x b Q R it s₂) E s) : wpAny M A (pyIter (Value.ref r)) (fun it s₂ => LoopAtV p w B h0 e x b Q R it s₂) E s := h
theorem gd_sL {a b c d e f} {Q : Value → Shared → Prop} (h : wpAny M A (subscriptTail (PySem.Expr.List a b) c (Value.ref d) (Value.int e f)) Q E s) : wpAny M A (subscriptTail (PySem.Expr.List a b) c (Value.ref d) (Value.int e f)) Q E s := h
theorem gd_sB {a b c d e f g i} {Q : Value → Shared → Prop} (h : wpAny M A (subscriptTail (PySem.Expr.BinOp a b c d) e (Value.ref f) (Value.int g i)) Q E s) : wpAny M A (subscriptTail (PySem.Expr.BinOp a b c d) e (Value.ref f) (Value.int g i)) Q E s := h
theorem gd_sNN {a b c d e f g} {Q : Value → Shared → Prop} (h : wpAny M A (subscriptTail (PySem.Expr.Name a b) (PySem.Expr.Name c d) (Value.ref e) (Value.int f g)) Q E s) : wpAny M A (subscriptTail (PySem.Expr.Name a b) (PySem.Expr.Name c d) (Value.ref e) (Value.int f g)) Q E s := h
theorem gd_sN {a c d e f g} {Q : Value → Shared → Prop} (h : wpAny M A (subscriptTail a (PySem.Expr.Name c d) (Value.ref e) (Value.int f g)) Q E s) : wpAny M A (subscriptTail a (PySem.Expr.Name c d) (Value.ref e) (Value.int f g)) Q E s := h
theorem gd_sS {a b c d e} {Q : Value → Shared → Prop} (h : wpAny M A (subscriptTail a (PySem.Expr.Slice none none (some b) c) (Value.ref d) (Value.ref e)) Q E s) : wpAny M A (subscriptTail a (PySem.Expr.Slice none none (some b) c) (Value.ref d) (Value.ref e)) Q E s := h
theorem gd_s {a b d e f} {Q : Value → Shared → Prop} (h : wpAny M A (subscriptTail a b (Value.ref d) (Value.int e f)) Q E s) : wpAny M A (subscriptTail a b (Value.ref d) (Value.int e f)) Q E s := h
theorem gd_t {a} {Q : Bool → Shared → Prop} (h : wpAny M A (truthy (Value.ref a)) Q E s) : wpAny M A (truthy (Value.ref a)) Q E s := h
end
section

theorem pow_cast (s : Nat) : (2 : Int) ^ s = ((2 ^ s : Nat) : Int) := by
  rw [Int.natCast_pow]; rfl
theorem up_eq (x : Int) (hx : 0 ≤ x) (s : Nat) : x.fdiv (2 ^ s) = ((x.toNat / 2 ^ s : Nat) : Int) := by
  obtain ⟨X, rfl⟩ := Int.eq_ofNat_of_zero_le hx
  rw [pow_cast, Int.fdiv_eq_ediv_of_nonneg _ (Int.natCast_nonneg _)]
  rfl
theorem and_up (X s : Nat) : X &&& (X / 2 ^ s * 2 ^ s) = X / 2 ^ s * 2 ^ s := by
  rw [← Nat.shiftRight_eq_div_pow, ← Nat.shiftLeft_eq]
  apply Nat.eq_of_testBit_eq
  intro i
  rw [Nat.testBit_and, Nat.testBit_shiftLeft, Nat.testBit_shiftRight]
  by_cases h : i ≥ s
  · rw [show s + (i - s) = i by omega]; simp [h]
  · simp [h]
theorem low_eq (x : Int) (hx : 0 ≤ x) (s : Nat) : Builtin.bitXor x (x.fdiv (2 ^ s) * 2 ^ s) = ((x.toNat % 2 ^ s : Nat) : Int) := by
  rw [up_eq x hx, pow_cast, ← Int.natCast_mul]
  obtain ⟨X, rfl⟩ := Int.eq_ofNat_of_zero_le hx
  rw [bitXor_and, bitAnd_pp (by omega) (by omega)]
  simp only [Int.toNat_natCast]
  rw [and_up]
  have h1 := Nat.div_add_mod X (2 ^ s)
  rw [Nat.mul_comm] at h1
  omega

/-- k digits of n bits, the least first; the last keeps what is left -/
noncomputable def digs (n : Nat) : Nat → Nat → List Int
  | 0, _ => []
  | 1, x => [(x : Int)]
  | k + 2, x => ((x % 2 ^ n : Nat) : Int) :: digs n (k + 1) (x / 2 ^ n)
theorem digs_len (n : Nat) : ∀ k x, (digs n k x).length = k
  | 0, _ => rfl
  | 1, _ => rfl
  | k + 2, x => by unfold digs; rw [List.length_cons, digs_len n (k + 1)]
theorem digs_step (n k x : Nat) (h : 0 < k) : digs n (k + 1) x = ((x % 2 ^ n : Nat) : Int) :: digs n k (x / 2 ^ n) := by
  cases k with
  | zero => exact absurd h (Nat.lt_irrefl _)
  | succ k => rfl
theorem digs_app (n k : Nat) (hk : 0 < k) : ∀ (j x : Nat), 0 < j → digs n j (x % 2 ^ (n * j)) ++ digs n k (x / 2 ^ (n * j)) = digs n (j + k) x
  | 0, _, h => absurd h (Nat.lt_irrefl _)
  | 1, x, _ => by
    rw [Nat.mul_one, Nat.add_comm, digs_step n k x hk]; rfl
  | j + 2, x, _ => by
    have ih := digs_app n k hk (j + 1) (x / 2 ^ n) (Nat.succ_pos _)
    rw [show j + 2 + k = (j + 1 + k) + 1 by omega, digs_step n (j + 1 + k) x (by omega), ← ih]
    have e : 2 ^ (n * (j + 2)) = 2 ^ n * 2 ^ (n * (j + 1)) := by rw [← Nat.pow_add]; congr 1; rw [Nat.mul_add, Nat.mul_add]; omega
    show ((x % 2 ^ (n * (j + 2)) % 2 ^ n : Nat) : Int) :: digs n (j + 1) (x % 2 ^ (n * (j + 2)) / 2 ^ n) ++ _ = _
    rw [e, Nat.mod_mul_right_mod, Nat.mod_mul_right_div_self, Nat.div_div_eq_div_mul]
    rfl

theorem ns_join (ns A B : List Int) (lo mid hi : Nat) (h1 : lo ≤ mid) (h2 : mid ≤ hi) (h3 : hi ≤ ns.length) (hA : A.length = mid - lo) :
    (ns.take lo ++ A ++ ns.drop mid).take mid ++ B ++ (ns.take lo ++ A ++ ns.drop mid).drop hi = ns.take lo ++ (A ++ B) ++ ns.drop hi := by
  have hl : (ns.take lo ++ A).length = mid := by rw [List.length_append, List.length_take, hA]; omega
  rw [List.take_append_of_le_length (by omega), List.take_of_length_le (by omega), List.drop_append, List.drop_of_length_le (by omega), hl, List.nil_append, List.drop_drop]
  rw [show mid + (hi - mid) = hi by omega]
  simp [List.append_assoc]
theorem ns_leaf (ns : List Int) (x : Int) (lo : Nat) (h : lo < ns.length) : ns.set lo x = ns.take lo ++ [x] ++ ns.drop (lo + 1) := by
  rw [List.set_eq_take_append_cons_drop, if_pos h]; simp

/-- the number of the digits -/
noncomputable def dval (n : Nat) : List Int → Int
  | [] => 0
  | d :: r => d + 2 ^ n * dval n r
theorem dval_app (n : Nat) (ys : List Int) : ∀ xs : List Int, dval n (xs ++ ys) = dval n xs + 2 ^ (n * xs.length) * dval n ys
  | [] => by simp [dval]
  | x :: r => by
    rw [List.cons_append, dval, dval, dval_app n ys r, List.length_cons, Nat.mul_add, Nat.mul_one, Int.pow_add, Int.mul_add]
    rw [Int.mul_comm (2 ^ (n * r.length)) (2 ^ n), Int.mul_assoc, Int.add_assoc]
theorem dval_digs (n : Nat) : ∀ k x, 0 < k → dval n (digs n k x) = x
  | 0, _, h => absurd h (Nat.lt_irrefl _)
  | 1, x, _ => by simp [digs, dval]
  | k + 2, x, _ => by
    unfold digs
    rw [dval, dval_digs n (k + 1) _ (Nat.succ_pos _), pow_cast, ← Int.natCast_mul, ← Int.natCast_add]
    congr 1
    exact Nat.mod_add_div x (2 ^ n)
theorem digs_bound (n : Nat) : ∀ k x, x < 2 ^ (n * k) → ∀ d ∈ digs n k x, 0 ≤ d ∧ d < 2 ^ n
  | 0, _, _, d, hd => by simp [digs] at hd
  | 1, x, h, d, hd => by
    simp only [digs, List.mem_singleton] at hd
    subst hd
    rw [Nat.mul_one] at h
    rw [pow_cast]
    omega
  | k + 2, x, h, d, hd => by
    unfold digs at hd
    rcases List.mem_cons.mp hd with rfl | hd
    · rw [pow_cast]
      have := Nat.mod_lt x (Nat.two_pow_pos n)
      omega
    · refine digs_bound n (k + 1) _ ?_ d hd
      rw [Nat.div_lt_iff_lt_mul (Nat.two_pow_pos n), ← Nat.pow_add]
      exact Nat.lt_of_lt_of_eq h (congrArg (2 ^ ·) (Nat.mul_succ n (k + 1)))

/-- the long division: the greatest digit first -/
noncomputable def ldiv (n : Nat) (b : Int) : List Int → List Int × Int
  | [] => ([], 0)
  | d :: r => ((((ldiv n b r).2 * 2 ^ n + d).fdiv b) :: (ldiv n b r).1, ((ldiv n b r).2 * 2 ^ n + d).fmod b)
theorem ldiv_ok (n : Nat) (b : Int) (hb : 0 < b) : ∀ ds : List Int, dval n (ldiv n b ds).1 * b + (ldiv n b ds).2 = dval n ds ∧ 0 ≤ (ldiv n b ds).2 ∧ (ldiv n b ds).2 < b
  | [] => by simp [ldiv, dval, hb]
  | d :: r => by
    have ih := (ldiv_ok n b hb r).1
    simp only [ldiv, dval]
    generalize (ldiv n b r).2 = q at *
    generalize (ldiv n b r).1 = l at *
    have h := Int.fmod_add_mul_fdiv (q * 2 ^ n + d) b
    refine ⟨?_, Int.fmod_nonneg_of_pos _ hb, Int.fmod_lt_of_pos _ hb⟩
    rw [← ih, Int.add_mul, Int.mul_add]
    have e1 : b * (q * 2 ^ n + d).fdiv b = (q * 2 ^ n + d).fdiv b * b := Int.mul_comm _ _
    have e2 : 2 ^ n * (dval n l * b) = 2 ^ n * dval n l * b := (Int.mul_assoc _ _ _).symm
    have e3 : 2 ^ n * q = q * 2 ^ n := Int.mul_comm _ _
    omega
theorem divmod_uniq {a b q r : Int} (hb : 0 < b) (h : q * b + r = a) (h0 : 0 ≤ r) (h1 : r < b) : a.fdiv b = q ∧ a.fmod b = r := by
  rw [Int.fdiv_eq_ediv_of_nonneg _ (Int.le_of_lt hb), Int.fmod_eq_emod_of_nonneg _ (Int.le_of_lt hb)]
  subst h
  constructor
  · rw [Int.add_comm, Int.add_mul_ediv_right _ _ (by omega), Int.ediv_eq_zero_of_lt h0 h1, Int.zero_add]
  · rw [Int.add_comm, Int.add_mul_emod_self_right, Int.emod_eq_of_lt h0 h1]

theorem bits_le (x : Int) (hx : 0 ≤ x) (k : Nat) (h : x < 2 ^ k) : Builtin.Int.intBits x ≤ k := by
  unfold Builtin.Int.intBits
  split
  · omega
  · rename_i h0
    have h0' : x ≠ 0 := by simpa using h0
    obtain ⟨X, rfl⟩ := Int.eq_ofNat_of_zero_le hx
    rw [pow_cast] at h
    have h2 : X < 2 ^ k := by omega
    have : X.log2 < k := (Nat.log2_lt (by omega)).mpr h2
    simpa using Nat.succ_le_of_lt this
theorem lt_bits (x : Int) (hx : 0 ≤ x) : x.toNat < 2 ^ Builtin.Int.intBits x := by
  obtain ⟨X, rfl⟩ := Int.eq_ofNat_of_zero_le hx
  unfold Builtin.Int.intBits
  split
  · rename_i h; simp at h; simp [h]
  · rename_i h0
    have h0' : X ≠ 0 := by simpa using h0
    simpa using Nat.lt_log2_self (n := X)
theorem dcount (x n : Int) (hx : 0 ≤ x) (hx2 : x < 2 ^ 20) (hn : 0 < n) :
    0 ≤ ((Builtin.Int.intBits x : Int) + n - 1).fdiv n ∧ ((Builtin.Int.intBits x : Int) + n - 1).fdiv n ≤ 20 ∧ (x = 0 → ((Builtin.Int.intBits x : Int) + n - 1).fdiv n = 0) ∧ (0 < x → 0 < ((Builtin.Int.intBits x : Int) + n - 1).fdiv n) ∧
      x.toNat < 2 ^ (n.toNat * (((Builtin.Int.intBits x : Int) + n - 1).fdiv n).toNat) := by
  have hb := bits_le x hx 20 hx2
  have hl := lt_bits x hx
  have h0 : x = 0 → Builtin.Int.intBits x = 0 := fun e => by subst e; rfl
  have h1 : 0 < x → 0 < Builtin.Int.intBits x := fun e => by
    unfold Builtin.Int.intBits
    rw [if_neg (by simpa using (by omega : x ≠ 0))]
    exact Nat.succ_pos _
  generalize Builtin.Int.intBits x = b at *
  rw [Int.fdiv_eq_ediv_of_nonneg _ (Int.le_of_lt hn)]
  obtain ⟨N, rfl⟩ := Int.eq_ofNat_of_zero_le (Int.le_of_lt hn)
  have hN : 0 < N := by omega
  have e : ((b : Int) + (N : Int) - 1) = ((b + N - 1 : Nat) : Int) := by omega
  rw [e, ← Int.natCast_ediv]
  have hm := Nat.div_add_mod (b + N - 1) N
  have hlt := Nat.mod_lt (b + N - 1) hN
  generalize hq : (b + N - 1) / N = q at *
  generalize (b + N - 1) % N = r at *
  have hbq : b ≤ N * q := by omega
  refine ⟨by omega, ?_, fun e => ?_, fun e => ?_, ?_⟩
  · have : q < 21 := by
      rw [← hq]
      rw [Nat.div_lt_iff_lt_mul hN]
      have : 21 ≤ 21 * N := by omega
      omega
    omega
  · have := h0 e
    subst this
    have : q = 0 := by rw [← hq]; exact Nat.div_eq_of_lt (by omega)
    omega
  · have := h1 e
    have : q ≠ 0 := fun z => by subst z; omega
    omega
  · rw [Int.toNat_natCast, Int.toNat_natCast]
    exact Nat.lt_of_lt_of_le hl (Nat.pow_le_pow_right (by decide) hbq)
theorem mid_facts (Lo Hi n : Int) (h : 0 ≤ Lo) (h2 : Lo < Hi) (hn : 0 < n) (hn2 : n ≤ 20) (hHi : Hi ≤ 1000) :
    Lo ≤ (Lo + Hi).fdiv (2 ^ Int.toNat 1) ∧ (Lo + 1 ≠ Hi → Lo < (Lo + Hi).fdiv (2 ^ Int.toNat 1)) ∧ (Lo + Hi).fdiv (2 ^ Int.toNat 1) < Hi ∧ 0 ≤ ((Lo + Hi).fdiv (2 ^ Int.toNat 1) - Lo) * n ∧
      ((Lo + Hi).fdiv (2 ^ Int.toNat 1) - Lo) * n ≤ 20000 ∧ (((Lo + Hi).fdiv (2 ^ Int.toNat 1) - Lo) * n).toNat = n.toNat * ((Lo + Hi).fdiv (2 ^ Int.toNat 1) - Lo).toNat := by
  have e : (Lo + Hi).fdiv (2 ^ Int.toNat 1) = (Lo + Hi) / 2 := Int.fdiv_eq_ediv_of_nonneg _ (by decide)
  rw [e]
  have h3 : 0 ≤ (Lo + Hi) / 2 - Lo := by omega
  have h4 : (Lo + Hi) / 2 - Lo ≤ 1000 := by omega
  generalize hk : (Lo + Hi) / 2 = M at *
  refine ⟨by omega, fun _ => by omega, by omega, Int.mul_nonneg h3 (Int.le_of_lt hn), ?_, ?_⟩
  · exact Int.le_trans (Int.mul_le_mul h4 hn2 (Int.le_of_lt hn) (by decide)) (by decide)
  · obtain ⟨A, hA⟩ := Int.eq_ofNat_of_zero_le h3
    obtain ⟨B, rfl⟩ := Int.eq_ofNat_of_zero_le (Int.le_of_lt hn)
    rw [hA, ← Int.natCast_mul]
    simp only [Int.toNat_natCast]
    exact Nat.mul_comm _ _
theorem x_facts (x : Int) (hx : 0 ≤ x) (hx2 : x < 2 ^ 20) (s : Nat) : 0 ≤ x.fdiv (2 ^ s) ∧ x.fdiv (2 ^ s) < 2 ^ 20 ∧ (x.fdiv (2 ^ s)).natAbs < 2 ^ 64 ∧ (x.fdiv (2 ^ s)).toNat = x.toNat / 2 ^ s ∧
    0 ≤ Builtin.bitXor x (x.fdiv (2 ^ s) * 2 ^ s) ∧ Builtin.bitXor x (x.fdiv (2 ^ s) * 2 ^ s) < 2 ^ 20 ∧ (Builtin.bitXor x (x.fdiv (2 ^ s) * 2 ^ s)).toNat = x.toNat % 2 ^ s := by
  rw [low_eq x hx, up_eq x hx]
  have h1 : x.toNat / 2 ^ s ≤ x.toNat := Nat.div_le_self _ _
  have h2 : x.toNat % 2 ^ s ≤ x.toNat := Nat.mod_le _ _
  generalize x.toNat / 2 ^ s = a at *
  generalize x.toNat % 2 ^ s = b at *
  refine ⟨by omega, by omega, by omega, by omega, by omega, by omega, by omega⟩
theorem tn1 {Lo M Hi : Int} (h1 : Lo ≤ M) (h2 : M ≤ Hi) : (Hi - Lo).toNat = (M - Lo).toNat + (Hi - M).toNat := by omega
theorem tn2 {Lo M : Int} (h0 : 0 ≤ Lo) (h1 : Lo ≤ M) : Lo.toNat + (M - Lo).toNat = M.toNat := by omega
theorem tn3 {Lo M : Int} {n : Nat} (h0 : 0 ≤ Lo) (h1 : Lo ≤ M) (h : M ≤ n) : (M - Lo).toNat ≤ n - Lo.toNat := by omega
theorem tn4 {Lo M : Int} (h0 : 0 ≤ Lo) (h1 : Lo < M) : (M - Lo).toNat = M.toNat - Lo.toNat := by omega
theorem tn5 {a b : Int} (h : a < b) : 0 < (b - a).toNat := by omega
theorem tn6 {a b : Int} (h : a < b) : a.toNat ≤ b.toNat := by omega
theorem inner_end (ns : List Int) (Lo M Hi n x lw up : Int) (s : Nat) (h0 : 0 ≤ Lo) (h1 : Lo < M) (h2 : M < Hi) (h3 : Hi ≤ ns.length) (hs : s = n.toNat * (M - Lo).toNat) (hl : lw.toNat = x.toNat % 2 ^ s) (hu : up.toNat = x.toNat / 2 ^ s) :
    (ns.take Lo.toNat ++ digs n.toNat (M - Lo).toNat lw.toNat ++ ns.drop M.toNat).take M.toNat ++ digs n.toNat (Hi - M).toNat up.toNat ++ (ns.take Lo.toNat ++ digs n.toNat (M - Lo).toNat lw.toNat ++ ns.drop M.toNat).drop Hi.toNat
      = ns.take Lo.toNat ++ digs n.toNat (Hi - Lo).toNat x.toNat ++ ns.drop Hi.toNat := by
  rw [ns_join ns _ _ Lo.toNat M.toNat Hi.toNat (tn6 h1) (tn6 h2) (Int.toNat_le.mpr h3) (by rw [digs_len]; exact tn4 h0 h1), hl, hu, hs, digs_app _ _ (tn5 h2) _ _ (tn5 h1)]
  congr 3
  exact (tn1 (Int.le_of_lt h1) (Int.le_of_lt h2)).symm
theorem inner_leaf (ns : List Int) (Lo Hi n x : Int) (h0 : 0 ≤ Lo) (h1 : Lo + 1 = Hi) (h3 : Hi ≤ ns.length) (hx : 0 ≤ x) : ns.set Lo.toNat x = ns.take Lo.toNat ++ digs n.toNat (Hi - Lo).toNat x.toNat ++ ns.drop Hi.toNat := by
  subst h1
  rw [ns_leaf ns x Lo.toNat (by omega), show (Lo + 1 - Lo).toNat = 1 by omega, show (Lo + 1).toNat = Lo.toNat + 1 by omega]
  show _ = _ ++ [((x.toNat : Nat) : Int)] ++ _
  rw [Int.toNat_of_nonneg hx]
theorem inner_fin {ns ns1 ns2 : List Int} {Lo M Hi n x lw up : Int} {s : Nat} (e2 : ns2 = ns1.take M.toNat ++ digs n.toNat (Hi - M).toNat up.toNat ++ ns1.drop Hi.toNat) (e1 : ns1 = ns.take Lo.toNat ++ digs n.toNat (M - Lo).toNat lw.toNat ++ ns.drop M.toNat)
    (h0 : 0 ≤ Lo) (h1 : Lo < M) (h2 : M < Hi) (h3 : Hi ≤ ns.length) (hs : s = n.toNat * (M - Lo).toNat) (hl : lw.toNat = x.toNat % 2 ^ s) (hu : up.toNat = x.toNat / 2 ^ s) :
    ns2 = ns.take Lo.toNat ++ digs n.toNat (Hi - Lo).toNat x.toNat ++ ns.drop Hi.toNat := by
  rw [e2, e1]
  exact inner_end ns Lo M Hi n x lw up s h0 h1 h2 h3 hs hl hu
theorem i2d_fin {ns ns0 : List Int} {n x D : Int} {n1 : Nat} (e : ns = ns0.take (0 : Int).toNat ++ digs n.toNat ((n1 : Int) - 0).toNat x.toNat ++ ns0.drop (n1 : Int).toNat) (hl : ns0.length = n1) (h : (n1 : Int) = D) : ns = digs n.toNat D.toNat x.toNat := by
  subst h
  rw [e, Int.toNat_zero, List.take_zero, List.nil_append, Int.toNat_natCast, List.drop_of_length_le (Nat.le_of_eq hl), List.append_nil, Int.sub_zero, Int.toNat_natCast]
theorem i2d_nil {n x D : Int} (hx : x = 0) (h : x = 0 → D = 0) : (List.replicate D.toNat [(0 : Int)]).flatten = digs n.toNat D.toNat x.toNat := by
  rw [h hx]; rfl
theorem shl_ok {v S : Int} (h0 : 0 ≤ v) (h1 : v < 2 ^ 400) (h2 : S ≤ 20000) : (Builtin.Int.intBits v : Int) + S ≤ 2 ^ 27 := by
  have := bits_le v h0 400 h1
  omega
theorem dval_bound (n : Nat) : ∀ ds : List Int, (∀ d ∈ ds, 0 ≤ d ∧ d < 2 ^ n) → 0 ≤ dval n ds ∧ dval n ds < 2 ^ (n * ds.length)
  | [], _ => by simp [dval]
  | d :: r, h => by
    obtain ⟨h0, h1⟩ := h d (.head _)
    obtain ⟨i0, i1⟩ := dval_bound n r fun x hx => h x (.tail _ hx)
    have hp : (0 : Int) < 2 ^ n := Int.pow_pos (by decide)
    rw [dval, List.length_cons, Nat.mul_add, Nat.mul_one, Int.pow_add, Int.mul_comm (2 ^ (n * r.length)) (2 ^ n)]
    have e1 : 0 ≤ 2 ^ n * dval n r := Int.mul_nonneg (Int.le_of_lt hp) i0
    have e2 : 2 ^ n * (dval n r + 1) ≤ 2 ^ n * 2 ^ (n * r.length) := Int.mul_le_mul_of_nonneg_left (by omega) (Int.le_of_lt hp)
    rw [Int.mul_add, Int.mul_one] at e2
    omega
theorem dval_part {n : Int} {ns : List Int} (hd : ∀ d ∈ ns, 0 ≤ d ∧ d < 2 ^ n.toNat) (hn : n ≤ 20) (hl : ns.length ≤ 20) (a b : Nat) : 0 ≤ dval n.toNat ((ns.drop a).take b) ∧ dval n.toNat ((ns.drop a).take b) < 2 ^ 400 := by
  obtain ⟨h0, h1⟩ := dval_bound n.toNat ((ns.drop a).take b) fun d h => hd d (List.mem_of_mem_drop (List.mem_of_mem_take h))
  refine ⟨h0, Int.lt_of_lt_of_le h1 ?_⟩
  rw [pow_cast, pow_cast]
  have : n.toNat * ((ns.drop a).take b).length ≤ 400 := by
    have e : ((ns.drop a).take b).length ≤ 20 := by simp only [List.length_take, List.length_drop]; omega
    exact Nat.le_trans (Nat.mul_le_mul (show n.toNat ≤ 20 by omega) e) (by decide)
  exact Int.ofNat_le.mpr (Nat.pow_le_pow_right (by decide) this)
theorem in2_leaf {n : Int} {ns : List Int} {Lo Hi : Int} (h0 : 0 ≤ Lo) (h1 : Lo + 1 = Hi) (h2 : Hi ≤ ns.length) : ns.getD Lo.toNat 0 = dval n.toNat ((ns.drop Lo.toNat).take (Hi - Lo).toNat) := by
  subst h1
  rw [show (Lo + 1 - Lo).toNat = 1 by omega]
  have h : Lo.toNat < ns.length := by omega
  rw [List.drop_eq_getElem_cons h, List.take_succ_cons, List.take_zero, List.getD_eq_getElem?_getD, List.getElem?_eq_getElem h]
  simp [dval]
theorem in2_fin {n : Int} {ns : List Int} {Lo M Hi v1 v2 : Int} {s : Nat} (h0 : 0 ≤ Lo) (h1 : Lo ≤ M) (h2 : M ≤ Hi) (h3 : Hi ≤ ns.length) (e1 : v1 = dval n.toNat ((ns.drop M.toNat).take (Hi - M).toNat)) (e2 : v2 = dval n.toNat ((ns.drop Lo.toNat).take (M - Lo).toNat)) (hs : s = n.toNat * (M - Lo).toNat) :
    v1 * 2 ^ s + v2 = dval n.toNat ((ns.drop Lo.toNat).take (Hi - Lo).toNat) := by
  rw [tn1 h1 h2, List.take_add, dval_app, List.drop_drop, ← e2, tn2 h0 h1, ← e1]
  rw [List.length_take, List.length_drop, Nat.min_eq_left (tn3 h0 h1 (Int.le_trans h2 h3)), ← hs, Int.mul_comm, Int.add_comm]
inductive LD (n : Nat) (y : Int) : List Int → List Int → Int → Prop
  | nil : LD n y [] [] 0
  | cons {d q r r' : Int} {ds qs : List Int} : LD n y ds qs r → q = (r * 2 ^ n + d).fdiv y → r' = (r * 2 ^ n + d).fmod y → LD n y (d :: ds) (q :: qs) r'
theorem LD.eq {n : Nat} {y : Int} : ∀ {ds qs : List Int} {r : Int}, LD n y ds qs r → ldiv n y ds = (qs, r)
  | _, _, _, .nil => rfl
  | _, _, _, .cons h e1 e2 => by
    rw [ldiv, h.eq]
    simp only [e1, e2]
theorem LD.fin {n K : Nat} {x y v r : Int} {ds qs : List Int} (h : LD n y ds qs r) (hx : 0 ≤ x) (hy : 0 < y) (hK : 0 < K) (e : digs n K x.toNat = ds) (hv : v = dval n qs) : v = x.fdiv y ∧ r = x.fmod y := by
  obtain ⟨a, b, c⟩ := ldiv_ok n y hy ds
  rw [h.eq] at a b c
  rw [← e, dval_digs n K _ hK, Int.toNat_of_nonneg hx, ← hv] at a
  obtain ⟨e1, e2⟩ := divmod_uniq hy a b c
  exact ⟨e1.symm, e2.symm⟩
theorem LD.fin0 {x y v : Int} {n : Nat} (hy : 0 < y) (hx : x = 0) (hv : v = dval n []) : v = x.fdiv y ∧ 0 = x.fmod y := by
  subst hx
  rw [hv]
  exact ⟨by simp [dval], by simp⟩
theorem dp_fin {n K : Nat} {x y v r : Int} {ds0 ds qs : List Int} (h : LD n y ds qs r) (hx : 0 ≤ x) (hy : 0 < y) (e : ds0 = digs n K x.toNat) (j4 : ds0 = ds) (hK0 : K = 0 → x = 0) (hv : v = dval n qs) : v = x.fdiv y ∧ r = x.fmod y := by
  by_cases hK : K = 0
  · subst hK
    have e1 : ds = [] := by rw [← j4, e]; rfl
    subst e1
    cases h with
    | nil => exact LD.fin0 hy (hK0 rfl) hv
  · exact h.fin hx hy (by omega) (e ▸ j4) hv
theorem neg_divmod {x y q r : Int} (hy : 0 < y) (eq : q = (Builtin.bitNot x).fdiv y) (er : r = (Builtin.bitNot x).fmod y) : Builtin.bitNot q = x.fdiv y ∧ y + Builtin.bitNot r = x.fmod y := by
  have h1 := Int.fmod_add_mul_fdiv (Builtin.bitNot x) y
  have h2 := Int.fmod_nonneg_of_pos (Builtin.bitNot x) hy
  have h3 := Int.fmod_lt_of_pos (Builtin.bitNot x) hy
  rw [← eq, ← er] at h1
  rw [← er] at h2 h3
  unfold Builtin.bitNot at *
  obtain ⟨a, b⟩ := divmod_uniq (a := x) (b := y) (q := -q - 1) (r := y + (-r - 1)) hy (by rw [Int.sub_mul, Int.neg_mul, Int.mul_comm q y]; omega) (by omega) (by omega)
  exact ⟨a.symm, b.symm⟩
/-- one turn of the law's power -/
noncomputable def lpt (x y r f : Int) : Int := (r * r * (if f = 1 then x else 1)).fmod y
@[irreducible] noncomputable def lpv (x n y : Int) : Int := ((digs 1 (((Builtin.Int.intBits n : Int) + 1 - 1).fdiv 1).toNat n.toNat).reverse).foldl (lpt x y) 1
theorem step_ok {r y d : Int} {k : Nat} (hk : k ≤ 20) (h0 : 0 ≤ r) (h1 : r < y) (hy : y < 2 ^ 20) (d0 : 0 ≤ d) (d1 : d < 2 ^ k) : 0 ≤ r * 2 ^ k + d ∧ r * 2 ^ k + d < 2 ^ 100 ∧ 0 ≤ (r * 2 ^ k + d).fdiv y ∧ (r * 2 ^ k + d).fdiv y < 2 ^ k ∧ 0 ≤ (r * 2 ^ k + d).fmod y ∧ (r * 2 ^ k + d).fmod y < y := by
  have hp : (0 : Int) < 2 ^ k := Int.pow_pos (by decide)
  have hp2 : (2 : Int) ^ k ≤ 2 ^ 20 := by
    rw [pow_cast, pow_cast]
    exact Int.ofNat_le.mpr (Nat.pow_le_pow_right (by decide) hk)
  have e1 : 0 ≤ r * 2 ^ k := Int.mul_nonneg h0 (Int.le_of_lt hp)
  have e2 : (r + 1) * 2 ^ k ≤ y * 2 ^ k := Int.mul_le_mul_of_nonneg_right (by omega) (Int.le_of_lt hp)
  have e3 : y * 2 ^ k ≤ 2 ^ 20 * 2 ^ 20 := Int.mul_le_mul (by omega) hp2 (Int.le_of_lt hp) (by decide)
  have hy0 : 0 < y := by omega
  rw [Int.add_mul, Int.one_mul] at e2
  refine ⟨by omega, by omega, ?_, ?_, Int.fmod_nonneg_of_pos _ hy0, Int.fmod_lt_of_pos _ hy0⟩
  · rw [Int.fdiv_eq_ediv_of_nonneg _ (Int.le_of_lt hy0)]
    exact Int.ediv_nonneg (by omega) (by omega)
  · rw [Int.fdiv_eq_ediv_of_nonneg _ (Int.le_of_lt hy0)]
    rw [Int.ediv_lt_iff_lt_mul hy0, Int.mul_comm (2 ^ k) y]
    omega
theorem shl0 {r y : Int} {n : Int} (h0 : 0 ≤ r) (h1 : r < y) (hy : y < 2 ^ 20) (hn : n ≤ 20) : (Builtin.Int.intBits r : Int) + n ≤ 2 ^ 27 := by
  have := bits_le r h0 20 (by omega)
  omega
theorem bits_pos (y : Int) (h : 0 < y) : 0 < Builtin.Int.intBits y := by
  unfold Builtin.Int.intBits
  rw [if_neg (by simpa using (by omega : y ≠ 0))]
  exact Nat.succ_pos _
/-- a number without its sign, as int_divmod takes it -/
noncomputable def mag (x : Int) : Int := if x < 0 then -x - 1 else x
theorem mag_pos {x : Int} (h : 0 ≤ x) : mag x = x := if_neg (by omega)
/-- a number of at most 4 n bits has at most four digits of n bits -/
theorem dig4 {x y : Int} {k : Nat} (hx : 0 ≤ x) (hk : x < 2 ^ k) (hb : k ≤ 4 * Builtin.Int.intBits y) (hy : 0 < y) : ((Builtin.Int.intBits x : Int) + Builtin.Int.intBits y - 1).fdiv (Builtin.Int.intBits y) ≤ 4 := by
  have h1 := bits_le x hx k hk
  have h2 := bits_pos y hy
  rw [Int.fdiv_eq_ediv_of_nonneg _ (by omega)]
  have : ((Builtin.Int.intBits x : Int) + Builtin.Int.intBits y - 1) / (Builtin.Int.intBits y) < 5 := by
    rw [Int.ediv_lt_iff_lt_mul (by omega)]
    omega
  omega
theorem bits_ge {y : Int} {k : Nat} (hy : (2 : Int) ^ k ≤ y) : k < Builtin.Int.intBits y := by
  have hp : (0 : Int) < 2 ^ k := Int.pow_pos (by decide)
  have h1 := lt_bits y (by omega)
  have h2 : y.toNat < 2 ^ Builtin.Int.intBits y := h1
  rw [pow_cast] at hy
  have h3 : 2 ^ k < 2 ^ Builtin.Int.intBits y := by omega
  exact (Nat.pow_lt_pow_iff_right (by decide)).mp h3
theorem lp_bnd {r x y : Int} (r0 : 0 ≤ r) (r1 : r < y) (x0 : 0 ≤ x) (x1 : x ≤ 16) (hy : 4 ≤ y) (hy2 : y ≤ 16) : mag (r * r * x) < 2 ^ 20 ∧ ((Builtin.Int.intBits (mag (r * r * x)) : Int) + Builtin.Int.intBits y - 1).fdiv (Builtin.Int.intBits y) ≤ 4 := by
  have a1 : 0 ≤ r * r := Int.mul_nonneg r0 r0
  have a2 : r * r ≤ 15 * 15 := Int.mul_le_mul (by omega) (by omega) r0 (by decide)
  have a3 : 0 ≤ r * r * x := Int.mul_nonneg a1 x0
  have a4 : r * r * x ≤ 15 * 15 * 16 := Int.mul_le_mul a2 x1 x0 (by decide)
  rw [mag_pos a3]
  refine ⟨by omega, dig4 (k := 12) a3 (by omega) ?_ (by omega)⟩
  have := bits_ge (y := y) (k := 2) (by omega)
  omega
theorem ints_inv1 {a : Int} {ns : List Int} {vs : List Value} (h : IntsAre vs (a :: ns)) : ∃ t vs', vs = .int a t :: vs' ∧ IntsAre vs' ns := by
  cases h with
  | cons i t h => exact ⟨t, _, rfl, h⟩
theorem ints_inv0 {vs : List Value} (h : IntsAre vs []) : vs = [] := by cases h; rfl
theorem len_inv1 {l : List Int} {k : Nat} (h : l.length = k + 1) : ∃ a r, l = a :: r ∧ r.length = k := by
  cases l with
  | nil => simp at h
  | cons a r => exact ⟨a, r, rfl, by simpa using h⟩
theorem d2i_fin {n v : Int} {ns : List Int} (e : v = dval n.toNat ((ns.drop (0 : Int).toNat).take ((ns.length : Int) - 0).toNat)) : v = dval n.toNat ns := by
  rw [e, Int.toNat_zero, List.drop_zero, Int.sub_zero, Int.toNat_natCast, List.take_length]
theorem d2i_nil {n : Int} {ns : List Int} (e : ns.length = 0) : 0 = dval n.toNat ns := by
  rw [List.eq_nil_of_length_eq_zero e]; rfl
end
section

/-- a table object that holds one code: at line l, column k, code c -/
noncomputable abbrev T3 (l k : Nat) (c : Addr) : Obj := tabObj #[rawInt l, rawInt k, .ref c]
/-- the table is filled, its code in the ledger -/
noncomputable def Hot (l k : Nat) (q : Str) (o : Obj) (news : List (Addr × Obj)) : Prop :=
  ∃ c oc vs t, o = T3 l k c ∧ (c, oc) ∈ news ∧ oc.data = .fields vs ∧ vs[1]? = some (.str q t)

theorem hotUp {l k : Nat} {q : Str} {o : Obj} {rest news : List (Addr × Obj)} (h : o = tabObj #[] ∨ Hot l k q o rest) (hs : ∀ p ∈ rest, p ∈ news) : o = tabObj #[] ∨ Hot l k q o news :=
  h.imp id fun ⟨c, oc, vs, t, a, b, d⟩ => ⟨c, oc, vs, t, a, hs _ b, d⟩
theorem sub_tl {x : Addr × Obj} {rest news : List (Addr × Obj)} (h : ∀ p ∈ rest, p ∈ news) : ∀ p ∈ rest, p ∈ x :: news := fun p hp => .tail _ (h p hp)
theorem ar_a {Lo M Hi : Int} {kk : Nat} (h : (Hi - Lo).toNat ≤ kk + 1) (a : Lo < M) : (Hi - M).toNat ≤ kk := by omega
theorem ar_b {Lo M Hi : Int} {kk : Nat} (h : (Hi - Lo).toNat ≤ kk + 1) (a : M < Hi) : (M - Lo).toNat ≤ kk := by omega
theorem ar_c {Lo M Hi : Int} (a : Lo + 1 ≠ Hi → Lo < M) (n : Lo + 1 ≠ Hi) : Lo < M := a n
theorem lt9c {x : Addr × Obj} {l : List (Addr × Obj)} {d : Addr} (h : ∀ p ∈ x :: l, p.1 < d) : ∀ p ∈ l, p.1 < d := fun p hp => h p (.tail _ hp)
theorem lt9 {l : List (Addr × Obj)} {d : Addr} (h : ∀ p ∈ l, p.1 < d) (q : Addr × Obj) (hq : q ∈ l) : @LT.lt Nat _ q.1 d := h q hq
section
variable {M : Model} {A : Around} {E : Value → Shared → Prop} {s : Shared} {h₀ : Heap} {L a c P : Addr} {m mg mb : Str → Option Value} {cn : Str} {cs : Scope} {ccd : Value} {cl : List (Str × Addr)} {news : List (Addr × Obj)} {g : Obj → List (Addr × Obj)}
  {p : Program} {loose : List Str} {mean : ExcName → Option Value} {name qual : Str} {params : Arguments} {body : List Stmt} {scope : Scope} {oP : Obj} {pos : Pos} {firstLine : Nat} {clos : List (Str × Addr)}

theorem allLtOf {d : Addr} : ∀ {l : List (Addr × Obj)}, (∀ p ∈ l, p.1 < d) → AllLt d l
  | [], _ => trivial
  | _ :: _, h => ⟨h _ (.head _), allLtOf fun q hq => h q (.tail _ hq)⟩
/-- where a code record comes from: the table's own, or new -/
noncomputable def Born (oP : Obj) (l k : Nat) (c : Addr) (rest : List (Addr × Obj)) : Prop := (∀ c₀, oP = T3 l k c₀ → c = c₀) ∧ (oP = tabObj #[] → ∀ q ∈ rest, q.1 < c)
theorem Born.mono {oP : Obj} {l k : Nat} {c : Addr} {rest news : List (Addr × Obj)} (h : Born oP l k c news) (hs : ∀ p ∈ rest, p ∈ news) : Born oP l k c rest := ⟨h.1, fun e q hq => h.2 e q (hs q hq)⟩
theorem nestAny {Q : Value → Shared → Prop} {rest : List (Addr × Obj)} {D : Addr} (F : Fr h₀ L s.heap m) (N : News h₀ L s.heap news) (T : Top p loose mean mg mb h₀) (C : CodeHd h₀ c P) (hcd : ccd = .ref c) (U : UpdF P oP news g)
    (hst : oP = tabObj #[] ∨ Hot pos.line pos.col qual oP rest) (hsub : ∀ p ∈ rest, p ∈ news) (hlt : ∀ p ∈ rest, p.1 < D)
    (hcl : closureFor scope (envX cn cs L a ccd cl) = pure clos)
    (h : ∀ f c' oc vs t ctv doc h' tk, Fr h₀ L h' m →
      News h₀ L h' ((f, fnMade name qual params body scope clos doc ((mg "__name__").getD .none) c' ctv) :: (c', oc) :: g (T3 pos.line pos.col c')) →
      oc.data = .fields vs → vs[1]? = some (.str qual t) → (∀ q ∈ news, q.1 < f) → c' < f → (@LT.lt Nat _ c' D ∨ AllLt c' news) → Born oP pos.line pos.col c' news → Q (.ref f) { s with heap := h', toks := tk }) :
    wpAny M A (makeFunction name qual params (.stmts body) scope (envX cn cs L a ccd cl) [] [] [] pos firstLine) Q E s := by
  rcases hst with rfl | ⟨c₁, oc, vs, t, rfl, hmr, hd, hv⟩
  · refine nest_K F N T C hcd U trivial rfl hcl fun f c' oc vs t ctv doc h' tk F' N' hd hv l1 l2 => ?_
    refine h f c' oc vs t ctv doc h' tk F' N' hd hv (fun q hq => Nat.lt_trans (l1 q hq) l2) l2 (.inr (allLtOf l1)) ⟨fun c₀ e => ?_, fun _ q hq => l1 q hq⟩
    have e1 : (#[] : Array Value) = #[rawInt pos.line, rawInt pos.col, .ref c₀] := Data.fields.inj (congrArg Obj.data e)
    exact absurd (congrArg Array.size e1) (by simp)
  · have hm := hsub _ hmr
    obtain ⟨pre, post, e1, e2, e3, e4⟩ := U.split
    have hmP : (P, T3 pos.line pos.col c₁) ∈ news := by rw [e1]; exact List.mem_append_right _ (.head _)
    have hg : g (T3 pos.line pos.col c₁) = news := by rw [e2, e1]
    refine nestHit_K (c' := c₁) (ps := #[rawInt pos.line, rawInt pos.col, .ref c₁]) F N T C hcd hmP (by exact trivial) (by simp [codeAmong, rawInt]) hcl fun f ctv doc h' tk F' N' l1 => ?_
    refine h f c₁ oc vs t ctv doc h' tk F' (fun q hq => ?_) hd hv l1 (l1 _ hm) (.inl (hlt _ hmr)) ⟨fun c₀ e => ?_, fun e => ?_⟩
    · rcases List.mem_cons.mp hq with rfl | hq
      · exact N' _ (.head _)
      · rcases List.mem_cons.mp hq with rfl | hq
        · exact N' _ (.tail _ hm)
        · rw [hg] at hq
          exact N' _ (.tail _ hq)
    · have e1 : #[rawInt pos.line, rawInt pos.col, .ref c₁] = #[rawInt pos.line, rawInt pos.col, .ref c₀] := Data.fields.inj (congrArg Obj.data e)
      simpa using e1
    · have e1 : #[rawInt pos.line, rawInt pos.col, .ref c₁] = (#[] : Array Value) := Data.fields.inj (congrArg Obj.data e)
      exact absurd (congrArg Array.size e1) (by simp)
end
theorem truthy_ints {prog : Program} {w : World} {A : Around} {E : Value → Shared → Prop} {s : Shared} {h₀ : Heap} {L : Addr} {news : List (Addr × Obj)} {a : Addr} {vs : List Value} {ns : List Int} {n : Nat} {Q : Bool → Shared → Prop} (N : News h₀ L s.heap news) (hm : (a, listOf vs.toArray n) ∈ news) (hI : IntsAre vs ns) (hfit : ns.length ≤ 1000)
    (h1 : 0 < ns.length → Q true { s with toks := s.toks + 1 + 1 }) (h2 : ns.length = 0 → Q false { s with toks := s.toks + 1 + 1 }) : wpAny (model prog w) A (truthy (.ref a)) Q E s := by
  have hl := hI.length
  refine kgr_truthy (vs := vs) (n := n) N hm rfl rfl (by omega) ?_
  cases hI with
  | nil => exact h2 rfl
  | cons => exact h1 (by simp)
theorem len_ints {prog : Program} {w : World} {A : Around} {E : Value → Shared → Prop} {s : Shared} {h₀ : Heap} {L : Addr} {news : List (Addr × Obj)} {a : Addr} {vs : List Value} {ns : List Int} {n : Nat} {Q : Value → Shared → Prop} (N : News h₀ L s.heap news) (hm : (a, listOf vs.toArray n) ∈ news) (hI : IntsAre vs ns) (hfit : ns.length ≤ 1000)
    (h : Q (.int (ns.length : Nat) (s.toks + 1)) { s with toks := s.toks + 1 + 1 }) : wpAny (model prog w) A (call (.builtin "len") [.ref a]) Q E s :=
  KM.len_K (n := ns.length) N hm (by rw [List.size_toArray]; exact hI.length) (by omega) h
theorem divmod_N2 {prog : Program} {w : World} {A : Around} {E : Value → Shared → Prop} {s : Shared} {h₀ : Heap} {L : Addr} {m : Str → Option Value} {news : List (Addr × Obj)} {a b : Int} {t u : Tok} {Q : Value → Shared → Prop} (F : Fr h₀ L s.heap m) (N : News h₀ L s.heap news) (hb : 0 < b) (hb2 : b < 2 ^ 30)
    (h : ∀ d t1 t2 h' tk', Fr h₀ L h' m → News h₀ L h' ((d, { cls := .type "tuple", data := .seq #[.int (a.fdiv b) t1, .int (a.fmod b) t2] }) :: news) → (∀ p ∈ news, p.1 < d) →
      Q (.ref d) { s with heap := h', toks := tk' }) : wpAny (model prog w) A (call (.builtin "divmod") [.int a t, .int b u]) Q E s :=
  divmod_N F N (by omega) (fun h' F' N' => h _ _ _ h' _ F' N' (fun p hp => Heap.lt_size (N p hp).1)) (Or.inl (PyProof.noPylong_small (by omega)))
/-- a deeper room serves a shallower one -/
theorem wp_room {α : Type} {M : Model} {hv : Option Value} {fr : Option (List Env)} {gd : Option (List Code)} {d d' u u' : Nat} {t : Sem α} {Q : α → Shared → Prop} {E : Value → Shared → Prop} {s : Shared}
    (h : wpAny M { handled := hv, depth := d, frames := fr, guards := gd, units := u } t Q E s) (hd : d' ≤ d) (hu : u' ≤ u) : wpAny M { handled := hv, depth := d', frames := fr, guards := gd, units := u' } t Q E s :=
  fun Γ p hΓ => h Γ p ⟨hΓ.1, Nat.le_trans hΓ.2.1 hd, hΓ.2.2.1, hΓ.2.2.2.1, Nat.le_trans hΓ.2.2.2.2 hu⟩
/-- the ledger without the address a -/
inductive Rm (a : Addr) : List (Addr × Obj) → List (Addr × Obj) → Prop
  | tl {l} : (∀ p ∈ l, p.1 ≠ a) → Rm a l l
  | hit {o l k} : Rm a l k → Rm a ((a, o) :: l) k
  | miss {x l k} : x.1 ≠ a → Rm a l k → Rm a (x :: l) (x :: k)
theorem Rm.ok {a : Addr} : ∀ {l k : List (Addr × Obj)}, Rm a l k → (∀ p ∈ k, p ∈ l) ∧ ∀ p ∈ k, p.1 ≠ a
  | _, _, .tl h => ⟨fun _ h => h, h⟩
  | _, _, .hit r => ⟨fun p hp => .tail _ (r.ok.1 p hp), r.ok.2⟩
  | _, _, .miss h r => ⟨fun p hp => by
      rcases List.mem_cons.mp hp with rfl | hp
      · exact .head _
      · exact .tail _ (r.ok.1 p hp), fun p hp => by
      rcases List.mem_cons.mp hp with rfl | hp
      · exact h
      · exact r.ok.2 p hp⟩
theorem code_ne {h₀ h : Heap} {L c P : Addr} {news : List (Addr × Obj)} {oc oP : Obj} {cvs : Array Value} {q : Str} {t : Tok} (N : News h₀ L h news) (hc : (c, oc) ∈ news) (hd : oc.data = .fields cvs) (hv : cvs[1]? = some (.str q t)) (hP : (P, oP) ∈ news) (h : oP = tabObj #[] ∨ ∃ l k a, oP = T3 l k a) : c ≠ P := fun e => by
  subst e
  have e1 := (N _ hc).1
  rw [(N _ hP).1] at e1
  have e2 : oP = oc := Option.some.inj e1
  subst e2
  rcases h with rfl | ⟨l, k, a, rfl⟩
  · have e3 : (#[] : Array Value) = cvs := Data.fields.inj hd
    subst e3
    simp at hv
  · have e3 : #[rawInt l, rawInt k, .ref a] = cvs := Data.fields.inj hd
    subst e3
    simp [rawInt] at hv
theorem code_ne_list {h₀ h : Heap} {L c l : Addr} {news : List (Addr × Obj)} {oc ol : Obj} {cvs : Array Value} (N : News h₀ L h news) (hc : (c, oc) ∈ news) (hd : oc.data = .fields cvs) (hl : (l, ol) ∈ news) (h : ∀ cvs, ol.data ≠ .fields cvs) : c ≠ l := fun e => by
  subst e
  have e1 := (N _ hc).1
  rw [(N _ hl).1] at e1
  have e2 : ol = oc := Option.some.inj e1
  subst e2
  exact h _ hd
theorem hotT {l k : Nat} {q : Str} {o : Obj} {rest : List (Addr × Obj)} (h : o = tabObj #[] ∨ Hot l k q o rest) : o = tabObj #[] ∨ ∃ l k a, o = T3 l k a :=
  h.imp id fun ⟨c, _, _, _, e, _⟩ => ⟨l, k, c, e⟩
theorem offI_of {I : Addr} {it : Obj} : ∀ {l : List (Addr × Obj)}, (∀ p ∈ l, p.1 ≠ I) → OffI I it l
  | [], _ => trivial
  | _ :: _, h => ⟨.inl (h _ (.head _)), offI_of fun q hq => h q (.tail _ hq)⟩
theorem unrEnd_rm {h₀ : Heap} {L I : Addr} {it : Obj} {rest : (Str → Option Value) → List (Addr × Obj) → Prop} {s₁ : Shared} {h' : Heap} {tk : Nat} {m' : Str → Option Value} {all news' : List (Addr × Obj)} (F : Fr h₀ L h' m') (N : News h₀ L h' all)
    (hI : (I, it) ∈ all) (R : Rm I all news') (r : rest m' news') : UnrEnd h₀ L s₁ I it rest { s₁ with heap := h', toks := tk } :=
  UnrEnd.intro F N news' (fun p hp => by
    rcases List.mem_cons.mp hp with rfl | hp
    · exact hI
    · exact R.ok.1 p hp) R.ok.2 r
section
variable {prog : Program} {w : World} {A : Around} {E : Value → Shared → Prop} {s : Shared} {env : Env} {h₀ : Heap} {x : Str} {body : List Stmt} {Q : Flow → Shared → Prop}
/-- a loop over a reversed list, by what holds of what is left -/
theorem rev_ind {I : Addr} {lp : Addr × Obj} (J : List Value → (Str → Option Value) → List (Addr × Obj) → Prop)
    (step : ∀ v r m news, J (v :: r) m news → ∀ (it : Obj) h tk, it.cls = .type "list_reverseiterator" → Fr h₀ env.locals h (fun y => if y = x then some v else m y) → News h₀ env.locals h ((I, it) :: news) →
      wpAny (model prog w) A (execs body env) (UnrPost h₀ env.locals { s with heap := h, toks := tk } I it (fun m' n' => lp ∈ n' ∧ J r m' n') Q) E { s with heap := h, toks := tk })
    (fin : ∀ m news, J [] m news → ∀ h tk, Fr h₀ env.locals h m → News h₀ env.locals h news → Q .next { s with heap := h, toks := tk }) :
    ∀ l m news, J l m news → RevRest prog w A E h₀ env x body Q s I lp l m news
  | [], m, news, hJ => RevRest.zero fun h tk F N => fin m news hJ h tk F N
  | v :: r, m, news, hJ => RevRest.succ fun it h tk hc F N => by
    refine wpAny_mono (step v r m news hJ it h tk hc F N) (fun f s₂ p => ?_) fun _ _ e => e
    have conv : ∀ {s₂ : Shared}, UnrEnd h₀ env.locals { s with heap := h, toks := tk } I it (fun m' n' => lp ∈ n' ∧ J r m' n') s₂ → UnrEnd h₀ env.locals { s with heap := h, toks := tk } I it (fun m' n' => lp ∈ n' ∧ RevRest prog w A E h₀ env x body Q s I lp r m' n') s₂ :=
      fun ⟨h', tk', m', n', e, F', N', o, l, j⟩ => ⟨h', tk', m', n', e, F', N', o, l, rev_ind J step fin r m' n' j⟩
    cases f with
    | ret v => exact p
    | brk => exact p
    | next => exact conv p
    | cont => exact conv p
theorem unrEnd_eq {L I : Addr} {it : Obj} {lp : Addr × Obj} {J : (Str → Option Value) → List (Addr × Obj) → Prop} {s₁ : Shared} {h' : Heap} {tk : Nat} {m1 m2 : Str → Option Value} {all news' : List (Addr × Obj)} (F : Fr h₀ L h' m1) (N : News h₀ L h' all)
    (e : m1 = m2) (r : J m2 news') (hlp : lp ∈ news') (sub : ∀ p ∈ (I, it) :: news', p ∈ all) (off : ∀ p ∈ news', p.1 ≠ I) : UnrEnd h₀ L s₁ I it (fun m' n' => lp ∈ n' ∧ J m' n') { s₁ with heap := h', toks := tk } :=
  UnrEnd.intro (e ▸ F) N news' sub off ⟨hlp, r⟩
end
section
variable {prog : Program} {w : World} {A : Around} {E : Value → Shared → Prop} {s : Shared} {h₀ : Heap} {L D : Addr} {m : Str → Option Value} {news news' : List (Addr × Obj)}
theorem append_L {vs : List Value} {n : Nat} {x : Value} {Q : Value → Shared → Prop} (F : Fr h₀ L s.heap m) (N : News h₀ L s.heap news) (U : Upd D (listOf vs.toArray n) (listOf (vs ++ [x]).toArray (n + 1)) news news') (hz : vs.length ≤ 1000)
    (h : ∀ h', Fr h₀ L h' m → News h₀ L h' news' → Q .none { s with heap := h' }) : wpAny (model prog w) A (call (.builtin "list.append") [.ref D, x]) Q E s :=
  append_K (its := vs.toArray) F N (by rw [List.push_toArray]; exact U) h (by rw [List.size_toArray, sizeLine_eq]; omega)
theorem reverse_L {vs : List Value} {n : Nat} {Q : Value → Shared → Prop} (F : Fr h₀ L s.heap m) (N : News h₀ L s.heap news) (U : Upd D (listOf vs.toArray n) (listOf vs.reverse.toArray n) news news') (hz : vs.length ≤ 1000)
    (h : ∀ h', Fr h₀ L h' m → News h₀ L h' news' → Q .none { s with heap := h' }) : wpAny (model prog w) A (call (.builtin "list.reverse") [.ref D]) Q E s :=
  kl_reverse (its := vs.toArray) F N rfl U (by show vs.length ≤ _; rw [sizeLine_eq]; omega) h
end
theorem ite_dec_pos {p A B : Prop} [Decidable p] (h : p) (hq : A) : if decide p = true then A else B := by rw [if_pos (decide_eq_true h)]; exact hq
theorem ite_dec_neg {p A B : Prop} [Decidable p] (h : ¬ p) (hq : B) : if decide p = true then A else B := by
  rw [if_neg (by simpa using h)]; exact hq
theorem ite_beq_pos {x y : Int} {A B : Prop} (h : x = y) (hq : A) : if (x == y) = true then A else B := by rw [if_pos (by simpa using h)]; exact hq
theorem ite_beq_neg {x y : Int} {A B : Prop} (h : x ≠ y) (hq : B) : if (x == y) = true then A else B := by rw [if_neg (by simpa using h)]; exact hq
theorem ite_bne_pos {x y : Int} {A B : Prop} (h : x ≠ y) (hq : A) : if (x != y) = true then A else B := by rw [if_pos (by simpa using h)]; exact hq
theorem ite_bne_neg {x y : Int} {A B : Prop} (h : x = y) (hq : B) : if (x != y) = true then A else B := by rw [if_neg (by simpa using h)]; exact hq
section
variable {prog : Program} {w : World} {A : Around} {E : Value → Shared → Prop} {s : Shared} {env : Env} {h₀ : Heap} {x : Str} {body : List Stmt} {Q : Flow → Shared → Prop}
/-- a loop over a list, by what holds of what is left -/
theorem list_ind {I : Addr} {lp : Addr × Obj} (J : List Value → (Str → Option Value) → List (Addr × Obj) → Prop)
    (step : ∀ v r m news, J (v :: r) m news → ∀ (it : Obj) h tk, it.cls = .type "list_iterator" → Fr h₀ env.locals h (fun y => if y = x then some v else m y) → News h₀ env.locals h ((I, it) :: news) →
      wpAny (model prog w) A (execs body env) (UnrPost h₀ env.locals { s with heap := h, toks := tk } I it (fun m' n' => lp ∈ n' ∧ J r m' n') Q) E { s with heap := h, toks := tk })
    (fin : ∀ m news, J [] m news → ∀ h tk, Fr h₀ env.locals h m → News h₀ env.locals h news → Q .next { s with heap := h, toks := tk }) :
    ∀ l m news, J l m news → ListRest prog w A E h₀ env x body Q s I lp l m news
  | [], m, news, hJ => ListRest.zero fun h tk F N => fin m news hJ h tk F N
  | v :: r, m, news, hJ => ListRest.succ fun it h tk hc F N => by
    refine wpAny_mono (step v r m news hJ it h tk hc F N) (fun f s₂ p => ?_) fun _ _ e => e
    have conv : ∀ {s₂ : Shared}, UnrEnd h₀ env.locals { s with heap := h, toks := tk } I it (fun m' n' => lp ∈ n' ∧ J r m' n') s₂ → UnrEnd h₀ env.locals { s with heap := h, toks := tk } I it (fun m' n' => lp ∈ n' ∧ ListRest prog w A E h₀ env x body Q s I lp r m' n') s₂ :=
      fun ⟨h', tk', m', n', e, F', N', o, l, j⟩ => ⟨h', tk', m', n', e, F', N', o, l, list_ind J step fin r m' n' j⟩
    cases f with
    | ret v => exact p
    | brk => exact p
    | next => exact conv p
    | cont => exact conv p
end
end
local macro_rules | `(tactic| k_room) => `(tactic| first | exact Nat.le_of_ble_eq_true rfl | ktr_room)
local macro_rules | `(tactic| k_all) => `(tactic| (tbn_letter; first | assumption | (intro q9 h9; (have a9 := lt9 (by assumption) q9 h9); (refine neN ?_); (try dsimp only at a9 ⊢); omega)))
local macro_rules | `(tactic| walk_at "MINE mem") => `(tactic| first | with_reducible assumption | exact List.mem_cons_self | (refine List.mem_cons_of_mem _ ?_; walk_at "MINE mem"))
local macro_rules | `(tactic| k_mem) => `(tactic| walk_at "MINE mem")
local macro_rules | `(tactic| walk_at "exec FunctionDef") => `(tactic| (k_here; kn_here; k_dflt (refine' nestDef_K ?d0 ?k0 ?a0 ?_; (case d0 | k0 => exact rfl); (case a0 => exact rfl)); (k_dflt (refine' nestAny ?F ?N ?T ?C ?cd ?U ?t ?sb ?lt ?cl ?_; (case F | N | T => k_asm); (case cd => exact rfl); (case C => kn_code); (case U => k_updF); (case t => assumption); (case sb => repeat (first | exact (fun _ h => h) | refine sub_tl ?_)); (case lt => assumption); (case cl => exact rfl); k_whole); intro _ _ _ _ _ _ _ _ _ _ N' _ _ l1 l2 lc _; (try dsimp only at N'); (try k_lt l1); (try k_lt2 l2); (try simp only [AllLt, and_true] at lc))))
local macro_rules | `(tactic| walk_at "MINE arith") => `(tactic| first | assumption | with_reducible exact ar_c (by assumption) (by assumption) | with_reducible exact ar_a (by assumption) (ar_c (by assumption) (by assumption)) | with_reducible exact ar_b (by assumption) (by assumption) | omega | ((simp only [decide_eq_true_eq, decide_eq_false_iff_not] at *); omega))
local macro_rules | `(tactic| walk_at "MINE drop") => `(tactic| (refine' cb_drop ?cbN ?cbS; (case cbN => assumption); (case cbS => walk_at "MINE sub")))
local macro_rules | `(tactic| walk_at "MINE ca") => `(tactic| ((case hdp | hun => exact Nat.le_of_ble_eq_true rfl); (case B | F | X | N | T => k_asm); (case hk => exact rfl)))
local macro_rules | `(tactic| walk_at "MINE cc") => `(tactic| ((case hdp | hun => exact Nat.le_of_ble_eq_true rfl); (case B | F | X | N | T => k_asm); (case C1 => assumption); (case hk => exact rfl)))
local macro_rules | `(tactic| walk_at "MINE cb") => `(tactic| ((case hdp | hun => exact Nat.le_of_ble_eq_true rfl); (case B | F | X | N | T => k_asm); (case C1 | C2 => assumption); (case hk => exact rfl)))
section
noncomputable def InnerAt (w : World) (p : Program) (loose : List Str) (mean : ExcName → Option Value) (mg mb : Str → Option Value) (f l : Addr) (n : Int) (e : Nat) (rest : List (Addr × Obj)) (kk : Nat) : Prop :=
  ∀ (dp un : Nat) (gd : Option (List Code)) (cn : Str) (cs : Scope) (a : Addr) (ccd : Value) (cl : List (Str × Addr)) (outer : List Env) (A₀ : Around) (base h₀ : Heap) (L : Addr) (m : Str → Option Value) (s : Shared) (Q E : Value → Shared → Prop)
    (vs : List Value) (ns : List Int) (x Lo Hi : Int) (tx tl th : Tok),
    Below A₀ base outer h₀ → Fr h₀ L s.heap m → (Mine.hd.heap_39 w.params).In h₀ → Top p loose mean mg mb h₀ → cs.kind = .function →
    News h₀ L s.heap ((l, listOf vs.toArray e) :: rest) → IntsAre vs ns → 0 ≤ x → x < 2 ^ 20 → 0 ≤ Lo → Lo < Hi → (Hi - Lo).toNat ≤ kk → Hi ≤ ns.length → ns.length ≤ 1000 → dp + kk + 2 < recursionLimit →
    (∀ h' tk' vs' ns', Fr h₀ L h' m → News h₀ L h' ((l, listOf vs'.toArray e) :: rest) → IntsAre vs' ns' → ns' = ns.take Lo.toNat ++ digs n.toNat (Hi - Lo).toNat x.toNat ++ ns.drop Hi.toNat → ns'.length = ns.length → Q .none { s with heap := h', toks := tk' }) →
    wpAny (model Challenge.rw_hl0003_01.row.prog w) (ktrTop dp un gd cn cs L a ccd cl outer) (call (.ref f) [.int x tx, .int Lo tl, .int Hi th]) Q E s

noncomputable def InnerCl (w : World) (qual : Str) (params : Arguments) (body : List Stmt) (scope : Scope) : Prop :=
  ∀ (p : Program) (loose : List Str) (mean : ExcName → Option Value) (mg mb : Str → Option Value) (f l ca ci cN c : Addr) (oa oi oN oc : Obj) (doc pm ctv : Value) (cvs : Array Value) (t tn : Tok) (n : Int) (e : Nat) (rest : List (Addr × Obj)) (kk : Nat),
    (f, fnMade (Str.ofString "inner") qual params body scope [(Str.ofString "n", cN), (Str.ofString "inner", ci), (Str.ofString "a_digits", ca)] doc pm c ctv) ∈ rest → (c, oc) ∈ rest → oc.data = .fields cvs → cvs[1]? = some (.str qual t) →
    (ca, oa) ∈ rest → oa.data = .cell (some (.ref l)) → (ci, oi) ∈ rest → oi.data = .cell (some (.ref f)) → (cN, oN) ∈ rest → oN.data = .cell (some (.int n tn)) →
    (∀ p ∈ rest, p.1 ≠ l) → 0 < n → n ≤ 20 → InnerAt w p loose mean mg mb f l n e rest kk

theorem inner_use {w : World} {p : Program} {loose : List Str} {mean : ExcName → Option Value} {mg mb : Str → Option Value} {f l : Addr} {n : Int} {e : Nat} {rest : List (Addr × Obj)} {kk : Nat}
  {dp un : Nat} {gd : Option (List Code)} {cn : Str} {cs : Scope} {a : Addr} {ccd : Value} {cl : List (Str × Addr)} {outer : List Env} {A₀ : Around} {base h₀ : Heap} {L : Addr} {m : Str → Option Value} {s : Shared} {Q E : Value → Shared → Prop}
    {vs : List Value} {ns : List Int} {x Lo Hi : Int} {tx tl th : Tok} (IH : InnerAt w p loose mean mg mb f l n e rest kk)
    (B : Below A₀ base outer h₀) (F : Fr h₀ L s.heap m) (X : (Mine.hd.heap_39 w.params).In h₀) (T : Top p loose mean mg mb h₀) (hk : cs.kind = .function)
    (N : News h₀ L s.heap ((l, listOf vs.toArray e) :: rest)) (hI : IntsAre vs ns) (h1 : 0 ≤ x) (h2 : x < 2 ^ 20) (h3 : 0 ≤ Lo) (h4 : Lo < Hi) (h5 : (Hi - Lo).toNat ≤ kk) (h6 : Hi ≤ ns.length) (h7 : ns.length ≤ 1000) (h8 : dp + kk + 2 < recursionLimit)
    (h : ∀ h' tk' vs' ns', Fr h₀ L h' m → News h₀ L h' ((l, listOf vs'.toArray e) :: rest) → IntsAre vs' ns' → ns' = ns.take Lo.toNat ++ digs n.toNat (Hi - Lo).toNat x.toNat ++ ns.drop Hi.toNat → ns'.length = ns.length → Q .none { s with heap := h', toks := tk' }) :
    wpAny (model Challenge.rw_hl0003_01.row.prog w) (ktrTop dp un gd cn cs L a ccd cl outer) (call (.ref f) [.int x tx, .int Lo tl, .int Hi th]) Q E s :=
  IH _ _ _ _ _ _ _ _ _ _ _ _ _ _ _ _ _ _ _ _ _ _ _ _ _ B F X T hk N hI h1 h2 h3 h4 h5 h6 h7 h8 h

theorem inner_first {w : World} {p : Program} {loose : List Str} {mean : ExcName → Option Value} {mg mb : Str → Option Value} {f l ca ci cN c : Addr} {oa oi oN oc : Obj} {doc pm ctv : Value} {cvs : Array Value} {t tn : Tok} {n : Int} {e : Nat} {rest : List (Addr × Obj)}
  {qual : Str} {params : Arguments} {body : List Stmt} {scope : Scope}
  {dp un : Nat} {gd : Option (List Code)} {cn : Str} {cs : Scope} {a : Addr} {ccd : Value} {cl : List (Str × Addr)} {outer : List Env} {A₀ : Around} {base h₀ : Heap} {L : Addr} {m : Str → Option Value} {s : Shared} {Q E : Value → Shared → Prop}
    {vs : List Value} {ns : List Int} {x Lo Hi : Int} {tx tl th : Tok} (H : InnerCl w qual params body scope)
    (N : News h₀ L s.heap ((l, listOf vs.toArray e) :: rest))
    (hf : (f, fnMade (Str.ofString "inner") qual params body scope [(Str.ofString "n", cN), (Str.ofString "inner", ci), (Str.ofString "a_digits", ca)] doc pm c ctv) ∈ rest) (hc : (c, oc) ∈ rest) (hcd : oc.data = .fields cvs) (hcv : cvs[1]? = some (.str qual t))
    (hca : (ca, oa) ∈ rest) (hda : oa.data = .cell (some (.ref l))) (hci : (ci, oi) ∈ rest) (hdi : oi.data = .cell (some (.ref f))) (hcN : (cN, oN) ∈ rest) (hdN : oN.data = .cell (some (.int n tn)))
    (hl : ∀ p ∈ rest, p.1 ≠ l) (hn : 0 < n) (hn2 : n ≤ 20)
    (B : Below A₀ base outer h₀) (F : Fr h₀ L s.heap m) (X : (Mine.hd.heap_39 w.params).In h₀) (T : Top p loose mean mg mb h₀) (hk : cs.kind = .function)
    (hI : IntsAre vs ns) (h1 : 0 ≤ x) (h2 : x < 2 ^ 20) (h3 : 0 ≤ Lo) (h4 : Lo < Hi) (h6 : Hi ≤ ns.length) (h7 : ns.length ≤ 50) (h8 : dp + 60 < recursionLimit)
    (h : ∀ h' tk' vs' ns', Fr h₀ L h' m → News h₀ L h' ((l, listOf vs'.toArray e) :: rest) → IntsAre vs' ns' → ns' = ns.take Lo.toNat ++ digs n.toNat (Hi - Lo).toNat x.toNat ++ ns.drop Hi.toNat → ns'.length = ns.length → Q .none { s with heap := h', toks := tk' }) :
    wpAny (model Challenge.rw_hl0003_01.row.prog w) (ktrTop dp un gd cn cs L a ccd cl outer) (call (.ref f) [.int x tx, .int Lo tl, .int Hi th]) Q E s :=
  inner_use (H p loose mean mg mb f l ca ci cN c oa oi oN oc doc pm ctv cvs t tn n e rest 50 hf hc hcd hcv hca hda hci hdi hcN hdN hl hn hn2) B F X T hk N hI h1 h2 h3 h4 (by omega) h6 (by omega) (by omega) h

theorem rot3 {h₀ h : Heap} {L : Addr} {x y z : Addr × Obj} {r : List (Addr × Obj)} (N : News h₀ L h (x :: y :: z :: r)) : News h₀ L h (z :: x :: y :: r) := fun p hp => N p (by
  simp only [List.mem_cons] at hp ⊢
  rcases hp with h | h | h | h <;> simp [h])
theorem ne_tl {x : Addr × Obj} {l : List (Addr × Obj)} {d : Addr} (h1 : x.1 ≠ d) (h2 : ∀ p ∈ l, p.1 ≠ d) : ∀ p ∈ x :: l, p.1 ≠ d := fun p hp => by
  rcases List.mem_cons.mp hp with rfl | hp
  · exact h1
  · exact h2 p hp

theorem lt_up {l : List (Addr × Obj)} {a b : Addr} (h : ∀ p ∈ l, p.1 < a) (hab : @LT.lt Nat _ a b) : ∀ p ∈ l, p.1 < b := fun p hp => Nat.lt_trans (h p hp) hab
theorem sub_cons {x : Addr × Obj} {l big : List (Addr × Obj)} (h : x ∈ big) (k : ∀ p ∈ l, p ∈ big) : ∀ p ∈ x :: l, p ∈ big := fun p hp => by
  rcases List.mem_cons.mp hp with rfl | hp
  · exact h
  · exact k p hp

theorem use_inner {P : Prop} {w : World} {h₀ h : Heap} {L : Addr} {news : List (Addr × Obj)} {f ca ci cN c : Addr} {qual : Str} {params : Arguments} {body : List Stmt} {scope : Scope} {doc pm ctv : Value}
  (_ : News h₀ L h news) (_ : (f, fnMade (Str.ofString "inner") qual params body scope [(Str.ofString "n", cN), (Str.ofString "inner", ci), (Str.ofString "a_digits", ca)] doc pm c ctv) ∈ news)
  (H : InnerCl w qual params body scope) (k : InnerCl w qual params body scope → P) : P := k H

local macro_rules | `(tactic| walk_at "MINE sub") => `(tactic| first | assumption | exact (fun _ h => h) | (refine sub_cons ?a ?b; (case a => k_mem); (case b => walk_at "MINE sub")) | (refine sub_tl ?_; walk_at "MINE sub"))
section
local macro_rules | `(tactic| walk_at "call ref") => `(tactic| (k_here; k_dflt (apply inner_use; (case IH => assumption); (case B | F | X | T => k_asm); (case hk => exact rfl); (case N => k_asm); (case hI => assumption); (case h1 | h2 | h3 | h4 | h5 | h6 | h7 => walk_at "MINE arith"); (case h8 => ktr_room); k_whole); intro _ _ _ _ _ _ _ _ _; (try dsimp only); (try k_fold)))
local macro_rules | `(tactic| walk_at "call ref") => `(tactic| (k_here; k_dflt (apply inner_first; (case H => assumption); (case N => k_asm); (case hf | hc => k_mem); (case hcd | hcv => assumption); (case hca => k_mem); (case hda => k_asm); (case hci => k_mem); (case hdi => k_asm); (case hcN => k_mem); (case hdN => k_asm); (case hl => k_all); (case hn | hn2 => assumption); (case B | F | X | T => k_asm); (case hk => exact rfl); (case hI => assumption); (case h1 | h2 | h3 | h4 | h6 | h7 => walk_at "MINE arith"); (case h8 => exact Nat.le_of_ble_eq_true rfl); k_whole); intro _ _ _ _ _ _ _ _ _; (try dsimp only); (try k_fold)))
set_option rowWalk.seconds 0 in
theorem i2d_ok (w : World) (p : Program) (loose : List Str) (mean : ExcName → Option Value) (mg mb : Str → Option Value)
  (gd : Option (List Code)) (cn : Str) (cs : Scope) (a : Addr) (ccd : Value) (cl : List (Str × Addr)) (outer : List Env) (A₀ : Around) (base h₀ : Heap) (L : Addr) (m : Str → Option Value) (s : Shared) (Q E : Value → Shared → Prop)
  (x n : Int) (tx tn : Tok) (o30 : Obj) (rest : List (Addr × Obj)) :
  (Mine.hd.heap_39 w.params).In h₀ →
  Below A₀ base outer h₀ → CodeHd base 34 30 → Fr h₀ L s.heap m → News h₀ L s.heap ((30, o30) :: rest) → (∀ p ∈ rest, p.1 ≠ 30) → 
  (o30 = tabObj #[] ∨ Hot 32 4 "_int2digits.<locals>.inner" o30 rest) → Top p loose mean mg mb h₀ →
  cs.kind = .function → 0 ≤ x → x < 2 ^ 20 → 0 < n → n ≤ 20 →
  (∀ l vs ns e c oc cvs t h' tk', Fr h₀ L h' m → News h₀ L h' ((l, listOf vs.toArray e) :: (c, oc) :: (30, T3 32 4 c) :: rest) → oc.data = .fields cvs → cvs[1]? = some (.str "_int2digits.<locals>.inner" t) → (∀ p ∈ rest, p.1 < l) → @LT.lt Nat _ 30 l → c ≠ l → Born o30 32 4 c rest →
    IntsAre vs ns → ns = digs n.toNat (((Builtin.Int.intBits x : Int) + n - 1).fdiv n).toNat x.toNat → Q (.ref l) { s with heap := h', toks := tk' }) →
  wpAny (model Challenge.rw_hl0003_01.row.prog w) (ktrTop 400 1000 gd cn cs L a ccd cl outer) (call (.ref 35) [.int x tx, .int n tn]) Q E s := by
  k_fill
  intro X B C1 F N h30 hst T hk hx hx2 hn hn2 hret
  have hdc := dcount x n hx hx2 hn
  obtain ⟨hc0, hc1, hc2, hc3, hc4⟩ := hdc
  refine wpAny_call ?_
  (k_dflt (refine' code_defC ?zzk1u1 ?zzk2u1 ?zzk3u1 ?zzk4u1 ?zzk5u1 ?zzkAu1 ?zzkFu1 ?zzkKu1 ?zzk6u1 ?zzk7u1 ?zzk8u1 ?zzk9u1 ?zzkBu1 ?zzkDu1 ?_ ?zzc2u1 ?zzc3u1 ?zzc4u1; (case zzkAu1 | zzkFu1 => exact rfl); (case zzkKu1 => assumption); (case zzk1u1 | zzk2u1 | zzk3u1 | zzk4u1 | zzk5u1 => k_asm); (case zzk6u1 | zzk7u1 => k_is); (case zzk8u1 => k_room); (case zzk9u1 => first | exact BindsTo.of_eq rfl | exact binds_K (by k_in) rfl (by k_is) rfl rfl rfl | fail "k_enter: no rule for these arguments"); (case zzkBu1 => exact rfl); (case zzkDu1 => decide +kernel); (case zzc2u1 | zzc3u1 | zzc4u1 => exact rfl); k_whole; intro _ _ _ _ _ _ _ N' Y' B' _ _ l1; (have l9 := lt9c l1); (try k_lt l1); k_cells Y'; (try simp only [List.cons_append, List.nil_append] at N'); (try dsimp only); (try k_lift B'); (try k_fold)))
  iterate 29 walk1
  refine use_inner (w := w) (by assumption) (List.Mem.head _) ?zzH ?_
  case zzH =>
    unfold InnerCl
    intro p loose mean mg mb f l ca ci cN c oa oi oN oc doc pm ctv cvs t tn n e rest kk hf hc hcd hcv hca hda hci hdi hcN hdN hl hn hn2
    induction kk with
    | zero => 
      unfold InnerAt; intros; omega
    | succ kk IH =>
      unfold InnerAt
      intro dp un gd cn cs a ccd cl outer A₀ base h₀ L m s Q E vs ns x Lo Hi tx tl th B F X T hk N hI hx hx2 hLo hLH hkk hHi hns hdp hret
      obtain ⟨m1, m2, m3, m4, m5, m6⟩ := mid_facts Lo Hi n hLo hLH hn hn2 (by omega)
      obtain ⟨x1, x2, x3, x4, x5, x6, x7⟩ := x_facts x hx hx2 (((Lo + Hi).fdiv (2 ^ Int.toNat 1) - Lo) * n).toNat
      refine wpAny_call ?_
      (k_dflt (refine' code_nest ?zzk1u2 ?zzk2u2 ?zzk3u2 ?zzk4u2 ?zzk5u2 ?zzkAu2 ?zzkFu2 ?zzkKu2 ?zzk6u2 ?zzk7u2 ?zzk8u2 ?zzk9u2 ?zzkBu2 ?_ ?zzc2u2 ?zzc3u2 ?zzc4u2 ?zzc5u2; (case zzkAu2 | zzkFu2 => exact rfl); (case zzkKu2 => assumption); (case zzk1u2 | zzk2u2 | zzk3u2 | zzk4u2 | zzk5u2 => k_asm); (case zzk6u2 => k_mem); (case zzk7u2 => exact codeRec_news (by k_asm) (by k_mem) (by assumption) (by assumption)); (case zzk8u2 => k_room); (case zzk9u2 => exact BindsTo.of_eq rfl); (case zzc5u2 => decide); (case zzkBu2 => exact locs rfl); (case zzc2u2 | zzc3u2 | zzc4u2 => exact rfl); k_whole; intro _ _ _ _ _ _ B' _ _; (try dsimp only); (try k_lift B'); (try k_fold)))
      k_steps
      · refine hret _ _ _ _ (by k_asm) (by k_asm) (by assumption) (inner_leaf ns Lo Hi n x hLo (by walk_at "MINE arith") hHi hx) (by assumption)
      · refine hret _ _ _ _ (by k_asm) (by k_asm) (by assumption) (inner_fin (by assumption) (by assumption) hLo (by walk_at "MINE arith") m3 hHi m6 x7 x4) (by omega)
  intro HI
  with_reducible rename News _ _ _ _ => N8
  have N9 := rot3 N8
  clear N8
  k_steps
  · refine' hret _ _ _ _ _ _ _ _ _ _ ?zzF ?zzN ?zzd ?zzv ?zzl ?zzl30 ?zzne ?zzhc ?zzI ?zze
    case zzhc => exact Born.mono (by assumption) (by walk_at "MINE sub")
    case zzd => assumption
    case zzv => assumption
    case zzF => k_asm
    case zzN => walk_at "MINE drop"
    case zzl => exact lt_up (by assumption) (by omega)
    case zzl30 => exact ltN (by omega)
    case zzne => exact neN (by omega)
    case zzI => assumption
    case zze => exact i2d_fin (by assumption) (by assumption) (by omega)
  · refine' hret _ _ _ _ _ _ _ _ _ _ ?zzF ?zzN ?zzd ?zzv ?zzl ?zzl30 ?zzne ?zzhc ?zzI ?zze
    case zzhc => exact Born.mono (by assumption) (by walk_at "MINE sub")
    case zzd => assumption
    case zzv => assumption
    case zzF => k_asm
    case zzN => walk_at "MINE drop"
    case zzl => exact lt_up (by assumption) (by omega)
    case zzl30 => exact ltN (by omega)
    case zzne => exact neN (by omega)
    case zzI => assumption
    case zze => exact i2d_nil (by assumption) (by assumption)
end
end
local macro_rules | `(tactic| walk_at "MINE sub") => `(tactic| first | assumption | exact (fun _ h => h) | (refine sub_cons ?a ?b; (case a => k_mem); (case b => walk_at "MINE sub")) | (refine sub_tl ?_; walk_at "MINE sub"))
local macro_rules | `(tactic| walk_at "ite") => `(tactic| first
  | ((with_reducible refine ite_dec_pos ?itp ?_); (case itp => omega))
  | ((with_reducible refine ite_dec_neg ?itn ?_); (case itn => omega))
  | ((with_reducible refine ite_beq_pos ?itp ?_); (case itp => omega))
  | ((with_reducible refine ite_beq_neg ?itn ?_); (case itn => omega))
  | ((with_reducible refine ite_bne_pos ?itp ?_); (case itp => omega))
  | ((with_reducible refine ite_bne_neg ?itn ?_); (case itn => omega)))
section
noncomputable def InAt2 (w : World) (p : Program) (loose : List Str) (mean : ExcName → Option Value) (mg mb : Str → Option Value) (f : Addr) (n : Int) (ns : List Int) (rest : List (Addr × Obj)) (kk : Nat) : Prop :=
  ∀ (dp un : Nat) (gd : Option (List Code)) (cn : Str) (cs : Scope) (a : Addr) (ccd : Value) (cl : List (Str × Addr)) (outer : List Env) (A₀ : Around) (base h₀ : Heap) (L : Addr) (m : Str → Option Value) (s : Shared) (Q E : Value → Shared → Prop)
    (Lo Hi : Int) (tl th : Tok),
    Below A₀ base outer h₀ → Fr h₀ L s.heap m → (Mine.hd.heap_39 w.params).In h₀ → Top p loose mean mg mb h₀ → cs.kind = .function →
    News h₀ L s.heap rest → 0 ≤ Lo → Lo < Hi → (Hi - Lo).toNat ≤ kk → Hi ≤ ns.length → dp + kk + 2 < recursionLimit →
    (∀ v t h' tk', Fr h₀ L h' m → News h₀ L h' rest → v = dval n.toNat ((ns.drop Lo.toNat).take (Hi - Lo).toNat) → 0 ≤ v → v < 2 ^ 400 → Q (.int v t) { s with heap := h', toks := tk' }) →
    wpAny (model Challenge.rw_hl0003_01.row.prog w) (ktrTop dp un gd cn cs L a ccd cl outer) (call (.ref f) [.int Lo tl, .int Hi th]) Q E s

noncomputable def InCl2 (w : World) (qual : Str) (params : Arguments) (body : List Stmt) (scope : Scope) : Prop :=
  ∀ (p : Program) (loose : List Str) (mean : ExcName → Option Value) (mg mb : Str → Option Value) (f l ca ci cN c : Addr) (oa oi oN oc : Obj) (doc pm ctv : Value) (cvs : Array Value) (t tn : Tok) (n : Int) (e : Nat) (rest : List (Addr × Obj)) (kk : Nat) (vs : List Value) (ns : List Int),
    (f, fnMade (Str.ofString "inner") qual params body scope [(Str.ofString "n", cN), (Str.ofString "inner", ci), (Str.ofString "digits", ca)] doc pm c ctv) ∈ rest → (c, oc) ∈ rest → oc.data = .fields cvs → cvs[1]? = some (.str qual t) →
    (ca, oa) ∈ rest → oa.data = .cell (some (.ref l)) → (ci, oi) ∈ rest → oi.data = .cell (some (.ref f)) → (cN, oN) ∈ rest → oN.data = .cell (some (.int n tn)) →
    (l, listOf vs.toArray e) ∈ rest → IntsAre vs ns → ns.length ≤ 20 → (∀ d ∈ ns, 0 ≤ d ∧ d < 2 ^ n.toNat) → 0 < n → n ≤ 20 → InAt2 w p loose mean mg mb f n ns rest kk

theorem in_use2 {w : World} {p : Program} {loose : List Str} {mean : ExcName → Option Value} {mg mb : Str → Option Value} {f : Addr} {n : Int} {rest : List (Addr × Obj)} {kk : Nat}
  {dp un : Nat} {gd : Option (List Code)} {cn : Str} {cs : Scope} {a : Addr} {ccd : Value} {cl : List (Str × Addr)} {outer : List Env} {A₀ : Around} {base h₀ : Heap} {L : Addr} {m : Str → Option Value} {s : Shared} {Q E : Value → Shared → Prop}
    {ns : List Int} {Lo Hi : Int} {tl th : Tok} (IH : InAt2 w p loose mean mg mb f n ns rest kk)
    (B : Below A₀ base outer h₀) (F : Fr h₀ L s.heap m) (X : (Mine.hd.heap_39 w.params).In h₀) (T : Top p loose mean mg mb h₀) (hk : cs.kind = .function)
    (N : News h₀ L s.heap rest) (h3 : 0 ≤ Lo) (h4 : Lo < Hi) (h5 : (Hi - Lo).toNat ≤ kk) (h6 : Hi ≤ ns.length) (h8 : dp + kk + 2 < recursionLimit)
    (h : ∀ v t h' tk', Fr h₀ L h' m → News h₀ L h' rest → v = dval n.toNat ((ns.drop Lo.toNat).take (Hi - Lo).toNat) → 0 ≤ v → v < 2 ^ 400 → Q (.int v t) { s with heap := h', toks := tk' }) :
    wpAny (model Challenge.rw_hl0003_01.row.prog w) (ktrTop dp un gd cn cs L a ccd cl outer) (call (.ref f) [.int Lo tl, .int Hi th]) Q E s :=
  IH _ _ _ _ _ _ _ _ _ _ _ _ _ _ _ _ _ _ _ _ _ B F X T hk N h3 h4 h5 h6 h8 h

theorem in_first2 {w : World} {p : Program} {loose : List Str} {mean : ExcName → Option Value} {mg mb : Str → Option Value} {f l ca ci cN c : Addr} {oa oi oN oc : Obj} {doc pm ctv : Value} {cvs : Array Value} {t tn : Tok} {n : Int} {e : Nat} {rest : List (Addr × Obj)}
  {qual : Str} {params : Arguments} {body : List Stmt} {scope : Scope}
  {dp un : Nat} {gd : Option (List Code)} {cn : Str} {cs : Scope} {a : Addr} {ccd : Value} {cl : List (Str × Addr)} {outer : List Env} {A₀ : Around} {base h₀ : Heap} {L : Addr} {m : Str → Option Value} {s : Shared} {Q E : Value → Shared → Prop}
    {vs : List Value} {ns : List Int} {Lo Hi : Int} {tl th : Tok} (H : InCl2 w qual params body scope)
    (N : News h₀ L s.heap rest)
    (hf : (f, fnMade (Str.ofString "inner") qual params body scope [(Str.ofString "n", cN), (Str.ofString "inner", ci), (Str.ofString "digits", ca)] doc pm c ctv) ∈ rest) (hc : (c, oc) ∈ rest) (hcd : oc.data = .fields cvs) (hcv : cvs[1]? = some (.str qual t))
    (hca : (ca, oa) ∈ rest) (hda : oa.data = .cell (some (.ref l))) (hci : (ci, oi) ∈ rest) (hdi : oi.data = .cell (some (.ref f))) (hcN : (cN, oN) ∈ rest) (hdN : oN.data = .cell (some (.int n tn)))
    (hl : (l, listOf vs.toArray e) ∈ rest) (hI : IntsAre vs ns) (hlen : ns.length ≤ 20) (hdg : ∀ d ∈ ns, 0 ≤ d ∧ d < 2 ^ n.toNat) (hn : 0 < n) (hn2 : n ≤ 20)
    (B : Below A₀ base outer h₀) (F : Fr h₀ L s.heap m) (X : (Mine.hd.heap_39 w.params).In h₀) (T : Top p loose mean mg mb h₀) (hk : cs.kind = .function)
    (h3 : 0 ≤ Lo) (h4 : Lo < Hi) (h6 : Hi ≤ ns.length) (h8 : dp + 60 < recursionLimit)
    (h : ∀ v t h' tk', Fr h₀ L h' m → News h₀ L h' rest → v = dval n.toNat ((ns.drop Lo.toNat).take (Hi - Lo).toNat) → 0 ≤ v → v < 2 ^ 400 → Q (.int v t) { s with heap := h', toks := tk' }) :
    wpAny (model Challenge.rw_hl0003_01.row.prog w) (ktrTop dp un gd cn cs L a ccd cl outer) (call (.ref f) [.int Lo tl, .int Hi th]) Q E s :=
  in_use2 (H p loose mean mg mb f l ca ci cN c oa oi oN oc doc pm ctv cvs t tn n e rest 50 vs ns hf hc hcd hcv hca hda hci hdi hcN hdN hl hI hlen hdg hn hn2) B F X T hk N h3 h4 (by omega) h6 (by omega) h

theorem in2_end {h₀ h' : Heap} {L : Addr} {m : Str → Option Value} {rest : List (Addr × Obj)} {Q : Value → Shared → Prop} {s : Shared} {x y : Int} {t : Tok} {tk' : Nat}
    (hret : ∀ v t h' tk', Fr h₀ L h' m → News h₀ L h' rest → v = x → 0 ≤ v → v < 2 ^ 400 → Q (.int v t) { s with heap := h', toks := tk' }) (F : Fr h₀ L h' m) (N : News h₀ L h' rest) (e : y = x) (q0 : 0 ≤ x) (q1 : x < 2 ^ 400) : Q (.int y t) { s with heap := h', toks := tk' } :=
  hret y t h' tk' F N e (e ▸ q0) (e ▸ q1)
theorem use_in2 {P : Prop} {w : World} {h₀ h : Heap} {L : Addr} {news : List (Addr × Obj)} {f ca ci cN c : Addr} {qual : Str} {params : Arguments} {body : List Stmt} {scope : Scope} {doc pm ctv : Value}
  (_ : News h₀ L h news) (_ : (f, fnMade (Str.ofString "inner") qual params body scope [(Str.ofString "n", cN), (Str.ofString "inner", ci), (Str.ofString "digits", ca)] doc pm c ctv) ∈ news)
  (H : InCl2 w qual params body scope) (k : InCl2 w qual params body scope → P) : P := k H

section
local macro_rules | `(tactic| walk_at "call ref") => `(tactic| (k_here; k_dflt (apply in_use2; (case IH => assumption); (case B | F | X | T => k_asm); (case hk => exact rfl); (case N => k_asm); (case h3 | h4 | h5 | h6 => walk_at "MINE arith"); (case h8 => ktr_room); k_whole); intro _ _ _ _ _ _ _ _ _; (try dsimp only); (try k_fold)))
local macro_rules | `(tactic| walk_at "call ref") => `(tactic| (k_here; k_dflt (apply in_first2; (case H => assumption); (case N => k_asm); (case hf | hc => k_mem); (case hcd | hcv => assumption); (case hca => k_mem); (case hda => k_asm); (case hci => k_mem); (case hdi => k_asm); (case hcN => k_mem); (case hdN => k_asm); (case hl => k_mem); (case hI | hlen | hdg | hn | hn2 => assumption); (case B | F | X | T => k_asm); (case hk => exact rfl); (case h3 | h4 | h6 => walk_at "MINE arith"); (case h8 => exact Nat.le_of_ble_eq_true rfl); k_whole); intro _ _ _ _ _ _ _ _ _; (try dsimp only); (try k_fold)))
local macro_rules | `(tactic| walk_at "binaryOp LShift int int") => `(tactic| ((with_reducible refine lshift_int ?kbn ?kbs ?_); (case kbn => assumption); (case kbs => exact shl_ok (by assumption) (by assumption) (by assumption))))
local macro_rules | `(tactic| walk_at "truthy ref") => `(tactic| (k_here; (with_reducible refine gd_t ?_); k_dflt (refine' truthy_ints ?N ?m ?I ?f ?_ ?_; (case N => k_asm); (case m => k_mem); (case I => assumption); (case f => omega)); (all_goals intro _)))
local macro_rules | `(tactic| walk_at "call builtin:len") => `(tactic| (k_here; (with_reducible refine gd_r ?_); k_dflt (refine' len_ints ?N ?m ?I ?f ?_; (case N => k_asm); (case m => k_mem); (case I => assumption); (case f => omega))))
set_option rowWalk.seconds 0 in
theorem d2i_ok (w : World) (p : Program) (loose : List Str) (mean : ExcName → Option Value) (mg mb : Str → Option Value)
  (gd : Option (List Code)) (cn : Str) (cs : Scope) (a : Addr) (ccd : Value) (cl : List (Str × Addr)) (outer : List Env) (A₀ : Around) (base h₀ : Heap) (L : Addr) (m : Str → Option Value) (s : Shared) (Q E : Value → Shared → Prop)
  (n : Int) (l : Addr) (vs : List Value) (ns : List Int) (e : Nat) (tn : Tok) (o37 : Obj) (rest : List (Addr × Obj)) :
  (Mine.hd.heap_39 w.params).In h₀ →
  Below A₀ base outer h₀ → CodeHd base 41 37 → Fr h₀ L s.heap m → News h₀ L s.heap ((37, o37) :: rest) → (∀ p ∈ rest, p.1 ≠ 37) → 
  (o37 = tabObj #[] ∨ Hot 47 4 "_digits2int.<locals>.inner" o37 rest) → Top p loose mean mg mb h₀ →
  cs.kind = .function → (l, listOf vs.toArray e) ∈ rest → IntsAre vs ns → ns.length ≤ 20 → (∀ d ∈ ns, 0 ≤ d ∧ d < 2 ^ n.toNat) → 0 < n → n ≤ 20 →
  (∀ v c oc cvs t t' h' tk', Fr h₀ L h' m → News h₀ L h' ((c, oc) :: (37, T3 47 4 c) :: rest) → oc.data = .fields cvs → cvs[1]? = some (.str "_digits2int.<locals>.inner" t) → Born o37 47 4 c rest →
    v = dval n.toNat ns → Q (.int v t') { s with heap := h', toks := tk' }) →
  wpAny (model Challenge.rw_hl0003_01.row.prog w) (ktrTop 400 1000 gd cn cs L a ccd cl outer) (call (.ref 42) [.ref l, .int n tn]) Q E s := by
  k_fill
  intro X B C1 F N h37 hst T hk hl hI hlen hdg hn hn2 hret
  refine wpAny_call ?_
  (k_dflt (refine' code_defC ?zzk1u3 ?zzk2u3 ?zzk3u3 ?zzk4u3 ?zzk5u3 ?zzkAu3 ?zzkFu3 ?zzkKu3 ?zzk6u3 ?zzk7u3 ?zzk8u3 ?zzk9u3 ?zzkBu3 ?zzkDu3 ?_ ?zzc2u3 ?zzc3u3 ?zzc4u3; (case zzkAu3 | zzkFu3 => exact rfl); (case zzkKu3 => assumption); (case zzk1u3 | zzk2u3 | zzk3u3 | zzk4u3 | zzk5u3 => k_asm); (case zzk6u3 | zzk7u3 => k_is); (case zzk8u3 => k_room); (case zzk9u3 => first | exact BindsTo.of_eq rfl | exact binds_K (by k_in) rfl (by k_is) rfl rfl rfl | fail "k_enter: no rule for these arguments"); (case zzkBu3 => exact rfl); (case zzkDu3 => decide +kernel); (case zzc2u3 | zzc3u3 | zzc4u3 => exact rfl); k_whole; intro _ _ _ _ _ _ _ N' Y' B' _ _ l1; (have l9 := lt9c l1); (try k_lt l1); k_cells Y'; (try simp only [List.cons_append, List.nil_append] at N'); (try dsimp only); (try k_lift B'); (try k_fold)))
  iterate 4 walk1
  refine use_in2 (w := w) (by assumption) (List.Mem.head _) ?zzH ?_
  case zzH =>
    unfold InCl2
    intro p loose mean mg mb f l ca ci cN c oa oi oN oc doc pm ctv cvs t tn n e rest kk vs ns hf hc hcd hcv hca hda hci hdi hcN hdN hl hI hlen hdg hn hn2
    induction kk with
    | zero => 
      unfold InAt2; intros; omega
    | succ kk IH =>
      unfold InAt2
      intro dp un gd cn cs a ccd cl outer A₀ base h₀ L m s Q E Lo Hi tl th B F X T hk N hLo hLH hkk hHi hdp hret
      obtain ⟨m1, m2, m3, m4, m5, m6⟩ := mid_facts Lo Hi n hLo hLH hn hn2 (by omega)
      refine wpAny_call ?_
      (k_dflt (refine' code_nest ?zzk1u4 ?zzk2u4 ?zzk3u4 ?zzk4u4 ?zzk5u4 ?zzkAu4 ?zzkFu4 ?zzkKu4 ?zzk6u4 ?zzk7u4 ?zzk8u4 ?zzk9u4 ?zzkBu4 ?_ ?zzc2u4 ?zzc3u4 ?zzc4u4 ?zzc5u4; (case zzkAu4 | zzkFu4 => exact rfl); (case zzkKu4 => assumption); (case zzk1u4 | zzk2u4 | zzk3u4 | zzk4u4 | zzk5u4 => k_asm); (case zzk6u4 => k_mem); (case zzk7u4 => exact codeRec_news (by k_asm) (by k_mem) (by assumption) (by assumption)); (case zzk8u4 => k_room); (case zzk9u4 => exact BindsTo.of_eq rfl); (case zzc5u4 => decide); (case zzkBu4 => exact locs rfl); (case zzc2u4 | zzc3u4 | zzc4u4 => exact rfl); k_whole; intro _ _ _ _ _ _ B' _ _; (try dsimp only); (try k_lift B'); (try k_fold)))
      k_steps
      · obtain ⟨q0, q1⟩ := dval_part hdg hn2 hlen Lo.toNat (Hi - Lo).toNat
        have q2 := in2_leaf (n := n) (ns := ns) hLo (by walk_at "MINE arith" : Lo + 1 = Hi) hHi
        exact hret _ _ _ _ (by k_asm) (by k_asm) q2 (q2 ▸ q0) (q2 ▸ q1)
      · obtain ⟨q0, q1⟩ := dval_part hdg hn2 hlen Lo.toNat (Hi - Lo).toNat
        refine in2_end hret (by k_asm) (by k_asm) (in2_fin hLo m1 (Int.le_of_lt m3) hHi (by assumption) (by assumption) m6) q0 q1
  intro HI
  k_steps
  · refine' hret _ _ _ _ _ _ _ _ ?zzF ?zzN ?zzd ?zzv ?zzhc ?zze
    case zzhc => exact Born.mono (by assumption) (by walk_at "MINE sub")
    case zzd => assumption
    case zzv => assumption
    case zzF => k_asm
    case zzN => walk_at "MINE drop"
    case zze => exact d2i_fin (by assumption)
  · refine' hret _ _ _ _ _ _ _ _ ?zzF ?zzN ?zzd ?zzv ?zzhc ?zze
    case zzhc => exact Born.mono (by assumption) (by walk_at "MINE sub")
    case zzd => assumption
    case zzv => assumption
    case zzF => k_asm
    case zzN => walk_at "MINE drop"
    case zze => exact d2i_nil (by assumption)
end
end
section
local macro_rules | `(tactic| walk_at "call builtin:divmod") => `(tactic| ((with_reducible refine gd_ii ?_); k_dflt (refine' divmod_N2 ?F ?N ?b ?b2 ?_; (case F | N => k_asm); (case b => assumption); (case b2 => assumption)); intro _ _ _ _ _ _ _ _; (try k_fold)))
theorem dm2_ok (w : World) (p : Program) (loose : List Str) (mean : ExcName → Option Value) (mg mb : Str → Option Value)
  (gd : Option (List Code)) (cn : Str) (cs : Scope) (a : Addr) (ccd : Value) (cl : List (Str × Addr)) (outer : List Env) (A₀ : Around) (base h₀ : Heap) (L : Addr) (m : Str → Option Value) (s : Shared) (Q E : Value → Shared → Prop)
  (x y n : Int) (tx ty tn : Tok) (news : List (Addr × Obj)) :
  (Mine.hd.heap_39 w.params).In h₀ →
  Below A₀ base outer h₀ → Fr h₀ L s.heap m → News h₀ L s.heap news → Top p loose mean mg mb h₀ →
  cs.kind = .function → 0 ≤ x → x < 2 ^ 100 → 0 < y → y < 2 ^ 30 → 0 < n →
  (∀ d t1 t2 h' tk', Fr h₀ L h' m → News h₀ L h' ((d, { cls := .type "tuple", data := .seq #[.int (x.fdiv y) t1, .int (x.fmod y) t2] }) :: news) → (∀ p ∈ news, p.1 < d) → Q (.ref d) { s with heap := h', toks := tk' }) →
  wpAny (model Challenge.rw_hl0003_01.row.prog w) (ktrTop 400 1000 gd cn cs L a ccd cl outer) (call (.ref 21) [.int x tx, .int y ty, .int n tn]) Q E s := by
  k_fill
  intro X B F N T hk hx hx2 hy hy2 hn hret
  have hbits := bits_le x hx 100 hx2
  refine wpAny_call ?_
  k_dflt cell_enter
  k_steps
  exact hret _ _ _ _ _ (by k_asm) (by k_asm) (by assumption)
noncomputable abbrev tup2 (a b : Value) : Obj := { cls := .type "tuple", data := .seq #[a, b] }
theorem st_use {w : World} {p : Program} {loose : List Str} {mean : ExcName → Option Value} {mg mb : Str → Option Value}
  {dp un : Nat} {gd : Option (List Code)} {cn : Str} {cs : Scope} {a : Addr} {ccd : Value} {cl : List (Str × Addr)} {outer : List Env} {A₀ : Around} {base h₀ : Heap} {L : Addr} {m : Str → Option Value} {s : Shared} {Q E : Value → Shared → Prop}
  {r y d n : Int} {tx ty tn : Tok} {news : List (Addr × Obj)} (hdp : dp ≤ 400) (hun : un ≤ 1000)
  (X : (Mine.hd.heap_39 w.params).In h₀) (B : Below A₀ base outer h₀) (F : Fr h₀ L s.heap m) (N : News h₀ L s.heap news) (T : Top p loose mean mg mb h₀) (hk : cs.kind = .function)
  (h0 : 0 ≤ r) (h1 : r < y) (hy : y < 2 ^ 20) (hd : 0 ≤ d ∧ d < 2 ^ n.toNat) (hn : 0 < n) (hn2 : n ≤ 20)
  (ret : ∀ a q r' t1 t2 h' tk', Fr h₀ L h' m → News h₀ L h' ((a, tup2 (.int q t1) (.int r' t2)) :: news) → (∀ p ∈ news, p.1 < a) → q = (r * 2 ^ n.toNat + d).fdiv y → r' = (r * 2 ^ n.toNat + d).fmod y → 0 ≤ r' → r' < y → (0 ≤ q ∧ q < 2 ^ n.toNat) → Q (.ref a) { s with heap := h', toks := tk' }) :
  wpAny (model Challenge.rw_hl0003_01.row.prog w) (ktrTop dp un gd cn cs L a ccd cl outer) (call (.ref 21) [.int (r * 2 ^ n.toNat + d) tx, .int y ty, .int n tn]) Q E s := by
  obtain ⟨e1, e2, e3, e4, e5, e6⟩ := step_ok (k := n.toNat) (by omega) h0 h1 hy hd.1 hd.2
  refine wp_room (dm2_ok w p loose mean mg mb gd cn cs a ccd cl outer A₀ base h₀ L m s Q E _ y n tx ty tn news X B F N T hk e1 e2 (by omega) (by omega) hn fun d t1 t2 h' tk' F' N' l1 => ?_) hdp hun
  exact ret _ _ _ _ _ _ _ F' N' l1 rfl rfl e5 e6 ⟨e3, e4⟩

theorem i2d_use {w : World} {p : Program} {loose : List Str} {mean : ExcName → Option Value} {mg mb : Str → Option Value}
  {dp un : Nat} {gd : Option (List Code)} {cn : Str} {cs : Scope} {a : Addr} {ccd : Value} {cl : List (Str × Addr)} {outer : List Env} {A₀ : Around} {base h₀ : Heap} {L : Addr} {m : Str → Option Value} {s : Shared} {Q E : Value → Shared → Prop}
  {x n : Int} {tx tn : Tok} {o30 : Obj} {news keep : List (Addr × Obj)} (hdp : dp ≤ 400) (hun : un ≤ 1000)
  (X : (Mine.hd.heap_39 w.params).In h₀) (B : Below A₀ base outer h₀) (C1 : CodeHd base 34 30) (F : Fr h₀ L s.heap m) (N : News h₀ L s.heap news) (hm : (30, o30) ∈ news) (R : Rm 30 news keep)
  (hst : o30 = tabObj #[] ∨ Hot 32 4 "_int2digits.<locals>.inner" o30 keep) (T : Top p loose mean mg mb h₀)
  (hk : cs.kind = .function) (hx : 0 ≤ x) (hx2 : x < 2 ^ 20) (hn : 0 < n) (hn2 : n ≤ 20)
  (ret : ∀ l vs ns e c oc cvs t h' tk', Fr h₀ L h' m → News h₀ L h' ((l, listOf vs.toArray e) :: (c, oc) :: (30, T3 32 4 c) :: keep) → oc.data = .fields cvs → cvs[1]? = some (.str "_int2digits.<locals>.inner" t) → (∀ p ∈ keep, p.1 < l) → @LT.lt Nat _ 30 l → c ≠ l → Born o30 32 4 c keep →
    IntsAre vs ns → ns = digs n.toNat (((Builtin.Int.intBits x : Int) + n - 1).fdiv n).toNat x.toNat → Q (.ref l) { s with heap := h', toks := tk' }) :
  wpAny (model Challenge.rw_hl0003_01.row.prog w) (ktrTop dp un gd cn cs L a ccd cl outer) (call (.ref 35) [.int x tx, .int n tn]) Q E s :=
  wp_room (i2d_ok w p loose mean mg mb gd cn cs a ccd cl outer A₀ base h₀ L m s Q E x n tx tn o30 keep X B C1 F (fun q hq => N q (by rcases List.mem_cons.mp hq with rfl | hq; exact hm; exact R.ok.1 q hq)) R.ok.2 hst T hk hx hx2 hn hn2 ret) hdp hun

theorem d2i_use {w : World} {p : Program} {loose : List Str} {mean : ExcName → Option Value} {mg mb : Str → Option Value}
  {dp un : Nat} {gd : Option (List Code)} {cn : Str} {cs : Scope} {a : Addr} {ccd : Value} {cl : List (Str × Addr)} {outer : List Env} {A₀ : Around} {base h₀ : Heap} {L : Addr} {m : Str → Option Value} {s : Shared} {Q E : Value → Shared → Prop}
  {n : Int} {l : Addr} {vs : List Value} {ns : List Int} {e : Nat} {tn : Tok} {o37 : Obj} {news keep : List (Addr × Obj)} (hdp : dp ≤ 400) (hun : un ≤ 1000)
  (X : (Mine.hd.heap_39 w.params).In h₀) (B : Below A₀ base outer h₀) (C1 : CodeHd base 41 37) (F : Fr h₀ L s.heap m) (N : News h₀ L s.heap news) (hm : (37, o37) ∈ news) (R : Rm 37 news keep)
  (hst : o37 = tabObj #[] ∨ Hot 47 4 "_digits2int.<locals>.inner" o37 keep) (T : Top p loose mean mg mb h₀)
  (hk : cs.kind = .function) (hl : (l, listOf vs.toArray e) ∈ keep) (hI : IntsAre vs ns) (hlen : ns.length ≤ 20) (hdg : ∀ d ∈ ns, 0 ≤ d ∧ d < 2 ^ n.toNat) (hn : 0 < n) (hn2 : n ≤ 20)
  (ret : ∀ v c oc cvs t t' h' tk', Fr h₀ L h' m → News h₀ L h' ((c, oc) :: (37, T3 47 4 c) :: keep) → oc.data = .fields cvs → cvs[1]? = some (.str "_digits2int.<locals>.inner" t) → Born o37 47 4 c keep →
    v = dval n.toNat ns → Q (.int v t') { s with heap := h', toks := tk' }) :
  wpAny (model Challenge.rw_hl0003_01.row.prog w) (ktrTop dp un gd cn cs L a ccd cl outer) (call (.ref 42) [.ref l, .int n tn]) Q E s :=
  wp_room (d2i_ok w p loose mean mg mb gd cn cs a ccd cl outer A₀ base h₀ L m s Q E n l vs ns e tn o37 keep X B C1 F (fun q hq => N q (by rcases List.mem_cons.mp hq with rfl | hq; exact hm; exact R.ok.1 q hq)) R.ok.2 hst T hk hl hI hlen hdg hn hn2 ret) hdp hun

local macro_rules | `(tactic| walk_at "MINE rm") => `(tactic| first | (refine' Rm.tl ?h; (case h => k_all)) | (refine' Rm.hit ?b; (case b => walk_at "MINE rm")) | (refine' Rm.miss ?a ?b; (case a => first | (refine neN ?_; (try dsimp only); first | done | omega) | exact code_ne (by assumption) (by k_mem) (by assumption) (by assumption) (by k_mem) (hotT (by assumption))); (case b => walk_at "MINE rm")))
local macro_rules | `(tactic| walk_at "MINE hot") => `(tactic| (refine' hotUp ?h ?s; (case h => assumption); (case s => walk_at "MINE sub")))
noncomputable abbrev dpM (m0 : Str → Option Value) (vq vd : Option Value) (r : Int) (tr : Tok) : Str → Option Value :=
  fun z => if z = Str.ofString "r" then some (.int r tr) else if z = Str.ofString "q_digit" then vq else if z = Str.ofString "a_digit" then vd else m0 z
theorem dpM_init {m : Str → Option Value} {vq vd : Option Value} {tr : Tok} (h1 : m (Str.ofString "r") = some (.int 0 tr)) (h2 : m (Str.ofString "q_digit") = vq) (h3 : m (Str.ofString "a_digit") = vd) : m = dpM m vq vd 0 tr := by
  funext z
  unfold dpM
  split
  · subst z; exact h1
  · split
    · subst z; exact h2
    · split
      · subst z; exact h3
      · rfl
theorem dpM_step (m0 : Str → Option Value) (vq vd vq' vd' : Option Value) (r r' : Int) (tr tr' : Tok) :
    (fun z => if z = Str.ofString "r" then some (.int r' tr') else if z = Str.ofString "q_digit" then vq' else if z = Str.ofString "a_digit" then vd' else dpM m0 vq vd r tr z) = dpM m0 vq' vd' r' tr' := by
  funext z
  unfold dpM
  (repeat' split) <;> first | rfl | contradiction
inductive DpJ (n y : Int) (m0 : Str → Option Value) (lq : Addr) (keep : List (Addr × Obj)) (ds0 : List Int) : List Value → (Str → Option Value) → List (Addr × Obj) → Prop
  | mk {vq vd : Option Value} {r : Int} {tr : Tok} {ds qs rem : List Int} {rv qv : List Value} {eq : Nat} (h1 : LD n.toNat y ds qs r) (h2 : 0 ≤ r) (h3 : r < y) (h4 : ds0 = rem.reverse ++ ds) (h5 : IntsAre rv rem) (h6 : IntsAre qv qs.reverse)
      (h7 : ∀ q ∈ qs, 0 ≤ q ∧ q < 2 ^ n.toNat) (h8 : qs.length = ds.length) : DpJ n y m0 lq keep ds0 rv (dpM m0 vq vd r tr) ((lq, listOf qv.toArray eq) :: keep)
theorem DpJ.start {n y : Int} {m : Str → Option Value} {lq : Addr} {keep : List (Addr × Obj)} {ds0 : List Int} {vs : List Value} {vq vd : Option Value} {tr : Tok} (hy : 0 < y) (hI : IntsAre vs ds0) : DpJ n y m lq keep ds0 vs.reverse (dpM m vq vd 0 tr) ((lq, listOf #[] 0) :: keep) :=
  DpJ.mk (qv := []) (ds := []) (qs := []) (rem := ds0.reverse) .nil (Int.le_refl _) hy (by simp) hI.reverse .nil (by simp) rfl
theorem DpJ.next {n y : Int} {m0 : Str → Option Value} {lq : Addr} {keep : List (Addr × Obj)} {ds0 : List Int} {r q r' d : Int} {ds qs rem : List Int} {rv qv qv' : List Value} {tr' tq : Tok} {eq' : Nat} {vq' vd' : Option Value}
    (h1 : LD n.toNat y ds qs r) (h4 : ds0 = (d :: rem).reverse ++ ds) (h5 : IntsAre rv rem) (h6 : IntsAre qv qs.reverse) (h7 : ∀ q ∈ qs, 0 ≤ q ∧ q < 2 ^ n.toNat) (h8 : qs.length = ds.length)
    (e1 : q = (r * 2 ^ n.toNat + d).fdiv y) (e2 : r' = (r * 2 ^ n.toNat + d).fmod y) (r0 : 0 ≤ r') (r1 : r' < y) (qb : 0 ≤ q ∧ q < 2 ^ n.toNat) (e3 : qv' = qv ++ [.int q tq]) : DpJ n y m0 lq keep ds0 rv (dpM m0 vq' vd' r' tr') ((lq, listOf qv'.toArray eq') :: keep) :=
  DpJ.mk (ds := d :: ds) (qs := q :: qs) (.cons h1 e1 e2) r0 r1 (by rw [h4]; simp) h5 (by rw [e3, List.reverse_cons]; exact IntsAre.append h6 (.cons _ _ .nil)) (fun x hx => by
    rcases List.mem_cons.mp hx with rfl | hx
    · exact qb
    · exact h7 x hx) (by simp [h8])

theorem dp_loop {prog : Program} {w : World} {A : Around} {E : Value → Shared → Prop} {s : Shared} {env : Env} {h₀ : Heap} {x : Str} {body : List Stmt} {Q : Flow → Shared → Prop} {I : Addr} {lp : Addr × Obj}
    {n y : Int} {m : Str → Option Value} {lq : Addr} {keep : List (Addr × Obj)} {ds0 : List Int} {vs : List Value} {vq vd : Option Value} {tr : Tok} {K X : Nat} (h1 : m (Str.ofString "r") = some (.int 0 tr)) (h2 : m (Str.ofString "q_digit") = vq) (h3 : m (Str.ofString "a_digit") = vd) (hI : IntsAre vs ds0) (hy : 0 < y)
    (hds : ds0 = digs n.toNat K X) (hK : K ≤ 20) (hX : X < 2 ^ (n.toNat * K))
    (step : (∀ d ∈ ds0, 0 ≤ d ∧ d < 2 ^ n.toNat) → ds0.length ≤ 20 → ∀ v r m1 news, DpJ n y m lq keep ds0 (v :: r) m1 news → ∀ (it : Obj) h tk, it.cls = .type "list_reverseiterator" → Fr h₀ env.locals h (fun y => if y = x then some v else m1 y) → News h₀ env.locals h ((I, it) :: news) →
      wpAny (model prog w) A (execs body env) (UnrPost h₀ env.locals { s with heap := h, toks := tk } I it (fun m' n' => lp ∈ n' ∧ DpJ n y m lq keep ds0 r m' n') Q) E { s with heap := h, toks := tk })
    (fin : ds0.length ≤ 20 → ∀ m1 news, DpJ n y m lq keep ds0 [] m1 news → ∀ h tk, Fr h₀ env.locals h m1 → News h₀ env.locals h news → Q .next { s with heap := h, toks := tk }) :
    RevRest prog w A E h₀ env x body Q s I lp vs.reverse m ((lq, listOf #[] 0) :: keep) := by
  have hl : ds0.length ≤ 20 := by rw [hds, digs_len]; exact hK
  refine rev_ind (DpJ n y m lq keep ds0) (step (by rw [hds]; exact digs_bound _ _ _ hX) hl) (fin hl) _ _ _ ?_
  have h := DpJ.start (m := m) (lq := lq) (keep := keep) (vq := vq) (vd := vd) (tr := tr) (n := n) hy hI
  rw [← dpM_init h1 h2 h3] at h
  exact h
theorem ints_split {v : Value} {r : List Value} {ns : List Int} (h : IntsAre (v :: r) ns) : ∃ d t ns', v = .int d t ∧ ns = d :: ns' ∧ IntsAre r ns' := by
  cases h with
  | cons i t h => exact ⟨_, _, _, rfl, rfl, h⟩
theorem ints_nil {ns : List Int} (h : IntsAre [] ns) : ns = [] := by cases h; rfl
section
local macro_rules | `(tactic| walk_at "call ref") => `(tactic| (k_here; k_dflt (apply st_use; walk_at "MINE ca"; (case h0 | h1 | hy => walk_at "MINE arith"); (case hd => assumption); (case hn | hn2 => walk_at "MINE arith"); k_whole); intro _ _ _ _ _ _ _ _ _ l1 _ _ _ _ _; (try k_lt l1); (try dsimp only); (try k_fold)))
local macro_rules | `(tactic| walk_at "call ref") => `(tactic| (k_here; k_dflt (apply i2d_use; walk_at "MINE cc"; (case hm => k_mem); (case R => walk_at "MINE rm"); (case hst => walk_at "MINE hot"); (case hx | hx2 | hn | hn2 => walk_at "MINE arith"); k_whole); intro _ _ _ _ _ _ _ _ _ _ _ _ _ _ l1 l30 _ _ _ _; (try k_lt l1); (try k_lt2 l30); (try dsimp only); (try k_fold)))
local macro_rules | `(tactic| walk_at "binaryOp LShift int int") => `(tactic| ((with_reducible refine lshift_int ?kbn ?kbs ?_); (case kbn => omega); (case kbs => exact shl0 (by assumption) (by assumption) (by assumption) (by omega))))
local macro_rules | `(tactic| walk_at "pyIter ref") => `(tactic| ((with_reducible refine gd_it ?_); k_dflt (refine' iter_revUnr ?hh ?F ?N ?of ?m ?c ?d ?rr; (case hh => exact rfl); (case F | N => k_asm); (case m => k_mem); (case c | d => exact rfl); (case of => (refine offI_of ?_; k_all)))))
local macro_rules | `(tactic| walk_at "call builtin:list.append") => `(tactic| (k_here; (with_reducible refine gd_rv ?_); k_dflt (refine' append_L ?k1 ?k2 ?k3 ?z ?_; (case k1 | k2 => k_asm); (case k3 => k_upd); (case z => omega)); intro _ _ _; (try k_sweep)))
local macro_rules | `(tactic| walk_at "call builtin:list.reverse") => `(tactic| (k_here; (with_reducible refine gd_r ?_); k_dflt (refine' reverse_L ?k1 ?k2 ?k3 ?z ?_; (case k1 | k2 => k_asm); (case k3 => k_upd); (case z => omega)); intro _ _ _; (try k_sweep)))
local macro_rules | `(tactic| walk_at "call ref") => `(tactic| (k_here; k_dflt (apply d2i_use; walk_at "MINE cc"; (case hm => k_mem); (case R => walk_at "MINE rm"); (case hst => walk_at "MINE hot"); (case hl => k_mem); (case hI => assumption); (case hlen => omega); (case hdg => assumption); (case hn | hn2 => walk_at "MINE arith"); k_whole); intro _ _ _ _ _ _ _ _ _ _ _ _ _ _; (try dsimp only); (try k_fold)))
set_option rowWalk.seconds 0 in
theorem dp_ok (w : World) (p : Program) (loose : List Str) (mean : ExcName → Option Value) (mg mb : Str → Option Value)
  (gd : Option (List Code)) (cn : Str) (cs : Scope) (a : Addr) (ccd : Value) (cl : List (Str × Addr)) (outer : List Env) (A₀ : Around) (base h₀ : Heap) (L : Addr) (m : Str → Option Value) (s : Shared) (Q E : Value → Shared → Prop)
  (x y : Int) (tx ty : Tok) (o30 o37 : Obj) (rest : List (Addr × Obj)) :
  (Mine.hd.heap_39 w.params).In h₀ →
  Below A₀ base outer h₀ → CodeHd base 34 30 → CodeHd base 41 37 → Fr h₀ L s.heap m → News h₀ L s.heap ((30, o30) :: (37, o37) :: rest) → (∀ p ∈ rest, p.1 ≠ 30) → (∀ p ∈ rest, p.1 ≠ 37) → 
  (o30 = tabObj #[] ∨ Hot 32 4 "_int2digits.<locals>.inner" o30 rest) → (o37 = tabObj #[] ∨ Hot 47 4 "_digits2int.<locals>.inner" o37 rest) → Top p loose mean mg mb h₀ →
  cs.kind = .function → 0 ≤ x → x < 2 ^ 20 → 0 < y → y < 2 ^ 20 → ((Builtin.Int.intBits x : Int) + Builtin.Int.intBits y - 1).fdiv (Builtin.Int.intBits y) ≤ 4 →
  (∀ d q r t1 t2 c oc cvs t c7 oc7 cvs7 t7 h' tk', Fr h₀ L h' m → News h₀ L h' ((d, tup2 (.int q t1) (.int r t2)) :: (c7, oc7) :: (37, T3 47 4 c7) :: (c, oc) :: (30, T3 32 4 c) :: rest) →
    oc.data = .fields cvs → cvs[1]? = some (.str "_int2digits.<locals>.inner" t) → oc7.data = .fields cvs7 → cvs7[1]? = some (.str "_digits2int.<locals>.inner" t7) → (∀ p ∈ rest, p.1 < d) → @LT.lt Nat _ 37 d → c ≠ d → c7 ≠ d →
    Born o30 32 4 c rest → Born o37 47 4 c7 rest → q = x.fdiv y → r = x.fmod y → Q (.ref d) { s with heap := h', toks := tk' }) →
  wpAny (model Challenge.rw_hl0003_01.row.prog w) (ktrTop 395 990 gd cn cs L a ccd cl outer) (call (.ref 49) [.int x tx, .int y ty]) Q E s := by
  k_fill
  intro X B C1 C2 F N h30 h37 hst hst7 T hk hx hx2 hy hy2 hD hret
  have hb1 := bits_pos y hy
  have hb2 := bits_le y (Int.le_of_lt hy) 20 hy2
  have hdc := dcount x (Builtin.Int.intBits y) hx hx2 (by omega)
  obtain ⟨hc0, hc1, hc2, hc3, hc4⟩ := hdc
  refine wpAny_call ?_
  k_dflt cell_enter
  k_steps
  k_dflt (refine' dp_loop (n := (Builtin.Int.intBits y : Int)) (y := y) ?zzh1 ?zzh2 ?zzh3 ?zzhI hy ?zzhds ?zzhK hc4 ?zzstep ?zzfin; (case zzh1 => exact rfl); (case zzh2 => exact rfl); (case zzh3 => exact rfl); (case zzhI => assumption); (case zzhds => assumption); (case zzhK => omega))
  case zzstep =>
    intro hb hlen v r m1 news hJ it h tk hc F N
    cases hJ with
    | mk j1 j2 j3 j4 j5 j6 j7 j8 =>
      obtain ⟨d, td, rem', rfl, rfl, j9⟩ := ints_split j5
      have hb3 := hb d (by rw [j4]; simp)
      have hq1 := j6.length
      have hq2 := congrArg List.length j4
      simp only [List.length_append, List.length_reverse, List.length_cons] at hq1 hq2
      k_steps
      refine' unrEnd_eq ?zzF ?zzN (dpM_step _ _ _ _ _ _ _ _ _) (DpJ.next j1 j4 j9 j6 j7 j8 ?zzq1 ?zzq2 ?zzq3 ?zzq4 ?zzq5 rfl) ?zzlp ?zzsub ?zzoff
      case zzF => k_asm
      case zzN => k_asm
      case zzq1 => assumption
      case zzq2 => assumption
      case zzq3 => assumption
      case zzq4 => assumption
      case zzq5 => assumption
      case zzsub => walk_at "MINE sub"
      case zzlp => k_mem
      case zzoff => k_all
  case zzfin =>
    intro hlen m1 news hJ h tk F N
    cases hJ with
    | @mk vq vd r tr ds qs rem rv qv eq j1 j2 j3 j4 j5 j6 j7 j8 =>
      obtain rfl := ints_nil j5
      have hq1 := j6.length
      simp only [List.length_reverse] at hq1
      rw [List.reverse_nil, List.nil_append] at j4
      have hq2 := congrArg List.length j4
      have j6' := j6.reverse
      rw [List.reverse_reverse] at j6'
      k_steps
      refine' hret _ _ _ _ _ _ _ _ _ _ _ _ _ _ _ ?zzF ?zzN ?zza ?zzb ?zzc ?zzd ?zzl ?zzl37 ?zzne ?zzne7 ?zzhc ?zzhc7 ?zzq ?zzr
      case zzhc => exact Born.mono (by assumption) (by walk_at "MINE sub")
      case zzhc7 => exact Born.mono (by assumption) (by walk_at "MINE sub")
      case zzF => k_asm
      case zzN => walk_at "MINE drop"
      case zza => assumption
      case zzb => assumption
      case zzc => assumption
      case zzd => assumption
      case zzl => exact ktn_ltOf (by tbn_find)
      case zzl37 => exact ltN (by omega)
      case zzne => exact neN (by omega)
      case zzne7 => exact neN (by omega)
      case zzq => exact (dp_fin j1 hx hy (by assumption) j4 (by omega) (by assumption)).1
      case zzr => exact (dp_fin (v := dval _ qs) j1 hx hy (by assumption) j4 (by omega) rfl).2
end
end
section
theorem dp_use {w : World} {p : Program} {loose : List Str} {mean : ExcName → Option Value} {mg mb : Str → Option Value}
  {dp un : Nat} {gd : Option (List Code)} {cn : Str} {cs : Scope} {a : Addr} {ccd : Value} {cl : List (Str × Addr)} {outer : List Env} {A₀ : Around} {base h₀ : Heap} {L : Addr} {m : Str → Option Value} {s : Shared} {Q E : Value → Shared → Prop}
  {x y : Int} {tx ty : Tok} {o30 o37 : Obj} {rest : List (Addr × Obj)} (hdp : dp ≤ 395) (hun : un ≤ 990)
  (X : (Mine.hd.heap_39 w.params).In h₀) (B : Below A₀ base outer h₀) (C1 : CodeHd base 34 30) (C2 : CodeHd base 41 37) (F : Fr h₀ L s.heap m) (N : News h₀ L s.heap ((30, o30) :: (37, o37) :: rest)) (h30 : ∀ p ∈ rest, p.1 ≠ 30) (h37 : ∀ p ∈ rest, p.1 ≠ 37)
  (hst : o30 = tabObj #[] ∨ Hot 32 4 "_int2digits.<locals>.inner" o30 rest) (hst7 : o37 = tabObj #[] ∨ Hot 47 4 "_digits2int.<locals>.inner" o37 rest) (T : Top p loose mean mg mb h₀)
  (hk : cs.kind = .function) (hx : 0 ≤ x) (hx2 : x < 2 ^ 20) (hy : 0 < y) (hy2 : y < 2 ^ 20) (hD : ((Builtin.Int.intBits x : Int) + Builtin.Int.intBits y - 1).fdiv (Builtin.Int.intBits y) ≤ 4)
  (ret : ∀ d q r t1 t2 c oc cvs t c7 oc7 cvs7 t7 h' tk', Fr h₀ L h' m → News h₀ L h' ((d, tup2 (.int q t1) (.int r t2)) :: (c7, oc7) :: (37, T3 47 4 c7) :: (c, oc) :: (30, T3 32 4 c) :: rest) →
    oc.data = .fields cvs → cvs[1]? = some (.str "_int2digits.<locals>.inner" t) → oc7.data = .fields cvs7 → cvs7[1]? = some (.str "_digits2int.<locals>.inner" t7) → (∀ p ∈ rest, p.1 < d) → @LT.lt Nat _ 37 d → c ≠ d → c7 ≠ d →
    Born o30 32 4 c rest → Born o37 47 4 c7 rest → q = x.fdiv y → r = x.fmod y → Q (.ref d) { s with heap := h', toks := tk' }) :
  wpAny (model Challenge.rw_hl0003_01.row.prog w) (ktrTop dp un gd cn cs L a ccd cl outer) (call (.ref 49) [.int x tx, .int y ty]) Q E s :=
  wp_room (dp_ok w p loose mean mg mb gd cn cs a ccd cl outer A₀ base h₀ L m s Q E x y tx ty o30 o37 rest X B C1 C2 F N h30 h37 hst hst7 T hk hx hx2 hy hy2 hD ret) hdp hun

section
local macro_rules | `(tactic| walk_at "call ref") => `(tactic| (k_here; k_dflt (apply dp_use; walk_at "MINE cb"; (case h30 | h37 | hst | hst7 => assumption); (case hx | hx2 => walk_at "MINE arith"); (case hy | hy2 | hD => assumption); k_whole); intro _ _ _ _ _ _ _ _ _ _ _ _ _ _ _ _ _ _ _ _ _ l1 l37 _ _ _ _ _ _; (try k_lt l1); (try k_lt2 l37); (try dsimp only); (try k_fold)))
set_option rowWalk.seconds 0 in
theorem idm_ok (w : World) (p : Program) (loose : List Str) (mean : ExcName → Option Value) (mg mb : Str → Option Value)
  (gd : Option (List Code)) (cn : Str) (cs : Scope) (a : Addr) (ccd : Value) (cl : List (Str × Addr)) (outer : List Env) (A₀ : Around) (base h₀ : Heap) (L : Addr) (m : Str → Option Value) (s : Shared) (Q E : Value → Shared → Prop)
  (x y : Int) (tx ty : Tok) (o30 o37 : Obj) (rest : List (Addr × Obj)) :
  (Mine.hd.heap_39 w.params).In h₀ →
  Below A₀ base outer h₀ → CodeHd base 34 30 → CodeHd base 41 37 → Fr h₀ L s.heap m → News h₀ L s.heap ((30, o30) :: (37, o37) :: rest) → (∀ p ∈ rest, p.1 ≠ 30) → (∀ p ∈ rest, p.1 ≠ 37) → 
  (o30 = tabObj #[] ∨ Hot 32 4 "_int2digits.<locals>.inner" o30 rest) → (o37 = tabObj #[] ∨ Hot 47 4 "_digits2int.<locals>.inner" o37 rest) → Top p loose mean mg mb h₀ →
  cs.kind = .function → mag x < 2 ^ 20 → 0 < y → y < 2 ^ 20 → ((Builtin.Int.intBits (mag x) : Int) + Builtin.Int.intBits y - 1).fdiv (Builtin.Int.intBits y) ≤ 4 →
  (∀ d q r t1 t2 c oc cvs t c7 oc7 cvs7 t7 h' tk', Fr h₀ L h' m → News h₀ L h' ((d, tup2 (.int q t1) (.int r t2)) :: (c7, oc7) :: (37, T3 47 4 c7) :: (c, oc) :: (30, T3 32 4 c) :: rest) →
    oc.data = .fields cvs → cvs[1]? = some (.str "_int2digits.<locals>.inner" t) → oc7.data = .fields cvs7 → cvs7[1]? = some (.str "_digits2int.<locals>.inner" t7) → (∀ p ∈ rest, p.1 < d) → @LT.lt Nat _ 37 d → c ≠ d → c7 ≠ d →
    Born o30 32 4 c rest → Born o37 47 4 c7 rest → q = x.fdiv y → r = x.fmod y → Q (.ref d) { s with heap := h', toks := tk' }) →
  wpAny (model Challenge.rw_hl0003_01.row.prog w) (ktrTop 390 980 gd cn cs L a ccd cl outer) (call (.ref 56) [.int x tx, .int y ty]) Q E s := by
  k_fill
  intro X B C1 C2 F N h30 h37 hst hst7 T hk hx2 hy hy2 hD hret
  have hmag : mag x = if x < 0 then Builtin.bitNot x else x := rfl
  have hbn : Builtin.bitNot x = -x - 1 := rfl
  by_cases hx : x < 0
  · rw [if_pos hx] at hmag
    rw [hmag] at hD hx2
    refine wpAny_call ?_
    k_dflt cell_enter
    k_steps
    refine' hret _ _ _ _ _ _ _ _ _ _ _ _ _ _ _ ?zzF ?zzN ?zza ?zzb ?zzc ?zzd ?zzl ?zzl37 ?zzne ?zzne7 ?zzhc ?zzhc7 ?zzq ?zzr
    case zzhc => exact Born.mono (by assumption) (by walk_at "MINE sub")
    case zzhc7 => exact Born.mono (by assumption) (by walk_at "MINE sub")
    case zzF => k_asm
    case zzN => walk_at "MINE drop"
    case zza => assumption
    case zzb => assumption
    case zzc => assumption
    case zzd => assumption
    case zzl => exact ktn_ltOf (by tbn_find)
    case zzl37 => exact ltN (by omega)
    case zzne => exact neN (by omega)
    case zzne7 => exact neN (by omega)
    case zzq => exact (neg_divmod hy (by assumption) rfl).1
    case zzr => exact (neg_divmod (q := (Builtin.bitNot x).fdiv y) hy rfl (by assumption)).2
  · rw [if_neg hx] at hmag
    rw [hmag] at hD hx2
    have hx0 : 0 ≤ x := by omega
    refine wpAny_call ?_
    k_dflt cell_enter
    k_steps
    refine' hret _ _ _ _ _ _ _ _ _ _ _ _ _ _ _ ?zzF ?zzN ?zza ?zzb ?zzc ?zzd ?zzl ?zzl37 ?zzne ?zzne7 ?zzhc ?zzhc7 ?zzq ?zzr
    case zzhc => exact Born.mono (by assumption) (by walk_at "MINE sub")
    case zzhc7 => exact Born.mono (by assumption) (by walk_at "MINE sub")
    case zzF => k_asm
    case zzN => walk_at "MINE drop"
    case zza => assumption
    case zzb => assumption
    case zzc => assumption
    case zzd => assumption
    case zzl => first | exact ktn_ltOf (by tbn_find) | assumption
    case zzl37 => exact ltN (by omega)
    case zzne => assumption
    case zzne7 => assumption
    case zzq => assumption
    case zzr => assumption
end

/-- both tables are filled, their codes in the ledger -/
noncomputable def Warm (news : List (Addr × Obj)) : Prop := ∃ c oc cvs t c7 oc7 cvs7 t7, (30, T3 32 4 c) ∈ news ∧ (c, oc) ∈ news ∧ oc.data = .fields cvs ∧ cvs[1]? = some (.str "_int2digits.<locals>.inner" t) ∧
  (37, T3 47 4 c7) ∈ news ∧ (c7, oc7) ∈ news ∧ oc7.data = .fields cvs7 ∧ cvs7[1]? = some (.str "_digits2int.<locals>.inner" t7)
theorem Warm.mono {l l' : List (Addr × Obj)} (h : Warm l) (hs : ∀ p ∈ l, p ∈ l') : Warm l' :=
  let ⟨c, oc, cvs, t, c7, oc7, cvs7, t7, a1, a2, a3, a4, b1, b2, b3, b4⟩ := h
  ⟨c, oc, cvs, t, c7, oc7, cvs7, t7, hs _ a1, hs _ a2, a3, a4, hs _ b1, hs _ b2, b3, b4⟩
theorem news_fn {h₀ h : Heap} {L : Addr} {news : List (Addr × Obj)} {a : Addr} {o o' : Obj} (N : News h₀ L h news) (h1 : (a, o) ∈ news) (h2 : (a, o') ∈ news) : o = o' := by
  have e1 := (N _ h1).1
  have e2 := (N _ h2).1
  exact Option.some.inj (e1.symm.trans e2)
theorem idm_warm {w : World} {p : Program} {loose : List Str} {mean : ExcName → Option Value} {mg mb : Str → Option Value}
  {dp un : Nat} {gd : Option (List Code)} {cn : Str} {cs : Scope} {a : Addr} {ccd : Value} {cl : List (Str × Addr)} {outer : List Env} {A₀ : Around} {base h₀ : Heap} {L : Addr} {m : Str → Option Value} {s : Shared} {Q E : Value → Shared → Prop}
  {x y : Int} {tx ty : Tok} {news wl : List (Addr × Obj)} (hdp : dp ≤ 390) (hun : un ≤ 980)
  (X : (Mine.hd.heap_39 w.params).In h₀) (B : Below A₀ base outer h₀) (C1 : CodeHd base 34 30) (C2 : CodeHd base 41 37) (F : Fr h₀ L s.heap m) (N : News h₀ L s.heap news) (hw : Warm wl) (hs : ∀ p ∈ wl, p ∈ news) (T : Top p loose mean mg mb h₀)
  (hk : cs.kind = .function) (hx2 : mag x < 2 ^ 20) (hy : 0 < y) (hy2 : y < 2 ^ 20) (hD : ((Builtin.Int.intBits (mag x) : Int) + Builtin.Int.intBits y - 1).fdiv (Builtin.Int.intBits y) ≤ 4)
  (ret : ∀ d q r t1 t2 h' tk', Fr h₀ L h' m → News h₀ L h' ((d, tup2 (.int q t1) (.int r t2)) :: news) → (∀ p ∈ news, p.1 < d) → q = x.fdiv y → r = x.fmod y → Q (.ref d) { s with heap := h', toks := tk' }) :
  wpAny (model Challenge.rw_hl0003_01.row.prog w) (ktrTop dp un gd cn cs L a ccd cl outer) (call (.ref 56) [.int x tx, .int y ty]) Q E s := by
  obtain ⟨c, oc, cvs, t, c7, oc7, cvs7, t7, a1, a2, a3, a4, b1, b2, b3, b4⟩ := hw.mono hs
  have c30 : c ≠ 30 := code_ne N a2 a3 a4 a1 (.inr ⟨_, _, _, rfl⟩)
  have c37 : c ≠ 37 := code_ne N a2 a3 a4 b1 (.inr ⟨_, _, _, rfl⟩)
  have d30 : c7 ≠ 30 := code_ne N b2 b3 b4 a1 (.inr ⟨_, _, _, rfl⟩)
  have d37 : c7 ≠ 37 := code_ne N b2 b3 b4 b1 (.inr ⟨_, _, _, rfl⟩)
  let keep := news.filter fun p => decide (p.1 ≠ 30 ∧ p.1 ≠ 37)
  have hkp : ∀ p, p ∈ keep ↔ p ∈ news ∧ p.1 ≠ 30 ∧ p.1 ≠ 37 := fun p => by simp [keep, List.mem_filter]
  refine wp_room (idm_ok w p loose mean mg mb gd cn cs a ccd cl outer A₀ base h₀ L m s Q E x y tx ty (T3 32 4 c) (T3 47 4 c7) keep X B C1 C2 F (fun q hq => ?_) (fun q hq => ((hkp q).mp hq).2.1) (fun q hq => ((hkp q).mp hq).2.2)
    (.inr ⟨c, oc, cvs, t, rfl, (hkp _).mpr ⟨a2, c30, c37⟩, a3, a4⟩) (.inr ⟨c7, oc7, cvs7, t7, rfl, (hkp _).mpr ⟨b2, d30, d37⟩, b3, b4⟩) T hk hx2 hy hy2 hD
    fun d q r t1 t2 c' oc' cvs' t' c7' oc7' cvs7' t7' h' tk' F' N' _ _ _ _ l1 l37 _ _ e1 e7 eq er => ?_) hdp hun
  · rcases List.mem_cons.mp hq with rfl | hq
    · exact N _ a1
    · rcases List.mem_cons.mp hq with rfl | hq
      · exact N _ b1
      · exact N _ ((hkp q).mp hq).1
  · obtain rfl := e1.1 c rfl
    obtain rfl := e7.1 c7 rfl
    have h30 : ∀ q ∈ news, q.1 = 30 → q = (30, T3 32 4 c') := fun q hq e => by
      obtain ⟨q1, q2⟩ := q
      subst e
      rw [news_fn N hq a1]
    have h37 : ∀ q ∈ news, q.1 = 37 → q = (37, T3 47 4 c7') := fun q hq e => by
      obtain ⟨q1, q2⟩ := q
      subst e
      rw [news_fn N hq b1]
    refine ret d q r t1 t2 h' tk' F' (fun q hq => ?_) (fun q hq => ?_) eq er
    · rcases List.mem_cons.mp hq with rfl | hq
      · exact N' _ (.head _)
      · by_cases e : q.1 = 30
        · rw [h30 q hq e]; exact N' _ (by simp)
        · by_cases e' : q.1 = 37
          · rw [h37 q hq e']; exact N' _ (by simp)
          · exact N' _ (by simp only [List.mem_cons]; exact .inr (.inr (.inr (.inr (.inr ((hkp q).mpr ⟨hq, e, e'⟩))))))
    · by_cases e : q.1 = 30
      · rw [e]; exact Nat.lt_trans (by decide : 30 < 37) l37
      · by_cases e' : q.1 = 37
        · rw [e']; exact l37
        · exact l1 q ((hkp q).mpr ⟨hq, e, e'⟩)
theorem i2d_warm {w : World} {p : Program} {loose : List Str} {mean : ExcName → Option Value} {mg mb : Str → Option Value}
  {dp un : Nat} {gd : Option (List Code)} {cn : Str} {cs : Scope} {a : Addr} {ccd : Value} {cl : List (Str × Addr)} {outer : List Env} {A₀ : Around} {base h₀ : Heap} {L : Addr} {m : Str → Option Value} {s : Shared} {Q E : Value → Shared → Prop}
  {x n : Int} {tx tn : Tok} {news wl : List (Addr × Obj)} (hdp : dp ≤ 400) (hun : un ≤ 1000)
  (X : (Mine.hd.heap_39 w.params).In h₀) (B : Below A₀ base outer h₀) (C1 : CodeHd base 34 30) (F : Fr h₀ L s.heap m) (N : News h₀ L s.heap news) (hw : Warm wl) (hs : ∀ p ∈ wl, p ∈ news) (T : Top p loose mean mg mb h₀)
  (hk : cs.kind = .function) (hx : 0 ≤ x) (hx2 : x < 2 ^ 20) (hn : 0 < n) (hn2 : n ≤ 20)
  (ret : ∀ l vs ns e h' tk', Fr h₀ L h' m → News h₀ L h' ((l, listOf vs.toArray e) :: news) → (∀ p ∈ news, p.1 < l) → IntsAre vs ns → ns = digs n.toNat (((Builtin.Int.intBits x : Int) + n - 1).fdiv n).toNat x.toNat → Q (.ref l) { s with heap := h', toks := tk' }) :
  wpAny (model Challenge.rw_hl0003_01.row.prog w) (ktrTop dp un gd cn cs L a ccd cl outer) (call (.ref 35) [.int x tx, .int n tn]) Q E s := by
  obtain ⟨c, oc, cvs, t, c7, oc7, cvs7, t7, a1, a2, a3, a4, b1, b2, b3, b4⟩ := hw.mono hs
  have c30 : c ≠ 30 := code_ne N a2 a3 a4 a1 (.inr ⟨_, _, _, rfl⟩)
  let keep := news.filter fun p => decide (p.1 ≠ 30)
  have hkp : ∀ p, p ∈ keep ↔ p ∈ news ∧ p.1 ≠ 30 := fun p => by simp [keep, List.mem_filter]
  refine wp_room (i2d_ok w p loose mean mg mb gd cn cs a ccd cl outer A₀ base h₀ L m s Q E x n tx tn (T3 32 4 c) keep X B C1 F (fun q hq => ?_) (fun q hq => ((hkp q).mp hq).2)
    (.inr ⟨c, oc, cvs, t, rfl, (hkp _).mpr ⟨a2, c30⟩, a3, a4⟩) T hk hx hx2 hn hn2
    fun l vs ns e c' oc' cvs' t' h' tk' F' N' _ _ l1 l30 _ e1 hI hns => ?_) hdp hun
  · rcases List.mem_cons.mp hq with rfl | hq
    · exact N _ a1
    · exact N _ ((hkp q).mp hq).1
  · obtain rfl := e1.1 c rfl
    have h30 : ∀ q ∈ news, q.1 = 30 → q = (30, T3 32 4 c') := fun q hq e => by
      obtain ⟨q1, q2⟩ := q
      subst e
      rw [news_fn N hq a1]
    refine ret l vs ns e h' tk' F' (fun q hq => ?_) (fun q hq => ?_) hI hns
    · rcases List.mem_cons.mp hq with rfl | hq
      · exact N' _ (.head _)
      · by_cases e : q.1 = 30
        · rw [h30 q hq e]; exact N' _ (by simp)
        · exact N' _ (by simp only [List.mem_cons]; exact .inr (.inr (.inr ((hkp q).mpr ⟨hq, e⟩))))
    · by_cases e : q.1 = 30
      · rw [e]; exact l30
      · exact l1 q ((hkp q).mpr ⟨hq, e⟩)
end
local macro_rules | `(tactic| walk_at "MINE h1") => `(tactic| (k_here; k_dflt (apply idm_warm; walk_at "MINE cb"; (case hw => assumption); (case hs => walk_at "MINE sub"); (case hx2 => first | assumption | walk_at "MINE idm1"); (case hy | hy2 => walk_at "MINE arith"); (case hD => first | assumption | walk_at "MINE idm2"); k_whole); intro _ _ _ _ _ _ _ _ _ l1 _ _; (try k_lt l1); (try dsimp only); (try k_fold)))
local macro_rules | `(tactic| walk_at "MINE h0") => `(tactic| ((with_reducible refine gd_it ?_); k_dflt (refine' iter_listUnr ?hh ?F ?N ?m ?c ?d ?_; (case hh => exact rfl); (case F | N => k_asm); (case m => k_mem); (case c => exact rfl); (case d => exact rfl)); intro _ lI9; (try k_lt lI9)))
section
local macro_rules | `(tactic| walk_at "MINE i2dw") => `(tactic| (k_here; k_dflt (apply i2d_warm; walk_at "MINE cc"; (case hw => assumption); (case hs => walk_at "MINE sub"); (case hx | hx2 | hn | hn2 => walk_at "MINE arith"); k_whole); intro _ _ _ _ _ _ _ _ l1 _ hns; (have hln := congrArg List.length hns); (rw [digs_len] at hln); (try k_lt l1); (try dsimp only); (try k_fold)))
local macro_rules | `(tactic| walk_at "MINE idmw") => `(tactic| walk_at "MINE h1")
noncomputable abbrev lpM (m0 : Str → Option Value) (vd : Option Value) (r : Int) (tr : Tok) : Str → Option Value :=
  fun z => if z = Str.ofString "found" then some (.int r tr) else if z = Str.ofString "figure" then vd else m0 z
theorem lpM_init {m : Str → Option Value} {vd : Option Value} {tr : Tok} (h1 : m (Str.ofString "found") = some (.int 1 tr)) (h3 : m (Str.ofString "figure") = vd) : m = lpM m vd 1 tr := by
  funext z
  unfold lpM
  split
  · subst z; exact h1
  · split
    · subst z; exact h3
    · rfl
theorem lpM_step (m0 : Str → Option Value) (vd vd' : Option Value) (r r' : Int) (tr tr' : Tok) :
    (fun z => if z = Str.ofString "found" then some (.int r' tr') else if z = Str.ofString "figure" then vd' else lpM m0 vd r tr z) = lpM m0 vd' r' tr' := by
  funext z
  unfold lpM
  (repeat' split) <;> first | rfl | contradiction
inductive LpJ (x y : Int) (m0 : Str → Option Value) (keep : List (Addr × Obj)) (fs0 : List Int) : List Value → (Str → Option Value) → List (Addr × Obj) → Prop
  | mk {vd : Option Value} {r : Int} {tr : Tok} {done rem : List Int} {rv : List Value} (h1 : r = done.foldl (lpt x y) 1) (h2 : 0 ≤ r) (h3 : r < y) (h4 : fs0 = done ++ rem) (h5 : IntsAre rv rem) : LpJ x y m0 keep fs0 rv (lpM m0 vd r tr) keep
theorem LpJ.next {x y : Int} {m0 : Str → Option Value} {keep : List (Addr × Obj)} {fs0 : List Int} {vd' : Option Value} {r r' f z : Int} {tr' : Tok} {done rem : List Int} {rv : List Value} (hy : 0 < y) (h1 : r = done.foldl (lpt x y) 1) (h4 : fs0 = done ++ f :: rem) (h5 : IntsAre rv rem)
    (hr : r' = (r * r * z).fmod y) (hz : z = if f = 1 then x else 1) : LpJ x y m0 keep fs0 rv (lpM m0 vd' r' tr') keep := by
  refine LpJ.mk (done := done ++ [f]) (rem := rem) ?_ (hr ▸ Int.fmod_nonneg_of_pos _ hy) (hr ▸ Int.fmod_lt_of_pos _ hy) (by rw [h4]; simp) h5
  rw [List.foldl_append, ← h1]
  simp only [List.foldl_cons, List.foldl_nil, lpt]
  rw [hr, hz]
theorem lp_fin {x n y r : Int} {done ns : List Int} (j1 : r = done.foldl (lpt x y) 1) (hns : ns = digs (Int.toNat 1) (((Builtin.Int.intBits n : Int) + 1 - 1).fdiv 1).toNat n.toNat) (j4 : ns.reverse = done) : r = lpv x n y := by
  rw [j1, ← j4, hns]
  unfold lpv
  rfl
theorem lp_loop {prog : Program} {w : World} {A : Around} {E : Value → Shared → Prop} {s : Shared} {env : Env} {h₀ : Heap} {v : Str} {body : List Stmt} {Q : Flow → Shared → Prop} {I : Addr} {lp : Addr × Obj}
    {x y : Int} {m : Str → Option Value} {keep : List (Addr × Obj)} {fs0 : List Int} {vs : List Value} {vd : Option Value} {tr : Tok} (h1 : m (Str.ofString "found") = some (.int 1 tr)) (h3 : m (Str.ofString "figure") = vd) (hI : IntsAre vs fs0) (hy : 1 < y)
    (step : ∀ a r m1 news, LpJ x y m keep fs0 (a :: r) m1 news → ∀ (it : Obj) h tk, it.cls = .type "list_iterator" → Fr h₀ env.locals h (fun y => if y = v then some a else m1 y) → News h₀ env.locals h ((I, it) :: news) →
      wpAny (model prog w) A (execs body env) (UnrPost h₀ env.locals { s with heap := h, toks := tk } I it (fun m' n' => lp ∈ n' ∧ LpJ x y m keep fs0 r m' n') Q) E { s with heap := h, toks := tk })
    (fin : ∀ m1 news, LpJ x y m keep fs0 [] m1 news → ∀ h tk, Fr h₀ env.locals h m1 → News h₀ env.locals h news → Q .next { s with heap := h, toks := tk }) :
    ListRest prog w A E h₀ env v body Q s I lp vs m keep := by
  refine list_ind (LpJ x y m keep fs0) step fin _ _ _ ?_
  have h : LpJ x y m keep fs0 vs (lpM m vd 1 tr) keep := LpJ.mk (done := []) (rem := fs0) rfl (by decide) hy rfl hI
  rw [← lpM_init h1 h3] at h
  exact h
local macro_rules | `(tactic| walk_at "exec For") => `(tactic| (k_here; (rename Fr _ _ _ _ => lF'); (with_unfolding_all refine' For_invVF lF' ?k1 ?k2 ?_; (case k1 | k2 => exact rfl); k_whole)))
local macro_rules | `(tactic| walk_at "pyIter ref") => `(tactic| walk_at "MINE h0")
section
local macro_rules | `(tactic| walk_at "call ref") => `(tactic| walk_at "MINE i2dw")
local macro_rules | `(tactic| walk_at "call ref") => `(tactic| walk_at "MINE idmw")
set_option rowWalk.seconds 0 in
theorem lp_ok (w : World) (p : Program) (loose : List Str) (mean : ExcName → Option Value) (mg mb : Str → Option Value)
  (gd : Option (List Code)) (cn : Str) (cs : Scope) (a : Addr) (ccd : Value) (cl : List (Str × Addr)) (outer : List Env) (A₀ : Around) (base h₀ : Heap) (L : Addr) (m : Str → Option Value) (s : Shared) (Q E : Value → Shared → Prop)
  (x n y : Int) (tx tn ty : Tok) (news wl : List (Addr × Obj)) :
  (Mine.hd.heap_39 w.params).In h₀ →
  Below A₀ base outer h₀ → CodeHd base 34 30 → CodeHd base 41 37 → Fr h₀ L s.heap m → News h₀ L s.heap news → Warm wl → (∀ p ∈ wl, p ∈ news) → Top p loose mean mg mb h₀ →
  cs.kind = .function → 0 ≤ x → x ≤ 16 → 0 ≤ n → n < 16 → 4 ≤ y → y ≤ 16 →
  (∀ v t h' tk', Fr h₀ L h' m → News h₀ L h' news → v = lpv x n y → Q (.int v t) { s with heap := h', toks := tk' }) →
  wpAny (model Challenge.rw_hl0003_01.row.prog w) (ktrTop 380 960 gd cn cs L a ccd cl outer) (call (.ref 81) [.int x tx, .int n tn, .int y ty]) Q E s := by
  k_fill
  intro X B C1 C2 F N hw hs T hk hx hx2 hn hn2 hy hy2 hret
  have hdc := (dcount n 1 hn (by omega) (by decide)).2.1
  have hdl := digs_len (Int.toNat 1) (((Builtin.Int.intBits n : Int) + 1 - 1).fdiv 1).toNat n.toNat
  refine wpAny_call ?_
  k_dflt cell_enter
  iterate 28 walk1
  k_dflt (refine' lp_loop (x := x) (y := y) ?zzh1 ?zzh3 ?zzhI (by omega) ?zzstep ?zzfin; (case zzh1 => exact rfl); (case zzh3 => exact rfl); (case zzhI => assumption))
  case zzstep =>
    intro v r m1 news1 hJ it h tk hc F N
    cases hJ with
    | @mk vd r tr done rem rv j1 j2 j3 j4 j5 =>
      obtain ⟨f, tf, rem', rfl, rfl, j9⟩ := ints_split j5
      obtain ⟨a1, a2⟩ := lp_bnd j2 j3 hx hx2 hy hy2
      obtain ⟨b1, b2⟩ := lp_bnd (x := 1) j2 j3 (by decide) (by decide) hy hy2
      k_steps
      · refine' unrEnd_eq ?zzF ?zzN (lpM_step _ _ _ _ _ _ _) (LpJ.next (f := f) (by omega) j1 j4 j9 ?zzq1 ?zzq2) ?zzlp ?zzsub ?zzoff
        case zzF => k_asm
        case zzN => k_asm
        case zzq1 => assumption
        case zzq2 => rw [if_pos (by assumption)]
        case zzsub => walk_at "MINE sub"
        case zzlp => k_mem
        case zzoff => k_all
      · refine' unrEnd_eq ?zzF ?zzN (lpM_step _ _ _ _ _ _ _) (LpJ.next (f := f) (by omega) j1 j4 j9 ?zzq1 ?zzq2) ?zzlp ?zzsub ?zzoff
        case zzF => k_asm
        case zzN => k_asm
        case zzq1 => assumption
        case zzq2 => rw [if_neg (by assumption)]
        case zzsub => walk_at "MINE sub"
        case zzlp => k_mem
        case zzoff => k_all
  case zzfin =>
    intro m1 news1 hJ h tk F N
    cases hJ with
    | @mk vd r tr done rem rv j1 j2 j3 j4 j5 =>
      obtain rfl := ints_nil j5
      rw [List.append_nil] at j4
      k_steps
      refine' hret _ _ _ _ ?zzF ?zzN ?zze
      case zzF => k_asm
      case zzN => walk_at "MINE drop"
      case zze => exact lp_fin j1 (by assumption) j4
end
end
section
section
variable {prog : Program} {w : World} {A : Around} {E : Value → Shared → Prop} {s : Shared} {a b : Addr} {x1 x2 y1 y2 : Int} {t1 t2 u1 u2 : Tok}
theorem tup_lt_tree {P : Fin → Shared → Prop} (ha : s.heap.get? a = some (tup2 (.int x1 t1) (.int x2 t2))) (hb : s.heap.get? b = some (tup2 (.int y1 u1) (.int y2 u2)))
    (h : P (.done (.ret (.bool (decide (x1 < y1 ∨ (x1 = y1 ∧ x2 < y2)))))) s) : wpAny (model prog w) A (Builtin.«tuple.__lt__» ⟨[.ref a, .ref b], []⟩) P E s := by
  show wpAny _ _ (isInstance (.ref b) (.type "tuple") >>= _) _ _ s
  refine wpAny_bind (wpAny_isInstance (T := "tuple") (b := true) ⟨_, hb, rfl⟩ isSubtype_tuple_tuple ?_)
  simp only [Bool.not_true, Bool.false_eq_true, if_false]
  refine wpAny_bind (wpAny_tupleItemsOf ha rfl ?_)
  refine wpAny_bind (wpAny_tupleItemsOf hb rfl ?_)
  refine wpAny_bind ?_
  simp only [List.zip_cons_cons, List.zip_nil_right, List.forIn_cons, List.forIn_nil]
  refine wpAny_bind ?_
  refine wpAny_bind (wpAny_eqBool_int ?_)
  by_cases e1 : x1 = y1
  · subst e1
    simp only [beq_self_eq_true, Bool.not_true, Bool.false_eq_true, if_false]
    refine wpAny_pure ?_
    dsimp only
    refine wpAny_bind ?_
    refine wpAny_bind (wpAny_eqBool_int ?_)
    by_cases e2 : x2 = y2
    · subst e2
      simp only [beq_self_eq_true, Bool.not_true, Bool.false_eq_true, if_false]
      refine wpAny_pure ?_
      refine wpAny_pure ?_
      refine wpAny_pure ?_
      simpa [Builtin.Tuple.tupleCompareSizes] using h
    · have e2' : (x2 == y2) = false := by simpa using e2
      simp only [e2', Bool.not_false, if_true]
      refine wpAny_bind (wpAny_rule ?_)
      refine wpAny_bind (show wpAny (model prog w) _ (compareOp .Lt (.int x2 t2) (.int y2 u2)) _ _ _ from lt_int ?_)
      refine wpAny_bind (wpAny_pure (wpAny_pure (wpAny_pure (wpAny_pure ?_))))
      simpa using h
  · have e1' : (x1 == y1) = false := by simpa using e1
    simp only [e1', Bool.not_false, if_true]
    refine wpAny_bind (wpAny_rule ?_)
    refine wpAny_bind (show wpAny (model prog w) _ (compareOp .Lt (.int x1 t1) (.int y1 u1)) _ _ _ from lt_int ?_)
    refine wpAny_bind (wpAny_pure (wpAny_pure (wpAny_pure (wpAny_pure ?_))))
    simpa [e1] using h
theorem tup_lt {Q : Value → Shared → Prop} (ha : s.heap.get? a = some (tup2 (.int x1 t1) (.int x2 t2))) (hb : s.heap.get? b = some (tup2 (.int y1 u1) (.int y2 u2))) (hu : A.units < cLine)
    (h : Q (.bool (decide (x1 < y1 ∨ (x1 = y1 ∧ x2 < y2)))) s) : wpAny (model prog w) A (compareOp .Lt (.ref a) (.ref b)) Q E s :=
  cmp_ofLt (wpAny_richCompare_same_room (op := .Lt) (T := "tuple") ⟨_, ha, rfl⟩ ⟨_, hb, rfl⟩ F.slot_tuple_lt
    (wpAny_call_entry F.slot_tuple_lt ⟨_, ha, rfl⟩ F.entry_tuple_lt (tup_lt_tree ha hb ⟨_, rfl, (fun e => nomatch e), h⟩) (F.args_tuple_lt_2 _ _)) hu)
end
/-- refs to pairs of ints in the ledger -/
inductive PairsIn (news : List (Addr × Obj)) : List Value → List (Int × Int) → Prop
  | nil : PairsIn news [] []
  | cons {a : Addr} {x y : Int} {t u : Tok} {vs : List Value} {ps : List (Int × Int)} : (a, tup2 (.int x t) (.int y u)) ∈ news → PairsIn news vs ps → PairsIn news (.ref a :: vs) ((x, y) :: ps)
theorem PairsIn.mono {news news' : List (Addr × Obj)} (hs : ∀ p ∈ news, p ∈ news') : ∀ {vs : List Value} {ps : List (Int × Int)}, PairsIn news vs ps → PairsIn news' vs ps
  | _, _, .nil => .nil
  | _, _, .cons h r => .cons (hs _ h) (r.mono hs)
theorem PairsIn.length {news : List (Addr × Obj)} : ∀ {vs : List Value} {ps : List (Int × Int)}, PairsIn news vs ps → vs.length = ps.length
  | _, _, .nil => rfl
  | _, _, .cons _ r => by rw [List.length_cons, List.length_cons, r.length]
theorem PairsIn.at {news : List (Addr × Obj)} : ∀ {vs : List Value} {ps : List (Int × Int)}, PairsIn news vs ps → ∀ k, k < ps.length → ∃ a t u, vs[k]? = some (.ref a) ∧ (a, tup2 (.int (ps.getD k (0, 0)).1 t) (.int (ps.getD k (0, 0)).2 u)) ∈ news
  | _, _, .nil, _, h => absurd h (Nat.not_lt_zero _)
  | _, _, .cons h _, 0, _ => ⟨_, _, _, rfl, h⟩
  | _, _, .cons _ r, k + 1, h => by
    obtain ⟨a, t, u, e, hm⟩ := r.at k (by simpa using h)
    exact ⟨a, t, u, by simpa using e, by simpa using hm⟩
theorem PairsIn.take {news : List (Addr × Obj)} : ∀ {vs : List Value} {ps : List (Int × Int)}, PairsIn news vs ps → ∀ k, PairsIn news (vs.take k) (ps.take k)
  | _, _, .nil, _ => by simp only [List.take_nil]; exact .nil
  | _, _, .cons _ _, 0 => .nil
  | _, _, .cons h r, k + 1 => .cons h (r.take k)
theorem PairsIn.drop {news : List (Addr × Obj)} : ∀ {vs : List Value} {ps : List (Int × Int)}, PairsIn news vs ps → ∀ k, PairsIn news (vs.drop k) (ps.drop k)
  | _, _, .nil, _ => by simp only [List.drop_nil]; exact .nil
  | _, _, .cons h r, 0 => .cons h r
  | _, _, .cons _ r, k + 1 => r.drop k
theorem PairsIn.append {news : List (Addr × Obj)} {vs' : List Value} {ps' : List (Int × Int)} (h' : PairsIn news vs' ps') : ∀ {vs : List Value} {ps : List (Int × Int)}, PairsIn news vs ps → PairsIn news (vs ++ vs') (ps ++ ps')
  | _, _, .nil => h'
  | _, _, .cons h r => .cons h (h'.append r)

noncomputable def plt (p q : Int × Int) : Bool := decide (p.1 < q.1 ∨ (p.1 = q.1 ∧ p.2 < q.2))
/-- bisect_left: what is looked for between lo and hi, k turns at most -/
noncomputable def bisN (ps : List (Int × Int)) (x : Int × Int) : Nat → Nat → Nat → Nat
  | 0, lo, _ => lo
  | k + 1, lo, hi => if lo < hi then (if plt (ps.getD ((lo + hi) / 2) (0, 0)) x then bisN ps x k ((lo + hi) / 2 + 1) hi else bisN ps x k lo ((lo + hi) / 2)) else lo
theorem bisN_more (ps : List (Int × Int)) (x : Int × Int) : ∀ k j lo hi, hi ≤ lo + k → k ≤ j → bisN ps x j lo hi = bisN ps x k lo hi
  | 0, 0, _, _, _, _ => rfl
  | 0, j + 1, lo, hi, h, _ => by unfold bisN; rw [if_neg (by omega)]
  | k + 1, 0, _, _, _, h => by omega
  | k + 1, j + 1, lo, hi, h, h2 => by
    unfold bisN
    split
    · rw [bisN_more ps x k j _ _ (by omega) (by omega), bisN_more ps x k j lo _ (by omega) (by omega)]
    · rfl
@[irreducible] noncomputable def bis (ps : List (Int × Int)) (x : Int × Int) : Nat := bisN ps x ps.length 0 ps.length
theorem bisN_le (ps : List (Int × Int)) (x : Int × Int) : ∀ k lo hi, lo ≤ hi → lo ≤ bisN ps x k lo hi ∧ bisN ps x k lo hi ≤ hi
  | 0, lo, hi, h => ⟨Nat.le_refl _, h⟩
  | k + 1, lo, hi, h => by
    unfold bisN
    split
    · split
      · have := bisN_le ps x k ((lo + hi) / 2 + 1) hi (by omega)
        omega
      · have := bisN_le ps x k lo ((lo + hi) / 2) (by omega)
        omega
    · omega
theorem bis_le (ps : List (Int × Int)) (x : Int × Int) : bis ps x ≤ ps.length := by
  unfold bis
  exact (bisN_le ps x _ 0 _ (Nat.zero_le _)).2

theorem sub_pair {prog : Program} {w : World} {A : Around} {E : Value → Shared → Prop} {s : Shared} {h₀ : Heap} {L l : Addr} {news : List (Addr × Obj)} {value slice : PySem.Expr} {vs : List Value} {ps : List (Int × Int)} {k : Int} {u : Tok} {n : Nat} {Q : Value → Shared → Prop}
    (N : News h₀ L s.heap news) (hm : (l, listOf vs.toArray n) ∈ news) (hP : PairsIn news vs ps) (h0 : 0 ≤ k) (h1 : k < ps.length) (hfit : ps.length ≤ 1000)
    (h : ∀ a t u, (a, tup2 (.int (ps.getD k.toNat (0, 0)).1 t) (.int (ps.getD k.toNat (0, 0)).2 u)) ∈ news → Q (.ref a) s)
    (hs : subscripted slice false (.ref l) (.int k u) = operate [.ref l, .int k u] (getItem (.ref l) (.int k u)) := by with_unfolding_all rfl) :
    wpAny (model prog w) A (subscriptTail value slice (.ref l) (.int k u)) Q E s := by
  obtain ⟨a, t, u', e, hm'⟩ := hP.at k.toNat (by omega)
  have hL : s.heap.IsList l vs.toArray := ⟨_, (N _ hm).1, rfl, n, rfl⟩
  exact tail_any hL.typeIs slot_list_getitem.lookup (wpAny_getItem_list hL h0 (by omega) (by simpa using e) (h a t u' hm')) hs
theorem len_pair {prog : Program} {w : World} {A : Around} {E : Value → Shared → Prop} {s : Shared} {h₀ : Heap} {L : Addr} {news : List (Addr × Obj)} {a : Addr} {vs : List Value} {ps : List (Int × Int)} {n : Nat} {Q : Value → Shared → Prop} (N : News h₀ L s.heap news) (hm : (a, listOf vs.toArray n) ∈ news) (hI : PairsIn news vs ps) (hfit : ps.length ≤ 1000)
    (h : Q (.int (ps.length : Nat) (s.toks + 1)) { s with toks := s.toks + 1 + 1 }) : wpAny (model prog w) A (call (.builtin "len") [.ref a]) Q E s :=
  KM.len_K (n := ps.length) N hm (by rw [List.size_toArray]; exact hI.length) (by omega) h

noncomputable abbrev blM (m0 : Str → Option Value) (vm : Option Value) (lo hi : Int) (tl th : Tok) : Str → Option Value :=
  fun z => if z = Str.ofString "hi" then some (.int hi th) else if z = Str.ofString "lo" then some (.int lo tl) else if z = Str.ofString "mid" then vm else m0 z
theorem blM_init {m : Str → Option Value} {vm : Option Value} {lo hi : Int} {tl th : Tok} (h1 : m (Str.ofString "hi") = some (.int hi th)) (h2 : m (Str.ofString "lo") = some (.int lo tl)) (h3 : m (Str.ofString "mid") = vm) : m = blM m vm lo hi tl th := by
  funext z
  unfold blM
  split
  · subst z; exact h1
  · split
    · subst z; exact h2
    · split
      · subst z; exact h3
      · rfl
theorem blM_lo (m0 : Str → Option Value) (vm vm' : Option Value) (lo lo' hi : Int) (tl tl' th : Tok) :
    (fun z => if z = Str.ofString "lo" then some (.int lo' tl') else if z = Str.ofString "mid" then vm' else blM m0 vm lo hi tl th z) = blM m0 vm' lo' hi tl' th := by
  funext z
  unfold blM
  (repeat' split) <;> first | rfl | contradiction | (subst_vars; contradiction) | (simp_all; done)
theorem blM_hi (m0 : Str → Option Value) (vm vm' : Option Value) (lo hi hi' : Int) (tl th th' : Tok) :
    (fun z => if z = Str.ofString "hi" then some (.int hi' th') else if z = Str.ofString "mid" then vm' else blM m0 vm lo hi tl th z) = blM m0 vm' lo hi' tl th' := by
  funext z
  unfold blM
  (repeat' split) <;> first | rfl | contradiction | (subst_vars; contradiction) | (simp_all; done)
inductive BlJ (ps : List (Int × Int)) (x : Int × Int) (m0 : Str → Option Value) (keep : List (Addr × Obj)) : Nat → (Str → Option Value) → List (Addr × Obj) → Prop
  | mk {vm : Option Value} {lo hi : Int} {tl th : Tok} {k : Nat} (h1 : 0 ≤ lo) (h2 : lo ≤ hi) (h3 : hi ≤ ps.length) (h4 : k = (hi - lo).toNat) (h5 : bisN ps x k lo.toNat hi.toNat = bis ps x) : BlJ ps x m0 keep k (blM m0 vm lo hi tl th) keep
theorem fdN (a b : Nat) : ((a : Int) + b).fdiv 2 = (((a + b) / 2 : Nat) : Int) := by
  rw [Int.fdiv_eq_ediv_of_nonneg _ (by decide), ← Int.natCast_add]
  rfl
theorem hfN (a b : Nat) (h : a ≤ b) : a ≤ (a + b) / 2 ∧ (a + b) / 2 ≤ b := by omega
theorem hfL (a b : Nat) (h : a < b) : (a + b) / 2 < b := by omega
theorem fd2 {lo hi : Int} (h1 : 0 ≤ lo) (h2 : lo ≤ hi) : lo ≤ (lo + hi).fdiv 2 ∧ (lo < hi → (lo + hi).fdiv 2 < hi) ∧ (lo + hi).fdiv 2 ≤ hi ∧ ((lo + hi).fdiv 2).toNat = (lo.toNat + hi.toNat) / 2 := by
  obtain ⟨a, rfl⟩ := Int.eq_ofNat_of_zero_le h1
  obtain ⟨b, rfl⟩ := Int.eq_ofNat_of_zero_le (Int.le_trans h1 h2)
  have h := hfN a b (Int.ofNat_le.mp h2)
  rw [fdN]
  exact ⟨Int.ofNat_le.mpr h.1, fun q => Int.ofNat_lt.mpr (hfL a b (Int.ofNat_lt.mp q)), Int.ofNat_le.mpr h.2, rfl⟩
theorem mid_ge {lo hi : Int} (h1 : 0 ≤ lo) (h : lo < hi) : 0 ≤ (lo + hi).fdiv 2 := Int.le_trans h1 (fd2 h1 (Int.le_of_lt h)).1
theorem mid_lt {lo hi n : Int} (h1 : 0 ≤ lo) (h : lo < hi) (h3 : hi ≤ n) : (lo + hi).fdiv 2 < n := Int.lt_of_lt_of_le ((fd2 h1 (Int.le_of_lt h)).2.1 h) h3
theorem lo_dec {lo hi : Int} {k : Nat} (h1 : 0 ≤ lo) (h : lo < hi) (h4 : k = (hi - lo).toNat) : (hi - ((lo + hi).fdiv 2 + 1)).toNat < k := by
  have f1 := (fd2 h1 (Int.le_of_lt h)).1
  clear h1
  omega
theorem hi_dec {lo hi : Int} {k : Nat} (h1 : 0 ≤ lo) (h : lo < hi) (h4 : k = (hi - lo).toNat) : ((lo + hi).fdiv 2 - lo).toNat < k := by
  have f2 := (fd2 h1 (Int.le_of_lt h)).2.1 h
  clear h1
  omega
theorem bl_k {lo hi : Int} {k : Nat} (h : lo < hi) (h4 : k = (hi - lo).toNat) : k = (k - 1) + 1 := by omega
theorem bl_lt {lo hi : Int} (h1 : 0 ≤ lo) (h : lo < hi) : lo.toNat < hi.toNat := by omega
theorem bl_a {lo hi m : Int} {k : Nat} (h : lo < hi) (f1 : lo ≤ m) (h4 : k = (hi - lo).toNat) : (hi - (m + 1)).toNat ≤ k - 1 := by omega
theorem bl_b {lo hi m : Int} {k : Nat} (h : m < hi) (f1 : lo ≤ m) (h4 : k = (hi - lo).toNat) : (m - lo).toNat ≤ k - 1 := by omega
theorem bl_c {hi m : Int} {q : Nat} (f1 : 0 ≤ m) (f4 : m.toNat = q) : (m + 1).toNat = q + 1 := by omega
theorem bl_d {hi m : Int} {q : Nat} (f1 : 0 ≤ m) (f4 : m.toNat = q) : hi.toNat ≤ q + 1 + (hi - (m + 1)).toNat := by omega
theorem bl_e {lo m : Int} {q : Nat} (h1 : 0 ≤ lo) (f1 : lo ≤ m) (f4 : m.toNat = q) : q ≤ lo.toNat + (m - lo).toNat := by omega
theorem BlJ.lo {ps : List (Int × Int)} {x1 x2 : Int} {m0 : Str → Option Value} {keep : List (Addr × Obj)} {lo hi : Int} {k : Nat} {vm' : Option Value} {tl' th : Tok} (h1 : 0 ≤ lo) (h3 : hi ≤ ps.length) (h4 : k = (hi - lo).toNat) (h5 : bisN ps (x1, x2) k lo.toNat hi.toNat = bis ps (x1, x2)) (h : lo < hi)
    (hp : (ps.getD ((lo + hi).fdiv 2).toNat (0, 0)).1 < x1 ∨ (ps.getD ((lo + hi).fdiv 2).toNat (0, 0)).1 = x1 ∧ (ps.getD ((lo + hi).fdiv 2).toNat (0, 0)).2 < x2) :
    BlJ ps (x1, x2) m0 keep (hi - ((lo + hi).fdiv 2 + 1)).toNat (blM m0 vm' ((lo + hi).fdiv 2 + 1) hi tl' th) keep := by
  obtain ⟨f1, f2, f3, f4⟩ := fd2 h1 (Int.le_of_lt h)
  have f2 := f2 h
  have g1 := mid_ge h1 h
  refine BlJ.mk (Int.le_trans g1 (Int.le_add_of_nonneg_right (by decide))) (Int.add_one_le_of_lt f2) h3 rfl ?_
  have hp' : plt (ps.getD ((lo.toNat + hi.toNat) / 2) (0, 0)) (x1, x2) = true := by rw [← f4]; exact decide_eq_true hp
  clear hp
  rw [bl_k h h4] at h5
  unfold bisN at h5
  rw [if_pos (bl_lt h1 h), if_pos hp'] at h5
  rw [bl_c (hi := hi) g1 f4, ← h5]
  exact (bisN_more ps _ _ _ _ _ (bl_d g1 f4) (bl_a h f1 h4)).symm
theorem BlJ.hi {ps : List (Int × Int)} {x1 x2 : Int} {m0 : Str → Option Value} {keep : List (Addr × Obj)} {lo hi : Int} {k : Nat} {vm' : Option Value} {tl th' : Tok} (h1 : 0 ≤ lo) (h3 : hi ≤ ps.length) (h4 : k = (hi - lo).toNat) (h5 : bisN ps (x1, x2) k lo.toNat hi.toNat = bis ps (x1, x2)) (h : lo < hi)
    (hp : ¬ ((ps.getD ((lo + hi).fdiv 2).toNat (0, 0)).1 < x1 ∨ (ps.getD ((lo + hi).fdiv 2).toNat (0, 0)).1 = x1 ∧ (ps.getD ((lo + hi).fdiv 2).toNat (0, 0)).2 < x2)) :
    BlJ ps (x1, x2) m0 keep ((lo + hi).fdiv 2 - lo).toNat (blM m0 vm' lo ((lo + hi).fdiv 2) tl th') keep := by
  obtain ⟨f1, f2, f3, f4⟩ := fd2 h1 (Int.le_of_lt h)
  have f2 := f2 h
  refine BlJ.mk h1 f1 (Int.le_trans f3 h3) rfl ?_
  have hp' : ¬ plt (ps.getD ((lo.toNat + hi.toNat) / 2) (0, 0)) (x1, x2) = true := by rw [← f4]; simpa [plt] using hp
  clear hp
  rw [bl_k h h4] at h5
  unfold bisN at h5
  rw [if_pos (bl_lt h1 h), if_neg hp'] at h5
  rw [f4, ← h5]
  exact (bisN_more ps _ _ _ _ _ (bl_e h1 f1 f4) (bl_b f2 f1 h4)).symm
theorem bl_end {ps : List (Int × Int)} {x : Int × Int} {lo hi : Int} {k : Nat} (h1 : 0 ≤ lo) (h2 : lo ≤ hi) (h4 : k = (hi - lo).toNat) (h5 : bisN ps x k lo.toNat hi.toNat = bis ps x) (h : ¬ lo < hi) : lo = (bis ps x : Int) := by
  have hk : k = 0 := by omega
  subst hk
  have : bisN ps x 0 lo.toNat hi.toNat = lo.toNat := rfl
  omega
theorem whileStep_eq {h₀ h' : Heap} {L : Addr} {s : Shared} {J : Nat → (Str → Option Value) → List (Addr × Obj) → Prop} {n n' tk : Nat} {m1 m2 : Str → Option Value} {news2 : List (Addr × Obj)}
    (F : Fr h₀ L h' m1) (e : m1 = m2) (N : News h₀ L h' news2) (hJ : J n' m2 news2) (hn : n' < n) : WhileStep h₀ L s J n .next { s with heap := h', toks := tk } :=
  WhileStep.intro (e ▸ F) N hn hJ
theorem bl_while {prog : Program} {w : World} {A : Around} {E : Value → Shared → Prop} {Q : Flow → Shared → Prop} {s : Shared} {env : Env} {h₀ : Heap} {L xa : Addr} {test : Expr} {body : List Stmt} {pos : Pos} {m : Str → Option Value} {news : List (Addr × Obj)}
    {ps : List (Int × Int)} {x1 x2 : Int} {t1 t2 : Tok} {vm : Option Value} {hi : Int} {tl th : Tok}
    (F : Fr h₀ L s.heap m) (N : News h₀ L s.heap news) (_ : (xa, tup2 (.int x1 t1) (.int x2 t2)) ∈ news) (h1 : m (Str.ofString "hi") = some (.int hi th)) (h2 : m (Str.ofString "lo") = some (.int 0 tl)) (h3 : m (Str.ofString "mid") = vm) (hlen : hi = (ps.length : Int))
    (hE : PassesOwn (model prog w) A env E)
    (turn : ∀ n m₁ news₁ h₁ tk₁, Fr h₀ L h₁ m₁ → News h₀ L h₁ news₁ → BlJ ps (x1, x2) m news n m₁ news₁ →
      wpAny (model prog w) A (isTrue test env (eval test env)) (fun b s₂ =>
        if b = true then wpAny (model prog w) A (execs body env) (WhileStep h₀ L s (BlJ ps (x1, x2) m news) n) E s₂ else Q .next s₂) E { s with heap := h₁, toks := tk₁ }) :
    wpAny (model prog w) A (exec (.While test body [] pos) env) Q E s := by
  refine While_inv (BlJ ps (x1, x2) m news) (n₀ := ps.length) F N ?_ turn hE
  have h : BlJ ps (x1, x2) m news ps.length (blM m vm 0 hi tl th) news := BlJ.mk (Int.le_refl _) (by omega) (by omega) (by omega) (by subst hlen; unfold bis; rfl)
  rw [← blM_init h1 h2 h3] at h
  exact h
section
local macro_rules | `(tactic| walk_at "call builtin:len") => `(tactic| (k_here; (with_reducible refine gd_r ?_); k_dflt (refine' len_pair ?N ?m ?I ?f ?_; (case N => k_asm); (case m => k_mem); (case I => assumption); (case f => omega))))
local macro_rules | `(tactic| walk_at "subscriptTail") => `(tactic| (k_here; (with_reducible refine gd_s ?_); k_dflt (refine' sub_pair ?k1 ?k2 ?k3 ?k4 ?k5 ?k6 ?_ ?k7; (case k1 => k_asm); (case k2 => k_mem); (case k3 => assumption); (case k4 => first | exact mid_ge (by assumption) (by assumption) | omega); (case k5 => first | exact mid_lt (by assumption) (by assumption) (by assumption) | omega); (case k6 => first | assumption | omega); (case k7 => with_unfolding_all rfl)); intro _ _ _ _; (try dsimp only)))
local macro_rules | `(tactic| walk_at "compareOp Lt ref ref") => `(tactic| (k_here; k_dflt (refine' tup_lt ?a ?b ?u ?_; (case a => exact News.get (by k_asm) (by k_mem)); (case b => exact News.get (by k_asm) (by k_mem)); (case u => exact Nat.le_of_ble_eq_true rfl))))
local macro_rules | `(tactic| walk_at "exec While") => `(tactic| (k_here; k_dflt (refine' bl_while ?F ?N ?hx ?h1 ?h2 ?h3 ?hlen ?hE ?_; (case F | N => k_asm); (case hx => assumption); (case h1 | h2 | h3 | hlen => exact rfl); (case hE => passes_own)); intro _ _ _ _ _ _ _ hJ; (rcases hJ with ⟨j1, j2, j3, j4, j5⟩); (have hfd := fd2 j1 j2)))
local macro_rules | `(tactic| walk_at "WhileStep") => `(tactic| (k_dflt (first
  | (refine' whileStep_eq ?F (blM_lo _ _ _ _ _ _ _ _ _) ?N (BlJ.lo ?j1 ?j3 ?j4 ?j5 ?h ?hp) ?n; (case F => k_asm); (case N => k_asm); (case j1 => assumption); (case j3 => assumption); (case j4 => assumption); (case j5 => assumption); (case h => walk_at "MINE arith"); (case hp => assumption); (case n => first | exact lo_dec (by assumption) (by assumption) (by assumption) | omega))
  | (refine' whileStep_eq ?F (blM_hi _ _ _ _ _ _ _ _ _) ?N (BlJ.hi ?j1 ?j3 ?j4 ?j5 ?h ?hp) ?n; (case F => k_asm); (case N => k_asm); (case j1 => assumption); (case j3 => assumption); (case j4 => assumption); (case j5 => assumption); (case h => walk_at "MINE arith"); (case hp => assumption); (case n => first | exact hi_dec (by assumption) (by assumption) (by assumption) | omega)))))
set_option rowWalk.seconds 0 in
theorem bl2_ok (w : World) (p : Program) (loose : List Str) (mean : ExcName → Option Value) (mg mb : Str → Option Value)
  (gd : Option (List Code)) (cn : Str) (cs : Scope) (a : Addr) (ccd : Value) (cl : List (Str × Addr)) (outer : List Env) (A₀ : Around) (base h₀ : Heap) (L : Addr) (m : Str → Option Value) (s : Shared) (Q E : Value → Shared → Prop)
  (l xa : Addr) (vs : List Value) (ps : List (Int × Int)) (x1 x2 : Int) (t1 t2 : Tok) (e : Nat) (news : List (Addr × Obj)) :
  (Mine.hd.heap_39 w.params).In h₀ →
  Below A₀ base outer h₀ → Fr h₀ L s.heap m → News h₀ L s.heap news → Top p loose mean mg mb h₀ →
  cs.kind = .function → (l, listOf vs.toArray e) ∈ news → PairsIn news vs ps → ps.length ≤ 1000 → (xa, tup2 (.int x1 t1) (.int x2 t2)) ∈ news →
  (∀ v t h' tk', Fr h₀ L h' m → News h₀ L h' news → v = (bis ps (x1, x2) : Int) → Q (.int v t) { s with heap := h', toks := tk' }) →
  wpAny (model Challenge.rw_hl0003_01.row.prog w) (ktrTop 380 960 gd cn cs L a ccd cl outer) (call (.ref 74) [.ref l, .ref xa]) Q E s := by
  k_fill
  intro X B F N T hk hl hP hlen hxa hret
  refine wpAny_call ?_
  (k_dflt (refine' code_def ?zzk1u5 ?zzk2u5 ?zzk3u5 ?zzk4u5 ?zzk5u5 ?zzkAu5 ?zzkFu5 ?zzkKu5 ?zzk6u5 ?zzk7u5 ?zzk8u5 ?zzk9u5 ?zzkBu5 ?_ ?zzc2u5 ?zzc3u5 ?zzc4u5 ?zzc5u5; (case zzkAu5 | zzkFu5 => exact rfl); (case zzkKu5 => assumption); (case zzk1u5 | zzk2u5 | zzk3u5 | zzk4u5 | zzk5u5 => k_asm); (case zzk6u5 | zzk7u5 => k_is); (case zzk8u5 => k_room); (case zzk9u5 => (refine' kp_binds ?zzkxu5 ?zzkeu5; (case zzkxu5 => k_in); (case zzkeu5 => exact fun _ => rfl))); (case zzc5u5 => decide); (case zzkBu5 => exact locs rfl); (case zzc2u5 | zzc3u5 | zzc4u5 => exact rfl); k_whole; intro _ _ _ _ _ _ B' _ _; (try dsimp only); (try k_lift B'); (try k_fold)))
  k_steps
  exact hret _ _ _ _ (by k_asm) (by k_asm) (bl_end (by assumption) (by assumption) (by assumption) (by assumption) (by assumption))
set_option rowWalk.seconds 0 in
theorem bl4_ok (w : World) (p : Program) (loose : List Str) (mean : ExcName → Option Value) (mg mb : Str → Option Value)
  (gd : Option (List Code)) (cn : Str) (cs : Scope) (a : Addr) (ccd : Value) (cl : List (Str × Addr)) (outer : List Env) (A₀ : Around) (base h₀ : Heap) (L : Addr) (m : Str → Option Value) (s : Shared) (Q E : Value → Shared → Prop)
  (l xa : Addr) (vs : List Value) (ps : List (Int × Int)) (x1 x2 : Int) (t1 t2 t0 : Tok) (e : Nat) (news : List (Addr × Obj)) :
  (Mine.hd.heap_39 w.params).In h₀ →
  Below A₀ base outer h₀ → Fr h₀ L s.heap m → News h₀ L s.heap news → Top p loose mean mg mb h₀ →
  cs.kind = .function → (l, listOf vs.toArray e) ∈ news → PairsIn news vs ps → ps.length ≤ 1000 → (xa, tup2 (.int x1 t1) (.int x2 t2)) ∈ news →
  (∀ v t h' tk', Fr h₀ L h' m → News h₀ L h' news → v = (bis ps (x1, x2) : Int) → Q (.int v t) { s with heap := h', toks := tk' }) →
  wpAny (model Challenge.rw_hl0003_01.row.prog w) (ktrTop 380 960 gd cn cs L a ccd cl outer) (call (.ref 74) [.ref l, .ref xa, .int 0 t0, .none]) Q E s := by
  k_fill
  intro X B F N T hk hl hP hlen hxa hret
  refine wpAny_call ?_
  (k_dflt (refine' code_def ?zzk1u6 ?zzk2u6 ?zzk3u6 ?zzk4u6 ?zzk5u6 ?zzkAu6 ?zzkFu6 ?zzkKu6 ?zzk6u6 ?zzk7u6 ?zzk8u6 ?zzk9u6 ?zzkBu6 ?_ ?zzc2u6 ?zzc3u6 ?zzc4u6 ?zzc5u6; (case zzkAu6 | zzkFu6 => exact rfl); (case zzkKu6 => assumption); (case zzk1u6 | zzk2u6 | zzk3u6 | zzk4u6 | zzk5u6 => k_asm); (case zzk6u6 | zzk7u6 => k_is); (case zzk8u6 => k_room); (case zzk9u6 => (refine' kp_binds ?zzkxu6 ?zzkeu6; (case zzkxu6 => k_in); (case zzkeu6 => exact fun _ => rfl))); (case zzc5u6 => decide); (case zzkBu6 => exact locs rfl); (case zzc2u6 | zzc3u6 | zzc4u6 => exact rfl); k_whole; intro _ _ _ _ _ _ B' _ _; (try dsimp only); (try k_lift B'); (try k_fold)))
  k_steps
  exact hret _ _ _ _ (by k_asm) (by k_asm) (bl_end (by assumption) (by assumption) (by assumption) (by assumption) (by assumption))
end
theorem bl2_use {w : World} {p : Program} {loose : List Str} {mean : ExcName → Option Value} {mg mb : Str → Option Value}
  {dp un : Nat} {gd : Option (List Code)} {cn : Str} {cs : Scope} {a : Addr} {ccd : Value} {cl : List (Str × Addr)} {outer : List Env} {A₀ : Around} {base h₀ : Heap} {L : Addr} {m : Str → Option Value} {s : Shared} {Q E : Value → Shared → Prop}
  {l xa : Addr} {vs : List Value} {ps : List (Int × Int)} {x1 x2 : Int} {t1 t2 : Tok} {e : Nat} {news : List (Addr × Obj)} (hdp : dp ≤ 380) (hun : un ≤ 960)
  (X : (Mine.hd.heap_39 w.params).In h₀) (B : Below A₀ base outer h₀) (F : Fr h₀ L s.heap m) (N : News h₀ L s.heap news) (T : Top p loose mean mg mb h₀) (hk : cs.kind = .function)
  (hl : (l, listOf vs.toArray e) ∈ news) (hP : PairsIn news vs ps) (hlen : ps.length ≤ 1000) (hxa : (xa, tup2 (.int x1 t1) (.int x2 t2)) ∈ news)
  (ret : ∀ v t h' tk', Fr h₀ L h' m → News h₀ L h' news → v = (bis ps (x1, x2) : Int) → Q (.int v t) { s with heap := h', toks := tk' }) :
  wpAny (model Challenge.rw_hl0003_01.row.prog w) (ktrTop dp un gd cn cs L a ccd cl outer) (call (.ref 74) [.ref l, .ref xa]) Q E s :=
  wp_room (bl2_ok w p loose mean mg mb gd cn cs a ccd cl outer A₀ base h₀ L m s Q E l xa vs ps x1 x2 t1 t2 e news X B F N T hk hl hP hlen hxa ret) hdp hun
theorem bl4_use {w : World} {p : Program} {loose : List Str} {mean : ExcName → Option Value} {mg mb : Str → Option Value}
  {dp un : Nat} {gd : Option (List Code)} {cn : Str} {cs : Scope} {a : Addr} {ccd : Value} {cl : List (Str × Addr)} {outer : List Env} {A₀ : Around} {base h₀ : Heap} {L : Addr} {m : Str → Option Value} {s : Shared} {Q E : Value → Shared → Prop}
  {l xa : Addr} {vs : List Value} {ps : List (Int × Int)} {x1 x2 : Int} {t1 t2 t0 : Tok} {e : Nat} {news : List (Addr × Obj)} (hdp : dp ≤ 380) (hun : un ≤ 960)
  (X : (Mine.hd.heap_39 w.params).In h₀) (B : Below A₀ base outer h₀) (F : Fr h₀ L s.heap m) (N : News h₀ L s.heap news) (T : Top p loose mean mg mb h₀) (hk : cs.kind = .function)
  (hl : (l, listOf vs.toArray e) ∈ news) (hP : PairsIn news vs ps) (hlen : ps.length ≤ 1000) (hxa : (xa, tup2 (.int x1 t1) (.int x2 t2)) ∈ news)
  (ret : ∀ v t h' tk', Fr h₀ L h' m → News h₀ L h' news → v = (bis ps (x1, x2) : Int) → Q (.int v t) { s with heap := h', toks := tk' }) :
  wpAny (model Challenge.rw_hl0003_01.row.prog w) (ktrTop dp un gd cn cs L a ccd cl outer) (call (.ref 74) [.ref l, .ref xa, .int 0 t0, .none]) Q E s :=
  wp_room (bl4_ok w p loose mean mg mb gd cn cs a ccd cl outer A₀ base h₀ L m s Q E l xa vs ps x1 x2 t1 t2 t0 e news X B F N T hk hl hP hlen hxa ret) hdp hun

/-- a pair put in its place -/
@[irreducible] noncomputable def insP (ps : List (Int × Int)) (x : Int × Int) : List (Int × Int) := ps.take (bis ps x) ++ x :: ps.drop (bis ps x)
theorem insP_len (ps : List (Int × Int)) (x : Int × Int) : (insP ps x).length = ps.length + 1 := by
  unfold insP
  simp only [List.length_append, List.length_cons, List.length_take, List.length_drop]
  omega
theorem insert_P {prog : Program} {w : World} {A : Around} {E : Value → Shared → Prop} {s : Shared} {h₀ : Heap} {L D xa : Addr} {m : Str → Option Value} {keep : List (Addr × Obj)} {vs : List Value} {ps : List (Int × Int)} {n : Nat} {v x1 x2 : Int} {u t1 t2 : Tok} {Q : Value → Shared → Prop}
    (F : Fr h₀ L s.heap m) (N : News h₀ L s.heap ((D, listOf vs.toArray n) :: keep)) (hD : ∀ p ∈ keep, p.1 ≠ D) (hP : PairsIn keep vs ps) (hlen : ps.length ≤ 1000) (hxa : (xa, tup2 (.int x1 t1) (.int x2 t2)) ∈ keep) (hv : v = (bis ps (x1, x2) : Int))
    (h : ∀ h' vs' n', Fr h₀ L h' m → News h₀ L h' ((D, listOf vs'.toArray n') :: keep) → PairsIn keep vs' (insP ps (x1, x2)) → Q .none { s with heap := h' }) :
    wpAny (model prog w) A (call (.builtin "list.insert") [.ref D, .int v u, .ref xa]) Q E s := by
  have hl := hP.length
  have hb := bis_le ps (x1, x2)
  have e : kl_ins vs v (.ref xa) = vs.take (bis ps (x1, x2)) ++ .ref xa :: vs.drop (bis ps (x1, x2)) := by
    unfold kl_ins
    rw [if_neg (by omega), show min v.toNat vs.length = bis ps (x1, x2) by omega]
  refine kl_insert (its := vs.toArray) F N (by simp [Builtin.List.listFitsIndex]; omega) e (.head hD) (by show vs.length ≤ _; rw [sizeLine_eq]; omega) fun h' F' N' => h h' _ _ F' N' ?_
  unfold insP
  exact PairsIn.append (.cons hxa (hP.drop _)) (hP.take _)
end
section
section
local macro_rules | `(tactic| walk_at "call ref") => `(tactic| (k_here; k_dflt (apply bl4_use; walk_at "MINE ca"; (case hl => k_mem); (case hP => (refine' PairsIn.mono ?sb ?hh; (case hh => assumption); (case sb => walk_at "MINE sub"))); (case hlen => omega); (case hxa => k_mem); k_whole); intro _ _ _ _ _ _ _; (try dsimp only); (try k_fold)))
local macro_rules | `(tactic| walk_at "call builtin:list.insert") => `(tactic| (k_here; k_dflt (refine' insert_P ?F ?N ?D ?P ?l ?x ?v ?_; (case F | N => k_asm); (case D | P => assumption); (case l => omega); (case x => assumption); (case v => assumption)); intro _ _ _ _ _ _; (try dsimp only); (try k_fold)))
set_option rowWalk.seconds 0 in
theorem ins_ok (w : World) (p : Program) (loose : List Str) (mean : ExcName → Option Value) (mg mb : Str → Option Value)
  (gd : Option (List Code)) (cn : Str) (cs : Scope) (a : Addr) (ccd : Value) (cl : List (Str × Addr)) (outer : List Env) (A₀ : Around) (base h₀ : Heap) (L : Addr) (m : Str → Option Value) (s : Shared) (Q E : Value → Shared → Prop)
  (l xa : Addr) (vs : List Value) (ps : List (Int × Int)) (x1 x2 : Int) (t1 t2 : Tok) (e : Nat) (keep : List (Addr × Obj)) :
  (Mine.hd.heap_39 w.params).In h₀ →
  Below A₀ base outer h₀ → Fr h₀ L s.heap m → News h₀ L s.heap ((l, listOf vs.toArray e) :: keep) → (∀ p ∈ keep, p.1 ≠ l) → Top p loose mean mg mb h₀ →
  cs.kind = .function → PairsIn keep vs ps → ps.length ≤ 1000 → (xa, tup2 (.int x1 t1) (.int x2 t2)) ∈ keep →
  (∀ vs' e' h' tk', Fr h₀ L h' m → News h₀ L h' ((l, listOf vs'.toArray e') :: keep) → PairsIn keep vs' (insP ps (x1, x2)) → Q .none { s with heap := h', toks := tk' }) →
  wpAny (model Challenge.rw_hl0003_01.row.prog w) (ktrTop 375 950 gd cn cs L a ccd cl outer) (call (.ref 65) [.ref l, .ref xa]) Q E s := by
  k_fill
  intro X B F N hD T hk hP hlen hxa hret
  refine wpAny_call ?_
  (k_dflt (refine' code_def ?zzk1u7 ?zzk2u7 ?zzk3u7 ?zzk4u7 ?zzk5u7 ?zzkAu7 ?zzkFu7 ?zzkKu7 ?zzk6u7 ?zzk7u7 ?zzk8u7 ?zzk9u7 ?zzkBu7 ?_ ?zzc2u7 ?zzc3u7 ?zzc4u7 ?zzc5u7; (case zzkAu7 | zzkFu7 => exact rfl); (case zzkKu7 => assumption); (case zzk1u7 | zzk2u7 | zzk3u7 | zzk4u7 | zzk5u7 => k_asm); (case zzk6u7 | zzk7u7 => k_is); (case zzk8u7 => k_room); (case zzk9u7 => (refine' kp_binds ?zzkxu7 ?zzkeu7; (case zzkxu7 => k_in); (case zzkeu7 => exact fun _ => rfl))); (case zzc5u7 => decide); (case zzkBu7 => exact locs rfl); (case zzc2u7 | zzc3u7 | zzc4u7 => exact rfl); k_whole; intro _ _ _ _ _ _ B' _ _; (try dsimp only); (try k_lift B'); (try k_fold)))
  k_steps
  exact hret _ _ _ _ (by k_asm) (by k_asm) (by assumption)
end
theorem ins_use {w : World} {p : Program} {loose : List Str} {mean : ExcName → Option Value} {mg mb : Str → Option Value}
  {dp un : Nat} {gd : Option (List Code)} {cn : Str} {cs : Scope} {a : Addr} {ccd : Value} {cl : List (Str × Addr)} {outer : List Env} {A₀ : Around} {base h₀ : Heap} {L : Addr} {m : Str → Option Value} {s : Shared} {Q E : Value → Shared → Prop}
  {l xa : Addr} {vs : List Value} {ps : List (Int × Int)} {x1 x2 : Int} {t1 t2 : Tok} {e : Nat} {news keep : List (Addr × Obj)} (hdp : dp ≤ 375) (hun : un ≤ 950)
  (X : (Mine.hd.heap_39 w.params).In h₀) (B : Below A₀ base outer h₀) (F : Fr h₀ L s.heap m) (N : News h₀ L s.heap news) (hl : (l, listOf vs.toArray e) ∈ news) (R : Rm l news keep) (T : Top p loose mean mg mb h₀) (hk : cs.kind = .function)
  (hP : PairsIn keep vs ps) (hlen : ps.length ≤ 1000) (hxa : (xa, tup2 (.int x1 t1) (.int x2 t2)) ∈ keep)
  (ret : ∀ vs' e' h' tk', Fr h₀ L h' m → News h₀ L h' ((l, listOf vs'.toArray e') :: keep) → PairsIn keep vs' (insP ps (x1, x2)) → Q .none { s with heap := h', toks := tk' }) :
  wpAny (model Challenge.rw_hl0003_01.row.prog w) (ktrTop dp un gd cn cs L a ccd cl outer) (call (.ref 65) [.ref l, .ref xa]) Q E s :=
  wp_room (ins_ok w p loose mean mg mb gd cn cs a ccd cl outer A₀ base h₀ L m s Q E l xa vs ps x1 x2 t1 t2 e keep X B F (fun p hp => by
    rcases List.mem_cons.mp hp with rfl | hp
    · exact N _ hl
    · exact N _ (R.ok.1 p hp)) R.ok.2 T hk hP hlen hxa ret) hdp hun
end
section
theorem rm_mem {a : Addr} : ∀ {l k : List (Addr × Obj)}, Rm a l k → ∀ p ∈ l, p.1 ≠ a → p ∈ k
  | _, _, .tl _, p, h, _ => h
  | _, _, .hit r, p, h, hn => by
    rcases List.mem_cons.mp h with rfl | h
    · exact absurd rfl hn
    · exact rm_mem r p h hn
  | _, _, .miss _ r, p, h, hn => by
    rcases List.mem_cons.mp h with rfl | h
    · exact .head _
    · exact .tail _ (rm_mem r p h hn)
/-- pairs stay when a cell that is no tuple goes -/
theorem PairsIn.strip {h₀ h : Heap} {L I : Addr} {it : Obj} {n k : List (Addr × Obj)} (N : News h₀ L h n) (hI : (I, it) ∈ n) (hc : it.cls ≠ .type "tuple") (R : Rm I n k) : ∀ {vs : List Value} {ps : List (Int × Int)}, PairsIn n vs ps → PairsIn k vs ps
  | _, _, .nil => .nil
  | _, _, .cons (a := a) hm r => .cons (rm_mem R _ hm (fun e => by
      have e : a = I := e
      subst e
      have e1 := (N _ hm).1
      rw [(N _ hI).1] at e1
      have e2 : it = tup2 _ _ := Option.some.inj e1
      exact hc (by rw [e2]))) (PairsIn.strip N hI hc R r)
section
variable {prog : Program} {w : World} {A : Around} {E : Value → Shared → Prop} {s : Shared} {env : Env} {h₀ : Heap} {x : Str} {body : List Stmt} {Q : Flow → Shared → Prop}
/-- a loop over a range, by what holds before its turn -/
theorem range_ind {I : Addr} {a : Int} {n : Nat} (J : Nat → (Str → Option Value) → List (Addr × Obj) → Prop)
    (step : ∀ i m news, i < n → J i m news → ∀ t h tk, Fr h₀ env.locals h (fun y => if y = x then some (.int (a + (i : Int)) t) else m y) → News h₀ env.locals h ((I, itR (a + ((i + 1 : Nat) : Int)) ((n : Int) - ((i + 1 : Nat) : Int))) :: news) →
      wpAny (model prog w) A (execs body env) (UnrPost h₀ env.locals { s with heap := h, toks := tk } I (itR (a + ((i + 1 : Nat) : Int)) ((n : Int) - ((i + 1 : Nat) : Int))) (J (i + 1)) Q) E { s with heap := h, toks := tk })
    (fin : ∀ m news, J n m news → ∀ h tk, Fr h₀ env.locals h m → News h₀ env.locals h news → Q .next { s with heap := h, toks := tk }) :
    ∀ k i m news, i + k = n → J i m news → RangeRest prog w A E h₀ env x body Q s I a n k i m news
  | 0, i, m, news, hi, hJ => RangeRest.zero fun h tk F N => fin m news (by rw [← hi]; exact hJ) h tk F N
  | k + 1, i, m, news, hi, hJ => RangeRest.succ fun t h tk F N => by
    refine wpAny_mono (step i m news (by omega) hJ t h tk F N) (fun f s₂ p => ?_) fun _ _ e => e
    have conv : ∀ {s₂ : Shared}, UnrEnd h₀ env.locals { s with heap := h, toks := tk } I (itR (a + ((i + 1 : Nat) : Int)) ((n : Int) - ((i + 1 : Nat) : Int))) (J (i + 1)) s₂ → UnrEnd h₀ env.locals { s with heap := h, toks := tk } I (itR (a + ((i + 1 : Nat) : Int)) ((n : Int) - ((i + 1 : Nat) : Int))) (RangeRest prog w A E h₀ env x body Q s I a n k (i + 1)) s₂ :=
      fun ⟨h', tk', m', n', e, F', N', o, j⟩ => ⟨h', tk', m', n', e, F', N', o, range_ind J step fin k (i + 1) m' n' (by omega) j⟩
    cases f with
    | ret v => exact p
    | brk => exact p
    | next => exact conv p
    | cont => exact conv p
theorem unrEnd_eqR {L I : Addr} {it : Obj} {J : (Str → Option Value) → List (Addr × Obj) → Prop} {s₁ : Shared} {h' : Heap} {tk : Nat} {m1 m2 : Str → Option Value} {all news' : List (Addr × Obj)} (F : Fr h₀ L h' m1) (N : News h₀ L h' all)
    (e : m1 = m2) (hI : (I, it) ∈ all) (R : Rm I all news') (r : J m2 news') : UnrEnd h₀ L s₁ I it J { s₁ with heap := h', toks := tk } :=
  unrEnd_rm (e ▸ F) N hI R r
end

theorem unrEnd_eqS {h₀ : Heap} {L I : Addr} {it : Obj} {J : (Str → Option Value) → List (Addr × Obj) → Prop} {s₁ : Shared} {h' : Heap} {tk : Nat} {m1 m2 : Str → Option Value} {all news' : List (Addr × Obj)} (F : Fr h₀ L h' m1) (N : News h₀ L h' all)
    (e : m1 = m2) (sub : ∀ p ∈ (I, it) :: news', p ∈ all) (off : ∀ p ∈ news', p.1 ≠ I) (r : J m2 news') : UnrEnd h₀ L s₁ I it J { s₁ with heap := h', toks := tk } :=
  UnrEnd.intro (e ▸ F) N news' sub off r
theorem lpt_bnd {x y r f : Int} (hy : 0 < y) : 0 ≤ lpt x y r f ∧ lpt x y r f < y := ⟨Int.fmod_nonneg_of_pos _ hy, Int.fmod_lt_of_pos _ hy⟩
theorem fold_bnd {x y : Int} (hy : 0 < y) : ∀ (l : List Int) (r : Int), 0 ≤ r → r < y → 0 ≤ l.foldl (lpt x y) r ∧ l.foldl (lpt x y) r < y
  | [], _, h0, h1 => ⟨h0, h1⟩
  | _ :: l, _, _, _ => fold_bnd hy l _ (lpt_bnd hy).1 (lpt_bnd hy).2
theorem lpv_bnd {x n y : Int} (hy : 1 < y) : 0 ≤ lpv x n y ∧ lpv x n y < y := by
  unfold lpv
  exact fold_bnd (by omega) _ _ (by decide) hy
theorem mul_bnd {a b y : Int} (a0 : 0 ≤ a) (a1 : a ≤ 16) (b0 : 0 ≤ b) (b1 : b ≤ 16) (hy : 4 ≤ y) (hy2 : y ≤ 16) : mag (a * b) < 2 ^ 20 ∧ ((Builtin.Int.intBits (mag (a * b)) : Int) + Builtin.Int.intBits y - 1).fdiv (Builtin.Int.intBits y) ≤ 4 := by
  have a3 : 0 ≤ a * b := Int.mul_nonneg a0 b0
  have a4 : a * b ≤ 16 * 16 := Int.mul_le_mul a1 b1 b0 (by decide)
  rw [mag_pos a3]
  refine ⟨by omega, dig4 (k := 9) a3 (by omega) ?_ (by omega)⟩
  have := bits_ge (y := y) (k := 2) (by omega)
  omega
/-- the small steps, laid in order -/
noncomputable def ordPR (number base prime : Int) : Nat → List (Int × Int)
  | 0 => []
  | k + 1 => insP (ordPR number base prime k) ((number * lpv base (0 + (k : Int)) prime).fmod prime, 0 + (k : Int))
@[irreducible] noncomputable def ordP (number base prime : Int) (k : Nat) : List (Int × Int) := ordPR number base prime k
theorem ordP_zero (number base prime : Int) : ordP number base prime 0 = [] := by unfold ordP; rfl
theorem ordP_succ (number base prime : Int) (k : Nat) : ordP number base prime (k + 1) = insP (ordP number base prime k) ((number * lpv base (0 + (k : Int)) prime).fmod prime, 0 + (k : Int)) := by unfold ordP; rfl
theorem ordP_len (number base prime : Int) : ∀ k, (ordP number base prime k).length = k
  | 0 => by rw [ordP_zero]; rfl
  | k + 1 => by rw [ordP_succ, insP_len, ordP_len]
noncomputable abbrev whP (o : List (Int × Int)) (g h : Int) : Prop := bis o (h, 0) < o.length ∧ (o.getD (bis o (h, 0)) (0, 0)).1 = h ∧ 4 * g ≥ (o.getD (bis o (h, 0)) (0, 0)).2
/-- the great steps -/
noncomputable def whFR (o : List (Int × Int)) (step prime : Int) : Nat → Int → Int → Option Int
  | 0, _, _ => none
  | k + 1, g, here => if whP o g ((here * step).fmod prime) then some ((4 * g - (o.getD (bis o ((here * step).fmod prime, 0)) (0, 0)).2).fmod (prime - 1)) else whFR o step prime k (g + 1) ((here * step).fmod prime)
@[irreducible] noncomputable def whF (o : List (Int × Int)) (step prime : Int) (k : Nat) (g here : Int) : Option Int := whFR o step prime k g here
theorem whF_zero (o : List (Int × Int)) (step prime g here : Int) : whF o step prime 0 g here = none := by unfold whF; rfl
theorem whF_next (o : List (Int × Int)) (step prime : Int) (k : Nat) (g here : Int) : whF o step prime (k + 1) g here = if whP o g ((here * step).fmod prime) then some ((4 * g - (o.getD (bis o ((here * step).fmod prime, 0)) (0, 0)).2).fmod (prime - 1)) else whF o step prime k (g + 1) ((here * step).fmod prime) := by unfold whF; rfl
@[irreducible] noncomputable def whichF (base number prime : Int) : Option Int := whF (ordP number base prime 4) (lpv base 4 prime) prime 6 1 1
structure WhichIs (base number prime r : Int) : Prop where
  eq : whichF base number prime = some r
theorem WhichIs.wh {base number prime r : Int} (h : WhichIs base number prime r) : whF (ordP number base prime 4) (lpv base 4 prime) prime 6 1 1 = some r := by
  have e := h.eq
  unfold whichF at e
  exact e

theorem lp_use {w : World} {p : Program} {loose : List Str} {mean : ExcName → Option Value} {mg mb : Str → Option Value}
  {dp un : Nat} {gd : Option (List Code)} {cn : Str} {cs : Scope} {a : Addr} {ccd : Value} {cl : List (Str × Addr)} {outer : List Env} {A₀ : Around} {base h₀ : Heap} {L : Addr} {m : Str → Option Value} {s : Shared} {Q E : Value → Shared → Prop}
  {x n y : Int} {tx tn ty : Tok} {news wl : List (Addr × Obj)} (hdp : dp ≤ 380) (hun : un ≤ 960)
  (X : (Mine.hd.heap_39 w.params).In h₀) (B : Below A₀ base outer h₀) (C1 : CodeHd base 34 30) (C2 : CodeHd base 41 37) (F : Fr h₀ L s.heap m) (N : News h₀ L s.heap news) (hw : Warm wl) (hs : ∀ p ∈ wl, p ∈ news) (T : Top p loose mean mg mb h₀)
  (hk : cs.kind = .function) (hx : 0 ≤ x) (hx2 : x ≤ 16) (hn : 0 ≤ n) (hn2 : n < 16) (hy : 4 ≤ y) (hy2 : y ≤ 16)
  (ret : ∀ v t h' tk', Fr h₀ L h' m → News h₀ L h' news → v = lpv x n y → 0 ≤ v → v < y → Q (.int v t) { s with heap := h', toks := tk' }) :
  wpAny (model Challenge.rw_hl0003_01.row.prog w) (ktrTop dp un gd cn cs L a ccd cl outer) (call (.ref 81) [.int x tx, .int n tn, .int y ty]) Q E s :=
  wp_room (lp_ok w p loose mean mg mb gd cn cs a ccd cl outer A₀ base h₀ L m s Q E x n y tx tn ty news wl X B C1 C2 F N hw hs T hk hx hx2 hn hn2 hy hy2
    fun v t h' tk' F' N' e => ret v t h' tk' F' N' e (by rw [e]; exact (lpv_bnd (by omega)).1) (by rw [e]; exact (lpv_bnd (by omega)).2)) hdp hun

noncomputable abbrev whM (m0 : Str → Option Value) (vs : Option Value) : Str → Option Value := fun z => if z = Str.ofString "small" then vs else m0 z
theorem whM_step (m0 : Str → Option Value) (v v' : Option Value) : (fun z => if z = Str.ofString "small" then v' else whM m0 v z) = whM m0 v' := by
  funext z
  unfold whM
  (repeat' split) <;> first | rfl | contradiction
theorem whM_init {m : Str → Option Value} {v : Option Value} (h : m (Str.ofString "small") = v) : m = whM m v := by
  funext z
  unfold whM
  split
  · subst z; exact h
  · rfl
inductive WsJ (number base prime : Int) (I o : Addr) (m0 : Str → Option Value) (keep : List (Addr × Obj)) : Nat → (Str → Option Value) → List (Addr × Obj) → Prop
  | mk {v : Option Value} {vs : List Value} {e i : Nat} {kp : List (Addr × Obj)} (h1 : PairsIn kp vs (ordP number base prime i)) (h2 : ∀ p ∈ keep, p ∈ kp) (h3 : ∀ p ∈ kp, p.1 ≠ o) (h4 : ∀ p ∈ kp, p.1 ≠ I) : WsJ number base prime I o m0 keep i (whM m0 v) ((o, listOf vs.toArray e) :: kp)
theorem ws_loop {prog : Program} {w : World} {A : Around} {E : Value → Shared → Prop} {s : Shared} {env : Env} {h₀ : Heap} {v : Str} {body : List Stmt} {Q : Flow → Shared → Prop} {I o : Addr} {a : Int}
    {number base prime : Int} {m : Str → Option Value} {keep : List (Addr × Obj)} {e : Nat} {va : Option Value} (h1 : m (Str.ofString "small") = va) (ho : ∀ p ∈ keep, p.1 ≠ o) (hi : ∀ p ∈ keep, p.1 ≠ I)
    (step : ∀ i m1 news, i < 4 → WsJ number base prime I o m keep i m1 news → ∀ t h tk, Fr h₀ env.locals h (fun y => if y = v then some (.int (a + (i : Int)) t) else m1 y) → News h₀ env.locals h ((I, itR (a + ((i + 1 : Nat) : Int)) (((4 : Nat) : Int) - ((i + 1 : Nat) : Int))) :: news) →
      wpAny (model prog w) A (execs body env) (UnrPost h₀ env.locals { s with heap := h, toks := tk } I (itR (a + ((i + 1 : Nat) : Int)) (((4 : Nat) : Int) - ((i + 1 : Nat) : Int))) (WsJ number base prime I o m keep (i + 1)) Q) E { s with heap := h, toks := tk })
    (fin : ∀ m1 news, WsJ number base prime I o m keep 4 m1 news → ∀ h tk, Fr h₀ env.locals h m1 → News h₀ env.locals h news → Q .next { s with heap := h, toks := tk }) :
    RangeRest prog w A E h₀ env v body Q s I a 4 4 0 m ((o, listOf (List.toArray []) e) :: keep) := by
  refine range_ind (WsJ number base prime I o m keep) step fin 4 0 _ _ rfl ?_
  have h : WsJ number base prime I o m keep 0 (whM m va) ((o, listOf (List.toArray []) e) :: keep) := WsJ.mk (by rw [ordP_zero]; exact .nil) (fun _ h => h) ho hi
  rw [← whM_init h1] at h
  exact h
theorem ws_end {h₀ h' : Heap} {L I o : Addr} {it : Obj} {s₁ : Shared} {tk : Nat} {m m1 : Str → Option Value} {v : Option Value} {number base prime x r : Int} {i e : Nat} {vs : List Value} {keep k1 k2 : List (Addr × Obj)}
    (F : Fr h₀ L h' m1) (N : News h₀ L h' ((o, listOf vs.toArray e) :: k1)) (em : m1 = whM m v) (hI : (I, it) ∈ k1) (hc : it.cls ≠ .type "tuple") (R : Rm I k1 k2) (off : ∀ p ∈ k1, p.1 ≠ o) (P : PairsIn k1 vs (insP (ordP number base prime i) (r, 0 + (i : Int))))
    (hr : r = (number * x).fmod prime) (hx : x = lpv base (0 + (i : Int)) prime) (sub : ∀ p ∈ keep, p ∈ k2) :
    UnrEnd h₀ L s₁ I it (WsJ number base prime I o m keep (i + 1)) { s₁ with heap := h', toks := tk } := by
  refine unrEnd_eqR F N em (.tail _ hI) (.miss (fun e => off _ hI (by rw [← e])) R) (WsJ.mk ?_ sub (fun p hp => off p (R.ok.1 p hp)) R.ok.2)
  have N1 : News h₀ L h' k1 := fun p hp => N p (.tail _ hp)
  have := PairsIn.strip N1 hI hc R P
  rw [hr, hx] at this
  rw [ordP_succ]
  exact this
noncomputable abbrev wgM (m0 : Str → Option Value) (h : Int) (th : Tok) (vp vg : Option Value) : Str → Option Value := fun z => if z = Str.ofString "here" then some (.int h th) else if z = Str.ofString "place" then vp else if z = Str.ofString "great" then vg else m0 z
theorem wgM_step (m0 : Str → Option Value) (h h' : Int) (th th' : Tok) (vp vg vp' vg' : Option Value) :
    (fun z => if z = Str.ofString "place" then vp' else if z = Str.ofString "here" then some (.int h' th') else if z = Str.ofString "great" then vg' else wgM m0 h th vp vg z) = wgM m0 h' th' vp' vg' := by
  funext z
  unfold wgM
  (repeat' split) <;> first | rfl | contradiction | (subst_vars; contradiction) | (simp_all; done)
theorem wgM_init {m : Str → Option Value} {h : Int} {th : Tok} {vp vg : Option Value} (h1 : m (Str.ofString "here") = some (.int h th)) (h2 : m (Str.ofString "place") = vp) (h3 : m (Str.ofString "great") = vg) : m = wgM m h th vp vg := by
  funext z
  unfold wgM
  split
  · subst z; exact h1
  · split
    · subst z; exact h2
    · split
      · subst z; exact h3
      · rfl
structure WhIs (ps : List (Int × Int)) (step prime : Int) (k : Nat) (g h r : Int) : Prop where
  eq : whF ps step prime k g h = some r
inductive WgJ (ps : List (Int × Int)) (step prime r : Int) (m0 : Str → Option Value) (keep : List (Addr × Obj)) : Nat → (Str → Option Value) → List (Addr × Obj) → Prop
  | mk {h : Int} {th : Tok} {vp vg : Option Value} {i : Nat} (h0 : 0 ≤ h) (h1 : h < prime) (h2 : WhIs ps step prime (6 - i) (1 + (i : Int)) h r) : WgJ ps step prime r m0 keep i (wgM m0 h th vp vg) keep
theorem whF_succ {ps : List (Int × Int)} {step prime r h : Int} {i : Nat} (hi : i < 6) (h2 : whF ps step prime (6 - i) (1 + (i : Int)) h = some r) :
    (whP ps (1 + (i : Int)) ((h * step).fmod prime) → (4 * (1 + (i : Int)) - (ps.getD (bis ps ((h * step).fmod prime, 0)) (0, 0)).2).fmod (prime - 1) = r) ∧
    (¬ whP ps (1 + (i : Int)) ((h * step).fmod prime) → whF ps step prime (6 - (i + 1)) (1 + ((i + 1 : Nat) : Int)) ((h * step).fmod prime) = some r) := by
  have e : 6 - i = (6 - (i + 1)) + 1 := by omega
  rw [e] at h2
  rw [whF_next] at h2
  constructor
  · intro hp
    rw [if_pos hp] at h2
    exact Option.some.inj h2
  · intro hp
    rw [if_neg hp] at h2
    rw [show (1 + ((i + 1 : Nat) : Int)) = 1 + (i : Int) + 1 by omega]
    exact h2
theorem WgJ.next {ps : List (Int × Int)} {step prime r : Int} {m0 : Str → Option Value} {keep : List (Addr × Obj)} {h h' v : Int} {th' : Tok} {vp' vg' : Option Value} {i : Nat} (hi : i < 6) (hp : 0 < prime) (h2 : WhIs ps step prime (6 - i) (1 + (i : Int)) h r)
    (hh : h' = (h * step).fmod prime) (hv : v = (bis ps (h', 0) : Int)) (no : ¬ (v < (ps.length : Int) ∧ (ps.getD v.toNat (0, 0)).1 = h' ∧ 4 * (1 + (i : Int)) ≥ (ps.getD v.toNat (0, 0)).2)) : WgJ ps step prime r m0 keep (i + 1) (wgM m0 h' th' vp' vg') keep := by
  subst hh hv
  refine WgJ.mk (Int.fmod_nonneg_of_pos _ hp) (Int.fmod_lt_of_pos _ hp) ⟨(whF_succ hi h2.eq).2 fun q => no ⟨by exact_mod_cast q.1, ?_, ?_⟩⟩
  · rw [Int.toNat_natCast]; exact q.2.1
  · rw [Int.toNat_natCast]; exact q.2.2
theorem wg_yes {ps : List (Int × Int)} {step prime r h h' v : Int} {i : Nat} (hi : i < 6) (h2 : WhIs ps step prime (6 - i) (1 + (i : Int)) h r)
    (hh : h' = (h * step).fmod prime) (hv : v = (bis ps (h', 0) : Int)) (a : v < (ps.length : Int)) (b : (ps.getD v.toNat (0, 0)).1 = h') (c : 4 * (1 + (i : Int)) ≥ (ps.getD v.toNat (0, 0)).2) :
    (4 * (1 + (i : Int)) - (ps.getD v.toNat (0, 0)).2).fmod (prime - 1) = r := by
  subst hh hv
  rw [Int.toNat_natCast] at b c ⊢
  exact (whF_succ hi h2.eq).1 ⟨by exact_mod_cast a, b, c⟩
theorem wg_loop {prog : Program} {w : World} {A : Around} {E : Value → Shared → Prop} {s : Shared} {env : Env} {h₀ : Heap} {v : Str} {body : List Stmt} {Q : Flow → Shared → Prop} {I : Addr}
    {ps : List (Int × Int)} {step prime r : Int} {m : Str → Option Value} {keep : List (Addr × Obj)} {th : Tok} {vp vg : Option Value} (h1 : m (Str.ofString "here") = some (.int 1 th)) (h2 : m (Str.ofString "place") = vp) (h3 : m (Str.ofString "great") = vg) (hp : 1 < prime)
    (hr : whF ps step prime 6 1 1 = some r)
    (turn : ∀ i m1 news, i < 6 → WgJ ps step prime r m keep i m1 news → ∀ t h tk, Fr h₀ env.locals h (fun y => if y = v then some (.int (1 + (i : Int)) t) else m1 y) → News h₀ env.locals h ((I, itR (1 + ((i + 1 : Nat) : Int)) (((6 : Nat) : Int) - ((i + 1 : Nat) : Int))) :: news) →
      wpAny (model prog w) A (execs body env) (UnrPost h₀ env.locals { s with heap := h, toks := tk } I (itR (1 + ((i + 1 : Nat) : Int)) (((6 : Nat) : Int) - ((i + 1 : Nat) : Int))) (WgJ ps step prime r m keep (i + 1)) Q) E { s with heap := h, toks := tk }) :
    RangeRest prog w A E h₀ env v body Q s I 1 6 6 0 m keep := by
  refine range_ind (WgJ ps step prime r m keep) turn (fun m1 news hJ => ?_) 6 0 _ _ rfl ?_
  · cases hJ with
    | mk h0 h1 h2 =>
      have e := h2.eq
      rw [show 6 - 6 = 0 from rfl] at e
      rw [whF_zero] at e
      cases e
  · have h : WgJ ps step prime r m keep 0 (wgM m 1 th vp vg) keep := WgJ.mk (by decide) hp ⟨hr⟩
    rw [← wgM_init h1 h2 h3] at h
    exact h
end
section
section
local macro_rules | `(tactic| walk_at "exec For") => `(tactic| (k_here; (rename Fr _ _ _ _ => lF'); (with_unfolding_all refine' For_invVF lF' ?k1 ?k2 ?_; (case k1 | k2 => exact rfl); k_whole)))
local macro_rules | `(tactic| walk_at "MINE idmw") => `(tactic| walk_at "MINE h1")
local macro_rules | `(tactic| walk_at "pyIter ref") => `(tactic| ((with_reducible refine gd_it ?_); k_rangeUnr))
local macro_rules | `(tactic| walk_at "MINE rm") => `(tactic| first | (refine' Rm.tl ?h; (case h => k_all)) | (refine' Rm.hit ?b; (case b => walk_at "MINE rm")) | (refine' Rm.miss ?a ?b; (case a => (refine neN ?_; (try dsimp only); first | done | omega)); (case b => walk_at "MINE rm")))
local macro_rules | `(tactic| walk_at "call ref") => `(tactic| (k_here; (with_reducible refine gd_f 81 ?_); k_dflt (apply lp_use; walk_at "MINE cb"; (case hw => assumption); (case hs => walk_at "MINE sub"); (case hx | hx2 | hn | hn2 | hy | hy2 => omega); k_whole); intro _ _ _ _ _ _ _ _ _; (try dsimp only); (try k_fold)))
local macro_rules | `(tactic| walk_at "call ref") => `(tactic| (k_here; (with_reducible refine gd_f 56 ?_); walk_at "MINE idmw"))
local macro_rules | `(tactic| walk_at "call ref") => `(tactic| (k_here; (with_reducible refine gd_f 65 ?_); k_dflt (apply ins_use; walk_at "MINE ca"; (case hl => k_mem); (case R => walk_at "MINE rm"); (case hP => (refine' PairsIn.mono ?sb ?hh; (case hh => assumption); (case sb => walk_at "MINE sub"))); (case hlen => (first | omega | (rw [ordP_len]; omega))); (case hxa => k_mem); k_whole); intro _ _ _ _ _ _ _; (try dsimp only); (try k_fold)))
local macro_rules | `(tactic| walk_at "MINE warm") => `(tactic| (intro q9 hq9; (have hq8 := sub9 q9 hq9); revert q9; walk_at "MINE sub"))
local macro_rules | `(tactic| walk_at "call builtin:len") => `(tactic| (k_here; (with_reducible refine gd_r ?_); k_dflt (refine' len_pair ?N ?m ?I ?f ?_; (case N => k_asm); (case m => k_mem); (case I => (refine' PairsIn.mono ?sb ?hh; (case hh => assumption); (case sb => walk_at "MINE sub"))); (case f => omega))))
local macro_rules | `(tactic| walk_at "subscriptTail") => `(tactic| (k_here; (with_reducible refine gd_sN ?_); k_dflt (refine' sub_pair ?k1 ?k2 ?k3 ?k4 ?k5 ?k6 ?_ ?k7; (case k1 => k_asm); (case k2 => k_mem); (case k3 => (refine' PairsIn.mono ?sb ?hh; (case hh => assumption); (case sb => walk_at "MINE sub"))); (case k4 | k5 | k6 => omega); (case k7 => with_unfolding_all rfl)); intro _ _ _ _; (try dsimp only)))
local macro_rules | `(tactic| walk_at "call ref") => `(tactic| (k_here; (with_reducible refine gd_f 74 ?_); k_dflt (apply bl2_use; walk_at "MINE ca"; (case hl => k_mem); (case hP => (refine' PairsIn.mono ?sb ?hh; (case hh => assumption); (case sb => walk_at "MINE sub"))); (case hlen => omega); (case hxa => k_mem); k_whole); intro _ _ _ _ _ _ _; (try dsimp only); (try k_fold)))
local macro_rules | `(tactic| walk_at "MINE idm1") => `(tactic| (refine' (mul_bnd (y := 4) ?_ ?_ ?_ ?_ ?_ ?_).1 <;> omega))
local macro_rules | `(tactic| walk_at "MINE idm2") => `(tactic| (refine' (mul_bnd ?_ ?_ ?_ ?_ ?_ ?_).2 <;> omega))
set_option rowWalk.seconds 0 in
theorem which_ok (w : World) (p : Program) (loose : List Str) (mean : ExcName → Option Value) (mg mb : Str → Option Value)
  (gd : Option (List Code)) (cn : Str) (cs : Scope) (a : Addr) (ccd : Value) (cl : List (Str × Addr)) (outer : List Env) (A₀ : Around) (base h₀ : Heap) (L : Addr) (m : Str → Option Value) (s : Shared) (Q E : Value → Shared → Prop)
  (x n y r : Int) (tx tn ty : Tok) (news wl : List (Addr × Obj)) :
  (Mine.hd.heap_39 w.params).In h₀ →
  Below A₀ base outer h₀ → CodeHd base 34 30 → CodeHd base 41 37 → Fr h₀ L s.heap m → News h₀ L s.heap news → Warm wl → (∀ p ∈ wl, p ∈ news) → Top p loose mean mg mb h₀ →
  cs.kind = .function → 0 ≤ x → x ≤ 16 → 0 ≤ n → n < 16 → 4 ≤ y → y ≤ 16 → WhichIs x n y r →
  (∀ v t h' tk', Fr h₀ L h' m → News h₀ L h' news → v = r → Q (.int v t) { s with heap := h', toks := tk' }) →
  wpAny (model Challenge.rw_hl0003_01.row.prog w) (ktrTop 370 940 gd cn cs L a ccd cl outer) (call (.ref 88) [.int x tx, .int n tn, .int y ty]) Q E s := by
  k_fill
  intro X B C1 C2 F N hw hs T hk hx hx2 hn hn2 hy hy2 hr hret
  refine wpAny_call ?_
  k_dflt cell_enter
  iterate 18 walk1
  k_dflt (refine' ws_loop (number := n) (base := x) (prime := y) ?zzh1 ?zzho ?zzhi ?zzstep ?zzfin; (case zzh1 => exact rfl); (case zzho => k_all); (case zzhi => k_all))
  case zzstep =>
    intro i m1 news1 hi hJ t h tk F N
    cases hJ with
    | @mk v vs e _ kp j1 sub9 j3 j4 =>
      have hol := ordP_len n x y i
      have hws : ∀ p ∈ wl, p ∈ kp := fun p h => sub9 p (hs p h)
      k_steps
      refine' ws_end ?zzF ?zzN (whM_step _ _ _) ?zzhI ?zzhc ?zzR ?zzoff ?zzP ?zzhr ?zzhx ?zzsub
      case zzF => k_asm
      case zzN => k_asm
      case zzhI => k_mem
      case zzhc => simp [itR]
      case zzR => walk_at "MINE rm"
      case zzoff => k_all
      case zzP => assumption
      case zzhr => assumption
      case zzhx => assumption
      case zzsub => walk_at "MINE sub"
  case zzfin =>
    intro m1 news1 hJ h tk F N
    cases hJ with
    | @mk v vs e _ kp j1 sub9 j3 j4 =>
      have hol := ordP_len n x y 4
      have hws : ∀ p ∈ wl, p ∈ kp := fun p h => sub9 p (hs p h)
      iterate 41 walk1
      rename _ = lpv _ _ _ => elp
      subst elp
      k_dflt (refine' wg_loop (ps := ordP n x y 4) (step := lpv x 4 y) (prime := y) (r := r) ?zzh1 ?zzh2 ?zzh3 (by omega) hr.wh ?zzturn; (case zzh1 => exact rfl); (case zzh2 => exact rfl); (case zzh3 => exact rfl))
      intro i m1 news1 hi hJ t h tk F N
      cases hJ with
      | @mk h th vp vg _ b0 b1 b2 =>
        k_steps
        · refine' hret _ _ _ _ ?zzF ?zzN ?zze
          case zzF => k_asm
          case zzN => walk_at "MINE drop"
          case zze =>
            refine' wg_yes hi b2 ?zza ?zzb ?zzc ?zzd ?zzf
            case zza => assumption
            case zzb => assumption
            case zzc => assumption
            case zzd => assumption
            case zzf => assumption
        all_goals
          refine' unrEnd_eqS ?zzF ?zzN (wgM_step _ _ _ _ _ _ _ _ _) ?zzS ?zzO (WgJ.next hi (by omega) b2 ?zzhh ?zzhv ?zzno)
          case zzF => k_asm
          case zzN => k_asm
          case zzS => walk_at "MINE sub"
          case zzO => k_all
          case zzhh => assumption
          case zzhv => assumption
          case zzno => omega
end
theorem which_use {w : World} {p : Program} {loose : List Str} {mean : ExcName → Option Value} {mg mb : Str → Option Value}
  {dp un : Nat} {gd : Option (List Code)} {cn : Str} {cs : Scope} {a : Addr} {ccd : Value} {cl : List (Str × Addr)} {outer : List Env} {A₀ : Around} {base h₀ : Heap} {L : Addr} {m : Str → Option Value} {s : Shared} {Q E : Value → Shared → Prop}
  {x n y : Int} (r : Int) {tx tn ty : Tok} {news wl : List (Addr × Obj)} (hdp : dp ≤ 370) (hun : un ≤ 940)
  (X : (Mine.hd.heap_39 w.params).In h₀) (B : Below A₀ base outer h₀) (C1 : CodeHd base 34 30) (C2 : CodeHd base 41 37) (F : Fr h₀ L s.heap m) (N : News h₀ L s.heap news) (hw : Warm wl) (hs : ∀ p ∈ wl, p ∈ news) (T : Top p loose mean mg mb h₀)
  (hk : cs.kind = .function) (hx : 0 ≤ x) (hx2 : x ≤ 16) (hn : 0 ≤ n) (hn2 : n < 16) (hy : 4 ≤ y) (hy2 : y ≤ 16) (hr : WhichIs x n y r)
  (ret : ∀ v t h' tk', Fr h₀ L h' m → News h₀ L h' news → v = r → Q (.int v t) { s with heap := h', toks := tk' }) :
  wpAny (model Challenge.rw_hl0003_01.row.prog w) (ktrTop dp un gd cn cs L a ccd cl outer) (call (.ref 88) [.int x tx, .int n tn, .int y ty]) Q E s :=
  wp_room (which_ok w p loose mean mg mb gd cn cs a ccd cl outer A₀ base h₀ L m s Q E x n y r tx tn ty news wl X B C1 C2 F N hw hs T hk hx hx2 hn hn2 hy hy2 hr ret) hdp hun
end
section
section
variable {prog : Program} {w : World} {A : Around} {E : Value → Shared → Prop} {s : Shared} {env : Env} {h₀ : Heap} {x : Str} {body : List Stmt} {Q : Flow → Shared → Prop}
/-- a loop over a list of the ledger, by what holds of what is left; the iterator's cell is told whole -/
theorem iter_listJ {ax : Addr} {lo : Obj} {vs : List Value} {n : Nat} {m₀ : Str → Option Value} {news : List (Addr × Obj)} (J : Addr → List Value → (Str → Option Value) → List (Addr × Obj) → Prop)
    (hh : A.handled = none) (F : Fr h₀ env.locals s.heap m₀) (N : News h₀ env.locals s.heap news) (hm : (ax, lo) ∈ news) (hc : lo.cls = .type "list") (hd : lo.data = .seq vs.toArray n)
    (init : ∀ I : Addr, (∀ p ∈ news, p.1 < I) → J I vs m₀ news)
    (step : ∀ I v r m₁ news₁, J I (v :: r) m₁ news₁ → (ax, lo) ∈ news₁ → ∀ (it : Obj) h tk (k : Nat), it.data = .fields #[.ref ax, .int k 0] → Fr h₀ env.locals h (fun y => if y = x then some v else m₁ y) → News h₀ env.locals h ((I, it) :: news₁) →
      wpAny (model prog w) A (execs body env) (UnrPost h₀ env.locals { s with heap := h, toks := tk } I it (fun m' n' => (ax, lo) ∈ n' ∧ J I r m' n') Q) E { s with heap := h, toks := tk })
    (fin : ∀ I m₁ news₁, J I [] m₁ news₁ → ∀ h tk, Fr h₀ env.locals h m₁ → News h₀ env.locals h news₁ → Q .next { s with heap := h, toks := tk }) :
    wpAny (model prog w) A (pyIter (.ref ax)) (fun it s₂ => LoopAtV prog w A h₀ env x body Q E it s₂) E s := by
  have hax := N _ hm
  have hl : s.heap.IsList ax vs.toArray := ⟨lo, hax.1, hc, n, hd⟩
  have hne : ax ≠ s.heap.objs.size := Nat.ne_of_lt (Heap.lt_size hax.1)
  refine wpAny_pyIter_list hl ?_
  have W := Walks.list (prog := prog) (w := w) hh s.heap.objs.size ax hne vs.toArray
  have hnew := next_is_new F
  rw [show vs.toArray.size = vs.length by simp] at W
  refine ⟨_, _, _, vs.length, _, _, m₀, news, fun i m₁ news₁ => (ax, lo) ∈ news₁ ∧ J s.heap.objs.size (vs.drop i) m₁ news₁, rfl, W, ?_, ?_, ?_, ⟨⟨_, Heap.get?_push_size _ rfl, rfl, rfl⟩, hl.at fun o e => Heap.get?_push_of_some _ e⟩, F.push _, (fun p hp => ⟨Heap.get?_push_of_some _ (N p hp).1, (N p hp).2⟩), ⟨hm, by rw [List.drop_zero]; exact init _ fun p hp => Heap.lt_size (N p hp).1⟩, ?_, ?_⟩
  · intro q
    rcases List.mem_cons.mp q with e | q
    · exact absurd F.ns.lt (e ▸ Nat.lt_irrefl _)
    · exact hax.2.1 (List.mem_singleton.mp q).symm
  · intro b hb
    rw [List.mem_singleton.mp hb]
    exact hnew
  · intro p hp q
    exact absurd (Heap.lt_size (N p hp).1) ((List.mem_singleton.mp q) ▸ Nat.lt_irrefl _)
  · rintro i v m₁ news₁ s₁ own ⟨h1, tk1, rfl⟩ hin hP ⟨hmem, hJ⟩ hoff hown hget hall hst F₁ N₁
    obtain ⟨it, hit, hic, hid⟩ := hst.1
    have hmI := hall s.heap.objs.size (List.mem_cons_self ..) hnew _ hit
    have hi' : i < vs.length := hin
    have hdrop : vs.drop i = v :: vs.drop (i + 1) := by
      have hv : vs[i]? = some v := by simpa using hP
      rw [List.drop_eq_getElem_cons hi']
      congr 1
      exact Option.some.inj ((List.getElem?_eq_getElem hi').symm.trans hv)
    rw [hdrop] at hJ
    have N₂ : News h₀ env.locals h1 ((s.heap.objs.size, it) :: news₁) := fun p hp => by
      rcases List.mem_cons.mp hp with rfl | hp
      · exact N₁ _ (List.mem_append_left _ hmI)
      · exact N₁ _ (List.mem_append_right _ hp)
    refine wpAny_mono (step _ v _ m₁ news₁ hJ hmem it h1 tk1 _ hid F₁ N₂) (fun f s₂ p => ?_) fun _ _ e => e
    have conv : UnrEnd h₀ env.locals { s with heap := h1, toks := tk1 } s.heap.objs.size it (fun m' n' => (ax, lo) ∈ n' ∧ J s.heap.objs.size (vs.drop (i + 1)) m' n') s₂ →
        LoopStepU h₀ env.locals [s.heap.objs.size] own (fun m₁ news₁ => (ax, lo) ∈ news₁ ∧ J s.heap.objs.size (vs.drop (i + 1)) m₁ news₁) { s with heap := h1, toks := tk1 } .next s₂ := by
      rintro ⟨h2, tk2, m2, n2, e, F2, N2, ho, hm2, r⟩
      refine ⟨rfl, h2, tk2, m2, n2, e, F2, fun p hp => ?_, fun p hp q => ho p hp (List.mem_singleton.mp q), hm2, r⟩
      rcases List.mem_append.mp hp with hp | hp
      · have g2 : h1.get? p.1 = some p.2 := hget p hp
        rcases List.mem_cons.mp (hown p hp) with g1 | g1
        · rw [g1, hit] at g2
          rw [show p = (s.heap.objs.size, it) from Prod.ext g1 (Option.some.inj g2).symm]
          exact N2 _ (List.mem_cons_self ..)
        · have g3 : p.1 = ax := List.mem_singleton.mp g1
          rw [g3, (N₁ _ (List.mem_append_right _ hmem)).1] at g2
          rw [show p = (ax, lo) from Prod.ext g3 (Option.some.inj g2).symm]
          exact N2 _ (List.mem_cons_of_mem _ hm2)
      · exact N2 _ (List.mem_cons_of_mem _ hp)
    cases f with
    | ret v => exact .ret p
    | brk => exact .brk p
    | next => exact .next (conv p)
    | cont => exact .cont (conv p)
  · rintro h1 tk1 m1 n1 F1 N1 _ ⟨_, hJ⟩
    rw [List.drop_length] at hJ
    exact fin _ m1 n1 hJ h1 tk1 F1 N1
end
/-- a code record is no iterator -/
theorem code_ne_it {h₀ h : Heap} {L c I ax : Addr} {news : List (Addr × Obj)} {oc it : Obj} {cvs : Array Value} {q : Str} {t : Tok} {k : Nat} (N : News h₀ L h news) (hc : (c, oc) ∈ news) (hd : oc.data = .fields cvs) (hv : cvs[1]? = some (.str q t)) (hI : (I, it) ∈ news) (hi : it.data = .fields #[.ref ax, .int k 0]) : c ≠ I := fun e => by
  subst e
  have e1 := (N _ hc).1
  rw [(N _ hI).1] at e1
  have e2 : it = oc := Option.some.inj e1
  subst e2
  rw [hi] at hd
  have e3 := Data.fields.inj hd
  subst e3
  simp at hv
section
variable {prog : Program} {w : World} {A : Around} {E : Value → Shared → Prop} {s : Shared} {env : Env} {h₀ : Heap} {x : Str} {body : List Stmt} {Q : Flow → Shared → Prop}
/-- a loop over a list of one -/
theorem iter_list1 {ax : Addr} {lo : Obj} {v : Value} {n : Nat} {m₀ : Str → Option Value} {news : List (Addr × Obj)}
    (hh : A.handled = none) (F : Fr h₀ env.locals s.heap m₀) (N : News h₀ env.locals s.heap news) (hm : (ax, lo) ∈ news) (hc : lo.cls = .type "list") (hd : lo.data = .seq (List.toArray [v]) n)
    (one : ∀ I : Addr, (∀ p ∈ news, p.1 < I) → ∀ (it : Obj) h tk (k : Nat), it.data = .fields #[.ref ax, .int k 0] → Fr h₀ env.locals h (fun y => if y = x then some v else m₀ y) → News h₀ env.locals h ((I, it) :: news) →
      wpAny (model prog w) A (execs body env) (UnrPost h₀ env.locals { s with heap := h, toks := tk } I it (fun m' n' => (ax, lo) ∈ n' ∧ ∀ h tk, Fr h₀ env.locals h m' → News h₀ env.locals h n' → Q .next { s with heap := h, toks := tk }) Q) E { s with heap := h, toks := tk }) :
    wpAny (model prog w) A (pyIter (.ref ax)) (fun it s₂ => LoopAtV prog w A h₀ env x body Q E it s₂) E s := by
  refine iter_listJ (fun I l m1 n1 => (l = [v] ∧ m1 = m₀ ∧ n1 = news ∧ ∀ p ∈ news, p.1 < I) ∨ (l = [] ∧ ∀ h tk, Fr h₀ env.locals h m1 → News h₀ env.locals h n1 → Q .next { s with heap := h, toks := tk })) hh F N hm hc hd (fun I h => .inl ⟨rfl, rfl, rfl, h⟩) ?_ ?_
  · rintro I v' r m1 n1 (⟨e, rfl, rfl, hI⟩ | ⟨e, _⟩) hmem it h tk k hd' F1 N1
    · obtain ⟨rfl, rfl⟩ := List.cons.inj e
      refine wpAny_mono (one I hI it h tk k hd' F1 N1) (fun f s₂ p => ?_) fun _ _ e => e
      have conv : ∀ {s₂ : Shared}, UnrEnd h₀ env.locals { s with heap := h, toks := tk } I it (fun m' n' => (ax, lo) ∈ n' ∧ ∀ h tk, Fr h₀ env.locals h m' → News h₀ env.locals h n' → Q .next { s with heap := h, toks := tk }) s₂ → _ :=
        fun {s₂} (q : UnrEnd h₀ env.locals { s with heap := h, toks := tk } I it (fun m' n' => (ax, lo) ∈ n' ∧ ∀ h tk, Fr h₀ env.locals h m' → News h₀ env.locals h n' → Q .next { s with heap := h, toks := tk }) s₂) =>
        let ⟨h', tk', m', n', e, F', N', o, l, j⟩ := q
        show UnrEnd h₀ env.locals { s with heap := h, toks := tk } I it (fun m' n' => (ax, lo) ∈ n' ∧ (((([] : List Value) = [v'] ∧ m' = m1 ∧ n' = n1 ∧ ∀ p ∈ n1, p.1 < I) ∨ (([] : List Value) = [] ∧ ∀ h tk, Fr h₀ env.locals h m' → News h₀ env.locals h n' → Q .next { s with heap := h, toks := tk })))) s₂ from
        ⟨h', tk', m', n', e, F', N', o, l, .inr ⟨rfl, j⟩⟩
      cases f with
      | ret v => exact p
      | brk => exact p
      | next => exact conv p
      | cont => exact conv p
    · exact nomatch e
  · rintro I m1 n1 (⟨e, _⟩ | ⟨_, q⟩) h tk F1 N1
    · exact nomatch e
    · exact q h tk F1 N1
end
end
local macro_rules | `(tactic| walk_at "MINE h2") => `(tactic| first | (refine' Rm.tl ?h; (case h => k_all)) | (refine' Rm.hit ?b; (case b => walk_at "MINE rm")) | (refine' Rm.miss ?a ?b; (case a => first | assumption | (refine neN ?_; (try dsimp only); first | done | omega) | exact code_ne (by assumption) (by k_mem) (by assumption) (by assumption) (by k_mem) (hotT (by assumption)) | exact code_ne (by assumption) (by k_mem) (by assumption) (by assumption) (by k_mem) (.inr ⟨_, _, _, rfl⟩)); (case b => walk_at "MINE rm")))
section
structure ItOf (it : Obj) (ax : Addr) (k : Nat) : Prop where
  eq : it.data = .fields #[.ref ax, .int k 0]
local macro_rules | `(tactic| walk_at "MINE rm") => `(tactic| walk_at "MINE h2")
local macro_rules | `(tactic| walk_at "MINE hot") => `(tactic| first | (refine' hotUp ?h ?s; (case h => assumption); (case s => walk_at "MINE sub")) | (refine' Or.inr ⟨_, _, _, _, rfl, ?m, ?f1, ?f2⟩; (case f1 | f2 => assumption); (case m => k_mem)))
local macro_rules | `(tactic| walk_at "exec For") => `(tactic| (k_here; (rename Fr _ _ _ _ => lF'); (with_unfolding_all refine' For_invVF lF' ?k1 ?k2 ?_; (case k1 | k2 => exact rfl); k_whole)))
local macro_rules | `(tactic| walk_at "pyIter ref") => `(tactic| walk_at "MINE h0")
theorem ints_one {v : List Value} {a : Int} (h : IntsAre v [a]) : ∃ t, v = [.int a t] := by
  obtain ⟨t, vs, rfl, h2⟩ := ints_inv1 h
  obtain rfl := ints_inv0 h2
  exact ⟨t, rfl⟩
theorem digs00 : digs (Int.toNat 1) (((Builtin.Int.intBits 0 : Int) + 1 - 1).fdiv 1).toNat (0 : Int).toNat = [] := by decide
theorem digs11 : digs (Int.toNat 1) (((Builtin.Int.intBits 1 : Int) + 1 - 1).fdiv 1).toNat (1 : Int).toNat = [1] := by decide
section
local macro_rules | `(tactic| walk_at "call ref") => `(tactic| (k_here; k_dflt (apply i2d_use; walk_at "MINE cc"; (case hm => k_mem); (case R => walk_at "MINE rm"); (case hst => walk_at "MINE hot"); (case hx | hx2 | hn | hn2 => walk_at "MINE arith"); k_whole); intro _ _ _ _ _ _ _ _ _ _ _ _ _ _ l1 l30 _ _ _ hns; (try (rw [digs00] at hns; subst hns)); (try (rw [digs11] at hns; subst hns)); (try k_lt l1); (try k_lt2 l30); (try dsimp only); (try k_fold)))
set_option rowWalk.seconds 0 in
theorem lp0_ok (w : World) (p : Program) (loose : List Str) (mean : ExcName → Option Value) (mg mb : Str → Option Value)
  (gd : Option (List Code)) (cn : Str) (cs : Scope) (a : Addr) (ccd : Value) (cl : List (Str × Addr)) (outer : List Env) (A₀ : Around) (base h₀ : Heap) (L : Addr) (m : Str → Option Value) (s : Shared) (Q E : Value → Shared → Prop)
  (x y : Int) (tx tn ty : Tok) (o30 : Obj) (keep : List (Addr × Obj)) :
  (Mine.hd.heap_39 w.params).In h₀ →
  Below A₀ base outer h₀ → CodeHd base 34 30 → Fr h₀ L s.heap m → News h₀ L s.heap ((30, o30) :: keep) → (∀ p ∈ keep, p.1 ≠ 30) →
  (o30 = tabObj #[] ∨ Hot 32 4 "_int2digits.<locals>.inner" o30 keep) → Top p loose mean mg mb h₀ → cs.kind = .function →
  (∀ v t c oc cvs u h' tk', Fr h₀ L h' m → News h₀ L h' ((c, oc) :: (30, T3 32 4 c) :: keep) → oc.data = .fields cvs → cvs[1]? = some (.str "_int2digits.<locals>.inner" u) → Born o30 32 4 c keep → v = 1 → Q (.int v t) { s with heap := h', toks := tk' }) →
  wpAny (model Challenge.rw_hl0003_01.row.prog w) (ktrTop 380 960 gd cn cs L a ccd cl outer) (call (.ref 81) [.int x tx, .int 0 tn, .int y ty]) Q E s := by
  k_fill
  intro X B C1 F N h30 hst T hk hret
  refine wpAny_call ?_
  k_dflt cell_enter
  iterate 28 walk1
  rename IntsAre _ (List.reverse _) => hw9
  obtain rfl := ints_inv0 hw9
  refine ListRest.zero (fun h tk F N => ?_)
  k_steps
  refine' hret _ _ _ _ _ _ _ _ ?zzF ?zzN ?zzf1 ?zzf2 ?zzb ?zze
  case zzf1 => assumption
  case zzf2 => assumption
  case zzF => k_asm
  case zzN => walk_at "MINE drop"
  case zzb => exact Born.mono (by assumption) (by walk_at "MINE sub")
  case zze => rfl
end
theorem idm_use {w : World} {p : Program} {loose : List Str} {mean : ExcName → Option Value} {mg mb : Str → Option Value}
  {dp un : Nat} {gd : Option (List Code)} {cn : Str} {cs : Scope} {a : Addr} {ccd : Value} {cl : List (Str × Addr)} {outer : List Env} {A₀ : Around} {base h₀ : Heap} {L : Addr} {m : Str → Option Value} {s : Shared} {Q E : Value → Shared → Prop}
  {x y : Int} {tx ty : Tok} {o30 o37 : Obj} {news k1 rest : List (Addr × Obj)} (hdp : dp ≤ 390) (hun : un ≤ 980)
  (X : (Mine.hd.heap_39 w.params).In h₀) (B : Below A₀ base outer h₀) (C1 : CodeHd base 34 30) (C2 : CodeHd base 41 37) (F : Fr h₀ L s.heap m) (N : News h₀ L s.heap news) (hm : (30, o30) ∈ news) (hm7 : (37, o37) ∈ news) (R : Rm 30 news k1) (R7 : Rm 37 k1 rest)
  (hst : o30 = tabObj #[] ∨ Hot 32 4 "_int2digits.<locals>.inner" o30 rest) (hst7 : o37 = tabObj #[] ∨ Hot 47 4 "_digits2int.<locals>.inner" o37 rest) (T : Top p loose mean mg mb h₀)
  (hk : cs.kind = .function) (hx2 : mag x < 2 ^ 20) (hy : 0 < y) (hy2 : y < 2 ^ 20) (hD : ((Builtin.Int.intBits (mag x) : Int) + Builtin.Int.intBits y - 1).fdiv (Builtin.Int.intBits y) ≤ 4)
  (ret : ∀ d q r t1 t2 c oc cvs t c7 oc7 cvs7 t7 h' tk', Fr h₀ L h' m → News h₀ L h' ((d, tup2 (.int q t1) (.int r t2)) :: (c7, oc7) :: (37, T3 47 4 c7) :: (c, oc) :: (30, T3 32 4 c) :: rest) →
    oc.data = .fields cvs → cvs[1]? = some (.str "_int2digits.<locals>.inner" t) → oc7.data = .fields cvs7 → cvs7[1]? = some (.str "_digits2int.<locals>.inner" t7) → (∀ p ∈ rest, p.1 < d) → @LT.lt Nat _ 37 d → c ≠ d → c7 ≠ d →
    Born o30 32 4 c rest → Born o37 47 4 c7 rest → q = x.fdiv y → r = x.fmod y → Q (.ref d) { s with heap := h', toks := tk' }) :
  wpAny (model Challenge.rw_hl0003_01.row.prog w) (ktrTop dp un gd cn cs L a ccd cl outer) (call (.ref 56) [.int x tx, .int y ty]) Q E s :=
  wp_room (idm_ok w p loose mean mg mb gd cn cs a ccd cl outer A₀ base h₀ L m s Q E x y tx ty o30 o37 rest X B C1 C2 F (fun q hq => by
      rcases List.mem_cons.mp hq with rfl | hq
      · exact N _ hm
      · rcases List.mem_cons.mp hq with rfl | hq
        · exact N _ hm7
        · exact N _ (R.ok.1 _ (R7.ok.1 _ hq))) (fun q hq => R.ok.2 _ (R7.ok.1 _ hq)) R7.ok.2 hst hst7 T hk hx2 hy hy2 hD ret) hdp hun
theorem lp1_x {x y : Int} : (1 * 1 * x : Int) = x := by omega
section
local macro_rules | `(tactic| walk_at "call ref") => `(tactic| (k_here; k_dflt (apply i2d_use; walk_at "MINE cc"; (case hm => k_mem); (case R => walk_at "MINE rm"); (case hst => walk_at "MINE hot"); (case hx | hx2 | hn | hn2 => walk_at "MINE arith"); k_whole); intro _ _ _ _ _ _ _ _ _ _ _ _ _ _ l1 l30 _ _ _ hns; (try (rw [digs00] at hns; subst hns)); (try (rw [digs11] at hns; subst hns)); (try k_lt l1); (try k_lt2 l30); (try dsimp only); (try k_fold)))
set_option rowWalk.seconds 0 in
theorem lp1_ok (w : World) (p : Program) (loose : List Str) (mean : ExcName → Option Value) (mg mb : Str → Option Value)
  (gd : Option (List Code)) (cn : Str) (cs : Scope) (a : Addr) (ccd : Value) (cl : List (Str × Addr)) (outer : List Env) (A₀ : Around) (base h₀ : Heap) (L : Addr) (m : Str → Option Value) (s : Shared) (Q E : Value → Shared → Prop)
  (x y : Int) (tx tn ty : Tok) (o30 o37 : Obj) (keep : List (Addr × Obj)) :
  (Mine.hd.heap_39 w.params).In h₀ →
  Below A₀ base outer h₀ → CodeHd base 34 30 → CodeHd base 41 37 → Fr h₀ L s.heap m → News h₀ L s.heap ((30, o30) :: (37, o37) :: keep) → (∀ p ∈ keep, p.1 ≠ 30) → (∀ p ∈ keep, p.1 ≠ 37) →
  (o30 = tabObj #[] ∨ Hot 32 4 "_int2digits.<locals>.inner" o30 keep) → (o37 = tabObj #[] ∨ Hot 47 4 "_digits2int.<locals>.inner" o37 keep) → Top p loose mean mg mb h₀ → cs.kind = .function →
  mag (1 * 1 * x) < 2 ^ 20 → 0 < y → y < 2 ^ 20 → ((Builtin.Int.intBits (mag (1 * 1 * x)) : Int) + Builtin.Int.intBits y - 1).fdiv (Builtin.Int.intBits y) ≤ 4 →
  (∀ v t c oc cvs u c7 oc7 cvs7 u7 h' tk', Fr h₀ L h' m → News h₀ L h' ((c7, oc7) :: (37, T3 47 4 c7) :: (c, oc) :: (30, T3 32 4 c) :: keep) → oc.data = .fields cvs → cvs[1]? = some (.str "_int2digits.<locals>.inner" u) →
    oc7.data = .fields cvs7 → cvs7[1]? = some (.str "_digits2int.<locals>.inner" u7) → Born o30 32 4 c keep → Born o37 47 4 c7 keep → v = (1 * 1 * x).fmod y → Q (.int v t) { s with heap := h', toks := tk' }) →
  wpAny (model Challenge.rw_hl0003_01.row.prog w) (ktrTop 380 960 gd cn cs L a ccd cl outer) (call (.ref 81) [.int x tx, .int 1 tn, .int y ty]) Q E s := by
  k_fill
  intro X B C1 C2 F N h30 h37 hst hst7 T hk g1 g2 g3 g4 hret
  refine wpAny_call ?_
  k_dflt cell_enter
  iterate 27 walk1
  rename IntsAre _ (List.reverse _) => hw9
  rename Born _ _ _ _ _ => hbA
  obtain ⟨t, rfl⟩ := ints_one hw9
  k_dflt (refine' iter_list1 ?zzhh ?zzF ?zzN ?zzm ?zzc ?zzd ?zzone; (case zzhh => exact rfl); (case zzF => k_asm); (case zzN => k_asm); (case zzm => k_mem); (case zzc => exact rfl); (case zzd => exact rfl))
  intro I hI it h tk k hit F N
  k_lt hI
  have hit2 := ItOf.mk hit
  clear hit
  iterate 25 walk1
  refine' idm_use ?zzd1 ?zzd2 ?zzk3 ?zzk1 ?zzkc ?zzkc2 ?zzk2 ?zzk4 ?zzhm ?zzhm7 ?zzR ?zzR7 ?zzhst ?zzhst7 ?zzk5 ?zzkK ?zzg1 ?zzg2 ?zzg3 ?zzg4 ?zzzz
  (case zzd1 => exact Nat.le_of_ble_eq_true rfl); (case zzd2 => exact Nat.le_of_ble_eq_true rfl); (case zzk1 => k_asm); (case zzk2 => k_asm); (case zzk3 => k_asm); (case zzk4 => k_asm); (case zzk5 => k_asm); (case zzkc => assumption); (case zzkc2 => assumption); (case zzkK => exact rfl)
  case zzhm => k_mem
  case zzhm7 => k_mem
  case zzR => walk_at "MINE rm"
  case zzR7 => walk_at "MINE rm"
  case zzhst => walk_at "MINE hot"
  case zzhst7 => walk_at "MINE hot"
  case zzg1 => assumption
  case zzg2 => omega
  case zzg3 => omega
  case zzg4 => assumption
  case zzzz =>
    intro d9 q9 r9 t1 t2 c9 oc9 cv9 u9 c7 oc7 cv7 u7 h9 tk9 F9 N9 f1 f2 f3 f4 l1 l37 lc lc7 hcc hcc7 eq9 er9
    have n7 : c7 ≠ I := code_ne_it N9 (by k_mem) f3 f4 (by k_mem) hit2.eq
    have n9 : c9 ≠ I := code_ne_it N9 (by k_mem) f1 f2 (by k_mem) hit2.eq
    k_lt l1
    try k_lt2 l37
    try dsimp only
    try k_fold
    k_steps
    refine' unrEnd_rm ?zzF ?zzN ?zzhI ?zzR ⟨?zzlp, fun h tk F N => ?zznx⟩
    case zzF => k_asm
    case zzN => k_asm
    case zzhI => k_mem
    case zzR => walk_at "MINE rm"
    case zzlp => k_mem
    case zznx =>
      k_steps
      refine' hret _ _ _ _ _ _ _ _ _ _ _ _ ?zzF ?zzN ?zzf1 ?zzf2 ?zzf3 ?zzf4 ?zzb ?zzb7 ?zze
      case zzf1 => exact f1
      case zzf2 => exact f2
      case zzf3 => exact f3
      case zzf4 => exact f4
      case zzF => k_asm
      case zzN => walk_at "MINE drop"
      case zzb =>
        have e9 := hcc.1 _ rfl
        subst e9
        exact Born.mono hbA (by walk_at "MINE sub")
      case zzb7 => exact Born.mono hcc7 (by walk_at "MINE sub")
      case zze => assumption
end
end
section
theorem lp0_use {w : World} {p : Program} {loose : List Str} {mean : ExcName → Option Value} {mg mb : Str → Option Value}
  {dp un : Nat} {gd : Option (List Code)} {cn : Str} {cs : Scope} {a : Addr} {ccd : Value} {cl : List (Str × Addr)} {outer : List Env} {A₀ : Around} {base h₀ : Heap} {L : Addr} {m : Str → Option Value} {s : Shared} {Q E : Value → Shared → Prop}
  {x y : Int} {tx tn ty : Tok} {o30 : Obj} {news keep : List (Addr × Obj)} (hdp : dp ≤ 380) (hun : un ≤ 960)
  (X : (Mine.hd.heap_39 w.params).In h₀) (B : Below A₀ base outer h₀) (C1 : CodeHd base 34 30) (F : Fr h₀ L s.heap m) (N : News h₀ L s.heap news) (hm : (30, o30) ∈ news) (R : Rm 30 news keep)
  (hst : o30 = tabObj #[] ∨ Hot 32 4 "_int2digits.<locals>.inner" o30 keep) (T : Top p loose mean mg mb h₀) (hk : cs.kind = .function)
  (ret : ∀ v t c oc cvs u h' tk', Fr h₀ L h' m → News h₀ L h' ((c, oc) :: (30, T3 32 4 c) :: keep) → oc.data = .fields cvs → cvs[1]? = some (.str "_int2digits.<locals>.inner" u) → Born o30 32 4 c keep → v = 1 → Q (.int v t) { s with heap := h', toks := tk' }) :
  wpAny (model Challenge.rw_hl0003_01.row.prog w) (ktrTop dp un gd cn cs L a ccd cl outer) (call (.ref 81) [.int x tx, .int 0 tn, .int y ty]) Q E s :=
  wp_room (lp0_ok w p loose mean mg mb gd cn cs a ccd cl outer A₀ base h₀ L m s Q E x y tx tn ty o30 keep X B C1 F (fun q hq => by
      rcases List.mem_cons.mp hq with rfl | hq
      · exact N _ hm
      · exact N _ (R.ok.1 _ hq)) R.ok.2 hst T hk ret) hdp hun
theorem lp1_use {w : World} {p : Program} {loose : List Str} {mean : ExcName → Option Value} {mg mb : Str → Option Value}
  {dp un : Nat} {gd : Option (List Code)} {cn : Str} {cs : Scope} {a : Addr} {ccd : Value} {cl : List (Str × Addr)} {outer : List Env} {A₀ : Around} {base h₀ : Heap} {L : Addr} {m : Str → Option Value} {s : Shared} {Q E : Value → Shared → Prop}
  {x y : Int} {tx tn ty : Tok} {o30 o37 : Obj} {news k1 keep : List (Addr × Obj)} (hdp : dp ≤ 380) (hun : un ≤ 960)
  (X : (Mine.hd.heap_39 w.params).In h₀) (B : Below A₀ base outer h₀) (C1 : CodeHd base 34 30) (C2 : CodeHd base 41 37) (F : Fr h₀ L s.heap m) (N : News h₀ L s.heap news) (hm : (30, o30) ∈ news) (hm7 : (37, o37) ∈ news) (R : Rm 30 news k1) (R7 : Rm 37 k1 keep)
  (hst : o30 = tabObj #[] ∨ Hot 32 4 "_int2digits.<locals>.inner" o30 keep) (hst7 : o37 = tabObj #[] ∨ Hot 47 4 "_digits2int.<locals>.inner" o37 keep) (T : Top p loose mean mg mb h₀) (hk : cs.kind = .function)
  (g1 : mag (1 * 1 * x) < 2 ^ 20) (g2 : 0 < y) (g3 : y < 2 ^ 20) (g4 : ((Builtin.Int.intBits (mag (1 * 1 * x)) : Int) + Builtin.Int.intBits y - 1).fdiv (Builtin.Int.intBits y) ≤ 4)
  (ret : ∀ v t c oc cvs u c7 oc7 cvs7 u7 h' tk', Fr h₀ L h' m → News h₀ L h' ((c7, oc7) :: (37, T3 47 4 c7) :: (c, oc) :: (30, T3 32 4 c) :: keep) → oc.data = .fields cvs → cvs[1]? = some (.str "_int2digits.<locals>.inner" u) →
    oc7.data = .fields cvs7 → cvs7[1]? = some (.str "_digits2int.<locals>.inner" u7) → Born o30 32 4 c keep → Born o37 47 4 c7 keep → v = (1 * 1 * x).fmod y → Q (.int v t) { s with heap := h', toks := tk' }) :
  wpAny (model Challenge.rw_hl0003_01.row.prog w) (ktrTop dp un gd cn cs L a ccd cl outer) (call (.ref 81) [.int x tx, .int 1 tn, .int y ty]) Q E s :=
  wp_room (lp1_ok w p loose mean mg mb gd cn cs a ccd cl outer A₀ base h₀ L m s Q E x y tx tn ty o30 o37 keep X B C1 C2 F (fun q hq => by
      rcases List.mem_cons.mp hq with rfl | hq
      · exact N _ hm
      · rcases List.mem_cons.mp hq with rfl | hq
        · exact N _ hm7
        · exact N _ (R.ok.1 _ (R7.ok.1 _ hq))) (fun q hq => R.ok.2 _ (R7.ok.1 _ hq)) R7.ok.2 hst hst7 T hk g1 g2 g3 g4 ret) hdp hun
end
section
/-! a comprehension over a range with one test, whose name lies in a cell -/
noncomputable abbrev cellO (v : Option Value) : Obj := { cls := .type "cell", data := .cell v }
/-- the n whole numbers from a on that pass -/
noncomputable def filtR (f : Int → Bool) (a : Int) : Nat → List Int
  | 0 => []
  | n + 1 => if f (a + (n : Int)) = true then filtR f a n ++ [a + (n : Int)] else filtR f a n
@[irreducible] noncomputable def filt (f : Int → Bool) (a : Int) (n : Nat) : List Int := filtR f a n
theorem filt_zero (f : Int → Bool) (a : Int) : filt f a 0 = [] := by unfold filt; rfl
theorem filt_succ (f : Int → Bool) (a : Int) (n : Nat) : filt f a (n + 1) = if f (a + (n : Int)) = true then filt f a n ++ [a + (n : Int)] else filt f a n := by unfold filt; rfl
section
variable {prog : Program} {w : World} {A : Around} {E : Value → Shared → Prop} {s : Shared} {h₀ : Heap} {L : Addr} {m : Str → Option Value} {env : Env}
theorem cellEnv {scope : Scope} {cl : List (Str × Addr)} {x : Str} {Q : Env → Shared → Prop} (hcf : ∀ k, cellsFrom k scope.names cl = (x, k) :: cl) (hpc : ∀ h, pushCells h scope.names = h.push (cellO none))
    (h : Q (newEnv scope s.heap.objs.size env.globals ((x, s.heap.objs.size + 1) :: cl) env.qual none .none (some env) builtinsNs) { s with heap := (s.heap.push { cls := .type "dict", data := .dict #[] }).push (cellO none) }) :
    wpAny (model prog w) A (newFunctionEnv scope env.globals cl [] env.qual none .none (some env)) Q E s := by
  simp only [newFunctionEnv, Option.isSome_some, if_true]
  refine wpAny_bind (wpAny_alloc ?_)
  refine wpAny_bind (wpAny_layCells _ (fun name kind cells => by cases hkc : kind == NameKind.cell <;> simp [hkc]) _ _ _ _ ?_)
  rw [show ({ s with heap := s.heap.push { cls := .type "dict", data := .dict #[] } } : Shared).heap.objs.size = s.heap.objs.size + 1 from Heap.size_push .., hcf, hpc]
  refine wpAny_bind ?_
  rw [List.forIn_nil]
  exact wpAny_pure (wpAny_pure h)
theorem cell_block {ct iter : PySem.Expr} {x : Str} {px pe : Pos} {scope : Scope} {cl : List (Str × Addr)} {pos : Pos} {s₂ : Shared} {I : Addr} {a : Int} {n : Nat} {news : List (Addr × Obj)} {RR : Value → Addr → Result → Shared → Prop} (f : Int → Bool)
    (hh : A.handled = none) (hsz : n ≤ sizeLine) (hcf : ∀ k, cellsFrom k scope.names cl = (x, k) :: cl) (hpc : ∀ h, pushCells h scope.names = h.push (cellO none))
    (hkind : scope.kind = .function) (hx : ∀ C c, (compEnvC scope ((x, c) :: cl) C env).kindOf x = some .cell) (hdb : (x == ("__debug__" : Str)) = false)
    (hst : IsRangeIter s₂.heap I (a + ((0 : Nat) : Int) * 1) ((n : Int) - ((0 : Nat) : Int)) 1)
    (F : Fr h₀ L s₂.heap m) (N : News h₀ L s₂.heap news) (hIL : L ≠ I) (hI₀ : h₀.get? I = none) (off : ∀ p ∈ news, p.1 ≠ I)
    (turn : ∀ (i : Nat) (t : Tok) (I C Cx D : Addr) (oI oC oX : Obj) (ys : List Value) (h : Heap) (tk : Nat) (E' : Value → Shared → Prop), i < n → Fr h₀ L h m → News h₀ L h ((I, oI) :: (C, oC) :: (Cx, oX) :: (D, LCg.lst ys) :: news) → oX.data = .cell (some (.int (a + (i : Int)) t)) →
      (∀ p ∈ news, p.1 < D) → (@LT.lt Nat _ I D) → (@LT.lt Nat _ D C) → (@LT.lt Nat _ C Cx) →
      wpAny (model prog w) A (isTrue ct (compEnvC scope ((x, Cx) :: cl) C env) (eval ct (compEnvC scope ((x, Cx) :: cl) C env)))
        (fun ok s' => ok = f (a + (i : Int)) ∧ ∃ h' tk', s' = { s₂ with heap := h', toks := tk' } ∧ Fr h₀ L h' m ∧ News h₀ L h' ((I, oI) :: (C, oC) :: (Cx, oX) :: (D, LCg.lst ys) :: news)) E' { s₂ with heap := h, toks := tk })
    (hRR : ∀ D C h tk m' ys, Fr h₀ L h m → News h₀ L h ((D, LCg.lst ys) :: news) → (∀ p ∈ news, p.1 < D) → h.Ns C m' → h₀.get? C = none → h₀.get? D = none → C ≠ L → D ≠ L → C ≠ D → (∀ p ∈ news, p.1 ≠ C) → IntsAre ys (filt f a n) →
      RR (.ref D) C (.ok .next) { s₂ with heap := h, toks := tk }) :
    wpAny (model prog w) A (newList []) (fun acc s₃ => wpAny (model prog w) A (newFunctionEnv scope env.globals cl [] env.qual none .none (some env)) (fun cenv s₄ =>
      codeAny (model prog w) A (.compStart (.ListComp (.Name x pe) [⟨.Name x px, iter, [ct], 0⟩] scope pos) 0 (.ref I) acc { cenv with scope := relabel scope env }) (RR acc cenv.locals) s₄) E s₃) E s₂ := by
  have W := LCg.range_walks (prog := prog) (w := w) (I := I) hh a n
  refine wpAny_newObj_type (cellEnv hcf hpc ?_)
  dsimp only
  generalize hD : s₂.heap.objs.size = D
  have e1 : (s₂.heap.push { cls := .type "list", dict := none, data := .seq ([] : List Value).toArray }).objs.size = D + 1 := by rw [Heap.size_push, hD]
  have e2 : ((s₂.heap.push { cls := .type "list", dict := none, data := .seq ([] : List Value).toArray }).push { cls := .type "dict", data := .dict #[] }).objs.size = D + 2 := by rw [Heap.size_push, e1]
  have hLD : @LT.lt Nat _ L D := hD ▸ F.ns.lt
  have hID : @LT.lt Nat _ I D := hD ▸ Heap.lt_size hst
  have hND : ∀ p ∈ news, p.1 < D := fun p hp => hD ▸ Heap.lt_size (N p hp).1
  have old : ∀ b o, s₂.heap.get? b = some o → ((((s₂.heap.push { cls := .type "list", dict := none, data := .seq ([] : List Value).toArray }).push { cls := .type "dict", data := .dict #[] }).push (cellO none))).get? b = some o :=
    fun b o e => Heap.get?_push_of_some _ (Heap.get?_push_of_some _ (Heap.get?_push_of_some _ e))
  have fresh₀ : ∀ b, D ≤ b → h₀.get? b = none := fun b hb => by
    cases e : h₀.get? b with
    | none => rfl
    | some o' => exact absurd (Heap.lt_size (F.keep b o' e)) (by rw [hD]; exact Nat.not_lt.mpr hb)
  rw [e1]
  generalize hH : (((s₂.heap.push { cls := .type "list", dict := none, data := .seq ([] : List Value).toArray }).push { cls := .type "dict", data := .dict #[] }).push (cellO none)) = H at old
  have gD : H.get? D = some (LCg.lst []) := by
    rw [← hH]
    exact Heap.get?_push_of_some _ (Heap.get?_push_of_some _ (by rw [← hD]; exact Heap.get?_push_size _ rfl))
  have gC : H.Ns (D + 1) (fun _ => none) := by
    rw [← hH]
    have z := Heap.Ns.new (s₂.heap.push { cls := .type "list", dict := none, data := .seq ([] : List Value).toArray }) (.type "dict")
    rw [e1] at z
    exact z.at' fun o e => Heap.get?_push_of_some _ e
  have gX : H.get? (D + 1 + 1) = some (cellO none) := by
    rw [← hH]
    rw [show D + 1 + 1 = _ from e2.symm]; exact Heap.get?_push_size _ rfl
  have loop : ∀ s₃ : Shared, s₃ = { s₂ with heap := H } →
      codeAny (model prog w) A (.compLoop (.ListComp (.Name x pe) [⟨.Name x px, iter, [ct], 0⟩] scope pos) 0 (.ref I) (.ref D) (compEnvC scope ((x, D + 1 + 1) :: cl) (D + 1) env))
        (RR (.ref D) (D + 1)) s₃ := by
    rintro s₃ rfl
    refine codeAny_compLoop_tests
      (fun k s' => ∃ h' tk i ys m' v, s' = { s₂ with heap := h', toks := tk } ∧ i ≤ n ∧ k = n + 1 - i ∧ ys.length ≤ i ∧ IntsAre ys (filt f a i) ∧ IsRangeIter h' I (a + (i : Nat) * 1) ((n : Int) - (i : Nat)) 1 ∧ Fr h₀ L h' m ∧ h'.Ns (D + 1) m' ∧ h'.IsCell (D + 1 + 1) v ∧ News h₀ L h' ((D, LCg.lst ys) :: news)) ?_ (n + 1)
      ⟨H, _, 0, [], _, none, rfl, Nat.zero_le _, rfl, Nat.le_refl _, by rw [filt_zero]; exact .nil, W.frame _ _ _ hst fun b _ o e => old b o e, F.keeps old, gC, ⟨_, gX, rfl⟩, fun p hp => ?_⟩
    · rintro k s' ⟨h', tk, i, ys, m', v0, rfl, hi, rfl, hyl, hys, hst', F', hn', hx', N'⟩
      by_cases hlt : i < n
      · refine W.item i _ _ _ hlt hst' fun v h₂ tk₂ hPv hst₂ hk₂ => ?_
        obtain ⟨t, rfl⟩ := hPv
        have ne1 : D + 1 + 1 ≠ I := by omega
        have ne2 : D + 1 ≠ I := by omega
        have neD : D ≠ I := by omega
        have hX₀ : h₀.get? (D + 1 + 1) = none := fresh₀ _ (by omega)
        have hC₀ : h₀.get? (D + 1) = none := fresh₀ _ (by omega)
        have hD₀ : h₀.get? D = none := fresh₀ _ (Nat.le_refl _)
        have xL : D + 1 + 1 ≠ L := by omega
        have cL : D + 1 ≠ L := by omega
        have dL : D ≠ L := by omega
        obtain ⟨oX0, gX0, dX0⟩ := hx'
        refine wpAny_assign_Name (wpAny_storeName_cell (c := D + 1 + 1) (v₀ := v0) (by simp [compEnvC, relabel, hkind]) (hx _ _) (by simp [compEnvC]) ⟨oX0, hk₂ _ _ (by simpa using ne1) gX0, dX0⟩ fun h₃ hc₃ hs₃ => ?_)
        refine wpAny_tests_one ?_
        obtain ⟨oX, gx3, dx3⟩ := hc₃
        have hst₃ : IsRangeIter h₃ I (a + ((i + 1 : Nat) : Int) * 1) ((n : Int) - ((i + 1 : Nat) : Int)) 1 := W.frame _ _ _ hst₂ fun b hb o e => hs₃.extBut b o (fun q => by rw [List.mem_singleton.mp hb] at q; exact ne1 q.symm) e
        have F₃ : Fr h₀ L h₃ m := (LCg.fr_but F' hk₂ hIL hI₀).change hs₃ xL hX₀
        have hn₃ : h₃.Ns (D + 1) m' := (hn'.at' fun o e => hk₂ _ o (by simpa using ne2) e).sameBut hs₃ (neN (by omega))
        obtain ⟨oC, gC3, nC3⟩ := LCg.ns_obj hn₃
        have N₂ : News h₀ L h₂ ((D, LCg.lst ys) :: news) := LCg.news_but N' hk₂ fun p hp => by
          rcases List.mem_cons.mp hp with rfl | hp
          · exact neD
          · exact off p hp
        have N₃ : News h₀ L h₃ ((I, _) :: (D + 1, oC) :: (D + 1 + 1, oX) :: (D, LCg.lst ys) :: news) := fun p hp => by
          rcases List.mem_cons.mp hp with rfl | hp
          · exact ⟨hst₃, Ne.symm hIL, hI₀⟩
          · rcases List.mem_cons.mp hp with rfl | hp
            · exact ⟨gC3, cL, hC₀⟩
            · rcases List.mem_cons.mp hp with rfl | hp
              · exact ⟨gx3, xL, hX₀⟩
              · have z := N₂ p hp
                refine ⟨hs₃.extBut _ _ (fun q => ?_) z.1, z.2⟩
                rcases List.mem_cons.mp hp with rfl | hp
                · exact absurd q (neN (by show D ≠ D + 1 + 1; omega))
                · have z : @LT.lt Nat _ p.1 D := hND p hp
                  exact absurd q (neN (by omega))
        refine wpAny_mono (turn i t I (D + 1) (D + 1 + 1) D _ oC oX ys h₃ _ _ hlt F₃ N₃ dx3 hND hID (by omega) (by omega)) (fun ok s₄ h₄ => ?_) fun _ _ e => e
        obtain ⟨hok, h₄, tk₄, rfl, F₄, N₄⟩ := h₄
        have zI := (N₄ _ (List.mem_cons_self)).1
        have zC := (N₄ _ (List.mem_cons_of_mem _ List.mem_cons_self)).1
        have zX := (N₄ _ (List.mem_cons_of_mem _ (List.mem_cons_of_mem _ List.mem_cons_self))).1
        have zD := (N₄ (D, LCg.lst ys) (List.mem_cons_of_mem _ (List.mem_cons_of_mem _ (List.mem_cons_of_mem _ List.mem_cons_self)))).1
        have N₄' : News h₀ L h₄ news := fun p hp => N₄ p (List.mem_cons_of_mem _ (List.mem_cons_of_mem _ (List.mem_cons_of_mem _ (List.mem_cons_of_mem _ hp))))
        cases ok with
        | true =>
          simp only [if_true]
          refine wpAny_Name (wpAny_loadName_cell (by simp [compEnvC, relabel, hkind]) (hx _ _) (c := D + 1 + 1) (by simp [compEnvC]) ⟨oX, zX, dx3⟩ ?_) hdb
          refine append_at (hsz := by show ys.toArray.size ≤ sizeLine; rw [List.size_toArray]; exact Nat.le_trans (Nat.le_trans hyl hi) hsz) zD fun h₅ hs₅ hD₅ => ?_
          refine ⟨n + 1 - (i + 1), by omega, h₅, _, i + 1, ys ++ [.int (a + (i : Int)) t], m', _, rfl, hlt, rfl, by rw [List.length_append, List.length_singleton]; exact Nat.succ_le_succ hyl, ?_, ?_, F₄.change hs₅ dL hD₀,
            (nC3.ns zC).sameBut hs₅ (neN (by omega)), ⟨oX, hs₅.extBut _ _ (neN (by omega)) zX, dx3⟩, fun p hp => ?_⟩
          · rw [filt_succ, if_pos hok.symm]
            exact hys.append (.cons _ _ .nil)
          · exact W.frame (i + 1) h₄ _ zI fun b hb o e => hs₅.extBut b o (fun q => by rw [List.mem_singleton.mp hb] at q; exact neD q.symm) e
          · rcases List.mem_cons.mp hp with rfl | hp
            · exact ⟨hD₅.trans (congrArg some (LCg.lst_snoc ys _)), dL, hD₀⟩
            · exact ⟨hs₅.extBut _ _ (by have z : @LT.lt Nat _ p.1 D := hND p hp; exact neN (by omega)) (N₄' p hp).1, (N₄' p hp).2⟩
        | false =>
          simp only [Bool.false_eq_true, if_false]
          refine ⟨n + 1 - (i + 1), by omega, h₄, _, i + 1, ys, m', _, rfl, hlt, rfl, Nat.le_succ_of_le hyl, ?_, zI, F₄, nC3.ns zC, ⟨oX, zX, dx3⟩, fun p hp => ?_⟩
          · rw [filt_succ, if_neg (by rw [← hok]; decide)]
            exact hys
          · rcases List.mem_cons.mp hp with rfl | hp
            · exact ⟨zD, dL, hD₀⟩
            · exact N₄' p hp
      · obtain rfl : i = n := Nat.le_antisymm hi (Nat.not_lt.mp hlt)
        refine W.done _ _ _ hst' fun h₂ tk₂ hk₂ => ?_
        have neD : D ≠ I := by omega
        have ne2 : D + 1 ≠ I := by omega
        refine hRR D (D + 1) h₂ tk₂ m' ys (LCg.fr_but F' hk₂ hIL hI₀) (LCg.news_but N' hk₂ fun p hp => ?_) hND (hn'.at' fun o e => hk₂ _ o (by simpa using ne2) e) (fresh₀ _ (by omega)) (fresh₀ _ (Nat.le_refl _)) (neN (by omega)) (neN (by omega)) (neN (by omega)) (fun p hp => ?_) hys
        · rcases List.mem_cons.mp hp with rfl | hp
          · exact neD
          · exact off p hp
        · have z : @LT.lt Nat _ p.1 D := hND p hp
          exact neN (by omega)
    · rcases List.mem_cons.mp hp with rfl | hp
      · exact ⟨gD, neN (by omega), fresh₀ _ (Nat.le_refl _)⟩
      · exact ⟨old _ _ (N p hp).1, (N p hp).2⟩
  exact codeAny_compStart_list (loop _ rfl) (W.self 0 _ _ _ (W.frame _ _ _ hst fun b _ o e => old b o e) (loop _ rfl))
end
section
variable {prog : Program} {w : World} {A : Around} {E : Value → Shared → Prop} {s : Shared} {h₀ : Heap} {L : Addr} {m : Str → Option Value} {env : Env}
/-- what the iterable of such a comprehension is, and what a turn and the end want -/
noncomputable def CellSrc (prog : Program) (w : World) (A : Around) (h₀ : Heap) (L : Addr) (m : Str → Option Value) (env : Env) (ct : PySem.Expr) (x y : Str) (scope : Scope) (cl : List (Str × Addr)) (Q : Flow → Shared → Prop) (xv : Value) (s₁ : Shared) : Prop :=
  ∃ (f : Int → Bool) (r : Addr) (a b : Int) (t u v : Tok) (n : Nat) (news : List (Addr × Obj)), xv = .ref r ∧ A.handled = none ∧ Fr h₀ L s₁.heap m ∧ News h₀ L s₁.heap news ∧ IsRange s₁.heap r a b 1 t u v ∧ Builtin.Range.small a b 1 = true ∧ Builtin.Range.rangeSize a b 1 = ((n : Nat) : Int) ∧ n ≤ sizeLine ∧
    (∀ (i : Nat) (t : Tok) (I C Cx D : Addr) (oI oC oX : Obj) (ys : List Value) (h : Heap) (tk : Nat) (E' : Value → Shared → Prop), i < n → Fr h₀ L h m → News h₀ L h ((I, oI) :: (C, oC) :: (Cx, oX) :: (D, LCg.lst ys) :: news) → oX.data = .cell (some (.int (a + (i : Int)) t)) →
      (∀ p ∈ news, p.1 < D) → (@LT.lt Nat _ I D) → (@LT.lt Nat _ D C) → (@LT.lt Nat _ C Cx) →
      wpAny (model prog w) A (isTrue ct (compEnvC scope ((x, Cx) :: cl) C env) (eval ct (compEnvC scope ((x, Cx) :: cl) C env)))
        (fun ok s' => ok = f (a + (i : Int)) ∧ ∃ h' tk', s' = { s₁ with heap := h', toks := tk' } ∧ Fr h₀ L h' m ∧ News h₀ L h' ((I, oI) :: (C, oC) :: (Cx, oX) :: (D, LCg.lst ys) :: news)) E' { s₁ with heap := h, toks := tk }) ∧
    (∀ D h tk ys, Fr h₀ L h (fun z => if z = y then some (.ref D) else m z) → News h₀ L h ((D, LCg.lst ys) :: news) → (∀ p ∈ news, p.1 < D) → IntsAre ys (filt f a n) → Q .next { s₁ with heap := h, toks := tk })
theorem CellSrc.intro {ct : PySem.Expr} {x y : Str} {scope : Scope} {cl : List (Str × Addr)} {Q : Flow → Shared → Prop} {s₁ : Shared} (f : Int → Bool) {r : Addr} {a b : Int} {t u v : Tok} {n : Nat} {news : List (Addr × Obj)} (hh : A.handled = none) (F : Fr h₀ L s₁.heap m) (N : News h₀ L s₁.heap news)
    (hr : IsRange s₁.heap r a b 1 t u v) (hsm : Builtin.Range.small a b 1 = true) (hn : Builtin.Range.rangeSize a b 1 = ((n : Nat) : Int)) (hz : n ≤ sizeLine)
    (turn : ∀ (i : Nat) (t : Tok) (I C Cx D : Addr) (oI oC oX : Obj) (ys : List Value) (h : Heap) (tk : Nat) (E' : Value → Shared → Prop), i < n → Fr h₀ L h m → News h₀ L h ((I, oI) :: (C, oC) :: (Cx, oX) :: (D, LCg.lst ys) :: news) → oX.data = .cell (some (.int (a + (i : Int)) t)) →
      (∀ p ∈ news, p.1 < D) → (@LT.lt Nat _ I D) → (@LT.lt Nat _ D C) → (@LT.lt Nat _ C Cx) →
      wpAny (model prog w) A (isTrue ct (compEnvC scope ((x, Cx) :: cl) C env) (eval ct (compEnvC scope ((x, Cx) :: cl) C env)))
        (fun ok s' => ok = f (a + (i : Int)) ∧ ∃ h' tk', s' = { s₁ with heap := h', toks := tk' } ∧ Fr h₀ L h' m ∧ News h₀ L h' ((I, oI) :: (C, oC) :: (Cx, oX) :: (D, LCg.lst ys) :: news)) E' { s₁ with heap := h, toks := tk })
    (fin : ∀ D h tk ys, Fr h₀ L h (fun z => if z = y then some (.ref D) else m z) → News h₀ L h ((D, LCg.lst ys) :: news) → (∀ p ∈ news, p.1 < D) → IntsAre ys (filt f a n) → Q .next { s₁ with heap := h, toks := tk }) :
    CellSrc prog w A h₀ L m env ct x y scope cl Q (.ref r) s₁ :=
  ⟨f, r, a, b, t, u, v, n, news, rfl, hh, F, N, hr, hsm, hn, hz, turn, fin⟩

theorem Assign_cellcomp {ct iter : PySem.Expr} {x y : Str} {px pe py : Pos} {scope : Scope} {cl : List (Str × Addr)} {pos spos : Pos} {Q : Flow → Shared → Prop} (_F₀ : Fr h₀ L s.heap m) (hLe : env.locals = L)
    (hsw : swapsWith (.ListComp (.Name x pe) [⟨.Name x px, iter, [ct], 0⟩] scope pos) (some (.Name y py)) spos.line env = pure true)
    (hclos : closureFor scope env = pure cl) (hcf : ∀ k, cellsFrom k scope.names cl = (x, k) :: cl) (hpc : ∀ h, pushCells h scope.names = h.push (cellO none)) (hkind : scope.kind = .function)
    (hnames : ∀ z ∈ scope.names, z.2 = .local → scope.names.lookup z.1 = some .local) (hx : ∀ C c, (compEnvC scope ((x, c) :: cl) C env).kindOf x = some .cell) (hdb : (x == ("__debug__" : Str)) = false)
    (hy : env.kindOf y = some .local) (hp : (env.scope.kind == .class || (env.scope.kind == .module && env.locals != env.globals)) = false)
    (h : wpAny (model prog w) A (eval iter env) (CellSrc prog w A h₀ L m env ct x y scope cl Q) E s)
    (hs : ∀ x, foldedSetIterable iter env x = pure x := by intro _; rfl) :
    wpAny (model prog w) A (exec (.Assign [.Name y py] (.ListComp (.Name x pe) [⟨.Name x px, iter, [ct], 0⟩] scope pos) spos) env) Q E s := by
  subst hLe
  rw [exec_Assign_Name_used _ _ _ _ hsw]
  refine wpAny_bind (wpAny_standAt (wpAny_bind ?_))
  show wpAny _ A (do let _ ← comprehension (.ListComp (.Name x pe) [⟨.Name x px, iter, [ct], 0⟩] scope pos) scope env _ (newList []) false (eval iter env) (some (assign (.Name y py) env))) _ _ s
  refine wpAny_bind (wpAny_mono (wpAny_comprehension_free (use := some (assign (.Name y py) env)) (Q := fun _ s' => Q .next s') rfl hs hclos hkind hnames
    (wpAny_mono h (fun xv s₁ h₁ => ?_) fun _ _ e => e)) (fun _ s' hq => wpAny_pure (wpAny_pure hq)) fun _ _ e => e)
  obtain ⟨f, r, a, b, t, u, v, n, news, rfl, hh, F, N, hr, hsm, hn, hsz, turn, fin⟩ := h₁
  refine wpAny_pyIter_range hr hsm ?_
  refine cell_block (n := n) (a := a) f hh hsz hcf hpc hkind hx hdb (by show IsRangeIter _ _ _ _ _; rw [hn]; simpa using Heap.get?_push_size _ rfl) (F.keeps fun _ _ e => Heap.get?_push_of_some _ e) (N.grown fun _ _ e => Heap.get?_push_of_some _ e)
    (Nat.ne_of_lt F.ns.lt) (next_is_new F) (fun p hp => Nat.ne_of_lt (Heap.lt_size (N p hp).1)) turn ?_
  intro D C h' tk m' ys F' N' hND hn hC₀ hD₀ hCL hDL hCD offC hys
  show wpAny _ A (assign (.Name y py) env (.ref D)) _ _ _
  refine wpAny_assign_Name (wpAny_storeName_local hy F'.ns (fun h₂ hn₂ hs₂ => ?_) hp)
  have hL₀ : h₀.get? env.locals = none := Heap.get?_none_of_le F'.above
  have F₂ : Fr h₀ env.locals h₂ (fun z => if z = y then some (.ref D) else m z) := ⟨hn₂, fun b o e => hs₂.extBut b o (fun q => by rw [q, hL₀] at e; cases e) (F'.keep b o e), F'.above⟩
  refine ⟨m', hn.sameBut hs₂ hCL, fun h'' hs'' => fin D h'' _ ys (F₂.change hs'' hCL hC₀) (fun p hp => ?_) hND hys⟩
  have z : h₂.get? p.1 = some p.2 := hs₂.extBut _ _ (N' p hp).2.1 (N' p hp).1
  refine ⟨hs''.extBut _ _ ?_ z, (N' p hp).2⟩
  rcases List.mem_cons.mp hp with rfl | hp
  · exact Ne.symm hCD
  · exact offC p hp
end
/-! dict(a list of pairs of ints) -/
noncomputable def addK (acc : List Int) (k : Int) : List Int := if k ∈ acc then acc else acc ++ [k]
@[irreducible] noncomputable def keysOf (ks : List Int) : List Int := ks.foldl addK []
theorem any_mem {kvs : List (Int × Value)} {k : Int} : (kvs.any fun kv => decide (kv.1 = k)) = true ↔ k ∈ kvs.map (·.1) := by
  simp only [List.any_eq_true, decide_eq_true_eq, List.mem_map]
theorem stored_keys (kvs : List (Int × Value)) (k : Int) (v : Value) : (stored kvs k v).map (·.1) = addK (kvs.map (·.1)) k := by
  unfold stored addK
  by_cases h : (kvs.any fun kv => decide (kv.1 = k)) = true
  · rw [if_pos h, if_pos (any_mem.mp h), List.map_map]
    refine List.map_congr_left fun x _ => ?_
    show (if x.1 = k then (x.1, v) else x).1 = x.1
    split <;> rfl
  · rw [if_neg h, if_neg (fun q => h (any_mem.mpr q)), List.map_append]
    rfl
theorem addK_len (acc : List Int) (k : Int) : (addK acc k).length ≤ acc.length + 1 := by
  unfold addK
  split
  · omega
  · simp
theorem entry_dul : entryFor table "dict.update.loop" = some Builtin.«dict.update.loop» := entryFor_of_tree (by kernel_rfl)
theorem plain_dul : plainId "dict.update.loop" = true := by decide +kernel
theorem keys_miss : typeLookup (.type "list") "keys" = pure none := am_miss_of_fast (by kernel_rfl)
section
variable {prog : Program} {w : World} {A : Around} {E : Value → Shared → Prop} {s : Shared}
theorem keys_none {a : Addr} {o : Obj} {xs : Array Value} {k : Nat} {Q : Option Value → Shared → Prop}
    (hx : s.heap.get? a = some o) (hc : o.cls = .type "list") (hdat : o.data = .seq xs k) (hd : o.dict = none) (hA : A.handled = none)
    (h : ∀ h' tk, (∀ b o, s.heap.get? b = some o → h'.get? b = some o) → Q none { s with heap := h', toks := tk }) :
    wpAny (model prog w) A (getAttr? (.ref a) "keys") Q E s := by
  obtain ⟨c, dct, dat, sl⟩ := o
  simp only at hc hdat hd
  subst hc hdat hd
  obtain ⟨hp, g, d, tk, os⟩ := s
  have hT : ∀ tk', (⟨hp, g, d, tk', os⟩ : Shared).TypeIs (.ref a) "list" := fun _ => ⟨_, hx, rfl⟩
  have f1 := sub_AttributeError
  have f3 := F.slot_list_getattribute.lookup
  have f4 := F.slot_list_getattribute.bind (.ref a)
  have f5 := am_list_getattr_none
  unfold getAttr? getAttrBy? getAttrBy
  repeat (any_goals (first | assumption | exact hT _ | ((with_reducible show wpAny _ _ (call (Value.builtin "list.__getattribute__") _ _) _ _ _); refine call_meets F.slot_list_getattribute (hT _) am_entry_list_getattribute (F.args_list_getattribute_2 _ _) (meets_getattribute_miss_list a xs k sl "keys" _ keys_miss (by decide) (by size_fits)) ⟨hx, hA, fun h' tk' e hx' => ?_⟩) | wp_step))
  obtain ⟨t', u', he⟩ := hx'.there
  show wpAny _ _ (getattributeRaised _ _ _ _ _ _ _) _ _ _
  unfold getattributeRaised
  repeat (any_goals (first | assumption | wp_step))
  exact h _ _ hx'.of.keeps
end
section
variable {prog : Program} {w : World} {A : Around} {E : Value → Shared → Prop} {s : Shared} {R : Result → Shared → Prop}
theorem dict_loop {l I d : Addr} {items : Array Value} {ks : List Int} {hb : Heap} (hh : A.in1.handled = none) (hlI : l ≠ I) (hdl : d ≠ l) (hdI : d ≠ I) (hlen : ks.length = items.size) (hsz : items.size ≤ 1000)
    (hit : ∀ j (x : Value), items[j]? = some x → ∃ a o t v n, x = .ref a ∧ a ≠ d ∧ a ≠ I ∧ hb.get? a = some o ∧ o.cls = .type "tuple" ∧ o.data = .seq #[.int (ks.getD j 0) t, v] n) :
    ∀ (k i : Nat) (s : Shared) (kvs : List (Int × Value)), items.size - i = k → i ≤ items.size → (s.heap.IsListIter I l i ∧ s.heap.IsList l items) → s.heap.DictOf (intKind prog w) d kvs → kvs.map (·.1) = keysOf (ks.take i) → kvs.length ≤ i →
      (∀ b o, b ≠ d → b ≠ I → hb.get? b = some o → s.heap.get? b = some o) →
      (∀ h' tk kvs', h'.DictOf (intKind prog w) d kvs' → kvs'.map (·.1) = keysOf ks → (∀ b o, b ≠ d → b ≠ I → hb.get? b = some o → h'.get? b = some o) → R (.ok (.ret .none)) { s with heap := h', toks := tk }) →
      codeAny (model prog w) A (.builtin "dict.update.loop" ⟨[.ref d, .ref I, rawInt i, .none], []⟩) R s := by
  have W := Walks.list (prog := prog) (w := w) hh I l hlI items
  intro k
  induction k with
  | zero =>
    intro i s kvs hk hi hst hD hks hln hbk hR
    have hin : i = items.size := by omega
    subst hin
    refine codeAny_builtin entry_dul ?_
    rw [Around.under_plainId plain_dul _]
    show wpAny _ A.in1 (pyNext (.ref I) >>= _) _ _ s
    refine wpAny_bind (W.done s _ _ hst fun h' tk hm => ?_)
    show wpAny _ A.in1 (Builtin.Dict.addKeywords d [] >>= fun _ => ret Value.none) _ _ _
    refine wpAny_bind (wpAny_pure (wpAny_pure ?_))
    have hDm : h'.DictOf (intKind prog w) d kvs := by
      obtain ⟨o, es, ep, ho, rest⟩ := hD
      exact ⟨o, es, ep, hm d o (by simpa using hdI) ho, rest⟩
    refine hR h' tk kvs hDm ?_ fun b o b1 b2 e => hm b o (by simpa using b2) (hbk b o b1 b2 e)
    rw [hks, ← hlen, List.take_length]
  | succ k ih =>
    intro i s kvs hk hi hst hD hks hln hbk hR
    have hlt : i < items.size := by omega
    refine codeAny_builtin entry_dul ?_
    rw [Around.under_plainId plain_dul _]
    show wpAny _ A.in1 (pyNext (.ref I) >>= _) _ _ s
    refine wpAny_bind (W.item i s _ _ hlt hst fun v h' tk hP hst' hm => ?_)
    obtain ⟨a, o, t, v2, n, rfl, ad, aI, ga, hc, hdat⟩ := hit i v hP
    have ga' : h'.get? a = some o := hm a o (by simpa using aI) (hbk a o ad aI ga)
    have hDm : h'.DictOf (intKind prog w) d kvs := by
      obtain ⟨o, es, ep, ho, rest⟩ := hD
      exact ⟨o, es, ep, hm d o (by simpa using hdI) ho, rest⟩
    show wpAny _ A.in1 (holding [Value.ref a] _ >>= _) _ _ _
    refine wpAny_bind (wpAny_holding ?_)
    refine wpAny_bind (wpAny_tryCatch ?_)
    unfold Builtin.Dict.pairItems
    refine wpAny_bind (wpAny_typeOf ⟨o, ga', hc⟩ ?_)
    rw [if_pos (by decide)]
    refine wpAny_bind (wpAny_seqItems ga' hdat ?_)
    refine wpAny_pure ?_
    show wpAny _ A.in1 (holding _ (dictSet d (.int (ks.getD i 0) t) v2)) _ _ _
    refine wpAny_holding (wpAny_dictSet_pairs (s := { s with heap := h', toks := tk }) (knd := intKind prog w) (intKind_is _ _ _ _) hDm (fun h2 hD2 hs2 => ?_) (by rw [sizeLine_eq]; omega))
    have hk2 : (stored kvs (ks.getD i 0) v2).map (·.1) = keysOf (ks.take (i + 1)) := by
      rw [stored_keys, hks]
      have e : ks.take (i + 1) = ks.take i ++ [ks.getD i 0] := by
        rw [List.take_add_one]
        congr 1
        rw [List.getD_eq_getElem?_getD, List.getElem?_eq_getElem (by omega)]
        rfl
      rw [e]
      unfold keysOf
      rw [List.foldl_append]
      rfl
    have hl2 : (stored kvs (ks.getD i 0) v2).length ≤ i + 1 := by
      have e := congrArg List.length (stored_keys kvs (ks.getD i 0) v2)
      have e2 := addK_len (kvs.map (·.1)) (ks.getD i 0)
      rw [← e] at e2
      simp only [List.length_map] at e2
      omega
    refine wpAny_pure ⟨plainId_quiet plain_dul _, ih (i + 1) _ _ (by omega) hlt ⟨hst'.1.at fun o e => hs2.extBut _ o (Ne.symm hdI) e, hst'.2.at fun o e => hs2.extBut _ o (Ne.symm hdl) e⟩ hD2 hk2 hl2 (fun b o b1 b2 e => hs2.extBut b o b1 (hm b o (by simpa using b2) (hbk b o b1 b2 e))) fun h3 tk3 kvs3 d3 e3 k3 => ?_⟩
    exact hR h3 tk3 kvs3 d3 e3 k3
end
section
variable {prog : Program} {w : World} {A : Around} {E : Value → Shared → Prop} {s : Shared}
theorem call_dict_pairs {l : Addr} {items : Array Value} {ks : List Int} {Q : Value → Shared → Prop} {ol : Obj} {ep : Nat} (hA : A.handled = none) (hl : s.heap.get? l = some ol) (hlc : ol.cls = .type "list") (hld : ol.data = .seq items ep) (hln : ol.dict = none) (hlen : ks.length = items.size) (hsz : items.size ≤ 1000)
    (hit : ∀ j (x : Value), items[j]? = some x → ∃ a o t v n, x = .ref a ∧ s.heap.get? a = some o ∧ o.cls = .type "tuple" ∧ o.data = .seq #[.int (ks.getD j 0) t, v] n)
    (h : ∀ h' tk kvs, h'.DictOf (intKind prog w) s.heap.objs.size kvs → kvs.map (·.1) = keysOf ks → (∀ b o, s.heap.get? b = some o → h'.get? b = some o) → Q (.ref s.heap.objs.size) { s with heap := h', toks := tk }) :
    wpAny (model prog w) A (call (.type "dict") [.ref l]) Q E s := by
  refine callType_codes (Q₁ := fun obj s₁ => obj = .ref s.heap.objs.size ∧ s₁ = { s with heap := s.heap.push { cls := .type "dict", data := .dict #[] } }) F.kt_called_dict (F.kt_typeCall_dict_1 _) F.entry_dict_init (kt_code_dict_new _ ⟨rfl, rfl⟩) ?_
  rintro obj s₁ ⟨rfl, rfl⟩
  have hnew : (s.heap.push { cls := .type "dict", data := .dict #[] }).DictOf (intKind prog w) s.heap.objs.size [] := Heap.DictOf.new s.heap
  have hl' : (s.heap.push { cls := .type "dict", data := .dict #[] }).get? l = some ol := Heap.get?_push_of_some _ hl
  have hlt : l < s.heap.objs.size := Heap.lt_size hl
  refine ⟨hnew.typeIs, F.args_dict_init_2 _ _, ?_⟩
  unfold Builtin.«dict.__init__»
  refine wpAny_bind ?_
  unfold Builtin.Dict.selfAndRest
  refine wpAny_bind (wpAny_notOrdered_dict hnew.typeIs ?_)
  show wpAny _ _ (pure (s.heap.objs.size, [Value.ref l])) _ _ _
  refine wpAny_pure ?_
  show wpAny _ _ (Builtin.Dict.updateFrom "dict.__init__" s.heap.objs.size (.ref l) [] .none) _ _ _
  unfold Builtin.Dict.updateFrom
  refine wpAny_bind (wpAny_typeOf ⟨ol, hl', hlc⟩ ?_)
  rw [if_pos (by decide)]
  refine wpAny_bind (keys_none hl' hlc hld hln (by simp [hA]) fun h1 tk1 k1 => ?_)
  rw [if_pos (by rfl)]
  refine wpAny_bind (wpAny_rule ?_)
  have hl1 : h1.IsList l items := ⟨ol, k1 _ _ hl', hlc, ep, hld⟩
  refine wpAny_bind (wpAny_pyIter_list hl1 ?_)
  dsimp only at k1 ⊢
  have kd : h1.objs.size ≠ s.heap.objs.size := by
    obtain ⟨od, _, _, hod, _⟩ := hnew
    exact neN (Nat.ne_of_gt (Heap.lt_size (k1 _ _ hod)))
  have kl : h1.objs.size ≠ l := neN (Nat.ne_of_gt (Heap.lt_size (k1 _ _ hl')))
  have hD1 : h1.DictOf (intKind prog w) s.heap.objs.size [] := by
    obtain ⟨o, es, ep, ho, rest⟩ := hnew
    exact ⟨o, es, ep, k1 _ _ ho, rest⟩
  refine wpAny_pure ⟨plainId_quiet plain_dul _, dict_loop (l := l) (I := h1.objs.size) (d := s.heap.objs.size) (items := items) (ks := ks) (hb := s.heap) (by simp [hA]) (Ne.symm kl) (neN (Nat.ne_of_gt hlt)) (Ne.symm kd) hlen hsz (fun j x hx => ?_)
    (items.size - 0) 0 _ [] rfl (Nat.zero_le _) ⟨⟨_, Heap.get?_push_size _ rfl, rfl, rfl⟩, hl1.push _⟩ (hD1.push _) (by unfold keysOf; rfl) (Nat.le_refl _) (fun b o b1 b2 e => Heap.get?_push_of_some _ (k1 _ _ (Heap.get?_push_of_some _ e))) (fun h' tk kvs d3 e3 k3 => ⟨rfl, h h' tk kvs d3 e3 fun b o e => ?_⟩)⟩
  · obtain ⟨a, o, t, v, n, rfl, ga, hc, hd⟩ := hit j x hx
    exact ⟨a, o, t, v, n, rfl, neN (Nat.ne_of_lt (Heap.lt_size ga)), neN (Nat.ne_of_lt (Heap.lt_size (k1 _ _ (Heap.get?_push_of_some _ ga)))), ga, hc, hd⟩
  · exact k3 b o (neN (Nat.ne_of_lt (Heap.lt_size e))) (neN (Nat.ne_of_lt (Heap.lt_size (k1 _ _ (Heap.get?_push_of_some _ e))))) e
end
end
section
/-- refs to pairs whose first is an int -/
inductive PairsK (news : List (Addr × Obj)) : List Value → List Int → Prop
  | nil : PairsK news [] []
  | cons {a : Addr} {k : Int} {t : Tok} {v : Value} {n : Nat} {vs : List Value} {ks : List Int} : (a, ({ cls := .type "tuple", data := .seq #[.int k t, v] n } : Obj)) ∈ news → PairsK news vs ks → PairsK news (.ref a :: vs) (k :: ks)
theorem PairsK.mono {news news' : List (Addr × Obj)} (hs : ∀ p ∈ news, p ∈ news') : ∀ {vs : List Value} {ks : List Int}, PairsK news vs ks → PairsK news' vs ks
  | _, _, .nil => .nil
  | _, _, .cons h r => .cons (hs _ h) (r.mono hs)
theorem PairsK.length {news : List (Addr × Obj)} : ∀ {vs : List Value} {ks : List Int}, PairsK news vs ks → vs.length = ks.length
  | _, _, .nil => rfl
  | _, _, .cons _ r => by rw [List.length_cons, List.length_cons, r.length]
theorem PairsK.append {news : List (Addr × Obj)} {vs' : List Value} {ks' : List Int} (h' : PairsK news vs' ks') : ∀ {vs : List Value} {ks : List Int}, PairsK news vs ks → PairsK news (vs ++ vs') (ks ++ ks')
  | _, _, .nil => h'
  | _, _, .cons h r => .cons h (PairsK.append h' r)
theorem PairsK.at {h₀ h : Heap} {L : Addr} {news : List (Addr × Obj)} (N : News h₀ L h news) : ∀ {vs : List Value} {ks : List Int}, PairsK news vs ks → ∀ (j : Nat) (x : Value), vs[j]? = some x → ∃ a o t v n, x = .ref a ∧ h.get? a = some o ∧ o.cls = .type "tuple" ∧ o.data = .seq #[.int (ks.getD j 0) t, v] n
  | _, _, .nil, j, x, hx => by simp at hx
  | _, _, .cons hm r, 0, x, hx => by
    simp only [List.getElem?_cons_zero, Option.some.injEq] at hx
    subst hx
    exact ⟨_, _, _, _, _, rfl, (N _ hm).1, rfl, rfl⟩
  | _, _, .cons _ r, j + 1, x, hx => by
    simp only [List.getElem?_cons_succ] at hx
    exact r.at N j x hx
structure DK (kvs : List (Int × Value)) (ks : List Int) : Prop where
  eq : kvs.map (·.1) = keysOf ks
theorem keysOf_le (ks : List Int) : (keysOf ks).length ≤ ks.length := by
  have h : ∀ (l acc : List Int), (l.foldl addK acc).length ≤ acc.length + l.length := by
    intro l
    induction l with
    | nil => intro acc; simp
    | cons a l ih =>
      intro acc
      have h1 := ih (addK acc a)
      have h2 := addK_len acc a
      simp only [List.foldl_cons, List.length_cons]
      omega
  have := h ks []
  simpa [keysOf] using this
section
variable {prog : Program} {w : World} {A : Around} {E : Value → Shared → Prop} {s : Shared} {h₀ : Heap} {L : Addr} {m : Str → Option Value} {news : List (Addr × Obj)}
theorem dict_pairs_N {l : Addr} {ys : List Value} {ep : Nat} {ks : List Int} {Q : Value → Shared → Prop} (hh : A.handled = none) (F : Fr h₀ L s.heap m) (N : News h₀ L s.heap news) (hbig : sysModules < h₀.objs.size) (hm : (l, ({ cls := .type "list", data := .seq ys.toArray ep } : Obj)) ∈ news) (hp : PairsK news ys ks) (hsz : ks.length ≤ 1000)
    (k : ∀ d o kvs h' tk, Fr h₀ L h' m → News h₀ L h' ((d, o) :: news) → (∀ p ∈ news, p.1 < d) → (d == sysModules) = false → o.IsDictOf (intKind prog w) kvs → DK kvs ks → Q (.ref d) { s with heap := h', toks := tk }) :
    wpAny (model prog w) A (call (.type "dict") [.ref l]) Q E s := by
  have hl := hp.length
  refine call_dict_pairs (ks := ks) hh (N _ hm).1 rfl rfl rfl (by rw [List.size_toArray]; omega) (by rw [List.size_toArray]; omega) (fun j x hx => hp.at N j x (by simpa using hx)) fun h' tk kvs hd hk keep => ?_
  obtain ⟨o, ho, hdo⟩ := Heap.dictOf_iff.mp hd
  have fresh : h₀.get? s.heap.objs.size = none := next_is_new F
  refine k s.heap.objs.size o kvs h' tk (F.keeps keep) (fun p hp => ?_) (fun p hp => Heap.lt_size (N p hp).1) (F.notModules hbig) hdo ⟨hk⟩
  rcases List.mem_cons.mp hp with rfl | hp
  · exact ⟨ho, Nat.ne_of_gt F.ns.lt, fresh⟩
  · exact ⟨keep _ _ (N p hp).1, (N p hp).2⟩
theorem len_keys {d : Addr} {o : Obj} {kvs : List (Int × Value)} {ks : List Int} {Q : Value → Shared → Prop} (N : News h₀ L s.heap news) (hm : (d, o) ∈ news) (lo : (d == sysModules) = false) (hd : o.IsDictOf (intKind prog w) kvs) (hk : DK kvs ks) (hsz : ks.length ≤ 1000)
    (h : Q (.int ((keysOf ks).length : Nat) (s.toks + 1)) { s with toks := s.toks + 1 + 1 }) : wpAny (model prog w) A (call (.builtin "len") [.ref d]) Q E s := by
  have e := congrArg List.length hk.eq
  rw [List.length_map] at e
  have := keysOf_le ks
  refine call_len_dict lo (Heap.dictOf_iff.mpr ⟨o, (N _ hm).1, hd⟩) (by omega) ?_
  rw [e]
  exact h
end
/-- a comprehension with a test, by what holds ahead of its turn -/
theorem compT_ind {prog : Program} {w : World} {A : Around} {h₀ : Heap} {L : Addr} {m : Str → Option Value} {env : Env} {ct elt : PySem.Expr} {x : Str} {scope : Scope} {cl : List (Str × Addr)} {s : Shared} {S : List (Addr × Obj) → Prop} {P : Nat → Value → Prop} {Fin : List Value → List (Addr × Obj) → Prop}
    {n : Nat} (J : Nat → List Value → List (Addr × Obj) → Prop)
    (step : ∀ i ys news, i < n → J i ys news → ∀ v I oI C oC D m₂ h tk (E' : Value → Shared → Prop), P i v → LCg.NsObj oC m₂ → m₂ x = some v → Fr h₀ L h m → News h₀ L h ((I, oI) :: (C, oC) :: (D, LCg.lst ys) :: news) → LCg.Off3 I C D news → ((@Ne Nat I C) ∧ (@Ne Nat I D) ∧ (@Ne Nat C D)) →
      wpAny (model prog w) A (isTrue ct (compEnvC scope cl C env) (eval ct (compEnvC scope cl C env))) (fun ok s' => if ok = true then
        wpAny (model prog w) A (eval elt (compEnvC scope cl C env)) (LCg.CompEnd h₀ L m { s with heap := h, toks := tk } I oI C oC D (LCg.lst ys) S (fun y news' => J (i + 1) (ys ++ [y]) news')) E' s'
        else LCg.CompEnd h₀ L m { s with heap := h, toks := tk } I oI C oC D (LCg.lst ys) S (fun _ news' => J (i + 1) ys news') Value.none s') E' { s with heap := h, toks := tk })
    (fin : ∀ ys news, J n ys news → Fin ys news) :
    ∀ k i ys news, i + k = n → J i ys news → LCt.CompRestT prog w A h₀ L m env ct elt x scope cl s S P Fin k i ys news := by
  intro k
  induction k with
  | zero => exact fun i ys news hi hJ => LCt.CompRestT.zero (fin ys news (by rw [← hi]; exact hJ))
  | succ k ih =>
    exact fun i ys news hi hJ => LCt.CompRestT.succ fun v I oI C oC D m₂ h tk E' hP hN hx F N off ne => by
      refine wpAny_mono (step i ys news (by omega) hJ v I oI C oC D m₂ h tk E' hP hN hx F N off ne) (fun ok s₂ q => ?_) fun _ _ e => e
      by_cases hok : ok = true
      · rw [if_pos hok] at q ⊢
        refine wpAny_mono q (fun y s₃ q => ?_) fun _ _ e => e
        obtain ⟨h', tk', news', e, F', N', o', S', j⟩ := q
        exact ⟨h', tk', news', e, F', N', o', S', ih (i + 1) _ news' (by omega) j⟩
      · rw [if_neg hok] at q ⊢
        obtain ⟨h', tk', news', e, F', N', o', S', j⟩ := q
        exact ⟨h', tk', news', e, F', N', o', S', ih (i + 1) _ news' (by omega) j⟩
end
section
local macro_rules | `(tactic| walk_at "MINE rm") => `(tactic| walk_at "MINE h2")
/-- the primes and their bases -/
structure PB (p b : Int) : Prop where
  cases : (p = 5 ∧ b = 2) ∨ (p = 7 ∧ b = 3) ∨ (p = 11 ∧ b = 2) ∨ (p = 13 ∧ b = 2)
theorem PB.bnd {p b : Int} (h : PB p b) : 5 ≤ p ∧ p ≤ 13 ∧ 2 ≤ b ∧ b ≤ 3 ∧ b < p := by
  rcases h.cases with ⟨rfl, rfl⟩ | ⟨rfl, rfl⟩ | ⟨rfl, rfl⟩ | ⟨rfl, rfl⟩ <;> decide
theorem sub_PB {prog : Program} {w : World} {A : Around} {E : Value → Shared → Prop} {s : Shared} {h₀ : Heap} {L l : Addr} {news : List (Addr × Obj)} {value slice : PySem.Expr} {vs : List Value} {k : Int} {u : Tok} {n : Nat} {Q : Value → Shared → Prop}
    (N : News h₀ L s.heap news) (hm : (l, listOf vs.toArray n) ∈ news) (hP : PairsIn news vs [(5, 2), (7, 3), (11, 2), (13, 2)]) 
    (h : ∀ a p b t u, PB p b → (a, tup2 (.int p t) (.int b u)) ∈ news → Q (.ref a) s)
    (hs : subscripted slice false (.ref l) (.int (k.fmod 4) u) = operate [.ref l, .int (k.fmod 4) u] (getItem (.ref l) (.int (k.fmod 4) u)) := by with_unfolding_all rfl) :
    wpAny (model prog w) A (subscriptTail value slice (.ref l) (.int (k.fmod 4) u)) Q E s := by
  have a1 := Int.fmod_nonneg_of_pos k (show (0 : Int) < 4 by decide)
  have a2 := Int.fmod_lt_of_pos k (show (0 : Int) < 4 by decide)
  refine sub_pair N hm hP a1 (by simpa using a2) (by decide) (fun a t u hm => h a _ _ t u ⟨?_⟩ hm) hs
  have e : k.fmod 4 = 0 ∨ k.fmod 4 = 1 ∨ k.fmod 4 = 2 ∨ k.fmod 4 = 3 := by omega
  rcases e with e | e | e | e <;> rw [e] <;> decide
/-- a comprehension by what holds ahead of its turn -/
theorem comp_ind {prog : Program} {w : World} {A : Around} {h₀ : Heap} {L : Addr} {m : Str → Option Value} {env : Env} {elt : PySem.Expr} {x : Str} {scope : Scope} {cl : List (Str × Addr)} {s : Shared} {S : List (Addr × Obj) → Prop} {P : Nat → Value → Prop} {Fin : List Value → List (Addr × Obj) → Prop}
    {n : Nat} (J : Nat → List Value → List (Addr × Obj) → Prop)
    (step : ∀ i ys news, i < n → J i ys news → ∀ v I oI C oC D m₂ h tk (E' : Value → Shared → Prop), P i v → LCg.NsObj oC m₂ → m₂ x = some v → Fr h₀ L h m → News h₀ L h ((I, oI) :: (C, oC) :: (D, LCg.lst ys) :: news) → LCg.Off3 I C D news → ((@Ne Nat I C) ∧ (@Ne Nat I D) ∧ (@Ne Nat C D)) →
      wpAny (model prog w) A (eval elt (compEnvC scope cl C env)) (LCg.CompEnd h₀ L m { s with heap := h, toks := tk } I oI C oC D (LCg.lst ys) S (fun y news' => J (i + 1) (ys ++ [y]) news')) E' { s with heap := h, toks := tk })
    (fin : ∀ ys news, J n ys news → Fin ys news) :
    ∀ k i ys news, i + k = n → J i ys news → LCg.CompRest prog w A h₀ L m env elt x scope cl s S P Fin k i ys news := by
  intro k
  induction k with
  | zero => exact fun i ys news hi hJ => LCg.CompRest.zero (fin ys news (by rw [← hi]; exact hJ))
  | succ k ih =>
    exact fun i ys news hi hJ => LCg.CompRest.succ fun v I oI C oC D m₂ h tk E' hP hN hx F N off ne => by
      refine wpAny_mono (step i ys news (by omega) hJ v I oI C oC D m₂ h tk E' hP hN hx F N off ne) (fun y s₂ q => ?_) fun _ _ e => e
      obtain ⟨h', tk', news', e, F', N', o', S', j⟩ := q
      exact ⟨h', tk', news', e, F', N', o', S', ih (i + 1) (ys ++ [y]) news' (by omega) j⟩
theorem lpv_zero (x y : Int) : lpv x 0 y = 1 := by
  have e := digs00
  rw [show Int.toNat 1 = 1 from rfl] at e
  unfold lpv
  rw [e]
  rfl
theorem lpv_one (x y : Int) : lpv x 1 y = (1 * 1 * x).fmod y := by
  have e := digs11
  rw [show Int.toNat 1 = 1 from rfl] at e
  unfold lpv
  rw [show (Int.toNat 1) = 1 from rfl, e]
  rfl
/-- the powers of b below p -/
noncomputable def pwsR (b p : Int) : Nat → List Int
  | 0 => []
  | n + 1 => pwsR b p n ++ [lpv b (0 + (n : Int)) p]
@[irreducible] noncomputable def pws (b p : Int) (n : Nat) : List Int := pwsR b p n
theorem pws_zero (b p : Int) : pws b p 0 = [] := by unfold pws; rfl
theorem pws_succ (b p : Int) (n : Nat) : pws b p (n + 1) = pws b p n ++ [lpv b (0 + (n : Int)) p] := by unfold pws; rfl
theorem pws_len (b p : Int) : ∀ n, (pws b p n).length = n
  | 0 => by rw [pws_zero]; rfl
  | n + 1 => by rw [pws_succ, List.length_append, pws_len]; rfl
/-- the ledger while the powers are made -/
inductive PwJ (b p : Int) (base : List (Addr × Obj)) : Nat → List Value → List (Addr × Obj) → Prop
  | z : PwJ b p base 0 [] ((37, tabObj #[]) :: (30, tabObj #[]) :: base)
  | o {y : Value} {t : Tok} {c : Addr} {oc : Obj} {cvs : Array Value} {u : Tok} (hy : y = .int 1 t) (h1 : oc.data = .fields cvs) (h2 : cvs[1]? = some (.str "_int2digits.<locals>.inner" u)) :
      PwJ b p base 1 [y] ((c, oc) :: (30, T3 32 4 c) :: (37, tabObj #[]) :: base)
  | w {i : Nat} {ys : List Value} {c c7 : Addr} {oc oc7 : Obj} {cvs cvs7 : Array Value} {u u7 : Tok} (hi : 2 ≤ i) (h1 : oc.data = .fields cvs) (h2 : cvs[1]? = some (.str "_int2digits.<locals>.inner" u)) (h3 : oc7.data = .fields cvs7) (h4 : cvs7[1]? = some (.str "_digits2int.<locals>.inner" u7))
      (hys : IntsAre ys (pws b p i)) : PwJ b p base i ys ((c7, oc7) :: (37, T3 47 4 c7) :: (c, oc) :: (30, T3 32 4 c) :: base)
theorem PwJ.two {b p : Int} {base : List (Addr × Obj)} {y z : Value} {t u' : Tok} {v v0 : Int} {c c7 : Addr} {oc oc7 : Obj} {cvs cvs7 : Array Value} {u u7 : Tok} (h0 : y = .int v0 u') (hz : v0 = 1) (hy : z = .int v t) (hv : v = (1 * 1 * b).fmod p) (h1 : oc.data = .fields cvs) (h2 : cvs[1]? = some (.str "_int2digits.<locals>.inner" u)) (h3 : oc7.data = .fields cvs7) (h4 : cvs7[1]? = some (.str "_digits2int.<locals>.inner" u7)) :
    PwJ b p base (1 + 1) ([y] ++ [z]) ((c7, oc7) :: (37, T3 47 4 c7) :: (c, oc) :: (30, T3 32 4 c) :: base) := by
  subst h0 hy hv hz
  refine .w (Nat.le_refl _) h1 h2 h3 h4 ?_
  have e : pws b p (1 + 1) = [1, (1 * 1 * b).fmod p] := by
    rw [pws_succ b p 1, pws_succ b p 0, pws_zero]
    rw [show (0 + ((0 : Nat) : Int)) = 0 from rfl, show (0 + ((1 : Nat) : Int)) = 1 from rfl, lpv_zero, lpv_one]
    rfl
  rw [e]
  exact .cons _ _ (.cons _ _ .nil)
theorem PwJ.next {b p : Int} {base : List (Addr × Obj)} {i : Nat} {ys : List Value} {v : Int} {t : Tok} {c c7 : Addr} {oc oc7 : Obj} {cvs cvs7 : Array Value} {u u7 : Tok} (hi : 2 ≤ i) (h1 : oc.data = .fields cvs) (h2 : cvs[1]? = some (.str "_int2digits.<locals>.inner" u)) (h3 : oc7.data = .fields cvs7) (h4 : cvs7[1]? = some (.str "_digits2int.<locals>.inner" u7))
    (hys : IntsAre ys (pws b p i)) (hv : v = lpv b (0 + (i : Int)) p) : PwJ b p base (i + 1) (ys ++ [.int v t]) ((c7, oc7) :: (37, T3 47 4 c7) :: (c, oc) :: (30, T3 32 4 c) :: base) := by
  refine .w (by omega) h1 h2 h3 h4 ?_
  rw [pws_succ, ← hv]
  exact hys.append (.cons _ _ .nil)
theorem warm_of {c c7 : Addr} {oc oc7 : Obj} {cvs cvs7 : Array Value} {u u7 : Tok} {base : List (Addr × Obj)} (h1 : oc.data = .fields cvs) (h2 : cvs[1]? = some (.str "_int2digits.<locals>.inner" u)) (h3 : oc7.data = .fields cvs7) (h4 : cvs7[1]? = some (.str "_digits2int.<locals>.inner" u7)) :
    Warm [(c7, oc7), (37, T3 47 4 c7), (c, oc), (30, T3 32 4 c)] :=
  ⟨c, oc, cvs, u, c7, oc7, cvs7, u7, by simp, by simp, h1, h2, by simp, by simp, h3, h4⟩
theorem lp0_use2 {w : World} {p : Program} {loose : List Str} {mean : ExcName → Option Value} {mg mb : Str → Option Value}
  {dp un : Nat} {gd : Option (List Code)} {cn : Str} {cs : Scope} {a : Addr} {ccd : Value} {cl : List (Str × Addr)} {outer : List Env} {A₀ : Around} {base h₀ : Heap} {L : Addr} {m : Str → Option Value} {s : Shared} {Q E : Value → Shared → Prop}
  {x n y : Int} {tx tn ty : Tok} {o30 : Obj} {news keep : List (Addr × Obj)} (hn0 : n = 0) (hdp : dp ≤ 380) (hun : un ≤ 960)
  (X : (Mine.hd.heap_39 w.params).In h₀) (B : Below A₀ base outer h₀) (C1 : CodeHd base 34 30) (F : Fr h₀ L s.heap m) (N : News h₀ L s.heap news) (hm : (30, o30) ∈ news) (R : Rm 30 news keep)
  (hst : o30 = tabObj #[] ∨ Hot 32 4 "_int2digits.<locals>.inner" o30 keep) (T : Top p loose mean mg mb h₀) (hk : cs.kind = .function)
  (ret : ∀ v t c oc cvs u h' tk', Fr h₀ L h' m → News h₀ L h' ((c, oc) :: (30, T3 32 4 c) :: keep) → oc.data = .fields cvs → cvs[1]? = some (.str "_int2digits.<locals>.inner" u) → Born o30 32 4 c keep → v = 1 → Q (.int v t) { s with heap := h', toks := tk' }) :
  wpAny (model Challenge.rw_hl0003_01.row.prog w) (ktrTop dp un gd cn cs L a ccd cl outer) (call (.ref 81) [.int x tx, .int n tn, .int y ty]) Q E s := by
  subst hn0
  exact lp0_use hdp hun X B C1 F N hm R hst T hk ret
theorem lp1_use2 {w : World} {p : Program} {loose : List Str} {mean : ExcName → Option Value} {mg mb : Str → Option Value}
  {dp un : Nat} {gd : Option (List Code)} {cn : Str} {cs : Scope} {a : Addr} {ccd : Value} {cl : List (Str × Addr)} {outer : List Env} {A₀ : Around} {base h₀ : Heap} {L : Addr} {m : Str → Option Value} {s : Shared} {Q E : Value → Shared → Prop}
  {x n y : Int} {tx tn ty : Tok} {o30 o37 : Obj} {news k1 keep : List (Addr × Obj)} (hn1 : n = 1) (hdp : dp ≤ 380) (hun : un ≤ 960)
  (X : (Mine.hd.heap_39 w.params).In h₀) (B : Below A₀ base outer h₀) (C1 : CodeHd base 34 30) (C2 : CodeHd base 41 37) (F : Fr h₀ L s.heap m) (N : News h₀ L s.heap news) (hm : (30, o30) ∈ news) (hm7 : (37, o37) ∈ news) (R : Rm 30 news k1) (R7 : Rm 37 k1 keep)
  (hst : o30 = tabObj #[] ∨ Hot 32 4 "_int2digits.<locals>.inner" o30 keep) (hst7 : o37 = tabObj #[] ∨ Hot 47 4 "_digits2int.<locals>.inner" o37 keep) (T : Top p loose mean mg mb h₀) (hk : cs.kind = .function)
  (hpb : PB y x)
  (ret : ∀ v t c oc cvs u c7 oc7 cvs7 u7 h' tk', Fr h₀ L h' m → News h₀ L h' ((c7, oc7) :: (37, T3 47 4 c7) :: (c, oc) :: (30, T3 32 4 c) :: keep) → oc.data = .fields cvs → cvs[1]? = some (.str "_int2digits.<locals>.inner" u) →
    oc7.data = .fields cvs7 → cvs7[1]? = some (.str "_digits2int.<locals>.inner" u7) → Born o30 32 4 c keep → Born o37 47 4 c7 keep → v = (1 * 1 * x).fmod y → Q (.int v t) { s with heap := h', toks := tk' }) :
  wpAny (model Challenge.rw_hl0003_01.row.prog w) (ktrTop dp un gd cn cs L a ccd cl outer) (call (.ref 81) [.int x tx, .int n tn, .int y ty]) Q E s := by
  subst hn1
  have hb := hpb.bnd
  have e : (1 * 1 * x : Int) = 1 * x := by omega
  refine lp1_use hdp hun X B C1 C2 F N hm hm7 R R7 hst hst7 T hk ?_ (by omega) (by omega) ?_ ret
  · rw [e]; exact (mul_bnd (y := 4) (by decide) (by decide) (by omega) (by omega) (by decide) (by decide)).1
  · rw [e]; exact (mul_bnd (by decide) (by decide) (by omega) (by omega) (by omega) (by omega)).2
theorem news_tabs {h₀ h : Heap} {L : Addr} {x1 x2 x3 x4 x5 a b c d e : Addr × Obj} (N : News h₀ L h [x1, x2, x3, x4, x5, a, b, c, d, e]) : News h₀ L h (d :: e :: [a, b, c]) := fun p hp => N p (by
  simp only [List.mem_cons, List.not_mem_nil, or_false] at hp ⊢
  rcases hp with h | h | h | h | h <;> simp [h])
theorem PwJ.start {b p : Int} {base : List (Addr × Obj)} (_ : PB p b) : PwJ b p base 0 [] ((37, tabObj #[]) :: (30, tabObj #[]) :: base) := .z
theorem off3_all {I C D : Addr} {news : List (Addr × Obj)} (h : LCg.Off3 I C D news) (x : Addr) (hx : x ∈ news.map (·.1)) : x ≠ I ∧ x ≠ C ∧ x ≠ D := by
  obtain ⟨p, hp, rfl⟩ := List.mem_map.mp hx
  exact h.mem p hp
theorem pw_call {w : World} {p : Program} {loose : List Str} {mean : ExcName → Option Value} {mg mb : Str → Option Value}
  {dp un : Nat} {gd : Option (List Code)} {cn : Str} {cs : Scope} {a : Addr} {ccd : Value} {cl : List (Str × Addr)} {outer : List Env} {A₀ : Around} {b0 h₀ : Heap} {L : Addr} {m : Str → Option Value} {s : Shared} {E : Value → Shared → Prop}
  {b y : Int} {tx tn ty : Tok} {i : Nat} {I C D : Addr} {oI oC : Obj} {ys : List Value} {news base : List (Addr × Obj)} (hdp : dp ≤ 380) (hun : un ≤ 960)
  (X : (Mine.hd.heap_39 w.params).In h₀) (B : Below A₀ b0 outer h₀) (C1 : CodeHd b0 34 30) (C2 : CodeHd b0 41 37) (F : Fr h₀ L s.heap m) (N : News h₀ L s.heap ((I, oI) :: (C, oC) :: (D, LCg.lst ys) :: news)) (T : Top p loose mean mg mb h₀) (hk : cs.kind = .function)
  (hJ : PwJ b y base i ys news) (hi : i < 16) (hpb : PB y b) (off : LCg.Off3 I C D news) (hb : ∀ q ∈ base, q.1 ≠ 30 ∧ q.1 ≠ 37) :
  wpAny (model Challenge.rw_hl0003_01.row.prog w) (ktrTop dp un gd cn cs L a ccd cl outer) (call (.ref 81) [.int b tx, .int (0 + (i : Int)) tn, .int y ty])
    (LCg.CompEnd h₀ L m s I oI C oC D (LCg.lst ys) (fun _ => True) (fun v news' => PwJ b y base (i + 1) (ys ++ [v]) news')) E s := by
  have hbb := hpb.bnd
  cases hJ with
  | z =>
    have o30 := off3_all off 30 (by simp)
    have o37 := off3_all off 37 (by simp)
    have keepR : Rm 30 ((I, oI) :: (C, oC) :: (D, LCg.lst []) :: (37, tabObj #[]) :: (30, tabObj #[]) :: base) ((I, oI) :: (C, oC) :: (D, LCg.lst []) :: (37, tabObj #[]) :: base) :=
      .miss (Ne.symm o30.1) (.miss (Ne.symm o30.2.1) (.miss (Ne.symm o30.2.2) (.miss (by decide) (.hit (.tl fun q hq => (hb q hq).1)))))
    refine lp0_use2 (o30 := tabObj #[]) (by simp) hdp hun X B C1 F N (by simp) keepR (.inl rfl) T hk fun v t c oc cvs u h' tk' F' N' f1 f2 bo e => ?_
    have lt := bo.2 rfl
    refine ⟨h', tk', (c, oc) :: (30, T3 32 4 c) :: (37, tabObj #[]) :: base, rfl, F', fun q hq => N' q (by simp only [List.mem_cons] at hq ⊢; grind), LCg.Off3.of fun q hq => ?_, trivial, .o (by rw [e]) f1 f2⟩
    rcases List.mem_cons.mp hq with rfl | hq
    · exact ⟨neN (Nat.ne_of_gt (lt (I, oI) (by simp))), neN (Nat.ne_of_gt (lt (C, oC) (by simp))), neN (Nat.ne_of_gt (lt (D, LCg.lst []) (by simp)))⟩
    · exact off3_all off q.1 (by simp only [List.mem_cons, List.map_cons] at hq ⊢; rcases hq with rfl | rfl | hq; exact .inr (.inl rfl); exact .inl rfl; exact .inr (.inr (List.mem_map_of_mem hq)))
  | @o yv t₀ c oc cvs u hy h1 h2 =>
    have o30 := off3_all off 30 (by simp)
    have o37 := off3_all off 37 (by simp)
    have oc3 := off3_all off c (by simp)
    have c30 : c ≠ 30 := code_ne N (by simp) h1 h2 (by simp) (.inr ⟨32, 4, c, rfl⟩)
    have c37 : c ≠ 37 := code_ne N (by simp) h1 h2 (by simp) (.inl rfl)
    have R1 : Rm 30 ((I, oI) :: (C, oC) :: (D, LCg.lst [yv]) :: (c, oc) :: (30, T3 32 4 c) :: (37, tabObj #[]) :: base) ((I, oI) :: (C, oC) :: (D, LCg.lst [yv]) :: (c, oc) :: (37, tabObj #[]) :: base) :=
      .miss (Ne.symm o30.1) (.miss (Ne.symm o30.2.1) (.miss (Ne.symm o30.2.2) (.miss c30 (.hit (.miss (by decide) (.tl fun q hq => (hb q hq).1))))))
    have R2 : Rm 37 ((I, oI) :: (C, oC) :: (D, LCg.lst [yv]) :: (c, oc) :: (37, tabObj #[]) :: base) ((I, oI) :: (C, oC) :: (D, LCg.lst [yv]) :: (c, oc) :: base) :=
      .miss (Ne.symm o37.1) (.miss (Ne.symm o37.2.1) (.miss (Ne.symm o37.2.2) (.miss c37 (.hit (.tl fun q hq => (hb q hq).2)))))
    refine lp1_use2 (o30 := T3 32 4 c) (o37 := tabObj #[]) (by simp) hdp hun X B C1 C2 F N (by simp) (by simp) R1 R2 (.inr ⟨c, oc, cvs, u, rfl, by simp, h1, h2⟩) (.inl rfl) T hk hpb fun v t c' oc' cvs' u' c7 oc7 cvs7 u7 h' tk' F' N' f1 f2 f3 f4 bo bo7 e => ?_
    obtain rfl : c' = c := bo.1 c rfl
    have lt := bo7.2 rfl
    refine ⟨h', tk', (c7, oc7) :: (37, T3 47 4 c7) :: (c', oc') :: (30, T3 32 4 c') :: base, rfl, F', fun q hq => N' q (by simp only [List.mem_cons] at hq ⊢; grind), LCg.Off3.of fun q hq => ?_, trivial, PwJ.two hy rfl rfl e f1 f2 f3 f4⟩
    rcases List.mem_cons.mp hq with rfl | hq
    · exact ⟨neN (Nat.ne_of_gt (lt (I, oI) (by simp))), neN (Nat.ne_of_gt (lt (C, oC) (by simp))), neN (Nat.ne_of_gt (lt (D, LCg.lst [yv]) (by simp)))⟩
    · exact off3_all off q.1 (by simp only [List.mem_cons, List.map_cons] at hq ⊢; rcases hq with rfl | rfl | rfl | hq; exact .inr (.inr (.inl rfl)); exact .inl rfl; exact .inr (.inl rfl); exact .inr (.inr (.inr (List.mem_map_of_mem hq))))
  | @w _ _ c c7 oc oc7 cvs cvs7 u u7 hi2 h1 h2 h3 h4 hys =>
    have hw : Warm [(c7, oc7), (37, T3 47 4 c7), (c, oc), (30, T3 32 4 c)] := warm_of (base := []) h1 h2 h3 h4
    refine lp_use hdp hun X B C1 C2 F N hw (fun q hq => by simp only [List.mem_cons, List.not_mem_nil, or_false] at hq ⊢; grind) T hk (by omega) (by omega) (by omega) (by omega) (by omega) (by omega) fun v t h' tk' F' N' e _ _ => ?_
    exact ⟨h', tk', _, rfl, F', N', off, trivial, PwJ.next hi2 h1 h2 h3 h4 hys e⟩
theorem PwJ.sub {b p : Int} {base : List (Addr × Obj)} {i : Nat} {ys : List Value} {news : List (Addr × Obj)} (h : PwJ b p base i ys news) : ∀ q ∈ base, q ∈ news := fun q hq => by
  cases h <;> simp [hq]
theorem PwJ.fin2 {b p : Int} {base : List (Addr × Obj)} {i : Nat} {ys : List Value} {news : List (Addr × Obj)} (h : PwJ b p base i ys news) (hi : 2 ≤ i) :
    ∃ wl, Warm wl ∧ news = wl ++ base ∧ IntsAre ys (pws b p i) ∧ ∀ q ∈ wl, ∃ vs, q.2.data = .fields vs := by
  cases h with
  | z => omega
  | o => omega
  | @w _ _ c c7 oc oc7 cvs cvs7 u u7 hi2 h1 h2 h3 h4 hys =>
    refine ⟨_, warm_of (base := []) h1 h2 h3 h4, rfl, hys, fun q hq => ?_⟩
    simp only [List.mem_cons, List.not_mem_nil, or_false] at hq
    rcases hq with rfl | rfl | rfl | rfl
    · exact ⟨_, h3⟩
    · exact ⟨_, rfl⟩
    · exact ⟨_, h1⟩
    · exact ⟨_, rfl⟩
theorem news_fin3 {h₀ h : Heap} {L : Addr} {x a b c : Addr × Obj} {wl : List (Addr × Obj)} (N : News h₀ L h (x :: (wl ++ [a, b, c]))) : News h₀ L h (x :: a :: b :: c :: wl) := fun p hp => N p (by
  simp only [List.mem_cons, List.mem_append, List.not_mem_nil, or_false] at hp ⊢
  grind)
theorem off1_all {D : Addr} : ∀ {l : List (Addr × Obj)}, LCg.Off1 D l → ∀ p ∈ l, p.1 ≠ D
  | [], _, _, h => nomatch h
  | _ :: _, x, p, h => by
    rcases List.mem_cons.mp h with rfl | h
    · exact x.1
    · exact off1_all x.2 p h
theorem off1_fin {D : Addr} {a b c : Addr × Obj} {wl : List (Addr × Obj)} (o : LCg.Off1 D (wl ++ [a, b, c])) : (@Ne Nat a.1 D ∧ @Ne Nat b.1 D ∧ @Ne Nat c.1 D) ∧ ∀ q ∈ wl, q.1 ≠ D :=
  ⟨⟨off1_all o a (by simp), off1_all o b (by simp), off1_all o c (by simp)⟩, fun q hq => off1_all o q (by simp [hq])⟩
theorem cell_off {h₀ h : Heap} {L : Addr} {news wl : List (Addr × Obj)} {a : Addr} {o : Obj} {v : Option Value} (N : News h₀ L h news) (hm : (a, o) ∈ news) (hd : o.data = .cell v) (hs : ∀ q ∈ wl, q ∈ news) (hf : ∀ q ∈ wl, ∃ vs, q.2.data = .fields vs) : ∀ q ∈ wl, q.1 ≠ a := fun q hq e => by
  obtain ⟨vs, hv⟩ := hf q hq
  have e1 := (N _ (hs q hq)).1
  rw [e, (N _ hm).1] at e1
  have e2 : o = q.2 := Option.some.inj e1
  rw [← e2, hd] at hv
  cases hv
theorem pws_perm {p b : Int} (pb : PB p b) : (rangeKs 1 (p - 1).toNat).Perm (pws b p (p - 1).toNat) := by
  rcases pb.cases with ⟨rfl, rfl⟩ | ⟨rfl, rfl⟩ | ⟨rfl, rfl⟩ | ⟨rfl, rfl⟩ <;> decide +kernel
theorem rg_sorted {p b : Int} (pb : PB p b) : (rangeKs 1 (p - 1).toNat).Pairwise (· ≤ ·) := by
  rcases pb.cases with ⟨rfl, rfl⟩ | ⟨rfl, rfl⟩ | ⟨rfl, rfl⟩ | ⟨rfl, rfl⟩ <;> decide +kernel
theorem pw_sorted {p b : Int} {n' : List Int} (pb : PB p b) (hp : n'.Perm (pws b p (p - 1).toNat)) (ho : n'.Pairwise (· ≤ ·)) : n' = rangeKs 1 (p - 1).toNat :=
  ksm_same (hp.trans (pws_perm pb).symm) ho (rg_sorted pb)
theorem ite_nd {P A B : Prop} [Decidable P] (h : P) (hq : B) : if (!decide P) = true then A else B := by
  rw [if_neg (by simp [h])]
  exact hq
theorem ite_yd {P A B : Prop} [Decidable P] (h : ¬ P) (hq : A) : if (!decide P) = true then A else B := by
  rw [if_pos (by simp [h])]
  exact hq
theorem news_drop1 {h₀ h : Heap} {L : Addr} {a : Addr × Obj} {r : List (Addr × Obj)} (N : News h₀ L h (a :: r)) : News h₀ L h r := fun p hp => N p (.tail _ hp)
structure XY (p x y : Int) : Prop where
  x1 : 1 ≤ x
  x2 : x < p
  y1 : 1 ≤ y
  y2 : y < p
theorem two_list : ∀ ns : List Int, ∃ x y, List.take 2 (ns ++ [0, 0]) = [x, y]
  | [] => ⟨_, _, rfl⟩
  | [_] => ⟨_, _, rfl⟩
  | _ :: _ :: _ => ⟨_, _, rfl⟩
theorem two_of {ys : List Value} {ns : List Int} {p b : Int} (pb : PB p b) (h : IntsAre ys (List.map (fun k' => 1 + k'.fmod (p - 1)) (List.take 2 (ns ++ [0, 0])))) :
    ∃ x y t u, ys = [.int x t, .int y u] ∧ XY p x y := by
  obtain ⟨x, y, e⟩ := two_list ns
  rw [e] at h
  have hb := pb.bnd
  have a1 := Int.fmod_nonneg_of_pos x (show (0 : Int) < p - 1 by omega)
  have a2 := Int.fmod_lt_of_pos x (show (0 : Int) < p - 1 by omega)
  have b1 := Int.fmod_nonneg_of_pos y (show (0 : Int) < p - 1 by omega)
  have b2 := Int.fmod_lt_of_pos y (show (0 : Int) < p - 1 by omega)
  simp only [List.map_cons, List.map_nil] at h
  obtain ⟨t, vs, rfl, h2⟩ := ints_inv1 h
  obtain ⟨u, vs2, rfl, h3⟩ := ints_inv1 h2
  obtain rfl := ints_inv0 h3
  exact ⟨_, _, t, u, rfl, ⟨by omega, by omega, by omega, by omega⟩⟩
end
section
theorem le_step {v : Int} (k : Int) (h : v ≤ k + 1) : v ≤ k ∨ v = k + 1 := by omega
theorem lt_le1 {v k : Int} (h : v < k + 1) : v ≤ k := by omega
theorem no_one {v : Int} (h1 : 1 ≤ v) (h : v ≤ 0) : False := by omega
theorem small_cases {p b v : Int} (pb : PB p b) (h1 : 1 ≤ v) (h2 : v < p) : (p = 5 ∧ b = 2 ∧ (v = 1 ∨ v = 2 ∨ v = 3 ∨ v = 4)) ∨ (p = 7 ∧ b = 3 ∧ (v = 1 ∨ v = 2 ∨ v = 3 ∨ v = 4 ∨ v = 5 ∨ v = 6)) ∨
    (p = 11 ∧ b = 2 ∧ (v = 1 ∨ v = 2 ∨ v = 3 ∨ v = 4 ∨ v = 5 ∨ v = 6 ∨ v = 7 ∨ v = 8 ∨ v = 9 ∨ v = 10)) ∨ (p = 13 ∧ b = 2 ∧ (v = 1 ∨ v = 2 ∨ v = 3 ∨ v = 4 ∨ v = 5 ∨ v = 6 ∨ v = 7 ∨ v = 8 ∨ v = 9 ∨ v = 10 ∨ v = 11 ∨ v = 12)) := by
  rcases pb.cases with ⟨rfl, rfl⟩ | ⟨rfl, rfl⟩ | ⟨rfl, rfl⟩ | ⟨rfl, rfl⟩
  · have h3 : v ≤ 4 := lt_le1 h2
    clear h2
    rcases le_step 3 h3 with h3 | rfl
    case inr => decide
    rcases le_step 2 h3 with h3 | rfl
    case inr => decide
    rcases le_step 1 h3 with h3 | rfl
    case inr => decide
    rcases le_step 0 h3 with h3 | rfl
    case inr => decide
    exact (no_one h1 h3).elim
  · have h3 : v ≤ 6 := lt_le1 h2
    clear h2
    rcases le_step 5 h3 with h3 | rfl
    case inr => decide
    rcases le_step 4 h3 with h3 | rfl
    case inr => decide
    rcases le_step 3 h3 with h3 | rfl
    case inr => decide
    rcases le_step 2 h3 with h3 | rfl
    case inr => decide
    rcases le_step 1 h3 with h3 | rfl
    case inr => decide
    rcases le_step 0 h3 with h3 | rfl
    case inr => decide
    exact (no_one h1 h3).elim
  · have h3 : v ≤ 10 := lt_le1 h2
    clear h2
    rcases le_step 9 h3 with h3 | rfl
    case inr => decide
    rcases le_step 8 h3 with h3 | rfl
    case inr => decide
    rcases le_step 7 h3 with h3 | rfl
    case inr => decide
    rcases le_step 6 h3 with h3 | rfl
    case inr => decide
    rcases le_step 5 h3 with h3 | rfl
    case inr => decide
    rcases le_step 4 h3 with h3 | rfl
    case inr => decide
    rcases le_step 3 h3 with h3 | rfl
    case inr => decide
    rcases le_step 2 h3 with h3 | rfl
    case inr => decide
    rcases le_step 1 h3 with h3 | rfl
    case inr => decide
    rcases le_step 0 h3 with h3 | rfl
    case inr => decide
    exact (no_one h1 h3).elim
  · have h3 : v ≤ 12 := lt_le1 h2
    clear h2
    rcases le_step 11 h3 with h3 | rfl
    case inr => decide
    rcases le_step 10 h3 with h3 | rfl
    case inr => decide
    rcases le_step 9 h3 with h3 | rfl
    case inr => decide
    rcases le_step 8 h3 with h3 | rfl
    case inr => decide
    rcases le_step 7 h3 with h3 | rfl
    case inr => decide
    rcases le_step 6 h3 with h3 | rfl
    case inr => decide
    rcases le_step 5 h3 with h3 | rfl
    case inr => decide
    rcases le_step 4 h3 with h3 | rfl
    case inr => decide
    rcases le_step 3 h3 with h3 | rfl
    case inr => decide
    rcases le_step 2 h3 with h3 | rfl
    case inr => decide
    rcases le_step 1 h3 with h3 | rfl
    case inr => decide
    rcases le_step 0 h3 with h3 | rfl
    case inr => decide
    exact (no_one h1 h3).elim
/-- where a number lies among the powers -/
@[irreducible] noncomputable def pidx (b p v : Int) : Int := (((pws b p (p - 1).toNat).idxOf v : Nat) : Int)
theorem mem_pws {p b v : Int} (pb : PB p b) (h1 : 1 ≤ v) (h2 : v < p) : v ∈ pws b p (p - 1).toNat := by
  rcases small_cases pb h1 h2 with ⟨rfl, rfl, h⟩ | ⟨rfl, rfl, h⟩ | ⟨rfl, rfl, h⟩ | ⟨rfl, rfl, h⟩
  · rcases h with rfl | rfl | rfl | rfl <;> decide +kernel
  · rcases h with rfl | rfl | rfl | rfl | rfl | rfl <;> decide +kernel
  · rcases h with rfl | rfl | rfl | rfl | rfl | rfl | rfl | rfl | rfl | rfl <;> decide +kernel
  · rcases h with rfl | rfl | rfl | rfl | rfl | rfl | rfl | rfl | rfl | rfl | rfl | rfl <;> decide +kernel
theorem which_all {p b v : Int} (pb : PB p b) (h1 : 1 ≤ v) (h2 : v < p) : WhichIs b v p (pidx b p v) := by
  refine ⟨?_⟩
  rcases small_cases pb h1 h2 with ⟨rfl, rfl, h⟩ | ⟨rfl, rfl, h⟩ | ⟨rfl, rfl, h⟩ | ⟨rfl, rfl, h⟩
  · rcases h with rfl | rfl | rfl | rfl <;> decide +kernel
  · rcases h with rfl | rfl | rfl | rfl | rfl | rfl <;> decide +kernel
  · rcases h with rfl | rfl | rfl | rfl | rfl | rfl | rfl | rfl | rfl | rfl <;> decide +kernel
  · rcases h with rfl | rfl | rfl | rfl | rfl | rfl | rfl | rfl | rfl | rfl | rfl | rfl <;> decide +kernel
theorem pidx_bnd {p b v : Int} (pb : PB p b) (h1 : 1 ≤ v) (h2 : v < p) : 0 ≤ pidx b p v ∧ pidx b p v < p - 1 := by
  have h := List.idxOf_lt_length_iff.mpr (mem_pws pb h1 h2)
  rw [pws_len] at h
  have hb := pb.bnd
  unfold pidx
  omega
theorem pidx_last {p b : Int} (pb : PB p b) : pidx b p (p - 1) = (p - 1).fdiv 2 := by
  rcases pb.cases with ⟨rfl, rfl⟩ | ⟨rfl, rfl⟩ | ⟨rfl, rfl⟩ | ⟨rfl, rfl⟩ <;> decide +kernel
/-- of two numbers multiplied the powers come together -/
noncomputable def allTwo (p b : Int) : Bool := (List.range (p - 1).toNat).all fun i => (List.range (p - 1).toNat).all fun j =>
  decide (pidx b p (((1 + (i : Int)) * (1 + (j : Int))).fmod p) = (pidx b p (1 + (i : Int)) + pidx b p (1 + (j : Int))).fmod (p - 1)) && decide (1 ≤ ((1 + (i : Int)) * (1 + (j : Int))).fmod p) &&
  decide (lpv (lpv b (1 + (j : Int)) p) (1 + (i : Int)) p = lpv (lpv b (1 + (i : Int)) p) (1 + (j : Int)) p)
theorem allTwo_ok {p b : Int} (pb : PB p b) : allTwo p b = true := by
  rcases pb.cases with ⟨rfl, rfl⟩ | ⟨rfl, rfl⟩ | ⟨rfl, rfl⟩ | ⟨rfl, rfl⟩ <;> decide +kernel
theorem two_ok {p b x y : Int} (pb : PB p b) (hx1 : 1 ≤ x) (hx2 : x < p) (hy1 : 1 ≤ y) (hy2 : y < p) :
    pidx b p ((x * y).fmod p) = (pidx b p x + pidx b p y).fmod (p - 1) ∧ 1 ≤ (x * y).fmod p ∧ lpv (lpv b y p) x p = lpv (lpv b x p) y p := by
  have h := allTwo_ok pb
  unfold allTwo at h
  rw [List.all_eq_true] at h
  have h1 := h (x - 1).toNat (List.mem_range.mpr (by omega))
  rw [List.all_eq_true] at h1
  have h2 := h1 (y - 1).toNat (List.mem_range.mpr (by omega))
  simp only [Bool.and_eq_true, decide_eq_true_eq] at h2
  rw [show (1 + (((x - 1).toNat : Nat) : Int)) = x by omega, show (1 + (((y - 1).toNat : Nat) : Int)) = y by omega] at h2
  exact ⟨h2.1.1, h2.1.2, h2.2⟩
theorem two_ok2 {p b x y : Int} (pb : PB p b) (xy : XY p x y) :
    pidx b p ((x * y).fmod p) = (pidx b p x + pidx b p y).fmod (p - 1) ∧ 1 ≤ (x * y).fmod p ∧ (x * y).fmod p < p ∧ lpv (lpv b y p) x p = lpv (lpv b x p) y p ∧ 0 ≤ x * y ∧ x * y ≤ 144 := by
  have h := two_ok pb xy.x1 xy.x2 xy.y1 xy.y2
  have hb := pb.bnd
  have hx := xy.x1; have hx2 := xy.x2; have hy := xy.y1; have hy2 := xy.y2
  have m1 : 0 ≤ x * y := Int.mul_nonneg (by omega) (by omega)
  have m2 : x * y ≤ 12 * 12 := Int.mul_le_mul (by omega) (by omega) (by omega) (by decide)
  exact ⟨h.1, h.2.1, Int.fmod_lt_of_pos _ (by omega), h.2.2, m1, m2⟩
end
theorem walk_off2 : True := by
  w_top off
  trivial
section
local macro_rules | `(tactic| walk_at "subscriptTail") => `(tactic| (k_here; (with_reducible refine gd_sL ?_); k_dflt (refine' sub_PB ?k1 ?k2 ?k3 ?_ ?k7; (case k1 => k_asm); (case k2 => k_mem); (case k3 => exact .cons (by k_mem) (.cons (by k_mem) (.cons (by k_mem) (.cons (by k_mem) .nil)))); (case k7 => with_unfolding_all rfl); k_whole); intro _ _ _ _ _ pb9 _; (have pc9 := pb9.bnd)))
noncomputable abbrev nuM (m0 : Str → Option Value) (v : Option Value) : Str → Option Value := fun z => if z = Str.ofString "number" then v else m0 z
theorem nuM_step (m0 : Str → Option Value) (v v' : Option Value) : (fun z => if z = Str.ofString "number" then v' else nuM m0 v z) = nuM m0 v' := by
  funext z
  unfold nuM
  (repeat' split) <;> first | rfl | contradiction
theorem nuM_init {m : Str → Option Value} {v : Option Value} (h : m (Str.ofString "number") = v) : m = nuM m v := by
  funext z
  unfold nuM
  split
  · subst z; exact h
  · rfl
/-- ints from one up, below p -/
inductive NumsIn (p : Int) : List Value → Prop
  | nil : NumsIn p []
  | cons {n : Int} {t : Tok} {r : List Value} : 1 ≤ n → n < p → NumsIn p r → NumsIn p (.int n t :: r)
inductive NuJ (p : Int) (m0 : Str → Option Value) (keep : List (Addr × Obj)) : List Value → (Str → Option Value) → List (Addr × Obj) → Prop
  | mk {v : Option Value} {l : List Value} (h : NumsIn p l) : NuJ p m0 keep l (nuM m0 v) keep
theorem nu_loop {prog : Program} {w : World} {A : Around} {E : Value → Shared → Prop} {s : Shared} {env : Env} {h₀ : Heap} {v : Str} {body : List Stmt} {Q : Flow → Shared → Prop} {I : Addr} {lp : Addr × Obj}
    {p : Int} {m : Str → Option Value} {keep : List (Addr × Obj)} {vs : List Value} (hI : NumsIn p vs)
    (step : ∀ n t r m0 vd (it : Obj) h tk, 1 ≤ n → n < p → NumsIn p r → it.cls = .type "list_iterator" → Fr h₀ env.locals h (fun y => if y = v then some (.int n t) else nuM m vd y) → News h₀ env.locals h ((I, it) :: keep) → m0 = m →
      wpAny (model prog w) A (execs body env) (UnrPost h₀ env.locals { s with heap := h, toks := tk } I it (fun m' n' => lp ∈ n' ∧ NuJ p m keep r m' n') Q) E { s with heap := h, toks := tk })
    (fin : ∀ vd h tk, Fr h₀ env.locals h (nuM m vd) → News h₀ env.locals h keep → Q .next { s with heap := h, toks := tk }) :
    ListRest prog w A E h₀ env v body Q s I lp vs m keep := by
  refine list_ind (NuJ p m keep) (fun a r m1 news hJ it h tk hc F N => ?_) (fun m1 news hJ h tk F N => ?_) _ _ _ ?_
  · cases hJ with
    | mk hn =>
      cases hn with
      | cons h1 h2 h3 => exact step _ _ r m _ it h tk h1 h2 h3 hc F N rfl
  · cases hJ with
    | mk hn => exact fin _ h tk F N
  · have h : NuJ p m keep vs (nuM m (m (Str.ofString "number"))) keep := .mk hI
    rw [← nuM_init rfl] at h
    exact h
/-- list.index of a number among the powers -/
theorem index_pw {prog : Program} {w : World} {A : Around} {E : Value → Shared → Prop} {s : Shared} {h₀ : Heap} {L l : Addr} {news : List (Addr × Obj)} {vs : List Value} {e : Nat} {p b n : Int} {t : Tok} {Q : Value → Shared → Prop}
    (N : News h₀ L s.heap news) (hm : (l, listOf vs.toArray e) ∈ news) (hi : IntsAre vs (pws b p (p - 1).toNat)) (pb : PB p b) (h1 : 1 ≤ n) (h2 : n < p)
    (h : 0 ≤ pidx b p n → pidx b p n < p - 1 → Q (.int (pidx b p n) s.toks) { s with toks := s.toks + 1 }) : wpAny (model prog w) A (call (.builtin "list.index") [.ref l, .int n t]) Q E s := by
  have z1 := (pidx_bnd pb h1 h2).1
  have z2 := (pidx_bnd pb h1 h2).2
  unfold pidx at h z1 z2
  refine index_list_ints ⟨_, (N _ hm).1, rfl, e, rfl⟩ hi ?_ (mem_pws pb h1 h2) (h z1 z2)
  rcases pb.cases with ⟨rfl, rfl⟩ | ⟨rfl, rfl⟩ | ⟨rfl, rfl⟩ | ⟨rfl, rfl⟩ <;> decide +kernel
local macro_rules | `(tactic| walk_at "exec For") => `(tactic| (k_here; (rename Fr _ _ _ _ => lF'); (with_unfolding_all refine' For_invVF lF' ?k1 ?k2 ?_; (case k1 | k2 => exact rfl); k_whole)))
local macro_rules | `(tactic| walk_at "pyIter ref") => `(tactic| walk_at "MINE h0")
local macro_rules | `(tactic| walk_at "MINE lpw") => `(tactic| (k_here; (with_reducible refine gd_f 81 ?_); k_dflt (apply lp_use; walk_at "MINE cb"; (case hw => assumption); (case hs => walk_at "MINE sub"); (case hx | hx2 | hn | hn2 | hy | hy2 => omega); k_whole); intro _ _ _ _ _ _ e9 _ _; (subst e9); (try dsimp only); (try k_fold)))
local macro_rules | `(tactic| walk_at "call ref") => `(tactic| (k_here; (with_reducible refine gd_f 81 ?_); walk_at "MINE lpw"))
local macro_rules | `(tactic| walk_at "call ref") => `(tactic| (k_here; (with_reducible refine gd_f 88 ?_); k_dflt (apply which_use; walk_at "MINE cb"; (case hw => assumption); (case hs => walk_at "MINE sub"); (case hr => exact which_all (by assumption) (by omega) (by omega)); (case hx | hx2 | hn | hn2 | hy | hy2 => omega); k_whole); intro _ _ _ _ _ _ e9; subst e9; (try dsimp only); (try k_fold)))
local macro_rules | `(tactic| walk_at "call builtin:list.index") => `(tactic| (k_here; (with_reducible refine gd_ri ?_); k_dflt (refine' index_pw ?N ?m ?i ?pb ?h1 ?h2 ?_; (case N => k_asm); (case m => k_mem); (case i | pb => assumption); (case h1 | h2 => omega); k_whole); intro _ _; (try dsimp only)))

/-- the powers of a number, over and over -/
noncomputable def powlR (v p : Int) : Nat → List Int
  | 0 => []
  | n + 1 => powlR v p n ++ [(v ^ (0 + (n : Int)).toNat).fmod p]
@[irreducible] noncomputable def powl (v p : Int) (n : Nat) : List Int := powlR v p n
theorem powl_zero (v p : Int) : powl v p 0 = [] := by unfold powl; rfl
theorem powl_succ (v p : Int) (n : Nat) : powl v p (n + 1) = powl v p n ++ [(v ^ (0 + (n : Int)).toNat).fmod p] := by unfold powl; rfl
theorem powl_len (v p : Int) : ∀ n, (powl v p n).length = n
  | 0 => by rw [powl_zero]; rfl
  | n + 1 => by rw [powl_succ, List.length_append, powl_len]; rfl
@[irreducible] noncomputable def wholeF (p : Int) (v : Int) : Bool := decide (((keysOf (powl v p (p - 1).toNat)).length : Int) = p - 1)
theorem whole_eq (p v : Int) : (((keysOf (powl v p (p - 1 - 0).toNat)).length : Int) == p - 1) = wholeF p v := by
  rw [Int.sub_zero]
  unfold wholeF
  rfl
noncomputable abbrev wholeP {p b : Int} (_ : PB p b) : Int → Bool := wholeF p
inductive KJ (v p : Int) (base : List (Addr × Obj)) : Nat → List Value → List (Addr × Obj) → Prop
  | mk {i : Nat} {ys : List Value} {ts : List (Addr × Obj)} (h : PairsK (ts ++ base) ys (powl v p i)) : KJ v p base i ys (ts ++ base)
theorem KJ.start (v p : Int) (base : List (Addr × Obj)) : KJ v p base 0 [] base := KJ.mk (ts := []) (by rw [powl_zero]; exact .nil)
theorem KJ.startP {p b : Int} (_ : PB p b) (v : Int) (base : List (Addr × Obj)) : KJ v p base 0 [] base := KJ.start v p base
theorem KJ.sub {v p : Int} {base : List (Addr × Obj)} {i : Nat} {ys : List Value} {news : List (Addr × Obj)} (h : KJ v p base i ys news) : ∀ q ∈ base, q ∈ news := fun q hq => by
  cases h
  exact List.mem_append_right _ hq
theorem KJ.next {v p : Int} {base : List (Addr × Obj)} {i : Nat} {ys : List Value} {news : List (Addr × Obj)} {T : Addr} {t u : Tok} {k : Int} {e : Nat} (h : KJ v p base i ys news) (hk : k = (v ^ (0 + (i : Int)).toNat).fmod p) :
    KJ v p base (i + 1) (ys ++ [.ref T]) ((T, ({ cls := .type "tuple", data := .seq #[.int k t, .int 1 u] e } : Obj)) :: news) := by
  cases h with
  | @mk ts h =>
    refine KJ.mk (ts := (T, _) :: ts) ?_
    rw [powl_succ]
    subst hk
    exact PairsK.append (.cons (.head _) .nil) (h.mono fun q hq => .tail _ hq)
theorem KJ.endT {v p : Int} {base : List (Addr × Obj)} {i : Nat} {ys : List Value} {news : List (Addr × Obj)} {T I C D : Addr} {oI oC : Obj} {t u : Tok} {k : Int} {e : Nat} {h₀ h' : Heap} {L : Addr} {m : Str → Option Value} {s₁ : Shared} {tk : Nat} (h : KJ v p base i ys news)
    (F : Fr h₀ L h' m) (N : News h₀ L h' ((T, ({ cls := .type "tuple", data := .seq #[.int k t, .int 1 u] e } : Obj)) :: (I, oI) :: (C, oC) :: (D, LCg.lst ys) :: news)) (l : ∀ q ∈ (I, oI) :: (C, oC) :: (D, LCg.lst ys) :: news, q.1 < T) (off : LCg.Off3 I C D news) (hk : k = (v ^ (0 + (i : Int)).toNat).fmod p) :
    LCg.CompEnd h₀ L m s₁ I oI C oC D (LCg.lst ys) (fun _ => True) (fun y news' => KJ v p base (i + 1) (ys ++ [y]) news') (.ref T) { s₁ with heap := h', toks := tk } :=
  LCg.CompEnd.intro F N ((T, ({ cls := .type "tuple", data := .seq #[.int k t, .int 1 u] e } : Obj)) :: news) (fun q hq => by simp only [List.mem_cons] at hq ⊢; rcases hq with h | h | h | h | h <;> simp [h]) ⟨⟨neN (Nat.ne_of_gt (l (I, oI) (by simp))), neN (Nat.ne_of_gt (l (C, oC) (by simp))), neN (Nat.ne_of_gt (l (D, LCg.lst ys) (by simp)))⟩, off⟩ trivial (h.next hk)
theorem KJ.fin {v p : Int} {base : List (Addr × Obj)} {i : Nat} {ys : List Value} {news : List (Addr × Obj)} (h : KJ v p base i ys news) : PairsK news ys (powl v p i) := by
  cases h with
  | mk h => exact h
local macro_rules | `(tactic| walk_at "binaryOp Pow int int") => `(tactic| (k_here; (with_reducible refine pow_int_small ?kb1 ?kb2 ?kb3 ?_); (case kb1 | kb2 => omega); (case kb3 => omega)))

@[irreducible] noncomputable def partF (p v k : Int) : Bool := decide (v.fmod k = (p - 1).fmod k ∧ (p - 1).fmod k = 0)
@[irreducible] noncomputable def freeF (p v : Int) : Bool := decide (filt (partF p v) 2 (p - 2).toNat = [])
noncomputable abbrev freeP {p b : Int} (_ : PB p b) : Int → Bool := freeF p
inductive FJ (p v : Int) (base : List (Addr × Obj)) : Nat → List Value → List (Addr × Obj) → Prop
  | mk {i : Nat} {ys : List Value} (h : IntsAre ys (filt (partF p v) 2 i)) : FJ p v base i ys base
theorem FJ.startP {p b : Int} (_ : PB p b) (v : Int) (base : List (Addr × Obj)) : FJ p v base 0 [] base := .mk (by rw [filt_zero]; exact .nil)
theorem FJ.yes {p v : Int} {base : List (Addr × Obj)} {i : Nat} {ys : List Value} {t : Tok} (h : IntsAre ys (filt (partF p v) 2 i)) (h1 : v.fmod (2 + (i : Int)) = (p - 1).fmod (2 + (i : Int))) (h2 : (p - 1).fmod (2 + (i : Int)) = 0) : FJ p v base (i + 1) (ys ++ [.int (2 + (i : Int)) t]) base := by
  refine .mk ?_
  rw [filt_succ, if_pos (by unfold partF; exact decide_eq_true ⟨h1, h2⟩)]
  exact h.append (.cons _ _ .nil)
theorem FJ.no {p v : Int} {base : List (Addr × Obj)} {i : Nat} {ys : List Value} (h : IntsAre ys (filt (partF p v) 2 i)) (h1 : ¬ (v.fmod (2 + (i : Int)) = (p - 1).fmod (2 + (i : Int)) ∧ (p - 1).fmod (2 + (i : Int)) = 0)) : FJ p v base (i + 1) ys base := by
  refine .mk ?_
  rw [filt_succ, if_neg (by unfold partF; simpa using h1)]
  exact h
theorem free_perm {p b : Int} (pb : PB p b) : (filt (wholeF p) 1 (p - 1).toNat).Perm ((filt (freeF p) 0 (p - 1).toNat).map fun k => (pws b p (p - 1).toNat).getD k.toNat 0) := by
  rcases pb.cases with ⟨rfl, rfl⟩ | ⟨rfl, rfl⟩ | ⟨rfl, rfl⟩ | ⟨rfl, rfl⟩ <;> decide +kernel
theorem whole_sorted {p b : Int} (pb : PB p b) : (filt (wholeF p) 1 (p - 1).toNat).Pairwise (· ≤ ·) := by
  rcases pb.cases with ⟨rfl, rfl⟩ | ⟨rfl, rfl⟩ | ⟨rfl, rfl⟩ | ⟨rfl, rfl⟩ <;> decide +kernel
theorem free_eq {p v : Int} [inst : Decidable (filt (partF p v) 2 (p - 2).toNat = [])] : @decide _ inst = freeF p v := by
  unfold freeF
  congr
theorem filt_bnd (f : Int → Bool) (a : Int) : ∀ n, ∀ k ∈ filt f a n, a ≤ k ∧ k < a + (n : Int)
  | 0, _, h => by rw [filt_zero] at h; cases h
  | n + 1, k, h => by
    rw [filt_succ] at h
    split at h
    · rcases List.mem_append.mp h with h | h
      · have := filt_bnd f a n k h
        omega
      · have := List.mem_singleton.mp h
        omega
    · have := filt_bnd f a n k h
      omega
theorem filt_len (f : Int → Bool) (a : Int) : ∀ n, (filt f a n).length ≤ n
  | 0 => by rw [filt_zero]; exact Nat.le_refl _
  | n + 1 => by
    rw [filt_succ]
    have := filt_len f a n
    split
    · rw [List.length_append, List.length_singleton]; omega
    · omega
noncomputable abbrev pwAt (b p k : Int) : Int := (pws b p (p - 1).toNat).getD k.toNat 0
inductive RJ (b p : Int) (fs : List Int) (base : List (Addr × Obj)) : Nat → List Value → List (Addr × Obj) → Prop
  | mk {i : Nat} {ys : List Value} (h : IntsAre ys ((fs.take i).map (pwAt b p))) : RJ b p fs base i ys base
theorem RJ.startP {p b : Int} {vs : List Value} {fs : List Int} (_ : PB p b) (_ : IntsAre vs fs) (base : List (Addr × Obj)) : RJ b p fs base 0 [] base := .mk .nil
theorem RJ.next {b p : Int} {fs : List Int} {base : List (Addr × Obj)} {i : Nat} {ys : List Value} {t : Tok} (h : IntsAre ys ((fs.take i).map (pwAt b p))) (hi : i < fs.length) : RJ b p fs base (i + 1) (ys ++ [.int (pwAt b p (fs.getD i 0)) t]) base := by
  refine .mk ?_
  have e : fs.take (i + 1) = fs.take i ++ [fs.getD i 0] := by
    rw [List.take_add_one]
    congr 1
    rw [List.getD_eq_getElem?_getD, List.getElem?_eq_getElem hi]
    rfl
  rw [e, List.map_append]
  exact h.append (.cons _ _ .nil)
theorem free_at {p b : Int} (pb : PB p b) {i : Nat} (hi : i < (filt (freeP pb) 0 (p - 1 - 0).toNat).length) : 0 ≤ (filt (freeP pb) 0 (p - 1 - 0).toNat).getD i 0 ∧ (filt (freeP pb) 0 (p - 1 - 0).toNat).getD i 0 < p - 1 := by
  have hb := pb.bnd
  have hm : (filt (freeP pb) 0 (p - 1 - 0).toNat).getD i 0 ∈ filt (freeP pb) 0 (p - 1 - 0).toNat := by
    rw [List.getD_eq_getElem?_getD, List.getElem?_eq_getElem hi]
    exact List.getElem_mem hi
  have := filt_bnd _ _ _ _ hm
  omega
theorem free_len {p b : Int} (pb : PB p b) : (filt (freeP pb) 0 (p - 1 - 0).toNat).length ≤ 12 := by
  have hb := pb.bnd
  have := filt_len (freeP pb) 0 (p - 1 - 0).toNat
  omega
theorem pws_lenP {p b : Int} (_ : PB p b) : (pws b p (p - 1).toNat).length = (p - 1).toNat := pws_len _ _ _
theorem RJ.fin {b p : Int} {fs : List Int} {base : List (Addr × Obj)} {i : Nat} {ys : List Value} {news : List (Addr × Obj)} (h : RJ b p fs base i ys news) (hi : i = fs.length) : news = base ∧ IntsAre ys ((fs.take fs.length).map (pwAt b p)) := by
  subst hi
  cases h with
  | mk h => exact ⟨rfl, h⟩
theorem grown_of {h₀ h : Heap} {L : Addr} {news wl : List (Addr × Obj)} (N : News h₀ L h news) (hw : Warm wl) (hs : ∀ p ∈ wl, p ∈ news) : GrownAll [(41, 37), (34, 30)] h := by
  obtain ⟨_, _, _, _, _, _, _, _, a1, _, _, _, b1, _, _, _⟩ := hw
  exact ⟨⟨_, (N _ (hs _ b1)).1⟩, ⟨_, (N _ (hs _ a1)).1⟩, trivial⟩
theorem law_post (ns : List Int) : PySem.Challenge.rw_hl0003_01.row.claim.post [ofPy (PyData.list (List.map PyData.int ns))] (WData.bool true) [ofPy (PyData.list (List.map PyData.int ns))] = true := by
  wrow_post
theorem law_end {p b : Int} (pb : PB p b) {ns' : List Int} (hp : ns'.Perm (((filt (freeP pb) 0 (p - 1 - 0).toNat).take (filt (freeP pb) 0 (p - 1 - 0).toNat).length).map (pwAt b p))) (ho : ns'.Pairwise (· ≤ ·)) : ns' = filt (wholeP pb) 1 (p - 1).toNat := by
  rw [List.take_length, Int.sub_zero] at hp
  exact ksm_same (hp.trans (free_perm pb).symm) ho (whole_sorted pb)

set_option rowWalk.seconds 0 in
set_option maxHeartbeats 0 in
theorem law_ok : PySem.Challenge.rw_hl0003_01.Holds := Mine.hd (by
  k_go0
  all_goals (try k_fold)
  iterate 57 walk1
  rename News _ _ _ _ => N8
  have N9 := news_tabs N8
  clear N8
  iterate 13 walk1
  rename News _ _ _ _ => N8
  rename PB _ _ => pb
  refine' LCg.CompSrc.range (by rfl) ?zzF N8 (by assumption) ?zzsm (rangeSize_nat _ _) ?zzsz ?zzzz
  case zzF => k_asm
  case zzsm => exact small_one (by omega) (by omega) (by omega) (by omega)
  case zzsz => rw [sizeLine_eq]; omega
  case zzzz =>
    intro g
    refine comp_ind (PwJ _ _ _) ?zzstep ?zzfin _ 0 _ _ (Nat.zero_add _) (PwJ.start pb)
    case zzstep =>
      intro i ys news hi hJ v I oI C oC D m₂ h tk E' hv hC hx F N off ne
      obtain ⟨tv, rfl⟩ := hv
      have hsub := hJ.sub
      have m1 := hsub _ (.head _)
      have m2 := hsub _ (.tail _ (.head _))
      have m3 := hsub _ (.tail _ (.tail _ (.head _)))
      clear hsub
      iterate 12 walk1
      refine' wpAny_mono (pw_call ?zzd1 ?zzd2 ?zzX ?zzB ?zzC1 ?zzC2 F N ?zzT ?zzK hJ (by omega) pb off ?zzhb) (fun _ _ q => q) (fun _ _ e => e)
      case zzd1 => exact Nat.le_of_ble_eq_true rfl
      case zzd2 => exact Nat.le_of_ble_eq_true rfl
      case zzX => k_asm
      case zzB => k_asm
      case zzC1 => assumption
      case zzC2 => assumption
      case zzT => k_asm
      case zzK => exact rfl
      case zzhb =>
        intro q hq
        simp only [List.mem_cons, List.not_mem_nil, or_false] at hq
        rcases hq with rfl | rfl | rfl <;> (dsimp only; exact ⟨neN (by omega), neN (by omega)⟩)
    case zzfin =>
      intro ys news hJ
      obtain ⟨wl, hw, rfl, hys, hwf⟩ := hJ.fin2 (by omega)
      intro D h tk F N o1
      clear N8
      have N2 := news_fin3 N
      obtain ⟨⟨o2, o3, o4⟩, o5⟩ := off1_fin o1
      dsimp only at o2 o3 o4
      clear N o1 hJ
      iterate 5 (rename (_ < _ ∧ _ < _ ∧ _) => lx; clear lx)
      rename (_, tup2 _ _) ∈ _ => hm9
      clear hm9
      have w1 := cell_off N2 (.tail _ (.head _)) (by assumption) (by walk_at "MINE sub") hwf
      have w2 := cell_off N2 (.tail _ (.tail _ (.head _))) (by assumption) (by walk_at "MINE sub") hwf
      have w3 := cell_off N2 (.tail _ (.tail _ (.tail _ (.head _)))) (by assumption) (by walk_at "MINE sub") hwf
      k_sweep
      rename IsRange _ _ _ _ _ _ _ _ => hx
      clear hx
      rw [Int.sub_zero] at hys
      have hyl := hys.length
      rw [pws_len] at hyl
      have N3 : News _ _ _ ((D, listOf ys.toArray ys.length) :: _) := N2
      clear N2
      iterate 29 walk1
      refine ite_nd (pw_sorted (by assumption) (by assumption) (by assumption)) ?_
      rename News _ _ _ _ => N8
      have N9 := news_drop1 (news_drop1 N8)
      clear N8
      iterate 2 (rename (_ < _ ∧ _ < _ ∧ _) => lx; clear lx)
      iterate 2 (rename List.Perm _ _ => lx; clear lx)
      rename IsRange _ _ _ _ _ _ _ _ => lx
      clear lx
      iterate 18 walk1
      rename PB _ _ => pb
      rename IntsAre _ (List.map _ _) => h2
      obtain ⟨x, y, tx, ty, rfl, xy⟩ := two_of pb h2
      obtain ⟨hx1, hx2, hy1, hy2⟩ := id xy
      clear h2
      iterate 8 walk1
      rename News _ _ _ _ => N8
      have N9 := news_drop1 (news_drop1 (news_drop1 (news_drop1 N8)))
      clear N8
      iterate 3 (rename (_ < _ ∧ _ < _ ∧ _) => lx; clear lx)
      rename (_ ≠ _ ∧ _ ≠ _ ∧ _) => lx
      clear lx
      rename PB _ _ => pb
      iterate 17 walk1
      k_dflt (refine' nu_loop ?zzhI ?zzstep ?zzfin; (case zzhI => exact .cons (p := _) (by assumption) (by assumption) (.cons (by assumption) (by assumption) (.cons (by omega) (by omega) (.cons (by omega) (by omega) .nil)))))
      case zzstep =>
        intro n t r m0 vd it h tk h1 h2 hr hc F N em
        subst em
        k_steps
        refine' unrEnd_eq ?zzF ?zzN (nuM_step _ _ _) (.mk hr) ?zzlp ?zzsub ?zzoff
        case zzF => k_asm
        case zzN => k_asm
        case zzlp => k_mem
        case zzsub => walk_at "MINE sub"
        case zzoff => refine List.forall_mem_cons.mpr (And.intro (by k_ne) ?_); k_all
      case zzfin =>
        intro vd h tk F N
        have N9 := news_drop1 N
        clear N
        rename XY _ _ _ => xy
        obtain ⟨tw1, tw2, tw3, tw4, tw5, tw6⟩ := two_ok2 pb xy
        have tw7 := pidx_last pb
        iterate 33 walk1
        rename News _ _ _ _ => N8
        have N9 := news_drop1 N8
        clear N8
        iterate 129 walk1
        rename News _ _ _ _ => N8
        have N9 := news_drop1 N8
        clear N8
        repeat (rename (_ < _ ∧ _ < _ ∧ _ < _ ∧ _) => lx; clear lx)
        clear tw1 tw2 tw3 tw4 tw5 tw6 tw7
        rename PB _ _ => pb
        k_dflt (refine' Assign_cellcomp ?zzk7F0 (by rfl) ?zzk7sw ?zzk7clos ?zzk7cf ?zzk7pc ?zzk7kind ?zzk7names ?zzk7x ?zzk7db ?zzk7y ?zzk7p ?zzk7h ?zzk7s)
        case zzk7F0 => k_asm
        case zzk7sw => with_unfolding_all rfl
        case zzk7clos => with_unfolding_all rfl
        case zzk7cf => exact fun _ => rfl
        case zzk7pc => exact fun _ => rfl
        case zzk7kind => rfl
        case zzk7names => decide
        case zzk7x => exact fun _ _ => rfl
        case zzk7db => decide
        case zzk7y => rfl
        case zzk7p => rfl
        case zzk7s => exact fun _ => rfl
        case zzk7h =>
          iterate 9 walk1
          rename IsRange _ _ _ _ _ _ _ _ => hrg
          refine' CellSrc.intro (wholeP pb) (by rfl) ?zzF ?zzN hrg ?zzsm (rangeSize_nat _ _) ?zzsz ?zzturn ?zzfin
          case zzF => k_asm
          case zzN => k_asm
          case zzsm => exact small_one (by omega) (by omega) (by omega) (by omega)
          case zzsz => rw [sizeLine_eq]; omega
          case zzturn =>
            intro i t I C Cx D oI oC oX ys h tk E' hi F N dX lN lI lD lC
            iterate 10 walk1
            k_dflt (refine LCg.ListComp_U (F₀ := by k_asm) (by with_unfolding_all rfl) (by decide) (by rfl) (by decide) (by rfl) ?_)
            iterate 10 walk1
            rename IsRange _ _ _ _ _ _ _ _ => hr2
            rename News _ _ _ _ => N3
            refine' LCg.CompSrc.range (by rfl) ?zzF2 N3 hr2 ?zzsm2 (rangeSize_nat _ _) ?zzsz2 ?zzzz2
            case zzF2 => k_asm
            case zzsm2 => exact small_one (by omega) (by omega) (by omega) (by omega)
            case zzsz2 => rw [sizeLine_eq]; omega
            case zzzz2 =>
              intro g2
              refine comp_ind (KJ (1 + (i : Int)) _ _) ?zzstep2 ?zzfin2 _ 0 _ _ (Nat.zero_add _) (KJ.startP pb _ _)
              case zzstep2 =>
                intro i2 ys2 news2 hi2 hJ v2 I2 oI2 C2 oC2 D2 m2 h2 tk2 E2 hv hC hx F2 N2 off2 ne2
                obtain ⟨tv, rfl⟩ := hv
                have m1 := hJ.sub _ (.tail _ (.tail _ (.head _)))
                have m2 := hJ.sub _ (.tail _ (.tail _ (.tail _ (.tail _ (.tail _ (.tail _ (.tail _ (.head _))))))))
                iterate 12 walk1
                refine kup_newTuple F2 N2 (fun T h3 F3 N3 l3 => ?_) (Nat.le_of_ble_eq_true rfl)
                exact hJ.endT F3 N3 l3 off2 rfl
              case zzfin2 =>
                intro ys2 news2 hJ
                have hp := hJ.fin
                have hsub := hJ.sub
                have m2 := hsub _ (.tail _ (.tail _ (.tail _ (.tail _ (.tail _ (.tail _ (.tail _ (.head _))))))))
                clear hJ
                unfold LCg.FinE
                intro D2 h2 tk2 F2 N2 o2
                iterate 1 walk1
                refine' dict_pairs_N ?zzhh F2 N2 ?zzbig (.head _) (hp.mono (sub_tl (fun _ h => h))) ?zzle (fun d o kvs h3 tk3 F3 N3 l3 lo hd hk => ?zzgo)
                case zzhh => rfl
                case zzbig =>
                  rename Top topProg _ _ _ _ _ => tp
                  exact modules_low tp.nolimit
                case zzle => rw [powl_len]; omega
                case zzgo =>
                  iterate 1 walk1
                  refine' len_keys N3 (.head _) lo hd hk ?zzle2 ?zzgo2
                  case zzle2 => rw [powl_len]; omega
                  case zzgo2 =>
                    iterate 6 walk1
                    exact ⟨whole_eq _ _, _, _, rfl, F3, cb_drop N3 fun q hq => .tail _ (.tail _ (hsub q hq))⟩
          case zzfin =>
            intro D h tk ysw F N lN hysw
            k_lt lN
            rename PB _ _ => pb
            dsimp only
            iterate 1 walk1
            k_dflt (refine' Assign_cellcomp ?zzk8F0 (by rfl) ?zzk8sw ?zzk8clos ?zzk8cf ?zzk8pc ?zzk8kind ?zzk8names ?zzk8x ?zzk8db ?zzk8y ?zzk8p ?zzk8h ?zzk8s)
            case zzk8F0 => k_asm
            case zzk8sw => with_unfolding_all rfl
            case zzk8clos => with_unfolding_all rfl
            case zzk8cf => exact fun _ => rfl
            case zzk8pc => exact fun _ => rfl
            case zzk8kind => rfl
            case zzk8names => decide
            case zzk8x => exact fun _ _ => rfl
            case zzk8db => decide
            case zzk8y => rfl
            case zzk8p => rfl
            case zzk8s => exact fun _ => rfl
            case zzk8h =>
              iterate 10 walk1
              rename IsRange _ _ _ _ _ _ _ _ => hrg
              refine' CellSrc.intro (freeP pb) (by rfl) ?zzF ?zzN hrg ?zzsm (rangeSize_nat _ _) ?zzsz ?zzturn ?zzfin
              case zzF => k_asm
              case zzN => k_asm
              case zzsm => exact small_one (by omega) (by omega) (by omega) (by omega)
              case zzsz => rw [sizeLine_eq]; omega
              case zzturn =>
                intro i t I C Cx D oI oC oX ys h tk E' hi F N dX lN lI lD lC
                iterate 1 walk1
                k_dflt (refine LCt.ListComp_T (F₀ := by k_asm) (by with_unfolding_all rfl) (by decide) (by rfl) (by decide) (by rfl) ?_)
                iterate 9 walk1
                rename IsRange _ _ _ _ _ _ _ _ => hr2
                rename News _ _ _ _ => N3
                refine' LCt.CompSrcT.range (by rfl) ?zzF2 N3 hr2 ?zzsm2 (rangeSize_nat _ _) ?zzsz2 ?zzzz2
                case zzF2 => k_asm
                case zzsm2 => exact small_one (by omega) (by omega) (by omega) (by omega)
                case zzsz2 => rw [sizeLine_eq]; omega
                case zzzz2 =>
                  intro g2
                  refine compT_ind (FJ _ (0 + (i : Int)) _) ?zzstep2 ?zzfin2 _ 0 _ _ (Nat.zero_add _) (FJ.startP pb _ _)
                  case zzstep2 =>
                    intro i2 ys2 news2 hi2 hJ v2 I2 oI2 C2 oC2 D2 m2 h2 tk2 E2 hv hC hx F2 N2 off2 ne2
                    obtain ⟨tv, rfl⟩ := hv
                    cases hJ with
                    | mk hys2 =>
                      iterate 16 walk1
                      · iterate 5 walk1
                        · iterate 1 walk1
                          refine' LCg.CompEnd.intro ?zzF3 ?zzN3 _ ?zzS3 off2 trivial (FJ.yes hys2 ?zza3 ?zzb3)
                          case zzF3 => k_asm
                          case zzN3 => k_asm
                          case zzS3 => exact fun _ h => h
                          case zza3 => omega
                          case zzb3 => omega
                        · refine' LCg.CompEnd.intro ?zzF3 ?zzN3 _ ?zzS3 off2 trivial (FJ.no hys2 ?zza3)
                          case zzF3 => k_asm
                          case zzN3 => k_asm
                          case zzS3 => exact fun _ h => h
                          case zza3 => omega
                      · rw [if_neg (by decide)]
                        refine' LCg.CompEnd.intro ?zzF3 ?zzN3 _ ?zzS3 off2 trivial (FJ.no hys2 ?zza3)
                        case zzF3 => k_asm
                        case zzN3 => k_asm
                        case zzS3 => exact fun _ h => h
                        case zza3 => omega
                  case zzfin2 =>
                    intro ys2 news2 hJ
                    cases hJ with
                    | mk hys2 =>
                      unfold LCg.FinE
                      intro D2 h2 tk2 F2 N2 o2
                      have o3 := off1_all o2
                      iterate 5 walk1
                      refine ⟨free_eq, _, _, rfl, ?zzF3, ?zzN3⟩
                      case zzF3 => k_asm
                      case zzN3 => walk_at "MINE drop"
              case zzfin =>
                intro D h tk ysf F N lN hysf
                k_lt lN
                dsimp only
                have hlf := hysf.length
                have hlf2 := free_len pb
                have hpl := pws_lenP pb
                iterate 7 walk1
                k_dflt (refine LCg.ListComp_U (F₀ := by k_asm) (by with_unfolding_all rfl) (by decide) (by rfl) (by decide) (by rfl) ?_)
                iterate 1 walk1
                refine' LCg.CompSrc.ledger (its := ysf.toArray) (by rfl) ?zzF ?zzN (.head _) ?zzsz ?zzzz
                case zzF => k_asm
                case zzN => k_asm
                case zzsz => rw [List.size_toArray, sizeLine_eq]; omega
                case zzzz =>
                  intro g3
                  refine comp_ind (RJ _ _ _ _) ?zzstep3 ?zzfin3 _ 0 _ _ (Nat.zero_add _) (RJ.startP pb hysf _)
                  case zzstep3 =>
                    intro i3 ys3 news3 hi3 hJ v3 I3 oI3 C3 oC3 D3 m3 h3 tk3 E3 hv hC hx F3 N3 off3 ne3
                    obtain ⟨t3, rfl⟩ := hysf.int_at i3 v3 (by simpa using hv)
                    rw [List.size_toArray, hlf] at hi3
                    have hfa := free_at pb hi3
                    cases hJ with
                    | mk hys3 =>
                      iterate 4 walk1
                      refine' LCg.CompEnd.intro ?zzF4 ?zzN4 _ ?zzS4 off3 ?zzsrc (RJ.next hys3 hi3)
                      case zzF4 => k_asm
                      case zzN4 => k_asm
                      case zzS4 => exact fun _ h => h
                      case zzsrc => exact .inr ⟨_, .head _, rfl, _, rfl⟩
                  case zzfin3 =>
                    intro ys3 news3 hJ
                    obtain ⟨rfl, hys3⟩ := hJ.fin (by rw [List.size_toArray, hlf])
                    unfold LCg.FinE
                    intro D3 h3 tk3 F3 N3 o3
                    iterate 1 walk1
                    refine kso_sorted F3 N3 ⟨_, (N3 _ (.head _)).1, rfl, _, rfl⟩ hys3 (by rw [List.length_map, List.take_length]; omega) (fun D4 v4 n4 c4 h4 F4 N4 l4 i4 e4 p4 o4 b4 => ?_)
                    clear b4 e4
                    iterate 1 walk1
                    have hE := law_end pb p4 o4
                    clear p4 o4
                    rename IntsAre _ (filt (wholeP _) _ _) => hw8
                    refine' eq_intsK ⟨_, (N4 _ (.head _)).1, rfl, _, rfl⟩ i4 ⟨_, (N4 _ (.tail _ (.tail _ (.tail _ (.head _))))).1, rfl, _, rfl⟩ hw8 ?zzu ?zzgo
                    case zzu => units_room
                    case zzgo =>
                      rw [decide_eq_true hE]
                      clear hE
                      rename Warm _ => hww
                      refine ⟨goodW_bool F4 (by assumption) (raisesW_false ?_) ?_, grown_of N4 hww (by walk_at "MINE sub")⟩
                      · exact allW_false_nil
                      · exact law_post _)
end
end Mine
set_option maxRecDepth 100000 in
set_option maxHeartbeats 8000000 in
theorem PySem.Challenge.cw_hl0003_01_holds : PySem.Challenge.rw_hl0003_01.Holds := by
  exact Mine.law_ok
