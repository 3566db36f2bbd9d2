import PyProof.Rows.All
import Wide.All
import OpenK.AllK
import Wide.FinOn
import Lean
import PySem.Challenge.RW_vn0024_01
open PySem PySem.Spec PySem.W PySem.Calls PyProof.Rows
set_option Elab.async false
namespace Mine
set_option maxRecDepth 100000 in
set_option maxHeartbeats 8000000 in
open_top hd for PySem.Challenge.rw_vn0024_01
end Mine
namespace Mine
theorem pow40 {prog : Program} {w : World} {A : Around} {E : Value → Shared → Prop} {s : Shared} {t u : Tok} {Q : Value → Shared → Prop} (h : Q (.int 1099511627776 s.toks) { s with toks := s.toks + 1 }) :
    wpAny (model prog w) A (binaryOp .Pow (.int 2 t) (.int 40 u)) Q E s :=
  pow_int_small (by decide) (by decide) (by decide) (by rw [show (2 : Int) ^ (40 : Int).toNat = 1099511627776 from by rfl]; exact h)
theorem keep_head {h₀ h' : Heap} {L : Addr} {news : List (Addr × Obj)} {o : Obj} {D : Addr} {news' : List (Addr × Obj)} (N : News h₀ L h' ((D, o) :: news')) (hs : ∀ p ∈ news, p ∈ news') : News h₀ L h' ((D, o) :: news) := fun p hp => by
  rcases List.mem_cons.mp hp with rfl | hp
  · exact N _ (.head _)
  · exact N p (.tail _ (hs p hp))
def Stop (P : Prop) : Prop := P
theorem Stop.out {P : Prop} (h : Stop P) : P := h
/-- the number that digits to the base b spell, the highest first -/
def val (b : Int) (ns : List Int) : Int := ns.foldl (fun a n => a * b + n) 0
/-- the last k digits of v to the base b, the highest first -/
def dg (b : Int) : Nat → Int → List Int
  | 0, _ => []
  | k + 1, v => dg b k (v / b) ++ [v % b]
theorem val_snoc (b : Int) (ns : List Int) (n : Int) : val b (ns ++ [n]) = val b ns * b + n := by
  simp [val, List.foldl_append]
theorem val_nil (b : Int) : val b [] = 0 := rfl
theorem dg_length (b : Int) : ∀ (k : Nat) (v : Int), (dg b k v).length = k
  | 0, _ => rfl
  | k + 1, v => by simp [dg, dg_length b k]
theorem dg_add (b : Int) (hb : 0 ≤ b) (j : Nat) : ∀ (k : Nat) (v : Int), dg b (j + k) v = dg b j (v / b ^ k) ++ dg b k v
  | 0, v => by simp [dg]
  | k + 1, v => by
    show dg b (j + k) (v / b) ++ [v % b] = dg b j (v / b ^ (k + 1)) ++ (dg b k (v / b) ++ [v % b])
    rw [dg_add b hb j k, Int.ediv_ediv_of_nonneg hb, Int.pow_succ, Int.mul_comm b, List.append_assoc]
theorem dg_mod (b : Int) (hb : 0 < b) : ∀ (k : Nat) (a v : Int), dg b k (a * b ^ k + v) = dg b k v
  | 0, _, _ => rfl
  | k + 1, a, v => by
    have e : a * b ^ (k + 1) + v = v + (a * b ^ k) * b := by rw [Int.pow_succ, ← Int.mul_assoc, Int.add_comm]
    show dg b k ((a * b ^ (k + 1) + v) / b) ++ [(a * b ^ (k + 1) + v) % b] = dg b k (v / b) ++ [v % b]
    rw [e, Int.add_mul_ediv_right _ _ (by omega), Int.add_mul_emod_self_right, Int.add_comm, dg_mod b hb k]
theorem dg_mem (b : Int) (hb : 0 < b) : ∀ (k : Nat) (v : Int), ∀ x ∈ dg b k v, 0 ≤ x ∧ x < b
  | 0, _, x, h => by cases h
  | k + 1, v, x, h => by
    rcases List.mem_append.mp h with h | h
    · exact dg_mem b hb k _ x h
    · rw [List.mem_singleton.mp h]
      exact ⟨Int.emod_nonneg _ (by omega), Int.emod_lt_of_pos _ hb⟩
theorem val_dg (b : Int) (hb : 0 < b) : ∀ (k : Nat) (v : Int), val b (dg b k v) = v % b ^ k
  | 0, v => by simp [dg, val, Int.emod_one]
  | k + 1, v => by
    show val b (dg b k (v / b) ++ [v % b]) = v % b ^ (k + 1)
    rw [val_snoc, val_dg b hb k, Int.pow_succ, Int.mul_comm (b ^ k) b, Int.emod_def, Int.emod_def, Int.emod_def, Int.ediv_ediv_of_nonneg (Int.le_of_lt hb)]
    grind
theorem val_nonneg (b : Int) (hb : 0 ≤ b) (ns : List Int) (h : ∀ x ∈ ns, 0 ≤ x) : 0 ≤ val b ns := by
  suffices H : ∀ a : Int, 0 ≤ a → 0 ≤ ns.foldl (fun a n => a * b + n) a from H 0 (Int.le_refl _)
  induction ns with
  | nil => exact fun a ha => ha
  | cons x r ih =>
    intro a ha
    exact ih (fun y hy => h y (.tail _ hy)) _ (Int.add_nonneg (Int.mul_nonneg ha hb) (h x (.head _)))
theorem val_dg_of (b : Int) (hb : 0 < b) (k : Nat) (v : Int) (h0 : 0 ≤ v) (h : v < b ^ k) : val b (dg b k v) = v := by
  rw [val_dg b hb, Int.emod_eq_of_lt h0 h]
/-- or of what does not meet is the sum -/
theorem bor (a n : Int) (k : Nat) (ha : 0 ≤ a) (h0 : 0 ≤ n) (h : n < 2 ^ k) : Builtin.bitOr (a * 2 ^ k) n = a * 2 ^ k + n := by
  have hp := kbt_pos k
  have h1 : Builtin.bitAnd (a * 2 ^ k) n = 0 := by
    rw [bitAnd_pp (Int.mul_nonneg ha (Int.le_of_lt hp)) h0]
    have e1 : (a * 2 ^ k).toNat = 2 ^ k * a.toNat := by
      have : (((a * 2 ^ k).toNat : Nat) : Int) = ((2 ^ k * a.toNat : Nat) : Int) := by
        rw [Int.toNat_of_nonneg (Int.mul_nonneg ha (Int.le_of_lt hp)), Int.natCast_mul, kbt_cast, Int.toNat_of_nonneg ha, Int.mul_comm]
      exact Int.ofNat.inj this
    have e2 : n.toNat < 2 ^ k := by
      have hc := kbt_cast k
      omega
    have e3 := Nat.two_pow_add_eq_or_of_lt e2 a.toNat
    rw [e1]
    have : 2 ^ k * a.toNat &&& n.toNat = 0 := by
      apply Nat.eq_of_testBit_eq
      intro i
      rw [Nat.testBit_and, Nat.zero_testBit]
      by_cases hi : i < k
      · rw [Nat.testBit_two_pow_mul]
        simp [Nat.not_le.mpr hi]
      · have : n.toNat.testBit i = false := Nat.testBit_lt_two_pow (Nat.lt_of_lt_of_le e2 (Nat.pow_le_pow_right (by decide) (Nat.le_of_not_lt hi)))
        rw [this, Bool.and_false]
    rw [this]; rfl
  rw [bitOr_and, h1, Int.sub_zero]
/-- grouping bits by sevens or eights -/
def I1 (t : Nat) (pre : List Int) (acc bits : Int) (ret : List Int) : Prop :=
  acc = val 2 pre % 2 ^ t ∧ bits = ((pre.length % t : Nat) : Int) ∧ ret = dg (2 ^ t) (pre.length / t) (val 2 pre / 2 ^ (pre.length % t)) ∧ 0 ≤ val 2 pre
theorem I1_start (t : Nat) : I1 t [] 0 0 [] := by
  refine ⟨?_, ?_, ?_, Int.le_refl _⟩
  · simp [val]
  · simp
  · simp [dg]
theorem I1_acc {t : Nat} {V n : Int} (h0 : 0 ≤ n) (h1 : n < 2) (_hV : 0 ≤ V) : Builtin.bitAnd (Builtin.bitOr (V % 2 ^ t * 2 ^ 1) n) (2 ^ t - 1) = (V * 2 + n) % 2 ^ t := by
  have hp := kbt_pos t
  rw [bor _ n 1 (Int.emod_nonneg _ (by omega)) h0 (by simpa using h1), kbt_mask]
  rw [Int.pow_one, Int.emod_def V]
  have e : (V - 2 ^ t * (V / 2 ^ t)) * 2 + n = (V * 2 + n) + (-(V / 2 ^ t) * 2) * 2 ^ t := by grind
  rw [e, Int.add_mul_emod_self_right]
theorem I1_on {t : Nat} (ht : 0 < t) {pre : List Int} {acc bits n : Int} {ret : List Int} (h : I1 t pre acc bits ret) (h0 : 0 ≤ n) (h1 : n < 2) (hr : ¬ pre.length % t = t - 1) :
    I1 t (pre ++ [n]) (Builtin.bitAnd (Builtin.bitOr (acc * 2 ^ 1) n) (2 ^ t - 1)) (bits + 1) ret := by
  obtain ⟨rfl, rfl, rfl, hV⟩ := h
  have hlt := Nat.mod_lt pre.length ht
  have e1 : (pre.length + 1) % t = pre.length % t + 1 := by
    rw [Nat.add_mod, ← Nat.mod_eq_of_lt (show pre.length % t + 1 < t by omega)]
    have : 1 % t = 1 := Nat.mod_eq_of_lt (by omega)
    rw [this]
  have e2 : (pre.length + 1) / t = pre.length / t := by
    have h1 := Nat.div_add_mod (pre.length + 1) t
    have h2 := Nat.div_add_mod pre.length t
    rw [e1] at h1
    have : t * ((pre.length + 1) / t) = t * (pre.length / t) := by omega
    exact Nat.eq_of_mul_eq_mul_left ht this
  refine ⟨?_, ?_, ?_, ?_⟩
  · rw [val_snoc]; exact I1_acc h0 h1 hV
  · rw [List.length_append, List.length_singleton, e1]; omega
  · rw [val_snoc, List.length_append, List.length_singleton, e1, e2, Int.pow_succ, Int.mul_comm (2 ^ _) 2, ← Int.ediv_ediv_of_nonneg (by decide)]
    have : (val 2 pre * 2 + n) / 2 = val 2 pre := by omega
    rw [this]
  · rw [val_snoc]; omega
theorem I1_out {t : Nat} (ht : 0 < t) {pre : List Int} {acc bits n : Int} {ret : List Int} (h : I1 t pre acc bits ret) (h0 : 0 ≤ n) (h1 : n < 2) (hr : pre.length % t = t - 1) :
    I1 t (pre ++ [n]) (Builtin.bitAnd (Builtin.bitOr (acc * 2 ^ 1) n) (2 ^ t - 1)) 0 (ret ++ [Builtin.bitAnd (Builtin.bitOr (acc * 2 ^ 1) n) (2 ^ t - 1)]) := by
  obtain ⟨rfl, rfl, rfl, hV⟩ := h
  have e0 := Nat.div_add_mod pre.length t
  have e3 : pre.length + 1 = t * (pre.length / t + 1) := by rw [Nat.mul_add, Nat.mul_one]; omega
  have e1 : (pre.length + 1) % t = 0 := by rw [e3, Nat.mul_mod_right]
  have e2 : (pre.length + 1) / t = pre.length / t + 1 := by rw [e3, Nat.mul_div_cancel_left _ ht]
  refine ⟨?_, ?_, ?_, ?_⟩
  · rw [val_snoc]; exact I1_acc h0 h1 hV
  · rw [List.length_append, List.length_singleton, e1]; rfl
  · rw [val_snoc, List.length_append, List.length_singleton, e1, e2, I1_acc h0 h1 hV, Int.pow_zero, Int.ediv_one, hr]
    show _ = dg (2 ^ t) (pre.length / t) ((val 2 pre * 2 + n) / 2 ^ t) ++ [(val 2 pre * 2 + n) % 2 ^ t]
    obtain ⟨u, rfl⟩ : ∃ u, t = u + 1 := ⟨t - 1, by omega⟩
    have : (val 2 pre * 2 + n) / 2 = val 2 pre := by omega
    rw [Int.pow_succ 2 u, Int.mul_comm (2 ^ u) 2, ← Int.ediv_ediv_of_nonneg (x := val 2 pre * 2 + n) (by decide : (0:Int) ≤ 2), this, Nat.add_sub_cancel]
  · rw [val_snoc]; omega
theorem I1_on7 {pre : List Int} {acc bits n : Int} {ret : List Int} (h : I1 7 pre acc bits ret) (h0 : 0 ≤ n) (h1 : n < 2) (hr : ¬ pre.length % 7 = 7 - 1) :
    I1 7 (pre ++ [n]) (Builtin.bitAnd (Builtin.bitOr (acc * 2 ^ Int.toNat 1) n) (1 * 2 ^ (1 + 7 - 1 : Int).toNat - 1)) (bits + 1) ret := I1_on (by decide) h h0 h1 hr
theorem I1_out7 {pre : List Int} {acc bits n : Int} {ret : List Int} (h : I1 7 pre acc bits ret) (h0 : 0 ≤ n) (h1 : n < 2) (hr : pre.length % 7 = 7 - 1) :
    I1 7 (pre ++ [n]) (Builtin.bitAnd (Builtin.bitOr (acc * 2 ^ Int.toNat 1) n) (1 * 2 ^ (1 + 7 - 1 : Int).toNat - 1)) (bits + 1 - 7) (ret ++ [Builtin.bitAnd ((Builtin.bitAnd (Builtin.bitOr (acc * 2 ^ Int.toNat 1) n) (1 * 2 ^ (1 + 7 - 1 : Int).toNat - 1)).fdiv (2 ^ (bits + 1 - 7).toNat)) (1 * 2 ^ Int.toNat 7 - 1)]) := by
  have hb : bits + 1 - 7 = 0 := by
    have := h.2.1
    omega
  have e : (Builtin.bitAnd (Builtin.bitOr (acc * 2 ^ 1) n) (2 ^ 7 - 1)) = (val 2 pre * 2 + n) % 2 ^ 7 := by rw [h.1]; exact I1_acc h0 h1 h.2.2.2
  have ho := I1_out (by decide) h h0 h1 hr
  rw [hb]
  show I1 7 (pre ++ [n]) (Builtin.bitAnd (Builtin.bitOr (acc * 2 ^ 1) n) (2 ^ 7 - 1)) 0 (ret ++ [Builtin.bitAnd (Int.fdiv (Builtin.bitAnd (Builtin.bitOr (acc * 2 ^ 1) n) (2 ^ 7 - 1)) 1) (2 ^ 7 - 1)])
  rw [Int.fdiv_one]
  rw [e] at ho ⊢
  rw [kbt_mask, Int.emod_emod_of_dvd _ (Int.dvd_refl _)]
  exact ho
theorem I1_on8 {pre : List Int} {acc bits n : Int} {ret : List Int} (h : I1 8 pre acc bits ret) (h0 : 0 ≤ n) (h1 : n < 2) (hr : ¬ pre.length % 8 = 8 - 1) :
    I1 8 (pre ++ [n]) (Builtin.bitAnd (Builtin.bitOr (acc * 2 ^ Int.toNat 1) n) (1 * 2 ^ (1 + 8 - 1 : Int).toNat - 1)) (bits + 1) ret := I1_on (by decide) h h0 h1 hr
theorem I1_out8 {pre : List Int} {acc bits n : Int} {ret : List Int} (h : I1 8 pre acc bits ret) (h0 : 0 ≤ n) (h1 : n < 2) (hr : pre.length % 8 = 8 - 1) :
    I1 8 (pre ++ [n]) (Builtin.bitAnd (Builtin.bitOr (acc * 2 ^ Int.toNat 1) n) (1 * 2 ^ (1 + 8 - 1 : Int).toNat - 1)) (bits + 1 - 8) (ret ++ [Builtin.bitAnd ((Builtin.bitAnd (Builtin.bitOr (acc * 2 ^ Int.toNat 1) n) (1 * 2 ^ (1 + 8 - 1 : Int).toNat - 1)).fdiv (2 ^ (bits + 1 - 8).toNat)) (1 * 2 ^ Int.toNat 8 - 1)]) := by
  have hb : bits + 1 - 8 = 0 := by
    have := h.2.1
    omega
  have e : (Builtin.bitAnd (Builtin.bitOr (acc * 2 ^ 1) n) (2 ^ 8 - 1)) = (val 2 pre * 2 + n) % 2 ^ 8 := by rw [h.1]; exact I1_acc h0 h1 h.2.2.2
  have ho := I1_out (by decide) h h0 h1 hr
  rw [hb]
  show I1 8 (pre ++ [n]) (Builtin.bitAnd (Builtin.bitOr (acc * 2 ^ 1) n) (2 ^ 8 - 1)) 0 (ret ++ [Builtin.bitAnd (Int.fdiv (Builtin.bitAnd (Builtin.bitOr (acc * 2 ^ 1) n) (2 ^ 8 - 1)) 1) (2 ^ 8 - 1)])
  rw [Int.fdiv_one]
  rw [e] at ho ⊢
  rw [kbt_mask, Int.emod_emod_of_dvd _ (Int.dvd_refl _)]
  exact ho
theorem I1_end {t : Nat} {ns : List Int} {acc bits : Int} {ret : List Int} (h : I1 t ns acc bits ret) (hm : ns.length % t = 0) : bits = 0 ∧ ret = dg (2 ^ t) (ns.length / t) (val 2 ns) := by
  obtain ⟨-, h1, h2, -⟩ := h
  rw [hm] at h1 h2
  refine ⟨h1, ?_⟩
  rw [h2, Int.pow_zero, Int.ediv_one]
/-- spreading digits into bits -/
def I2 (f : Nat) (pre : List Int) (acc bits : Int) (ret : List Int) : Prop :=
  bits = 0 ∧ 0 ≤ acc ∧ acc < 2 ^ f ∧ ret = dg 2 (f * pre.length) (val (2 ^ f) pre)
theorem I2_start (f : Nat) : I2 f [] 0 0 [] := ⟨rfl, Int.le_refl _, kbt_pos f, by simp [dg]⟩

theorem I2_7 {pre : List Int} {acc bits n : Int} {ret : List Int} (h : I2 7 pre acc bits ret) (h0 : 0 ≤ n) (h1 : n < 128) :
    I2 7 (pre ++ [n]) (Builtin.bitAnd (Builtin.bitOr (acc * 2 ^ Int.toNat 7) n) (1 * 2 ^ (7 + 1 - 1 : Int).toNat - 1)) (0 + 7 - 1 - 1 - 1 - 1 - 1 - 1 - 1) (ret ++ [Builtin.bitAnd ((Builtin.bitAnd (Builtin.bitOr (acc * 2 ^ Int.toNat 7) n) (1 * 2 ^ (7 + 1 - 1 : Int).toNat - 1)).fdiv (2 ^ (0 + 7 - 1 : Int).toNat)) (1 * 2 ^ Int.toNat 1 - 1)] ++ [Builtin.bitAnd ((Builtin.bitAnd (Builtin.bitOr (acc * 2 ^ Int.toNat 7) n) (1 * 2 ^ (7 + 1 - 1 : Int).toNat - 1)).fdiv (2 ^ (0 + 7 - 1 - 1 : Int).toNat)) (1 * 2 ^ Int.toNat 1 - 1)] ++ [Builtin.bitAnd ((Builtin.bitAnd (Builtin.bitOr (acc * 2 ^ Int.toNat 7) n) (1 * 2 ^ (7 + 1 - 1 : Int).toNat - 1)).fdiv (2 ^ (0 + 7 - 1 - 1 - 1 : Int).toNat)) (1 * 2 ^ Int.toNat 1 - 1)] ++ [Builtin.bitAnd ((Builtin.bitAnd (Builtin.bitOr (acc * 2 ^ Int.toNat 7) n) (1 * 2 ^ (7 + 1 - 1 : Int).toNat - 1)).fdiv (2 ^ (0 + 7 - 1 - 1 - 1 - 1 : Int).toNat)) (1 * 2 ^ Int.toNat 1 - 1)] ++ [Builtin.bitAnd ((Builtin.bitAnd (Builtin.bitOr (acc * 2 ^ Int.toNat 7) n) (1 * 2 ^ (7 + 1 - 1 : Int).toNat - 1)).fdiv (2 ^ (0 + 7 - 1 - 1 - 1 - 1 - 1 : Int).toNat)) (1 * 2 ^ Int.toNat 1 - 1)] ++ [Builtin.bitAnd ((Builtin.bitAnd (Builtin.bitOr (acc * 2 ^ Int.toNat 7) n) (1 * 2 ^ (7 + 1 - 1 : Int).toNat - 1)).fdiv (2 ^ (0 + 7 - 1 - 1 - 1 - 1 - 1 - 1 : Int).toNat)) (1 * 2 ^ Int.toNat 1 - 1)] ++ [Builtin.bitAnd ((Builtin.bitAnd (Builtin.bitOr (acc * 2 ^ Int.toNat 7) n) (1 * 2 ^ (7 + 1 - 1 : Int).toNat - 1)).fdiv (2 ^ (0 + 7 - 1 - 1 - 1 - 1 - 1 - 1 - 1 : Int).toNat)) (1 * 2 ^ Int.toNat 1 - 1)]) := by
  obtain ⟨-, ha0, ha1, hret⟩ := h
  have hA : Builtin.bitAnd (Builtin.bitOr (acc * 2 ^ Int.toNat 7) n) (1 * 2 ^ (7 + 1 - 1 : Int).toNat - 1) = n := by
    show Builtin.bitAnd (Builtin.bitOr (acc * 2 ^ 7) n) (2 ^ 7 - 1) = n
    rw [bor _ n 7 ha0 h0 (by simpa using h1), kbt_mask, Int.add_comm, Int.add_mul_emod_self_right, Int.emod_eq_of_lt h0 (by simpa using h1)]
  revert hA
  generalize Builtin.bitAnd (Builtin.bitOr (acc * 2 ^ Int.toNat 7) n) (1 * 2 ^ (7 + 1 - 1 : Int).toNat - 1) = A
  intro hA
  subst hA
  show I2 7 (pre ++ [A]) A 0 (ret ++ [Builtin.bitAnd (Int.fdiv A 64) 1] ++ [Builtin.bitAnd (Int.fdiv A 32) 1] ++ [Builtin.bitAnd (Int.fdiv A 16) 1] ++ [Builtin.bitAnd (Int.fdiv A 8) 1] ++ [Builtin.bitAnd (Int.fdiv A 4) 1] ++ [Builtin.bitAnd (Int.fdiv A 2) 1] ++ [Builtin.bitAnd (Int.fdiv A 1) 1])
  have hi : ∀ d : Int, 0 ≤ d → Builtin.bitAnd (Int.fdiv A d) 1 = A / d % 2 := fun d hd => by rw [bitAnd_m1, Int.fdiv_eq_ediv_of_nonneg _ hd]
  refine ⟨rfl, h0, by simpa using h1, ?_⟩
  rw [val_snoc, List.length_append, List.length_singleton, Nat.mul_add, Nat.mul_one, dg_add 2 (by decide), dg_mod 2 (by decide), hret]
  have e : (val (2 ^ 7) pre * 2 ^ 7 + A) / 2 ^ 7 = val (2 ^ 7) pre := by
    rw [Int.add_comm, Int.add_mul_ediv_right _ _ (by decide), Int.ediv_eq_zero_of_lt h0 (by simpa using h1), Int.zero_add]
  rw [e]
  rw [hi 64 (by decide)]
  rw [hi 32 (by decide)]
  rw [hi 16 (by decide)]
  rw [hi 8 (by decide)]
  rw [hi 4 (by decide)]
  rw [hi 2 (by decide)]
  rw [hi 1 (by decide)]
  have e2 : A / 2 / 2 = A / 4 := by omega
  have e3 : A / 2 / 2 / 2 = A / 8 := by omega
  have e4 : A / 2 / 2 / 2 / 2 = A / 16 := by omega
  have e5 : A / 2 / 2 / 2 / 2 / 2 = A / 32 := by omega
  have e6 : A / 2 / 2 / 2 / 2 / 2 / 2 = A / 64 := by omega
  simp only [dg, List.append_assoc, List.nil_append, List.cons_append, Int.ediv_one]
  rw [e6, e5, e4, e3, e2]
theorem I2_8 {pre : List Int} {acc bits n : Int} {ret : List Int} (h : I2 8 pre acc bits ret) (h0 : 0 ≤ n) (h1 : n < 256) :
    I2 8 (pre ++ [n]) (Builtin.bitAnd (Builtin.bitOr (acc * 2 ^ Int.toNat 8) n) (1 * 2 ^ (8 + 1 - 1 : Int).toNat - 1)) (0 + 8 - 1 - 1 - 1 - 1 - 1 - 1 - 1 - 1) (ret ++ [Builtin.bitAnd ((Builtin.bitAnd (Builtin.bitOr (acc * 2 ^ Int.toNat 8) n) (1 * 2 ^ (8 + 1 - 1 : Int).toNat - 1)).fdiv (2 ^ (0 + 8 - 1 : Int).toNat)) (1 * 2 ^ Int.toNat 1 - 1)] ++ [Builtin.bitAnd ((Builtin.bitAnd (Builtin.bitOr (acc * 2 ^ Int.toNat 8) n) (1 * 2 ^ (8 + 1 - 1 : Int).toNat - 1)).fdiv (2 ^ (0 + 8 - 1 - 1 : Int).toNat)) (1 * 2 ^ Int.toNat 1 - 1)] ++ [Builtin.bitAnd ((Builtin.bitAnd (Builtin.bitOr (acc * 2 ^ Int.toNat 8) n) (1 * 2 ^ (8 + 1 - 1 : Int).toNat - 1)).fdiv (2 ^ (0 + 8 - 1 - 1 - 1 : Int).toNat)) (1 * 2 ^ Int.toNat 1 - 1)] ++ [Builtin.bitAnd ((Builtin.bitAnd (Builtin.bitOr (acc * 2 ^ Int.toNat 8) n) (1 * 2 ^ (8 + 1 - 1 : Int).toNat - 1)).fdiv (2 ^ (0 + 8 - 1 - 1 - 1 - 1 : Int).toNat)) (1 * 2 ^ Int.toNat 1 - 1)] ++ [Builtin.bitAnd ((Builtin.bitAnd (Builtin.bitOr (acc * 2 ^ Int.toNat 8) n) (1 * 2 ^ (8 + 1 - 1 : Int).toNat - 1)).fdiv (2 ^ (0 + 8 - 1 - 1 - 1 - 1 - 1 : Int).toNat)) (1 * 2 ^ Int.toNat 1 - 1)] ++ [Builtin.bitAnd ((Builtin.bitAnd (Builtin.bitOr (acc * 2 ^ Int.toNat 8) n) (1 * 2 ^ (8 + 1 - 1 : Int).toNat - 1)).fdiv (2 ^ (0 + 8 - 1 - 1 - 1 - 1 - 1 - 1 : Int).toNat)) (1 * 2 ^ Int.toNat 1 - 1)] ++ [Builtin.bitAnd ((Builtin.bitAnd (Builtin.bitOr (acc * 2 ^ Int.toNat 8) n) (1 * 2 ^ (8 + 1 - 1 : Int).toNat - 1)).fdiv (2 ^ (0 + 8 - 1 - 1 - 1 - 1 - 1 - 1 - 1 : Int).toNat)) (1 * 2 ^ Int.toNat 1 - 1)] ++ [Builtin.bitAnd ((Builtin.bitAnd (Builtin.bitOr (acc * 2 ^ Int.toNat 8) n) (1 * 2 ^ (8 + 1 - 1 : Int).toNat - 1)).fdiv (2 ^ (0 + 8 - 1 - 1 - 1 - 1 - 1 - 1 - 1 - 1 : Int).toNat)) (1 * 2 ^ Int.toNat 1 - 1)]) := by
  obtain ⟨-, ha0, ha1, hret⟩ := h
  have hA : Builtin.bitAnd (Builtin.bitOr (acc * 2 ^ Int.toNat 8) n) (1 * 2 ^ (8 + 1 - 1 : Int).toNat - 1) = n := by
    show Builtin.bitAnd (Builtin.bitOr (acc * 2 ^ 8) n) (2 ^ 8 - 1) = n
    rw [bor _ n 8 ha0 h0 (by simpa using h1), kbt_mask, Int.add_comm, Int.add_mul_emod_self_right, Int.emod_eq_of_lt h0 (by simpa using h1)]
  revert hA
  generalize Builtin.bitAnd (Builtin.bitOr (acc * 2 ^ Int.toNat 8) n) (1 * 2 ^ (8 + 1 - 1 : Int).toNat - 1) = A
  intro hA
  subst hA
  show I2 8 (pre ++ [A]) A 0 (ret ++ [Builtin.bitAnd (Int.fdiv A 128) 1] ++ [Builtin.bitAnd (Int.fdiv A 64) 1] ++ [Builtin.bitAnd (Int.fdiv A 32) 1] ++ [Builtin.bitAnd (Int.fdiv A 16) 1] ++ [Builtin.bitAnd (Int.fdiv A 8) 1] ++ [Builtin.bitAnd (Int.fdiv A 4) 1] ++ [Builtin.bitAnd (Int.fdiv A 2) 1] ++ [Builtin.bitAnd (Int.fdiv A 1) 1])
  have hi : ∀ d : Int, 0 ≤ d → Builtin.bitAnd (Int.fdiv A d) 1 = A / d % 2 := fun d hd => by rw [bitAnd_m1, Int.fdiv_eq_ediv_of_nonneg _ hd]
  refine ⟨rfl, h0, by simpa using h1, ?_⟩
  rw [val_snoc, List.length_append, List.length_singleton, Nat.mul_add, Nat.mul_one, dg_add 2 (by decide), dg_mod 2 (by decide), hret]
  have e : (val (2 ^ 8) pre * 2 ^ 8 + A) / 2 ^ 8 = val (2 ^ 8) pre := by
    rw [Int.add_comm, Int.add_mul_ediv_right _ _ (by decide), Int.ediv_eq_zero_of_lt h0 (by simpa using h1), Int.zero_add]
  rw [e]
  rw [hi 128 (by decide)]
  rw [hi 64 (by decide)]
  rw [hi 32 (by decide)]
  rw [hi 16 (by decide)]
  rw [hi 8 (by decide)]
  rw [hi 4 (by decide)]
  rw [hi 2 (by decide)]
  rw [hi 1 (by decide)]
  have e2 : A / 2 / 2 = A / 4 := by omega
  have e3 : A / 2 / 2 / 2 = A / 8 := by omega
  have e4 : A / 2 / 2 / 2 / 2 = A / 16 := by omega
  have e5 : A / 2 / 2 / 2 / 2 / 2 = A / 32 := by omega
  have e6 : A / 2 / 2 / 2 / 2 / 2 / 2 = A / 64 := by omega
  have e7 : A / 2 / 2 / 2 / 2 / 2 / 2 / 2 = A / 128 := by omega
  simp only [dg, List.append_assoc, List.nil_append, List.cons_append, Int.ediv_one]
  rw [e7, e6, e5, e4, e3, e2]
end Mine

namespace Mine
def strip (ns : List Int) : List Int := ns.dropWhile (· == 0)
def FilJ (m₀ : PySem.Str → Option Value) (news : List (Addr × Obj)) (ns : List Int) (k : Nat) (m₁ : PySem.Str → Option Value) (news₁ : List (Addr × Obj)) : Prop :=
  ∃ (r : Addr) (ws : List Value) (c : Nat) (ks : List Int), m₁ = (fun y => if y = PySem.Str.ofString "bits" then some (.ref r) else m₀ y) ∧ news₁ = (r, listOf ws.toArray c) :: news ∧ IntsAre ws ks ∧ k = ks.length ∧ ks.length ≤ ns.length ∧ strip ks = strip ns
section
variable {prog : Program} {w : World} {A : Around} {E : Value → Shared → Prop} {Q : Flow → Shared → Prop} {s : Shared} {env : Env} {h₀ : Heap} {L : Addr}
theorem fil_inv {test : PySem.Expr} {body : List Stmt} {pos : Pos} {m : PySem.Str → Option Value} {news : List (Addr × Obj)} {l : Addr} {vs : List Value} {c : Nat} {ns : List Int}
    (F : Fr h₀ L s.heap m) (N : News h₀ L s.heap news) (hl : (l, listOf vs.toArray c) ∈ news) (hi : IntsAre vs ns) (hm : m (PySem.Str.ofString "bits") = some (.ref l))
    (turn : ∀ n m₁ news₁ h₁ tk₁, Fr h₀ L h₁ m₁ → News h₀ L h₁ news₁ → FilJ m news ns n m₁ news₁ →
      wpAny (model prog w) A (isTrue test env (eval test env)) (fun b s₂ =>
        if b = true then wpAny (model prog w) A (execs body env) (WhileStep2 h₀ L s (FilJ m news ns) Q n) E s₂ else Q .next s₂) E { s with heap := h₁, toks := tk₁ })
    (hE : PassesOwn (model prog w) A env E) : wpAny (model prog w) A (exec (.While test body [] pos) env) Q E s := by
  refine While_inv2 (FilJ m news ns) F (news := (l, listOf vs.toArray c) :: news) ?_ ⟨l, vs, c, ns, ?_, rfl, hi, rfl, Nat.le_refl _, rfl⟩ turn hE
  · intro p hp
    rcases List.mem_cons.mp hp with rfl | hp
    · exact N _ hl
    · exact N p hp
  · funext y
    by_cases h : y = PySem.Str.ofString "bits"
    · rw [if_pos h, h, hm]
    · rw [if_neg h]
end
end Mine
namespace Mine
def fill (size : Nat) (ns : List Int) : List Int := List.replicate (if (strip ns).length = 0 then size else ((-((strip ns).length : Int)).fmod size).toNat) 0 ++ strip ns
theorem fill_nil {size : Nat} {ns : List Int} (h : strip [] = strip ns) : fill size ns = List.replicate size 0 := by
  unfold fill
  rw [← h]
  simp [strip]
theorem fill_cons {size : Nat} {ns ks : List Int} {x : Int} (hx : x ≠ 0) (h : strip (x :: ks) = strip ns) : fill size ns = (List.replicate ((-((ks.length + 1 : Nat) : Int)).fmod size).toNat [(0 : Int)]).flatten ++ x :: ks := by
  have e : strip (x :: ks) = x :: ks := List.dropWhile_cons_of_neg (by simpa using hx)
  unfold fill
  rw [← h, e, List.length_cons, if_neg (Nat.succ_ne_zero _), List.flatten_replicate_singleton]
section
variable {h₀ h' : Heap} {L : Addr} {s : Shared} {Q : Flow → Shared → Prop} {m : PySem.Str → Option Value} {news : List (Addr × Obj)} {ns ks : List Int} {k tk c : Nat} {r r' : Addr} {ws : List Value} {o : Obj}
theorem fil_next (F : Fr h₀ L h' (fun y => if y = PySem.Str.ofString "bits" then some (.ref r') else if y = PySem.Str.ofString "bits" then some (.ref r) else m y)) (N : News h₀ L h' ((r', listOf ws.toArray c) :: (r, o) :: news))
    (hi : IntsAre ws ks) (hk : ks.length < k) (hle : ks.length ≤ ns.length) (hs : strip ks = strip ns) : WhileStep2 h₀ L s (FilJ m news ns) Q k .next { s with heap := h', toks := tk } := by
  refine ⟨h', tk, _, (r', listOf ws.toArray c) :: news, ks.length, rfl, F, ?_, hk, r', ws, c, ks, ?_, rfl, hi, rfl, hle, hs⟩
  · intro p hp
    rcases List.mem_cons.mp hp with rfl | hp
    · exact N _ (.head _)
    · exact N p (.tail _ (.tail _ hp))
  · funext y
    by_cases h : y = PySem.Str.ofString "bits" <;> simp [h]
theorem strip_zero {x : Int} (hx : x = 0) (h : strip (x :: ks) = strip ns) : strip ks = strip ns := by
  rw [← h, hx]
  exact (List.dropWhile_cons_of_pos (by simp)).symm
theorem drop_to {news' : List (Addr × Obj)} (N : News h₀ L h' news') (hs : ∀ p ∈ news, p ∈ news') : News h₀ L h' news := fun p hp => N p (hs p hp)
end
end Mine
namespace Mine
theorem tag_kind (z : Int) : ∀ k, k = ([0, 64, 128, 192] : List Int).getD (z.fmod 4).toNat 0 → k = 0 ∨ k = 64 ∨ k = 128 ∨ k = 192 := by
  rintro k rfl
  have h0 := Int.emod_nonneg z (show (4 : Int) ≠ 0 by decide)
  have h1 := Int.emod_lt_of_pos z (show (0 : Int) < 4 by decide)
  rw [Int.fmod_eq_emod_of_nonneg _ (by decide)]
  generalize z % 4 = r at h0 h1
  obtain rfl | rfl | rfl | rfl : r = 0 ∨ r = 1 ∨ r = 2 ∨ r = 3 := by omega
  · exact .inl rfl
  · exact .inr (.inl rfl)
  · exact .inr (.inr (.inl rfl))
  · exact .inr (.inr (.inr rfl))
theorem tag_val (z : Int) : ∀ v, v = ([(z.fdiv 40).fmod 40, 120 + (z.fdiv 40).fmod 16, 16376 + (z.fdiv 40).fmod 16, (z.fdiv 40).fmod 65536, (z.fdiv 40).fmod 1099511627776] : List Int).getD ((z.fdiv 8).fmod 5).toNat 0 → 0 ≤ v ∧ v < 1099511627776 := by
  rintro v rfl
  have hb : ∀ m : Int, 0 < m → 0 ≤ (z.fdiv 40).fmod m ∧ (z.fdiv 40).fmod m < m := fun m hm => by
    rw [Int.fmod_eq_emod_of_nonneg _ (Int.le_of_lt hm)]
    exact ⟨Int.emod_nonneg _ (by omega), Int.emod_lt_of_pos _ hm⟩
  have h0 := Int.emod_nonneg (z.fdiv 8) (show (5 : Int) ≠ 0 by decide)
  have h1 := Int.emod_lt_of_pos (z.fdiv 8) (show (0 : Int) < 5 by decide)
  rw [Int.fmod_eq_emod_of_nonneg (z.fdiv 8) (by decide)]
  generalize z.fdiv 8 % 5 = r at h0 h1
  have b1 := hb 40 (by decide)
  have b2 := hb 16 (by decide)
  have b3 := hb 65536 (by decide)
  have b4 := hb 1099511627776 (by decide)
  obtain rfl | rfl | rfl | rfl | rfl : r = 0 ∨ r = 1 ∨ r = 2 ∨ r = 3 ∨ r = 4 := by omega
  · show 0 ≤ (z.fdiv 40).fmod 40 ∧ (z.fdiv 40).fmod 40 < 1099511627776
    omega
  · show 0 ≤ 120 + (z.fdiv 40).fmod 16 ∧ 120 + (z.fdiv 40).fmod 16 < 1099511627776
    omega
  · show 0 ≤ 16376 + (z.fdiv 40).fmod 16 ∧ 16376 + (z.fdiv 40).fmod 16 < 1099511627776
    omega
  · show 0 ≤ (z.fdiv 40).fmod 65536 ∧ (z.fdiv 40).fmod 65536 < 1099511627776
    omega
  · exact b4
end Mine
namespace Mine
open PySem.Builtin.Int (intBits)
def oct (v : Int) : Nat := if v = 0 then 1 else (intBits v + 7) / 8
theorem little_dg : ∀ (n : Nat) (x : Int), (KTBy.little n x).reverse = dg 256 n x
  | 0, _ => rfl
  | n + 1, x => by
    show (x % 256 :: KTBy.little n (x / 256)).reverse = dg 256 n (x / 256) ++ [x % 256]
    rw [List.reverse_cons, little_dg n]
theorem bits_lt {v : Int} {n : Nat} (h0 : 0 ≤ v) : intBits v ≤ n ↔ v < 2 ^ n := by
  rw [PySem.intBits_le_iff, ← kbt_cast]
  omega
theorem pow256 (n : Nat) : (256 : Int) ^ n = 2 ^ (8 * n) := by
  rw [Int.pow_mul]; rfl
theorem oct_lt {v : Int} (h0 : 0 ≤ v) : v < 256 ^ (oct v) := by
  rw [pow256, ← bits_lt h0]
  unfold oct
  by_cases h : v = 0
  · subst h; decide
  · rw [if_neg h]; omega
theorem oct_le {v : Int} (h0 : 0 ≤ v) (h1 : v < 1099511627776) : oct v ≤ 5 := by
  have : intBits v ≤ 40 := (bits_lt h0).mpr (by simpa using h1)
  unfold oct
  by_cases h : v = 0
  · rw [if_pos h]; omega
  · rw [if_neg h]; omega
theorem bits_pos {v : Int} (h0 : 0 ≤ v) (h : v ≠ 0) : 0 < intBits v := by
  have := (bits_lt (n := 0) h0)
  omega
section
variable {prog : Program} {w : World} {A : Around} {E : Value → Shared → Prop} {s : Shared} {x k : Int} {t u v : Tok} {Q : Value → Shared → Prop}
theorem to_big (hk : k = (oct x : Nat)) (h0 : 0 ≤ x) (h1 : x < 1099511627776) (h : ∀ (b : Array UInt8) t' k', KBw.bInts b = dg 256 (oct x) x → Q (.bytes b t') { s with toks := k' }) :
    wpAny (model prog w) A (call (.builtin "int.to_bytes") [.int x t, .int k u, .str (PySem.Str.ofString "big") v]) Q E s := by
  subst hk
  exact KTBy.to_big (Nat.le_trans (oct_le h0 h1) (by decide)) rfl h0 (oct_lt h0) fun b t' k' e _ => h b t' k' (by rw [e, little_dg])
end
end Mine
namespace Mine
open PySem.Builtin.Int (intBits)
def sevs (v : Int) : Nat := if v = 0 then 1 else (intBits v + 6) / 7
/-- the last k digits of seven bits, each but the last with its upper bit -/
def sub (k : Nat) (v : Int) : List Int := (dg 128 (k - 1) (v / 128)).map (· + 128) ++ [v % 128]
def told (kd : Int) (b : Bool) (v : Int) : List Int :=
  if v < 31 then [kd + (if b then 32 else 0) + v] else (kd + (if b then 32 else 0) + 31) :: sub (sevs v) v
theorem sub_more (k : Nat) (v : Int) : sub (k + 2) v = (v / 128 ^ (k + 1) % 128 + 128) :: sub (k + 1) v := by
  unfold sub
  show (dg 128 (k + 1) (v / 128)).map (· + 128) ++ [v % 128] = _
  rw [Nat.add_comm k 1, dg_add 128 (by decide) 1 k]
  have e : v / 128 / 128 ^ k = v / 128 ^ (1 + k) := by
    rw [Int.ediv_ediv_of_nonneg (by decide), Nat.add_comm 1 k, Int.pow_succ, Int.mul_comm]
  rw [e, Nat.add_sub_cancel_left]
  simp [dg]
theorem pow128 (n : Nat) : (128 : Int) ^ n = 2 ^ (7 * n) := by
  rw [Int.pow_mul]; rfl
theorem sevs_of {v : Int} {k : Nat} (hv : 31 ≤ v) (h : v / 128 ^ (k + 1) = 0) (hk : k = 0 ∨ v / 128 ^ k ≠ 0) : sevs v = k + 1 := by
  have hp : ∀ n : Nat, (0 : Int) < 128 ^ n := fun n => by rw [pow128]; exact kbt_pos _
  have h1 : v < 128 ^ (k + 1) := by
    have := Int.lt_ediv_add_one_mul_self v (hp (k + 1))
    rw [h] at this
    omega
  rw [pow128, ← bits_lt (by omega)] at h1
  have h2 : 7 * k < intBits v := by
    rcases hk with rfl | hk
    · exact bits_pos (by omega) (by omega)
    · refine Nat.lt_of_not_le fun hc => hk ?_
      have := (bits_lt (n := 7 * k) (v := v) (by omega)).mp hc
      rw [← pow128] at this
      exact Int.ediv_eq_zero_of_lt (by omega) this
  unfold sevs
  rw [if_neg (by omega)]
  omega
abbrev tupOf (items : Array Value) (n : Nat) : Obj := { cls := .type "tuple", data := .seq items n }
def EncJ (m₀ : PySem.Str → Option Value) (news : List (Addr × Obj)) (v : Int) (n : Nat) (m₁ : PySem.Str → Option Value) (news₁ : List (Addr × Obj)) : Prop :=
  ∃ (r : Addr) (ws : List Value) (c : Nat) (tt : Tok) (k : Nat) (T : Int), m₁ = (fun y => if y = PySem.Str.ofString "tagId" then some (.int T tt) else if y = PySem.Str.ofString "substrate" then some (.ref r) else m₀ y) ∧ news₁ = (r, tupOf ws.toArray c) :: news ∧ IntsAre ws (sub (k + 1) v) ∧ n = T.toNat ∧ T = v / 128 ^ (k + 1) ∧ (k = 0 ∨ v / 128 ^ k ≠ 0) ∧ k < 6
section
variable {prog : Program} {w : World} {A : Around} {E : Value → Shared → Prop} {Q : Flow → Shared → Prop} {s : Shared} {env : Env} {h₀ : Heap} {L : Addr}
theorem enc_inv {test : PySem.Expr} {body : List Stmt} {pos : Pos} {m : PySem.Str → Option Value} {news : List (Addr × Obj)} {l : Addr} {vs : List Value} {c : Nat} {v T : Int} {tt : Tok}
    (F : Fr h₀ L s.heap m) (N : News h₀ L s.heap ((l, tupOf vs.toArray c) :: news)) (hi : IntsAre vs [v % 128]) (hm : m (PySem.Str.ofString "substrate") = some (.ref l)) (hm2 : m (PySem.Str.ofString "tagId") = some (.int T tt)) (hT : T = v / 128)
    (turn : ∀ n m₁ news₁ h₁ tk₁, Fr h₀ L h₁ m₁ → News h₀ L h₁ news₁ → EncJ m news v n m₁ news₁ →
      wpAny (model prog w) A (isTrue test env (eval test env)) (fun b s₂ =>
        if b = true then wpAny (model prog w) A (execs body env) (WhileStep2 h₀ L s (EncJ m news v) Q n) E s₂ else Q .next s₂) E { s with heap := h₁, toks := tk₁ })
    (hE : PassesOwn (model prog w) A env E) : wpAny (model prog w) A (exec (.While test body [] pos) env) Q E s := by
  refine While_inv2 (EncJ m news v) F N ⟨l, vs, c, tt, 0, T, ?_, rfl, hi, rfl, ?_, .inl rfl, by decide⟩ turn hE
  · funext y
    by_cases h : y = PySem.Str.ofString "tagId"
    · rw [if_pos h, h, hm2]
    · rw [if_neg h]
      by_cases h : y = PySem.Str.ofString "substrate"
      · rw [if_pos h, h, hm]
      · rw [if_neg h]
  · rw [hT]; rfl
end
theorem bor0 (x : Int) : Builtin.bitOr x 0 = x := by rw [bitOr_and, bitAnd_zero]; omega
theorem bor_head {kd n : Int} (hkd : kd = 0 ∨ kd = 64 ∨ kd = 128 ∨ kd = 192) (h0 : 0 ≤ n) (h1 : n < 32) : Builtin.bitOr kd n = kd + n := by
  have h := bor (kd / 32) n 5 (by omega) h0 (by simpa using h1)
  have e : kd / 32 * 2 ^ 5 = kd := by
    show kd / 32 * 32 = kd
    omega
  rw [e] at h
  exact h
theorem bor_head2 {kd n : Int} (hkd : kd = 0 ∨ kd = 64 ∨ kd = 128 ∨ kd = 192) (h0 : 0 ≤ n) (h1 : n < 32) : Builtin.bitOr (Builtin.bitOr kd 32) n = kd + 32 + n := by
  have e1 : Builtin.bitOr kd 32 = kd + 32 := by
    have h := bor (kd / 64) 32 6 (by omega) (by decide) (by decide)
    have e : kd / 64 * 2 ^ 6 = kd := by
      show kd / 64 * 64 = kd
      omega
    rw [e] at h
    exact h
  rw [e1]
  have h := bor ((kd + 32) / 32) n 5 (by omega) h0 (by simpa using h1)
  have e : (kd + 32) / 32 * 2 ^ 5 = kd + 32 := by
    show (kd + 32) / 32 * 32 = kd + 32
    omega
  rw [e] at h
  exact h
theorem told_st {kd v : Int} (hkd : kd = 0 ∨ kd = 64 ∨ kd = 128 ∨ kd = 192) (h0 : 0 ≤ v) (hv : v < 31) : told kd true v = [Builtin.bitOr (Builtin.bitOr (Builtin.bitOr kd 0) 32) v] := by
  unfold told
  rw [if_pos hv, bor0, bor_head2 hkd h0 (by omega)]
  rfl
theorem told_sf {kd v : Int} (hkd : kd = 0 ∨ kd = 64 ∨ kd = 128 ∨ kd = 192) (h0 : 0 ≤ v) (hv : v < 31) : told kd false v = [Builtin.bitOr (Builtin.bitOr kd 0) v] := by
  unfold told
  rw [if_pos hv, bor0, bor_head hkd h0 (by omega)]
  simp
theorem told_bt {kd v : Int} {k : Nat} (hkd : kd = 0 ∨ kd = 64 ∨ kd = 128 ∨ kd = 192) (hv : ¬ v < 31) (h : (0 : Int) = v / 128 ^ (k + 1)) (hk : k = 0 ∨ v / 128 ^ k ≠ 0) : told kd true v = Builtin.bitOr (Builtin.bitOr (Builtin.bitOr kd 0) 32) 31 :: sub (k + 1) v := by
  unfold told
  rw [if_neg hv, bor0, bor_head2 hkd (by decide) (by decide), sevs_of (by omega) h.symm hk]
  rfl
theorem told_bf {kd v : Int} {k : Nat} (hkd : kd = 0 ∨ kd = 64 ∨ kd = 128 ∨ kd = 192) (hv : ¬ v < 31) (h : (0 : Int) = v / 128 ^ (k + 1)) (hk : k = 0 ∨ v / 128 ^ k ≠ 0) : told kd false v = Builtin.bitOr (Builtin.bitOr kd 0) 31 :: sub (k + 1) v := by
  unfold told
  rw [if_neg hv, bor0, bor_head hkd (by decide) (by decide), sevs_of (by omega) h.symm hk]
  simp
theorem sub_length (k : Nat) (v : Int) : (sub (k + 1) v).length = k + 1 := by
  unfold sub
  simp [dg_length]
section
variable {prog : Program} {w : World} {A : Around} {E : Value → Shared → Prop} {Q : Value → Shared → Prop} {s : Shared} {h₀ : Heap} {L : Addr} {m : PySem.Str → Option Value} {news : List (Addr × Obj)}
theorem add_tup {D r : Addr} {v : Value} {ws : List Value} {n1 c : Nat} (F : Fr h₀ L s.heap m) (N : News h₀ L s.heap news) (hD : (D, tupOf #[v] n1) ∈ news) (hr : (r, tupOf ws.toArray c) ∈ news) (hne : 0 < ws.length) (hsz : ws.length ≤ 1000)
    (h : ∀ D2 h', Fr h₀ L h' m → News h₀ L h' ((D2, tupOf (v :: ws).toArray 0) :: news) → (∀ p ∈ news, p.1 < D2) → Q (.ref D2) { s with heap := h' }) :
    wpAny (model prog w) A (binaryOp .Add (.ref D) (.ref r)) Q E s := by
  refine P.add_tuple (n := n1) (n2 := c) (N _ hD).1 (N _ hr).1 (by simp) ?_ ?_ ?_
  · rw [List.isEmpty_toArray]
    intro e
    rw [List.isEmpty_iff.mp e] at hne
    exact absurd hne (by decide)
  · have e : (#[v] ++ ws.toArray : Array Value) = (v :: ws).toArray := by simp
    rw [e]
    exact h _ _ (F.push _) (N.push F _) fun p hp => Heap.lt_size (N p hp).1
  · rw [List.size_toArray, PySem.sizeLine_eq]
    show 1 + ws.length ≤ _
    omega
end
section
variable {h₀ h' : Heap} {L : Addr} {s : Shared} {Q : Flow → Shared → Prop} {m : PySem.Str → Option Value} {news : List (Addr × Obj)} {k tk c c2 : Nat} {r r' : Addr} {ws : List Value} {v T x : Int} {t1 tt tt' : Tok} {o : Obj}
theorem enc_next {news' : List (Addr × Obj)} (F : Fr h₀ L h' (fun y => if y = PySem.Str.ofString "tagId" then some (.int (T.fdiv (2 ^ Int.toNat 7)) tt') else if y = PySem.Str.ofString "substrate" then some (.ref r') else if y = PySem.Str.ofString "tagId" then some (.int T tt) else if y = PySem.Str.ofString "substrate" then some (.ref r) else m y))
    (N : News h₀ L h' ((r', tupOf (Value.int (Builtin.bitOr 128 (Builtin.bitAnd T 127)) t1 :: ws).toArray c) :: news')) (hn : ∀ p ∈ news, p ∈ news')
    (hi : IntsAre ws (sub (k + 1) v)) (hT : T = v / 128 ^ (k + 1)) (h0 : 0 ≤ v) (h1 : v < 1099511627776) (hT0 : T ≠ 0) : WhileStep2 h₀ L s (EncJ m news v) Q T.toNat .next { s with heap := h', toks := tk } := by
  have hp : (0 : Int) < 128 ^ (k + 1) := by rw [pow128]; exact kbt_pos _
  have hT1 : 0 ≤ T := by rw [hT]; exact Int.ediv_nonneg h0 (Int.le_of_lt hp)
  have e7 : T.fdiv (2 ^ Int.toNat 7) = T / 128 := by rw [Int.fdiv_eq_ediv_of_nonneg _ (by decide)]; rfl
  rw [e7] at F
  have hk : k + 1 < 6 := by
    refine Nat.lt_of_not_le fun hc => hT0 ?_
    rw [hT]
    refine Int.ediv_eq_zero_of_lt h0 (Int.lt_of_lt_of_le h1 ?_)
    obtain ⟨j, hj6⟩ : ∃ j, k + 1 = 6 + j := ⟨k + 1 - 6, by omega⟩
    have hj : (0 : Int) < 128 ^ j := by rw [pow128]; exact kbt_pos _
    rw [hj6, Int.pow_add]
    have : (128 : Int) ^ 6 = 4398046511104 := by rfl
    rw [this]
    omega
  refine ⟨h', tk, _, (r', tupOf (Value.int (Builtin.bitOr 128 (Builtin.bitAnd T 127)) t1 :: ws).toArray c) :: news, (T / 128).toNat, rfl, F, ?_, by omega, r', _, c, tt', k + 1, T / 128, ?_, rfl, ?_, rfl, ?_, .inr (by rw [← hT]; exact hT0), hk⟩
  · intro p hp
    rcases List.mem_cons.mp hp with rfl | hp
    · exact N _ (.head _)
    · exact N p (.tail _ (hn p hp))
  · funext y
    by_cases h : y = PySem.Str.ofString "tagId"
    · simp [h]
    · by_cases h' : y = PySem.Str.ofString "substrate"
      · simp [h']
      · simp [h, h']
  · have e : Builtin.bitOr 128 (Builtin.bitAnd T 127) = v / 128 ^ (k + 1) % 128 + 128 := by
      rw [bitAnd_m7]
      have h := bor 1 (T % 128) 7 (by decide) (Int.emod_nonneg _ (by decide)) (Int.emod_lt_of_pos _ (by decide))
      rw [show (1 : Int) * 2 ^ 7 = 128 from by decide] at h
      rw [h, hT]
      omega
    rw [sub_more, e]
    exact .cons _ _ hi
  · rw [hT, Int.ediv_ediv_of_nonneg (Int.le_of_lt hp), ← Int.pow_succ]
end
end Mine
namespace Mine
def LEnd (h₀ : Heap) (L I : Addr) (oI : Obj) (J : (PySem.Str → Option Value) → List (Addr × Obj) → Prop) (s₁ s₂ : Shared) : Prop :=
  ∃ h' tk m' nx, s₂ = { s₁ with heap := h', toks := tk } ∧ Fr h₀ L h' m' ∧ News h₀ L h' ((I, oI) :: nx) ∧ (∀ p ∈ nx, p.1 ≠ I) ∧ J m' nx
def LStep (h₀ : Heap) (L I : Addr) (oI : Obj) (J : (PySem.Str → Option Value) → List (Addr × Obj) → Prop) (s₁ : Shared) (Q : Flow → Shared → Prop) (f : Flow) (s₂ : Shared) : Prop :=
  match f with
  | .ret v => Q (.ret v) s₂
  | .brk => Q .next s₂
  | _ => LEnd h₀ L I oI J s₁ s₂
section
variable {prog : Program} {w : World} {A : Around} {E : Value → Shared → Prop} {s : Shared} {env : Env} {h₀ : Heap} {x : PySem.Str} {body : List Stmt} {Q : Flow → Shared → Prop}
theorem for_list {l : Addr} {vs : List Value} {nn : Nat} {m₀ : PySem.Str → Option Value} {news : List (Addr × Obj)} (J : Nat → (PySem.Str → Option Value) → List (Addr × Obj) → Prop)
    (hh : A.handled = none) (hJl : ∀ i m nx, J i m nx → (l, listOf vs.toArray nn) ∈ nx) (F : Fr h₀ env.locals s.heap m₀) (N : News h₀ env.locals s.heap news) (hj : J 0 m₀ news)
    (turn : ∀ i v m₁ nx h tk I oI, vs[i]? = some v → J i m₁ nx → (∀ p ∈ nx, p.1 ≠ I) → Fr h₀ env.locals h (fun y => if y = x then some v else m₁ y) → News h₀ env.locals h ((I, oI) :: nx) →
      wpAny (model prog w) A (execs body env) (LStep h₀ env.locals I oI (J (i + 1)) { s with heap := h, toks := tk } Q) E { s with heap := h, toks := tk })
    (done : ∀ m₁ nx h tk, J vs.length m₁ nx → Fr h₀ env.locals h m₁ → News h₀ env.locals h nx → Q .next { s with heap := h, toks := tk }) :
    wpAny (model prog w) A (pyIter (.ref l)) (fun it s₂ => LoopAtV prog w A h₀ env x body Q E it s₂) E s := by
  have hl := hJl _ _ _ hj
  have hol : s.heap.get? l = some (listOf vs.toArray nn) := (N _ hl).1
  have hls : s.heap.IsList l vs.toArray := ⟨_, hol, rfl, nn, rfl⟩
  have hne : l ≠ s.heap.objs.size := Nat.ne_of_lt (Heap.lt_size hol)
  refine wpAny_pyIter_list hls ?_
  have W := Walks.list (prog := prog) (w := w) hh s.heap.objs.size l hne vs.toArray
  have hlen : vs.toArray.size = vs.length := by simp
  rw [hlen] at W
  refine ⟨_, _, _, vs.length, _, _, m₀, news, (fun i m nx => (∀ p ∈ nx, p.1 ≠ s.heap.objs.size) ∧ J i m nx), rfl, W, ?_, ?_, ?_, ⟨⟨_, Heap.get?_push_size _ rfl, rfl, rfl⟩, hls.at fun o e => Heap.get?_push_of_some _ e⟩, F.push _, (fun p hp => ⟨Heap.get?_push_of_some _ (N p hp).1, (N p hp).2⟩), ⟨fun p hp => Nat.ne_of_lt (Heap.lt_size (N p hp).1), hj⟩, ?_, ?_⟩
  · intro hm
    rcases List.mem_cons.mp hm with e | hm
    · exact absurd F.ns.lt (e ▸ Nat.lt_irrefl _)
    · exact (N _ hl).2.1 ((List.mem_singleton.mp hm).symm)
  · intro b hb
    rw [List.mem_singleton.mp hb]
    exact next_is_new F
  · intro p hp hI
    exact absurd (Heap.lt_size (N p hp).1) ((List.mem_singleton.mp hI) ▸ Nat.lt_irrefl _)
  · rintro i v m₁ news₁ s₁ own ⟨hh', tk', rfl⟩ hin hP ⟨hadr, hJ⟩ hoff hown hget hfp hst F₁ N₁
    obtain ⟨⟨oI, hoI, _⟩, _⟩ := hst
    have hI : (s.heap.objs.size, oI) ∈ own := hfp _ (.head _) (next_is_new F) oI hoI
    have hlo : hh'.get? l = some (listOf vs.toArray nn) := (N₁ _ (List.mem_append.mpr (.inr (hJl _ _ _ hJ)))).1
    have N₂ : News h₀ env.locals hh' ((s.heap.objs.size, oI) :: news₁) := by
      intro p hp
      rcases List.mem_cons.mp hp with rfl | hp
      · exact N₁ _ (List.mem_append.mpr (.inl hI))
      · exact N₁ p (List.mem_append.mpr (.inr hp))
    have hP' : vs[i]? = some v := by simpa using hP
    refine wpAny_mono (turn i v m₁ news₁ hh' tk' s.heap.objs.size oI hP' hJ hadr F₁ N₂) (fun f s₂ p => ?_) fun _ _ e => e
    have fin : LEnd h₀ env.locals s.heap.objs.size oI (J (i + 1)) { s with heap := hh', toks := tk' } s₂ →
        LoopStepU h₀ env.locals [s.heap.objs.size] own (fun m nx => (∀ p ∈ nx, p.1 ≠ s.heap.objs.size) ∧ J (i + 1) m nx) { s with heap := hh', toks := tk' } .next s₂ := by
      rintro ⟨h', tk, m', nx, e, F', N', ha, hm⟩
      refine ⟨rfl, h', tk, m', nx, e, F', fun p hp => ?_, fun p hp hq => ha p hp (List.mem_singleton.mp hq), ha, hm⟩
      rcases List.mem_append.mp hp with h | h
      · have h2 : hh'.get? p.1 = some p.2 := hget p h
        rcases List.mem_cons.mp (hown p h) with h1 | h1
        · rw [h1, hoI] at h2
          have h3 : p = (s.heap.objs.size, oI) := Prod.ext h1 (Option.some.inj h2).symm
          rw [h3]
          exact N' _ (.head _)
        · have h1 := List.mem_singleton.mp h1
          rw [h1, hlo] at h2
          have h3 : p = (l, listOf vs.toArray nn) := Prod.ext h1 (Option.some.inj h2).symm
          rw [h3]
          exact N' _ (.tail _ (hJl _ _ _ hm))
      · exact N' p (.tail _ h)
    cases f with
    | ret v => exact .ret p
    | brk => exact .brk p
    | next => exact .next (fin p)
    | cont => exact .cont (fin p)
  · rintro h' tk m' news' F' N' _ ⟨_, hJ⟩
    exact done m' news' h' tk hJ F' N'
end
end Mine

local macro_rules | `(tactic| kst_facts1) => `(tactic| exact IntsAre.nil)
local macro_rules | `(tactic| k_memK) => `(tactic| assumption)
local macro_rules | `(tactic| walk_at "binaryOp Pow int int") => `(tactic| (with_reducible refine Mine.pow40 ?_))
local macro_rules | `(tactic| walk_at "pyIter ref") => `(tactic| refine Mine.Stop.out ?_)
local macro_rules | `(tactic| walk_at "pyIter bytes") => `(tactic| refine Mine.Stop.out ?_)
local macro_rules | `(tactic| walk_at "exec While") => `(tactic| refine Mine.Stop.out ?_)
local macro_rules | `(tactic| walk_at "exec While BoolOp cons nil") => `(tactic| refine Mine.Stop.out ?_)
local macro_rules | `(tactic| walk_at "exec While Name cons nil") => `(tactic| refine Mine.Stop.out ?_)
local macro_rules | `(tactic| walk_at "exec While Compare cons nil") => `(tactic| refine Mine.Stop.out ?_)
local macro_rules | `(tactic| walk_at "WhlIf") => `(tactic| first | (refine WhlIf.yes (decide_eq_true (by omega)) ?_) | (refine WhlIf.no (decide_eq_false (by omega)) ?_))
local macro_rules | `(tactic| tb_start) => `(tactic| (refine wpAny_call ?_; k_dflt (refine' code_def ?k1 ?k2 ?k3 ?k4 ?k5 ?kA ?kF ?kK ?k6 ?k7 ?k8 ?k9 ?kB ?_ ?c2 ?c3 ?c4 ?c5; (case kA => exact rfl); (case kF => exact rfl); (case kK => assumption); (case k1 => k_asm); (case k2 => k_asm); (case k3 => k_asm); (case k4 => k_asm); (case k5 => k_asm); (case k6 => k_is); (case k7 => k_is); (case k8 => ktr_room); (case k9 => first | exact BindsTo.of_eq rfl | exact binds_K (by k_in) rfl (by k_is) rfl rfl rfl | fail "my enter"); (case c5 => decide); (case kB => exact locs rfl); (case c2 => exact rfl); (case c3 => exact rfl); (case c4 => exact rfl); k_whole; intro g' L' h' FG' F' N' B' X' T'; (try dsimp only); (try k_lift B'); (try k_fold))))
set_option maxRecDepth 100000 in
set_option maxHeartbeats 8000000 in
theorem Mine.cb17 : ∀ (w : World) (loose : List PySem.Str) (mean : ExcName → Option Value) (mg mb : PySem.Str → Option Value)
    (dp un : Nat) (gd : Option (List Code)) (cn : PySem.Str) (cs : Scope) (a : Addr) (ccd : Value) (cl : List (PySem.Str × Addr)) (outer : List Env) (A₀ : Around) (base h₀ : Heap) (L : Addr) (m : PySem.Str → Option Value) (news : List (Addr × Obj)) (s : Shared)
    (Q E : Value → Shared → Prop) (l : Addr) (vs : List Value) (ns : List Int) (n : Nat) (t1 t2 : Tok),
    Below A₀ base outer h₀ → Fr h₀ L s.heap m → (Mine.hd.heap_39 w.params).In h₀ → News h₀ L s.heap news → Top Mine.hd.view_39 loose mean mg mb h₀ → cs.kind = .function → (l, listOf vs.toArray n) ∈ news → IntsAre vs ns → dp + 10 < recursionLimit → un + 100 < cLine →
    (∀ x ∈ ns, 0 ≤ x ∧ x < 2) → ns.length ≤ 1000 → ns.length % 7 = 0 →
    (∀ r vs' n' h' tk', Fr h₀ L h' m → News h₀ L h' ((r, listOf vs'.toArray n') :: news) → (∀ p ∈ news, p.1 < r) → IntsAre vs' (Mine.dg 128 (ns.length / 7) (Mine.val 2 ns)) → Q (.ref r) { s with heap := h', toks := tk' }) →
    wpAny (model Challenge.rw_vn0024_01.row.prog w) (ktrTop dp un gd cn cs L a ccd cl outer) (call (.ref 73) [.ref l, .int 1 t1, .int 7 t2]) Q E s := by
  w_top off
  k_with_none
  k_fill
  intro w loose mean mg mb dp un gd cn cs a ccd cl outer A₀ base h₀ L m news s Q E l vs ns n t1 t2 B F X N T hk hl hi hdp hun hb hlen hmod ret
  tb_start
  k_steps
  unfold Mine.Stop
  k_with_none
  k_with "state" => first | exact Mine.I1_start 7 | exact Mine.I1_on7 (by assumption) (by omega) (by omega) (by assumption) | exact Mine.I1_out7 (by assumption) (by omega) (by omega) (by assumption)
  k_state (fun pre acc bits ret => Mine.I1 7 pre acc bits ret) "acc" "bits" "ret"
  · have h9 := hb _ kMem
    have hI := kInv
    obtain ⟨hacc, hbits, hret, hV⟩ := hI
    have hrl := congrArg List.length hret
    rw [Mine.dg_length] at hrl
    clear hret
    have hdv : kN.fdiv (2 ^ Int.toNat 1) = 0 := by
      rw [Int.fdiv_eq_ediv_of_nonneg _ (by decide)]; show kN / 2 = 0; omega
    k_steps
    · exact absurd hdv (by assumption)
    unfold Mine.Stop
    by_cases hw : kPre.length % 7 = 7 - 1
    · refine whl_start 100 ?_
      k_steps
    · refine whl_start 100 ?_
      k_steps
  · obtain ⟨hbits, hret⟩ := Mine.I1_end kInv hmod
    rw [show (2 : Int) ^ 7 = 128 from by decide] at hret
    subst hbits
    subst hret
    k_steps
    exact ret _ _ _ _ _ (by assumption) (by assumption) (by assumption) (by assumption)

set_option maxRecDepth 100000 in
set_option maxHeartbeats 8000000 in
theorem Mine.cb18 : ∀ (w : World) (loose : List PySem.Str) (mean : ExcName → Option Value) (mg mb : PySem.Str → Option Value)
    (dp un : Nat) (gd : Option (List Code)) (cn : PySem.Str) (cs : Scope) (a : Addr) (ccd : Value) (cl : List (PySem.Str × Addr)) (outer : List Env) (A₀ : Around) (base h₀ : Heap) (L : Addr) (m : PySem.Str → Option Value) (news : List (Addr × Obj)) (s : Shared)
    (Q E : Value → Shared → Prop) (l : Addr) (vs : List Value) (ns : List Int) (n : Nat) (t1 t2 : Tok),
    Below A₀ base outer h₀ → Fr h₀ L s.heap m → (Mine.hd.heap_39 w.params).In h₀ → News h₀ L s.heap news → Top Mine.hd.view_39 loose mean mg mb h₀ → cs.kind = .function → (l, listOf vs.toArray n) ∈ news → IntsAre vs ns → dp + 10 < recursionLimit → un + 100 < cLine →
    (∀ x ∈ ns, 0 ≤ x ∧ x < 2) → ns.length ≤ 1000 → ns.length % 8 = 0 →
    (∀ r vs' n' h' tk', Fr h₀ L h' m → News h₀ L h' ((r, listOf vs'.toArray n') :: news) → (∀ p ∈ news, p.1 < r) → IntsAre vs' (Mine.dg 256 (ns.length / 8) (Mine.val 2 ns)) → Q (.ref r) { s with heap := h', toks := tk' }) →
    wpAny (model Challenge.rw_vn0024_01.row.prog w) (ktrTop dp un gd cn cs L a ccd cl outer) (call (.ref 73) [.ref l, .int 1 t1, .int 8 t2]) Q E s := by
  w_top off
  k_with_none
  k_fill
  intro w loose mean mg mb dp un gd cn cs a ccd cl outer A₀ base h₀ L m news s Q E l vs ns n t1 t2 B F X N T hk hl hi hdp hun hb hlen hmod ret
  tb_start
  k_steps
  unfold Mine.Stop
  k_with_none
  k_with "state" => first | exact Mine.I1_start 8 | exact Mine.I1_on8 (by assumption) (by omega) (by omega) (by assumption) | exact Mine.I1_out8 (by assumption) (by omega) (by omega) (by assumption)
  k_state (fun pre acc bits ret => Mine.I1 8 pre acc bits ret) "acc" "bits" "ret"
  · have h9 := hb _ kMem
    have hI := kInv
    obtain ⟨hacc, hbits, hret, hV⟩ := hI
    have hrl := congrArg List.length hret
    rw [Mine.dg_length] at hrl
    clear hret
    have hdv : kN.fdiv (2 ^ Int.toNat 1) = 0 := by
      rw [Int.fdiv_eq_ediv_of_nonneg _ (by decide)]; show kN / 2 = 0; omega
    k_steps
    · exact absurd hdv (by assumption)
    unfold Mine.Stop
    by_cases hw : kPre.length % 8 = 8 - 1
    · refine whl_start 100 ?_
      k_steps
    · refine whl_start 100 ?_
      k_steps
  · obtain ⟨hbits, hret⟩ := Mine.I1_end kInv hmod
    rw [show (2 : Int) ^ 8 = 256 from by decide] at hret
    subst hbits
    subst hret
    k_steps
    exact ret _ _ _ _ _ (by assumption) (by assumption) (by assumption) (by assumption)

set_option maxRecDepth 100000 in
set_option maxHeartbeats 8000000 in
theorem Mine.cb71 : ∀ (w : World) (loose : List PySem.Str) (mean : ExcName → Option Value) (mg mb : PySem.Str → Option Value)
    (dp un : Nat) (gd : Option (List Code)) (cn : PySem.Str) (cs : Scope) (a : Addr) (ccd : Value) (cl : List (PySem.Str × Addr)) (outer : List Env) (A₀ : Around) (base h₀ : Heap) (L : Addr) (m : PySem.Str → Option Value) (news : List (Addr × Obj)) (s : Shared)
    (Q E : Value → Shared → Prop) (l : Addr) (vs : List Value) (ns : List Int) (n : Nat) (t1 t2 : Tok),
    Below A₀ base outer h₀ → Fr h₀ L s.heap m → (Mine.hd.heap_39 w.params).In h₀ → News h₀ L s.heap news → Top Mine.hd.view_39 loose mean mg mb h₀ → cs.kind = .function → (l, listOf vs.toArray n) ∈ news → IntsAre vs ns → dp + 10 < recursionLimit → un + 100 < cLine →
    (∀ x ∈ ns, 0 ≤ x ∧ x < 128) → ns.length ≤ 1000 →
    (∀ r vs' n' h' tk', Fr h₀ L h' m → News h₀ L h' ((r, listOf vs'.toArray n') :: news) → (∀ p ∈ news, p.1 < r) → IntsAre vs' (Mine.dg 2 (7 * ns.length) (Mine.val 128 ns)) → Q (.ref r) { s with heap := h', toks := tk' }) →
    wpAny (model Challenge.rw_vn0024_01.row.prog w) (ktrTop dp un gd cn cs L a ccd cl outer) (call (.ref 73) [.ref l, .int 7 t1, .int 1 t2]) Q E s := by
  w_top off
  k_with_none
  k_fill
  intro w loose mean mg mb dp un gd cn cs a ccd cl outer A₀ base h₀ L m news s Q E l vs ns n t1 t2 B F X N T hk hl hi hdp hun hb hlen ret
  tb_start
  k_steps
  unfold Mine.Stop
  k_with_none
  k_with "state" => first | exact Mine.I2_start 7 | exact Mine.I2_7 (by assumption) (by omega) (by omega)
  k_state (fun pre acc bits ret => Mine.I2 7 pre acc bits ret) "acc" "bits" "ret"
  · have h9 := hb _ kMem
    have hI := kInv
    obtain ⟨hbits, ha0, ha1, hret⟩ := hI
    have hrl := congrArg List.length hret
    rw [Mine.dg_length] at hrl
    clear hret
    subst hbits
    have hdv : kN.fdiv (2 ^ Int.toNat 7) = 0 := by
      rw [Int.fdiv_eq_ediv_of_nonneg _ (by decide)]; show kN / 128 = 0; omega
    k_steps
    · exact absurd hdv (by assumption)
    unfold Mine.Stop
    refine whl_start 100 ?_
    k_steps
  · obtain ⟨hbits, -, -, hret⟩ := kInv
    subst hbits
    subst hret
    k_steps
    exact ret _ _ _ _ _ (by assumption) (by assumption) (by assumption) (by assumption)

set_option maxRecDepth 100000 in
set_option maxHeartbeats 8000000 in
theorem Mine.cb81 : ∀ (w : World) (loose : List PySem.Str) (mean : ExcName → Option Value) (mg mb : PySem.Str → Option Value)
    (dp un : Nat) (gd : Option (List Code)) (cn : PySem.Str) (cs : Scope) (a : Addr) (ccd : Value) (cl : List (PySem.Str × Addr)) (outer : List Env) (A₀ : Around) (base h₀ : Heap) (L : Addr) (m : PySem.Str → Option Value) (news : List (Addr × Obj)) (s : Shared)
    (Q E : Value → Shared → Prop) (b : Array UInt8) (ks : List Int) (tb : Tok) (t1 t2 : Tok),
    Below A₀ base outer h₀ → Fr h₀ L s.heap m → (Mine.hd.heap_39 w.params).In h₀ → News h₀ L s.heap news → Top Mine.hd.view_39 loose mean mg mb h₀ → cs.kind = .function → dp + 10 < recursionLimit → un + 100 < cLine →
    KBw.bInts b = ks → ks.length ≤ 1000 →
    (∀ r vs' n' h' tk', Fr h₀ L h' m → News h₀ L h' ((r, listOf vs'.toArray n') :: news) → (∀ p ∈ news, p.1 < r) → IntsAre vs' (Mine.dg 2 (8 * ks.length) (Mine.val 256 ks)) → Q (.ref r) { s with heap := h', toks := tk' }) →
    wpAny (model Challenge.rw_vn0024_01.row.prog w) (ktrTop dp un gd cn cs L a ccd cl outer) (call (.ref 73) [.bytes b tb, .int 8 t1, .int 1 t2]) Q E s := by
  w_top off
  k_with_none
  k_fill
  intro w loose mean mg mb dp un gd cn cs a ccd cl outer A₀ base h₀ L m news s Q E b ks tb t1 t2 B F X N T hk hdp hun hks hlen ret
  tb_start
  k_steps
  unfold Mine.Stop
  k_with_none
  k_with "state" => first | exact Mine.I2_start 8 | exact Mine.I2_8 (by assumption) (by omega) (by omega)
  k_state (fun pre acc bits ret => Mine.I2 8 pre acc bits ret) "acc" "bits" "ret"
  · have kL := congrArg List.length kEq
    rw [List.length_append, List.length_cons] at kL
    have hI := kInv
    obtain ⟨hbits, ha0, ha1, hret⟩ := hI
    have hrl := congrArg List.length hret
    rw [Mine.dg_length] at hrl
    clear hret
    subst hbits
    have hdv : kN.fdiv (2 ^ Int.toNat 8) = 0 := by
      rw [Int.fdiv_eq_ediv_of_nonneg _ (by decide)]; show kN / 256 = 0; omega
    k_steps
    · exact absurd hdv (by assumption)
    unfold Mine.Stop
    refine whl_start 100 ?_
    k_steps
  · obtain ⟨hbits, -, -, hret⟩ := kInv
    subst hbits
    subst hret
    k_steps
    exact ret _ _ _ _ _ (by assumption) (by assumption) (by assumption) (by assumption)

set_option maxRecDepth 100000 in
set_option maxHeartbeats 8000000 in
theorem Mine.tag : ∀ (w : World) (loose : List PySem.Str) (mean : ExcName → Option Value) (mg mb : PySem.Str → Option Value)
    (dp un : Nat) (gd : Option (List Code)) (cn : PySem.Str) (cs : Scope) (a : Addr) (ccd : Value) (cl : List (PySem.Str × Addr)) (outer : List Env) (A₀ : Around) (base h₀ : Heap) (L : Addr) (m : PySem.Str → Option Value) (news : List (Addr × Obj)) (s : Shared)
    (Q E : Value → Shared → Prop) (z : Int) (t2 : Tok),
    Below A₀ base outer h₀ → Fr h₀ L s.heap m → (Mine.hd.heap_39 w.params).In h₀ → News h₀ L s.heap news → Top Mine.hd.view_39 loose mean mg mb h₀ → cs.kind = .function → dp + 10 < recursionLimit → un + 100 < cLine →
    (∀ r kd b v n' h' tk' ta tb, Fr h₀ L h' m → News h₀ L h' ((r, ({ cls := .type "tuple", data := .seq #[.int kd ta, .bool b, .int v tb] n' } : Obj)) :: news) → (∀ p ∈ news, p.1 < r) → (kd = 0 ∨ kd = 64 ∨ kd = 128 ∨ kd = 192) → 0 ≤ v → v < 1099511627776 → Q (.ref r) { s with heap := h', toks := tk' }) →
    wpAny (model Challenge.rw_vn0024_01.row.prog w) (ktrTop dp un gd cn cs L a ccd cl outer) (call (.ref 94) [.int z t2]) Q E s := by
  w_top off
  k_with_none
  k_fill
  intro w loose mean mg mb dp un gd cn cs a ccd cl outer A₀ base h₀ L m news s Q E z t2 B F X N T hk hdp hun ret
  tb_start
  k_with_none
  k_steps
  rename News _ _ _ _ => lN
  exact ret _ _ _ _ _ _ _ _ _ (by assumption) (Mine.keep_head lN (fun p hp => by simp only [List.mem_cons, hp, or_true])) (ktn_ltOf (by tbn_find)) (Mine.tag_kind z _ rfl) (Mine.tag_val z _ rfl).1 (Mine.tag_val z _ rfl).2

set_option maxRecDepth 100000 in
set_option maxHeartbeats 8000000 in
theorem Mine.i2b : ∀ (w : World) (loose : List PySem.Str) (mean : ExcName → Option Value) (mg mb : PySem.Str → Option Value)
    (dp un : Nat) (gd : Option (List Code)) (cn : PySem.Str) (cs : Scope) (a : Addr) (ccd : Value) (cl : List (PySem.Str × Addr)) (outer : List Env) (A₀ : Around) (base h₀ : Heap) (L : Addr) (m : PySem.Str → Option Value) (news : List (Addr × Obj)) (s : Shared)
    (Q E : Value → Shared → Prop) (z : Int) (t2 : Tok),
    Below A₀ base outer h₀ → Fr h₀ L s.heap m → (Mine.hd.heap_39 w.params).In h₀ → News h₀ L s.heap news → Top Mine.hd.view_39 loose mean mg mb h₀ → cs.kind = .function → dp + 10 < recursionLimit → un + 100 < cLine →
    0 ≤ z → z < 1099511627776 →
    (∀ b h' tk' tb, Fr h₀ L h' m → News h₀ L h' news → KBw.bInts b = Mine.dg 256 (Mine.oct z) z → Q (.bytes b tb) { s with heap := h', toks := tk' }) →
    wpAny (model Challenge.rw_vn0024_01.row.prog w) (ktrTop dp un gd cn cs L a ccd cl outer) (call (.ref 87) [.int z t2]) Q E s := by
  w_top off
  k_with_none
  k_fill
  intro w loose mean mg mb dp un gd cn cs a ccd cl outer A₀ base h₀ L m news s Q E z t2 B F X N T hk hdp hun h0 h1 ret
  tb_start
  k_with_none
  by_cases hz : z = 0
  · have hb : Builtin.Int.intBits z = 0 := by rw [hz]; rfl
    have hf : (((Builtin.Int.intBits z : Nat) : Int) + 7).fdiv 8 = 0 := by rw [hb]; rfl
    k_steps
    · exact absurd hf (by assumption)
    · refine ret _ _ _ _ (by assumption) (by assumption) ?_
      have e1 : Mine.oct z = 1 := by rw [hz]; rfl
      rw [ktbIn, e1]
      rfl
  · have hb := Mine.bits_pos h0 hz
    have hf : (((Builtin.Int.intBits z : Nat) : Int) + 7).fdiv 8 = ((Mine.oct z : Nat) : Int) := by
      rw [Int.fdiv_eq_ediv_of_nonneg _ (by decide)]
      unfold Mine.oct
      rw [if_neg hz]
      omega
    have hp : 0 < Mine.oct z := by
      unfold Mine.oct
      rw [if_neg hz]
      omega
    k_steps
    · refine Mine.to_big hf h0 h1 fun b t' k' e => ?_
      k_steps
      exact ret _ _ _ _ (by assumption) (by assumption) e
    · exfalso
      have h9 : (((Builtin.Int.intBits z : Nat) : Int) + 7).fdiv 8 = 0 := by assumption
      omega

set_option maxRecDepth 100000 in
set_option maxHeartbeats 8000000 in
theorem Mine.b2i : ∀ (w : World) (loose : List PySem.Str) (mean : ExcName → Option Value) (mg mb : PySem.Str → Option Value)
    (dp un : Nat) (gd : Option (List Code)) (cn : PySem.Str) (cs : Scope) (a : Addr) (ccd : Value) (cl : List (PySem.Str × Addr)) (outer : List Env) (A₀ : Around) (base h₀ : Heap) (L : Addr) (m : PySem.Str → Option Value) (news : List (Addr × Obj)) (s : Shared)
    (Q E : Value → Shared → Prop) (b : Array UInt8) (ks : List Int) (tb : Tok),
    Below A₀ base outer h₀ → Fr h₀ L s.heap m → (Mine.hd.heap_39 w.params).In h₀ → News h₀ L s.heap news → Top Mine.hd.view_39 loose mean mg mb h₀ → cs.kind = .function → dp + 10 < recursionLimit → un + 100 < cLine →
    KBw.bInts b = ks → ks.length ≤ 8 →
    (∀ h' tk' tz, Fr h₀ L h' m → News h₀ L h' news → Q (.int (Mine.val 256 ks) tz) { s with heap := h', toks := tk' }) →
    wpAny (model Challenge.rw_vn0024_01.row.prog w) (ktrTop dp un gd cn cs L a ccd cl outer) (call (.ref 80) [.bytes b tb]) Q E s := by
  w_top off
  k_with_none
  k_fill
  intro w loose mean mg mb dp un gd cn cs a ccd cl outer A₀ base h₀ L m news s Q E b ks tb B F X N T hk hdp hun hks hlen ret
  tb_start
  k_with_none
  k_steps
  rename News _ _ _ _ => lN
  exact ret _ _ _ (by assumption) (fun p hp => lN p (.tail _ hp))

set_option maxRecDepth 100000 in
set_option maxHeartbeats 8000000 in
theorem Mine.enc : ∀ (w : World) (loose : List PySem.Str) (mean : ExcName → Option Value) (mg mb : PySem.Str → Option Value)
    (dp un : Nat) (gd : Option (List Code)) (cn : PySem.Str) (cs : Scope) (a : Addr) (ccd : Value) (cl : List (PySem.Str × Addr)) (outer : List Env) (A₀ : Around) (base h₀ : Heap) (L : Addr) (m : PySem.Str → Option Value) (news : List (Addr × Obj)) (s : Shared)
    (Q E : Value → Shared → Prop) (x l : Addr) (kd v : Int) (b : Bool) (n : Nat) (ta tz tv : Tok),
    Below A₀ base outer h₀ → Fr h₀ L s.heap m → (Mine.hd.heap_39 w.params).In h₀ → News h₀ L s.heap news → Top Mine.hd.view_39 loose mean mg mb h₀ → cs.kind = .function → (l, ({ cls := .type "tuple", data := .seq #[.int kd ta, .int 0 tz, .int v tv] n } : Obj)) ∈ news → dp + 10 < recursionLimit → un + 100 < cLine →
    (kd = 0 ∨ kd = 64 ∨ kd = 128 ∨ kd = 192) → 0 ≤ v → v < 1099511627776 →
    (∀ r vs' n' h' tk', Fr h₀ L h' m → News h₀ L h' ((r, Mine.tupOf vs'.toArray n') :: news) → (∀ p ∈ news, p.1 < r) → IntsAre vs' (Mine.told kd b v) → Q (.ref r) { s with heap := h', toks := tk' }) →
    wpAny (model Challenge.rw_vn0024_01.row.prog w) (ktrTop dp un gd cn cs L a ccd cl outer) (call (.ref 36) [.ref x, .ref l, .bool b]) Q E s := by
  w_top off
  k_with_none
  k_fill
  intro w loose mean mg mb dp un gd cn cs a ccd cl outer A₀ base h₀ L m news s Q E x l kd v b n ta tz tv B F X N T hk hl hdp hun hkd hv0 hv1 ret
  tb_start
  k_with_none
  cases b with
  | true =>
    by_cases hv : v < 31
    · k_steps
      rename News _ _ _ _ => lN
      refine ret _ [_] _ _ _ (by assumption) lN (by assumption) ?_
      rw [Mine.told_st hkd hv0 hv]
      exact .cons _ _ .nil
    · k_steps
      unfold Mine.Stop
      rename Fr _ _ _ _ => lF
      rename News _ _ _ _ => lN
      refine Mine.enc_inv (v := v) (vs := [_]) lF lN (by rw [← bitAnd_m7]; exact .cons _ _ .nil) (by exact rfl) (by exact rfl) ?_ ?_ (by passes_own)
      · rw [Int.fdiv_eq_ediv_of_nonneg _ (by decide)]; rfl
      intro k m₁ news₁ h₁ tk₁ F₁ N₁ hJ
      obtain ⟨r, ws, c, tt, k, T, rfl, rfl, hw, rfl, hT, hk0, hk6⟩ := hJ
      have hwl := hw.length
      rw [Mine.sub_length] at hwl
      clear lF lN
      try k_fold
      k_steps
      · have hT0 : T ≠ 0 := by assumption
        refine Mine.add_tup (by assumption) (by assumption) (by k_mem) (by k_mem) (by omega) (by omega) fun D2 h2 F2 N2 l2 => ?_
        k_steps
        exact Mine.enc_next (by assumption) (by assumption) (fun p hp => by simp only [List.mem_cons, hp, or_true]) hw hT hv0 hv1 hT0
      · have hT0 : T = 0 := by assumption
        refine Mine.add_tup (by assumption) (by assumption) (by k_mem) (by k_mem) (by omega) (by omega) fun D2 h2 F2 N2 l2 => ?_
        k_steps
        rename News _ _ _ _ => lN
        refine ret _ _ _ _ _ (by assumption) (Mine.keep_head lN (fun p hp => by simp only [List.mem_cons, hp, or_true])) (fun p hp => l2 p (.tail _ (.tail _ hp))) ?_
        rw [Mine.told_bt hkd hv (hT0.symm.trans hT) hk0]
        exact .cons _ _ hw
  | false =>
    by_cases hv : v < 31
    · k_steps
      rename News _ _ _ _ => lN
      refine ret _ [_] _ _ _ (by assumption) lN (by assumption) ?_
      rw [Mine.told_sf hkd hv0 hv]
      exact .cons _ _ .nil
    · k_steps
      unfold Mine.Stop
      rename Fr _ _ _ _ => lF
      rename News _ _ _ _ => lN
      refine Mine.enc_inv (v := v) (vs := [_]) lF lN (by rw [← bitAnd_m7]; exact .cons _ _ .nil) (by exact rfl) (by exact rfl) ?_ ?_ (by passes_own)
      · rw [Int.fdiv_eq_ediv_of_nonneg _ (by decide)]; rfl
      intro k m₁ news₁ h₁ tk₁ F₁ N₁ hJ
      obtain ⟨r, ws, c, tt, k, T, rfl, rfl, hw, rfl, hT, hk0, hk6⟩ := hJ
      have hwl := hw.length
      rw [Mine.sub_length] at hwl
      clear lF lN
      try k_fold
      k_steps
      · have hT0 : T ≠ 0 := by assumption
        refine Mine.add_tup (by assumption) (by assumption) (by k_mem) (by k_mem) (by omega) (by omega) fun D2 h2 F2 N2 l2 => ?_
        k_steps
        exact Mine.enc_next (by assumption) (by assumption) (fun p hp => by simp only [List.mem_cons, hp, or_true]) hw hT hv0 hv1 hT0
      · have hT0 : T = 0 := by assumption
        refine Mine.add_tup (by assumption) (by assumption) (by k_mem) (by k_mem) (by omega) (by omega) fun D2 h2 F2 N2 l2 => ?_
        k_steps
        rename News _ _ _ _ => lN
        refine ret _ _ _ _ _ (by assumption) (Mine.keep_head lN (fun p hp => by simp only [List.mem_cons, hp, or_true])) (fun p hp => l2 p (.tail _ (.tail _ hp))) ?_
        rw [Mine.told_bf hkd hv (hT0.symm.trans hT) hk0]
        exact .cons _ _ hw

set_option maxRecDepth 100000 in
set_option maxHeartbeats 8000000 in
theorem Mine.fil7 : ∀ (w : World) (loose : List PySem.Str) (mean : ExcName → Option Value) (mg mb : PySem.Str → Option Value)
    (dp un : Nat) (gd : Option (List Code)) (cn : PySem.Str) (cs : Scope) (a : Addr) (ccd : Value) (cl : List (PySem.Str × Addr)) (outer : List Env) (A₀ : Around) (base h₀ : Heap) (L : Addr) (m : PySem.Str → Option Value) (news : List (Addr × Obj)) (s : Shared)
    (Q E : Value → Shared → Prop) (l : Addr) (vs : List Value) (ns : List Int) (n : Nat) (t2 : Tok),
    Below A₀ base outer h₀ → Fr h₀ L s.heap m → (Mine.hd.heap_39 w.params).In h₀ → News h₀ L s.heap news → Top Mine.hd.view_39 loose mean mg mb h₀ → cs.kind = .function → (l, listOf vs.toArray n) ∈ news → IntsAre vs ns → dp + 10 < recursionLimit → un + 100 < cLine →
    ns.length ≤ 1000 →
    (∀ r vs' n' h' tk', Fr h₀ L h' m → News h₀ L h' ((r, listOf vs'.toArray n') :: news) → (∀ p ∈ news, p.1 < r) → IntsAre vs' (Mine.fill 7 ns) → Q (.ref r) { s with heap := h', toks := tk' }) →
    wpAny (model Challenge.rw_vn0024_01.row.prog w) (ktrTop dp un gd cn cs L a ccd cl outer) (call (.ref 101) [.ref l, .int 7 t2]) Q E s := by
  w_top off
  k_with_none
  k_fill
  intro w loose mean mg mb dp un gd cn cs a ccd cl outer A₀ base h₀ L m news s Q E l vs ns n t2 B F X N T hk hl hi hdp hun hlen ret
  tb_start
  k_with_none
  k_steps
  unfold Mine.Stop
  rename Fr _ _ _ _ => lF
  rename News _ _ _ _ => lN
  refine Mine.fil_inv lF lN hl hi (by exact rfl) ?_ (by passes_own)
  intro k m₁ news₁ h₁ tk₁ F₁ N₁ hJ
  obtain ⟨r, ws, c, ks, rfl, rfl, hw, rfl, hle, hst⟩ := hJ
  clear lF lN
  cases hw with
  | nil =>
    try k_fold
    k_steps
    rename News _ _ _ _ => lN
    refine ret _ [_, _, _, _, _, _, _] _ _ _ (by assumption) (Mine.keep_head lN (fun p hp => by simp only [List.mem_cons, hp, or_true])) (ktn_ltOf (by tbn_find)) ?_
    · rw [Mine.fill_nil hst]
      exact .cons _ _ (.cons _ _ (.cons _ _ (.cons _ _ (.cons _ _ (.cons _ _ (.cons _ _ .nil))))))
  | @cons x t ws' ks' hr =>
    have hle' : ks'.length + 1 ≤ ns.length := hle
    have hwl := hr.length
    have hI : IntsAre (Value.int x t :: ws') (x :: ks') := .cons x t hr
    try k_fold
    k_steps
    · have hx : x = 0 := by assumption
      exact Mine.fil_next (by assumption) (by assumption) (by assumption) (Nat.lt_succ_self _) (Nat.le_of_succ_le hle') (Mine.strip_zero hx hst)
    · have hx : x ≠ 0 := by assumption
      rename News _ _ _ _ => lN
      refine ret _ _ _ _ _ (by assumption) (Mine.keep_head lN (fun p hp => by simp only [List.mem_cons, hp, or_true])) (ktn_ltOf (by tbn_find)) ?_
      · rw [Mine.fill_cons hx hst]
        assumption

set_option maxRecDepth 100000 in
set_option maxHeartbeats 8000000 in
theorem Mine.fil8 : ∀ (w : World) (loose : List PySem.Str) (mean : ExcName → Option Value) (mg mb : PySem.Str → Option Value)
    (dp un : Nat) (gd : Option (List Code)) (cn : PySem.Str) (cs : Scope) (a : Addr) (ccd : Value) (cl : List (PySem.Str × Addr)) (outer : List Env) (A₀ : Around) (base h₀ : Heap) (L : Addr) (m : PySem.Str → Option Value) (news : List (Addr × Obj)) (s : Shared)
    (Q E : Value → Shared → Prop) (l : Addr) (vs : List Value) (ns : List Int) (n : Nat) (t2 : Tok),
    Below A₀ base outer h₀ → Fr h₀ L s.heap m → (Mine.hd.heap_39 w.params).In h₀ → News h₀ L s.heap news → Top Mine.hd.view_39 loose mean mg mb h₀ → cs.kind = .function → (l, listOf vs.toArray n) ∈ news → IntsAre vs ns → dp + 10 < recursionLimit → un + 100 < cLine →
    ns.length ≤ 1000 →
    (∀ r vs' n' h' tk', Fr h₀ L h' m → News h₀ L h' ((r, listOf vs'.toArray n') :: news) → (∀ p ∈ news, p.1 < r) → IntsAre vs' (Mine.fill 8 ns) → Q (.ref r) { s with heap := h', toks := tk' }) →
    wpAny (model Challenge.rw_vn0024_01.row.prog w) (ktrTop dp un gd cn cs L a ccd cl outer) (call (.ref 101) [.ref l, .int 8 t2]) Q E s := by
  w_top off
  k_with_none
  k_fill
  intro w loose mean mg mb dp un gd cn cs a ccd cl outer A₀ base h₀ L m news s Q E l vs ns n t2 B F X N T hk hl hi hdp hun hlen ret
  tb_start
  k_with_none
  k_steps
  unfold Mine.Stop
  rename Fr _ _ _ _ => lF
  rename News _ _ _ _ => lN
  refine Mine.fil_inv lF lN hl hi (by exact rfl) ?_ (by passes_own)
  intro k m₁ news₁ h₁ tk₁ F₁ N₁ hJ
  obtain ⟨r, ws, c, ks, rfl, rfl, hw, rfl, hle, hst⟩ := hJ
  clear lF lN
  cases hw with
  | nil =>
    try k_fold
    k_steps
    rename News _ _ _ _ => lN
    refine ret _ [_, _, _, _, _, _, _, _] _ _ _ (by assumption) (Mine.keep_head lN (fun p hp => by simp only [List.mem_cons, hp, or_true])) (ktn_ltOf (by tbn_find)) ?_
    · rw [Mine.fill_nil hst]
      exact .cons _ _ (.cons _ _ (.cons _ _ (.cons _ _ (.cons _ _ (.cons _ _ (.cons _ _ (.cons _ _ .nil)))))))
  | @cons x t ws' ks' hr =>
    have hle' : ks'.length + 1 ≤ ns.length := hle
    have hwl := hr.length
    have hI : IntsAre (Value.int x t :: ws') (x :: ks') := .cons x t hr
    try k_fold
    k_steps
    · have hx : x = 0 := by assumption
      exact Mine.fil_next (by assumption) (by assumption) (by assumption) (Nat.lt_succ_self _) (Nat.le_of_succ_le hle') (Mine.strip_zero hx hst)
    · have hx : x ≠ 0 := by assumption
      rename News _ _ _ _ => lN
      refine ret _ _ _ _ _ (by assumption) (Mine.keep_head lN (fun p hp => by simp only [List.mem_cons, hp, or_true])) (ktn_ltOf (by tbn_find)) ?_
      · rw [Mine.fill_cons hx hst]
        assumption

namespace Mine
open PySem.Builtin.Int (intBits)
theorem dg_lead (b : Int) (hb : 0 < b) : ∀ (j n : Nat) (v : Int), 0 ≤ v → v < b ^ n → dg b (j + n) v = List.replicate j 0 ++ dg b n v := by
  intro j n v h0 h1
  rw [dg_add b (Int.le_of_lt hb), Int.ediv_eq_zero_of_lt h0 h1]
  congr 1
  induction j with
  | zero => rfl
  | succ j ih =>
    show dg b j (0 / b) ++ [0 % b] = _
    rw [Int.zero_ediv, Int.zero_emod, ih, List.replicate_succ']
theorem strip_rep (j : Nat) (l : List Int) : strip (List.replicate j 0 ++ l) = strip l := by
  induction j with
  | zero => rfl
  | succ j ih =>
    rw [List.replicate_succ, List.cons_append]
    exact (List.dropWhile_cons_of_pos (by simp)).trans ih
theorem strip_dg {n : Nat} {v : Int} (h0 : 0 ≤ v) (h1 : v < 2 ^ n) : strip (dg 2 n v) = dg 2 (intBits v) v := by
  have hb : intBits v ≤ n := (bits_lt h0).mpr h1
  have hlt : v < 2 ^ intBits v := (bits_lt h0).mp (Nat.le_refl _)
  obtain ⟨j, rfl⟩ : ∃ j, n = j + intBits v := ⟨n - intBits v, by omega⟩
  rw [dg_lead 2 (by decide) j _ v h0 hlt, strip_rep]
  by_cases hz : v = 0
  · subst hz; rfl
  · have hp := bits_pos h0 hz
    obtain ⟨k, hk⟩ : ∃ k, intBits v = k + 1 := ⟨intBits v - 1, by omega⟩
    have hge : ¬ v < 2 ^ k := fun hc => by
      have := (bits_lt h0).mpr hc
      omega
    rw [hk] at hlt ⊢
    have e : v / 2 ^ k = 1 := by
      have h2 := kbt_pos k
      rw [Int.pow_succ] at hlt
      have h3 : v = (v - 2 ^ k) + 1 * 2 ^ k := by omega
      rw [h3, Int.add_mul_ediv_right _ _ (by omega), Int.ediv_eq_zero_of_lt (by omega) (by omega)]
      rfl
    rw [Nat.add_comm k 1, dg_add 2 (by decide) 1 k, e]
    exact List.dropWhile_cons_of_neg (by simp)
theorem fill_dg {size k n : Nat} {v : Int} (h0 : 0 ≤ v) (h1 : v < 2 ^ n) (hs : 0 < size) (hk : k = if v = 0 then 1 else (intBits v + (size - 1)) / size) : fill size (dg 2 n v) = dg 2 (size * k) v := by
  have hlt : v < 2 ^ intBits v := (bits_lt h0).mp (Nat.le_refl _)
  unfold fill
  rw [strip_dg h0 h1, dg_length]
  by_cases hz : v = 0
  · subst hz
    rw [if_pos rfl] at hk
    subst hk
    rw [show intBits 0 = 0 from rfl, if_pos rfl, Nat.mul_one]
    have := dg_lead 2 (by decide) size 0 0 (by decide) (by decide)
    exact this.symm
  · have hp := bits_pos h0 hz
    rw [if_neg hz] at hk
    rw [if_neg (by omega), ← dg_lead 2 (by decide) _ _ v h0 hlt]
    congr 1
    rw [Int.fmod_eq_emod_of_nonneg _ (by omega)]
    generalize intBits v = B at *
    have e1 := Nat.div_add_mod (B + (size - 1)) size
    have e2 := Nat.mod_lt (B + (size - 1)) hs
    rw [← hk] at e1
    have e3 : (-(B : Int)) % (size : Int) = ((size * k - B : Nat) : Int) := by
      have hle : B ≤ size * k := by omega
      have hlt2 : size * k - B < size := by omega
      have e4 : (-(B : Int)) = ((size * k - B : Nat) : Int) + (-(k : Int)) * (size : Int) := by
        rw [Int.ofNat_sub hle, Int.natCast_mul, Int.neg_mul, Int.mul_comm (k : Int)]
        omega
      rw [e4, Int.add_mul_emod_self_right, Int.emod_eq_of_lt (by omega) (by omega)]
    rw [e3, Int.toNat_natCast]
    omega
theorem fill7_dg {n : Nat} {v : Int} (h0 : 0 ≤ v) (h1 : v < 2 ^ n) : fill 7 (dg 2 n v) = dg 2 (7 * sevs v) v := fill_dg h0 h1 (by decide) rfl
theorem fill8_dg {n : Nat} {v : Int} (h0 : 0 ≤ v) (h1 : v < 2 ^ n) : fill 8 (dg 2 n v) = dg 2 (8 * oct v) v := fill_dg h0 h1 (by decide) rfl
theorem sevs_lt {v : Int} (h0 : 0 ≤ v) : v < 128 ^ (sevs v) := by
  rw [pow128, ← bits_lt h0]
  unfold sevs
  by_cases h : v = 0
  · subst h; decide
  · rw [if_neg h]; omega
theorem sevs_le {v : Int} (h0 : 0 ≤ v) (h1 : v < 1099511627776) : sevs v ≤ 6 := by
  have : intBits v ≤ 40 := (bits_lt h0).mpr (by simpa using h1)
  unfold sevs
  by_cases h : v = 0
  · rw [if_pos h]; omega
  · rw [if_neg h]; omega
theorem sevs_pos {v : Int} (h0 : 0 ≤ v) : 0 < sevs v := by
  unfold sevs
  by_cases h : v = 0
  · rw [if_pos h]; decide
  · have := bits_pos h0 h
    rw [if_neg h]; omega
theorem oct_pos {v : Int} (h0 : 0 ≤ v) : 0 < oct v := by
  unfold oct
  by_cases h : v = 0
  · rw [if_pos h]; decide
  · have := bits_pos h0 h
    rw [if_neg h]; omega
theorem bInts_dg (k : Nat) (v : Int) : KBw.bInts (byteArr (dg 256 k v)) = dg 256 k v := KBa.ints_make (dg_mem 256 (by decide) _ _)
theorem bytes_eq {b : Array UInt8} {ns : List Int} (h : KBw.bInts b = ns) : b = byteArr ns := by
  subst h
  apply Array.ext'
  show b.toList = (List.map (fun n => n.toNat.toUInt8) (List.map (fun c : UInt8 => ((c.toNat : Nat) : Int)) b.toList))
  rw [List.map_map]
  conv => lhs; rw [← List.map_id b.toList]
  refine List.map_congr_left fun c _ => ?_
  show c = (((c.toNat : Nat) : Int).toNat).toUInt8
  rw [Int.toNat_natCast]
  simp
end Mine

section
theorem Mine.lawtag {w : World} {loose : List PySem.Str} {mean : ExcName → Option Value} {mg mb : PySem.Str → Option Value}
    {dp un : Nat} {gd : Option (List Code)} {cn : PySem.Str} {cs : Scope} {a : Addr} {ccd : Value} {cl : List (PySem.Str × Addr)} {outer : List Env} {A₀ : Around} {base h₀ : Heap} {L : Addr} {m : PySem.Str → Option Value} {news : List (Addr × Obj)} {s : Shared}
    {Q E : Value → Shared → Prop} {z : Int} {t2 : Tok}
    (B : Below A₀ base outer h₀) (F : Fr h₀ L s.heap m) (X : (Mine.hd.heap_39 w.params).In h₀) (N : News h₀ L s.heap news) (T : Top Mine.hd.view_39 loose mean mg mb h₀) (hk : cs.kind = .function) (hdp : dp + 10 < recursionLimit) (hun : un + 100 < cLine)
    
    (ret : ∀ r kd b v n' h' tk' ta tb, Fr h₀ L h' m → News h₀ L h' ((r, ({ cls := .type "tuple", data := .seq #[.int kd ta, .bool b, .int v tb] n' } : Obj)) :: news) → (∀ p ∈ news, p.1 < r) → (kd = 0 ∨ kd = 64 ∨ kd = 128 ∨ kd = 192) → 0 ≤ v → v < 1099511627776 → Q (.ref r) { s with heap := h', toks := tk' }) :
    wpAny (model Challenge.rw_vn0024_01.row.prog w) (ktrTop dp un gd cn cs L a ccd cl outer) (call (.ref 94) [.int z t2]) Q E s :=
  Mine.tag _ _ _ _ _ _ _ _ _ _ _ _ _ _ _ _ _ _ _ _ _ _ _ _ _  B F X N T hk hdp hun ret
theorem Mine.lawi2b {w : World} {loose : List PySem.Str} {mean : ExcName → Option Value} {mg mb : PySem.Str → Option Value}
    {dp un : Nat} {gd : Option (List Code)} {cn : PySem.Str} {cs : Scope} {a : Addr} {ccd : Value} {cl : List (PySem.Str × Addr)} {outer : List Env} {A₀ : Around} {base h₀ : Heap} {L : Addr} {m : PySem.Str → Option Value} {news : List (Addr × Obj)} {s : Shared}
    {Q E : Value → Shared → Prop} {z : Int} {t2 : Tok}
    (B : Below A₀ base outer h₀) (F : Fr h₀ L s.heap m) (X : (Mine.hd.heap_39 w.params).In h₀) (N : News h₀ L s.heap news) (T : Top Mine.hd.view_39 loose mean mg mb h₀) (hk : cs.kind = .function) (hdp : dp + 10 < recursionLimit) (hun : un + 100 < cLine)
    (h0 : 0 ≤ z) (h1 : z < 1099511627776)
    (ret : ∀ h' tk' tb, Fr h₀ L h' m → News h₀ L h' news → Q (.bytes (byteArr (Mine.dg 256 (Mine.oct z) z)) tb) { s with heap := h', toks := tk' }) :
    wpAny (model Challenge.rw_vn0024_01.row.prog w) (ktrTop dp un gd cn cs L a ccd cl outer) (call (.ref 87) [.int z t2]) Q E s :=
  Mine.i2b _ _ _ _ _ _ _ _ _ _ _ _ _ _ _ _ _ _ _ _ _ _ _ _ _  B F X N T hk hdp hun h0 h1 fun b h' tk' tb F' N' hb => by rw [Mine.bytes_eq hb]; exact ret h' tk' tb F' N'
theorem Mine.lawenc {w : World} {loose : List PySem.Str} {mean : ExcName → Option Value} {mg mb : PySem.Str → Option Value}
    {dp un : Nat} {gd : Option (List Code)} {cn : PySem.Str} {cs : Scope} {a : Addr} {ccd : Value} {cl : List (PySem.Str × Addr)} {outer : List Env} {A₀ : Around} {base h₀ : Heap} {L : Addr} {m : PySem.Str → Option Value} {news : List (Addr × Obj)} {s : Shared}
    {Q E : Value → Shared → Prop} {x l : Addr} {kd v : Int} {b : Bool} {n : Nat} {ta tz tv : Tok}
    (B : Below A₀ base outer h₀) (F : Fr h₀ L s.heap m) (X : (Mine.hd.heap_39 w.params).In h₀) (N : News h₀ L s.heap news) (T : Top Mine.hd.view_39 loose mean mg mb h₀) (hk : cs.kind = .function) (hdp : dp + 10 < recursionLimit) (hun : un + 100 < cLine)
    (hl : (l, ({ cls := .type "tuple", data := .seq #[.int kd ta, .int 0 tz, .int v tv] n } : Obj)) ∈ news) (hkd : kd = 0 ∨ kd = 64 ∨ kd = 128 ∨ kd = 192) (h0 : 0 ≤ v) (h1 : v < 1099511627776)
    (ret : ∀ r vs' n' h' tk', Fr h₀ L h' m → News h₀ L h' ((r, Mine.tupOf vs'.toArray n') :: news) → (∀ p ∈ news, p.1 < r) → IntsAre vs' (Mine.told kd b v) → Q (.ref r) { s with heap := h', toks := tk' }) :
    wpAny (model Challenge.rw_vn0024_01.row.prog w) (ktrTop dp un gd cn cs L a ccd cl outer) (call (.ref 36) [.ref x, .ref l, .bool b]) Q E s :=
  Mine.enc _ _ _ _ _ _ _ _ _ _ _ _ _ _ _ _ _ _ _ _ _ _ _ _ _ _ _ _ _ _ _ _  B F X N T hk hl hdp hun hkd h0 h1 ret
theorem Mine.law81 {w : World} {loose : List PySem.Str} {mean : ExcName → Option Value} {mg mb : PySem.Str → Option Value}
    {dp un : Nat} {gd : Option (List Code)} {cn : PySem.Str} {cs : Scope} {a : Addr} {ccd : Value} {cl : List (PySem.Str × Addr)} {outer : List Env} {A₀ : Around} {base h₀ : Heap} {L : Addr} {m : PySem.Str → Option Value} {news : List (Addr × Obj)} {s : Shared}
    {Q E : Value → Shared → Prop} {b : Array UInt8} {k : Nat} {v : Int} {tb t1 t2 : Tok}
    (B : Below A₀ base outer h₀) (F : Fr h₀ L s.heap m) (X : (Mine.hd.heap_39 w.params).In h₀) (N : News h₀ L s.heap news) (T : Top Mine.hd.view_39 loose mean mg mb h₀) (hk : cs.kind = .function) (hdp : dp + 10 < recursionLimit) (hun : un + 100 < cLine)
    (hb : KBw.bInts b = Mine.dg 256 k v) (h0 : 0 ≤ v) (h1 : v < 256 ^ k) (hle : k ≤ 8)
    (ret : ∀ r vs' n' h' tk', Fr h₀ L h' m → News h₀ L h' ((r, listOf vs'.toArray n') :: news) → (∀ p ∈ news, p.1 < r) → IntsAre vs' (Mine.dg 2 (8 * k) v) → Q (.ref r) { s with heap := h', toks := tk' }) :
    wpAny (model Challenge.rw_vn0024_01.row.prog w) (ktrTop dp un gd cn cs L a ccd cl outer) (call (.ref 73) [.bytes b tb, .int 8 t1, .int 1 t2]) Q E s :=
  Mine.cb81 _ _ _ _ _ _ _ _ _ _ _ _ _ _ _ _ _ _ _ _ _ _ _ _ _ _ _ _  B F X N T hk hdp hun hb (by rw [Mine.dg_length]; omega) fun r vs' n' h' tk' F' N' l1 hi => ret r vs' n' h' tk' F' N' l1 (by rwa [Mine.dg_length, Mine.val_dg_of 256 (by decide) k v h0 h1] at hi)
theorem Mine.law17 {w : World} {loose : List PySem.Str} {mean : ExcName → Option Value} {mg mb : PySem.Str → Option Value}
    {dp un : Nat} {gd : Option (List Code)} {cn : PySem.Str} {cs : Scope} {a : Addr} {ccd : Value} {cl : List (PySem.Str × Addr)} {outer : List Env} {A₀ : Around} {base h₀ : Heap} {L : Addr} {m : PySem.Str → Option Value} {news : List (Addr × Obj)} {s : Shared}
    {Q E : Value → Shared → Prop} {l : Addr} {vs : List Value} {k : Nat} {v : Int} {n : Nat} {t1 t2 : Tok}
    (B : Below A₀ base outer h₀) (F : Fr h₀ L s.heap m) (X : (Mine.hd.heap_39 w.params).In h₀) (N : News h₀ L s.heap news) (T : Top Mine.hd.view_39 loose mean mg mb h₀) (hk : cs.kind = .function) (hdp : dp + 10 < recursionLimit) (hun : un + 100 < cLine)
    (hl : (l, listOf vs.toArray n) ∈ news) (hi : IntsAre vs (Mine.dg 2 (7 * k) v)) (h0 : 0 ≤ v) (h1 : v < 128 ^ k) (hle : k ≤ 8)
    (ret : ∀ r vs' n' h' tk', Fr h₀ L h' m → News h₀ L h' ((r, listOf vs'.toArray n') :: news) → (∀ p ∈ news, p.1 < r) → IntsAre vs' (Mine.dg 128 k v) → Q (.ref r) { s with heap := h', toks := tk' }) :
    wpAny (model Challenge.rw_vn0024_01.row.prog w) (ktrTop dp un gd cn cs L a ccd cl outer) (call (.ref 73) [.ref l, .int 1 t1, .int 7 t2]) Q E s :=
  Mine.cb17 _ _ _ _ _ _ _ _ _ _ _ _ _ _ _ _ _ _ _ _ _ _ _ _ _ _ _ _ _  B F X N T hk hl hi hdp hun (Mine.dg_mem 2 (by decide) _ _) (by rw [Mine.dg_length]; omega) (by rw [Mine.dg_length, Nat.mul_mod_right]) fun r vs' n' h' tk' F' N' l1 hi => ret r vs' n' h' tk' F' N' l1 (by rwa [Mine.dg_length, Nat.mul_div_cancel_left _ (by decide), Mine.val_dg_of 2 (by decide) _ v h0 (by rw [← Mine.pow128]; exact h1)] at hi)
theorem Mine.law18 {w : World} {loose : List PySem.Str} {mean : ExcName → Option Value} {mg mb : PySem.Str → Option Value}
    {dp un : Nat} {gd : Option (List Code)} {cn : PySem.Str} {cs : Scope} {a : Addr} {ccd : Value} {cl : List (PySem.Str × Addr)} {outer : List Env} {A₀ : Around} {base h₀ : Heap} {L : Addr} {m : PySem.Str → Option Value} {news : List (Addr × Obj)} {s : Shared}
    {Q E : Value → Shared → Prop} {l : Addr} {vs : List Value} {k : Nat} {v : Int} {n : Nat} {t1 t2 : Tok}
    (B : Below A₀ base outer h₀) (F : Fr h₀ L s.heap m) (X : (Mine.hd.heap_39 w.params).In h₀) (N : News h₀ L s.heap news) (T : Top Mine.hd.view_39 loose mean mg mb h₀) (hk : cs.kind = .function) (hdp : dp + 10 < recursionLimit) (hun : un + 100 < cLine)
    (hl : (l, listOf vs.toArray n) ∈ news) (hi : IntsAre vs (Mine.dg 2 (8 * k) v)) (h0 : 0 ≤ v) (h1 : v < 256 ^ k) (hle : k ≤ 8)
    (ret : ∀ r vs' n' h' tk', Fr h₀ L h' m → News h₀ L h' ((r, listOf vs'.toArray n') :: news) → (∀ p ∈ news, p.1 < r) → IntsAre vs' (Mine.dg 256 k v) → Q (.ref r) { s with heap := h', toks := tk' }) :
    wpAny (model Challenge.rw_vn0024_01.row.prog w) (ktrTop dp un gd cn cs L a ccd cl outer) (call (.ref 73) [.ref l, .int 1 t1, .int 8 t2]) Q E s :=
  Mine.cb18 _ _ _ _ _ _ _ _ _ _ _ _ _ _ _ _ _ _ _ _ _ _ _ _ _ _ _ _ _  B F X N T hk hl hi hdp hun (Mine.dg_mem 2 (by decide) _ _) (by rw [Mine.dg_length]; omega) (by rw [Mine.dg_length, Nat.mul_mod_right]) fun r vs' n' h' tk' F' N' l1 hi => ret r vs' n' h' tk' F' N' l1 (by rwa [Mine.dg_length, Nat.mul_div_cancel_left _ (by decide), Mine.val_dg_of 2 (by decide) _ v h0 (by rw [← Mine.pow256]; exact h1)] at hi)
theorem Mine.law71 {w : World} {loose : List PySem.Str} {mean : ExcName → Option Value} {mg mb : PySem.Str → Option Value}
    {dp un : Nat} {gd : Option (List Code)} {cn : PySem.Str} {cs : Scope} {a : Addr} {ccd : Value} {cl : List (PySem.Str × Addr)} {outer : List Env} {A₀ : Around} {base h₀ : Heap} {L : Addr} {m : PySem.Str → Option Value} {news : List (Addr × Obj)} {s : Shared}
    {Q E : Value → Shared → Prop} {l : Addr} {vs : List Value} {k : Nat} {v : Int} {n : Nat} {t1 t2 : Tok}
    (B : Below A₀ base outer h₀) (F : Fr h₀ L s.heap m) (X : (Mine.hd.heap_39 w.params).In h₀) (N : News h₀ L s.heap news) (T : Top Mine.hd.view_39 loose mean mg mb h₀) (hk : cs.kind = .function) (hdp : dp + 10 < recursionLimit) (hun : un + 100 < cLine)
    (hl : (l, listOf vs.toArray n) ∈ news) (hi : IntsAre vs (Mine.dg 128 k v)) (h0 : 0 ≤ v) (h1 : v < 128 ^ k) (hle : k ≤ 8)
    (ret : ∀ r vs' n' h' tk', Fr h₀ L h' m → News h₀ L h' ((r, listOf vs'.toArray n') :: news) → (∀ p ∈ news, p.1 < r) → IntsAre vs' (Mine.dg 2 (7 * k) v) → Q (.ref r) { s with heap := h', toks := tk' }) :
    wpAny (model Challenge.rw_vn0024_01.row.prog w) (ktrTop dp un gd cn cs L a ccd cl outer) (call (.ref 73) [.ref l, .int 7 t1, .int 1 t2]) Q E s :=
  Mine.cb71 _ _ _ _ _ _ _ _ _ _ _ _ _ _ _ _ _ _ _ _ _ _ _ _ _ _ _ _ _  B F X N T hk hl hi hdp hun (Mine.dg_mem 128 (by decide) _ _) (by rw [Mine.dg_length]; omega) fun r vs' n' h' tk' F' N' l1 hi => ret r vs' n' h' tk' F' N' l1 (by rwa [Mine.dg_length, Mine.val_dg_of 128 (by decide) k v h0 h1] at hi)
theorem Mine.lawf7 {w : World} {loose : List PySem.Str} {mean : ExcName → Option Value} {mg mb : PySem.Str → Option Value}
    {dp un : Nat} {gd : Option (List Code)} {cn : PySem.Str} {cs : Scope} {a : Addr} {ccd : Value} {cl : List (PySem.Str × Addr)} {outer : List Env} {A₀ : Around} {base h₀ : Heap} {L : Addr} {m : PySem.Str → Option Value} {news : List (Addr × Obj)} {s : Shared}
    {Q E : Value → Shared → Prop} {l : Addr} {vs : List Value} {k : Nat} {v : Int} {n : Nat} {t2 : Tok}
    (B : Below A₀ base outer h₀) (F : Fr h₀ L s.heap m) (X : (Mine.hd.heap_39 w.params).In h₀) (N : News h₀ L s.heap news) (T : Top Mine.hd.view_39 loose mean mg mb h₀) (hk : cs.kind = .function) (hdp : dp + 10 < recursionLimit) (hun : un + 100 < cLine)
    (hl : (l, listOf vs.toArray n) ∈ news) (hi : IntsAre vs (Mine.dg 2 (8 * k) v)) (h0 : 0 ≤ v) (h1 : v < 256 ^ k) (hle : k ≤ 8)
    (ret : ∀ r vs' n' h' tk', Fr h₀ L h' m → News h₀ L h' ((r, listOf vs'.toArray n') :: news) → (∀ p ∈ news, p.1 < r) → IntsAre vs' (Mine.dg 2 (7 * Mine.sevs v) v) → Q (.ref r) { s with heap := h', toks := tk' }) :
    wpAny (model Challenge.rw_vn0024_01.row.prog w) (ktrTop dp un gd cn cs L a ccd cl outer) (call (.ref 101) [.ref l, .int 7 t2]) Q E s :=
  Mine.fil7 _ _ _ _ _ _ _ _ _ _ _ _ _ _ _ _ _ _ _ _ _ _ _ _ _ _ _ _  B F X N T hk hl hi hdp hun (by rw [Mine.dg_length]; omega) fun r vs' n' h' tk' F' N' l1 hi => ret r vs' n' h' tk' F' N' l1 (by rwa [Mine.fill7_dg h0 (by rw [← Mine.pow256]; exact h1)] at hi)
theorem Mine.lawf8 {w : World} {loose : List PySem.Str} {mean : ExcName → Option Value} {mg mb : PySem.Str → Option Value}
    {dp un : Nat} {gd : Option (List Code)} {cn : PySem.Str} {cs : Scope} {a : Addr} {ccd : Value} {cl : List (PySem.Str × Addr)} {outer : List Env} {A₀ : Around} {base h₀ : Heap} {L : Addr} {m : PySem.Str → Option Value} {news : List (Addr × Obj)} {s : Shared}
    {Q E : Value → Shared → Prop} {l : Addr} {vs : List Value} {k : Nat} {v : Int} {n : Nat} {t2 : Tok}
    (B : Below A₀ base outer h₀) (F : Fr h₀ L s.heap m) (X : (Mine.hd.heap_39 w.params).In h₀) (N : News h₀ L s.heap news) (T : Top Mine.hd.view_39 loose mean mg mb h₀) (hk : cs.kind = .function) (hdp : dp + 10 < recursionLimit) (hun : un + 100 < cLine)
    (hl : (l, listOf vs.toArray n) ∈ news) (hi : IntsAre vs (Mine.dg 2 (7 * k) v)) (h0 : 0 ≤ v) (h1 : v < 128 ^ k) (hle : k ≤ 8)
    (ret : ∀ r vs' n' h' tk', Fr h₀ L h' m → News h₀ L h' ((r, listOf vs'.toArray n') :: news) → (∀ p ∈ news, p.1 < r) → IntsAre vs' (Mine.dg 2 (8 * Mine.oct v) v) → Q (.ref r) { s with heap := h', toks := tk' }) :
    wpAny (model Challenge.rw_vn0024_01.row.prog w) (ktrTop dp un gd cn cs L a ccd cl outer) (call (.ref 101) [.ref l, .int 8 t2]) Q E s :=
  Mine.fil8 _ _ _ _ _ _ _ _ _ _ _ _ _ _ _ _ _ _ _ _ _ _ _ _ _ _ _ _  B F X N T hk hl hi hdp hun (by rw [Mine.dg_length]; omega) fun r vs' n' h' tk' F' N' l1 hi => ret r vs' n' h' tk' F' N' l1 (by rwa [Mine.fill8_dg h0 (by rw [← Mine.pow128]; exact h1)] at hi)
theorem Mine.lawb2i {w : World} {loose : List PySem.Str} {mean : ExcName → Option Value} {mg mb : PySem.Str → Option Value}
    {dp un : Nat} {gd : Option (List Code)} {cn : PySem.Str} {cs : Scope} {a : Addr} {ccd : Value} {cl : List (PySem.Str × Addr)} {outer : List Env} {A₀ : Around} {base h₀ : Heap} {L : Addr} {m : PySem.Str → Option Value} {news : List (Addr × Obj)} {s : Shared}
    {Q E : Value → Shared → Prop} {b : Array UInt8} {k : Nat} {v : Int} {tb : Tok}
    (B : Below A₀ base outer h₀) (F : Fr h₀ L s.heap m) (X : (Mine.hd.heap_39 w.params).In h₀) (N : News h₀ L s.heap news) (T : Top Mine.hd.view_39 loose mean mg mb h₀) (hk : cs.kind = .function) (hdp : dp + 10 < recursionLimit) (hun : un + 100 < cLine)
    (hb : KBw.bInts b = Mine.dg 256 k v) (h0 : 0 ≤ v) (h1 : v < 256 ^ k) (hle : k ≤ 8)
    (ret : ∀ h' tk' tz, Fr h₀ L h' m → News h₀ L h' news → Q (.int v tz) { s with heap := h', toks := tk' }) :
    wpAny (model Challenge.rw_vn0024_01.row.prog w) (ktrTop dp un gd cn cs L a ccd cl outer) (call (.ref 80) [.bytes b tb]) Q E s :=
  Mine.b2i _ _ _ _ _ _ _ _ _ _ _ _ _ _ _ _ _ _ _ _ _ _ _ _ _ _  B F X N T hk hdp hun hb (by rw [Mine.dg_length]; exact hle) fun h' tk' tz F' N' => by have := ret h' tk' tz F' N'; rwa [Mine.val_dg_of 256 (by decide) k v h0 h1]
end

namespace Mine
structure Go : Prop where
def RowIn (led : List (Addr × Obj)) (x : Value) (kd : Int) (b : Bool) (v : Int) : Prop :=
  ∃ (a r : Addr) (t1 t2 : Tok) (n : Nat) (ws : List Value) (c : Nat), x = .ref a ∧ (a, tupOf #[.int kd t1, .bool b, .int v t2, .ref r] n) ∈ led ∧ (r, tupOf ws.toArray c) ∈ led ∧ IntsAre ws (told kd b v)
def RowOk (kd v : Int) : Prop := (kd = 0 ∨ kd = 64 ∨ kd = 128 ∨ kd = 192) ∧ 0 ≤ v ∧ v < 1099511627776
def Rows (led : List (Addr × Obj)) (items : List Value) : Prop := ∀ x ∈ items, ∃ kd b v, RowIn led x kd b v ∧ RowOk kd v
def LawJ (l : Addr) (vs : List Value) (nn : Nat) (W : Addr) (i : Nat) (m : PySem.Str → Option Value) (nx : List (Addr × Obj)) : Prop :=
  ∃ (items : List Value) (c : Nat) (rest : List (Addr × Obj)) (u : PySem.Str → Option Value), m = (fun y => if y = PySem.Str.ofString "written" then some (.ref W) else u y) ∧ nx = (W, listOf items.toArray c) :: rest ∧ (∀ p ∈ rest, p.1 ≠ W) ∧ (l, listOf vs.toArray nn) ∈ rest ∧ items.length = i ∧ Rows rest items
/-- what the head of the loop hands on -/
def HeadP (h₀ : Heap) (L W : Addr) (m : PySem.Str → Option Value) (s : Shared) (v : Value) (s' : Shared) : Prop :=
  ∃ (l : Addr) (vs : List Value) (nn c0 : Nat) (ks : List Int) (h' : Heap) (tk : Nat), v = .ref l ∧ s' = { s with heap := h', toks := tk } ∧ Fr h₀ L h' m ∧ News h₀ L h' [(l, listOf vs.toArray nn), (W, listOf #[] c0)] ∧ IntsAre vs ks ∧ ks.length ≤ 6 ∧ @LT.lt Nat _ W l
theorem merge_head {M : Model} {A : Around} {E : Value → Shared → Prop} {s : Shared} {t : Sem Value} {Q : Value → Shared → Prop} {h₀ : Heap} {L W : Addr} {m : PySem.Str → Option Value} {c : Nat}
    (_F : Fr h₀ L s.heap m) (_N : News h₀ L s.heap [(W, listOf #[] c)]) (h1 : wpAny M A t (HeadP h₀ L W m s) E s)
    (h2 : ∀ l vs nn c0 ks h' tk, Fr h₀ L h' m → News h₀ L h' [(l, listOf vs.toArray nn), (W, listOf #[] c0)] → IntsAre vs ks → ks.length ≤ 6 → @LT.lt Nat _ W l → Q (.ref l) { s with heap := h', toks := tk }) : wpAny M A t Q E s :=
  wpAny_mono h1 (fun v s' h => by
    obtain ⟨l, vs, nn, c0, ks, h', tk, rfl, rfl, F, N, hi, hl, hw⟩ := h
    exact h2 l vs nn c0 ks h' tk F N hi hl hw) fun _ _ h => h
theorem swap2 {h₀ h : Heap} {L : Addr} {p q : Addr × Obj} (N : News h₀ L h [p, q]) : News h₀ L h [q, p] := fun x hx => N x (by simp only [List.mem_cons, List.not_mem_nil, or_false] at hx ⊢; exact hx.symm)
theorem int_at {vs : List Value} {ks : List Int} {i : Nat} {v : Value} (hi : IntsAre vs ks) (h : vs[i]? = some v) : ∃ n t, v = .int n t := by
  induction hi generalizing i with
  | nil => cases h
  | cons n t _ ih =>
    cases i with
    | zero => exact ⟨n, t, (Option.some.inj h).symm⟩
    | succ i => exact ih h
theorem lt_at {vs : List Value} {ks : List Int} {i : Nat} {v : Value} (hi : IntsAre vs ks) (h : vs[i]? = some v) : i < ks.length := by
  rw [← hi.length]
  exact (List.getElem?_eq_some_iff.mp h).1
theorem off_of {rest : List (Addr × Obj)} {W : Addr} (h : ∀ p ∈ rest, p.1 ≠ W) : OwnOff rest [W] := fun p hp b hb => by rw [List.mem_singleton.mp hb]; exact h p hp
end Mine

namespace Mine
def CompIn (h₀ : Heap) (L : Addr) (m : PySem.Str → Option Value) (g : Int → Int) (Q : Value → Shared → Prop) (xv : Value) (s₁ : Shared) : Prop :=
  ∃ ax vs nn ks news, xv = .ref ax ∧ Fr h₀ L s₁.heap m ∧ News h₀ L s₁.heap news ∧ (ax, listOf vs.toArray nn) ∈ news ∧ IntsAre vs ks ∧ ks.length ≤ 1000 ∧
    (∀ D ws c h tk, Fr h₀ L h m → News h₀ L h ((D, listOf ws.toArray c) :: news) → (∀ p ∈ news, p.1 ≠ D) → IntsAre ws (ks.map g) → Q (.ref D) { s₁ with heap := h, toks := tk })
section
variable {prog : Program} {w : World} {A : Around} {E : Value → Shared → Prop} {s : Shared} {h₀ : Heap} {L : Addr} {m : PySem.Str → Option Value} {env : Env}
theorem comp_ints (g : Int → Int) {elt iter : PySem.Expr} {x : PySem.Str} {px : Pos} {scope : Scope} {cl : List (PySem.Str × Addr)} {pos : Pos} {Q : Value → Shared → Prop} (F₀ : Fr h₀ L s.heap m)
    (hclos : closureFor scope env = pure cl) (hcell : ∀ y ∈ scope.names, y.2 ≠ .cell) (hkind : scope.kind = .function)
    (hnames : ∀ y ∈ scope.names, y.2 = .local → scope.names.lookup y.1 = some .local) (hx : scope.names.lookup x = some .local) (hh : A.handled = none)
    (helt : ∀ n t C oC m₂ s' E', LCg.NsObj oC m₂ → m₂ x = some (.int n t) → s'.heap.get? C = some oC → wpAny (model prog w) A (eval elt (compEnvC scope cl C env)) (fun y s'' => (∃ t', y = .int (g n) t') ∧ ∃ tk', s'' = { s' with toks := tk' }) E' s')
    (h : wpAny (model prog w) A (eval iter env) (CompIn h₀ L m g Q) E s)
    (hs : ∀ x, foldedSetIterable iter env x = pure x := by intro _; rfl) :
    wpAny (model prog w) A (eval (.ListComp elt [⟨.Name x px, iter, [], 0⟩] scope pos) env) Q E s := by
  refine LCg.ListComp_U F₀ hclos hcell hkind hnames hx (wpAny_mono h (fun xv s₁ h₁ => ?_) fun _ _ e => e) hs
  obtain ⟨ax, vs, nn, ks, news, rfl, F, N, hm, hi, hsz, fin⟩ := h₁
  have hvl := hi.length
  refine LCg.CompSrc.ledger (k := nn) hh F N hm (by rw [List.size_toArray, PySem.sizeLine_eq]; omega) fun gg => ?_
  have key : ∀ k i ys, i + k = vs.length → IntsAre ys ((ks.take i).map g) →
      LCg.CompRest prog w A h₀ L m env elt x scope cl { s₁ with heap := gg } (LCg.SrcAt h₀ ax vs.toArray) (fun i v => vs.toArray[i]? = some v) (LCg.FinE h₀ L m { s₁ with heap := gg } Q) k i ys news := by
    intro k
    induction k with
    | zero =>
      intro i ys hik hy
      refine LCg.CompRest.zero fun D h tk F' N' o1 => ?_
      rw [List.take_of_length_le (by omega)] at hy
      refine fin D ys ys.length h tk F' N' (fun p hp => ?_) hy
      clear fin N N' F F' hm
      induction news with
      | nil => cases hp
      | cons q r ih =>
        rcases List.mem_cons.mp hp with rfl | hp
        · exact o1.1
        · exact ih o1.2 hp
    | succ k ih =>
      intro i ys hik hy
      refine LCg.CompRest.succ fun v I oI C oC D m₂ h tk E' hP hC hmx F' N' off ne => ?_
      have hlt : i < ks.length := by omega
      obtain ⟨t, hx'⟩ := hi.get i ks[i] (by simp [hlt])
      have hv : v = .int ks[i] t := by
        have hP' : vs[i]? = some v := by simpa using hP
        rw [hx'] at hP'
        exact (Option.some.inj hP').symm
      subst hv
      refine wpAny_mono (helt _ _ C oC m₂ { s₁ with heap := h, toks := tk } E' hC hmx (N' (C, oC) (.tail _ (.head _))).1) (fun y s'' hy'' => ?_) fun _ _ e => e
      obtain ⟨⟨t', rfl⟩, tk', rfl⟩ := hy''
      refine LCg.CompEnd.intro F' N' news (fun p hp => hp) off (.inr ⟨_, hm, rfl, _, rfl⟩) (ih (i + 1) _ (by omega) ?_)
      rw [List.take_add_one, List.getElem?_eq_getElem hlt]
      simp only [Option.toList_some, List.map_append, List.map_cons, List.map_nil]
      exact hy.append (.cons _ _ .nil)
  have := key vs.length 0 [] (by omega) .nil
  rwa [← List.size_toArray (as := vs)] at this
end
def AllNe (d : Addr) : List (Addr × Obj) → Prop
  | [] => True
  | p :: r => (@Ne Nat p.1 d) ∧ AllNe d r
theorem allNe_of {d : Addr} : ∀ {l : List (Addr × Obj)}, (∀ p ∈ l, p.1 ≠ d) → AllNe d l
  | [], _ => trivial
  | p :: _, h => ⟨h p (.head _), allNe_of fun q hq => h q (.tail _ hq)⟩
theorem AllNe.mem {d : Addr} : ∀ {l : List (Addr × Obj)}, AllNe d l → ∀ p ∈ l, p.1 ≠ d
  | [], _, _, h => nomatch h
  | _ :: _, x, p, h => by
    rcases List.mem_cons.mp h with rfl | h
    · exact x.1
    · exact AllNe.mem x.2 p h
end Mine

namespace Mine
section
variable {prog : Program} {w : World} {A : Around} {E : Value → Shared → Prop} {s : Shared} {h₀ : Heap} {L l : Addr} {m : PySem.Str → Option Value} {news : List (Addr × Obj)} {value slice : PySem.Expr} {vs : List Value} {ns : List Int} {nn : Nat} {t : Tok} {Q : Value → Shared → Prop}
theorem slice_init (F : Fr h₀ L s.heap m) (N : News h₀ L s.heap news) (hl : (l, listOf vs.toArray nn) ∈ news) (hi : IntsAre vs ns) (hz : ns.length ≤ 1000)
    (h : ∀ D ws h', Fr h₀ L h' m → News h₀ L h' ((D, listOf (List.toArray ws) 0) :: news) → (∀ p ∈ news, p.1 < D) → IntsAre ws (ns.take (ns.length - 1)) → Q (.ref D) { s with heap := h' })
    (hs : subscripted slice false (.ref l) (.ref s.heap.objs.size) = operate [.ref s.heap.objs.size, .ref l] (getItem (.ref l) (.ref s.heap.objs.size))) (ht : ∀ r, letTemporaryGo value (.ref l) r = pure ()) :
    wpAny (model prog w) A (subscriptTail value slice (.ref l) (.ref s.heap.objs.size)) Q E { s with heap := s.heap.push { cls := .type "slice", data := .fields #[.none, .int (-1) t, .none] } } :=
  kmk_slice_ints (vs := vs) (ns := ns) F N ⟨_, (N _ hl).1, rfl, nn, rfl⟩ IsPart.none (IsPart.int _ _) hi (kmk_upto_neg (y := -1) hi (by decide)) rfl (fun D ws h' F' N' l1 hI _ _ => h D ws h' F' N' l1 hI) hs ht (by rw [List.size_toArray, hi.length, PySem.sizeLine_eq]; omega)
theorem slice_last (F : Fr h₀ L s.heap m) (N : News h₀ L s.heap news) (hl : (l, listOf vs.toArray nn) ∈ news) (hi : IntsAre vs ns) (hz : ns.length ≤ 1000)
    (h : ∀ D ws h', Fr h₀ L h' m → News h₀ L h' ((D, listOf (List.toArray ws) 0) :: news) → (∀ p ∈ news, p.1 < D) → IntsAre ws (ns.drop (ns.length - 1)) → Q (.ref D) { s with heap := h' })
    (hs : subscripted slice false (.ref l) (.ref s.heap.objs.size) = operate [.ref s.heap.objs.size, .ref l] (getItem (.ref l) (.ref s.heap.objs.size))) (ht : ∀ r, letTemporaryGo value (.ref l) r = pure ()) :
    wpAny (model prog w) A (subscriptTail value slice (.ref l) (.ref s.heap.objs.size)) Q E { s with heap := s.heap.push { cls := .type "slice", data := .fields #[.int (-1) t, .none, .none] } } :=
  kmk_slice_ints (vs := vs) (ns := ns) F N ⟨_, (N _ hl).1, rfl, nn, rfl⟩ (IsPart.int _ _) IsPart.none hi (kmk_from_neg (x := -1) hi (by decide)) rfl (fun D ws h' F' N' l1 hI _ _ => h D ws h' F' N' l1 hI) hs ht (by rw [List.size_toArray, hi.length, PySem.sizeLine_eq]; omega)
end
end Mine

namespace Mine
section
variable {prog : Program} {w : World} {A : Around} {E : Value → Shared → Prop} {s : Shared} {a b : Addr} {xs ys : List Value} {ns ms : List Int} {n1 n2 : Nat} {Q : Value → Shared → Prop} {h₀ : Heap} {L : Addr} {news : List (Addr × Obj)}
theorem tup_depth (ns : List Int) : PySem.SeqAt.shaped (.tuple (ns.map PyData.int)) = true := by
  simp [PySem.SeqAt.shaped, PyData.canLay0, PyData.depth, ke_canLayAll0, ke_depthAll]
theorem tup_same (ns ms : List Int) : PySem.Spec.same (.tuple (ns.map PyData.int)) (.tuple (ms.map PyData.int)) = decide (ns = ms) := by
  simp only [PySem.Spec.same]; exact ke_sameAll ns ms
theorem isTup_of (N : News h₀ L s.heap news) (ha : (a, tupOf xs.toArray n1) ∈ news) : IsTup s.heap a xs.toArray := ⟨_, (N _ ha).1, rfl, n1, rfl⟩
theorem eq_tups (N : News h₀ L s.heap news) (ha : (a, tupOf xs.toArray n1) ∈ news) (hb : (b, tupOf ys.toArray n2) ∈ news) (hi : IntsAre xs ns) (hj : IntsAre ys ms) (hu : A.units + 64 < cLine) (h : Q (.bool (decide (ns = ms))) s) :
    wpAny (model prog w) A (compareOp .Eq (.ref a) (.ref b)) Q E s :=
  eq_dataH_same (reads_newDataT (isTup_of N ha) (ke_carried hi)) (reads_newDataT (isTup_of N hb) (ke_carried hj)) (tup_depth _) (tup_depth _) hu (PySem.SeqAt.noMix_of_shape (.tuples .int) rfl _ _ (tuples_map_has fun _ => rfl) (tuples_map_has fun _ => rfl)) (by rw [tup_same]; exact h)
theorem ne_tups (N : News h₀ L s.heap news) (ha : (a, tupOf xs.toArray n1) ∈ news) (hb : (b, tupOf ys.toArray n2) ∈ news) (hi : IntsAre xs ns) (hj : IntsAre ys ms) (hu : A.units + 64 < cLine) (h : Q (.bool (!decide (ns = ms))) s) :
    wpAny (model prog w) A (compareOp .NotEq (.ref a) (.ref b)) Q E s :=
  ne_dataH_same (reads_newDataT (isTup_of N ha) (ke_carried hi)) (reads_newDataT (isTup_of N hb) (ke_carried hj)) (tup_depth _) (tup_depth _) hu (PySem.SeqAt.noMix_of_shape (.tuples .int) rfl _ _ (tuples_map_has fun _ => rfl) (tuples_map_has fun _ => rfl)) (by rw [tup_same]; exact h)
end
def IntP (f : Int) (s : Shared) (v : Value) (s' : Shared) : Prop := ∃ t tk, v = .int f t ∧ s' = { s with toks := tk }
theorem merge_int {M : Model} {A : Around} {E : Value → Shared → Prop} {s : Shared} {t : Sem Value} {Q : Value → Shared → Prop} (f : Int) (h1 : wpAny M A t (IntP f s) E s) (h2 : ∀ t tk, Q (.int f t) { s with toks := tk }) : wpAny M A t Q E s :=
  wpAny_mono h1 (fun v s' h => by
    obtain ⟨t, tk, rfl, rfl⟩ := h
    exact h2 t tk) fun _ _ h => h
def TupP (h₀ : Heap) (L : Addr) (m : PySem.Str → Option Value) (news : List (Addr × Obj)) (ks : List Int) (s : Shared) (v : Value) (s' : Shared) : Prop :=
  ∃ D ws c h tk, v = .ref D ∧ s' = { s with heap := h, toks := tk } ∧ Fr h₀ L h m ∧ News h₀ L h ((D, tupOf (List.toArray ws) c) :: news) ∧ (∀ p ∈ news, p.1 < D) ∧ IntsAre ws ks
theorem merge_tup {M : Model} {A : Around} {E : Value → Shared → Prop} {s : Shared} {t : Sem Value} {Q : Value → Shared → Prop} {h₀ : Heap} {L : Addr} {m : PySem.Str → Option Value} {news : List (Addr × Obj)}
    (_F : Fr h₀ L s.heap m) (_N : News h₀ L s.heap news) {us : List Value} {ks : List Int} (_hT : IntsAre us ks) (h1 : wpAny M A t (TupP h₀ L m news ks s) E s)
    (h2 : ∀ D ws c h tk, Fr h₀ L h m → News h₀ L h ((D, tupOf (List.toArray ws) c) :: news) → (∀ p ∈ news, p.1 < D) → IntsAre ws ks → Q (.ref D) { s with heap := h, toks := tk }) : wpAny M A t Q E s :=
  wpAny_mono h1 (fun v s' h => by
    obtain ⟨D, ws, c, h', tk, rfl, rfl, F, N, l, hi⟩ := h
    exact h2 D ws c h' tk F N l hi) fun _ _ h => h
theorem sub_split {k : Nat} (hk : 0 < k) (v : Int) : sub k v = ((dg 128 k v).take (k - 1)).map (fun n => n + 128) ++ (dg 128 k v).drop (k - 1) := by
  obtain ⟨j, rfl⟩ : ∃ j, k = j + 1 := ⟨k - 1, by omega⟩
  have e1 : (dg 128 (j + 1) v).take j = dg 128 j (v / 128) := by
    show (dg 128 j (v / 128) ++ [v % 128]).take j = _
    exact (List.take_left' (dg_length _ _ _))
  have e2 : (dg 128 (j + 1) v).drop j = [v % 128] := by
    show (dg 128 j (v / 128) ++ [v % 128]).drop j = _
    exact (List.drop_left' (dg_length _ _ _))
  rw [Nat.add_sub_cancel, e1, e2]
  rfl
section
variable {prog : Program} {w : World} {A : Around} {E : Value → Shared → Prop} {s : Shared} {a b l : Addr} {xs ys vs : List Value} {ns ms ks : List Int} {n1 n2 n : Nat} {Q : Value → Shared → Prop} {h₀ : Heap} {L : Addr} {m : PySem.Str → Option Value} {news : List (Addr × Obj)}
theorem ne_tups_same (N : News h₀ L s.heap news) (ha : (a, tupOf xs.toArray n1) ∈ news) (hb : (b, tupOf ys.toArray n2) ∈ news) (hi : IntsAre xs ns) (hj : IntsAre ys ns) (hu : A.units + 64 < cLine) (h : Q (.bool false) s) :
    wpAny (model prog w) A (compareOp .NotEq (.ref a) (.ref b)) Q E s := ne_tups N ha hb hi hj hu (by simpa using h)
theorem tuple_list (F : Fr h₀ L s.heap m) (N : News h₀ L s.heap news) (hl : (l, listOf vs.toArray n) ∈ news) (hi : IntsAre vs ks) (hz : ks.length ≤ 1000)
    (h : ∀ D h', Fr h₀ L h' m → News h₀ L h' ((D, tupOf vs.toArray 0) :: news) → (∀ p ∈ news, p.1 < D) → Q (.ref D) { s with heap := h' }) :
    wpAny (model prog w) A (call (.type "tuple") [.ref l]) Q E s :=
  call_tuple_list (items := vs.toArray) ⟨_, (N _ hl).1, rfl, n, rfl⟩ (fun h' hk => h _ _ ((F.keeps hk).push _) ((N.grown hk).push (F.keeps hk) _) fun p hp => Heap.lt_size ((N.grown hk) p hp).1) (by rw [List.size_toArray, hi.length, PySem.sizeLine_eq]; omega)
theorem bytes_list (F : Fr h₀ L s.heap m) (N : News h₀ L s.heap news) (hh : A.handled = none) {k : Nat} {v : Int} (hl : (l, listOf vs.toArray n) ∈ news) (hi : IntsAre vs (dg 256 k v)) (hz : k ≤ 1000)
    (h : ∀ h' t' j, Fr h₀ L h' m → News h₀ L h' news → Q (.bytes (byteArr (dg 256 k v)) t') { s with heap := h', toks := j }) :
    wpAny (model prog w) A (call (.type "bytes") [.ref l]) Q E s :=
  KBa.make_K F N hh ⟨_, (N _ hl).1, rfl, n, rfl⟩ hi (dg_mem 256 (by decide) _ _) (by rw [dg_length]; omega) fun h' t' j F' N' _ => h h' t' j F' N'
theorem ne_bytes_same {x : Array UInt8} {t u : Tok} (h : Q (.bool false) s) : wpAny (model prog w) A (compareOp .NotEq (.bytes x t) (.bytes x u)) Q E s := ne_bytes (by simpa using h)
theorem val_all {k : Nat} {v z : Int} (h0 : 0 ≤ v) (h1 : v < 128 ^ k) (h : z = val 128 (dg 128 k v)) : z = v := by rw [h, val_dg_of 128 (by decide) k v h0 h1]
theorem first_ne {v : Int} (h0 : 0 ≤ v) (h : 0 < v) : (dg 128 (sevs v) v).getD (Int.toNat 0) 0 ≠ 0 := by
  have hp := sevs_pos h0
  obtain ⟨k, hk⟩ : ∃ k, sevs v = k + 1 := ⟨sevs v - 1, by omega⟩
  have hlt := sevs_lt h0
  have hge : 128 ^ k ≤ v := by
    refine Int.not_lt.mp fun hc => ?_
    rw [pow128, ← bits_lt h0] at hc
    have hb := bits_pos h0 (by omega)
    unfold sevs at hk
    rw [if_neg (by omega)] at hk
    omega
  rw [hk] at hlt ⊢
  have hp2 : (0 : Int) < 128 ^ k := by rw [pow128]; exact kbt_pos _
  rw [Nat.add_comm k 1, dg_add 128 (by decide) 1 k]
  show v / 128 ^ k % 128 ≠ 0
  rw [Int.pow_succ] at hlt
  have e1 : 0 < v / 128 ^ k := by
    have := Int.le_ediv_of_mul_le (c := 128 ^ k) (a := 1) (b := v) hp2 (by omega)
    omega
  have e2 : v / 128 ^ k < 128 := Int.ediv_lt_of_lt_mul hp2 (by rw [Int.mul_comm]; exact hlt)
  omega
end
theorem whole_at {pre : List Int} {n w : Int} (h : w = val 128 pre) : w * 128 + n = val 128 (pre ++ [n]) := by rw [val_snoc, h]
theorem dgl_of {vs : List Value} {b v : Int} {k : Nat} (_h : IntsAre vs (dg b k v)) : (dg b k v).length = k := dg_length _ _ _
def NoP (h₀ : Heap) (L : Addr) (m : PySem.Str → Option Value) (news : List (Addr × Obj)) (s : Shared) (v : Bool) (s' : Shared) : Prop := v = false ∧ ∃ h tk, s' = { s with heap := h, toks := tk } ∧ Fr h₀ L h m ∧ News h₀ L h news
theorem merge_no {M : Model} {A : Around} {E : Value → Shared → Prop} {s : Shared} {t : Sem Bool} {Q : Bool → Shared → Prop} {h₀ : Heap} {L : Addr} {m : PySem.Str → Option Value} {news : List (Addr × Obj)}
    (_F : Fr h₀ L s.heap m) (_N : News h₀ L s.heap news) (h1 : wpAny M A t (NoP h₀ L m news s) E s) (h2 : ∀ h tk, Fr h₀ L h m → News h₀ L h news → Q false { s with heap := h, toks := tk }) : wpAny M A t Q E s :=
  wpAny_mono h1 (fun v s' h => by
    obtain ⟨rfl, h', tk, rfl, F, N⟩ := h
    exact h2 h' tk F N) fun _ _ h => h
end Mine

namespace Mine
theorem RowIn.mono {led led' : List (Addr × Obj)} {x : Value} {kd : Int} {b : Bool} {v : Int} (h : RowIn led x kd b v) (hs : ∀ p ∈ led, p ∈ led') : RowIn led' x kd b v := by
  obtain ⟨a, r, t1, t2, n, ws, c, e, h1, h2, h3⟩ := h
  exact ⟨a, r, t1, t2, n, ws, c, e, hs _ h1, hs _ h2, h3⟩
theorem law_next {h₀ h' : Heap} {L I l W D r : Addr} {oI : Obj} {vs items ws : List Value} {nn i tk c n n' : Nat} {s₁ : Shared} {Q : Flow → Shared → Prop} {m' : PySem.Str → Option Value} {news' rest : List (Addr × Obj)} {kd v : Int} {b : Bool} {t1 t2 : Tok}
    (F : Fr h₀ L h' m') (N : News h₀ L h' news') (hm : m' (PySem.Str.ofString "written") = some (.ref W))
    (hI : (I, oI) ∈ news') (hW : (W, listOf (items ++ [Value.ref D]).toArray (c + 1)) ∈ news') (hD : (D, tupOf #[.int kd t1, .bool b, .int v t2, Value.ref r] n) ∈ news') (hr : (r, tupOf ws.toArray n') ∈ news') (hrest : ∀ p ∈ rest, p ∈ news')
    (hws : IntsAre ws (told kd b v)) (hkd : kd = 0 ∨ kd = 64 ∨ kd = 128 ∨ kd = 192) (h0 : 0 ≤ v) (h1 : v < 1099511627776)
    (neWI : @Ne Nat W I) (neDI : @Ne Nat D I) (neRI : @Ne Nat r I) (neDW : @Ne Nat D W) (neRW : @Ne Nat r W) (oW : ∀ p ∈ rest, p.1 ≠ W) (oI' : ∀ p ∈ rest, p.1 ≠ I)
    (hl : (l, listOf vs.toArray nn) ∈ rest) (hil : items.length = i) (hrows : Rows rest items) :
    LStep h₀ L I oI (LawJ l vs nn W (i + 1)) s₁ Q .next { s₁ with heap := h', toks := tk } := by
  refine (show LEnd _ _ _ _ _ _ _ from ⟨h', tk, m', (W, listOf (items ++ [Value.ref D]).toArray (c + 1)) :: (D, tupOf #[.int kd t1, .bool b, .int v t2, Value.ref r] n) :: (r, tupOf ws.toArray n') :: rest, rfl, F, ?_, ?_, items ++ [Value.ref D], c + 1, _, m', ?_, rfl, ?_, .tail _ (.tail _ hl), ?_, ?_⟩)
  · intro p hp
    rcases List.mem_cons.mp hp with rfl | hp
    · exact N _ hI
    rcases List.mem_cons.mp hp with rfl | hp
    · exact N _ hW
    rcases List.mem_cons.mp hp with rfl | hp
    · exact N _ hD
    rcases List.mem_cons.mp hp with rfl | hp
    · exact N _ hr
    exact N p (hrest p hp)
  · intro p hp
    rcases List.mem_cons.mp hp with rfl | hp
    · exact neWI
    rcases List.mem_cons.mp hp with rfl | hp
    · exact neDI
    rcases List.mem_cons.mp hp with rfl | hp
    · exact neRI
    exact oI' p hp
  · funext y
    by_cases h : y = PySem.Str.ofString "written"
    · rw [if_pos h, h, hm]
    · rw [if_neg h]
  · intro p hp
    rcases List.mem_cons.mp hp with rfl | hp
    · exact neDW
    rcases List.mem_cons.mp hp with rfl | hp
    · exact neRW
    exact oW p hp
  · rw [List.length_append, hil]; rfl
  · intro x hx
    rcases List.mem_append.mp hx with hx | hx
    · obtain ⟨kd', b', v', h2, h3⟩ := hrows x hx
      exact ⟨kd', b', v', h2.mono fun p hp => .tail _ (.tail _ hp), h3⟩
    · rw [List.mem_singleton.mp hx]
      exact ⟨kd, b, v, ⟨D, r, t1, t2, n, ws, n', rfl, .head _, .tail _ (.head _), hws⟩, hkd, h0, h1⟩
end Mine

namespace Mine
def FinJ (W : Addr) (items : List Value) (c : Nat) (rest : List (Addr × Obj)) (_i : Nat) (m : PySem.Str → Option Value) (nx : List (Addr × Obj)) : Prop :=
  nx = (W, listOf items.toArray c) :: rest ∧ ∃ u : PySem.Str → Option Value, m = fun y => if y = PySem.Str.ofString "written" then some (.ref W) else u y
def FinK (W : Addr) (items : List Value) (c : Nat) (rest : List (Addr × Obj)) (I : Addr) (oI : Obj) (x : Value) (_i : Nat) (m : PySem.Str → Option Value) (nx : List (Addr × Obj)) : Prop :=
  nx = (I, oI) :: (W, listOf items.toArray c) :: rest ∧ ∃ u : PySem.Str → Option Value, m = fun y => if y = PySem.Str.ofString "written" then some (.ref W) else if y = PySem.Str.ofString "one" then some x else u y
theorem fin_mem {items : List Value} {i : Nat} {x : Value} (h : items[i]? = some x) : x ∈ items := List.mem_of_getElem? h
end Mine

namespace Mine
section
variable {prog : Program} {w : World} {A : Around} {E : Value → Shared → Prop} {s : Shared}
theorem adjust_to (k : Int) (n : Nat) (hk : 0 ≤ k) : Builtin.Slice.sliceAdjust none (some k) 1 (n : Int) = (0, ((min k.toNat n : Nat) : Int)) := by
  unfold Builtin.Slice.sliceAdjust
  have h1 : ¬ ((1 : Int) < 0) := by omega
  have h2 : ¬ (k < 0) := by omega
  simp only [h1, h2, if_false]
  congr 1
  omega
theorem places_to (b : Nat) : Builtin.Slice.slicePlaces 0 (b : Int) 1 = b := by
  unfold Builtin.Slice.slicePlaces
  have h1 : (1 : Int) > 0 := by omega
  simp only [h1, if_true, Int.ediv_one]
  split <;> omega
theorem applied_to {sl : Addr} {k : Int} {n : Nat} {u : Tok} {Q : Int × Int × Nat → Shared → Prop} (hs : s.heap.IsSliceOf sl .none (.int k u) .none) (hk : 0 ≤ k) (h : Q (0, 1, min k.toNat n) s) :
    wpAny (model prog w) A (Builtin.Slice.sliceApplied (.ref sl) (pure (n : Int))) Q E s := by
  obtain ⟨os, hos, hcs, hds⟩ := id hs
  unfold Builtin.Slice.sliceApplied Builtin.Slice.sliceFields
  refine wpAny_bind (wpAny_bind (wpAny_field hos hds (x := .none) rfl (wpAny_bind (wpAny_field hos hds (x := .int k u) rfl (wpAny_bind (wpAny_field hos hds (x := .none) rfl (wpAny_pure ?_)))))))
  refine wpAny_bind (slicePart_none ?_)
  show wpAny _ _ (if ((1 : Int) == 0) = true then _ else _) _ _ s
  rw [if_neg (by decide)]
  refine wpAny_bind (slicePart_none (wpAny_bind (slicePart_int (wpAny_bind (wpAny_pure ?_)))))
  show wpAny _ _ (match Builtin.Slice.sliceAdjust none (some k) 1 (n : Int) with | (lo, hi) => pure (lo, (1 : Int), Builtin.Slice.slicePlaces lo hi 1)) _ _ s
  rw [adjust_to k n hk]
  show wpAny _ _ (pure ((0 : Int), (1 : Int), Builtin.Slice.slicePlaces 0 (((min k.toNat n : Nat)) : Int) 1)) _ _ s
  rw [places_to]
  exact wpAny_pure h
theorem pick_to (xs : Array Value) (b : Nat) : ((List.range b).filterMap fun (k : Nat) => xs[((0 : Int) + (k : Int) * 1).toNat]?).toArray = (xs.toList.take b).toArray := by
  have e : (fun (k : Nat) => xs[((0 : Int) + (k : Int) * 1).toNat]?) = fun k => xs[0 + k]? := by
    funext k
    have : ((0 : Int) + (k : Int) * 1).toNat = 0 + k := by omega
    rw [this]
  rw [e]
  have := pick_run xs 0 b
  rw [List.filterMap_map] at this
  have e2 : ((fun x => xs[x]?) ∘ fun x => 0 + x) = fun k => xs[0 + k]? := rfl
  rw [e2] at this
  rw [this, List.drop_zero]
theorem getItem_tuple_to {t sl : Addr} {items : Array Value} {k : Int} {u : Tok} {Q : Value → Shared → Prop} (ht : IsTup s.heap t items) (hs : s.heap.IsSliceOf sl .none (.int k u) .none) (hk : 0 ≤ k)
    (h : ¬ (items.size ≤ k.toNat) → Q (.ref s.heap.objs.size) { s with heap := s.heap.push { cls := .type "tuple", data := .seq (items.toList.take (min k.toNat items.size)).toArray } })
    (h2 : items.size ≤ k.toNat → Q (.ref t) s)
    (hsz : items.size ≤ 1000) : wpAny (model prog w) A (getItem (.ref t) (.ref sl)) Q E s := by
  have hdrop : sizeOk (.seq (items.toList.take (min k.toNat items.size)).toArray) := by
    show (items.toList.take (min k.toNat items.size)).toArray.size ≤ sizeLine
    rw [List.size_toArray, List.length_take, Array.length_toList, PySem.sizeLine_eq]
    omega
  obtain ⟨os, hos, hcs, hds⟩ := id hs
  have hTs : s.TypeIs (.ref sl) "slice" := ⟨os, hos, hcs⟩
  unfold getItem
  try with_reducible refine wpAny_holding ?_
  first | refine wpAny_bind (wpAny_pure ?_) | skip
  refine wpAny_bind (wpAny_sequenceKey ht.typeIs (by decide) ?_)
  refine wpAny_bind (wpAny_callSpecial?_slot (name := Str.ofString "__getitem__") ht.typeIs slot_tuple_getitem
    (wpAny_call_entry slot_tuple_getitem ht.typeIs entry_tuple_getitem ?_ (args_tuple_getitem _ _)))
  show wpAny _ _ (Builtin.Tuple.tupleItemsOf (.ref t) >>= _) _ _ s
  refine wpAny_bind (tupleItemsOf_ ht ?_)
  refine wpAny_bind (wpAny_typeOf hTs ?_)
  rw [if_pos (by decide)]
  refine wpAny_bind (applied_to hs hk ?_)
  show wpAny _ _ (if ((0 : Int) == 0 && (1 : Int) == 1 && (min k.toNat items.size) == items.size) = true then _ else _) _ _ s
  by_cases hc : items.size ≤ k.toNat
  · rw [if_pos (by
      have : min k.toNat items.size = items.size := by omega
      rw [this]; simp)]
    have hq := h2 hc
    refine wpAny_bind (m := Builtin.Tuple.tupleIsExact _) (wpAny_bind (wpAny_typeOf ht.typeIs (wpAny_pure ?_)))
    rw [if_pos (by decide)]
    exact wpAny_bind (wpAny_rule (wpAny_pure ⟨_, rfl, wpAny_pure hq⟩))
  · rw [if_neg (by
      have : ¬ min k.toNat items.size = items.size := by omega
      simp [this])]
    have hq := h hc
    rw [pick_to items]
    first
      | exact wpAny_bind (m := Builtin.Tuple.tupleExact _) (wpAny_newObj_type (wpAny_pure ⟨_, rfl, wpAny_pure hq⟩) hdrop)
      | exact wpAny_bind (m := Builtin.Tuple.tupleExact _) (wpAny_newObj_type (wpAny_bind (wpAny_pure (wpAny_pure ⟨_, rfl, wpAny_pure hq⟩))) hdrop)
      | exact wpAny_bind (wpAny_bind (m := Builtin.Tuple.tupleExact _) (wpAny_newObj_type (wpAny_pure (wpAny_pure ⟨_, rfl, wpAny_pure hq⟩)) hdrop))
      | exact wpAny_bind (wpAny_bind (m := Builtin.Tuple.tupleExact _) (wpAny_newObj_type (wpAny_pure ⟨_, rfl, wpAny_pure hq⟩) hdrop))
end
section
variable {prog : Program} {w : World} {A : Around} {E : Value → Shared → Prop} {s : Shared} {h₀ : Heap} {L : Addr} {m : PySem.Str → Option Value} {news : List (Addr × Obj)}
theorem slice_tup {value slice : Expr} {t : Addr} {items : Array Value} {n : Nat} {k : Int} {u : Tok} {Q : Value → Shared → Prop}
    (F : Fr h₀ L s.heap m) (N : News h₀ L s.heap news) (hl : (t, tupOf items n) ∈ news) (hk : 0 ≤ k) (hsz : items.size ≤ 1000)
    (h : ∀ R c h', Fr h₀ L h' m → News h₀ L h' ((R, tupOf (items.toList.take k.toNat).toArray c) :: news) → Q (.ref R) { s with heap := h' })
    (hs : subscripted slice false (.ref t) (.ref s.heap.objs.size) = operate [.ref s.heap.objs.size, .ref t] (getItem (.ref t) (.ref s.heap.objs.size))) :
    wpAny (model prog w) A (subscriptTail value slice (.ref t) (.ref s.heap.objs.size)) Q E { s with heap := s.heap.push { cls := .type "slice", data := .fields #[.none, .int k u, .none] } } := by
  have ht : IsTup s.heap t items := ⟨_, (N _ hl).1, rfl, n, rfl⟩
  have ht' : IsTup (s.heap.push { cls := .type "slice", data := .fields #[.none, .int k u, .none] }) t items := ht.keeps fun _ _ e => Heap.get?_push_of_some _ e
  have N0 := N.grown (h' := s.heap.push { cls := .type "slice", data := .fields #[.none, .int k u, .none] }) fun _ _ e => Heap.get?_push_of_some _ e
  refine tail_any (s := { s with heap := s.heap.push { cls := .type "slice", data := .fields #[.none, .int k u, .none] } }) ht'.typeIs slot_tuple_getitem.lookup
    (getItem_tuple_to ht' (Heap.IsSliceOf.new ..) hk ?_ ?_ hsz) hs
  · intro hc
    have N1 := News.push (F.push { cls := .type "slice", data := .fields #[.none, .int k u, .none] }) N0 (tupOf (items.toList.take (min k.toNat items.size)).toArray 0)
    refine h _ 0 _ ((F.push _).push _) ?_
    rw [show items.toList.take k.toNat = items.toList.take (min k.toNat items.size) by rw [Nat.min_eq_left (by omega)]]
    exact N1
  · intro hc
    refine h _ n _ (F.push _) ?_
    rw [List.take_of_length_le (by simpa using hc)]
    intro p hp
    rcases List.mem_cons.mp hp with rfl | hp
    · exact N0 _ hl
    · exact N0 _ hp
theorem slice_three {value slice : Expr} {t : Addr} {a b c d : Value} {n : Nat} {u : Tok} {Q : Value → Shared → Prop}
    (F : Fr h₀ L s.heap m) (N : News h₀ L s.heap news) (hl : (t, tupOf #[a, b, c, d] n) ∈ news)
    (h : ∀ R e h', Fr h₀ L h' m → News h₀ L h' ((R, tupOf #[a, b, c] e) :: news) → Q (.ref R) { s with heap := h' })
    (hs : subscripted slice false (.ref t) (.ref s.heap.objs.size) = operate [.ref s.heap.objs.size, .ref t] (getItem (.ref t) (.ref s.heap.objs.size))) :
    wpAny (model prog w) A (subscriptTail value slice (.ref t) (.ref s.heap.objs.size)) Q E { s with heap := s.heap.push { cls := .type "slice", data := .fields #[.none, .int 3 u, .none] } } :=
  slice_tup F N hl (by decide) (by decide : (4 : Nat) ≤ 1000) h hs
theorem slice_pre {value slice : Expr} {t : Addr} {vs : List Value} {ns : List Int} {n : Nat} {k : Int} {u : Tok} {Q : Value → Shared → Prop}
    (F : Fr h₀ L s.heap m) (N : News h₀ L s.heap news) (hl : (t, tupOf vs.toArray n) ∈ news) (hi : IntsAre vs ns) (hk : 0 ≤ k) (hz : ns.length ≤ 1000)
    (h : ∀ R ws c h', Fr h₀ L h' m → News h₀ L h' ((R, tupOf (List.toArray ws) c) :: news) → IntsAre ws (ns.take k.toNat) → Q (.ref R) { s with heap := h' })
    (hs : subscripted slice false (.ref t) (.ref s.heap.objs.size) = operate [.ref s.heap.objs.size, .ref t] (getItem (.ref t) (.ref s.heap.objs.size))) :
    wpAny (model prog w) A (subscriptTail value slice (.ref t) (.ref s.heap.objs.size)) Q E { s with heap := s.heap.push { cls := .type "slice", data := .fields #[.none, .int k u, .none] } } :=
  slice_tup F N hl hk (by rw [List.size_toArray, hi.length]; exact hz) (fun R c h' F' N' => h R _ c h' F' N' (hi.take _)) hs
end
end Mine

namespace Mine
theorem sevs_six {v : Int} (h0 : 0 ≤ v) (h1 : v < 1099511627776) : sevs v ≤ 6 := by
  have := (bits_lt (n := 40) h0).mpr (by simpa using h1)
  unfold sevs
  split <;> omega
theorem told_len {kd v : Int} {b : Bool} (h0 : 0 ≤ v) (h1 : v < 1099511627776) : (told kd b v).length ≤ 7 := by
  unfold told
  split
  · simp
  · have := sevs_six h0 h1
    obtain ⟨k, hk⟩ : ∃ k, sevs v = k + 1 := ⟨sevs v - 1, by have := sevs_pos h0; omega⟩
    rw [List.length_cons, hk, sub_length]
    omega
theorem pre_free : ∀ (A B : List Int) (x y : Int), (∀ a ∈ A, 128 ≤ a) → (∀ a ∈ B, 128 ≤ a) → x < 128 → y < 128 → A ++ [x] = (B ++ [y]).take (A.length + 1) → A = B ∧ x = y
  | [], [], x, y, _, _, _, _, h => by simpa using h
  | [], b :: B, x, y, _, hB, hx, _, h => by
    have := hB b (.head _)
    have : x = b := by simpa using h
    omega
  | a :: A, [], x, y, hA, _, _, hy, h => by
    simp at h
  | a :: A, b :: B, x, y, hA, hB, hx, hy, h => by
    simp only [List.cons_append, List.length_cons, List.take_succ_cons, List.cons.injEq] at h
    obtain ⟨rfl, h⟩ := h
    obtain ⟨rfl, rfl⟩ := pre_free A B x y (fun z hz => hA z (.tail _ hz)) (fun z hz => hB z (.tail _ hz)) hx hy h
    exact ⟨rfl, rfl⟩
theorem sub_inj {v u : Int} {k j : Nat} (hv : 0 ≤ v) (hu : 0 ≤ u) (hvk : v < 128 ^ (k + 1)) (huj : u < 128 ^ (j + 1)) (h : sub (k + 1) v = (sub (j + 1) u).take (sub (k + 1) v).length) : v = u := by
  have hm : ∀ (n : Nat) (w : Int), ∀ a ∈ (dg 128 n w).map (· + 128), 128 ≤ a := by
    intro n w a ha
    obtain ⟨c, hc, rfl⟩ := List.mem_map.mp ha
    have := dg_mem 128 (by decide) n w c hc
    show 128 ≤ c + 128
    omega
  have hl : ∀ (n : Nat) (w : Int), 0 ≤ w → w < 128 ^ (n + 1) → val 128 (dg 128 n (w / 128)) = w / 128 := by
    intro n w h0 h1
    refine val_dg_of 128 (by decide) n _ (by omega) ?_
    rw [Int.pow_succ] at h1
    exact Int.ediv_lt_of_lt_mul (by decide) h1
  rw [sub_length] at h
  have e : sub (k + 1) v = (dg 128 k (v / 128)).map (· + 128) ++ [v % 128] := rfl
  have e2 : sub (j + 1) u = (dg 128 j (u / 128)).map (· + 128) ++ [u % 128] := rfl
  rw [e, e2] at h
  have hk : ((dg 128 k (v / 128)).map (· + 128)).length = k := by rw [List.length_map, dg_length]
  have hx : v % 128 < 128 := by omega
  have hy : u % 128 < 128 := by omega
  obtain ⟨h1, h2⟩ := pre_free _ _ _ _ (hm k (v / 128)) (hm j (u / 128)) hx hy (by rw [hk]; exact h)
  have h3 : dg 128 k (v / 128) = dg 128 j (u / 128) := by
    have := congrArg (List.map (fun x : Int => x - 128)) h1
    simpa [List.map_map, Function.comp_def] using this
  have h4 : val 128 (dg 128 k (v / 128)) = val 128 (dg 128 j (u / 128)) := by rw [h3]
  rw [hl k v hv hvk, hl j u hu huj] at h4
  omega
theorem told_inj {kd ke v u : Int} {b c : Bool} (h : told kd b v = (told ke c u).take (told kd b v).length) (hk : RowOk kd v) (hk2 : RowOk ke u) : kd = ke ∧ b = c ∧ v = u := by
  obtain ⟨hk, hv0, hv1⟩ := hk
  obtain ⟨hk2, hu0, hu1⟩ := hk2
  have hhead : ∀ x y : Int, (kd + (if b then 32 else 0) + x = ke + (if c then 32 else 0) + y) → 0 ≤ x → x < 32 → 0 ≤ y → y < 32 → kd = ke ∧ b = c ∧ x = y := by
    intro x y e _ _ _ _
    cases b <;> cases c <;> simp only [if_true, if_false, Bool.false_eq_true] at e <;> refine ⟨by omega, by first | rfl | omega, by omega⟩
  unfold told at h
  by_cases hv : v < 31
  · by_cases hu : u < 31
    · rw [if_pos hv, if_pos hu] at h
      exact hhead v u (by simpa using h) hv0 (by omega) hu0 (by omega)
    · rw [if_pos hv, if_neg hu] at h
      have := hhead v 31 (by simpa using h) hv0 (by omega) (by omega) (by omega)
      omega
  · by_cases hu : u < 31
    · rw [if_neg hv, if_pos hu] at h
      simp only [List.length_cons, List.take_succ_cons, List.cons.injEq] at h
      have := hhead 31 u h.1 (by omega) (by omega) hu0 (by omega)
      omega
    · rw [if_neg hv, if_neg hu] at h
      simp only [List.length_cons, List.take_succ_cons, List.cons.injEq] at h
      obtain ⟨a1, a2, _⟩ := hhead 31 31 h.1 (by omega) (by omega) (by omega) (by omega)
      refine ⟨a1, a2, ?_⟩
      obtain ⟨k, hk⟩ : ∃ k, sevs v = k + 1 := ⟨sevs v - 1, by have := sevs_pos hv0; omega⟩
      obtain ⟨j, hj⟩ : ∃ j, sevs u = j + 1 := ⟨sevs u - 1, by have := sevs_pos hu0; omega⟩
      have l1 := sevs_lt hv0
      have l2 := sevs_lt hu0
      rw [hk] at h l1
      rw [hj] at h l2
      exact sub_inj hv0 hu0 l1 l2 h.2
theorem told_fit {kd v : Int} {b : Bool} (hk : RowOk kd v) : (told kd b v).length ≤ 1000 := Nat.le_trans (told_len hk.2.1 hk.2.2) (by decide)
def sameRow (kd : Int) (b : Bool) (v ke : Int) (c : Bool) (u : Int) : Bool := kd == ke && (b == c && v == u)
theorem told_same {kd ke v u : Int} {b c : Bool} (hk : RowOk kd v) (hk2 : RowOk ke u) : decide (told kd b v = (told ke c u).take (told kd b v).length) = sameRow kd b v ke c u := by
  have e : sameRow kd b v ke c u = decide (kd = ke ∧ b = c ∧ v = u) := by
    unfold sameRow
    rw [Bool.eq_iff_iff]
    simp
  rw [e]
  refine decide_eq_decide.mpr ⟨fun h => told_inj h hk hk2, ?_⟩
  rintro ⟨rfl, rfl, rfl⟩
  rw [List.take_length]
section
variable {prog : Program} {w : World} {A : Around} {E : Value → Shared → Prop} {s : Shared} {h₀ : Heap} {L : Addr} {m : PySem.Str → Option Value} {news : List (Addr × Obj)} {Q : Value → Shared → Prop}
theorem item_three {value slice : Expr} {t : Addr} {a b c d : Value} {n : Nat} {u : Tok} (N : News h₀ L s.heap news) (hl : (t, tupOf #[a, b, c, d] n) ∈ news) (h : Q d s)
    (hs : subscripted slice false (.ref t) (.int 3 u) = operate [.ref t, .int 3 u] (getItem (.ref t) (.int 3 u))) : wpAny (model prog w) A (subscriptTail value slice (.ref t) (.int 3 u)) Q E s :=
  item_tupleT (l := [a, b, c, d]) ⟨_, (N _ hl).1, rfl, n, rfl⟩ (by decide) (by decide) (j := 3) rfl rfl h hs
theorem len_told {t : Addr} {vs : List Value} {ns : List Int} {n : Nat} (N : News h₀ L s.heap news) (hl : (t, tupOf vs.toArray n) ∈ news) (hi : IntsAre vs ns) (hz : ns.length ≤ 1000)
    (h : ∀ u tk, Q (.int (ns.length : Int) u) { s with toks := tk }) : wpAny (model prog w) A (call (.builtin "len") [.ref t]) Q E s := by
  have e : vs.toArray.size = ns.length := by rw [List.size_toArray, hi.length]
  refine len_tuple ⟨_, (N _ hl).1, rfl, n, rfl⟩ (by rw [e]; omega) ?_
  rw [e]
  exact h _ _
theorem eq_told {a b : Addr} {xs ys : List Value} {n1 n2 : Nat} {kd v ke u : Int} {c e : Bool} (N : News h₀ L s.heap news) (ha : (a, tupOf xs.toArray n1) ∈ news) (hb : (b, tupOf ys.toArray n2) ∈ news) (hi : IntsAre xs (told kd c v)) (hj : IntsAre ys ((told ke e u).take (Int.toNat ((told kd c v).length : Int))))
    (hk : RowOk kd v) (hk2 : RowOk ke u) (hu : A.units + 64 < cLine) (h : Q (.bool (kd == ke && (c == e && v == u))) s) :
    wpAny (model prog w) A (compareOp .Eq (.ref a) (.ref b)) Q E s := eq_tups N ha hb hi hj hu (by rw [Int.toNat_natCast, told_same hk hk2]; exact h)
theorem ne_same {b : Bool} (h : Q (.bool false) s) : wpAny (model prog w) A (compareOp .NotEq (.bool b) (.bool b)) Q E s := ne_bool (by
  have e : (b != b) = false := by cases b <;> rfl
  rw [e]; exact h)
end
theorem fin_k0 {W I : Addr} {items : List Value} {c i : Nat} {rest : List (Addr × Obj)} {oI : Obj} {x : Value} {m : PySem.Str → Option Value} (hm : m (PySem.Str.ofString "written") = some (.ref W)) (hx : m (PySem.Str.ofString "one") = some x) :
    FinK W items c rest I oI x i m ((I, oI) :: (W, listOf items.toArray c) :: rest) := by
  refine ⟨rfl, m, ?_⟩
  funext y
  by_cases h : y = PySem.Str.ofString "written"
  · rw [if_pos h, h, hm]
  · rw [if_neg h]
    by_cases h : y = PySem.Str.ofString "one"
    · rw [if_pos h, h, hx]
    · rw [if_neg h]
theorem fin_j0 {W : Addr} {items : List Value} {c i : Nat} {rest : List (Addr × Obj)} {m : PySem.Str → Option Value} (hm : m (PySem.Str.ofString "written") = some (.ref W)) : FinJ W items c rest i m ((W, listOf items.toArray c) :: rest) := by
  refine ⟨rfl, m, ?_⟩
  funext y
  by_cases h : y = PySem.Str.ofString "written"
  · rw [if_pos h, h, hm]
  · rw [if_neg h]
theorem fin_k {h₀ h' : Heap} {L I2 I W : Addr} {oI2 oI : Obj} {items : List Value} {i tk c : Nat} {s₁ : Shared} {Q : Flow → Shared → Prop} {m' : PySem.Str → Option Value} {news' rest : List (Addr × Obj)} {x : Value}
    (F : Fr h₀ L h' m') (N : News h₀ L h' news') (hm : m' (PySem.Str.ofString "written") = some (.ref W)) (hx : m' (PySem.Str.ofString "one") = some x) (hI2 : (I2, oI2) ∈ news') (hr : ∀ p ∈ (I, oI) :: (W, listOf items.toArray c) :: rest, p ∈ news')
    (o2 : ∀ p ∈ (I, oI) :: (W, listOf items.toArray c) :: rest, p.1 ≠ I2) : LStep h₀ L I2 oI2 (FinK W items c rest I oI x (i + 1)) s₁ Q .next { s₁ with heap := h', toks := tk } := by
  refine (show LEnd _ _ _ _ _ _ _ from ⟨h', tk, m', (I, oI) :: (W, listOf items.toArray c) :: rest, rfl, F, ?_, o2, fin_k0 hm hx⟩)
  intro p hp
  rcases List.mem_cons.mp hp with rfl | hp
  · exact N _ hI2
  exact N p (hr p hp)
theorem fin_j {h₀ h' : Heap} {L I W : Addr} {oI : Obj} {items : List Value} {i tk c : Nat} {s₁ : Shared} {Q : Flow → Shared → Prop} {m' : PySem.Str → Option Value} {rest : List (Addr × Obj)}
    (F : Fr h₀ L h' m') (N : News h₀ L h' ((I, oI) :: (W, listOf items.toArray c) :: rest)) (hm : m' (PySem.Str.ofString "written") = some (.ref W))
    (o : ∀ p ∈ (W, listOf items.toArray c) :: rest, p.1 ≠ I) : LStep h₀ L I oI (FinJ W items c rest (i + 1)) s₁ Q .next { s₁ with heap := h', toks := tk } :=
  (show LEnd _ _ _ _ _ _ _ from ⟨h', tk, m', (W, listOf items.toArray c) :: rest, rfl, F, N, o, fin_j0 hm⟩)
end Mine

local macro_rules | `(tactic| walk_at "eval ListComp") => `(tactic| refine Mine.Stop.out ?_)
local macro_rules | `(tactic| walk_at "call ref") => `(tactic| (k_here; (with_reducible show wpAny _ _ (call (Value.ref 94) _ _) _ _ _); k_dflt (refine' Mine.lawtag ?kB ?kF ?kX ?kN ?kT ?kK ?kd ?ku  ?_; (case kB => k_asm); (case kF => k_asm); (case kX => k_asm); (case kN => k_asm); (case kT => k_asm); (case kK => first | exact rfl | assumption); (case kd => ktr_room); (case ku => ktr_units); k_whole); intro r kd b v n' h' tk' ta tb F' N' l1 hkd hv0 hv1; (have hs6 := Mine.sevs_le hv0 hv1); (have hs1 := Mine.sevs_pos hv0); (have ho5 := Mine.oct_le hv0 hv1); (try k_lt l1); (try k_sweep)))
local macro_rules | `(tactic| walk_at "call ref") => `(tactic| (k_here; (with_reducible show wpAny _ _ (call (Value.ref 87) _ _) _ _ _); k_dflt (refine' Mine.lawi2b ?kB ?kF ?kX ?kN ?kT ?kK ?kd ?ku ?p0 ?p1 ?_; (case kB => k_asm); (case kF => k_asm); (case kX => k_asm); (case kN => k_asm); (case kT => k_asm); (case kK => first | exact rfl | assumption); (case kd => ktr_room); (case ku => ktr_units); (case p0 => first | (with_reducible assumption) | assumption); (case p1 => first | (with_reducible assumption) | assumption); k_whole); intro h' tk' tb F' N'; (try k_sweep)))
local macro_rules | `(tactic| walk_at "call ref") => `(tactic| (k_here; (with_reducible show wpAny _ _ (call (Value.ref 36) _ _) _ _ _); k_dflt (refine' Mine.lawenc ?kB ?kF ?kX ?kN ?kT ?kK ?kd ?ku ?p0 ?p1 ?p2 ?p3 ?_; (case kB => k_asm); (case kF => k_asm); (case kX => k_asm); (case kN => k_asm); (case kT => k_asm); (case kK => first | exact rfl | assumption); (case kd => ktr_room); (case ku => ktr_units); (case p0 => k_mem); (case p1 => first | (with_reducible assumption) | assumption); (case p2 => first | (with_reducible assumption) | assumption); (case p3 => first | (with_reducible assumption) | assumption); k_whole); intro r vs' n' h' tk' F' N' l1 hi; (try k_lt l1); (try k_sweep)))
local macro_rules | `(tactic| walk_at "call ref") => `(tactic| (k_here; (with_reducible show wpAny _ _ (call (Value.ref 73) _ _) _ _ _); k_dflt (refine' Mine.law81 ?kB ?kF ?kX ?kN ?kT ?kK ?kd ?ku ?p0 ?p1 ?p2 ?p3 ?_; (case kB => k_asm); (case kF => k_asm); (case kX => k_asm); (case kN => k_asm); (case kT => k_asm); (case kK => first | exact rfl | assumption); (case kd => ktr_room); (case ku => ktr_units); (case p0 => exact Mine.bInts_dg _ _); (case p1 => first | (with_reducible assumption) | assumption); (case p2 => exact Mine.oct_lt (by assumption)); (case p3 => exact Nat.le_trans (Mine.oct_le (by assumption) (by assumption)) (by decide)); k_whole); intro r vs' n' h' tk' F' N' l1 hi; (try k_lt l1); (try k_sweep)))
local macro_rules | `(tactic| walk_at "call ref") => `(tactic| (k_here; (with_reducible show wpAny _ _ (call (Value.ref 73) _ _) _ _ _); k_dflt (refine' Mine.law17 ?kB ?kF ?kX ?kN ?kT ?kK ?kd ?ku ?p0 ?p1 ?p2 ?p3 ?p4 ?_; (case kB => k_asm); (case kF => k_asm); (case kX => k_asm); (case kN => k_asm); (case kT => k_asm); (case kK => first | exact rfl | assumption); (case kd => ktr_room); (case ku => ktr_units); (case p0 => k_mem); (case p1 => first | (with_reducible assumption) | assumption); (case p2 => first | (with_reducible assumption) | assumption); (case p3 => exact Mine.sevs_lt (by assumption)); (case p4 => exact Nat.le_trans (Mine.sevs_le (by assumption) (by assumption)) (by decide)); k_whole); intro r vs' n' h' tk' F' N' l1 hi; (try k_lt l1); (try k_sweep)))
local macro_rules | `(tactic| walk_at "call ref") => `(tactic| (k_here; (with_reducible show wpAny _ _ (call (Value.ref 73) _ _) _ _ _); k_dflt (refine' Mine.law71 ?kB ?kF ?kX ?kN ?kT ?kK ?kd ?ku ?p0 ?p1 ?p2 ?p3 ?p4 ?_; (case kB => k_asm); (case kF => k_asm); (case kX => k_asm); (case kN => k_asm); (case kT => k_asm); (case kK => first | exact rfl | assumption); (case kd => ktr_room); (case ku => ktr_units); (case p0 => k_mem); (case p1 => first | (with_reducible assumption) | assumption); (case p2 => first | (with_reducible assumption) | assumption); (case p3 => exact Mine.sevs_lt (by assumption)); (case p4 => exact Nat.le_trans (Mine.sevs_le (by assumption) (by assumption)) (by decide)); k_whole); intro r vs' n' h' tk' F' N' l1 hi; (try k_lt l1); (try k_sweep)))
local macro_rules | `(tactic| walk_at "call ref") => `(tactic| (k_here; (with_reducible show wpAny _ _ (call (Value.ref 73) _ _) _ _ _); k_dflt (refine' Mine.law18 ?kB ?kF ?kX ?kN ?kT ?kK ?kd ?ku ?p0 ?p1 ?p2 ?p3 ?p4 ?_; (case kB => k_asm); (case kF => k_asm); (case kX => k_asm); (case kN => k_asm); (case kT => k_asm); (case kK => first | exact rfl | assumption); (case kd => ktr_room); (case ku => ktr_units); (case p0 => k_mem); (case p1 => first | (with_reducible assumption) | assumption); (case p2 => first | (with_reducible assumption) | assumption); (case p3 => exact Mine.oct_lt (by assumption)); (case p4 => exact Nat.le_trans (Mine.oct_le (by assumption) (by assumption)) (by decide)); k_whole); intro r vs' n' h' tk' F' N' l1 hi; (try k_lt l1); (try k_sweep)))
local macro_rules | `(tactic| walk_at "call ref") => `(tactic| (k_here; (with_reducible show wpAny _ _ (call (Value.ref 101) _ _) _ _ _); k_dflt (refine' Mine.lawf7 ?kB ?kF ?kX ?kN ?kT ?kK ?kd ?ku ?p0 ?p1 ?p2 ?p3 ?p4 ?_; (case kB => k_asm); (case kF => k_asm); (case kX => k_asm); (case kN => k_asm); (case kT => k_asm); (case kK => first | exact rfl | assumption); (case kd => ktr_room); (case ku => ktr_units); (case p0 => k_mem); (case p1 => first | (with_reducible assumption) | assumption); (case p2 => first | (with_reducible assumption) | assumption); (case p3 => exact Mine.oct_lt (by assumption)); (case p4 => exact Nat.le_trans (Mine.oct_le (by assumption) (by assumption)) (by decide)); k_whole); intro r vs' n' h' tk' F' N' l1 hi; (try k_lt l1); (try k_sweep)))
local macro_rules | `(tactic| walk_at "call ref") => `(tactic| (k_here; (with_reducible show wpAny _ _ (call (Value.ref 101) _ _) _ _ _); k_dflt (refine' Mine.lawf8 ?kB ?kF ?kX ?kN ?kT ?kK ?kd ?ku ?p0 ?p1 ?p2 ?p3 ?p4 ?_; (case kB => k_asm); (case kF => k_asm); (case kX => k_asm); (case kN => k_asm); (case kT => k_asm); (case kK => first | exact rfl | assumption); (case kd => ktr_room); (case ku => ktr_units); (case p0 => k_mem); (case p1 => first | (with_reducible assumption) | assumption); (case p2 => first | (with_reducible assumption) | assumption); (case p3 => exact Mine.sevs_lt (by assumption)); (case p4 => exact Nat.le_trans (Mine.sevs_le (by assumption) (by assumption)) (by decide)); k_whole); intro r vs' n' h' tk' F' N' l1 hi; (try k_lt l1); (try k_sweep)))
local macro_rules | `(tactic| walk_at "call ref") => `(tactic| (k_here; (with_reducible show wpAny _ _ (call (Value.ref 80) _ _) _ _ _); k_dflt (refine' Mine.lawb2i ?kB ?kF ?kX ?kN ?kT ?kK ?kd ?ku ?p0 ?p1 ?p2 ?p3 ?_; (case kB => k_asm); (case kF => k_asm); (case kX => k_asm); (case kN => k_asm); (case kT => k_asm); (case kK => first | exact rfl | assumption); (case kd => ktr_room); (case ku => ktr_units); (case p0 => exact Mine.bInts_dg _ _); (case p1 => first | (with_reducible assumption) | assumption); (case p2 => exact Mine.oct_lt (by assumption)); (case p3 => exact Nat.le_trans (Mine.oct_le (by assumption) (by assumption)) (by decide)); k_whole); intro h' tk' tz F' N'; (try k_lt l1); (try k_sweep)))

local macro_rules | `(tactic| walk_at "subscriptTail Name Slice ref ref") => `(tactic| (k_here; (with_reducible show wpAny _ _ (subscriptTail _ (PySem.Expr.Slice _ _ none _) (Value.ref _) (Value.ref _)) _ _ _); k_dflt (first | refine' Mine.slice_init ?F ?N ?l ?i ?z ?_ ?s ?t | refine' Mine.slice_last ?F ?N ?l ?i ?z ?_ ?s ?t); (case F => k_asm); (case N => k_asm); (case l => k_mem); (case i => first | (with_reducible assumption) | assumption); (case z => first | assumption | (simp only [Mine.dg_length]; omega) | omega); (case s => with_unfolding_all rfl); (case t => (intro _; with_unfolding_all rfl)); k_whole; intro D' ws' h' F' N' l1 hI'; (try k_lt l1); (try k_sweep)))
local macro_rules | `(tactic| walk_at "binaryOp Add ref ref") => `(tactic| (k_here; (with_reducible show wpAny _ _ (binaryOp _ (Value.ref _) (Value.ref _)) _ _ _); k_dflt (refine' kmk_add_ints ?F ?N ?a ?b ?i ?j ?_ ?z; (case F => k_asm); (case N => k_asm); (case a => exact News.isList (by k_asm) (by k_mem)); (case b => exact News.isList (by k_asm) (by k_mem)); (case i => first | (with_reducible assumption) | l_ints); (case j => first | (with_reducible assumption) | l_ints); (case z => (simp only [List.length_map, List.length_take, List.length_drop, List.length_append, List.length_cons, List.length_nil, Mine.dg_length, PySem.sizeLine_eq]; omega))); intro D' ws' h' F' N' l1 hI'; (try k_lt l1); (try k_sweep)))
local macro_rules | `(tactic| walk_at "compareOp NotEq ref ref") => `(tactic| (k_here; k_dflt (refine' Mine.ne_tups ?N ?a ?b ?i ?j ?u ?_; (case N => k_asm); (case a => k_mem); (case b => k_mem); (case i => first | (with_reducible assumption) | l_ints); (case j => first | (with_reducible assumption) | l_ints); (case u => ke_room))))
local macro_rules | `(tactic| walk_at "compareOp Eq ref ref") => `(tactic| (k_here; k_dflt (refine' Mine.eq_tups ?N ?a ?b ?i ?j ?u ?_; (case N => k_asm); (case a => k_mem); (case b => k_mem); (case i => first | (with_reducible assumption) | l_ints); (case j => first | (with_reducible assumption) | l_ints); (case u => ke_room))))
local macro_rules | `(tactic| walk_at "eval IfExp") => `(tactic| ((fail_if_success (rename Mine.Go => hGo9)); refine Mine.Stop.out ?_))
local macro_rules | `(tactic| walk_at "exec For Name Name cons nil") => `(tactic| (k_here; (rename Fr _ _ _ _ => lF'); (with_unfolding_all refine' For_invVF lF' ?k1 ?k2 ?_; (case k1 => exact rfl); (case k2 => exact rfl); k_whole)))
local macro_rules | `(tactic| walk_at "compareOp NotEq ref ref") => `(tactic| (k_here; k_dflt (refine' Mine.ne_tups_same ?N ?a ?b ?i ?j ?u ?_; (case N => k_asm); (case a => k_mem); (case b => k_mem); (case i => first | (with_reducible assumption) | l_ints); (case j => first | (with_reducible assumption) | l_ints); (case u => ke_room))))
local macro_rules | `(tactic| walk_at "compareOp NotEq bytes bytes") => `(tactic| (k_here; (with_reducible refine Mine.ne_bytes_same ?_)))
local macro_rules | `(tactic| walk_at "call type:tuple") => `(tactic| (k_here; (with_reducible show wpAny _ _ (call (Value.type "tuple") [Value.ref _]) _ _ _); k_dflt (refine' Mine.tuple_list ?F ?N ?l ?i ?z ?_; (case F => k_asm); (case N => k_asm); (case l => k_mem); (case i => first | (with_reducible assumption) | l_ints | l_intsW); (case z => (simp only [List.length_map, List.length_take, List.length_drop, List.length_append, List.length_cons, List.length_nil, Mine.dg_length]; omega))); intro D' h' F' N' l1; (try k_lt l1); (try k_sweep)))
local macro_rules | `(tactic| walk_at "call type:bytes") => `(tactic| (k_here; (with_reducible show wpAny _ _ (call (Value.type "bytes") [Value.ref _]) _ _ _); k_dflt (refine' Mine.bytes_list ?F ?N ?h ?l ?i ?z ?_; (case F => k_asm); (case N => k_asm); (case h => rfl); (case l => k_mem); (case i => first | (with_reducible assumption) | assumption); (case z => omega)); intro h' t' j' F' N'; (try k_sweep)))
local macro_rules | `(tactic| walk_at "isTrue BoolOp") => `(tactic| ((fail_if_success (rename Mine.Go => hGo9)); refine Mine.Stop.out ?_))

local macro_rules | `(tactic| walk_at "subscriptTail Name Slice ref ref") => `(tactic| (k_here; (with_reducible show wpAny _ _ (subscriptTail _ (PySem.Expr.Slice none _ none _) (Value.ref _) (Value.ref _)) _ _ _); k_dflt (refine' Mine.slice_three ?F ?N ?myl ?_ ?mys; (case F => k_asm); (case N => k_asm); (case myl => (repeat (first | (with_reducible exact List.mem_cons_self) | (with_reducible assumption) | (with_reducible refine List.mem_cons_of_mem _ ?_)))); (case mys => with_unfolding_all rfl)); k_whole; intro D' c' h' F' N'; (try k_sweep)))
local macro_rules | `(tactic| walk_at "subscriptTail") => `(tactic| (k_here; (with_reducible show wpAny _ _ (subscriptTail _ (PySem.Expr.Slice none _ none _) (Value.ref _) (Value.ref _)) _ _ _); k_dflt (refine' Mine.slice_pre ?F ?N ?myl ?myi ?myk ?myz ?_ ?mys; (case F => k_asm); (case N => k_asm); (case myl => (repeat (first | (with_reducible exact List.mem_cons_self) | (with_reducible assumption) | (with_reducible refine List.mem_cons_of_mem _ ?_)))); (case myi => with_reducible assumption); (case myk => exact Int.natCast_nonneg _); (case myz => exact Mine.told_fit (by assumption)); (case mys => with_unfolding_all rfl)); k_whole; intro D' ws' c' h' F' N' hI'; (try k_sweep)))
local macro_rules | `(tactic| walk_at "subscriptTail Name Constant ref int") => `(tactic| (k_here; (with_reducible show wpAny _ _ (subscriptTail _ _ (Value.ref _) (Value.int 3 _)) _ _ _); k_dflt (refine' Mine.item_three ?N ?myl ?_ ?mys; (case N => k_asm); (case myl => (repeat (first | (with_reducible exact List.mem_cons_self) | (with_reducible assumption) | (with_reducible refine List.mem_cons_of_mem _ ?_)))); (case mys => with_unfolding_all rfl)); k_whole))
local macro_rules | `(tactic| walk_at "call builtin:len") => `(tactic| (k_here; (with_reducible show wpAny _ _ (call (Value.builtin _) [Value.ref _]) _ _ _); k_dflt (refine' Mine.len_told ?N ?myl ?myi ?myz ?_; (case N => k_asm); (case myl => (repeat (first | (with_reducible exact List.mem_cons_self) | (with_reducible assumption) | (with_reducible refine List.mem_cons_of_mem _ ?_)))); (case myi => with_reducible assumption); (case myz => exact Mine.told_fit (by assumption))); intro _ _))
local macro_rules | `(tactic| walk_at "compareOp Eq ref ref") => `(tactic| (k_here; k_dflt (refine' Mine.eq_told ?N ?mya ?myb ?myi ?myj ?myk ?myk2 ?myu ?_; (case N => k_asm); (case mya => (repeat (first | (with_reducible exact List.mem_cons_self) | (with_reducible assumption) | (with_reducible refine List.mem_cons_of_mem _ ?_)))); (case myb => (repeat (first | (with_reducible exact List.mem_cons_self) | (with_reducible assumption) | (with_reducible refine List.mem_cons_of_mem _ ?_)))); (case myi => with_reducible assumption); (case myj => with_reducible assumption); (case myk => with_reducible assumption); (case myk2 => with_reducible assumption); (case myu => ke_room))))
local macro_rules | `(tactic| walk_at "compareOp NotEq bool bool") => `(tactic| (with_reducible refine Mine.ne_same ?_))

local macro_rules | `(tactic| walk_at "eval BoolOp") => `(tactic| ((fail_if_success (rename Mine.Go => hGo9)); refine Mine.Stop.out ?_))
set_option maxRecDepth 100000 in
set_option maxHeartbeats 80000000 in
theorem PySem.Challenge.cw_vn0024_01_holds : PySem.Challenge.rw_vn0024_01.Holds := by
  exact Mine.hd (by
    w_top off
    w_strict (
      k_go0
      (all_goals try k_fold)
      k_with_none
      k_steps
      unfold Mine.Stop
      rename Fr _ _ _ _ => lF
      rename News _ _ _ _ => lN
      refine Mine.merge_head lF lN ?_ ?_
      · have go : Mine.Go := ⟨⟩
        try k_fold
        k_steps
        · rename Fr _ _ _ _ => lF2
          rename News _ _ _ _ => lN2
          exact ⟨_, _, _, _, _, _, _, rfl, rfl, lF2, lN2, by assumption, by rw [List.length_take]; omega, by assumption⟩
        · rename Fr _ _ _ _ => lF2
          rename News _ _ _ _ => lN2
          refine ⟨_, [_, _], _, 0, _, _, _, rfl, rfl, lF2, Mine.keep_head lN2 (fun p hp => by simp only [List.mem_singleton] at hp; simp only [List.mem_cons, hp, or_true, true_or]), .cons _ _ (.cons _ _ .nil), by simp, by omega⟩
      · intro l vs nn c0 ks h' tk F N hi hle hW
        clear lF lN
        try k_fold
        k_steps
        unfold Mine.Stop
        rename Fr _ _ _ _ => lF
        rename News _ _ _ _ => lN
        refine Mine.for_list (l := l) (vs := vs) (nn := nn) (Mine.LawJ l vs nn _) (by rfl) ?_ lF (Mine.swap2 lN) ⟨[], _, _, _, rfl, rfl, ?_, List.mem_singleton.mpr rfl, rfl, fun _ h => nomatch h⟩ ?_ ?_
        · rintro i m nx ⟨items, c, rest, u, rfl, rfl, -, h, -⟩
          exact .tail _ h
        · intro p hp
          rw [List.mem_singleton.mp hp]
          exact Nat.ne_of_gt hW
        · rintro i v m₁ nx h tk I oI hv ⟨items, c, rest, u, rfl, rfl, hoW, hlr, hil, hrows⟩ hoI F₁ N₁
          obtain ⟨n, t, rfl⟩ := Mine.int_at hi hv
          have hi6 := Mine.lt_at hi hv
          have oW := Mine.off_of hoW
          have oI2 := Mine.off_of (fun p hp => hoI p (.tail _ hp))
          have hWI : @Ne Nat _ I := hoI _ (.head _)
          clear lF lN
          (try dsimp only at F₁ hWI)
          try k_fold
          k_steps
          unfold Mine.Stop
          k_dflt (refine' Mine.comp_ints (fun n => n + 128) ?kF ?k1 ?k2 ?k3 ?k4 ?k5 ?k6 ?kE ?kH)
          case kF => k_asm
          case k1 => rfl
          case k2 => decide
          case k3 => rfl
          case k4 => decide
          case k5 => rfl
          case k6 => rfl
          case kE =>
            intro n t C oC m₂ s' E' hC hm hCo
            have hNs := hC.ns hCo
            try k_fold
            k_steps
          case kH =>
            try k_fold
            k_steps
            rename Fr _ _ _ _ => lF
            rename News _ _ _ _ => lN
            refine ⟨_, _, _, _, _, rfl, lF, lN, by k_mem, by assumption, by (simp only [List.length_take, Mine.dg_length]; omega), fun D ws c h tk F' N' ne hi => ?_⟩
            replace ne := Mine.allNe_of ne
            simp only [Mine.AllNe, and_true] at ne
            clear lF lN
            try k_fold
            k_steps
            unfold Mine.Stop
            rename Bool => bb
            refine Mine.merge_int (if bb = true then 32 else 0) ?_ fun t2 tk2 => ?_
            · have go : Mine.Go := ⟨⟩
              try k_fold
              k_steps
              all_goals (have hbb := ‹bb = _›; rw [hbb]; exact ⟨_, _, rfl, rfl⟩)
            try k_fold
            k_steps
            unfold Mine.Stop
            rename Fr _ _ _ _ => lF
            rename News _ _ _ _ => lN
            rename IntsAre _ (Mine.told _ _ _) => hTold
            refine Mine.merge_tup lF lN hTold ?_ (fun D3 ws3 c3 h3 tk3 F3 N3 l3 hi3 => ?_)
            · have go : Mine.Go := ⟨⟩
              try k_fold
              k_steps
              · rename Fr _ _ _ _ => lF
                rename News _ _ _ _ => lN
                rename (_ : Int) < 31 => hlt
                refine ⟨_, [_], _, _, _, rfl, rfl, lF, Mine.keep_head lN (fun p hp => by simp only [List.mem_cons] at hp ⊢; exact Or.inr hp), ktn_ltOf (by tbn_lt), ?_⟩
                unfold Mine.told
                rw [if_pos hlt]
                exact .cons _ _ .nil
              · rename Fr _ _ _ _ => lF
                rename News _ _ _ _ => lN
                rename ¬ ((_ : Int) < 31) => hge
                rename IntsAre _ (_ ++ _) => hx
                simp only [Mine.dg_length] at hx
                refine ⟨_, _, _, _, _, rfl, rfl, lF, Mine.keep_head lN (fun p hp => by simp only [List.mem_cons] at hp ⊢; exact Or.inr (Or.inr hp)), ktn_ltOf (by tbn_lt), ?_⟩
                unfold Mine.told
                rw [if_neg hge, Mine.sub_split (by assumption)]
                exact hx
            · k_lt l3
              clear lF lN
              try k_fold
              k_steps
              unfold Mine.Stop
              k_with_none
              k_with "state" => first | exact Mine.whole_at (by assumption) | exact rfl
              k_state (fun pre whole => whole = Mine.val 128 pre) "whole"
              · k_steps
              · have hw9 := Mine.val_all (by assumption) (Mine.sevs_lt (by assumption)) kInv
                subst hw9
                rename IntsAre _ (Mine.dg 128 _ _) => hdig
                have hdl := Mine.dgl_of hdig
                try k_fold
                k_steps
                unfold Mine.Stop
                rename Fr _ _ _ _ => lF
                rename News _ _ _ _ => lN
                refine Mine.merge_no lF lN ?_ fun h5 tk5 F5 N5 => ?_
                · have go : Mine.Go := ⟨⟩
                  try k_fold
                  k_steps
                  all_goals first
                    | exact absurd rfl ‹_ ≠ _›
                    | exact absurd ‹(Mine.dg 128 (Mine.sevs _) _).getD (Int.toNat 0) 0 = 0› (Mine.first_ne (by assumption) (by assumption))
                    | exact ⟨rfl, _, _, rfl, by assumption, by assumption⟩
                clear lF lN
                try k_fold
                k_steps
                unfold Mine.Stop
                rename Fr _ _ _ _ => lF
                rename News _ _ _ _ => lN
                refine Mine.merge_no lF lN ?_ fun h6 tk6 F6 N6 => ?_
                · have go : Mine.Go := ⟨⟩
                  try k_fold
                  k_steps
                  all_goals first
                    | exact absurd rfl ‹_ ≠ _›
                    | exact absurd ‹(Mine.dg 128 (Mine.sevs _) _).getD (Int.toNat 0) 0 = 0› (Mine.first_ne (by assumption) (by assumption))
                    | exact ⟨rfl, _, _, rfl, by assumption, by assumption⟩
                clear lF lN
                try k_fold
                k_steps
                rename Fr _ _ _ _ => lF
                rename News _ _ _ _ => lN
                rename IntsAre _ (Mine.told _ _ _) => hi9
                simp only [List.push_toArray] at lN
                refine' Mine.law_next lF lN (by rfl) ?m1 ?m2 ?m3 ?m4 ?m5 hTold (by assumption) (by assumption) (by assumption) hWI ?n1 ?n2 ?n3 ?n4 hoW (fun p hp => hoI p (.tail _ hp)) hlr hil hrows
                case m1 => k_mem
                case m2 => k_mem
                case m3 => k_mem
                case m4 => k_mem
                case m5 => (intro p hp; simp only [List.mem_cons, hp, or_true])
                case n1 => omega
                case n2 => omega
                case n3 => omega
                case n4 => omega
        · rintro m₁ nx h tk ⟨items, c, rest, u, rfl, rfl, hoW, hlr, hil, hrows⟩ F₁ N₁
          clear lF lN
          try k_fold
          k_steps
          unfold Mine.Stop
          rename Fr _ _ _ _ => lF
          rename News _ _ _ _ => lN
          refine Mine.for_list (l := _) (vs := items) (nn := c) (Mine.FinJ _ items c rest) (by rfl) ?_ lF lN ⟨rfl, _, rfl⟩ ?_ ?_
          · rintro i m nx ⟨rfl, -⟩
            exact .head _
          · rintro i x m₂ nx h2 tk2 I oI hx ⟨rfl, u2, rfl⟩ hoI F₂ N₂
            obtain ⟨kd1, b1, v1, ⟨a1, r1, t11, t12, n1, ws1, c1, rfl, hma1, hmr1, hi1⟩, hk1⟩ := hrows _ (Mine.fin_mem hx)
            clear lF lN
            (try dsimp only at F₂)
            try k_fold
            k_steps
            unfold Mine.Stop
            rename Fr _ _ _ _ => lF
            rename News _ _ _ _ => lN
            refine Mine.for_list (l := _) (vs := items) (nn := c) (Mine.FinK _ items c rest I oI (.ref a1)) (by rfl) ?_ lF lN (Mine.fin_k0 (by rfl) (by rfl)) ?_ ?_
            · rintro i m nx ⟨rfl, -⟩
              exact .tail _ (.head _)
            · rintro i2 x2 m₃ nx h3 tk3 I2 oI2 hx2 ⟨rfl, u3, rfl⟩ hoI2 F₃ N₃
              obtain ⟨kd2, b2, v2, ⟨a2, r2, t21, t22, n2, ws2, c2, rfl, hma2, hmr2, hi2⟩, hk2⟩ := hrows _ (Mine.fin_mem hx2)
              clear lF lN
              (try dsimp only at F₃)
              try k_fold
              k_steps
              rename Fr _ _ _ _ => lF
              rename News _ _ _ _ => lN
              refine' Mine.fin_k lF lN (by rfl) (by rfl) ?fm1 ?fm2 hoI2
              case fm1 => (repeat (first | (with_reducible exact List.mem_cons_self) | (with_reducible assumption) | (with_reducible refine List.mem_cons_of_mem _ ?_)))
              case fm2 => (intro p hp; (repeat (first | exact hp | (with_reducible refine List.mem_cons_of_mem _ ?_))))
            · rintro m₃ nx h3 tk3 ⟨rfl, u3, rfl⟩ F₃ N₃
              clear lF lN
              (try dsimp only at F₃)
              try k_fold
              k_steps
              rename Fr _ _ _ _ => lF
              rename News _ _ _ _ => lN
              exact Mine.fin_j lF lN (by rfl) hoI
          · rintro m₃ nx h3 tk3 ⟨rfl, u3, rfl⟩ F₃ N₃
            clear lF lN
            (try dsimp only at F₃)
            try k_fold
            k_steps))

