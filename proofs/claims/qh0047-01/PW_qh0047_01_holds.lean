import PyProof.Rows.All
import Wide.All
import OpenK.AllK
import Wide.FinOn
import KE.BitLaws
import Lean
import PySem.Challenge.RW_qh0047_01
set_option Elab.async false
section
open PySem PySem.W PyProof.Rows
set_option Elab.async false
set_option maxRecDepth 100000
set_option maxHeartbeats 8000000
namespace Mine
/- only to have the written part of the heap as a constant of this file (kk.heap_1), ahead of the head -/
section
local macro_rules | `(tactic| o_head $H) => `(tactic| skip)
theorem kk (h : PySem.Challenge.rw_qh0047_01.row.Holds) : PySem.Challenge.rw_qh0047_01.row.Holds := by
  k_head
  exact h
end
end Mine
end
local macro_rules | `(tactic| walk_at $s:str) => `(tactic| k_extra $s)
local macro_rules | `(tactic| ktr_call $a:term $b:term) => `(tactic| (k_here; k_dflt (refine' $a ?u1 ?u2 ?u3 ?u4 ?u5 ?u6 ?u7 ?u8 ?u9 ?_; (case u1 => k_asm); (case u2 => k_asm); (case u3 => k_asm); (case u4 => k_asm); (case u5 => k_asm); (case u6 => first | exact rfl | assumption); (case u7 => ktr_room); (case u8 => ktr_units); k_whole; (case u9 => exact $b); intros; (try dsimp only); (try k_fold))))
section
set_option maxRecDepth 100000
namespace Mine
open PySem PyProof.Rows
/-- the figure of p at the place k, from behind -/
@[irreducible] noncomputable def fg (p k : Nat) : Nat := Nat.rec (motive := fun _ => Nat → Nat) (fun p => p % 10) (fun _ f p => f (p / 10)) k p
/-- k figures read to the base 64 -/
noncomputable def D (k p : Nat) : Nat := Nat.rec (motive := fun _ => Nat → Nat) (fun _ => 0) (fun _ f p => p % 10 + 64 * f (p / 10)) k p
noncomputable def O (k : Nat) : Nat := Nat.rec (motive := fun _ => Nat) 0 (fun _ o => 64 * o + 1) k
@[irreducible] noncomputable def dn (p : Nat) : Nat := D 8 p
theorem D_s (k p : Nat) : D (k + 1) p = p % 10 + 64 * D k (p / 10) := rfl
theorem O_s (k : Nat) : O (k + 1) = 64 * O k + 1 := rfl
theorem O_8 : O 8 = 4467856773185 := rfl
theorem fg_le (p k : Nat) : fg p k ≤ 9 := by
  unfold fg
  induction k generalizing p with
  | zero => exact Nat.le_of_lt_succ (Nat.mod_lt _ (by decide))
  | succ k ih => exact ih (p / 10)
theorem D_le (k p : Nat) : D k p ≤ 9 * O k := by
  induction k generalizing p with
  | zero => exact Nat.le_refl _
  | succ k ih =>
    rw [D_s, O_s, Nat.mul_add, Nat.mul_left_comm, Nat.add_comm]
    exact Nat.add_le_add (Nat.mul_le_mul_left 64 (ih _)) (Nat.le_of_lt_succ (Nat.mod_lt _ (by decide)))
theorem dn_le (p : Nat) : dn p ≤ 40210710958665 := by unfold dn; exact D_le 8 p
theorem dn_lt (p : Nat) : dn p < 281474976710656 := Nat.lt_of_le_of_lt (dn_le p) (by decide)
theorem up_mod {s z q : Nat} (h : s < 64) : (s + 64 * z) % (64 * q) = s + 64 * (z % q) := by
  rw [Nat.mod_mul, Nat.add_mul_mod_self_left, Nat.mod_eq_of_lt h, Nat.add_mul_div_left _ _ (by decide), Nat.div_eq_of_lt h, Nat.zero_add]
theorem D_mod (k p : Nat) : D k (p % 10 ^ k) = D k p := by
  induction k generalizing p with
  | zero => rfl
  | succ k ih =>
    rw [D_s, D_s, Nat.pow_succ', Nat.mod_mul, Nat.add_mul_mod_self_left, Nat.mod_mod, Nat.add_mul_div_left _ _ (by decide), Nat.div_eq_of_lt (Nat.mod_lt p (by decide)), Nat.zero_add, ih]
theorem D_top (k p : Nat) : D (k + 1) p % 64 ^ k = D k p := by
  induction k generalizing p with
  | zero => exact Nat.mod_one _
  | succ k ih => rw [D_s, Nat.pow_succ', up_mod (Nat.lt_trans (Nat.mod_lt p (by decide)) (by decide)), ih, ← D_s]
theorem D_nines (k a b : Nat) (h : a + b + 1 = 10 ^ k) : D k a + D k b = 9 * O k := by
  induction k generalizing a b with
  | zero => rfl
  | succ k ih =>
    rw [Nat.pow_succ'] at h
    generalize 10 ^ k = q at h ih
    have e : a % 10 + b % 10 = 9 ∧ a / 10 + b / 10 + 1 = q := by clear ih; omega
    have t := ih _ _ e.2
    have e1 := e.1
    rw [D_s, D_s, O_s]
    clear e h ih
    generalize a % 10 = a0 at e1 ⊢
    generalize b % 10 = b0 at e1 ⊢
    omega
theorem par (a b : Nat) : (a ^^^ b) % 2 = (a + b) % 2 := by
  have := Nat.xor_mod_two_pow (a := a) (b := b) (n := 1)
  rw [Nat.pow_one] at this
  rw [this, Nat.add_mod]
  rcases Nat.mod_two_eq_zero_or_one a with h1 | h1 <;> rcases Nat.mod_two_eq_zero_or_one b with h2 | h2 <;> rw [h1, h2] <;> rfl
theorem xdiv (a b : Nat) : (a ^^^ b) / 64 = a / 64 ^^^ b / 64 := Nat.xor_div_two_pow (n := 6)
theorem and_six (n o : Nat) : n &&& (64 * o + 1) = 64 * (n / 64 &&& o) + n % 2 := by
  have h1 : (n &&& (64 * o + 1)) / 64 = n / 64 &&& o := by
    have h : (n &&& (64 * o + 1)) / 64 = n / 64 &&& (64 * o + 1) / 64 := Nat.and_div_two_pow (n := 6)
    rw [Nat.mul_add_div (by decide)] at h
    exact h
  have h2 : (n &&& (64 * o + 1)) % 64 = n % 64 &&& (64 * o + 1) % 64 := Nat.and_mod_two_pow (n := 6)
  rw [Nat.mul_add_mod, show 1 % 64 = 1 from rfl, Nat.and_one_is_mod] at h2
  rw [← h1, ← Nat.mod_mod_of_dvd n (show 2 ∣ 64 from ⟨32, rfl⟩), ← h2]
  exact (Nat.div_add_mod _ _).symm
/-- the sum, figure by figure, with a carry -/
theorem sum_core (k a b c : Nat) (hc : c ≤ 1) : (D k a + 54 * O k + D k b + c) % 64 ^ k + 54 * (((D k a + 54 * O k) ^^^ D k b ^^^ (D k a + 54 * O k + D k b + c)) / 64 &&& O k) = 54 * O k + D k (a + b + c) := by
  induction k generalizing a b c with
  | zero => show _ % 1 + 54 * (_ &&& 0) = 0; rw [Nat.mod_one, Nat.and_zero]
  | succ k ih =>
    obtain ⟨c', r, hc', hr, ht⟩ : ∃ c' r, c' ≤ 1 ∧ r ≤ 9 ∧ a % 10 + b % 10 + c = 10 * c' + r := ⟨(a % 10 + b % 10 + c) / 10, (a % 10 + b % 10 + c) % 10, Nat.le_of_lt_succ (Nat.div_lt_of_lt_mul (Nat.lt_of_le_of_lt (Nat.add_le_add (Nat.add_le_add (Nat.le_of_lt_succ (Nat.mod_lt a (by decide : 0 < 10))) (Nat.le_of_lt_succ (Nat.mod_lt b (by decide : 0 < 10)))) hc) (by decide))), Nat.le_of_lt_succ (Nat.mod_lt _ (by decide)), (Nat.div_add_mod _ _).symm⟩
    have e1 : (a + b + c) % 10 = r ∧ (a + b + c) / 10 = a / 10 + b / 10 + c' := by
      have t : a + b + c = r + 10 * (a / 10 + b / 10 + c') := by
        have da := Nat.div_add_mod a 10
        have db := Nat.div_add_mod b 10
        generalize a / 10 = a1 at da ⊢
        generalize b / 10 = b1 at db ⊢
        generalize a % 10 = a0 at da ht
        generalize b % 10 = b0 at db ht
        rw [← da, ← db]
        clear da db ih hc hc' hr
        omega
      have hr' : r < 10 := Nat.lt_succ_of_le hr
      rw [t, Nat.add_mul_mod_self_left, Nat.add_mul_div_left _ _ (by decide), Nat.mod_eq_of_lt hr', Nat.div_eq_of_lt hr', Nat.zero_add]
      exact ⟨rfl, rfl⟩
    obtain ⟨s, hs, hs'⟩ : ∃ s, s + 54 * c' = r + 54 ∧ s < 64 := by
      rcases Nat.le_one_iff_eq_zero_or_eq_one.mp hc' with e | e
      · exact ⟨r + 54, by rw [e], Nat.add_lt_add_right (Nat.lt_succ_of_le hr) 54⟩
      · exact ⟨r, by rw [e], Nat.lt_trans (Nat.lt_succ_of_le hr) (by decide)⟩
    have h := ih (a / 10) (b / 10) c' hc'
    have ha : a % 10 + 54 < 64 := Nat.add_lt_add_right (Nat.mod_lt a (by decide : 0 < 10)) 54
    have hb : b % 10 < 64 := Nat.lt_trans (Nat.mod_lt b (by decide : 0 < 10)) (by decide)
    rw [D_s k (a + b + c), e1.1, e1.2, D_s, D_s, O_s, Nat.pow_succ']
    generalize D k (a / 10 + b / 10 + c') = d at h ⊢
    generalize D k (b / 10) = y at h ⊢
    have eX : a % 10 + 64 * D k (a / 10) + 54 * (64 * O k + 1) = (a % 10 + 54) + 64 * (D k (a / 10) + 54 * O k) := by clear h ht e1 hs hs' hc' hr ha hb hc ih; omega
    rw [eX]
    clear eX
    generalize D k (a / 10) + 54 * O k = x at h ⊢
    have eS : a % 10 + 54 + 64 * x + (b % 10 + 64 * y) + c = s + 64 * (x + y + c') := by clear h e1 hs' hc' hr ha hb hc ih; omega
    rw [eS, up_mod hs', xdiv, xdiv, Nat.add_mul_div_left _ _ (by decide), Nat.add_mul_div_left _ _ (by decide), Nat.add_mul_div_left _ _ (by decide), Nat.div_eq_of_lt ha, Nat.div_eq_of_lt hb, Nat.div_eq_of_lt hs', Nat.zero_add, Nat.zero_add, Nat.zero_add, and_six]
    have hp : (x ^^^ y ^^^ (x + y + c')) % 2 = c' := by
      have p1 := par (x ^^^ y) (x + y + c'); have p2 := par x y; clear h ht e1 hs hs' hr ha hb hc ih eS; omega
    rw [hp]
    generalize (x ^^^ y ^^^ (x + y + c')) / 64 &&& O k = f at h ⊢
    generalize (x + y + c') % 64 ^ k = m at h ⊢
    clear ht e1 hs' hc' hr ha hb hc ih eS hp
    omega

theorem add_xor_and : ∀ x y : Nat, x + y = (x ^^^ y) + 2 * (x &&& y) := by
  intro x
  induction x using Nat.strongRecOn with
  | _ x ih =>
    intro y
    by_cases h : x = 0
    · rw [h, Nat.zero_xor, Nat.zero_and, Nat.zero_add]; rfl
    · have e := ih (x / 2) (Nat.div_lt_self (Nat.pos_of_ne_zero h) (by decide)) (y / 2)
      have a1 : (x ^^^ y) / 2 = x / 2 ^^^ y / 2 := Nat.xor_div_two_pow (n := 1)
      have a2 : (x &&& y) / 2 = x / 2 &&& y / 2 := Nat.and_div_two_pow (n := 1)
      have b : (x ^^^ y) % 2 + 2 * ((x &&& y) % 2) = x % 2 + y % 2 := by
        have q1 : (x ^^^ y) % 2 = x % 2 ^^^ y % 2 := Nat.xor_mod_two_pow (n := 1)
        have q2 : (x &&& y) % 2 = x % 2 &&& y % 2 := Nat.and_mod_two_pow (n := 1)
        rw [q1, q2]
        rcases Nat.mod_two_eq_zero_or_one x with h1 | h1 <;> rcases Nat.mod_two_eq_zero_or_one y with h2 | h2 <;> rw [h1, h2] <;> rfl
      rw [← a1, ← a2] at e
      have d1 := Nat.div_add_mod (x ^^^ y) 2
      have d2 := Nat.div_add_mod (x &&& y) 2
      have d3 := Nat.div_add_mod x 2
      have d4 := Nat.div_add_mod y 2
      generalize (x ^^^ y) / 2 = u1 at e d1
      generalize (x &&& y) / 2 = u2 at e d2
      generalize x / 2 = u3 at e d3
      generalize y / 2 = u4 at e d4
      generalize (x ^^^ y) % 2 = v1 at b d1
      generalize (x &&& y) % 2 = v2 at b d2
      generalize x % 2 = v3 at b d3
      generalize y % 2 = v4 at b d4
      rw [← d1, ← d2, ← d3, ← d4]
      clear d1 d2 d3 d4 a1 a2 ih h
      omega
theorem band_nat (x y : Nat) : Builtin.bitAnd (x : Int) (y : Int) = ((x &&& y : Nat) : Int) := by
  rw [bitAnd_pp (Int.natCast_nonneg _) (Int.natCast_nonneg _)]; rfl
theorem bxor_nat (x y : Nat) : Builtin.bitXor (x : Int) (y : Int) = ((x ^^^ y : Nat) : Int) := by
  rw [bitXor_and, band_nat, ← Int.natCast_add, add_xor_and x y, Int.natCast_add, Int.natCast_mul]
  exact Int.add_sub_cancel _ _
theorem bor_nat (x y : Nat) : Builtin.bitOr (x : Int) (y : Int) = ((x ||| y : Nat) : Int) := by
  have h := bitOr_and (x : Int) (y : Int)
  rw [band_nat] at h
  have e : x + y = (x ||| y) + (x &&& y) := by
    have h1 := add_xor_and x y
    have h2 : (x ||| y) = (x ^^^ y) + (x &&& y) := by
      have := add_xor_and (x ^^^ y) (x &&& y)
      have z : (x ^^^ y) &&& (x &&& y) = 0 := by
        apply Nat.eq_of_testBit_eq; intro i; rw [Nat.testBit_and, Nat.testBit_xor, Nat.testBit_and, Nat.zero_testBit]; cases x.testBit i <;> cases y.testBit i <;> rfl
      have z2 : (x ^^^ y) ^^^ (x &&& y) = x ||| y := by
        apply Nat.eq_of_testBit_eq; intro i; rw [Nat.testBit_xor, Nat.testBit_xor, Nat.testBit_and, Nat.testBit_or]; cases x.testBit i <;> cases y.testBit i <;> rfl
      rw [z, z2] at this; exact this.symm
    rw [h1, h2, Nat.two_mul, Nat.add_assoc]
  rw [h, ← Int.natCast_add, e, Int.natCast_add]
  exact Int.add_sub_cancel _ _

/-- what _law_sum reckons -/
@[irreducible] def rawSum (x y : Int) : Int := (x + 54 * 4467856773185 + y).fmod (64 ^ Int.toNat 8) - 54 * (4467856773185 - Builtin.bitAnd ((Builtin.bitXor (Builtin.bitXor (x + 54 * 4467856773185) y) (x + 54 * 4467856773185 + y)).fdiv 64) 4467856773185)
theorem raw_nat (x y : Nat) : rawSum (x : Int) (y : Int) = (((x + 54 * 4467856773185 + y) % 281474976710656 : Nat) : Int) - 54 * (4467856773185 - ((((x + 54 * 4467856773185) ^^^ y ^^^ (x + 54 * 4467856773185 + y)) / 64 &&& 4467856773185 : Nat) : Int)) := by
  unfold rawSum
  rw [show ((x : Int) + 54 * 4467856773185) = ((x + 54 * 4467856773185 : Nat) : Int) from rfl, ← Int.natCast_add, bxor_nat, bxor_nat, Int.fdiv_eq_ediv_of_nonneg _ (by decide), Int.fmod_eq_emod_of_nonneg _ (by decide)]
  exact congrArg (fun t => _ - 54 * (4467856773185 - t)) (band_nat _ 4467856773185)
theorem sum_law {a b : Nat} (_ : a < 100000000) (_ : b < 100000000) : rawSum (dn a : Int) (dn b : Int) = ((dn ((a + b) % 100000000) : Nat) : Int) := by
  have h := sum_core 8 a b 0 (by decide)
  have e : dn ((a + b) % 100000000) = D 8 (a + b) := by unfold dn; exact D_mod 8 (a + b)
  rw [raw_nat, e]
  unfold dn
  rw [O_8, Nat.add_zero, Nat.add_zero] at h
  rw [show (64 : Nat) ^ 8 = 281474976710656 from rfl] at h
  generalize (D 8 a + 54 * 4467856773185 + D 8 b) % 281474976710656 = u at h ⊢
  generalize (D 8 a + 54 * 4467856773185 ^^^ D 8 b ^^^ (D 8 a + 54 * 4467856773185 + D 8 b)) / 64 &&& 4467856773185 = v at h ⊢
  generalize D 8 (a + b) = z at h ⊢
  omega
theorem dn_nines {a : Nat} (ha : a < 100000000) : (9 * 4467856773185 - (dn a : Int)) = ((dn (99999999 - a) : Nat) : Int) := by
  have h : dn a + dn (99999999 - a) = 9 * 4467856773185 := by
    unfold dn
    exact D_nines 8 a (99999999 - a) (by show a + (99999999 - a) + 1 = 100000000; omega)
  omega
theorem dn_ten {a : Nat} (_ : a < 100000000) : (64 * (dn a : Int)).fmod (64 ^ Int.toNat 8) = ((dn (10 * a % 100000000) : Nat) : Int) := by
  rw [Int.fmod_eq_emod_of_nonneg _ (by decide)]
  show ((64 * dn a % 281474976710656 : Nat) : Int) = _
  have e : 64 * dn a % 281474976710656 = dn (10 * a % 100000000) := by
    unfold dn
    have t : D 8 (10 * a) = 64 * D 7 a := by rw [D_s 7, Nat.mul_mod_right, Nat.mul_div_cancel_left _ (by decide), Nat.zero_add]
    rw [show (100000000 : Nat) = 10 ^ 8 from rfl, D_mod, t, show (281474976710656 : Nat) = 64 * 64 ^ 7 from rfl, Nat.mul_mod_mul_left, D_top 7]
  rw [e]

/-- plain reckoning, as whole numbers below 10 ** 8 -/
@[irreducible] noncomputable def stepN (x : Nat) (way port : Nat) : Nat :=
  if way = 0 then (x + port) % 100000000 else if way = 1 then (x + 100000000 - port) % 100000000 else if way = 2 then (10 * x + port) % 100000000 else (port + 100000000 - x) % 100000000
theorem stepN_lt (x way port : Nat) : stepN x way port < 100000000 := by
  have h : ∀ n : Nat, n % 100000000 < 100000000 := fun n => Nat.mod_lt n (by decide)
  unfold stepN
  split
  · exact h _
  · split
    · exact h _
    · split <;> exact h _
theorem stepN_0 (x port : Nat) : stepN x 0 port = (x + port) % 100000000 := by unfold stepN; exact if_pos rfl
theorem stepN_1 (x port : Nat) : stepN x 1 port = (x + 100000000 - port) % 100000000 := by unfold stepN; rw [if_neg (by decide), if_pos (by decide)]
theorem stepN_2 (x port : Nat) : stepN x 2 port = (10 * x + port) % 100000000 := by unfold stepN; rw [if_neg (by decide), if_neg (by decide), if_pos (by decide)]
theorem stepN_3 (x port : Nat) : stepN x 3 port = (port + 100000000 - x) % 100000000 := by unfold stepN; rw [if_neg (by decide), if_neg (by decide), if_neg (by decide)]
theorem comp_sub {a b : Nat} (ha : a < 100000000) (hb : b < 100000000) : 99999999 - (99999999 - a + b) % 100000000 = (a + 100000000 - b) % 100000000 := by
  rcases Nat.lt_or_ge a b with h | h
  · obtain ⟨d, rfl⟩ := Nat.le.dest h
    rw [show 99999999 - a + (a + 1 + d) = 100000000 + d by omega, Nat.add_mod_left, Nat.mod_eq_of_lt (show d < 100000000 by omega), Nat.mod_eq_of_lt (by omega)]; omega
  · obtain ⟨d, rfl⟩ := Nat.le.dest h
    rw [show b + d + 100000000 - b = 100000000 + d by omega, Nat.add_mod_left, Nat.mod_eq_of_lt (show d < 100000000 by omega), Nat.mod_eq_of_lt (by omega)]; omega
theorem nine_lt (a : Nat) : 99999999 - a < 100000000 := Nat.lt_of_le_of_lt (Nat.sub_le _ _) (by decide)
theorem step0 {a b : Nat} (ha : a < 100000000) (hb : b < 100000000) : rawSum (dn a : Int) (dn b : Int) = ((dn (stepN a 0 b) : Nat) : Int) := by rw [stepN_0]; exact sum_law ha hb
theorem step1 {a b : Nat} (ha : a < 100000000) (hb : b < 100000000) : 9 * 4467856773185 - rawSum (9 * 4467856773185 - (dn a : Int)) (dn b : Int) = ((dn (stepN a 1 b) : Nat) : Int) := by
  rw [dn_nines ha, sum_law (nine_lt a) hb, dn_nines (Nat.mod_lt _ (by decide)), stepN_1, comp_sub ha hb]
theorem step2 {a b : Nat} (ha : a < 100000000) (hb : b < 100000000) : rawSum ((64 * (dn a : Int)).fmod (64 ^ Int.toNat 8)) (dn b : Int) = ((dn (stepN a 2 b) : Nat) : Int) := by
  rw [dn_ten ha, sum_law (Nat.mod_lt _ (by decide)) hb, stepN_2, Nat.mod_add_mod]
theorem step3 {a b : Nat} (ha : a < 100000000) (hb : b < 100000000) : 9 * 4467856773185 - rawSum (9 * 4467856773185 - (dn b : Int)) (dn a : Int) = ((dn (stepN a 3 b) : Nat) : Int) := by
  rw [dn_nines hb, sum_law (nine_lt b) ha, dn_nines (Nat.mod_lt _ (by decide)), stepN_3, comp_sub hb ha]
theorem sub_mod {x y : Nat} (hy : y < 100000000) : ((x : Int) - (y : Int)) % 100000000 = (((x + 100000000 - y) % 100000000 : Nat) : Int) := by
  rw [← Int.add_emod_right]
  have e : (x : Int) - (y : Int) + 100000000 = ((x + 100000000 - y : Nat) : Int) := by
    rw [Int.ofNat_sub (Nat.le_trans (Nat.le_of_lt hy) (Nat.le_add_left _ _)), Int.natCast_add, Int.sub_eq_add_neg, Int.sub_eq_add_neg, Int.add_right_comm]; rfl
  rw [e]; rfl
theorem plain0 {x way port : Nat} (h : (way : Int) = 0) : ((x : Int) + (port : Int)).fmod (10 ^ Int.toNat 8) = ((stepN x way port : Nat) : Int) := by
  rw [Int.ofNat.inj h, stepN_0, Int.fmod_eq_emod_of_nonneg _ (by decide)]; rfl
theorem plain1 {x way port : Nat} (_ : x < 100000000) (hq : port < 100000000) (h : (way : Int) = 1) : ((x : Int) - (port : Int)).fmod (10 ^ Int.toNat 8) = ((stepN x way port : Nat) : Int) := by
  rw [Int.ofNat.inj h, stepN_1, Int.fmod_eq_emod_of_nonneg _ (by decide)]
  exact sub_mod hq
theorem plain2 {x way port : Nat} (h : (way : Int) = 2) : (10 * (x : Int) + (port : Int)).fmod (10 ^ Int.toNat 8) = ((stepN x way port : Nat) : Int) := by
  rw [Int.ofNat.inj h, stepN_2, Int.fmod_eq_emod_of_nonneg _ (by decide)]; rfl
theorem plain3 {x way port : Nat} (hx : x < 100000000) (_ : port < 100000000) (hw : way < 4) (h0 : ¬ (way : Int) = 0) (h1 : ¬ (way : Int) = 1) (h2 : ¬ (way : Int) = 2) : ((port : Int) - (x : Int)).fmod (10 ^ Int.toNat 8) = ((stepN x way port : Nat) : Int) := by
  have e : way = 3 := by
    match way, hw, h0, h1, h2 with
    | 0, _, h0, _, _ => exact absurd rfl h0
    | 1, _, _, h1, _ => exact absurd rfl h1
    | 2, _, _, _, h2 => exact absurd rfl h2
    | 3, _, _, _, _ => rfl
  rw [e, stepN_3, Int.fmod_eq_emod_of_nonneg _ (by decide)]
  exact sub_mod hx
end Mine
end
section
namespace Mine
open PySem PyProof.Rows
/-- the worth of a sign of base 64; 64 for any other -/
@[irreducible] noncomputable def b64v (c : Int) : Int := if 65 ≤ c ∧ c ≤ 90 then c - 65 else if 97 ≤ c ∧ c ≤ 122 then c - 71 else if 48 ≤ c ∧ c ≤ 57 then c + 4 else if c = 43 then 62 else if c = 47 then 63 else 64
theorem b64v_in (c : Int) : 0 ≤ b64v c ∧ b64v c ≤ 64 := by
  unfold b64v
  split
  · next h => exact ⟨Int.sub_nonneg_of_le h.1, Int.le_trans (Int.sub_le_sub_right h.2 65) (by decide)⟩
  split
  · next h => exact ⟨Int.sub_nonneg_of_le (Int.le_trans (by decide) h.1), Int.le_trans (Int.sub_le_sub_right h.2 71) (by decide)⟩
  split
  · next h => exact ⟨Int.le_trans (by decide) (Int.add_le_add_right h.1 4), Int.le_trans (Int.add_le_add_right h.2 4) (by decide)⟩
  split
  · decide
  split <;> decide
noncomputable def decStep (a : Int × Int × List Int) (c : Int) : Int × Int × List Int :=
  if 64 ≤ b64v c then a
  else if a.1 = 0 then (1, b64v c, a.2.2)
  else if a.1 = 1 then (2, b64v c % 16, a.2.2 ++ [a.2.1 * 4 + b64v c / 16])
  else if a.1 = 2 then (3, b64v c % 4, a.2.2 ++ [a.2.1 * 16 + b64v c / 4])
  else (0, 0, a.2.2 ++ [a.2.1 * 64 + b64v c])
@[irreducible] noncomputable def decSt (l : List Int) : Int × Int × List Int := l.foldl decStep (0, 0, [])
theorem decSt_nil : decSt [] = (0, 0, []) := by unfold decSt; rfl
theorem decSt_snoc (l : List Int) (c : Int) : decSt (l ++ [c]) = decStep (decSt l) c := by unfold decSt; rw [List.foldl_append]; rfl
structure A2B (pre : List Int) (i lc : Int) (out : List Int) (pads q : Int) : Prop where
  dec : decSt pre = (q, lc, out)
  pads0 : pads = 0
  qlo : 0 ≤ q
  qhi : q ≤ 3
  llo : 0 ≤ lc
  lhi : lc < 64
  len : out.length ≤ pre.length
theorem A2B.start : A2B [] 0 0 [] 0 0 := ⟨decSt_nil, rfl, by decide, by decide, by decide, by decide, Nat.le_refl _⟩
theorem A2B.facts {pre : List Int} {i lc : Int} {out : List Int} {pads q : Int} (h : A2B pre i lc out pads q) : pads = 0 ∧ 0 ≤ q ∧ q ≤ 3 ∧ 0 ≤ lc ∧ lc < 64 := ⟨h.pads0, h.qlo, h.qhi, h.llo, h.lhi⟩
theorem A2B.done {l : List Int} {i lc lc' : Int} {out outs : List Int} {pads q : Int} (h : A2B l i lc out pads q) (hd : decSt l = (0, lc', outs)) : pads = 0 ∧ q = 0 ∧ out = outs := by
  have e := h.dec.symm.trans hd
  exact ⟨h.pads0, congrArg Prod.fst e, congrArg (fun x => x.2.2) e⟩
theorem at_mem {ks pre post : List Int} {n : Int} {P : Int → Prop} (h : ∀ c ∈ ks, P c) (e : ks = pre ++ n :: post) : P n := h n (by rw [e]; simp)
theorem bor_add (a b k : Nat) (hb : b < 2 ^ k) : Builtin.bitOr ((a : Int) * 2 ^ k) (b : Int) = (a : Int) * 2 ^ k + (b : Int) := by
  have e : ((a : Int) * 2 ^ k) = ((a * 2 ^ k : Nat) : Int) := by rw [Int.natCast_mul, Int.natCast_pow]; rfl
  rw [e, bor_nat]
  have h := Nat.shiftLeft_add_eq_or_of_lt hb a
  rw [Nat.shiftLeft_eq] at h
  rw [← h]
  exact Int.natCast_add _ _
theorem bor_addZ {a b : Int} (k : Nat) (ha : 0 ≤ a) (hb : 0 ≤ b) (hb' : b < 2 ^ k) : Builtin.bitOr (a * 2 ^ k) b = a * 2 ^ k + b := by
  obtain ⟨x, rfl⟩ : ∃ x : Nat, a = x := ⟨a.toNat, (Int.toNat_of_nonneg ha).symm⟩
  obtain ⟨y, rfl⟩ : ∃ y : Nat, b = y := ⟨b.toNat, (Int.toNat_of_nonneg hb).symm⟩
  refine bor_add x y k ?_
  have e : ((2 : Int) ^ k) = ((2 ^ k : Nat) : Int) := by rw [Int.natCast_pow]; rfl
  rw [e] at hb'
  exact Int.ofNat_lt.mp hb'
section
variable {pre : List Int} {i i' lc : Int} {out : List Int} {pads q n : Int}
theorem A2B.len1 (h : A2B pre i lc out pads q) (x : Int) : (out ++ [x]).length ≤ (pre ++ [n]).length := by
  have := h.len
  rw [List.length_append, List.length_append, List.length_singleton, List.length_singleton]; exact Nat.add_le_add_right this 1
theorem A2B.len0 (h : A2B pre i lc out pads q) : out.length ≤ (pre ++ [n]).length := by
  rw [List.length_append]; exact Nat.le_succ_of_le h.len
theorem A2B.skip (h : A2B pre i lc out pads q) (hv : 64 ≤ b64v n) : A2B (pre ++ [n]) i' lc out pads q :=
  ⟨by rw [decSt_snoc, h.dec]; unfold decStep; rw [if_pos hv], h.pads0, h.qlo, h.qhi, h.llo, h.lhi, h.len0⟩
theorem A2B.s0 (h : A2B pre i lc out pads q) (hv : ¬ 64 ≤ b64v n) (hq : q = 0) : A2B (pre ++ [n]) i' (b64v n) out 0 1 := by
  have hb := b64v_in n
  refine ⟨?_, rfl, by decide, by decide, hb.1, Int.not_le.mp hv, h.len0⟩
  rw [decSt_snoc, h.dec]; unfold decStep; rw [if_neg hv, if_pos hq]
theorem A2B.s1 (h : A2B pre i lc out pads q) (hv : ¬ 64 ≤ b64v n) (h0 : q ≠ 0) (hq : q = 1) : A2B (pre ++ [n]) i' (Builtin.bitAnd (b64v n) 15) (out ++ [Builtin.bitOr (lc * 2 ^ Int.toNat 2) ((b64v n).fdiv (2 ^ Int.toNat 4))]) 0 2 := by
  have hb := b64v_in n
  have e : Builtin.bitOr (lc * 2 ^ Int.toNat 2) ((b64v n).fdiv (2 ^ Int.toNat 4)) = lc * 4 + b64v n / 16 := by
    rw [Int.fdiv_eq_ediv_of_nonneg _ (by decide)]
    have := bor_addZ (a := lc) (b := b64v n / 16) 2 h.llo (Int.ediv_nonneg hb.1 (by decide)) (Int.ediv_lt_of_lt_mul (by decide) (Int.lt_of_lt_of_le (Int.not_le.mp hv) (by decide)))
    exact this
  rw [e, bitAnd_m4]
  refine ⟨?_, rfl, by decide, by decide, Int.emod_nonneg _ (by decide), Int.lt_trans (Int.emod_lt_of_pos _ (by decide)) (by decide), h.len1 _⟩
  rw [decSt_snoc, h.dec]; unfold decStep; rw [if_neg hv, if_neg h0, if_pos hq]
theorem A2B.s2 (h : A2B pre i lc out pads q) (hv : ¬ 64 ≤ b64v n) (h0 : q ≠ 0) (h1 : q ≠ 1) (hq : q = 2) : A2B (pre ++ [n]) i' (Builtin.bitAnd (b64v n) 3) (out ++ [Builtin.bitOr (lc * 2 ^ Int.toNat 4) ((b64v n).fdiv (2 ^ Int.toNat 2))]) 0 3 := by
  have hb := b64v_in n
  have e : Builtin.bitOr (lc * 2 ^ Int.toNat 4) ((b64v n).fdiv (2 ^ Int.toNat 2)) = lc * 16 + b64v n / 4 := by
    rw [Int.fdiv_eq_ediv_of_nonneg _ (by decide)]
    have := bor_addZ (a := lc) (b := b64v n / 4) 4 h.llo (Int.ediv_nonneg hb.1 (by decide)) (Int.ediv_lt_of_lt_mul (by decide) (Int.lt_of_lt_of_le (Int.not_le.mp hv) (by decide)))
    exact this
  rw [e, bitAnd_m2]
  refine ⟨?_, rfl, by decide, by decide, Int.emod_nonneg _ (by decide), Int.lt_trans (Int.emod_lt_of_pos _ (by decide)) (by decide), h.len1 _⟩
  rw [decSt_snoc, h.dec]; unfold decStep; rw [if_neg hv, if_neg h0, if_neg h1, if_pos hq]
theorem A2B.s3 (h : A2B pre i lc out pads q) (hv : ¬ 64 ≤ b64v n) (h0 : q ≠ 0) (h1 : q ≠ 1) (h2 : q ≠ 2) : A2B (pre ++ [n]) i' 0 (out ++ [Builtin.bitOr (lc * 2 ^ Int.toNat 6) (b64v n)]) 0 0 := by
  have hb := b64v_in n
  have e : Builtin.bitOr (lc * 2 ^ Int.toNat 6) (b64v n) = lc * 64 + b64v n := by
    have := bor_addZ (a := lc) (b := b64v n) 6 h.llo hb.1 (Int.not_le.mp hv)
    exact this
  rw [e]
  refine ⟨?_, rfl, by decide, by decide, by decide, by decide, h.len1 _⟩
  rw [decSt_snoc, h.dec]; unfold decStep; rw [if_neg hv, if_neg h0, if_neg h1, if_neg h2]
end
end Mine
end
section
namespace Mine
open PySem PyProof.Rows
/-- the i-th sign of base 64 -/
noncomputable def b64tab : List UInt8 := [65, 66, 67, 68, 69, 70, 71, 72, 73, 74, 75, 76, 77, 78, 79, 80, 81, 82, 83, 84, 85, 86, 87, 88, 89, 90, 97, 98, 99, 100, 101, 102, 103, 104, 105, 106, 107, 108, 109, 110, 111, 112, 113, 114, 115, 116, 117, 118, 119, 120, 121, 122, 48, 49, 50, 51, 52, 53, 54, 55, 56, 57, 43, 47]
@[irreducible] noncomputable def b64c (i : Int) : Int := (((b64tab.getD i.toNat 0).toNat : Nat) : Int)
noncomputable def encStep (a : Int × Int × List Int) (n : Int) : Int × Int × List Int :=
  if a.1 = 0 then (2, (a.2.1 * 256 + n) % 65536, a.2.2 ++ [b64c ((a.2.1 * 256 + n) % 65536 / 4 % 64)])
  else if a.1 = 2 then (4, (a.2.1 * 256 + n) % 65536, a.2.2 ++ [b64c ((a.2.1 * 256 + n) % 65536 / 16 % 64)])
  else (0, (a.2.1 * 256 + n) % 65536, (a.2.2 ++ [b64c ((a.2.1 * 256 + n) % 65536 / 64 % 64)]) ++ [b64c ((a.2.1 * 256 + n) % 65536 % 64)])
@[irreducible] noncomputable def encSt (l : List Int) : Int × Int × List Int := l.foldl encStep (0, 0, [])
theorem encSt_nil : encSt [] = (0, 0, []) := by unfold encSt; rfl
theorem encSt_snoc (l : List Int) (c : Int) : encSt (l ++ [c]) = encStep (encSt l) c := by unfold encSt; rw [List.foldl_append]; rfl
structure B2A (pre : List Int) (lb lc : Int) (out : List Int) : Prop where
  enc : encSt pre = (lb, lc, out)
  lb : lb = 0 ∨ lb = 2 ∨ lb = 4
  llo : 0 ≤ lc
  lhi : lc < 65536
  len : out.length ≤ 2 * pre.length
theorem B2A.start : B2A [] 0 0 [] := ⟨encSt_nil, .inl rfl, by decide, by decide, Nat.le_refl _⟩
theorem B2A.done {l : List Int} {lb lc lc' : Int} {out outs : List Int} (h : B2A l lb lc out) (hd : encSt l = (0, lc', outs)) : lb = 0 ∧ out = outs := by
  have e := h.enc.symm.trans hd
  exact ⟨congrArg Prod.fst e, congrArg (fun x => x.2.2) e⟩
/-- the next sixteen bits, as b2a_base64 reckons them -/
theorem b2a_lc {lc n : Int} (h0 : 0 ≤ lc) (hn : 0 ≤ n) (hn' : n < 256) : Builtin.bitAnd (Builtin.bitOr (lc * 2 ^ Int.toNat 8) n) 65535 = (lc * 256 + n) % 65536 := by
  rw [bitAnd_m16]
  have := bor_addZ (a := lc) (b := n) 8 h0 hn (by show n < 256; exact hn')
  have e : Builtin.bitOr (lc * 2 ^ Int.toNat 8) n = lc * 256 + n := this
  rw [e]
end Mine
end
section
set_option maxRecDepth 100000
namespace Mine
open PySem PyProof.Rows
/-- the last k figures of p, as signs -/
noncomputable def dl (k p : Nat) : List Nat := Nat.rec (motive := fun _ => Nat → List Nat) (fun _ => []) (fun _ f p => f (p / 10) ++ [48 + p % 10]) k p
theorem dl_s (k p : Nat) : dl (k + 1) p = dl k (p / 10) ++ [48 + p % 10] := rfl
theorem dl_len (k p : Nat) : (dl k p).length = k := by
  induction k generalizing p with
  | zero => rfl
  | succ k ih => rw [dl_s, List.length_append, ih]; rfl
theorem dl_in (k p c : Nat) (h : c ∈ dl k p) : 48 ≤ c ∧ c ≤ 57 := by
  induction k generalizing p with
  | zero => exact nomatch h
  | succ k ih =>
    rw [dl_s] at h
    rcases List.mem_append.mp h with h | h
    · exact ih _ h
    · rw [List.mem_singleton.mp h]
      exact ⟨Nat.le_add_right _ _, Nat.add_le_add_left (Nat.le_of_lt_succ (Nat.mod_lt _ (by decide))) 48⟩
/-- the signs of an int's text -/
noncomputable def tx (p : Nat) : List Nat := (Nat.toDigits 10 p).map Char.toNat
theorem digit_code : ∀ d, d < 10 → (Nat.digitChar d).toNat = 48 + d := by decide +kernel
theorem tx_small {p : Nat} (h : p < 10) : tx p = [48 + p] := by unfold tx; rw [Nat.toDigits_of_lt_base h, List.map_singleton, digit_code _ h]
theorem tx_big {p : Nat} (h : 10 ≤ p) : tx p = tx (p / 10) ++ [48 + p % 10] := by unfold tx; rw [Nat.toDigits_of_base_le (by decide) h, List.map_append, List.map_singleton, digit_code _ (Nat.mod_lt _ (by decide))]
theorem tx_pad : ∀ (k p : Nat), p < 10 ^ (k + 1) → (tx p).length ≤ k + 1 ∧ List.replicate (k + 1 - (tx p).length) 48 ++ tx p = dl (k + 1) p := by
  intro k
  induction k with
  | zero =>
    intro p h
    rw [Nat.pow_one] at h
    rw [tx_small h]
    refine ⟨Nat.le_refl _, ?_⟩
    show [] ++ [48 + p] = [] ++ [48 + p % 10]
    rw [Nat.mod_eq_of_lt h]
  | succ k ih =>
    intro p h
    by_cases hp : p < 10
    · rw [tx_small hp]
      have e : p / 10 = 0 := Nat.div_eq_of_lt hp
      have z := ih 0 (Nat.pow_pos (by decide))
      have z0 : tx 0 = [48] := tx_small (by decide)
      rw [z0] at z
      refine ⟨Nat.le_add_left 1 (k + 1), ?_⟩
      show List.replicate (k + 2 - 1) 48 ++ [48 + p] = dl (k + 1) (p / 10) ++ [48 + p % 10]
      rw [e, ← z.2, Nat.mod_eq_of_lt hp]
      refine congrArg (· ++ [48 + p]) ?_
      show List.replicate (k + 1) 48 = List.replicate (k + 1 - 1) 48 ++ [48]
      rw [Nat.add_sub_cancel, List.replicate_succ']
    · have hq : p / 10 < 10 ^ (k + 1) := by rw [Nat.div_lt_iff_lt_mul (by decide), ← Nat.pow_succ]; exact h
      obtain ⟨z1, z2⟩ := ih (p / 10) hq
      rw [tx_big (Nat.not_lt.mp hp), List.length_append, List.length_singleton]
      refine ⟨Nat.add_le_add_right z1 1, ?_⟩
      rw [Nat.add_sub_add_right, ← List.append_assoc, z2]
      rfl
/-- the figures as signs -/
theorem dl8 (p : Nat) : dl 8 p = [48 + fg p 7, 48 + fg p 6, 48 + fg p 5, 48 + fg p 4, 48 + fg p 3, 48 + fg p 2, 48 + fg p 1, 48 + fg p 0] := by unfold fg; rfl
/-- a body's signs: three marks, the figures, a mark -/
noncomputable def bodyL (p c : Nat) : List Nat := c :: c :: c :: (dl 8 p ++ [c])
theorem bodyL_eq (p c : Nat) : bodyL p c = [c, c, c, 48 + fg p 7, 48 + fg p 6, 48 + fg p 5, 48 + fg p 4, 48 + fg p 3, 48 + fg p 2, 48 + fg p 1, 48 + fg p 0, c] := by
  unfold bodyL; rw [dl8]; rfl
theorem bodyL_len (p c : Nat) : (bodyL p c).length = 12 := by rw [bodyL_eq]; rfl

/-! the number and its octets -/
/-- three octets from four worths -/
noncomputable def grp (a b c d : Nat) : List Nat := [a * 4 + b / 16, b % 16 * 16 + c / 4, c % 4 * 64 + d]
noncomputable def to64 (n : Nat) (l : List Nat) : Nat := l.foldl (fun n x => 64 * n + x) n
noncomputable def to256 (n : Nat) (l : List Nat) : Nat := l.foldl (fun n x => 256 * n + x) n
theorem grp_to (n a b c d : Nat) : to256 n (grp a b c d) = to64 n [a, b, c, d] := by
  show 256 * (256 * (256 * n + (a * 4 + b / 16)) + (b % 16 * 16 + c / 4)) + (c % 4 * 64 + d) = 64 * (64 * (64 * (64 * n + a) + b) + c) + d
  have h1 := Nat.div_add_mod b 16
  have h2 := Nat.div_add_mod c 4
  generalize b / 16 = b1 at h1 ⊢
  generalize b % 16 = b0 at h1 ⊢
  generalize c / 4 = c1 at h2 ⊢
  generalize c % 4 = c0 at h2 ⊢
  rw [← h1, ← h2]
  clear h1 h2
  omega
theorem grp_lt {a b c d : Nat} (la : a < 64) (lb : b < 64) (lc : c < 64) (ld : d < 64) : ∀ x ∈ grp a b c d, x < 256 := by
  unfold grp
  rw [List.forall_mem_cons, List.forall_mem_cons, List.forall_mem_cons]
  exact ⟨by clear lc ld; omega, by clear la ld lb; omega, by clear la lb lc; omega, fun _ h => nomatch h⟩
noncomputable def ds (k p : Nat) : List Nat := Nat.rec (motive := fun _ => Nat → List Nat) (fun _ => []) (fun _ f p => f (p / 10) ++ [52 + p % 10]) k p
theorem ds_to (k n p : Nat) : to64 n (ds k p) = 64 ^ k * n + D k p + 52 * O k := by
  induction k generalizing p with
  | zero => exact (Nat.one_mul n).symm
  | succ k ih =>
    show to64 n (ds k (p / 10) ++ [52 + p % 10]) = _
    unfold to64 at ih ⊢
    rw [List.foldl_append, ih, D_s, O_s, Nat.pow_succ', Nat.mul_assoc]
    show 64 * _ + (52 + p % 10) = _
    clear ih
    generalize 64 ^ k * n = u
    omega
@[irreducible] noncomputable def num (p : Nat) : Nat := to64 0 ([63, 63, 63] ++ ds 8 p ++ [63])
theorem num_dn (p : Nat) : num p = 4722348468471135731775 + 64 * (dn p + 52 * 4467856773185) := by
  unfold num dn to64
  rw [List.foldl_append, List.foldl_append]
  have h := ds_to 8 (to64 0 [63, 63, 63]) p
  unfold to64 at h
  rw [h, O_8]
  show 64 * (281474976710656 * 262143 + D 8 p + 52 * 4467856773185) + 63 = _
  rw [Nat.add_assoc, Nat.mul_add, Nat.add_right_comm]
theorem num_int (p : Nat) : (4722348468471135731775 + 64 * ((dn p : Int) + 52 * 4467856773185)) = ((num p : Nat) : Int) := by rw [num_dn]; rfl
theorem digits_back (p : Nat) : ((num p : Int) - 4722348468471135731775).fdiv 64 - 52 * 4467856773185 = (dn p : Int) := by
  rw [Int.fdiv_eq_ediv_of_nonneg _ (by decide), ← num_int, Int.add_comm, Int.add_sub_cancel, Int.mul_ediv_cancel_left _ (by decide), Int.add_sub_cancel]
@[irreducible] noncomputable def octL (p : Nat) : List Nat := grp 63 63 63 (52 + fg p 7) ++ (grp (52 + fg p 6) (52 + fg p 5) (52 + fg p 4) (52 + fg p 3) ++ grp (52 + fg p 2) (52 + fg p 1) (52 + fg p 0) 63)
@[irreducible] noncomputable def oct (p : Nat) : Array UInt8 := ((octL p).map Nat.toUInt8).toArray
theorem v64 (p k : Nat) : 52 + fg p k < 64 := Nat.lt_of_le_of_lt (Nat.add_le_add_left (fg_le p k) 52) (by decide)
theorem m64 : 63 < 64 := by decide
theorem octL_lt (p : Nat) : ∀ x ∈ octL p, x < 256 := by
  unfold octL
  intro x hx
  rcases List.mem_append.mp hx with h | h
  · exact grp_lt m64 m64 m64 (v64 p 7) x h
  rcases List.mem_append.mp h with h | h
  · exact grp_lt (v64 p 6) (v64 p 5) (v64 p 4) (v64 p 3) x h
  · exact grp_lt (v64 p 2) (v64 p 1) (v64 p 0) m64 x h
/-- the octets, read as one number -/
theorem oct_back (p : Nat) : (octL p).foldl (fun n x => 256 * n + x) 0 = num p := by
  unfold octL num
  rw [List.foldl_append, List.foldl_append]
  have h : ∀ n a b c d, (grp a b c d).foldl (fun n x => 256 * n + x) n = to64 n [a, b, c, d] := grp_to
  rw [h, h, h]
  unfold fg
  rfl
noncomputable def octZ (n : Int) (i : Nat) : Int := (n.fdiv (256 ^ Int.toNat (8 + (i : Int) * -1))).fmod 256
theorem octZ_in (n : Int) (i : Nat) : 0 ≤ octZ n i ∧ octZ n i < 256 := by
  unfold octZ
  rw [Int.fmod_eq_emod_of_nonneg _ (by decide)]
  exact ⟨Int.emod_nonneg _ (by decide), Int.emod_lt_of_pos _ (by decide)⟩
theorem pow256' : ∀ j, j < 9 → (256 : Int) ^ j ≠ 0 ∧ ((256 : Int) ^ j).natAbs.log2 < 9000 := by decide +kernel
theorem pow256 {k : Int} (_ : 0 ≤ k) (h : k ≤ 8) : (256 : Int) ^ k.toNat ≠ 0 ∧ ((256 : Int) ^ k.toNat).natAbs.log2 < 9000 :=
  pow256' _ (Nat.lt_succ_of_le (Int.toNat_le.mpr h))
theorem octZ_nat (n i k : Nat) (hk : i + k = 8) : octZ (n : Int) i = ((n / 256 ^ k % 256 : Nat) : Int) := by
  unfold octZ
  have e : Int.toNat (8 + (i : Int) * -1) = k := by omega
  rw [e, Int.fmod_eq_emod_of_nonneg _ (by decide), Int.fdiv_eq_ediv_of_nonneg _ (Int.pow_nonneg (by decide))]
  rw [show ((256 : Int) ^ k) = ((256 ^ k : Nat) : Int) from by rw [Int.natCast_pow]; rfl]
  rfl
theorem oct_digs (l : List Nat) (k n : Nat) (hl : l.length = k) (h : ∀ x ∈ l, x < 256) (hn : l.foldl (fun n x => 256 * n + x) 0 = n) : (List.range k).map (fun i => n / 256 ^ (k - 1 - i) % 256) = l := by
  induction k generalizing l n with
  | zero => rw [List.eq_nil_of_length_eq_zero hl]; rfl
  | succ k ih =>
    obtain ⟨l', x, rfl⟩ : ∃ l' x, l = l' ++ [x] := ⟨l.dropLast, l.getLast (by intro e; rw [e] at hl; cases hl), (List.dropLast_concat_getLast _).symm⟩
    rw [List.length_append, List.length_singleton] at hl
    rw [List.foldl_append] at hn
    have hx : x < 256 := h x (List.mem_append_right _ (List.mem_singleton.mpr rfl))
    have q := ih l' _ (Nat.succ.inj hl) (fun y hy => h y (List.mem_append_left _ hy)) rfl
    generalize l'.foldl (fun n x => 256 * n + x) 0 = m at q hn
    have hn' : 256 * m + x = n := hn
    rw [List.range_succ, List.map_append, ← q]
    refine congr (congrArg _ (List.map_congr_left fun i hi => ?_)) ?_
    · have hi := List.mem_range.mp hi
      have e : k + 1 - 1 - i = (k - 1 - i) + 1 := by omega
      rw [e, Nat.pow_succ', ← Nat.div_div_eq_div_mul, ← hn', Nat.mul_add_div (by decide), Nat.div_eq_of_lt hx, Nat.add_zero]
    · show [n / 256 ^ (k + 1 - 1 - k) % 256] = [x]
      rw [Nat.add_sub_cancel, Nat.sub_self, Nat.pow_zero, Nat.div_one, ← hn', Nat.mul_add_mod, Nat.mod_eq_of_lt hx]
theorem octL_len (p : Nat) : (octL p).length = 9 := by unfold octL; rfl
theorem oct_of (p : Nat) : (((List.range 9).map (octZ (num p : Int))).map fun n => n.toNat.toUInt8).toArray = oct p := by
  unfold oct
  refine congrArg List.toArray ?_
  conv => rhs; rw [← oct_digs (octL p) 9 (num p) (octL_len p) (octL_lt p) (oct_back p)]
  rw [List.map_map, List.map_map]
  refine List.map_congr_left fun i hi => ?_
  have hi := List.mem_range.mp hi
  show (octZ (num p : Int) i).toNat.toUInt8 = _
  rw [octZ_nat (num p) i (9 - 1 - i) (by omega), Int.toNat_natCast]; rfl

/-! the decoder over a body's signs -/
theorem v_mark : b64v 47 = ((63 : Nat) : Int) := by unfold b64v; decide
theorem v_blank : b64v 32 = 64 := by unfold b64v; decide
theorem v_fig' : ∀ d, d < 10 → b64v ((48 + d : Nat) : Int) = ((52 + d : Nat) : Int) := by unfold b64v; decide +kernel
theorem v_fig {d : Nat} (h : d ≤ 9) : b64v ((48 + d : Nat) : Int) = ((52 + d : Nat) : Int) := v_fig' d (Nat.lt_succ_of_le h)
theorem not64 {v : Int} {a : Nat} (h : v = (a : Int)) (l : a < 64) : ¬ 64 ≤ v := by rw [h]; exact Int.not_le.mpr (Int.ofNat_lt.mpr l)
theorem dec4 {l : List Int} {out : List Int} {c0 c1 c2 c3 : Int} {a b c d : Nat} (h : decSt l = (0, 0, out)) (ha : b64v c0 = (a : Int)) (hb : b64v c1 = (b : Int)) (hc : b64v c2 = (c : Int)) (hd : b64v c3 = (d : Int))
    (la : a < 64) (lb : b < 64) (lc : c < 64) (ld : d < 64) : decSt (l ++ [c0, c1, c2, c3]) = (0, 0, out ++ (grp a b c d).map fun n : Nat => (n : Int)) := by
  have e : l ++ [c0, c1, c2, c3] = (((l ++ [c0]) ++ [c1]) ++ [c2]) ++ [c3] := by rw [List.append_assoc, List.append_assoc, List.append_assoc]; rfl
  have s0 : decSt (l ++ [c0]) = (1, (a : Int), out) := by
    rw [decSt_snoc, h]; unfold decStep; rw [if_neg (not64 ha la), if_pos rfl, ha]
  have s1 : decSt ((l ++ [c0]) ++ [c1]) = (2, (b : Int) % 16, out ++ [(a : Int) * 4 + (b : Int) / 16]) := by
    rw [decSt_snoc, s0]; unfold decStep; rw [if_neg (not64 hb lb), if_neg (show ¬ (1 : Int) = 0 by decide), if_pos rfl, hb]
  have s2 : decSt (((l ++ [c0]) ++ [c1]) ++ [c2]) = (3, (c : Int) % 4, (out ++ [(a : Int) * 4 + (b : Int) / 16]) ++ [(b : Int) % 16 * 16 + (c : Int) / 4]) := by
    rw [decSt_snoc, s1]; unfold decStep; rw [if_neg (not64 hc lc), if_neg (show ¬ (2 : Int) = 0 by decide), if_neg (show ¬ (2 : Int) = 1 by decide), if_pos rfl, hc]
  rw [e, decSt_snoc, s2]; unfold decStep
  rw [if_neg (not64 hd ld), if_neg (show ¬ (3 : Int) = 0 by decide), if_neg (show ¬ (3 : Int) = 1 by decide), if_neg (show ¬ (3 : Int) = 2 by decide), hd, List.append_assoc, List.append_assoc]
  rfl
theorem dec_blank : decSt [32] = (0, 0, []) := by
  have := decSt_snoc [] 32
  rw [List.nil_append] at this
  rw [this, decSt_nil]; unfold decStep; rw [v_blank, if_pos (by decide)]
/-- the octets as ints -/
noncomputable def octI (p : Nat) : List Int := (octL p).map fun n : Nat => (n : Int)
theorem octI_in (p : Nat) : ∀ n ∈ octI p, 0 ≤ n ∧ n < 256 := by
  intro n hn
  obtain ⟨x, hx, rfl⟩ := List.mem_map.mp hn
  exact ⟨Int.natCast_nonneg _, Int.ofNat_lt.mpr (octL_lt p x hx)⟩
theorem dec_body {l : List Int} (p : Nat) (h : decSt l = (0, 0, [])) : decSt (l ++ (bodyL p 47).map fun n : Nat => (n : Int)) = (0, 0, octI p) := by
  have t0 := dec4 h v_mark v_mark v_mark (v_fig (fg_le p 7)) m64 m64 m64 (v64 p 7)
  have t1 := dec4 t0 (v_fig (fg_le p 6)) (v_fig (fg_le p 5)) (v_fig (fg_le p 4)) (v_fig (fg_le p 3)) (v64 p 6) (v64 p 5) (v64 p 4) (v64 p 3)
  have t2 := dec4 t1 (v_fig (fg_le p 2)) (v_fig (fg_le p 1)) (v_fig (fg_le p 0)) v_mark (v64 p 2) (v64 p 1) (v64 p 0) m64
  unfold octI octL
  rw [bodyL_eq]
  rw [List.append_assoc, List.append_assoc, List.append_assoc] at t2
  exact t2
/-! the writer -/
theorem c_mark : b64c 63 = 47 := by unfold b64c; decide
theorem c_fig' : ∀ d, d < 10 → b64c ((52 + d : Nat) : Int) = ((48 + d : Nat) : Int) := by unfold b64c; decide +kernel
theorem c_fig (p k : Nat) : b64c ((52 + fg p k : Nat) : Int) = ((48 + fg p k : Nat) : Int) := c_fig' _ (Nat.lt_succ_of_le (fg_le p k))
theorem w16 (u v : Nat) (hv : v < 256) : (u * 256 + v) % 65536 = u % 256 * 256 + v := by
  rw [show 65536 = 256 * 256 from rfl, Nat.mod_mul, Nat.mul_add_mod_self_right, Nat.mod_eq_of_lt hv, Nat.add_comm (u * 256), Nat.add_mul_div_right _ _ (by decide), Nat.div_eq_of_lt hv, Nat.zero_add, Nat.mul_comm, Nat.add_comm]
theorem enc3 {l : List Int} {out : List Int} {lc a b c d : Nat} (h : encSt l = (0, (lc : Int), out)) (la : a < 64) (lb : b < 64) (lc' : c < 64) (ld : d < 64) :
    ∃ lc' : Nat, encSt (l ++ (grp a b c d).map fun n : Nat => (n : Int)) = (0, (lc' : Int), out ++ [b64c (a : Int), b64c (b : Int), b64c (c : Int), b64c (d : Int)]) := by
  have g := grp_lt la lb lc' ld
  unfold grp at g ⊢
  rw [List.forall_mem_cons, List.forall_mem_cons, List.forall_mem_cons] at g
  obtain ⟨gx, gy, gz, _⟩ := g
  have r0 : (lc * 256 + (a * 4 + b / 16)) % 65536 / 4 % 64 = a := by
    rw [w16 _ _ gx]
    generalize lc % 256 = u
    clear gx gy gz h lc' ld
    omega
  have r1 : ((lc * 256 + (a * 4 + b / 16)) % 65536 * 256 + (b % 16 * 16 + c / 4)) % 65536 / 16 % 64 = b := by
    rw [w16 _ _ gy, w16 _ _ gx, Nat.mul_add_mod_self_right, Nat.mod_eq_of_lt gx]
    clear gx gy gz h ld la
    omega
  have r2 : (((lc * 256 + (a * 4 + b / 16)) % 65536 * 256 + (b % 16 * 16 + c / 4)) % 65536 * 256 + (c % 4 * 64 + d)) % 65536 / 64 % 64 = c := by
    rw [w16 _ _ gz, w16 _ _ gy, Nat.mul_add_mod_self_right, Nat.mod_eq_of_lt gy]
    generalize b % 16 = u
    clear gx gy gz h la lb
    omega
  have r3 : (((lc * 256 + (a * 4 + b / 16)) % 65536 * 256 + (b % 16 * 16 + c / 4)) % 65536 * 256 + (c % 4 * 64 + d)) % 65536 % 64 = d := by
    rw [w16 _ _ gz]
    generalize ((lc * 256 + (a * 4 + b / 16)) % 65536 * 256 + (b % 16 * 16 + c / 4)) % 65536 % 256 = u
    generalize c % 4 = v
    clear gx gy gz h la lb lc' r0 r1 r2
    omega
  generalize e1 : (lc * 256 + (a * 4 + b / 16)) % 65536 = m1 at r0 r1 r2 r3
  generalize e2 : (m1 * 256 + (b % 16 * 16 + c / 4)) % 65536 = m2 at r1 r2 r3
  generalize e3 : (m2 * 256 + (c % 4 * 64 + d)) % 65536 = m3 at r2 r3
  generalize a * 4 + b / 16 = x at e1 ⊢
  generalize b % 16 * 16 + c / 4 = y at e2 ⊢
  generalize c % 4 * 64 + d = z at e3 ⊢
  have f : ∀ u v m : Nat, (u * 256 + v) % 65536 = m → ((u : Int) * 256 + (v : Int)) % 65536 = (m : Int) := fun u v m e => by rw [← e]; rfl
  have q : ∀ m k j a : Nat, m / k % j = a → (m : Int) / (k : Int) % (j : Int) = (a : Int) := fun m k j a e => by rw [← e]; rfl
  have s0 : encSt (l ++ [(x : Int)]) = (2, (m1 : Int), out ++ [b64c (a : Int)]) := by
    rw [encSt_snoc, h]; unfold encStep; rw [if_pos rfl, f _ _ _ e1]
    exact congrArg (fun t => (2, (m1 : Int), out ++ [b64c t])) (q _ 4 64 _ r0)
  have s1 : encSt ((l ++ [(x : Int)]) ++ [(y : Int)]) = (4, (m2 : Int), (out ++ [b64c (a : Int)]) ++ [b64c (b : Int)]) := by
    rw [encSt_snoc, s0]; unfold encStep; rw [if_neg (show ¬ (2 : Int) = 0 by decide), if_pos rfl, f _ _ _ e2]
    exact congrArg (fun t => (4, (m2 : Int), (out ++ [b64c (a : Int)]) ++ [b64c t])) (q _ 16 64 _ r1)
  have s2 : encSt (((l ++ [(x : Int)]) ++ [(y : Int)]) ++ [(z : Int)]) = (0, (m3 : Int), (((out ++ [b64c (a : Int)]) ++ [b64c (b : Int)]) ++ [b64c (c : Int)]) ++ [b64c (d : Int)]) := by
    rw [encSt_snoc, s1]; unfold encStep; rw [if_neg (show ¬ (4 : Int) = 0 by decide), if_neg (show ¬ (4 : Int) = 2 by decide), f _ _ _ e3]
    have t1 : (m3 : Int) / 64 % 64 = (c : Int) := q _ 64 64 _ r2
    have t2 : (m3 : Int) % 64 = (d : Int) := congrArg Int.ofNat r3
    dsimp only
    rw [t1, t2]
  refine ⟨m3, ?_⟩
  rw [List.append_assoc, List.append_assoc, List.append_assoc, List.append_assoc, List.append_assoc] at s2
  exact s2
theorem enc_body (p : Nat) : ∃ lc, encSt (octI p) = (0, lc, (bodyL p 47).map fun n : Nat => (n : Int)) := by
  obtain ⟨l0, t0⟩ := enc3 (lc := 0) encSt_nil m64 m64 m64 (v64 p 7)
  obtain ⟨l1, t1⟩ := enc3 t0 (v64 p 6) (v64 p 5) (v64 p 4) (v64 p 3)
  obtain ⟨l2, t2⟩ := enc3 t1 (v64 p 2) (v64 p 1) (v64 p 0) m64
  refine ⟨l2, ?_⟩
  rw [c_fig, c_fig, c_fig, c_fig, c_fig, c_fig, c_fig, c_fig, show ((63 : Nat) : Int) = 63 from rfl, c_mark] at t2
  unfold octI octL
  rw [bodyL_eq]
  rw [List.append_assoc, List.append_assoc, List.nil_append] at t2
  exact t2
/-- the signs' worth as a number -/
theorem dl_val (k p : Nat) (f : Nat → Nat → Nat) (hf : ∀ n d, d < 10 → f n (48 + d) = 10 * n + d) : (dl k p).foldl f 0 = p % 10 ^ k := by
  induction k generalizing p with
  | zero => exact (Nat.mod_one p).symm
  | succ k ih =>
    rw [dl_s, List.foldl_append, ih]
    show f _ (48 + p % 10) = _
    rw [hf _ _ (Nat.mod_lt _ (by decide)), Nat.pow_succ', Nat.mod_mul, Nat.add_comm]
end Mine
end
section
namespace Mine
open PySem PyProof.Rows
open PySem.Builtin.Str
/-- the signs from a up to b -/
noncomputable def sub (x : Str) (a b : Nat) : Str := ⟨((x.cps.toList.drop a).take (b - a)).toArray⟩
theorem pick_range (l : List Nat) : ∀ (k a : Nat), a + k ≤ l.length → (List.range k).filterMap (fun j => l[a + j]?) = (l.drop a).take k := by
  intro k
  induction k with
  | zero => intro a _; simp
  | succ k ih =>
    intro a h
    rw [List.range_succ, List.filterMap_append, ih a (by omega)]
    have e : l[a + k]? = some (l[a + k]'(by omega)) := List.getElem?_eq_getElem (by omega)
    rw [List.take_add_one]
    simp only [List.filterMap_cons, List.filterMap_nil, e, List.getElem?_drop]
    rfl
noncomputable def clipAt (n : Nat) (dflt : Int) : Option Int → Int
  | none => dflt
  | some i => max 0 (min (if i < 0 then i + n else i) n)
theorem clip_n {n k : Nat} (d : Int) (h : k ≤ n) : clipAt n d (some (k : Int)) = (k : Int) := by
  unfold clipAt
  dsimp only
  rw [if_neg (Int.not_lt.mpr (Int.natCast_nonneg k)), Int.min_eq_left (Int.ofNat_le.mpr h), Int.max_eq_right (Int.natCast_nonneg k)]
theorem slice_eq {x : Str} {lo hi : Option Int} {a b : Nat} (hl : clipAt x.length 0 lo = (a : Int))
    (hu : clipAt x.length x.length hi = (b : Int)) (hab : a ≤ b) (hb : b ≤ x.length) : Txt.slice x lo hi = sub x a b := by
  have hi1 : strSliceIndices lo hi 1 x.length = (List.range (b - a)).map fun k => a + k := by
    have e1 : strSliceIndices lo hi 1 x.length = sliceRange (clipAt x.length 0 lo) (clipAt x.length x.length hi) 1 := by
      cases lo <;> cases hi <;> rfl
    rw [e1, hl, hu]
    unfold sliceRange
    have hc : (if (1 : Int) > 0 then (if (a : Int) < (b : Int) then ((b : Int) - a + 1 - 1) / 1 else 0) else (if (a : Int) > b then ((a : Int) - b - 1 - 1) / (-1) else 0)).toNat = b - a := by
      rw [if_pos (by decide)]
      split
      · rw [Int.ediv_one]; omega
      · omega
    dsimp only
    rw [hc]
    refine List.map_congr_left fun k _ => ?_
    omega
  unfold Txt.slice
  rw [hi1, List.length_map, List.length_range]
  by_cases hw : b - a = x.length
  · rw [if_pos (by simp [hw])]
    have ha : a = 0 := by omega
    unfold sub
    rw [ha, List.drop_zero, Nat.sub_zero, show b = x.length by omega]
    have : List.take x.length x.cps.toList = x.cps.toList := List.take_of_length_le (Nat.le_of_eq (by rw [Array.length_toList]; rfl))
    rw [this]
  · rw [if_neg (by simp [hw])]
    unfold sub
    rw [List.filterMap_map]
    have e := pick_range x.cps.toList (b - a) a (by rw [Array.length_toList]; show a + (b - a) ≤ x.length; omega)
    rw [← e]
    congr 3
    funext j
    show x.cps[a + j]? = x.cps.toList[a + j]?
    rw [Array.getElem?_toList]
end Mine
end
section
set_option Elab.async false
set_option maxRecDepth 100000
namespace Mine
open PySem PySem.W PySem.Calls PyProof.Rows

theorem slot_translate : Slot "bytes" "translate" "bytes.translate" :=
  .of (owner := "bytes") (n := "translate") (by rw [typeLookup_type, builtinLookup_eq_fast]; kernel_rfl) (by decide +kernel) (by decide +kernel) (by decide +kernel)
    (by first | exact .inl (by decide +kernel) | exact .inr (by decide +kernel)) (by rw [isSubtype_type]; kernel_rfl)
theorem type_translate : typeOf (.builtin "bytes.translate") = pure (.type "method_descriptor") := by show builtinType _ = _; rw [builtinType_eq_fast]; kernel_rfl
theorem entry_translate : entryFor table "bytes.translate" = some Builtin.«bytes.translate» := entryFor_of_tree (by kernel_rfl)
theorem args_translate (a b : Value) : argsOk "bytes.translate" ⟨[a, b], []⟩ := by
  unfold argsOk; rw [signature?_of (id := "bytes.translate") (n := ['e', 't', 'a', 'l', 's', 'n', 'a', 'r', 't']) (o := ['s', 'e', 't', 'y', 'b']) (by kernel_rfl) FB.owner_bytes]; kernel_rfl

section
variable {prog : Program} {w : World} {M : Model} {A : Around} {E : Value → Shared → Prop} {s : Shared} {b tab : Array UInt8} {t u : Tok} {x : Str}
theorem m_encode {pl : Sem Bool} {Q : Value × List Value → Shared → Prop} (h : Q (.builtin "str.encode", [.str x t]) s) : wpAny M A (getMethod (.str x t) "encode" pl) Q E s := by
  with_reducible exact GM.of (.str x t) (typeIs_str _ _ _) F.slot_str_encode F.type_str_encode GM.noRef h
theorem m_translate {pl : Sem Bool} {Q : Value × List Value → Shared → Prop} (h : Q (.builtin "bytes.translate", [.bytes b t]) s) : wpAny M A (getMethod (.bytes b t) "translate" pl) Q E s := by
  with_reducible exact KBd.method_of (.bytes b t) (typeIs_bytes _ _ _) slot_translate type_translate KBd.noRef h

/-- a bytes by a table of 256 -/
noncomputable def transl (b tab : Array UInt8) : Array UInt8 := b.map fun c => tab.getD c.toNat c
theorem c_translate {Q : Value → Shared → Prop} (ht : tab.size = 256) (hb : b.size ≤ sizeLine) (h : ∀ t' k, Q (.bytes (transl b tab) t') { s with toks := k }) :
    wpAny (model prog w) A (call (.builtin "bytes.translate") [.bytes b t, .bytes tab u]) Q E s := by
  refine wpAny_call_entry slot_translate (typeIs_bytes _ _ _) entry_translate ?_ (args_translate _ _)
  show wpAny _ _ (Builtin.Bytes.translateM .bytes ⟨[.bytes b t, .bytes tab u], []⟩) _ _ s
  unfold Builtin.Bytes.translateM
  dsimp only
  rw [if_neg (by simp)]
  refine bm_if_false rfl (bm_if_false rfl ?_)
  refine wpAny_bind (wpAny_of_eq KBd.like_eq ?_)
  refine bm_if_false (by simp [ht]) ?_
  refine wpAny_bind (wpAny_pure ?_)
  refine wpAny_bind (wpAny_of_eq (a := #[]) rfl ?_)
  refine wpAny_bind (wpAny_of_eq (a := b) rfl ?_)
  have e : (b.filter fun x => !(#[] : Array UInt8).contains x) = b := by simp
  dsimp only
  rw [e]
  show wpAny _ _ (if (transl b tab == b) = true then _ else _) _ _ s
  by_cases hc : (transl b tab == b) = true
  · refine bm_if_true hc (wpAny_bind (wpAny_rule (wpAny_bind (wpAny_of_eq (a := .bytes b t) rfl (wpAny_pure ⟨_, rfl, ?_⟩)))))
    have := h t s.toks
    rw [eq_of_beq hc] at this
    exact this
  · refine bm_if_false (by simpa using hc) (wpAny_bind (wpAny_mkBytes (wpAny_pure ⟨_, rfl, h _ _⟩) (by show (transl b tab).size ≤ sizeLine; unfold transl; rw [Array.size_map]; exact hb)))
end
end Mine
end
section
set_option Elab.async false
set_option maxRecDepth 100000
namespace Mine
open PySem PySem.W PySem.Calls PyProof.Rows
open PySem.Builtin PySem.Builtin._codecs
theorem road_ascii (id : String) (self : Value) (x : Str) (errors : Option Str) : encodeRoad id self x (Str.ofString "ascii") errors = (do mkBytes (← encodeNarrow id asciiCodec errors self x)) := by
  kernel_rfl
theorem enc_tree (x : Str) (t u : Tok) : «str.encode» ⟨[.str x t, .str (Str.ofString "ascii") u], []⟩ = (do ret (← encodeRoad "str.encode" (.str x t) x (Str.ofString "ascii") none)) := by kernel_rfl
theorem forIn_two {S : Type} (f : Nat → S → Sem (ForInStep S)) (n : Nat) (a b : S) (ha : ∀ k, f k a = pure (.yield b)) (hb : ∀ k, f k b = pure (.done b)) : ∀ k : Nat, forIn (List.range' k (n + 1) 1) a f = pure b := by
  intro k
  rw [List.range'_succ, List.forIn_cons, ha]
  show forIn (List.range' (k + 1) n 1) b f = pure b
  cases n with
  | zero => rfl
  | succ n => rw [List.range'_succ, List.forIn_cons, hb]; rfl
theorem fold_push (l : List Nat) : ∀ out : Array UInt8, l.foldl (fun acc y => acc ++ (asciiCodec.bytesOf y).toArray) out = out ++ (l.map Nat.toUInt8).toArray := by
  induction l with
  | nil => intro out; simp
  | cons c r ih =>
    intro out
    rw [List.foldl_cons, ih, List.map_cons]
    show out ++ #[c.toUInt8] ++ _ = _
    simp
theorem enc_clean (id : String) (self : Value) (x : Str) (h : ∀ c ∈ x.cps, c < 128) (hn : 0 < x.length) (hfit : x.length ≤ sizeLine) : encodeNarrow id asciiCodec none self x = pure (x.cps.map Nat.toUInt8) := by
  obtain ⟨n, hn'⟩ : ∃ n, x.length = n + 1 := ⟨x.length - 1, by omega⟩
  have hsz : x.cps.size = n + 1 := hn'
  have hbad : ∀ c ∈ x.cps, asciiCodec.bad c = false := fun c hc => decide_eq_false (Nat.not_le.mpr (h c hc))
  have hidx : Array.findIdx? asciiCodec.bad x.cps = none := by
    rw [Array.findIdx?_eq_none_iff]
    exact hbad
  unfold encodeNarrow
  dsimp only
  rw [Std.Legacy.Range.forIn_eq_forIn_range']
  have hr : List.range' [:x.length].start [:x.length].size [:x.length].step = List.range' 0 (n + 1) 1 := by rw [hn']; simp [Std.Legacy.Range.size]
  rw [hr, forIn_two (S := Nat × Array UInt8 × Faults) (a := (0, #[], {})) (b := (n + 1, x.cps.map Nat.toUInt8, {}))]
  · rfl
  · intro k
    dsimp only
    rw [if_neg (by simp)]
    have e0 : x.cps.extract 0 x.cps.size = x.cps := by simp
    have hc : x.cps[0]? = some (x.cps[0]'(by omega)) := by simp [hsz]
    rw [e0, hidx]
    simp only [hc]
    rw [if_pos (by rw [hbad _ (Array.getElem_mem _)]; rfl)]
    simp only [Option.getD_none, hsz, Nat.zero_add]
    congr 3
    rw [← hsz, e0, ← Array.foldl_toList, fold_push, Array.empty_append]
    have e1 : (List.map Nat.toUInt8 x.cps.toList).toArray = Array.map Nat.toUInt8 x.cps := Array.toList_inj.mp (by simp)
    rw [e1]
  · intro k
    dsimp only
    have hc : x.cps[n + 1]? = none := by simp [hsz]
    by_cases hz : (x.cps.map Nat.toUInt8).size > sizeLine
    · exact absurd hz (by rw [Array.size_map]; exact Nat.not_lt.mpr hfit)
    · rw [if_neg hz]
      simp only [hc]
section
variable {prog : Program} {w : World} {A : Around} {E : Value → Shared → Prop} {s : Shared} {t u : Tok} {x : Str}
theorem args_encode (a b : Value) : argsOk "str.encode" ⟨[a, b], []⟩ := F.args_str_encode_2 a b
theorem c_encode {Q : Value → Shared → Prop} (h : ∀ c ∈ x.cps, c < 128) (hn : 0 < x.length) (hfit : x.length ≤ 4096) (hq : ∀ t' k, Q (.bytes (x.cps.map Nat.toUInt8) t') { s with toks := k }) :
    wpAny (model prog w) A (call (.builtin "str.encode") [.str x t, .str (Str.ofString "ascii") u]) Q E s := by
  have hf : x.length ≤ sizeLine := Nat.le_trans hfit (by rw [sizeLine_eq]; decide)
  refine wpAny_call_entry F.slot_str_encode (typeIs_str _ _ _) F.entry_str_encode ?_ (args_encode _ _)
  rw [enc_tree, road_ascii, enc_clean _ _ _ h hn hf]
  refine wpAny_bind (wpAny_bind (wpAny_pure ?_))
  exact wpAny_mkBytes (wpAny_pure ⟨_, rfl, hq _ _⟩) (by rw [Array.size_map]; exact hf)
end
end Mine
end
section
set_option Elab.async false
set_option maxRecDepth 100000
namespace Mine
open PySem PySem.W PySem.Calls PyProof.Rows
theorem check_mk (a b : Value) : checkBuiltinCall "bytes.maketrans" ⟨[a, b], []⟩ = pure () := by kernel_rfl
theorem entry_mk : entryFor table "bytes.maketrans" = some Builtin.«bytes.maketrans» := entryFor_of_tree (by kernel_rfl)
theorem plain_mk : plainId "bytes.maketrans" = true := by decide +kernel
noncomputable def ident : Array UInt8 := (Array.range 256).map (·.toUInt8)
/-- the table that maketrans makes -/
noncomputable def mktab (a c : Array UInt8) : Array UInt8 := (a.toList.zip c.toList).foldl (fun t p => t.setIfInBounds p.1.toNat p.2) ident
theorem mktab_size (a c : Array UInt8) : (mktab a c).size = 256 := by
  unfold mktab
  have : ∀ (l : List (UInt8 × UInt8)) (t : Array UInt8), (l.foldl (fun t p => t.setIfInBounds p.1.toNat p.2) t).size = t.size := by
    intro l
    induction l with
    | nil => intro t; rfl
    | cons p r ih => intro t; rw [List.foldl_cons, ih, Array.size_setIfInBounds]
  rw [this]; unfold ident; simp
section
variable {prog : Program} {w : World} {A : Around} {E : Value → Shared → Prop} {s : Shared} {t u : Tok} {a c : Array UInt8}
theorem c_maketrans {Q : Value → Shared → Prop} (hs : a.size = c.size) (h : ∀ t' k, Q (.bytes (mktab a c) t') { s with toks := k }) :
    wpAny (model prog w) A (call (.builtin "bytes.maketrans") [.bytes a t, .bytes c u]) Q E s := by
  refine wpAny_call (codeAny_of_tree ?_)
  show wpAny _ A.in1 (do checkBuiltinCall "bytes.maketrans" ⟨[.bytes a t, .bytes c u], []⟩; again (.builtin "bytes.maketrans" ⟨[.bytes a t, .bytes c u], []⟩)) _ _ s
  refine wpAny_bind (wpAny_of_eq (check_mk _ _) (wpAny_pure ⟨plainId_quiet plain_mk _, codeAny_builtin entry_mk ?_⟩))
  rw [Around.under_plainId plain_mk _]
  show wpAny _ _ (Builtin.Bytes.maketransM .bytes ⟨[.bytes a t, .bytes c u], []⟩) _ _ s
  unfold Builtin.Bytes.maketransM
  refine wpAny_bind (wpAny_of_eq (a := ()) rfl ?_)
  refine wpAny_bind (wpAny_of_eq (a := ()) rfl ?_)
  refine wpAny_bind (wpAny_of_eq KBd.like_eq ?_)
  refine wpAny_bind (wpAny_of_eq KBd.like_eq ?_)
  refine bm_if_false (by simp [hs]) ?_
  refine wpAny_bind (wpAny_mkBytes (wpAny_pure (h _ _)) ?_)
  show (mktab a c).size ≤ sizeLine
  rw [mktab_size, sizeLine_eq]; decide
end
end Mine
end
section
set_option Elab.async false
set_option maxRecDepth 100000
namespace Mine
open PySem PySem.W PySem.Calls PyProof.Rows

/-- all that stood at h, but for the places in xs, stands at h' -/
noncomputable def KeptBut (xs : List Addr) (h h' : Heap) : Prop := ∀ b o, b ∉ xs → h.get? b = some o → h'.get? b = some o
theorem KeptBut.refl {xs : List Addr} {h : Heap} : KeptBut xs h h := fun _ _ _ e => e
theorem KeptBut.trans {xs : List Addr} {h h' h'' : Heap} (a : KeptBut xs h h') (b : KeptBut xs h' h'') : KeptBut xs h h'' := fun c o n e => b c o n (a c o n e)
theorem KeptBut.of_stays {xs : List Addr} {h h' : Heap} (k : h.StaysIn h') : KeptBut xs h h' := fun b o _ e => k b o e
theorem KeptBut.more {xs ys : List Addr} {h h' : Heap} (k : KeptBut xs h h') (hs : ∀ b ∈ xs, b ∈ ys) : KeptBut ys h h' := fun b o n e => k b o (fun q => n (hs b q)) e

section
variable {prog : Program} {w : World} {A : Around} {E : Value → Shared → Prop} {s : Shared} {env : Env}

/-- a turn's end: all that stood stays, but for the block's own names -/
noncomputable def CompDone (s₂ : Shared) (C : Addr) (h : Heap) (P : Value → Heap → Prop) (y : Value) (s₅ : Shared) : Prop :=
  ∃ h₅ tk₅, s₅ = { s₂ with heap := h₅, toks := tk₅ } ∧ KeptBut [C] h h₅ ∧ (∃ m'', h₅.Ns C m'') ∧ P y h₅
/-- one turn of a comprehension: the target is bound, the element reckoned; all else stays -/
noncomputable def CompTurn (prog : Program) (w : World) (A : Around) (s₂ : Shared) (target elt : PySem.Expr) (scope : Scope) (cl : List (Str × Addr)) (env : Env) (I : Addr) (St : Nat → Heap → Prop) (J : Nat → List Value → Heap → Prop) (i : Nat) (v : Value) (ys : List Value) : Prop :=
  ∀ (C : Addr) (m' : Str → Option Value) (h : Heap) (tk : Nat) (E' : Value → Shared → Prop), C = s₂.heap.objs.size + 1 → h.Ns C m' → KeptBut [I] s₂.heap h → St (i + 1) h → J i ys h →
    wpAny (model prog w) A (letOwnedTupleGo target (.ref I) v) (fun _ s₃ => wpAny (model prog w) A (assign target (compEnvC scope cl C env) v) (fun _ s₄ =>
      wpAny (model prog w) A (eval elt (compEnvC scope cl C env)) (CompDone s₂ C h fun y h₅ => J (i + 1) (ys ++ [y]) h₅) E' s₄) E' s₃) E'
      { s₂ with heap := h, toks := tk }

noncomputable def CompIn (prog : Program) (w : World) (A : Around) (env : Env) (target elt : PySem.Expr) (scope : Scope) (cl : List (Str × Addr)) (xs : List Addr) (Fin : List Value → Heap → Nat → Prop) (it : Value) (s₂ : Shared) : Prop :=
  ∃ (I : Addr) (fp : List Addr) (n : Nat) (P : Nat → Value → Prop) (St : Nat → Heap → Prop) (J : Nat → List Value → Heap → Prop), it = .ref I ∧ Walks prog w A I fp [I] n P St ∧ n ≤ sizeLine ∧ St 0 s₂.heap ∧ (∀ b ∈ fp, b < s₂.heap.objs.size) ∧ J 0 [] s₂.heap ∧
    (∀ i ys h h', J i ys h → (∀ b o, s₂.heap.objs.size + 1 < b → h.get? b = some o → h'.get? b = some o) → J i ys h') ∧
    (∀ i v ys, i < n → P i v → ys.length = i → CompTurn prog w A s₂ target elt scope cl env I St J i v ys) ∧
    ∀ ys h tk, ys.length = n → KeptBut (I :: xs) s₂.heap h → h.get? s₂.heap.objs.size = some (LCg.lst ys) → J n ys h → Fin ys h tk

theorem comp_core {elt target iter : PySem.Expr} {scope : Scope} {cl : List (Str × Addr)} {pos : Pos} {s₂ : Shared} {it : Value} {xs : List Addr} {Fin : List Value → Heap → Nat → Prop} {RR : Value → Addr → Result → Shared → Prop}
    (hcell : ∀ y ∈ scope.names, y.2 ≠ .cell) (hkind : scope.kind = .function)
    (H : CompIn prog w A env target elt scope cl xs Fin it s₂)
    (hRR : ∀ ys I h tk m', it = .ref I → (∀ h'' tk'', KeptBut (I :: xs) s₂.heap h'' → h''.get? s₂.heap.objs.size = some (LCg.lst ys) → (∀ b o, s₂.heap.objs.size + 1 < b → h.get? b = some o → h''.get? b = some o) → Fin ys h'' tk'') →
      KeptBut [I] s₂.heap h → I < s₂.heap.objs.size → h.get? s₂.heap.objs.size = some (LCg.lst ys) → h.Ns (s₂.heap.objs.size + 1) m' → RR (.ref s₂.heap.objs.size) (s₂.heap.objs.size + 1) (.ok .next) { s₂ with heap := h, toks := tk }) :
    wpAny (model prog w) A (newList []) (fun acc s₃ => wpAny (model prog w) A (newFunctionEnv scope env.globals cl [] env.qual none .none (some env)) (fun cenv s₄ =>
      codeAny (model prog w) A (.compStart (.ListComp elt [⟨target, iter, [], 0⟩] scope pos) 0 it acc { cenv with scope := relabel scope env }) (RR acc cenv.locals) s₄) E s₃) E s₂ := by
  obtain ⟨I, fp, n, P, St, J, rfl, W, hsz, hst, hfp, hJ0, hJs, turn, fin⟩ := H
  refine wpAny_newObj_type (wpAny_newFunctionEnv hcell (by intro y hy; simp at hy) (fun h₁ hns₁ hsb₁ => ?_) hkind)
  have hN : (s₂.heap.push { cls := .type "list", dict := none, data := .seq ([] : List Value).toArray }).objs.size = s₂.heap.objs.size + 1 := Heap.size_push _ _
  have old : ∀ b o, s₂.heap.get? b = some o → h₁.get? b = some o := fun b o e =>
    hsb₁.extBut b o (by rw [hN]; exact Nat.ne_of_lt (Nat.lt_succ_of_lt (Heap.lt_size e))) (Heap.get?_push_of_some _ (Heap.get?_push_of_some _ e))
  have hacc : h₁.get? s₂.heap.objs.size = some (LCg.lst []) :=
    hsb₁.extBut _ _ (by rw [hN]; exact Nat.ne_of_lt (Nat.lt_succ_self _)) (Heap.get?_push_of_some _ (Heap.get?_push_size _ rfl))
  dsimp only at hns₁ hsb₁ ⊢
  rw [hN] at hns₁
  have hIf : I ∈ fp := W.sub I (List.mem_singleton.mpr rfl)
  have hI : I < s₂.heap.objs.size := hfp I hIf
  have go : ∀ s₃ : Shared, s₃ = { s₂ with heap := h₁, toks := s₂.toks + ([] : List (Str × Value)).length } →
      codeAny (model prog w) A (.compLoop (.ListComp elt [⟨target, iter, [], 0⟩] scope pos) 0 (.ref I) (.ref s₂.heap.objs.size) (compEnvC scope cl (s₂.heap.objs.size + 1) env)) (RR (.ref s₂.heap.objs.size) (s₂.heap.objs.size + 1)) s₃ := by
    rintro s₃ rfl
    refine kcp_loop (fun k s' => ∃ h' tk i ys m', s' = { s₂ with heap := h', toks := tk } ∧ i ≤ n ∧ k = n + 1 - i ∧ ys.length = i ∧ St i h' ∧ KeptBut [I] s₂.heap h' ∧ h'.get? s₂.heap.objs.size = some (LCg.lst ys) ∧ h'.Ns (s₂.heap.objs.size + 1) m' ∧ J i ys h') ?_ (n + 1)
      ⟨h₁, _, 0, [], _, rfl, Nat.zero_le _, rfl, rfl, W.frame _ _ _ hst fun b _ o e => old b o e, fun b o _ e => old b o e, hacc, hns₁, hJs _ _ _ _ hJ0 fun b o _ e => old b o e⟩
    rintro k s' ⟨h', tk, i, ys, m', rfl, hi, rfl, hyl, hst', hk', hD', hn', hJ'⟩
    have hDn : (s₂.heap.objs.size : Nat) ≠ I := Nat.ne_of_gt hI
    have hCn : (s₂.heap.objs.size + 1 : Nat) ≠ I := Nat.ne_of_gt (Nat.lt_succ_of_lt hI)
    by_cases hlt : i < n
    · refine W.item i _ _ _ hlt hst' fun v h₂ tk₂ hPv hst₂ hk₂ => ?_
      have k₂ : KeptBut [I] h' h₂ := fun b o hb e => hk₂ b o hb e
      have hn₂ : h₂.Ns (s₂.heap.objs.size + 1) m' := hn'.at' fun o e => k₂ _ o (by simpa using hCn) e
      have hD₂ : h₂.get? s₂.heap.objs.size = some (LCg.lst ys) := k₂ _ _ (by simpa using hDn) hD'
      have hJ₂ : J i ys h₂ := hJs _ _ _ _ hJ' fun b o hb e => k₂ b o (by simp only [List.mem_singleton]; exact Nat.ne_of_gt (Nat.lt_trans (Nat.lt_succ_of_lt hI) hb)) e
      refine wpAny_mono (turn i v ys hlt hPv hyl (s₂.heap.objs.size + 1) m' h₂ tk₂ _ rfl hn₂ (hk'.trans k₂) hst₂ hJ₂) (fun _ s₃ h₃ => wpAny_mono h₃ (fun _ s₄ h₄ => wpAny_mono h₄ (fun y s₅ h₅ => ?_) fun _ _ e => e) fun _ _ e => e) fun _ _ e => e
      obtain ⟨h₅, tk₅, rfl, k₅, ⟨m₅, hn₅⟩, hJ₅⟩ := h₅
      have hD₅ : h₅.get? s₂.heap.objs.size = some (LCg.lst ys) := k₅ _ _ (by simp) hD₂
      refine append_at (hsz := by show ys.toArray.size ≤ sizeLine; rw [List.size_toArray, hyl]; exact Nat.le_trans hi hsz) hD₅ fun h₆ hs₆ hD₆ => ?_
      have k₆ : KeptBut [s₂.heap.objs.size] h₅ h₆ := fun b o hb e => hs₆.extBut b o (by simpa using hb) e
      refine ⟨n + 1 - (i + 1), by omega, h₆, tk₅, i + 1, ys ++ [y], m₅, rfl, hlt, rfl, by rw [List.length_append, List.length_singleton, hyl], ?_, ?_, hD₆.trans (congrArg some (LCg.lst_snoc ys y)), hn₅.at' fun o e => k₆ _ o (by simp) e, hJs _ _ _ _ hJ₅ fun b o hb e => k₆ b o (by simp only [List.mem_singleton]; exact Nat.ne_of_gt (Nat.lt_of_succ_lt hb)) e⟩
      · refine W.frame _ _ _ hst₂ fun b hb o e => k₆ b o ?_ (k₅ b o ?_ e)
        · have := hfp b hb; simp only [List.mem_singleton]; exact Nat.ne_of_lt this
        · have := hfp b hb; simp only [List.mem_singleton]; exact Nat.ne_of_lt (Nat.lt_succ_of_lt this)
      · intro b o hb e
        have hlt' := Heap.lt_size e
        exact k₆ b o (by simp only [List.mem_singleton]; exact Nat.ne_of_lt hlt') (k₅ b o (by simp only [List.mem_singleton]; exact Nat.ne_of_lt (Nat.lt_succ_of_lt hlt')) (k₂ b o hb (hk' b o hb e)))
    · obtain rfl : i = n := Nat.le_antisymm hi (Nat.not_lt.mp hlt)
      refine W.done _ _ _ hst' fun h₂ tk₂ hk₂ => ?_
      have k₂ : KeptBut [I] h' h₂ := fun b o hb e => hk₂ b o hb e
      have hD₂ : h₂.get? s₂.heap.objs.size = some (LCg.lst ys) := k₂ _ _ (by simpa using hDn) hD'
      have hJ₂ : J _ ys h₂ := hJs _ _ _ _ hJ' fun b o hb e => k₂ b o (by simp only [List.mem_singleton]; exact Nat.ne_of_gt (Nat.lt_trans (Nat.lt_succ_of_lt hI) hb)) e
      exact hRR ys I h₂ tk₂ m' rfl (fun h'' tk'' k'' hD'' kn'' => fin ys h'' tk'' hyl k'' hD'' (hJs _ _ _ _ hJ₂ kn'')) (hk'.trans k₂) hI hD₂ (hn'.at' fun o e => k₂ _ o (by simpa using hCn) e)
  have e₁ := go _ rfl
  have hst₁ : St 0 h₁ := W.frame _ _ _ hst fun b _ o e => old b o e
  have e₂ := codeAny_compStart_list e₁ (W.self 0 _ _ _ hst₁ e₁)
  rw [hN]
  exact e₂

theorem ListComp_G {elt target iter : PySem.Expr} {scope : Scope} {cl : List (Str × Addr)} {pos : Pos} {Q : Value → Shared → Prop}
    (hclos : closureFor scope env = pure cl) (hcell : ∀ y ∈ scope.names, y.2 ≠ .cell) (hkind : scope.kind = .function)
    (hnames : ∀ y ∈ scope.names, y.2 = .local → scope.names.lookup y.1 = some .local)
    (h : wpAny (model prog w) A (eval iter env) (fun xv s₁ => wpAny (model prog w) A (pyIter xv) (fun it s₂ => CompIn prog w A env target elt scope cl [] (fun _ h tk => Q (.ref s₂.heap.objs.size) { s₂ with heap := h, toks := tk }) it s₂) E s₁) E s)
    (hs : ∀ x, foldedSetIterable iter env x = pure x := by intro _; rfl) :
    wpAny (model prog w) A (eval (.ListComp elt [⟨target, iter, [], 0⟩] scope pos) env) Q E s := by
  rw [eval_ListComp]
  refine wpAny_comprehension_free (use := none) rfl hs hclos hkind hnames (wpAny_mono h (fun xv s₁ h₁ => wpAny_mono h₁ (fun it s₂ h₂ => ?_) fun _ _ e => e) fun _ _ e => e)
  refine comp_core hcell hkind h₂ ?_
  intro ys I h tk m' _ hF hk hI hD hn
  refine ⟨m', hn, fun h' hs' => hF h' tk (fun b o hb e => hs'.extBut b o (Nat.ne_of_lt (Nat.lt_succ_of_lt (Heap.lt_size e))) (hk b o hb e)) (hs'.extBut _ _ (Nat.ne_of_lt (Nat.lt_succ_self _)) hD) fun b o hb e => hs'.extBut b o (Nat.ne_of_gt hb) e⟩

theorem Assign_ListComp_G {elt target iter : PySem.Expr} {y : Str} {py : Pos} {scope : Scope} {cl : List (Str × Addr)} {pos spos : Pos} {m : Str → Option Value} {Q : Flow → Shared → Prop}
    (hsw : swapsWith (.ListComp elt [⟨target, iter, [], 0⟩] scope pos) (some (.Name y py)) spos.line env = pure true)
    (hclos : closureFor scope env = pure cl) (hcell : ∀ z ∈ scope.names, z.2 ≠ .cell) (hkind : scope.kind = .function)
    (hnames : ∀ z ∈ scope.names, z.2 = .local → scope.names.lookup z.1 = some .local)
    (hy : env.kindOf y = some .local) (hp : (env.scope.kind == .class || (env.scope.kind == .module && env.locals != env.globals)) = false)
    (h : wpAny (model prog w) A (eval iter env) (fun xv s₁ => wpAny (model prog w) A (pyIter xv) (fun it s₂ => s₂.heap.Ns env.locals m ∧ (∀ I, it = .ref I → I ≠ env.locals) ∧
      CompIn prog w A env target elt scope cl [env.locals] (fun _ h tk => h.Ns env.locals (fun z => if z = y then some (.ref s₂.heap.objs.size) else m z) → Q .next { s₂ with heap := h, toks := tk }) it s₂) E s₁) E s)
    (hs : ∀ x, foldedSetIterable iter env x = pure x := by intro _; rfl) :
    wpAny (model prog w) A (exec (.Assign [.Name y py] (.ListComp elt [⟨target, iter, [], 0⟩] scope pos) spos) env) Q E s := by
  rw [exec_Assign_Name_used _ _ _ _ hsw]
  refine wpAny_bind (wpAny_standAt (wpAny_bind ?_))
  show wpAny _ A (do let _ ← comprehension (.ListComp elt [⟨target, iter, [], 0⟩] scope pos) scope env _ (newList []) false (eval iter env) (some (assign (.Name y py) env))) _ _ s
  refine wpAny_bind (wpAny_mono (wpAny_comprehension_free (use := some (assign (.Name y py) env)) (Q := fun _ s' => Q .next s') rfl hs hclos hkind hnames
    (wpAny_mono h (fun xv s₁ h₁ => wpAny_mono h₁ (fun it s₂ h₂ => ?_) fun _ _ e => e) fun _ _ e => e)) (fun _ s' hq => wpAny_pure (wpAny_pure hq)) fun _ _ e => e)
  obtain ⟨hL, hne, h₂⟩ := h₂
  refine comp_core hcell hkind h₂ ?_
  intro ys I h tk m' hit hF hk hI hD hn
  have hIL : env.locals ≠ I := Ne.symm (hne I hit)
  have hLlt : env.locals < s₂.heap.objs.size := hL.lt
  show wpAny _ A (assign (.Name y py) env (.ref s₂.heap.objs.size)) _ _ _
  refine wpAny_assign_Name (wpAny_storeName_local hy (hL.at' fun o e => hk _ o (by simpa using hIL) e) (fun h₂ hn₂ hs₂ => ?_) hp)
  have hCL : (s₂.heap.objs.size + 1 : Nat) ≠ env.locals := Nat.ne_of_gt (Nat.lt_succ_of_lt hLlt)
  refine ⟨m', hn.sameBut hs₂ hCL, fun h'' hs'' => hF h'' _ (fun b o hb e => ?_) (hs''.extBut _ _ (Nat.ne_of_lt (Nat.lt_succ_self _)) (hs₂.extBut _ _ (Nat.ne_of_gt hLlt) hD)) (fun b o hb e => hs''.extBut b o (Nat.ne_of_gt hb) (hs₂.extBut b o (Nat.ne_of_gt (Nat.lt_trans (Nat.lt_succ_of_lt hLlt) hb)) e)) (hn₂.sameBut hs'' (Ne.symm hCL))⟩
  have hb' : b ≠ I ∧ b ≠ env.locals := by simpa using hb
  exact hs''.extBut b o (Nat.ne_of_lt (Nat.lt_succ_of_lt (Heap.lt_size e))) (hs₂.extBut b o hb'.2 (hk b o (by simpa using hb'.1) e))

theorem fr_kept {h₀ h h' : Heap} {L : Addr} {m : Str → Option Value} {xs : List Addr} (F : Fr h₀ L h m) (k : KeptBut xs h h') (hL : L ∉ xs) (hx : ∀ b ∈ xs, h₀.get? b = none) : Fr h₀ L h' m :=
  ⟨F.ns.at' fun o e => k L o hL e, fun b o e => k b o (fun q => by rw [hx b q] at e; cases e) (F.keep b o e), F.above⟩
theorem news_kept {h₀ h h' : Heap} {L : Addr} {news : List (Addr × Obj)} {xs : List Addr} (N : News h₀ L h news) (k : KeptBut xs h h') (hx : ∀ p ∈ news, p.1 ∉ xs) : News h₀ L h' news :=
  fun p hp => ⟨k _ _ (hx p hp) (N p hp).1, (N p hp).2⟩

/-- a turn whose target is one name -/
theorem CompTurn.name {s₂ : Shared} {elt : PySem.Expr} {x : Str} {px : Pos} {scope : Scope} {cl : List (Str × Addr)} {I : Addr} {St : Nat → Heap → Prop} {J : Nat → List Value → Heap → Prop} {i : Nat} {v : Value} {ys : List Value}
    (hx : scope.names.lookup x = some .local) (hkind : scope.kind = .function)
    (hJs : ∀ h h', J i ys h → (∀ b o, s₂.heap.objs.size + 1 < b → h.get? b = some o → h'.get? b = some o) → J i ys h')
    (H : ∀ (C : Addr) (m' : Str → Option Value) (h : Heap) (tk : Nat) (E' : Value → Shared → Prop), C = s₂.heap.objs.size + 1 → h.Ns C m' → m' x = some v → KeptBut [I] s₂.heap h → J i ys h →
      wpAny (model prog w) A (eval elt (compEnvC scope cl C env)) (CompDone s₂ C h fun y h₅ => J (i + 1) (ys ++ [y]) h₅) E' { s₂ with heap := h, toks := tk }) :
    CompTurn prog w A s₂ (.Name x px) elt scope cl env I St J i v ys := by
  intro C m' h tk E' hC hn hk hst hJ
  show wpAny _ A (pure ()) _ _ _
  refine wpAny_pure ?_
  refine wpAny_assign_Name (wpAny_storeName_local (lookup_relabel_local hx) hn (fun h₃ hn₃ hs₃ => ?_) (by simp [compEnvC, relabel, hkind]))
  have hs₃' : Heap.SameBut C h h₃ := hs₃
  refine wpAny_mono (H C _ h₃ _ E' hC hn₃ (by simp) (fun b o hb e => hs₃'.extBut b o (by rw [hC]; exact Nat.ne_of_lt (Nat.lt_succ_of_lt (Heap.lt_size e))) (hk b o hb e)) (hJs _ _ hJ fun b o hb e => hs₃'.extBut b o (by rw [hC]; exact Nat.ne_of_gt hb) e)) (fun y s₅ h₅ => ?_) fun _ _ e => e
  obtain ⟨h₅, tk₅, rfl, k₅, r⟩ := h₅
  exact ⟨h₅, tk₅, rfl, fun b o hb e => k₅ b o hb (hs₃'.extBut b o (by simpa using hb) e), r⟩

/-- a turn whose target is a tuple of 2 names, over a list of tuples -/
theorem CompTurn.tuple2 {s₂ : Shared} {elt : PySem.Expr} {a b : Str} {pa pb tp : Pos} {kk : Nat} {scope : Scope} {cl : List (Str × Addr)} {I ax Tt : Addr} {x y : Value} {St : Nat → Heap → Prop} {J : Nat → List Value → Heap → Prop} {i : Nat} {ys : List Value}
    (hh : A.handled = none) (ha : scope.names.lookup a = some .local) (hb : scope.names.lookup b = some .local) (nab : a ≠ b) (hkind : scope.kind = .function) (hT : s₂.heap.IsTuple Tt #[x, y]) (hTI : Tt ≠ I)
    (hSt : ∀ h, St (i + 1) h → h.IsListIter I ax (i + 1))
    (hJs : ∀ h h', J i ys h → (∀ b o, s₂.heap.objs.size + 1 < b → h.get? b = some o → h'.get? b = some o) → J i ys h')
    (H : ∀ (C : Addr) (m' : Str → Option Value) (h : Heap) (tk : Nat) (E' : Value → Shared → Prop), C = s₂.heap.objs.size + 1 → h.Ns C m' → m' a = some x → m' b = some y → KeptBut [I] s₂.heap h → J i ys h →
      wpAny (model prog w) A (eval elt (compEnvC scope cl C env)) (CompDone s₂ C h fun y h₅ => J (i + 1) (ys ++ [y]) h₅) E' { s₂ with heap := h, toks := tk }) :
    CompTurn prog w A s₂ (.Tuple [.Name a pa, .Name b pb] kk tp) elt scope cl env I St J i (.ref Tt) ys := by
  intro C m' h tk E' hC hn hk hst hJ
  obtain ⟨oI, heI, hoc, hod⟩ := hSt h hst
  have hTh : h.IsTuple Tt #[x, y] := by obtain ⟨o, e, r⟩ := hT; exact ⟨o, hk _ _ (by simpa using hTI) e, r⟩
  show wpAny _ A (load I >>= _) _ _ _
  refine wpAny_bind (wpAny_load heI ?_)
  rw [hoc, hod]
  show wpAny _ A (if (_ : Bool) = true then _ else pure ()) _ _ _
  refine bm_if_false (by rw [show (["enumerate", "zip", "dict_itemiterator", "dict_reverseitemiterator", "odict_iterator", "itertools.zip_longest", "itertools.pairwise"].contains "list_iterator") = false from by decide +kernel, Bool.false_and]) (wpAny_pure ?_)
  refine wpAny_assign_Tuple hh hTh rfl rfl fun h₀ he₀ => ?_
  have up₀ : ∀ b o, h.get? b = some o → h₀.get? b = some o := fun b o e => he₀ b o (Nat.ne_of_lt (Heap.lt_size e)) e
  have hn₀ : h₀.Ns C m' := hn.at' fun o e => up₀ _ o e
  show wpAny _ _ (assignInOrder [assign (.Name a pa) (compEnvC scope cl C env), assign (.Name b pb) (compEnvC scope cl C env)] [x, y]) _ _ _
  refine assignInOrder_cons ?_
  refine wpAny_assign_Name (wpAny_storeName_local (lookup_relabel_local ha) hn₀ (fun g0 hn0 hs0 => ?_) (by simp [compEnvC, relabel, hkind]))
  refine assignInOrder_cons ?_
  refine wpAny_assign_Name (wpAny_storeName_local (lookup_relabel_local hb) hn0 (fun g1 hn1 hs1 => ?_) (by simp [compEnvC, relabel, hkind]))
  refine assignInOrder_nil ?_
  have hs0' : Heap.SameBut C h₀ g0 := hs0
  have hs1' : Heap.SameBut C g0 g1 := hs1
  have up : ∀ b o, b ≠ C → h.get? b = some o → g1.get? b = some o := fun b o hb e => hs1'.extBut b o hb (hs0'.extBut b o hb (up₀ b o e))
  refine wpAny_mono (H C _ g1 _ E' hC hn1 (by simp [nab]) (by simp) (fun b o hb e => up b o (by rw [hC]; exact Nat.ne_of_lt (Nat.lt_succ_of_lt (Heap.lt_size e))) (hk b o hb e)) (hJs _ _ hJ fun b o hb e => up b o (by rw [hC]; exact Nat.ne_of_gt hb) e)) (fun y s₅ h₅ => ?_) fun _ _ e => e
  obtain ⟨h₅, tk₅, rfl, k₅, r⟩ := h₅
  exact ⟨h₅, tk₅, rfl, fun b o hb e => k₅ b o hb (up b o (by simpa using hb) e), r⟩

/-- a turn whose target is a tuple of 3 names, over a list of tuples -/
theorem CompTurn.tuple3 {s₂ : Shared} {elt : PySem.Expr} {a b c : Str} {pa pb pc tp : Pos} {kk : Nat} {scope : Scope} {cl : List (Str × Addr)} {I ax Tt : Addr} {x y z : Value} {St : Nat → Heap → Prop} {J : Nat → List Value → Heap → Prop} {i : Nat} {ys : List Value}
    (hh : A.handled = none) (ha : scope.names.lookup a = some .local) (hb : scope.names.lookup b = some .local) (hc : scope.names.lookup c = some .local) (nab : a ≠ b) (nac : a ≠ c) (nbc : b ≠ c) (hkind : scope.kind = .function) (hT : s₂.heap.IsTuple Tt #[x, y, z]) (hTI : Tt ≠ I)
    (hSt : ∀ h, St (i + 1) h → h.IsListIter I ax (i + 1))
    (hJs : ∀ h h', J i ys h → (∀ b o, s₂.heap.objs.size + 1 < b → h.get? b = some o → h'.get? b = some o) → J i ys h')
    (H : ∀ (C : Addr) (m' : Str → Option Value) (h : Heap) (tk : Nat) (E' : Value → Shared → Prop), C = s₂.heap.objs.size + 1 → h.Ns C m' → m' a = some x → m' b = some y → m' c = some z → KeptBut [I] s₂.heap h → J i ys h →
      wpAny (model prog w) A (eval elt (compEnvC scope cl C env)) (CompDone s₂ C h fun y h₅ => J (i + 1) (ys ++ [y]) h₅) E' { s₂ with heap := h, toks := tk }) :
    CompTurn prog w A s₂ (.Tuple [.Name a pa, .Name b pb, .Name c pc] kk tp) elt scope cl env I St J i (.ref Tt) ys := by
  intro C m' h tk E' hC hn hk hst hJ
  obtain ⟨oI, heI, hoc, hod⟩ := hSt h hst
  have hTh : h.IsTuple Tt #[x, y, z] := by obtain ⟨o, e, r⟩ := hT; exact ⟨o, hk _ _ (by simpa using hTI) e, r⟩
  show wpAny _ A (load I >>= _) _ _ _
  refine wpAny_bind (wpAny_load heI ?_)
  rw [hoc, hod]
  show wpAny _ A (if (_ : Bool) = true then _ else pure ()) _ _ _
  refine bm_if_false (by rw [show (["enumerate", "zip", "dict_itemiterator", "dict_reverseitemiterator", "odict_iterator", "itertools.zip_longest", "itertools.pairwise"].contains "list_iterator") = false from by decide +kernel, Bool.false_and]) (wpAny_pure ?_)
  refine wpAny_assign_Tuple hh hTh rfl rfl fun h₀ he₀ => ?_
  have up₀ : ∀ b o, h.get? b = some o → h₀.get? b = some o := fun b o e => he₀ b o (Nat.ne_of_lt (Heap.lt_size e)) e
  have hn₀ : h₀.Ns C m' := hn.at' fun o e => up₀ _ o e
  show wpAny _ _ (assignInOrder [assign (.Name a pa) (compEnvC scope cl C env), assign (.Name b pb) (compEnvC scope cl C env), assign (.Name c pc) (compEnvC scope cl C env)] [x, y, z]) _ _ _
  refine assignInOrder_cons ?_
  refine wpAny_assign_Name (wpAny_storeName_local (lookup_relabel_local ha) hn₀ (fun g0 hn0 hs0 => ?_) (by simp [compEnvC, relabel, hkind]))
  refine assignInOrder_cons ?_
  refine wpAny_assign_Name (wpAny_storeName_local (lookup_relabel_local hb) hn0 (fun g1 hn1 hs1 => ?_) (by simp [compEnvC, relabel, hkind]))
  refine assignInOrder_cons ?_
  refine wpAny_assign_Name (wpAny_storeName_local (lookup_relabel_local hc) hn1 (fun g2 hn2 hs2 => ?_) (by simp [compEnvC, relabel, hkind]))
  refine assignInOrder_nil ?_
  have hs0' : Heap.SameBut C h₀ g0 := hs0
  have hs1' : Heap.SameBut C g0 g1 := hs1
  have hs2' : Heap.SameBut C g1 g2 := hs2
  have up : ∀ b o, b ≠ C → h.get? b = some o → g2.get? b = some o := fun b o hb e => hs2'.extBut b o hb (hs1'.extBut b o hb (hs0'.extBut b o hb (up₀ b o e)))
  refine wpAny_mono (H C _ g2 _ E' hC hn2 (by simp [nab, nac]) (by simp [nbc]) (by simp) (fun b o hb e => up b o (by rw [hC]; exact Nat.ne_of_lt (Nat.lt_succ_of_lt (Heap.lt_size e))) (hk b o hb e)) (hJs _ _ hJ fun b o hb e => up b o (by rw [hC]; exact Nat.ne_of_gt hb) e)) (fun y s₅ h₅ => ?_) fun _ _ e => e
  obtain ⟨h₅, tk₅, rfl, k₅, r⟩ := h₅
  exact ⟨h₅, tk₅, rfl, fun b o hb e => k₅ b o hb (up b o (by simpa using hb) e), r⟩

end
end Mine
end
section
set_option Elab.async false
set_option maxRecDepth 100000
namespace Mine
open PySem PySem.W PySem.Calls PyProof.Rows
/-- what the frame and the ledger are within a comprehension's turn -/
theorem comp_ctx {h₀ g h : Heap} {L C : Addr} {o : Obj} {m m' : Str → Option Value} {news : List (Addr × Obj)} (F : Fr h₀ L g m) (N : News h₀ L g news) (hk : KeptBut [g.objs.size] (g.push o) h) (hC : C = (g.push o).objs.size + 1) (hn : h.Ns C m') :
    ∃ oC, LCg.NsObj oC m' ∧ Fr h₀ L h m ∧ News h₀ L h ((C, oC) :: news) := by
  have hs : (g.push o).objs.size = g.objs.size + 1 := Heap.size_push _ _
  have hL : L < g.objs.size := F.ns.lt
  have F1 : Fr h₀ L h m := fr_kept (F.push o) hk (by simp only [List.mem_singleton]; exact Nat.ne_of_lt hL) (fun b hb => by rw [List.mem_singleton.mp hb]; exact next_is_new F)
  obtain ⟨oC, heC, hoC⟩ := LCg.ns_obj hn
  refine ⟨oC, hoC, F1, fun p hp => ?_⟩
  rcases List.mem_cons.mp hp with rfl | hp
  · refine ⟨heC, ?_, ?_⟩
    · show C ≠ L
      rw [hC, hs]; exact Nat.ne_of_gt (Nat.lt_succ_of_lt (Nat.lt_succ_of_lt hL))
    · show h₀.get? C = none
      exact Heap.get?_none_of_le (by rw [hC, hs]; exact Nat.le_of_lt (Nat.lt_of_le_of_lt F.above (Nat.lt_succ_of_lt (Nat.lt_succ_of_lt hL))))
  · have z := N p hp
    exact ⟨hk _ _ (by simp only [List.mem_singleton]; exact Nat.ne_of_lt (Heap.lt_size z.1)) (Heap.get?_push_of_some _ z.1), z.2⟩
/-- the same behind the comprehension -/
theorem comp_out {h₀ g h : Heap} {L : Addr} {o : Obj} {m : Str → Option Value} {news : List (Addr × Obj)} {ys : List Value} (F : Fr h₀ L g m) (N : News h₀ L g news) (hk : KeptBut [g.objs.size] (g.push o) h) (hD : h.get? (g.push o).objs.size = some (LCg.lst ys)) :
    Fr h₀ L h m ∧ News h₀ L h (((g.push o).objs.size, LCg.lst ys) :: news) := by
  have hs : (g.push o).objs.size = g.objs.size + 1 := Heap.size_push _ _
  have hL : L < g.objs.size := F.ns.lt
  have F1 : Fr h₀ L h m := fr_kept (F.push o) hk (by simp only [List.mem_singleton]; exact Nat.ne_of_lt hL) (fun b hb => by rw [List.mem_singleton.mp hb]; exact next_is_new F)
  refine ⟨F1, fun p hp => ?_⟩
  rcases List.mem_cons.mp hp with rfl | hp
  · refine ⟨hD, ?_, ?_⟩
    · show (g.push o).objs.size ≠ L
      rw [hs]; exact Nat.ne_of_gt (Nat.lt_succ_of_lt hL)
    · show h₀.get? (g.push o).objs.size = none
      exact Heap.get?_none_of_le (by rw [hs]; exact Nat.le_of_lt (Nat.lt_of_le_of_lt F.above (Nat.lt_succ_of_lt hL)))
  · have z := N p hp
    exact ⟨hk _ _ (by simp only [List.mem_singleton]; exact Nat.ne_of_lt (Heap.lt_size z.1)) (Heap.get?_push_of_some _ z.1), z.2⟩
/-- an element that leaves all that stood: the turn's end -/
theorem turn_end {h h₅ : Heap} {C : Addr} {m' : Str → Option Value} {s₂ : Shared} {tk₅ : Nat} {P : Value → Heap → Prop} {y : Value} (hn : h.Ns C m') (k : h.StaysIn h₅) (hP : P y h₅) :
    CompDone s₂ C h P y { s₂ with heap := h₅, toks := tk₅ } :=
  ⟨h₅, tk₅, rfl, fun b o _ e => k b o e, ⟨m', hn.at' fun o e => k _ o e⟩, hP⟩
end Mine
end
section
set_option Elab.async false
set_option maxRecDepth 100000
namespace Mine
open PySem PySem.W PySem.Calls PyProof.Rows
open PySem.Builtin.Str
/-- the text of these signs -/
@[irreducible] noncomputable def T (l : List Nat) : Str := ⟨l.toArray⟩
theorem T_cps (l : List Nat) : (T l).cps = l.toArray := by unfold T; rfl
theorem T_len (l : List Nat) : (T l).length = l.length := by unfold T; rfl
theorem T_eta (x : Str) : x = T x.cps.toList := by unfold T; rfl
theorem T_app (a b : List Nat) : T a ++ T b = T (a ++ b) := by
  apply Str.ext'
  rw [Str.cps_append, T_cps, T_cps, T_cps]
  simp
theorem T_le {l : List Nat} {n : Nat} (h : l.length ≤ n) : (T l).length ≤ n := by rw [T_len]; exact h
theorem T_slice {l : List Nat} {lo hi : Option Int} (a b : Nat) (hl : clipAt l.length 0 lo = (a : Int)) (hu : clipAt l.length l.length hi = (b : Int)) (hab : a ≤ b) (hb : b ≤ l.length) :
    Txt.slice (T l) lo hi = T ((l.drop a).take (b - a)) := by
  rw [slice_eq (a := a) (b := b) (by rw [T_len]; exact hl) (by rw [T_len]; exact hu) hab (by rw [T_len]; exact hb)]
  unfold sub
  rw [T_cps]
  unfold T
  rfl
theorem T_item {l : List Nat} {i : Int} (k : Nat) {c : Nat} (hi : i = (k : Int)) (hc : l[k]? = some c) : Txt.item (T l) i = T [c] := by
  have hk : k < l.length := by
    rcases Nat.lt_or_ge k l.length with h | h
    · exact h
    · rw [List.getElem?_eq_none h] at hc; cases hc
  have e : Txt.charAt (T l) i = some c := by
    unfold Txt.charAt
    rw [T_len, T_cps, hi]
    have : seqIndex? (k : Int) l.length = some k := by
      unfold seqIndex?
      simp; omega
    rw [this]
    simpa using hc
  unfold Txt.item
  rw [e]
  unfold T
  rfl
/-- the sign at i, as a text -/
noncomputable def ItemIs (x : Str) (i : Int) (y : Str) : Prop := 0 ≤ i ∧ i < x.length ∧ i < 2 ^ 62 ∧ Txt.item x i = y
theorem ItemIs.mk' {l : List Nat} {i : Int} (k : Nat) {c : Nat} (hi : i = (k : Int)) (hc : l[k]? = some c) (hk : k ≤ 4096) : ItemIs (T l) i (T [c]) := by
  have hk' : k < l.length := by
    rcases Nat.lt_or_ge k l.length with h | h
    · exact h
    · rw [List.getElem?_eq_none h] at hc; cases hc
  exact ⟨by omega, by rw [T_len]; omega, by omega, T_item k hi hc⟩
theorem lit_of {s : String} {l : List Nat} (h : (Str.ofString s).cps.toList = l) : Str.ofString s = T l := by rw [← h]; exact T_eta _

section
variable {prog : Program} {w : World} {A : Around} {E : Value → Shared → Prop} {s : Shared} {h₀ : Heap} {L : Addr} {m : Str → Option Value} {news : List (Addr × Obj)} {x y z : Str} {t u : Tok} {Q : Value → Shared → Prop} {value slice : PySem.Expr}
theorem t_item {i : Int} (hb : ItemIs x i z) (h : Q (.str z s.toks) { s with toks := s.toks + 1 })
    (hs : subscripted slice false (.str x t) (.int i u) = operate [.str x t, .int i u] (getItem (.str x t) (.int i u)) := by with_unfolding_all rfl)
    (ht : ∀ r, letTemporaryGo value (.str x t) r = pure () := by intro _; with_unfolding_all rfl) :
    wpAny (model prog w) A (subscriptTail value slice (.str x t) (.int i u)) Q E s := by
  obtain ⟨h0, h1, h2, he⟩ := hb
  refine item_str (fitsSsize_of (N := 9223372036854775808) (by omega) (by omega) (Int.le_refl _)) (by omega) (by omega) (fun _ => ?_) hs ht
  rw [he]
  exact h
theorem t_add {a b : List Nat} (hx : x = T a) (hy : y = T b) (hs : a.length + b.length ≤ 4096) (h : ∀ t' k, Q (.str (T (a ++ b)) t') { s with toks := k }) :
    wpAny (model prog w) A (binaryOp .Add (.str x t) (.str y u)) Q E s := by
  subst hx hy
  refine KXadd.add (K := a.length) (L := b.length) (by rw [T_len]; exact Nat.le_refl _) (by rw [T_len]; exact Nat.le_refl _) (by omega) fun t' k _ => ?_
  rw [T_app]
  exact h t' k
theorem t_mul {a b : List Nat} {i : Int} (hx : x = T a) (he : Txt.mul (T a) i = T b) (hs : a.length ≤ 16) (h0 : 0 ≤ i) (h1 : i ≤ 4096) (h : ∀ t' k, Q (.str (T b) t') { s with toks := k }) :
    wpAny (model prog w) A (binaryOp .Mult (.str x t) (.int i u)) Q E s := by
  subst hx
  refine KXi.mul (n := a.length) (T_len a) hs (by omega) (by omega) fun t' k _ _ => ?_
  rw [he]
  exact h t' k
theorem t_str {n : Int} {a : List Nat} (hn : Str.ofString (toString n) = T a) (h0 : 0 ≤ n) (h1 : n < 10 ^ 10) (h : ∀ t' k, Q (.str (T a) t') { s with toks := k }) :
    wpAny (model prog w) A (call (.type "str") [.int n t]) Q E s := by
  refine P.str_of_int (shown (N := 10 ^ 10) (by omega) h1 (by decide +kernel)) ?_
  rw [hn]
  exact h _ _
theorem t_ne_same (h : Q (.bool false) s) : wpAny (model prog w) A (compareOp .NotEq (.str x t) (.str x u)) Q E s := ne_str (by rw [bne_self_eq_false]; exact h)
theorem t_eq_same (h : Q (.bool true) s) : wpAny (model prog w) A (compareOp .Eq (.str x t) (.str x u)) Q E s := eq_str (by rw [beq_self_eq_true]; exact h)
theorem t_find {k : Int} (he : Txt.find x y = k) (h : ∀ t' c, Q (.int k t') { s with toks := c }) : wpAny (model prog w) A (call (.builtin "str.find") [.str x t, .str y u]) Q E s := SC.find (by rw [he]; exact h _ _)
theorem t_find3 {i k : Int} {v : Tok} (he : Txt.find3 x y i = k) (h : ∀ t' c, Q (.int k t') { s with toks := c }) : wpAny (model prog w) A (call (.builtin "str.find") [.str x t, .str y u, .int i v]) Q E s := SC.find3 (by rw [he]; exact h _ _)
theorem t_int {n : Int} (hn : PySem.intText? x = some n) (hl : x.length ≤ 640) (h : ∀ t' c, Q (.int n t') { s with toks := c }) : wpAny (model prog w) A (call (.type "int") [.str x t]) Q E s := KIN.call_text hn hl (h _ _)
theorem t_split5 {p0 p1 p2 p3 p4 : Str} (hF : Fr h₀ L s.heap m) (hN : News h₀ L s.heap news) (he : Txt.split x y = [p0, p1, p2, p3, p4]) (hy : y.length = 1) (hx : x.length ≤ 4096)
    (h : ∀ D t0 t1 t2 t3 t4 h' k, Fr h₀ L h' m → News h₀ L h' ((D, W.listOf #[.str p0 t0, .str p1 t1, .str p2 t2, .str p3 t3, .str p4 t4] 0) :: news) → (∀ p ∈ news, p.1 < D) → Q (.ref D) { s with heap := h', toks := k }) :
    wpAny (model prog w) A (call (.builtin "str.split") [.str x t, .str y u]) Q E s := by
  refine KSpl.split1 hF hN (by rw [hy]; rfl) (fun D l h' k e _ F N hD => ?_) (by rw [sizeLine_eq]; omega)
  rw [he] at e
  obtain ⟨t0, l0, q0, e0⟩ := KSpl.cons_of e
  obtain ⟨t1, l1, q1, e1⟩ := KSpl.cons_of e0
  obtain ⟨t2, l2, q2, e2⟩ := KSpl.cons_of e1
  obtain ⟨t3, l3, q3, e3⟩ := KSpl.cons_of e2
  obtain ⟨t4, l4, q4, e4⟩ := KSpl.cons_of e3
  have q5 := KSpl.nil_of e4
  subst q5 q4 q3 q2 q1 q0
  exact h D t0 t1 t2 t3 t4 h' k F N hD
theorem t_slice_ns {j : Int} {uj : Tok} (hF : Fr h₀ L s.heap m) (hN : News h₀ L s.heap news) (he : Txt.slice x none (some j) = z) (hsz : x.length ≤ 4096) (h : ∀ h' t' k, Fr h₀ L h' m → News h₀ L h' news → Q (.str z t') { s with heap := h', toks := k })
    (hs : subscripted slice false (.str x t) (.ref s.heap.objs.size) = operate [.ref s.heap.objs.size, .str x t] (getItem (.str x t) (.ref s.heap.objs.size)) := by with_unfolding_all rfl)
    (ht : ∀ r, letTemporaryGo value (.str x t) r = pure () := by intro _; with_unfolding_all rfl) :
    wpAny (model prog w) A (subscriptTail value slice (.str x t) (.ref s.heap.objs.size)) Q E { s with heap := s.heap.push { cls := .type "slice", data := .fields #[.none, .int j uj, .none] } } :=
  slice_strN_ns hF hN (fun h' t' k F N => by rw [he]; exact h h' t' k F N) hs ht (by rw [sizeLine_eq]; omega)
theorem t_slice_sn {i : Int} {ui : Tok} (hF : Fr h₀ L s.heap m) (hN : News h₀ L s.heap news) (he : Txt.slice x (some i) none = z) (hsz : x.length ≤ 4096) (h : ∀ h' t' k, Fr h₀ L h' m → News h₀ L h' news → Q (.str z t') { s with heap := h', toks := k })
    (hs : subscripted slice false (.str x t) (.ref s.heap.objs.size) = operate [.ref s.heap.objs.size, .str x t] (getItem (.str x t) (.ref s.heap.objs.size)) := by with_unfolding_all rfl)
    (ht : ∀ r, letTemporaryGo value (.str x t) r = pure () := by intro _; with_unfolding_all rfl) :
    wpAny (model prog w) A (subscriptTail value slice (.str x t) (.ref s.heap.objs.size)) Q E { s with heap := s.heap.push { cls := .type "slice", data := .fields #[.int i ui, .none, .none] } } :=
  slice_strN_sn hF hN (fun h' t' k F N => by rw [he]; exact h h' t' k F N) hs ht (by rw [sizeLine_eq]; omega)
theorem t_slice_ss {i j : Int} {ui uj : Tok} (hF : Fr h₀ L s.heap m) (hN : News h₀ L s.heap news) (he : Txt.slice x (some i) (some j) = z) (hsz : x.length ≤ 4096) (h : ∀ h' t' k, Fr h₀ L h' m → News h₀ L h' news → Q (.str z t') { s with heap := h', toks := k })
    (hs : subscripted slice false (.str x t) (.ref s.heap.objs.size) = operate [.ref s.heap.objs.size, .str x t] (getItem (.str x t) (.ref s.heap.objs.size)) := by with_unfolding_all rfl)
    (ht : ∀ r, letTemporaryGo value (.str x t) r = pure () := by intro _; with_unfolding_all rfl) :
    wpAny (model prog w) A (subscriptTail value slice (.str x t) (.ref s.heap.objs.size)) Q E { s with heap := s.heap.push { cls := .type "slice", data := .fields #[.int i ui, .int j uj, .none] } } :=
  slice_strN_ss hF hN (fun h' t' k F N => by rw [he]; exact h h' t' k F N) hs ht (by rw [sizeLine_eq]; omega)
end
end Mine
end
section
set_option maxRecDepth 100000
namespace Mine
open PySem PyProof.Rows PySem.W
/-- the four pairs of signs -/
noncomputable def okP (a c : Nat) : Prop := (a = 43 ∧ c = 47) ∨ (a = 45 ∧ c = 95) ∨ (a = 43 ∧ c = 124) ∨ (a = 33 ∧ c = 40)
/-- a body as bytes -/
@[irreducible] noncomputable def bodyB (p c : Nat) : Array UInt8 := ((bodyL p c).map Nat.toUInt8).toArray
theorem bodyB_size (p c : Nat) : (bodyB p c).size = 12 := by unfold bodyB; rw [List.size_toArray, List.length_map, bodyL_len]
theorem body_bytes (p c : Nat) : (T (bodyL p c)).cps.map Nat.toUInt8 = bodyB p c := by unfold bodyB; rw [T_cps]; simp
noncomputable def tabD (a c : Nat) : Array UInt8 := mktab #[a.toUInt8, c.toUInt8] #[43, 47]
noncomputable def tabE (a c : Nat) : Array UInt8 := mktab #[43, 47] #[a.toUInt8, c.toUInt8]
theorem pair_bytes (a c : Nat) : (T [a, c]).cps.map Nat.toUInt8 = #[a.toUInt8, c.toUInt8] := by rw [T_cps]; simp
theorem tabD_of (a c : Nat) : mktab ((T [a, c]).cps.map Nat.toUInt8) #[43, 47] = tabD a c := by rw [pair_bytes]; rfl
theorem tabE_of (a c : Nat) : mktab #[43, 47] ((T [a, c]).cps.map Nat.toUInt8) = tabE a c := by rw [pair_bytes]; rfl
noncomputable def maps (t : Array UInt8) (x y : Nat) : Prop := t.getD x.toUInt8.toNat x.toUInt8 = y.toUInt8
theorem tab_at (x y u v : UInt8) (n : Nat) (hn : n < 256) : (mktab #[x, y] #[u, v]).getD n.toUInt8.toNat n.toUInt8 = if y.toNat = n then v else if x.toNat = n then u else n.toUInt8 := by
  have e : n.toUInt8.toNat = n := Nat.mod_eq_of_lt hn
  show ((ident.setIfInBounds x.toNat u).setIfInBounds y.toNat v).getD n.toUInt8.toNat n.toUInt8 = _
  have hi : ident.size = 256 := by unfold ident; simp
  have hv : ident[n]? = some n.toUInt8 := by
    unfold ident
    rw [Array.getElem?_map, Array.getElem?_range, if_pos hn]; rfl
  rw [e, Array.getD_eq_getD_getElem?, Array.getElem?_setIfInBounds, Array.getElem?_setIfInBounds]
  by_cases h1 : y.toNat = n
  · rw [if_pos h1, if_pos h1, if_pos (by rw [Array.size_setIfInBounds, hi]; omega)]; rfl
  · rw [if_neg h1, if_neg h1]
    by_cases h2 : x.toNat = n
    · rw [if_pos h2, if_pos h2, if_pos (by rw [hi]; omega)]; rfl
    · rw [if_neg h2, if_neg h2, hv]; rfl
theorem tab_d {x y u v : UInt8} (hy : y.toNat < 48 ∨ 57 < y.toNat) (hx : x.toNat < 48 ∨ 57 < x.toNat) : ∀ d, d < 10 → maps (mktab #[x, y] #[u, v]) (48 + d) (48 + d) := by
  intro d hd
  unfold maps
  rw [tab_at _ _ _ _ _ (by omega), if_neg (by omega), if_neg (by omega)]
theorem tabD_ok {a c : Nat} (h : okP a c) : maps (tabD a c) c 47 ∧ maps (tabD a c) 32 32 ∧ ∀ d, d < 10 → maps (tabD a c) (48 + d) (48 + d) := by
  unfold tabD
  refine ⟨?_, ?_, ?_⟩
  · unfold maps
    rw [tab_at _ _ _ _ _ (by rcases h with ⟨rfl, rfl⟩ | ⟨rfl, rfl⟩ | ⟨rfl, rfl⟩ | ⟨rfl, rfl⟩ <;> decide)]
    rcases h with ⟨rfl, rfl⟩ | ⟨rfl, rfl⟩ | ⟨rfl, rfl⟩ | ⟨rfl, rfl⟩ <;> decide
  · unfold maps
    rw [tab_at _ _ _ _ _ (by decide)]
    rcases h with ⟨rfl, rfl⟩ | ⟨rfl, rfl⟩ | ⟨rfl, rfl⟩ | ⟨rfl, rfl⟩ <;> decide
  · refine tab_d ?_ ?_ <;> (rcases h with ⟨rfl, rfl⟩ | ⟨rfl, rfl⟩ | ⟨rfl, rfl⟩ | ⟨rfl, rfl⟩ <;> decide)
theorem tabE_ok {a c : Nat} (h : okP a c) : maps (tabE a c) 47 c ∧ ∀ d, d < 10 → maps (tabE a c) (48 + d) (48 + d) := by
  unfold tabE
  refine ⟨?_, tab_d (by decide) (by decide)⟩
  unfold maps
  rw [tab_at _ _ _ _ _ (by decide)]
  rcases h with ⟨rfl, rfl⟩ | ⟨rfl, rfl⟩ | ⟨rfl, rfl⟩ | ⟨rfl, rfl⟩ <;> decide
theorem transl_list (t : Array UInt8) (l : List Nat) : transl (l.map Nat.toUInt8).toArray t = (l.map fun x => t.getD x.toUInt8.toNat x.toUInt8).toArray := by
  unfold transl
  simp only [List.map_toArray, List.map_map]
  rfl
theorem transl_body {t : Array UInt8} {c c' : Nat} (p : Nat) (hc : maps t c c') (hd : ∀ d, d < 10 → maps t (48 + d) (48 + d)) : (bodyL p c).map (fun x => t.getD x.toUInt8.toNat x.toUInt8) = (bodyL p c').map Nat.toUInt8 := by
  have f : ∀ k, t.getD (48 + fg p k).toUInt8.toNat (48 + fg p k).toUInt8 = (48 + fg p k).toUInt8 := fun k => hd _ (by have := fg_le p k; omega)
  have hc' : t.getD c.toUInt8.toNat c.toUInt8 = c'.toUInt8 := hc
  rw [bodyL_eq, bodyL_eq]
  simp only [List.map_cons, List.map_nil, f, hc']
theorem tr_dec {a c : Nat} (p : Nat) (h : okP a c) : transl (bodyB p c) (tabD a c) = bodyB p 47 := by
  have t := tabD_ok h
  unfold bodyB
  rw [transl_list, transl_body p t.1 t.2.2]
theorem tr_enc {a c : Nat} (p : Nat) (h : okP a c) : transl (bodyB p 47) (tabE a c) = bodyB p c := by
  have t := tabE_ok h
  unfold bodyB
  rw [transl_list, transl_body p t.1 t.2]
theorem ints_of {l : List Nat} (h : ∀ x ∈ l, x < 256) : KBw.bInts (l.map Nat.toUInt8).toArray = l.map fun n : Nat => (n : Int) := by
  unfold KBw.bInts
  rw [List.map_map]
  refine List.map_congr_left fun x hx => ?_
  have := h x hx
  show ((x % 256 : Nat) : Int) = (x : Int)
  rw [Nat.mod_eq_of_lt this]
theorem body_lt {p c : Nat} (hc : c < 128) : ∀ x ∈ bodyL p c, x < 128 := by
  have f : ∀ k, 48 + fg p k < 128 := fun k => by have := fg_le p k; omega
  rw [bodyL_eq]
  simp only [List.forall_mem_cons, List.not_mem_nil, false_implies, implies_true, and_true, f, hc]
theorem body_ints (p : Nat) : KBw.bInts (bodyB p 47) = (bodyL p 47).map fun n : Nat => (n : Int) := by
  unfold bodyB
  exact ints_of fun x hx => Nat.lt_trans (body_lt (by decide) x hx) (by decide)
theorem oct_ints (p : Nat) : KBw.bInts (oct p) = octI p := by
  unfold oct
  exact ints_of (octL_lt p)
theorem oct_outs (p : Nat) : ((octI p).map fun n => n.toNat.toUInt8).toArray = oct p := by
  unfold oct octI
  rw [List.map_map]
  rfl
theorem body_outs (p : Nat) : (((bodyL p 47).map fun n : Nat => (n : Int)).map fun n => n.toNat.toUInt8).toArray = bodyB p 47 := by
  unfold bodyB
  rw [List.map_map]
  rfl
theorem good_body (p : Nat) : ∀ c ∈ KBw.bInts (bodyB p 47), c ≠ 61 ∧ 0 ≤ b64v c ∧ b64v c < 64 := by
  rw [body_ints, bodyL_eq]
  have f : ∀ k, ((48 + fg p k : Nat) : Int) ≠ 61 ∧ 0 ≤ b64v ((48 + fg p k : Nat) : Int) ∧ b64v ((48 + fg p k : Nat) : Int) < 64 := fun k => by
    have := fg_le p k
    rw [v_fig this]; omega
  have g : ((47 : Nat) : Int) ≠ 61 ∧ 0 ≤ b64v ((47 : Nat) : Int) ∧ b64v ((47 : Nat) : Int) < 64 := by
    rw [show ((47 : Nat) : Int) = 47 from rfl, v_mark]; decide
  simp only [List.map_cons, List.map_nil, List.forall_mem_cons]
  exact ⟨g, g, g, f 7, f 6, f 5, f 4, f 3, f 2, f 1, f 0, g, fun _ h => nomatch h⟩
/-- the same behind a blank -/
noncomputable def blankB (p c : Nat) : Array UInt8 := ((32 :: bodyL p c).map Nat.toUInt8).toArray
theorem blank_bytes (p c : Nat) : (T (32 :: bodyL p c)).cps.map Nat.toUInt8 = blankB p c := by unfold blankB; rw [T_cps]; simp
theorem tr_blank {a c : Nat} (p : Nat) (h : okP a c) : transl (blankB p c) (tabD a c) = blankB p 47 := by
  have t := tabD_ok h
  unfold blankB
  have e : (tabD a c).getD (32 : Nat).toUInt8.toNat (32 : Nat).toUInt8 = (32 : Nat).toUInt8 := t.2.1
  rw [transl_list, List.map_cons, transl_body p t.1 t.2.2, List.map_cons, e]
theorem blank_ints (p : Nat) : KBw.bInts (blankB p 47) = [32] ++ (bodyL p 47).map fun n : Nat => (n : Int) := by
  unfold blankB
  rw [ints_of (by
    intro x hx
    rcases List.mem_cons.mp hx with rfl | hx
    · decide
    · exact Nat.lt_trans (body_lt (by decide) x hx) (by decide))]
  rfl
theorem good_blank (p : Nat) : ∀ c ∈ KBw.bInts (blankB p 47), c ≠ 61 ∧ 0 ≤ b64v c ∧ b64v c ≤ 64 := by
  rw [blank_ints]
  intro c hc
  rcases List.mem_append.mp hc with h | h
  · rw [List.mem_singleton.mp h, v_blank]; decide
  · rw [← body_ints] at h
    have := good_body p c h
    omega
end Mine
end
section
set_option maxRecDepth 100000
namespace Mine
open PySem PyProof.Rows PySem.W PySem.Calls PySem.Builtin PySem.Builtin.Str
theorem tx_text (p : Nat) : Str.ofString (toString (p : Int)) = T (tx p) := by
  have e := KIN.signs_num p
  unfold tx
  rw [← e]
  exact T_eta _
theorem tx_len {p : Nat} (h : p < 100000000) : (tx p).length ≤ 8 := (tx_pad 7 p h).1
theorem last8 {p : Nat} (h : p < 100000000) : Txt.slice (T ([48, 48, 48, 48, 48, 48, 48, 48] ++ tx p)) (some (-8)) none = T (dl 8 p) := by
  obtain ⟨h1, h2⟩ := tx_pad 7 p h
  have hl : ([48, 48, 48, 48, 48, 48, 48, 48] ++ tx p).length = (tx p).length + 8 := by rw [List.length_append]; exact Nat.add_comm 8 _
  have hc : clipAt ([48, 48, 48, 48, 48, 48, 48, 48] ++ tx p).length 0 (some (-8)) = ((tx p).length : Int) := by
    rw [hl]
    unfold clipAt
    dsimp only
    rw [if_pos (by decide), Int.natCast_add, Int.add_comm (-8), show (((8 : Nat) : Int) = 8) from rfl, Int.add_neg_cancel_right, Int.min_eq_left (Int.le_add_of_nonneg_right (by decide)), Int.max_eq_right (Int.natCast_nonneg _)]
  rw [T_slice (tx p).length ((tx p).length + 8) hc (by rw [hl]; rfl) (Nat.le_add_right _ _) (Nat.le_of_eq hl.symm), ← h2, Nat.add_sub_cancel_left]
  refine congrArg T ?_
  rw [List.take_of_length_le (by rw [List.length_drop, hl, Nat.add_sub_cancel_left]; exact Nat.le_refl _), List.drop_append_of_le_length h1]
  refine congrArg (· ++ tx p) ?_
  exact List.drop_replicate (i := (tx p).length) (n := 8) (a := 48)
noncomputable def preL : List Nat := [50, 50, 57, 32, 97, 41, 32, 69, 110, 116, 101, 114, 105, 110, 103, 32, 69, 120, 116, 101, 110, 100, 101, 100, 32, 80, 97, 115, 115, 105, 118, 101, 32, 77, 111, 100, 101, 32, 40]
noncomputable def midL : List Nat := [41, 32, 111, 114, 32, 40]
noncomputable def addrL : List Nat := [49, 48, 46, 49, 46, 50, 46, 51]
noncomputable def fullL (p c : Nat) : List Nat := c :: 49 :: c :: (addrL ++ (c :: (dl 8 p ++ [c])))
noncomputable def innerL (f : Bool) (p c : Nat) : List Nat := if f then fullL p c else bodyL p c
noncomputable def replyL (i b : List Nat) : List Nat := preL ++ i ++ midL ++ b ++ [41]
/-! find -/
theorem T_one (c : Nat) : T [c] = ⟨#[c]⟩ := by unfold T; rfl
theorem T_find3 {l0 l1 : List Nat} {c : Nat} (i : Nat) (hi : i ≤ l0.length) (hn : c ∉ l0.drop i) : Txt.find3 (T (l0 ++ c :: l1)) (T [c]) (i : Int) = (l0.length : Int) := by
  have hlen : (T (l0 ++ c :: l1)).length = l0.length + (l1.length + 1) := by rw [T_len, List.length_append]; rfl
  have hf : fromIndex (T (l0 ++ c :: l1)).length (i : Int) = i := by
    unfold fromIndex
    rw [if_neg (by omega)]
    omega
  have at' : ∀ v, (h : v < l0.length + (l1.length + 1)) → (T (l0 ++ c :: l1)).cps.getD v 0 = (l0 ++ c :: l1)[v]'(by simpa using h) := by
    intro v h
    rw [T_cps]
    simp [Array.getD, h]
  have hc : (T (l0 ++ c :: l1)).cps.getD l0.length 0 = c := by rw [at' _ (by omega)]; simp
  rw [T_one]
  rcases StrLaws.find3_spec (T (l0 ++ c :: l1)) c (i : Int) with ⟨_, h⟩ | ⟨k, e, h1, h2, h3, h4⟩
  · exact absurd hc (h _ (by rw [hf]; exact hi) (by omega))
  · rw [hf] at h1 h4
    rw [e]
    rcases Nat.lt_trichotomy k l0.length with h | h | h
    · refine absurd ?_ hn
      rw [at' _ (by omega), List.getElem_append_left h] at h3
      rw [List.mem_iff_getElem]
      refine ⟨k - i, by rw [List.length_drop]; omega, ?_⟩
      rw [List.getElem_drop]
      have : i + (k - i) = k := by omega
      simp only [this]
      exact h3
    · omega
    · exact absurd hc (h4 _ hi h)
/-! split -/
noncomputable def joinL (c : Nat) : List (List Nat) → List Nat
  | [] => []
  | [x] => x
  | x :: y :: r => x ++ c :: joinL c (y :: r)
theorem join_T (c : Nat) : ∀ ps : List Str, (Str.join ⟨#[c]⟩ ps).cps.toList = joinL c (ps.map fun x => x.cps.toList)
  | [] => rfl
  | [x] => rfl
  | x :: y :: r => by
    have ih := join_T c (y :: r)
    show (x ++ ⟨#[c]⟩ ++ Str.join ⟨#[c]⟩ (y :: r)).cps.toList = x.cps.toList ++ c :: joinL c ((y :: r).map fun x => x.cps.toList)
    rw [KT.app_list, KT.app_list, ih]
    simp
theorem cut_eq {c : Nat} : ∀ {x y a b : List Nat}, c ∉ x → c ∉ y → x ++ c :: a = y ++ c :: b → x = y ∧ a = b
  | [], [], _, _, _, _, h => ⟨rfl, (List.cons.inj h).2⟩
  | [], d :: y, _, _, _, hy, h => by
    have := (List.cons.inj h).1
    exact absurd (this ▸ List.mem_cons_self) hy
  | d :: x, [], _, _, hx, _, h => by
    have := (List.cons.inj h).1
    exact absurd (this ▸ List.mem_cons_self) hx
  | d :: x, e :: y, a, b, hx, hy, h => by
    have h1 := (List.cons.inj h).1
    obtain ⟨h2, h3⟩ := cut_eq (fun m => hx (.tail _ m)) (fun m => hy (.tail _ m)) (List.cons.inj h).2
    exact ⟨by rw [h1, h2], h3⟩
theorem cut_free {c : Nat} {x y a : List Nat} (hx : c ∉ x) : x = y ++ c :: a → False := fun h => hx (by rw [h]; simp)
theorem join_inj {c : Nat} : ∀ {ps qs : List (List Nat)}, ps ≠ [] → qs ≠ [] → (∀ p ∈ ps, c ∉ p) → (∀ p ∈ qs, c ∉ p) → joinL c ps = joinL c qs → ps = qs
  | [], _, h, _, _, _, _ => absurd rfl h
  | _, [], _, h, _, _, _ => absurd rfl h
  | [x], [y], _, _, _, _, h => by rw [show x = y from h]
  | [x], y :: z :: r, _, _, hp, _, h => (cut_free (hp x (.head _)) h).elim
  | x :: z :: r, [y], _, _, _, hq, h => (cut_free (hq y (.head _)) h.symm).elim
  | x :: z :: r, y :: w :: q, _, _, hp, hq, h => by
    obtain ⟨h1, h2⟩ := cut_eq (hp x (.head _)) (hq y (.head _)) h
    rw [h1, join_inj (ps := z :: r) (qs := w :: q) (by simp) (by simp) (fun p m => hp p (.tail _ m)) (fun p m => hq p (.tail _ m)) h2]
theorem split_ne (x y : Str) : Txt.split x y ≠ [] := by
  unfold Txt.split
  split
  · simp
  · split
    · simp
    · rw [StrLaws.partsBetween_eq]
      obtain ⟨p, r, e⟩ := StrLaws.partsFrom_ne x y.length 0 (Builtin.Str.occurrences x y 0 x.length (x.length + 1))
      rw [e]; simp
theorem T_split {c : Nat} {l : List Nat} {ps : List (List Nat)} (hl : l = joinL c ps) (hn : ps ≠ []) (hf : ∀ p ∈ ps, c ∉ p) : Txt.split (T l) (T [c]) = ps.map T := by
  rw [T_one]
  have e := StrLaws.join_split (T l) ⟨#[c]⟩
  have f := StrLaws.split_free (T l) c
  have e' : joinL c ((Txt.split (T l) ⟨#[c]⟩).map fun x => x.cps.toList) = joinL c ps := by
    rw [← join_T, e, T_cps, hl]
  have g := join_inj (by simp [split_ne]) hn (by
    intro p hp
    obtain ⟨x, hx, rfl⟩ := List.mem_map.mp hp
    exact f x hx) hf e'
  rw [← g, List.map_map]
  have : (T ∘ fun x : Str => x.cps.toList) = _root_.id := by funext x; exact (T_eta x).symm
  rw [this, List.map_id]
end Mine
end
section
set_option maxRecDepth 100000
namespace Mine
open PySem PyProof.Rows PySem.W PySem.Calls PySem.Builtin PySem.Builtin.Str
theorem body_1 (p c : Nat) : Txt.slice (T (bodyL p c)) none (some 1) = T [c] := by
  rw [T_slice 0 1 (by rw [bodyL_len]; rfl) (by rw [bodyL_len]; rfl) (by decide) (by rw [bodyL_len]; decide)]; rfl
theorem body_12 (p c : Nat) : Txt.slice (T (bodyL p c)) (some 1) (some 2) = T [c] := by
  rw [T_slice 1 2 (by rw [bodyL_len]; rfl) (by rw [bodyL_len]; rfl) (by decide) (by rw [bodyL_len]; decide)]; rfl
theorem body_2 (p c : Nat) : Txt.slice (T (bodyL p c)) (some 2) none = T (c :: (dl 8 p ++ [c])) := by
  rw [T_slice 2 12 (by rw [bodyL_len]; rfl) (by rw [bodyL_len]; rfl) (by decide) (by rw [bodyL_len]; decide)]
  rw [List.take_of_length_le (by rw [List.length_drop, bodyL_len]; decide)]
  rfl
/-! what parse229 asks of what stands between the brackets -/
structure Inner (i : List Nat) (c p : Nat) : Prop where
  len : 2 ≤ i.length
  le : i.length ≤ 40
  first : i[0]? = some c
  last : i[i.length - 1]? = some c
  off : 41 ∉ i
  cut : ∃ x y, Txt.split (T i) (T [c]) = [T [], T x, T y, T (dl 8 p), T []]
theorem dl_free {p c : Nat} (hc : c < 48 ∨ 57 < c) : c ∉ dl 8 p := fun h => hc.elim (fun l => absurd (dl_in 8 p c h).1 (Nat.not_le.mpr l)) fun l => absurd (dl_in 8 p c h).2 (Nat.not_le.mpr l)
theorem inner_of {f : Bool} {p c : Nat} (hc : c < 48 ∨ 57 < c) (hc' : c ≠ 46) (hc'' : c ≠ 41) : Inner (innerL f p c) c p := by
  have e8 : (dl 8 p).length = 8 := dl_len 8 p
  have h41 : (41 : Nat) ∉ dl 8 p := dl_free (by decide)
  have hcf : c ∉ dl 8 p := dl_free hc
  cases f with
  | false =>
    show Inner (bodyL p c) c p
    refine ⟨by rw [bodyL_len]; decide, by rw [bodyL_len]; decide, rfl, by rw [bodyL_len, bodyL_eq]; rfl, ?_, [], [], ?_⟩
    · unfold bodyL
      simp only [List.mem_cons, List.mem_append, List.not_mem_nil, or_false, not_or]
      exact ⟨Ne.symm hc'', Ne.symm hc'', Ne.symm hc'', h41, Ne.symm hc''⟩
    · rw [T_split (c := c) (l := bodyL p c) (ps := [[], [], [], dl 8 p, []]) rfl (by simp) (by
        simp only [List.forall_mem_cons, List.not_mem_nil, not_false_eq_true, true_and, false_implies, implies_true, and_true]
        exact hcf)]
      rfl
  | true =>
    show Inner (fullL p c) c p
    have hl : (fullL p c).length = 21 := by unfold fullL addrL; simp [e8]
    have ha : c ∉ addrL := fun h => by
      have q : ∀ x ∈ addrL, x = 46 ∨ (48 ≤ x ∧ x ≤ 57) := by decide
      rcases q c h with e | e
      · exact hc' e
      · exact hc.elim (fun l => absurd e.1 (Nat.not_le.mpr l)) fun l => absurd e.2 (Nat.not_le.mpr l)
    refine ⟨by rw [hl]; decide, by rw [hl]; decide, rfl, ?_, ?_, [49], addrL, ?_⟩
    · rw [hl]
      unfold fullL addrL
      rw [dl8]; rfl
    · unfold fullL
      simp only [List.mem_cons, List.mem_append, List.not_mem_nil, or_false, not_or]
      exact ⟨Ne.symm hc'', by decide, Ne.symm hc'', by decide, Ne.symm hc'', h41, Ne.symm hc''⟩
    · rw [T_split (c := c) (l := fullL p c) (ps := [[], [49], addrL, dl 8 p, []]) rfl (by simp) (by
        intro q hq
        rcases List.mem_cons.mp hq with rfl | hq
        · exact List.not_mem_nil
        rcases List.mem_cons.mp hq with rfl | hq
        · intro h; have := List.mem_singleton.mp h; omega
        rcases List.mem_cons.mp hq with rfl | hq
        · exact ha
        rcases List.mem_cons.mp hq with rfl | hq
        · exact hcf
        rw [List.mem_singleton.mp hq]; exact List.not_mem_nil)]
      rfl
theorem reply_len (i b : List Nat) : (replyL i b).length = 46 + i.length + b.length := by
  unfold replyL preL midL
  rw [List.length_append, List.length_append, List.length_append, List.length_append]
  show 40 - 1 + i.length + 6 + b.length + 1 = _
  rw [Nat.add_right_comm _ i.length 6, Nat.add_right_comm _ b.length 1, Nat.add_right_comm _ i.length 1]
theorem reply_3 (i b : List Nat) : Txt.slice (T (replyL i b)) none (some 3) = Str.ofString "229" := by
  have hl : 39 ≤ (replyL i b).length := by rw [reply_len]; exact Nat.le_trans (by decide) (Nat.le_trans (Nat.le_add_right (46 + 0) i.length) (Nat.le_add_right _ _))
  have hl3 := Nat.le_trans (by decide : 3 ≤ 39) hl
  rw [T_slice (lo := none) (hi := some 3) 0 3 rfl (clip_n _ hl3) (by decide) hl3]
  have e : List.take (3 - 0) (List.drop 0 (replyL i b)) = [50, 50, 57] := rfl
  rw [e]
  exact (lit_of (s := "229") (by decide +kernel)).symm
theorem reply_find (i b : List Nat) : Txt.find (T (replyL i b)) (Str.ofString "(") = 38 := by
  rw [lit_of (s := "(") (l := [40]) (by decide +kernel), find_is_find3]
  have := T_find3 (l0 := preL.take 38) (l1 := i ++ midL ++ b ++ [41]) (c := 40) 0 (by decide) (by decide)
  refine Eq.trans ?_ this
  have e : replyL i b = preL.take 38 ++ 40 :: (i ++ midL ++ b ++ [41]) := by
    unfold replyL
    simp only [List.append_assoc]
    rfl
  rw [e]; rfl
theorem reply_find2 {i b : List Nat} (h : 41 ∉ i) : Txt.find3 (T (replyL i b)) (Str.ofString ")") 39 = 39 + (i.length : Int) := by
  rw [lit_of (s := ")") (l := [41]) (by decide +kernel)]
  have := T_find3 (l0 := preL ++ i) (l1 := midL.drop 1 ++ b ++ [41]) (c := 41) 39 (by rw [List.length_append]; exact Nat.le_trans (by decide) (Nat.le_add_right _ _)) (by
    rw [List.drop_append_of_le_length (by decide)]
    exact h)
  have e : (((preL ++ i).length : Nat) : Int) = 39 + (i.length : Int) := by
    rw [List.length_append]; show ((39 + i.length : Nat) : Int) = _; omega
  rw [e] at this
  refine Eq.trans ?_ this
  have e : replyL i b = preL ++ i ++ 41 :: (midL.drop 1 ++ b ++ [41]) := by
    unfold replyL
    simp only [List.append_assoc]
    rfl
  rw [e]; rfl
theorem reply_at {i b : List Nat} {k c : Nat} (hk : i[k]? = some c) : (replyL i b)[39 + k]? = some c := by
  have hl : k < i.length := by
    rcases Nat.lt_or_ge k i.length with h | h
    · exact h
    · rw [List.getElem?_eq_none h] at hk; cases hk
  unfold replyL
  rw [List.append_assoc, List.append_assoc, List.append_assoc, List.getElem?_append_right (by show 39 ≤ 39 + k; omega), show 39 + k - preL.length = k by show 39 + k - 39 = k; omega, List.getElem?_append_left hl]
  exact hk
theorem reply_in {i b : List Nat} : Txt.slice (T (replyL i b)) (some 39) (some (39 + (i.length : Int))) = T i := by
  have hl : 39 + i.length ≤ (replyL i b).length := by rw [reply_len]; exact Nat.le_trans (Nat.add_le_add_right (by decide) _) (Nat.le_add_right _ _)
  rw [T_slice (lo := some 39) (hi := some (39 + (i.length : Int))) 39 (39 + i.length) (clip_n _ (Nat.le_trans (Nat.le_add_right _ _) hl)) (clip_n _ hl) (Nat.le_add_right _ _) hl]
  refine congrArg T ?_
  unfold replyL
  rw [List.append_assoc, List.append_assoc, List.append_assoc]
  show List.take (39 + i.length - 39) (i ++ (midL ++ (b ++ [41]))) = i
  rw [Nat.add_sub_cancel_left, List.take_left']
  rfl
theorem int_body {p : Nat} (h : p < 100000000) : PySem.intText? (T (dl 8 p)) = some (p : Int) := by
  have hd : NumText.AllDigits (T (dl 8 p)).cps.toList := by
    rw [T_cps]
    intro c hc
    exact dl_in 8 p c hc
  have e := intText_digits hd (by rw [T_cps, dl8]; exact fun h => nomatch h) (by rw [T_len, dl_len]; decide)
  have v : NumText.digitsVal (dl 8 p) = p := by
    unfold NumText.digitsVal
    rw [dl_val 8 p _ (fun n d _ => by omega)]
    exact Nat.mod_eq_of_lt h
  rw [e, T_cps]
  exact congrArg (fun n : Nat => some (n : Int)) v
end Mine
end
section
set_option Elab.async false
set_option maxRecDepth 100000
namespace Mine
open PySem PySem.W PySem.Calls PyProof.Rows

structure St5 where
  i : Int
  lc : Int
  pads : Int
  q : Int
  ti : Tok
  tl : Tok
  tp : Tok
  tq : Tok
  out : List Int
  us : List Value
  k : Nat

/-- what holds between two turns of a2b_base64's loop -/
abbrev A2BInv (l : Addr) (m₀ : Str → Option Value) (pre : List Int) : (Str → Option Value) → List (Addr × Obj) → Prop :=
  KstS (σ := St5) (fun c => [(l, W.listOf c.us.toArray c.k)]) (fun c => [("i", .int c.i c.ti), ("leftchar", .int c.lc c.tl), ("pads", .int c.pads c.tp), ("quad_pos", .int c.q c.tq)]) (fun c => IntsAre c.us c.out) "this_ch" [] m₀ (fun pre c => A2B pre c.i c.lc c.out c.pads c.q) pre

section
variable {prog : Program} {w : World} {A : Around} {E : Value → Shared → Prop} {s : Shared} {env : Env} {h₀ : Heap} {body : List Stmt} {Q : Flow → Shared → Prop}
theorem a2b_loop {b : Array UInt8} {tb : Tok} {l : Addr} {m₀ : Str → Option Value} {ti tl tp tq : Tok}
    (hh : A.handled = none) (F : Fr h₀ env.locals s.heap m₀) (N : News h₀ env.locals s.heap [(l, W.listOf #[] 0)])
    (hi : m₀ "i" = some (.int 0 ti)) (hl : m₀ "leftchar" = some (.int 0 tl)) (hp : m₀ "pads" = some (.int 0 tp)) (hq : m₀ "quad_pos" = some (.int 0 tq))
    (turn : ∀ (pre post : List Int) (n : Int) t i lc pads q ti tl tp tq out us k h tk own, KBw.bInts b = pre ++ n :: post → OwnOff own [l] → IntsAre us out → A2B pre i lc out pads q →
      Fr h₀ env.locals h (fun y => if y = "this_ch" then some (.int n t) else if y = "i" then some (.int i ti) else if y = "leftchar" then some (.int lc tl) else if y = "pads" then some (.int pads tp) else if y = "quad_pos" then some (.int q tq) else m₀ y) →
      News h₀ env.locals h ((l, W.listOf us.toArray k) :: own) →
      wpAny (model prog w) A (execs body env) (InvPostN h₀ env.locals (A2BInv l m₀ (pre ++ [n])) own [l] { s with heap := h, toks := tk } Q) E { s with heap := h, toks := tk })
    (done : ∀ (u : Option Value) i lc pads q ti tl tp tq out us k h tk, IntsAre us out → A2B (KBw.bInts b) i lc out pads q →
      Fr h₀ env.locals h (fun y => if y = "this_ch" then u else if y = "i" then some (.int i ti) else if y = "leftchar" then some (.int lc tl) else if y = "pads" then some (.int pads tp) else if y = "quad_pos" then some (.int q tq) else m₀ y) →
      News h₀ env.locals h [(l, W.listOf us.toArray k)] → Q .next { s with heap := h, toks := tk }) :
    wpAny (model prog w) A (pyIter (.bytes b tb)) (fun it s₂ => LoopAtV prog w A h₀ env "this_ch" body Q E it s₂) E s := by
  refine KStb.kst_bytes (σ := St5) (fun c => [(l, W.listOf c.us.toArray c.k)]) (fun c => [("i", .int c.i c.ti), ("leftchar", .int c.lc c.tl), ("pads", .int c.pads c.tp), ("quad_pos", .int c.q c.tq)]) (fun c => IntsAre c.us c.out) [] (fun pre c => A2B pre c.i c.lc c.out c.pads c.q) ⟨0, 0, 0, 0, ti, tl, tp, tq, [], [], 0⟩ rfl (KBw.ints_length b) hh F N IntsAre.nil ?_ A2B.start ?_ ?_
  · exact List.forall_mem_cons.mpr ⟨hi, List.forall_mem_cons.mpr ⟨hl, List.forall_mem_cons.mpr ⟨hp, List.forall_mem_cons.mpr ⟨hq, List.forall_mem_nil _⟩⟩⟩⟩
  · intro c pre post n t u h tk own kEq _ _ _ hoff hf hP kFr kNews
    exact turn pre post n t c.i c.lc c.pads c.q c.ti c.tl c.tp c.tq c.out c.us c.k h tk own kEq hoff hf hP kFr kNews
  · intro c u h tk _ hf hP kFr kNews
    refine done (u "this_ch") c.i c.lc c.pads c.q c.ti c.tl c.tp c.tq c.out c.us c.k h tk hf hP ?_ kNews
    have e : (fun y => if y = ("this_ch" : Str) then u "this_ch" else if y = "i" then some (.int c.i c.ti) else if y = "leftchar" then some (.int c.lc c.tl) else if y = "pads" then some (.int c.pads c.tp) else if y = "quad_pos" then some (.int c.q c.tq) else m₀ y) = (fun y => if y = ("this_ch" : Str) then u y else kstB (fun z => if ([] : List Str).contains z then u z else m₀ z) [("i", .int c.i c.ti), ("leftchar", .int c.lc c.tl), ("pads", .int c.pads c.tp), ("quad_pos", .int c.q c.tq)] y) := by
      funext y
      by_cases hy : y = ("this_ch" : Str)
      · rw [if_pos hy, if_pos hy, hy]
      · rw [if_neg hy, if_neg hy]; rfl
    rw [e]; exact kFr
theorem a2b_end {l : Addr} {m₀ m' : Str → Option Value} {pre : List Int} {L : Addr} {own news' : List (Addr × Obj)} {s₁ : Shared} {h' : Heap} {tk : Nat} {i lc pads q : Int} {ti tl tp tq : Tok} {out : List Int} {us : List Value} {k : Nat}
    (F : Fr h₀ L h' m') (N : News h₀ L h' news') (hn : (l, W.listOf us.toArray k) ∈ news') (ho : ∀ p ∈ own, p ∈ news') (hI : IntsAre us out)
    (hi : m' "i" = some (.int i ti)) (hl : m' "leftchar" = some (.int lc tl)) (hp : m' "pads" = some (.int pads tp)) (hq : m' "quad_pos" = some (.int q tq))
    (hr : ∀ z : Str, z ≠ ("this_ch" : Str) → z ≠ ("i" : Str) → z ≠ ("leftchar" : Str) → z ≠ ("pads" : Str) → z ≠ ("quad_pos" : Str) → m' z = m₀ z) (hA : A2B pre i lc out pads q) :
    InvEndN h₀ L (A2BInv l m₀ pre) own [l] s₁ { s₁ with heap := h', toks := tk } := by
  refine kst_end (⟨i, lc, pads, q, ti, tl, tp, tq, out, us, k⟩ : St5) F N (fun p hp' => by rw [List.mem_singleton.mp hp']; exact hn) ho rfl hI ?_ ?_ hA
  · exact List.forall_mem_cons.mpr ⟨hi, List.forall_mem_cons.mpr ⟨hl, List.forall_mem_cons.mpr ⟨hp, List.forall_mem_cons.mpr ⟨hq, List.forall_mem_nil _⟩⟩⟩⟩
  · intro z h1 h2 _
    have h3 := List.forall_mem_cons.mp h2
    have h4 := List.forall_mem_cons.mp h3.2
    have h5 := List.forall_mem_cons.mp h4.2
    have h6 := List.forall_mem_cons.mp h5.2
    exact hr z h1 h3.1 h4.1 h5.1 h6.1
theorem append_own {L l : Addr} {us : List Value} {k : Nat} {own : List (Addr × Obj)} {m : Str → Option Value} {x : Value} {Q : Value → Shared → Prop} (F : Fr h₀ L s.heap m) (N : News h₀ L s.heap ((l, W.listOf us.toArray k) :: own)) (ho : OwnOff own [l]) (hsz : us.length ≤ 4096)
    (h : ∀ h', Fr h₀ L h' m → News h₀ L h' ((l, W.listOf (us ++ [x]).toArray (k + 1)) :: own) → Q .none { s with heap := h' }) : wpAny (model prog w) A (call (.builtin "list.append") [.ref l, x]) Q E s := by
  refine append_K F N (Upd.head (ho.ne (List.mem_singleton.mpr rfl))) (fun h' F' N' => h h' F' ?_) (by show us.toArray.size ≤ sizeLine; rw [List.size_toArray, sizeLine_eq]; exact Nat.le_trans hsz (by decide))
  rw [← List.push_toArray]
  exact N'
theorem a2b_len {b : Array UInt8} {pre post : List Int} {n : Int} (e : KBw.bInts b = pre ++ n :: post) (h : b.size ≤ 100) : pre.length ≤ 4096 := by
  have := congrArg List.length e
  rw [KBw.ints_length, List.length_append] at this
  exact Nat.le_trans (Nat.le_add_right _ _) (Nat.le_trans (this ▸ h) (by decide))
end
end Mine
end
section
set_option Elab.async false
set_option maxRecDepth 100000
namespace Mine
open PySem PySem.W PySem.Calls PyProof.Rows
structure St3 where
  lb : Int
  lc : Int
  tb : Tok
  tl : Tok
  out : List Int
  us : List Value
  k : Nat
/-- what holds between two turns of b2a_base64's loop -/
abbrev B2AInv (l : Addr) (m₀ : Str → Option Value) (pre : List Int) : (Str → Option Value) → List (Addr × Obj) → Prop :=
  KstS (σ := St3) (fun c => [(l, W.listOf c.us.toArray c.k)]) (fun c => [("leftbits", .int c.lb c.tb), ("leftchar", .int c.lc c.tl)]) (fun c => IntsAre c.us c.out) "b" [] m₀ (fun pre c => B2A pre c.lb c.lc c.out) pre
section
variable {prog : Program} {w : World} {A : Around} {E : Value → Shared → Prop} {s : Shared} {env : Env} {h₀ : Heap} {body : List Stmt} {Q : Flow → Shared → Prop}
theorem b2a_loop {b : Array UInt8} {ty : Tok} {l : Addr} {m₀ : Str → Option Value} {tb tl : Tok}
    (hh : A.handled = none) (F : Fr h₀ env.locals s.heap m₀) (N : News h₀ env.locals s.heap [(l, W.listOf #[] 0)])
    (hb : m₀ "leftbits" = some (.int 0 tb)) (hl : m₀ "leftchar" = some (.int 0 tl))
    (turn : ∀ (pre post : List Int) (n : Int) t lb lc tb tl out us k h tk own, KBw.bInts b = pre ++ n :: post → 0 ≤ n → n < 256 → OwnOff own [l] → IntsAre us out → B2A pre lb lc out →
      Fr h₀ env.locals h (fun y => if y = "b" then some (.int n t) else if y = "leftbits" then some (.int lb tb) else if y = "leftchar" then some (.int lc tl) else m₀ y) →
      News h₀ env.locals h ((l, W.listOf us.toArray k) :: own) →
      wpAny (model prog w) A (execs body env) (InvPostN h₀ env.locals (B2AInv l m₀ (pre ++ [n])) own [l] { s with heap := h, toks := tk } Q) E { s with heap := h, toks := tk })
    (done : ∀ (u : Option Value) lb lc tb tl out us k h tk, IntsAre us out → B2A (KBw.bInts b) lb lc out →
      Fr h₀ env.locals h (fun y => if y = "b" then u else if y = "leftbits" then some (.int lb tb) else if y = "leftchar" then some (.int lc tl) else m₀ y) →
      News h₀ env.locals h [(l, W.listOf us.toArray k)] → Q .next { s with heap := h, toks := tk }) :
    wpAny (model prog w) A (pyIter (.bytes b ty)) (fun it s₂ => LoopAtV prog w A h₀ env "b" body Q E it s₂) E s := by
  refine KStb.kst_bytes (σ := St3) (fun c => [(l, W.listOf c.us.toArray c.k)]) (fun c => [("leftbits", .int c.lb c.tb), ("leftchar", .int c.lc c.tl)]) (fun c => IntsAre c.us c.out) [] (fun pre c => B2A pre c.lb c.lc c.out) ⟨0, 0, tb, tl, [], [], 0⟩ rfl (KBw.ints_length b) hh F N IntsAre.nil ?_ B2A.start ?_ ?_
  · exact List.forall_mem_cons.mpr ⟨hb, List.forall_mem_cons.mpr ⟨hl, List.forall_mem_nil _⟩⟩
  · intro c pre post n t u h tk own kEq _ hlo hhi hoff hf hP kFr kNews
    exact turn pre post n t c.lb c.lc c.tb c.tl c.out c.us c.k h tk own kEq hlo hhi hoff hf hP kFr kNews
  · intro c u h tk _ hf hP kFr kNews
    refine done (u "b") c.lb c.lc c.tb c.tl c.out c.us c.k h tk hf hP ?_ kNews
    have e : (fun y => if y = ("b" : Str) then u "b" else if y = "leftbits" then some (.int c.lb c.tb) else if y = "leftchar" then some (.int c.lc c.tl) else m₀ y) = (fun y => if y = ("b" : Str) then u y else kstB (fun z => if ([] : List Str).contains z then u z else m₀ z) [("leftbits", .int c.lb c.tb), ("leftchar", .int c.lc c.tl)] y) := by
      funext y
      by_cases hy : y = ("b" : Str)
      · rw [if_pos hy, if_pos hy, hy]
      · rw [if_neg hy, if_neg hy]; rfl
    rw [e]; exact kFr
theorem b2a_end {l : Addr} {m₀ m' : Str → Option Value} {pre : List Int} {L : Addr} {own news' : List (Addr × Obj)} {s₁ : Shared} {h' : Heap} {tk : Nat} {lb lc : Int} {tb tl : Tok} {out : List Int} {us : List Value} {k : Nat}
    (F : Fr h₀ L h' m') (N : News h₀ L h' news') (hn : (l, W.listOf us.toArray k) ∈ news') (ho : ∀ p ∈ own, p ∈ news') (hI : IntsAre us out)
    (hb : m' "leftbits" = some (.int lb tb)) (hl : m' "leftchar" = some (.int lc tl))
    (hr : ∀ z : Str, z ≠ ("b" : Str) → z ≠ ("leftbits" : Str) → z ≠ ("leftchar" : Str) → m' z = m₀ z) (hA : B2A pre lb lc out) :
    InvEndN h₀ L (B2AInv l m₀ pre) own [l] s₁ { s₁ with heap := h', toks := tk } := by
  refine kst_end (⟨lb, lc, tb, tl, out, us, k⟩ : St3) F N (fun p hp' => by rw [List.mem_singleton.mp hp']; exact hn) ho rfl hI ?_ ?_ hA
  · exact List.forall_mem_cons.mpr ⟨hb, List.forall_mem_cons.mpr ⟨hl, List.forall_mem_nil _⟩⟩
  · intro z h1 h2 _
    have h3 := List.forall_mem_cons.mp h2
    have h4 := List.forall_mem_cons.mp h3.2
    exact hr z h1 h3.1 h4.1
end
end Mine
end
section
set_option Elab.async false
set_option maxRecDepth 100000
namespace Mine
open PySem PySem.W PySem.Calls PyProof.Rows
section
variable {prog : Program} {w : World} {A : Around} {E : Value → Shared → Prop} {s : Shared}
theorem b64_item {X : Int} {t ui : Tok} {value slice : PySem.Expr} {Q : Value → Shared → Prop}
    (h : Q (.int (b64c (Builtin.bitAnd X 63)) s.toks) { s with toks := s.toks + 1 })
    (hs : subscripted slice false (.bytes b64tab.toArray t) (.int (Builtin.bitAnd X 63) ui) = operate [.bytes b64tab.toArray t, .int (Builtin.bitAnd X 63) ui] (getItem (.bytes b64tab.toArray t) (.int (Builtin.bitAnd X 63) ui)) := by with_unfolding_all rfl)
    (ht : ∀ r, letTemporaryGo value (.bytes b64tab.toArray t) r = pure () := by intro _; with_unfolding_all rfl) : wpAny (model prog w) A (subscriptTail value slice (.bytes b64tab.toArray t) (.int (Builtin.bitAnd X 63) ui)) Q E s := by
  have hr := bitAnd_range X (y := 63) (by decide)
  refine bytes_item_K (x := b64tab) (by decide) hr.1 (Int.lt_of_le_of_lt hr.2 (by decide)) rfl ?_ hs ht
  unfold b64c at h
  exact h
end
theorem b2a_len {b : Array UInt8} {pre post : List Int} {n : Int} (e : KBw.bInts b = pre ++ n :: post) (h : b.size ≤ 100) : pre.length ≤ 100 := by
  have := congrArg List.length e
  rw [KBw.ints_length, List.length_append] at this
  exact Nat.le_trans (Nat.le_add_right _ _) (this ▸ h)
section
variable {pre : List Int} {lc n : Int} {out : List Int}
theorem b64c_in (i : Int) : 0 ≤ b64c i ∧ b64c i < 256 := by
  unfold b64c
  exact ⟨Int.natCast_nonneg _, Int.ofNat_lt.mpr (b64tab.getD i.toNat 0).toNat_lt⟩
theorem B2A.len2 {lb : Int} (h : B2A pre lb lc out) : out.length + 2 ≤ 2 * (pre ++ [n]).length := by
  rw [List.length_append, List.length_singleton, Nat.mul_add]; exact Nat.add_le_add_right h.len 2
theorem B2A.len1 {lb x : Int} (h : B2A pre lb lc out) : (out ++ [x]).length ≤ 2 * (pre ++ [n]).length := by
  rw [List.length_append]; exact Nat.le_trans (Nat.add_le_add_left (by decide : 1 ≤ 2) _) h.len2
theorem B2A.s0 (h : B2A pre 0 lc out) (h0 : 0 ≤ n) (h1 : n < 256) : B2A (pre ++ [n]) 2 (Builtin.bitAnd (Builtin.bitOr (lc * 2 ^ Int.toNat 8) n) 65535) (out ++ [b64c (Builtin.bitAnd ((Builtin.bitAnd (Builtin.bitOr (lc * 2 ^ Int.toNat 8) n) 65535).fdiv (2 ^ Int.toNat 2)) 63)]) := by
  rw [b2a_lc h.llo h0 h1, bitAnd_m6, Int.fdiv_eq_ediv_of_nonneg _ (by decide)]
  refine ⟨?_, .inr (.inl rfl), Int.emod_nonneg _ (by decide), Int.emod_lt_of_pos _ (by decide), h.len1⟩
  rw [encSt_snoc, h.enc]; unfold encStep; rw [if_pos rfl]; rfl
theorem B2A.s2 (h : B2A pre 2 lc out) (h0 : 0 ≤ n) (h1 : n < 256) : B2A (pre ++ [n]) 4 (Builtin.bitAnd (Builtin.bitOr (lc * 2 ^ Int.toNat 8) n) 65535) (out ++ [b64c (Builtin.bitAnd ((Builtin.bitAnd (Builtin.bitOr (lc * 2 ^ Int.toNat 8) n) 65535).fdiv (2 ^ Int.toNat 4)) 63)]) := by
  rw [b2a_lc h.llo h0 h1, bitAnd_m6, Int.fdiv_eq_ediv_of_nonneg _ (by decide)]
  refine ⟨?_, .inr (.inr rfl), Int.emod_nonneg _ (by decide), Int.emod_lt_of_pos _ (by decide), h.len1⟩
  rw [encSt_snoc, h.enc]; unfold encStep; rw [if_neg (show ¬ (2 : Int) = 0 by decide), if_pos rfl]; rfl
theorem B2A.s4 (h : B2A pre 4 lc out) (h0 : 0 ≤ n) (h1 : n < 256) : B2A (pre ++ [n]) 0 (Builtin.bitAnd (Builtin.bitOr (lc * 2 ^ Int.toNat 8) n) 65535) ((out ++ [b64c (Builtin.bitAnd ((Builtin.bitAnd (Builtin.bitOr (lc * 2 ^ Int.toNat 8) n) 65535).fdiv (2 ^ Int.toNat 6)) 63)]) ++ [b64c (Builtin.bitAnd ((Builtin.bitAnd (Builtin.bitOr (lc * 2 ^ Int.toNat 8) n) 65535).fdiv (2 ^ Int.toNat 0)) 63)]) := by
  rw [b2a_lc h.llo h0 h1, bitAnd_m6, bitAnd_m6, Int.fdiv_eq_ediv_of_nonneg _ (by decide), Int.fdiv_eq_ediv_of_nonneg _ (by decide)]
  refine ⟨?_, .inl rfl, Int.emod_nonneg _ (by decide), Int.emod_lt_of_pos _ (by decide), by rw [List.append_assoc, List.length_append]; exact h.len2⟩
  rw [encSt_snoc, h.enc]; unfold encStep; rw [if_neg (show ¬ (4 : Int) = 0 by decide), if_neg (show ¬ (4 : Int) = 2 by decide)]
  have e : (2 : Int) ^ Int.toNat 0 = 1 := rfl
  rw [e, Int.ediv_one]; rfl
end
end Mine
end
section
set_option Elab.async false
set_option maxRecDepth 100000
namespace Mine
open PySem PySem.W PySem.Calls PyProof.Rows

theorem enterS {prog : Program} {w : World} {A₀ A : Around} {s : Shared} {K : Frag} {L : Addr} {h₀ base : Heap} {m mg mb : Str → Option Value} {p : Program} {loose : List Str} {mean : ExcName → Option Value}
    {env : Env} {outer : List Env} {R : Result → Shared → Prop} {name qual : Str} {params : Arguments} {body : List Stmt} {scope : Scope} {dV kV doc pm cdv ct oc : Value} {an od : Option Addr} {osl : Array (Option Value)} {f : Addr} {args : Args} (binds : List (Str × Value))
    (B : Below A₀ base outer h₀) (F : Fr h₀ L s.heap m) (X₀ : K.In h₀) (T : Top p loose mean mg mb h₀) (hA : A.frames = some (env :: outer)) (hf : env.frame = some L) (hke : env.scope.kind = .function)
    (ho : K.lookup f = some ⟨oc, od, .func (fnOf name qual params body scope dV kV doc pm an cdv ct), osl⟩) (hcd : codeIn K cdv qual = true) (hroom : A.depth < recursionLimit)
    (hbind : BindsTo s (fnOf name qual params body scope dV kV doc pm an cdv ct) args binds) (hloc : ∀ y ∈ binds, scope.names.lookup y.1 = some .local)
    (h : ∀ L' h₁, Fr s.heap L' h₁ (fun y => binds.reverse.lookup y) → News s.heap L' h₁ [] → Below A base (env :: outer) s.heap → K.In s.heap → Top p loose mean mg mb s.heap →
      wpAny (model prog w) (A.deeper (envOf qual scope L' f cdv)) (execs body (envOf qual scope L' f cdv))
        (fun fl s' => R (.ok (.ret (match fl with | .ret v => v | _ => .none))) s')
        (fun e s' => wpAny (model prog w) (A.deeper (envOf qual scope L' f cdv)) (leaving (envOf qual scope L' f cdv) e) (fun _ s'' => R (.error e) s'') (fun e' s'' => R (.error e') s'') s')
        { s with heap := h₁, toks := s.toks + binds.length })
    (hco : scope.isCoroutine = false) (hgen : scope.isGenerator = false) (hk : scope.kind = .function)
    (hcell : ∀ x ∈ scope.names, x.2 ≠ .cell) : codeAny (model prog w) A (.call (.ref f) args) R s := by
  have X := X₀.keeps F.keep
  have T' := T.keeps F.keep
  have B₁ := pushX B F hf hke
  refine codeAny_call_def (fd := fnOf name qual params body scope dV kV doc pm an cdv ct) (body := body) (binds := binds) hroom (X _ _ ho) rfl T'.nolimit (codeRec_of X hcd) rfl hbind hcell hloc (fun h₁ hns hk₁ => ?_) hco hgen hk
  exact h s.heap.objs.size h₁ ⟨hns, hk₁, Nat.le_refl _⟩ News.nil ⟨hA, B₁.stays, B₁.frames⟩ X T'

/-- what holds where a def of the text is called -/
structure At (w : World) (loose : List Str) (mean : ExcName → Option Value) (mg mb : Str → Option Value) (dp un : Nat) (cs : Scope) (L : Addr) (outer : List Env) (s : Shared) (n : Nat) : Prop where
  ex : ∃ qv A₀ base h₀ m, Below A₀ base outer h₀ ∧ Fr h₀ L s.heap m ∧ (Mine.kk.heap_1 w.params).In h₀ ∧ Top qv loose mean mg mb h₀
  fn : cs.kind = .function
  room : dp + n < recursionLimit
  units : un + 8 * n + 8 < cLine

/-- a def that leaves all that stood as it stood: its call, from any frame -/
def Does (w : World) (loose : List Str) (mean : ExcName → Option Value) (mg mb : Str → Option Value) (n : Nat) (f : Addr) (vs : List Value) (kw : List (Str × Value)) (pre : Heap → Prop) (R : Tok → Value) : Prop :=
  ∀ (dp un : Nat) (gd : Option (List Code)) (cn : Str) (cs : Scope) (L a : Addr) (ccd : Value) (cl : List (Str × Addr)) (outer : List Env) (s : Shared) (Q E : Value → Shared → Prop),
    At w loose mean mg mb dp un cs L outer s n → pre s.heap →
    (∀ t h' tk', s.heap.StaysIn h' → Q (R t) { s with heap := h', toks := tk' }) →
    wpAny (model PySem.Challenge.rw_qh0047_01.row.prog w) (ktrTop dp un gd cn cs L a ccd cl outer) (call (.ref f) vs kw) Q E s

theorem fr_stays {h₀ h h' : Heap} {L : Addr} {m : Str → Option Value} (F : Fr h₀ L h m) (k : h.StaysIn h') : Fr h₀ L h' m :=
  ⟨F.ns.keeps k, fun b o e => k b o (F.keep b o e), F.above⟩
theorem news_stays {h₀ h h' : Heap} {L : Addr} {news : List (Addr × Obj)} (N : News h₀ L h news) (k : h.StaysIn h') : News h₀ L h' news :=
  fun p hp => ⟨k _ _ (N p hp).1, (N p hp).2⟩

theorem does_use {w : World} {loose : List Str} {mean : ExcName → Option Value} {mg mb : Str → Option Value} {n : Nat} {f : Addr} {vs : List Value} {kw : List (Str × Value)} {pre : Heap → Prop} {R : Tok → Value}
    {dp un : Nat} {gd : Option (List Code)} {cn : Str} {cs : Scope} {L a : Addr} {ccd : Value} {cl : List (Str × Addr)} {outer : List Env} {s : Shared} {Q E : Value → Shared → Prop} {qv : Program} {A₀ : Around} {base h₀ : Heap} {m : Str → Option Value} {news : List (Addr × Obj)}
    (D : Does w loose mean mg mb n f vs kw pre R) (B : Below A₀ base outer h₀) (F : Fr h₀ L s.heap m) (X : (Mine.kk.heap_1 w.params).In h₀) (N : News h₀ L s.heap news) (T : Top qv loose mean mg mb h₀)
    (hk : cs.kind = .function) (hd : dp + n < recursionLimit) (hu : un + 8 * n + 8 < cLine) (hp : pre s.heap)
    (h : ∀ t h' tk', Fr h₀ L h' m → News h₀ L h' news → Q (R t) { s with heap := h', toks := tk' }) :
    wpAny (model PySem.Challenge.rw_qh0047_01.row.prog w) (ktrTop dp un gd cn cs L a ccd cl outer) (call (.ref f) vs kw) Q E s :=
  D _ _ _ _ _ _ _ _ _ _ _ _ _ ⟨⟨qv, A₀, base, h₀, m, B, F, X, T⟩, hk, hd, hu⟩ hp fun t h' tk' k => h t h' tk' (fr_stays F k) (news_stays N k)

end Mine
end
section
set_option Elab.async false
set_option maxRecDepth 100000
set_option maxHeartbeats 1000000
namespace Mine
open PySem PySem.W PySem.Calls PyProof.Rows
theorem does_ones {w : World} {loose : List Str} {mean : ExcName → Option Value} {mg mb : Str → Option Value} : Does w loose mean mg mb 1 162 [] [] (fun _ => True) (fun t => .int 4467856773185 t) := by
  k_with_none
  k_with "mine fill" => (have hfill : (PySem.Challenge.rw_qh0047_01 = PySem.Challenge.rw_qh0047_01 ∧ Mine.kk.heap_1 = Mine.kk.heap_1) := by (k_fill; exact ⟨rfl, rfl⟩))
  k_with "mine rest" => ((case kA => exact rfl); (case kF => exact rfl); (case kK => assumption); (case k1 => k_asm); (case k2 => k_asm); (case k3 => k_asm); (case k5 => k_asm); (case k6 => k_is); (case k7 => k_is); (case k8 => ktr_room); (case k9 => exact BindsTo.of_eq rfl); (case c5 => decide); (case kB => exact locs rfl); (case c2 => exact rfl); (case c3 => exact rfl); (case c4 => exact rfl); k_whole; intro L' h' F' N' B' X' T'; (try dsimp only [List.reverse_cons, List.reverse_nil, List.nil_append, List.cons_append] at F'); (try dsimp only); (try k_lift B'); (try k_fold))
  walk_at "mine fill"
  unfold Does
  intro dp un gd cn cs L a ccd cl outer s Q E ⟨⟨qv, A₀, base, h₀, m, B, F, X, T⟩, hk, hd, hu⟩ hp hret
  refine wpAny_call ?_
  k_dflt refine' enterS [] ?k1 ?k2 ?k3 ?k5 ?kA ?kF ?kK ?k6 ?k7 ?k8 ?k9 ?kB ?_ ?c2 ?c3 ?c4 ?c5
  k_dflt walk_at "mine rest"
  k_steps
  all_goals exact hret _ _ _ (Fr.keep (by assumption))
theorem does_frame {w : World} {loose : List Str} {mean : ExcName → Option Value} {mg mb : Str → Option Value} : Does w loose mean mg mb 1 169 [] [] (fun _ => True) (fun t => .int 4722348468471135731775 t) := by
  k_with "call ref" => ktr_call (does_use does_ones) (by trivial)
  unfold Does
  intro dp un gd cn cs L a ccd cl outer s Q E ⟨⟨qv, A₀, base, h₀, m, B, F, X, T⟩, hk, hd, hu⟩ hp hret
  refine wpAny_call ?_
  k_dflt refine' enterS [] ?k1 ?k2 ?k3 ?k5 ?kA ?kF ?kK ?k6 ?k7 ?k8 ?k9 ?kB ?_ ?c2 ?c3 ?c4 ?c5
  k_dflt walk_at "mine rest"
  k_steps
  all_goals exact hret _ _ _ (Fr.keep (by assumption))
end Mine

-- REST: 1
end
section
set_option Elab.async false
set_option maxRecDepth 100000
set_option maxHeartbeats 1000000
namespace Mine
open PySem PySem.W PySem.Calls PyProof.Rows
theorem q_end {Q : Value → Shared → Prop} {v v' : Value} {s : Shared} (h : Q v' s) (e : v = v') : Q v s := e ▸ h
theorem does_sumRaw {w : World} {loose : List Str} {mean : ExcName → Option Value} {mg mb : Str → Option Value} {x y : Int} {tx ty : Tok} : Does w loose mean mg mb 2 202 [.int x tx, .int y ty] [] (fun _ => 0 ≤ x ∧ x < 64 ^ 8 ∧ 0 ≤ y ∧ y < 64 ^ 8) (fun t => .int (rawSum x y) t) := by
  k_with_none
  k_with "mine fill" => (have hfill : (PySem.Challenge.rw_qh0047_01 = PySem.Challenge.rw_qh0047_01 ∧ Mine.kk.heap_1 = Mine.kk.heap_1) := by (k_fill; exact ⟨rfl, rfl⟩))
  k_with "mine rest" => ((case kA => exact rfl); (case kF => exact rfl); (case kK => assumption); (case k1 => k_asm); (case k2 => k_asm); (case k3 => k_asm); (case k5 => k_asm); (case k6 => k_is); (case k7 => k_is); (case k8 => ktr_room); (case k9 => exact BindsTo.of_eq rfl); (case c5 => decide); (case kB => exact locs rfl); (case c2 => exact rfl); (case c3 => exact rfl); (case c4 => exact rfl); k_whole; intro L' h' F' N' B' X' T'; (try dsimp only [List.reverse_cons, List.reverse_nil, List.nil_append, List.cons_append] at F'); (try dsimp only); (try k_lift B'); (try k_fold))
  k_with "call ref" => ktr_call (does_use does_ones) (by trivial)
  k_with "call ref" => ktr_call (does_use does_frame) (by trivial)
  walk_at "mine fill"
  unfold Does
  intro dp un gd cn cs L a ccd cl outer s Q E ⟨⟨qv, A₀, base, h₀, m, B, F, X, T⟩, hk, hd, hu⟩ hp hret
  obtain ⟨hx0, hx1, hy0, hy1⟩ := hp
  refine wpAny_call ?_
  k_dflt refine' enterS [("one", .int x tx), ("two", .int y ty)] ?k1 ?k2 ?k3 ?k5 ?kA ?kF ?kK ?k6 ?k7 ?k8 ?k9 ?kB ?_ ?c2 ?c3 ?c4 ?c5
  k_dflt walk_at "mine rest"
  k_steps
  all_goals exact q_end (hret _ _ _ (Fr.keep (by assumption))) (by unfold rawSum; rfl)
theorem does_plain {w : World} {loose : List Str} {mean : ExcName → Option Value} {mg mb : Str → Option Value} {x way port : Nat} {d : Addr} {tx t1 t2 : Tok} : Does w loose mean mg mb 2 216 [.int (x : Int) tx, .ref d] [] (fun h => IsTup h d #[.int (way : Int) t1, .int (port : Int) t2] ∧ x < 100000000 ∧ way < 4 ∧ port < 100000000) (fun t => .int (stepN x way port : Nat) t) := by
  unfold Does
  intro dp un gd cn cs L a ccd cl outer s Q E ⟨⟨qv, A₀, base, h₀, m, B, F, X, T⟩, hk, hd, hu⟩ hp hret
  obtain ⟨hp, hx, hw, hq⟩ := hp
  refine wpAny_call ?_
  k_dflt refine' enterS [("number", .int x tx), ("deed", .ref d)] ?k1 ?k2 ?k3 ?k5 ?kA ?kF ?kK ?k6 ?k7 ?k8 ?k9 ?kB ?_ ?c2 ?c3 ?c4 ?c5
  k_dflt walk_at "mine rest"
  k_steps
  all_goals (try dsimp only)
  all_goals first
    | exact q_end (hret _ _ _ (Fr.keep (by assumption))) (congrArg (fun i => Value.int i _) (plain0 (by assumption)))
    | exact q_end (hret _ _ _ (Fr.keep (by assumption))) (congrArg (fun i => Value.int i _) (plain1 hx hq (by assumption)))
    | exact q_end (hret _ _ _ (Fr.keep (by assumption))) (congrArg (fun i => Value.int i _) (plain2 (by assumption)))
    | exact q_end (hret _ _ _ (Fr.keep (by assumption))) (congrArg (fun i => Value.int i _) (plain3 hx hq hw (by assumption) (by assumption) (by assumption)))

end Mine
end
section
set_option Elab.async false
set_option maxRecDepth 100000
set_option maxHeartbeats 1000000
namespace Mine
open PySem PySem.W PySem.Calls PyProof.Rows
theorem enterSC {prog : Program} {w : World} {A₀ A : Around} {s : Shared} {K : Frag} {L : Addr} {h₀ base : Heap} {m mg mb : Str → Option Value} {p : Program} {loose : List Str} {mean : ExcName → Option Value}
    {env : Env} {outer : List Env} {R : Result → Shared → Prop} {name qual : Str} {params : Arguments} {body : List Stmt} {scope : Scope} {dV kV doc pm cdv ct oc : Value} {an od : Option Addr} {osl : Array (Option Value)} {f : Addr} {args : Args} (binds : List (Str × Value))
    (B : Below A₀ base outer h₀) (F : Fr h₀ L s.heap m) (X₀ : K.In h₀) (T : Top p loose mean mg mb h₀) (hA : A.frames = some (env :: outer)) (hf : env.frame = some L) (hke : env.scope.kind = .function)
    (ho : K.lookup f = some ⟨oc, od, .func (fnOf name qual params body scope dV kV doc pm an cdv ct), osl⟩) (hcd : codeIn K cdv qual = true) (hroom : A.depth < recursionLimit)
    (hbind : BindsTo s (fnOf name qual params body scope dV kV doc pm an cdv ct) args binds) (hkind : (binds.all fun y => scope.names.lookup y.1 == some .local || scope.names.lookup y.1 == some .cell) = true)
    (hnd : ((cellsFrom 0 scope.names []).map (·.1)).Nodup)
    (h : ∀ L' h₁ tk cells, Fr s.heap L' h₁ (bindL (envOfC qual scope L' f cdv).kindOf binds fun _ => none) → News s.heap L' h₁ cells →
      CellsAre (bindC (envOfC qual scope L' f cdv).kindOf binds fun _ => none) (cellsFrom (L' + 1) scope.names []) cells → Below A base (env :: outer) s.heap → K.In s.heap → Top p loose mean mg mb s.heap →
      wpAny (model prog w) (A.deeper (envOfC qual scope L' f cdv)) (execs body (envOfC qual scope L' f cdv))
        (fun fl s' => R (.ok (.ret (match fl with | .ret v => v | _ => .none))) s')
        (fun e s' => wpAny (model prog w) (A.deeper (envOfC qual scope L' f cdv)) (leaving (envOfC qual scope L' f cdv) e) (fun _ s'' => R (.error e) s'') (fun e' s'' => R (.error e') s'') s')
        { s with heap := h₁, toks := tk })
    (hco : scope.isCoroutine = false) (hgen : scope.isGenerator = false) (hk : scope.kind = .function) : codeAny (model prog w) A (.call (.ref f) args) R s := by
  k_with_none
  k_with "mine fill" => (have hfill : (PySem.Challenge.rw_qh0047_01 = PySem.Challenge.rw_qh0047_01 ∧ Mine.kk.heap_1 = Mine.kk.heap_1) := by (k_fill; exact ⟨rfl, rfl⟩))
  k_with "mine rest" => ((case kA => exact rfl); (case kF => exact rfl); (case kK => assumption); (case k1 => k_asm); (case k2 => k_asm); (case k3 => k_asm); (case k5 => k_asm); (case k6 => k_is); (case k7 => k_is); (case k8 => ktr_room); (case k9 => exact BindsTo.of_eq rfl); (case c5 => decide); (case kB => exact locs rfl); (case c2 => exact rfl); (case c3 => exact rfl); (case c4 => exact rfl); k_whole; intro L' h' F' N' B' X' T'; (try dsimp only [List.reverse_cons, List.reverse_nil, List.nil_append, List.cons_append] at F'); (try dsimp only); (try k_lift B'); (try k_fold))
  k_with "call ref" => ktr_call (does_use does_ones) (by trivial)
  k_with "call ref" => ktr_call (does_use does_frame) (by trivial)
  have X := X₀.keeps F.keep
  have T' := T.keeps F.keep
  have B₁ := pushX B F hf hke
  refine codeAny_call_function hroom (X _ _ ho) rfl hco hgen rfl (codeRec_of X hcd) (hbind _ _ _ _ ?_)
  refine wpAny_newFunctionEnv_cells hk (kindsX hkind _) fun env' he s' x => ?_
  subst he
  refine ⟨T'.nolimit.keeps x.toInCall.keep, codeAny_func ?_⟩
  obtain ⟨h₁, tk, rfl, _⟩ := x.done
  have hk₁ := x.toInCall.keep
  obtain ⟨cells, NC, Y⟩ := Cl.news (h₀ := s.heap) (Nat.le_refl _) fun n c hm => ⟨x.cell n c (lookup_of_mem_nodup (cellsFrom_names scope.names 0 (s.heap.objs.size + 1) [] [] rfl ▸ hnd) hm), x.above n c hm⟩
  exact h s.heap.objs.size h₁ tk cells ⟨x.toInCall.ns, hk₁, Nat.le_refl _⟩ NC Y ⟨hA, B₁.stays, B₁.frames⟩ X T'

def fold256 (l : List Int) : Int := l.foldl (fun n x => 256 * n + x) 0
theorem fold256_snoc (l : List Int) (x : Int) : fold256 (l ++ [x]) = 256 * fold256 l + x := by unfold fold256; rw [List.foldl_append]; rfl
theorem fold256_turn {l : List Int} {x n : Int} (h : n = fold256 l) : 256 * n + x = fold256 (l ++ [x]) := by rw [fold256_snoc, h]
theorem digits_end {x y : Int} {t : Tok} (h : x = y) : Value.int ((x - 4722348468471135731775).fdiv 64 - 52 * 4467856773185) t = Value.int ((y - 4722348468471135731775).fdiv 64 - 52 * 4467856773185) t := by rw [h]
theorem does_digitsRaw {w : World} {loose : List Str} {mean : ExcName → Option Value} {mg mb : Str → Option Value} {b : Array UInt8} {tx : Tok} : Does w loose mean mg mb 2 190 [.bytes b tx] [] (fun h => b.size = 9) (fun t => .int ((fold256 (KBw.bInts b) - 4722348468471135731775).fdiv 64 - 52 * 4467856773185) t) := by
  k_with "mine restC" => ((case kA => exact rfl); (case kF => exact rfl); (case kK => assumption); (case k1 => k_asm); (case k2 => k_asm); (case k3 => k_asm); (case k5 => k_asm); (case k6 => k_is); (case k7 => k_is); (case k8 => ktr_room); (case k9 => exact BindsTo.of_eq rfl); (case kB => exact rfl); (case kD => decide +kernel); (case c2 => exact rfl); (case c3 => exact rfl); (case c4 => exact rfl); k_whole; intro L' h' tk' cells' F' N' Y' B' X' T'; k_cells Y'; (try dsimp only); (try k_lift B'); (try k_fold))
  walk_at "mine fill"
  unfold Does
  intro dp un gd cn cs L a ccd cl outer s Q E ⟨⟨qv, A₀, base, h₀, m, B, F, X, T⟩, hk, hd, hu⟩ hp hret
  refine wpAny_call ?_
  k_dflt refine' enterS [("octets", .bytes b tx)] ?k1 ?k2 ?k3 ?k5 ?kA ?kF ?kK ?k6 ?k7 ?k8 ?k9 ?kB ?_ ?c2 ?c3 ?c4 ?c5
  k_dflt walk_at "mine rest"
  (k_with "pyIter bytes" => k_state (fun pre number => number = fold256 pre) "number")
  (k_with "state" => first | exact fold256_turn (by assumption) | exact rfl)
  k_steps
  all_goals (try dsimp only)
  all_goals exact q_end (hret _ _ _ (Fr.keep (by assumption))) (digits_end (by assumption))
theorem fold_oct (p : Nat) : fold256 (KBw.bInts (oct p)) = (num p : Int) := by
  have e : ∀ l : List Nat, (∀ x ∈ l, x < 256) → ∀ n : Nat, (l.map fun x => ((x.toUInt8.toNat : Nat) : Int)).foldl (fun n x => 256 * n + x) (n : Int) = ((l.foldl (fun n x => 256 * n + x) n : Nat) : Int) := by
    intro l
    induction l with
    | nil => intro _ n; rfl
    | cons x r ih =>
      intro h n
      have hx : x < 256 := h x (.head _)
      have h1 : x.toUInt8.toNat = x := by show x % 256 = x; omega
      rw [List.map_cons, List.foldl_cons, List.foldl_cons, h1, show (256 * (n : Int) + (x : Int)) = ((256 * n + x : Nat) : Int) from by omega]
      exact ih (fun y hy => h y (.tail _ hy)) _
  have h := e (octL p) (octL_lt p) 0
  rw [oct_back] at h
  rw [← h]
  unfold fold256 oct KBw.bInts
  simp only [List.map_map]
  rfl
theorem oct_size (p : Nat) : (oct p).size = 9 := by unfold oct octL; rfl
theorem does_digits {w : World} {loose : List Str} {mean : ExcName → Option Value} {mg mb : Str → Option Value} {p : Nat} {tx : Tok} : Does w loose mean mg mb 2 190 [.bytes (oct p) tx] [] (fun _ => True) (fun t => .int (dn p : Int) t) := by
  have h := @does_digitsRaw w loose mean mg mb (oct p) tx
  rw [fold_oct, digits_back] at h
  intro dp un gd cn cs L a ccd cl outer s Q E hat _ hret
  exact h dp un gd cn cs L a ccd cl outer s Q E hat (oct_size p) hret
theorem does_octets {w : World} {loose : List Str} {mean : ExcName → Option Value} {mg mb : Str → Option Value} {p : Nat} {tx : Tok} : Does w loose mean mg mb 3 195 [.int (dn p : Int) tx] [] (fun _ => True) (fun t => .bytes (oct p) t) := by
  k_with "eval ListComp" => (k_here; k_dflt (refine ListComp_G (by rfl) (by decide) (by rfl) (by decide) ?_))
  k_with "binaryOp FloorDiv int int" => ((with_reducible show wpAny _ _ (binaryOp _ (Value.int _ _) (Value.int (256 ^ _) _)) _ _ _); refine floordiv_int (pow256 (by assumption) (by assumption)).1 ?_ (Or.inl (PyProof.noPylong_of_log2 (pow256 (by assumption) (by assumption)).2)))
  unfold Does
  intro dp un gd cn cs L a ccd cl outer s Q E ⟨⟨qv, A₀, base, h₀, m, B, F, X, T⟩, hk, hd, hu⟩ hp hret
  refine wpAny_call ?_
  have hlt := dn_lt p
  k_dflt refine' enterSC [("digits", .int (dn p : Int) tx)] ?k1 ?k2 ?k3 ?k5 ?kA ?kF ?kK ?k6 ?k7 ?k8 ?k9 ?kB ?kD ?_ ?c2 ?c3 ?c4
  k_dflt walk_at "mine restC"
  k_steps
  dsimp only
  rename_i hr F9 N9 _
  (rename (Obj.data _ = Data.cell (some (Value.int _ _))) => hcell)
  refine wpAny_pyIter_range hr (by decide) ?_
  refine ⟨_, _, 9, _, _, (fun i ys _ => IntsAre ys ((List.range i).map (octZ (4722348468471135731775 + 64 * ((dn p : Int) + 52 * 4467856773185))))), rfl, Walks.range rfl _ 8 (-1) 9, Nat.le_of_ble_eq_true rfl, Heap.get?_push_size _ rfl, ?_, .nil, fun _ _ _ _ h _ => h, ?_, ?_⟩
  · intro b hb
    rw [List.mem_singleton.mp hb]
    exact Heap.lt_size (Heap.get?_push_size _ rfl)
  · intro i v ys hi hv hyl
    obtain ⟨t, rfl⟩ := hv
    refine CompTurn.name rfl rfl (fun _ _ h _ => h) ?_
    intro C m'' h tk E' hC hn hx hkb hJ
    obtain ⟨oC, hoC, F1, N1⟩ := comp_ctx F9 N9 hkb hC hn
    have b0 : 0 ≤ 8 + (i : Int) * -1 := by omega
    have b1 : 8 + (i : Int) * -1 ≤ 8 := by omega
    k_steps
    dsimp only
    refine turn_end hn (fun _ _ e => e) ?_
    rw [List.range_succ, List.map_append]
    exact hJ.append (IntsAre.cons _ _ .nil)
  · intro ys h tk hyl hkb hD hJ
    obtain ⟨F2, N2⟩ := comp_out F9 N9 hkb hD
    walk1
    refine bytes_K F2 N2 (N2.isList (.head _)) hJ (fun n hn => by obtain ⟨i, _, rfl⟩ := List.mem_map.mp hn; exact octZ_in _ i) (by rw [hJ.length]; exact Nat.le_of_ble_eq_true rfl) rfl ?_
    intro h' t k F3 N3 _
    exact q_end (hret t _ _ F3.keep) (by rw [num_int, oct_of])
end Mine
end
section
set_option Elab.async false
set_option maxRecDepth 100000
set_option maxHeartbeats 1000000
namespace Mine
open PySem PySem.W PySem.Calls PyProof.Rows
theorem does_fromB {w : World} {loose : List Str} {mean : ExcName → Option Value} {mg mb : Str → Option Value} {b : Array UInt8} {tx : Tok} : Does w loose mean mg mb 1 29 [.bytes b tx] [] (fun _ => True) (fun _ => .bytes b tx) := by
  k_with_none
  k_with "mine fill" => (have hfill : (PySem.Challenge.rw_qh0047_01 = PySem.Challenge.rw_qh0047_01 ∧ Mine.kk.heap_1 = Mine.kk.heap_1) := by (k_fill; exact ⟨rfl, rfl⟩))
  k_with "mine rest" => ((case kA => exact rfl); (case kF => exact rfl); (case kK => assumption); (case k1 => k_asm); (case k2 => k_asm); (case k3 => k_asm); (case k5 => k_asm); (case k6 => k_is); (case k7 => k_is); (case k8 => ktr_room); (case k9 => exact BindsTo.of_eq rfl); (case c5 => decide); (case kB => exact locs rfl); (case c2 => exact rfl); (case c3 => exact rfl); (case c4 => exact rfl); k_whole; intro L' h' F' N' B' X' T'; (try dsimp only [List.reverse_cons, List.reverse_nil, List.nil_append, List.cons_append] at F'); (try dsimp only); (try k_lift B'); (try k_fold))
  k_with "getMethod str" => (k_here; with_reducible refine m_encode ?_)
  k_with "getMethod bytes" => (k_here; with_reducible refine m_translate ?_)
  k_with "call type:type" => (k_here; (with_reducible show wpAny _ _ (call (Value.type "type") [Value.bytes _ _]) _ _ _); refine call_type_of (typeIs_bytes _ _ _) (by decide +kernel) ?_)
  k_with "call builtin:str.encode" => (k_here; (with_reducible show wpAny _ _ (call (Value.builtin "str.encode") [Value.str _ _, Value.str _ _]) _ _ _); refine c_encode (by assumption) (by assumption) (by assumption) ?_; intro t9 k9)
  walk_at "mine fill"
  unfold Does
  intro dp un gd cn cs L a ccd cl outer s Q E ⟨⟨qv, A₀, base, h₀, m, B, F, X, T⟩, hk, hd, hu⟩ hp hret
  refine wpAny_call ?_
  k_dflt refine' enterS [("s", .bytes b tx)] ?k1 ?k2 ?k3 ?k5 ?kA ?kF ?kK ?k6 ?k7 ?k8 ?k9 ?kB ?_ ?c2 ?c3 ?c4 ?c5
  k_dflt walk_at "mine rest"
  k_steps
  all_goals (try dsimp only)
  all_goals exact hret 0 _ _ (Fr.keep (by assumption))
theorem does_fromS {w : World} {loose : List Str} {mean : ExcName → Option Value} {mg mb : Str → Option Value} {x : Str} {tx : Tok} : Does w loose mean mg mb 1 29 [.str x tx] [] (fun _ => (∀ c ∈ x.cps, c < 128) ∧ 0 < x.length ∧ x.length ≤ 4096) (fun t => .bytes (x.cps.map Nat.toUInt8) t) := by
  skip
  unfold Does
  intro dp un gd cn cs L a ccd cl outer s Q E ⟨⟨qv, A₀, base, h₀, m, B, F, X, T⟩, hk, hd, hu⟩ hp hret
  obtain ⟨hx1, hx2, hx3⟩ := hp
  refine wpAny_call ?_
  k_dflt refine' enterS [("s", .str x tx)] ?k1 ?k2 ?k3 ?k5 ?kA ?kF ?kK ?k6 ?k7 ?k8 ?k9 ?kB ?_ ?c2 ?c3 ?c4 ?c5
  k_dflt walk_at "mine rest"
  k_steps
  all_goals (try dsimp only)
  all_goals exact hret _ _ _ (Fr.keep (by assumption))
theorem does_ascii {w : World} {loose : List Str} {mean : ExcName → Option Value} {mg mb : Str → Option Value} {b : Array UInt8} {tx : Tok} : Does w loose mean mg mb 1 49 [.bytes b tx] [] (fun _ => True) (fun _ => .bytes b tx) := by
  skip
  unfold Does
  intro dp un gd cn cs L a ccd cl outer s Q E ⟨⟨qv, A₀, base, h₀, m, B, F, X, T⟩, hk, hd, hu⟩ hp hret
  refine wpAny_call ?_
  k_dflt refine' enterS [("data", .bytes b tx)] ?k1 ?k2 ?k3 ?k5 ?kA ?kF ?kK ?k6 ?k7 ?k8 ?k9 ?kB ?_ ?c2 ?c3 ?c4 ?c5
  k_dflt walk_at "mine rest"
  k_steps
  all_goals (try dsimp only)
  all_goals exact hret 0 _ _ (Fr.keep (by assumption))
theorem does_buffer {w : World} {loose : List Str} {mean : ExcName → Option Value} {mg mb : Str → Option Value} {b : Array UInt8} {tx : Tok} : Does w loose mean mg mb 1 56 [.bytes b tx] [] (fun _ => True) (fun _ => .bytes b tx) := by
  skip
  unfold Does
  intro dp un gd cn cs L a ccd cl outer s Q E ⟨⟨qv, A₀, base, h₀, m, B, F, X, T⟩, hk, hd, hu⟩ hp hret
  refine wpAny_call ?_
  k_dflt refine' enterS [("data", .bytes b tx)] ?k1 ?k2 ?k3 ?k5 ?kA ?kF ?kK ?k6 ?k7 ?k8 ?k9 ?kB ?_ ?c2 ?c3 ?c4 ?c5
  k_dflt walk_at "mine rest"
  k_steps
  all_goals (try dsimp only)
  all_goals exact hret 0 _ _ (Fr.keep (by assumption))
theorem does_truth {w : World} {loose : List Str} {mean : ExcName → Option Value} {mg mb : Str → Option Value} {x : Bool} : Does w loose mean mg mb 1 63 [.bool x] [] (fun _ => True) (fun _ => .bool x) := by
  unfold Does
  intro dp un gd cn cs L a ccd cl outer s Q E ⟨⟨qv, A₀, base, h₀, m, B, F, X, T⟩, hk, hd, hu⟩ hp hret
  refine wpAny_call ?_
  k_dflt refine' enterS [("x", .bool x)] ?k1 ?k2 ?k3 ?k5 ?kA ?kF ?kK ?k6 ?k7 ?k8 ?k9 ?kB ?_ ?c2 ?c3 ?c4 ?c5
  k_dflt walk_at "mine rest"
  k_steps
  all_goals (try dsimp only)
  all_goals (cases x)
  all_goals first
    | (exfalso; contradiction)
    | exact hret 0 _ _ (Fr.keep (by assumption))
end Mine
end
section
set_option Elab.async false
set_option maxRecDepth 100000
set_option maxHeartbeats 2000000
namespace Mine
open PySem PySem.W PySem.Calls PyProof.Rows
theorem does_val {w : World} {loose : List Str} {mean : ExcName → Option Value} {mg mb : Str → Option Value} {c : Int} {tx : Tok} : Does w loose mean mg mb 1 70 [.int c tx] [] (fun _ => True) (fun t => .int (b64v c) t) := by
  k_with_none
  k_with "mine fill" => (have hfill : (PySem.Challenge.rw_qh0047_01 = PySem.Challenge.rw_qh0047_01 ∧ Mine.kk.heap_1 = Mine.kk.heap_1) := by (k_fill; exact ⟨rfl, rfl⟩))
  k_with "mine rest" => ((case kA => exact rfl); (case kF => exact rfl); (case kK => assumption); (case k1 => k_asm); (case k2 => k_asm); (case k3 => k_asm); (case k5 => k_asm); (case k6 => k_is); (case k7 => k_is); (case k8 => ktr_room); (case k9 => exact BindsTo.of_eq rfl); (case c5 => decide); (case kB => exact locs rfl); (case c2 => exact rfl); (case c3 => exact rfl); (case c4 => exact rfl); k_whole; intro L' h' F' N' B' X' T'; (try dsimp only [List.reverse_cons, List.reverse_nil, List.nil_append, List.cons_append] at F'); (try dsimp only); (try k_lift B'); (try k_fold))
  k_with "getMethod str" => (k_here; with_reducible refine m_encode ?_)
  k_with "getMethod bytes" => (k_here; with_reducible refine m_translate ?_)
  k_with "call type:type" => (k_here; (with_reducible show wpAny _ _ (call (Value.type "type") [Value.bytes _ _]) _ _ _); refine call_type_of (typeIs_bytes _ _ _) (by decide +kernel) ?_)
  k_with "call builtin:str.encode" => (k_here; (with_reducible show wpAny _ _ (call (Value.builtin "str.encode") [Value.str _ _, Value.str _ _]) _ _ _); refine c_encode (by assumption) (by assumption) (by assumption) ?_; intro t9 k9)
  k_with "call ref" => ktr_call (does_use does_fromB) (by first | trivial | (refine ⟨?_, ?_, ?_⟩ <;> assumption))
  k_with "call ref" => ktr_call (does_use does_fromS) (by first | trivial | (refine ⟨?_, ?_, ?_⟩ <;> assumption))
  k_with "call ref" => ktr_call (does_use does_ascii) (by first | trivial | (refine ⟨?_, ?_, ?_⟩ <;> assumption))
  k_with "call ref" => ktr_call (does_use does_buffer) (by first | trivial | (refine ⟨?_, ?_, ?_⟩ <;> assumption))
  k_with "call ref" => ktr_call (does_use does_truth) (by first | trivial | (refine ⟨?_, ?_, ?_⟩ <;> assumption))
  walk_at "mine fill"
  unfold Does
  intro dp un gd cn cs L a ccd cl outer s Q E ⟨⟨qv, A₀, base, h₀, m, B, F, X, T⟩, hk, hd, hu⟩ hp hret
  refine wpAny_call ?_
  k_dflt refine' enterS [("c", .int c tx)] ?k1 ?k2 ?k3 ?k5 ?kA ?kF ?kK ?k6 ?k7 ?k8 ?k9 ?kB ?_ ?c2 ?c3 ?c4 ?c5
  k_dflt walk_at "mine rest"
  k_steps
  all_goals (try dsimp only)
  all_goals exact q_end (hret _ _ _ (Fr.keep (by assumption))) (congrArg (fun i => Value.int i _) (by unfold b64v; (repeat' split) <;> omega))
theorem does_a2b {w : World} {loose : List Str} {mean : ExcName → Option Value} {mg mb : Str → Option Value} {st : Bool} {b : Array UInt8} {outs : List Int} {tx : Tok} : Does w loose mean mg mb 2 78 [.bytes b tx] [("strict_mode", .bool st)] (fun _ => (∀ c ∈ KBw.bInts b, c ≠ 61 ∧ 0 ≤ b64v c ∧ b64v c ≤ 64 ∧ (64 ≤ b64v c → st = false)) ∧ b.size ≤ 100 ∧ (∀ n ∈ outs, 0 ≤ n ∧ n < 256) ∧ ∃ lc, decSt (KBw.bInts b) = (0, lc, outs)) (fun t => .bytes (outs.map fun n => n.toNat.toUInt8).toArray t) := by
  k_with "call ref" => ktr_call (does_use does_val) (by trivial)
  k_with "call builtin:list.append" => (k_here; (with_reducible show wpAny _ _ (call (Value.builtin _) [Value.ref _, _]) _ _ _); k_dflt (refine append_own (by k_asm) (by k_asm) (by assumption) (by assumption) ?_); intro h' F' N'; (try k_sweep))
  skip
  unfold Does
  intro dp un gd cn cs L a ccd cl outer s Q E ⟨⟨qv, A₀, base, h₀, m, B, F, X, T⟩, hk, hd, hu⟩ hp hret
  obtain ⟨hg, hsz, hby, lcF, hdec⟩ := hp
  refine wpAny_call ?_
  k_dflt refine' enterS [("data", .bytes b tx), ("strict_mode", .bool st)] ?k1 ?k2 ?k3 ?k5 ?kA ?kF ?kK ?k6 ?k7 ?k8 ?k9 ?kB ?_ ?c2 ?c3 ?c4 ?c5
  k_dflt walk_at "mine rest"
  k_steps
  (rename Fr _ _ _ _ => lF)
  (rename News _ _ _ _ => lN)
  k_dflt refine' a2b_loop rfl lF lN rfl rfl rfl rfl ?turn ?done
  case turn =>
    intro pre post n t i lc pads q ti tl tp tq out us k h tk own kEq hoff hI hA kFr kNews
    clear lF lN
    obtain ⟨aF1, aF2, aF3, aF4, aF5⟩ := A2B.facts hA
    have aG := at_mem hg kEq
    obtain ⟨aG1, aG2, aG3, aG4⟩ := aG
    have hus : us.length ≤ 4096 := by rw [hI.length]; exact Nat.le_trans hA.len (a2b_len kEq hsz)
    by_cases hv : 64 ≤ b64v n
    · obtain rfl := aG4 hv
      k_steps
      all_goals (try dsimp only)
      all_goals first
        | exact a2b_end (by assumption) (by assumption) (.head _) (fun p hp => .tail _ hp) hI rfl rfl rfl rfl (by intro z z1 z2 z3 z4 z5; repeat (first | with_reducible exact rfl | refine (if_neg (by assumption)).trans ?_)) (A2B.skip hA (by assumption))
        | (exfalso; omega)
    · clear aG4
      k_steps
      all_goals (try dsimp only)
      all_goals first
        | exact a2b_end (by assumption) (by assumption) (.head _) (fun p hp => .tail _ hp) hI rfl rfl rfl rfl (by intro z z1 z2 z3 z4 z5; repeat (first | with_reducible exact rfl | refine (if_neg (by assumption)).trans ?_)) (A2B.s0 hA (by first | assumption | omega) (by first | assumption | omega))
        | exact a2b_end (by assumption) (by assumption) (.head _) (fun p hp => .tail _ hp) (hI.append (IntsAre.cons _ _ .nil)) rfl rfl rfl rfl (by intro z z1 z2 z3 z4 z5; repeat (first | with_reducible exact rfl | refine (if_neg (by assumption)).trans ?_)) (A2B.s1 hA (by first | assumption | omega) (by first | assumption | omega) (by first | assumption | omega))
        | exact a2b_end (by assumption) (by assumption) (.head _) (fun p hp => .tail _ hp) (hI.append (IntsAre.cons _ _ .nil)) rfl rfl rfl rfl (by intro z z1 z2 z3 z4 z5; repeat (first | with_reducible exact rfl | refine (if_neg (by assumption)).trans ?_)) (A2B.s2 hA (by first | assumption | omega) (by first | assumption | omega) (by first | assumption | omega) (by first | assumption | omega))
        | exact a2b_end (by assumption) (by assumption) (.head _) (fun p hp => .tail _ hp) (hI.append (IntsAre.cons _ _ .nil)) rfl rfl rfl rfl (by intro z z1 z2 z3 z4 z5; repeat (first | with_reducible exact rfl | refine (if_neg (by assumption)).trans ?_)) (A2B.s3 hA (by first | assumption | omega) (by first | assumption | omega) (by first | assumption | omega) (by first | assumption | omega))
        | (exfalso; omega)
  case done =>
    intro u i lc pads q ti tl tp tq out us k h tk hI hA kFr kNews
    clear lF lN
    obtain ⟨aD1, aD2, aD3⟩ := A2B.done hA hdec
    subst aD1 aD2 aD3
    have hus : us.length ≤ sizeLine := by rw [hI.length, sizeLine_eq]; exact Nat.le_trans hA.len (by rw [KBw.ints_length]; omega)
    k_steps
    (try dsimp only)
    refine bytes_K (by assumption) (by assumption) (News.isList (by assumption) (.head _)) hI hby hus rfl ?_
    intro h' t k F3 N3 _
    exact hret t _ _ F3.keep
end Mine
end
section
set_option Elab.async false
set_option maxRecDepth 100000
set_option maxHeartbeats 1000000
namespace Mine
open PySem PySem.W PySem.Calls PyProof.Rows
theorem a2bF_pre {l : List Int} (hg : ∀ c ∈ l, c ≠ 61 ∧ 0 ≤ b64v c ∧ b64v c ≤ 64) : ∀ c ∈ l, c ≠ 61 ∧ 0 ≤ b64v c ∧ b64v c ≤ 64 ∧ (64 ≤ b64v c → false = false) :=
  fun c hc => let ⟨x, y, z⟩ := hg c hc; ⟨x, y, z, fun _ => rfl⟩
theorem a2bT_pre {l : List Int} (hg : ∀ c ∈ l, c ≠ 61 ∧ 0 ≤ b64v c ∧ b64v c < 64) : ∀ c ∈ l, c ≠ 61 ∧ 0 ≤ b64v c ∧ b64v c ≤ 64 ∧ (64 ≤ b64v c → true = false) :=
  fun c hc => let ⟨x, y, z⟩ := hg c hc; ⟨x, y, Int.le_of_lt z, fun h => absurd z (Int.not_lt.mpr h)⟩
theorem does_decS {w : World} {loose : List Str} {mean : ExcName → Option Value} {mg mb : Str → Option Value} {x y : Str} {outs : List Int} {tx ty : Tok} : Does w loose mean mg mb 3 102 [.str x tx, .str y ty] [] (fun _ => (∀ c ∈ x.cps, c < 128) ∧ 0 < x.length ∧ x.length ≤ 100 ∧ (∀ c ∈ y.cps, c < 128) ∧ y.length = 2 ∧ (∀ c ∈ KBw.bInts (transl (x.cps.map Nat.toUInt8) (mktab (y.cps.map Nat.toUInt8) #[43, 47])), c ≠ 61 ∧ 0 ≤ b64v c ∧ b64v c ≤ 64) ∧ (∀ n ∈ outs, 0 ≤ n ∧ n < 256) ∧ ∃ lc, decSt (KBw.bInts (transl (x.cps.map Nat.toUInt8) (mktab (y.cps.map Nat.toUInt8) #[43, 47]))) = (0, lc, outs)) (fun t => .bytes (outs.map fun n => n.toNat.toUInt8).toArray t) := by
  k_with_none
  k_with "mine fill" => (have hfill : (PySem.Challenge.rw_qh0047_01 = PySem.Challenge.rw_qh0047_01 ∧ Mine.kk.heap_1 = Mine.kk.heap_1) := by (k_fill; exact ⟨rfl, rfl⟩))
  k_with "mine rest" => ((case kA => exact rfl); (case kF => exact rfl); (case kK => assumption); (case k1 => k_asm); (case k2 => k_asm); (case k3 => k_asm); (case k5 => k_asm); (case k6 => k_is); (case k7 => k_is); (case k8 => ktr_room); (case k9 => exact BindsTo.of_eq rfl); (case c5 => decide); (case kB => exact locs rfl); (case c2 => exact rfl); (case c3 => exact rfl); (case c4 => exact rfl); k_whole; intro L' h' F' N' B' X' T'; (try dsimp only [List.reverse_cons, List.reverse_nil, List.nil_append, List.cons_append] at F'); (try dsimp only); (try k_lift B'); (try k_fold))
  k_with "getMethod str" => (k_here; with_reducible refine m_encode ?_)
  k_with "getMethod bytes" => (k_here; with_reducible refine m_translate ?_)
  k_with "call type:type" => (k_here; (with_reducible show wpAny _ _ (call (Value.type "type") [Value.bytes _ _]) _ _ _); refine call_type_of (typeIs_bytes _ _ _) (by decide +kernel) ?_)
  k_with "call builtin:str.encode" => (k_here; (with_reducible show wpAny _ _ (call (Value.builtin "str.encode") [Value.str _ _, Value.str _ _]) _ _ _); refine c_encode (by assumption) (by assumption) (by assumption) ?_; intro t9 k9)
  k_with "getMethod type:bytes" => (k_here; refine' method_type ?F ?X ?m (by decide +kernel) ?e ?h ?_; (case F => k_asm); (case X => k_asm); (case m => kernel_rfl); (case e => k_dflt k_is); (case h => k_handed))
  k_with "call builtin:bytes.maketrans" => (k_here; (with_reducible show wpAny _ _ (call (Value.builtin "bytes.maketrans") [Value.bytes _ _, Value.bytes _ _]) _ _ _); refine c_maketrans (by assumption) ?_; intro t9 k9)
  k_with "call builtin:bytes.translate" => (k_here; (with_reducible show wpAny _ _ (call (Value.builtin "bytes.translate") [Value.bytes _ _, Value.bytes _ _]) _ _ _); refine c_translate (mktab_size _ _) (by assumption) ?_; intro t9 k9)
  k_with "mine rest2" => ((case kA => exact rfl); (case kF => exact rfl); (case kK => assumption); (case k1 => k_asm); (case k2 => k_asm); (case k3 => k_asm); (case k5 => k_asm); (case k6 => k_is); (case k7 => k_is); (case k8 => ktr_room); (case k9 => exact binds_K (by k_in) rfl (by k_is) rfl rfl rfl); (case c5 => decide); (case kB => exact locs rfl); (case c2 => exact rfl); (case c3 => exact rfl); (case c4 => exact rfl); k_whole; intro L' h' F' N' B' X' T'; (try dsimp only [List.reverse_cons, List.reverse_nil, List.nil_append, List.cons_append] at F'); (try dsimp only); (try k_lift B'); (try k_fold))
  k_with "call ref" => ktr_call (does_use does_fromB) (by first | trivial | (refine ⟨?_, ?_, ?_⟩ <;> assumption))
  k_with "call ref" => ktr_call (does_use does_fromS) (by first | trivial | (refine ⟨?_, ?_, ?_⟩ <;> assumption))
  k_with "call ref" => ktr_call (does_use does_ascii) (by first | trivial | (refine ⟨?_, ?_, ?_⟩ <;> assumption))
  k_with "call ref" => ktr_call (does_use does_buffer) (by first | trivial | (refine ⟨?_, ?_, ?_⟩ <;> assumption))
  k_with "call ref" => ktr_call (does_use does_truth) (by first | trivial | (refine ⟨?_, ?_, ?_⟩ <;> assumption))
  k_with "call ref" => ktr_call (does_use does_a2b) (by assumption)
  walk_at "mine fill"
  unfold Does
  intro dp un gd cn cs L a ccd cl outer s Q E ⟨⟨qv, A₀, base, h₀, m, B, F, X, T⟩, hk, hd, hu⟩ hp hret
  obtain ⟨hx1, hx2, hx3, hy1, hy2, hg, hby, hdec⟩ := hp
  have hx4 : x.length ≤ 4096 := by omega
  have hy3 : 0 < y.length := by omega
  have hy4 : y.length ≤ 4096 := by omega
  have hy5 : (y.cps.map Nat.toUInt8).size = (#[43, 47] : Array UInt8).size := by rw [Array.size_map]; exact hy2
  have hy6 : (y.cps.map Nat.toUInt8).size = 2 := hy5
  have hy7 : (((y.cps.map Nat.toUInt8).size : Nat) : Int) = 2 := by rw [hy6]; rfl
  have hts : (transl (x.cps.map Nat.toUInt8) (mktab (y.cps.map Nat.toUInt8) #[43, 47])).size ≤ 100 := by unfold transl; rw [Array.size_map, Array.size_map]; exact hx3
  have hpre := And.intro (a2bF_pre hg) (And.intro hts (And.intro hby hdec))
  have hx5 : (x.cps.map Nat.toUInt8).size ≤ sizeLine := by rw [Array.size_map, sizeLine_eq]; exact Nat.le_trans hx3 (by decide)
  refine wpAny_call ?_
  k_dflt refine' enterS [("s", .str x tx), ("altchars", .str y ty), ("validate", .bool false)] ?k1 ?k2 ?k3 ?k5 ?kA ?kF ?kK ?k6 ?k7 ?k8 ?k9 ?kB ?_ ?c2 ?c3 ?c4 ?c5
  k_dflt walk_at "mine rest2"
  k_steps
  all_goals (try dsimp only)
  all_goals first
    | exact hret _ _ _ (Fr.keep (by assumption))
    | (exfalso; omega)
theorem does_decB {w : World} {loose : List Str} {mean : ExcName → Option Value} {mg mb : Str → Option Value} {b : Array UInt8} {y : Str} {outs : List Int} {tx ty : Tok} : Does w loose mean mg mb 3 102 [.bytes b tx, .str y ty, .bool true] [] (fun _ => b.size ≤ 100 ∧ (∀ c ∈ y.cps, c < 128) ∧ y.length = 2 ∧ (∀ c ∈ KBw.bInts (transl b (mktab (y.cps.map Nat.toUInt8) #[43, 47])), c ≠ 61 ∧ 0 ≤ b64v c ∧ b64v c < 64) ∧ (∀ n ∈ outs, 0 ≤ n ∧ n < 256) ∧ ∃ lc, decSt (KBw.bInts (transl b (mktab (y.cps.map Nat.toUInt8) #[43, 47]))) = (0, lc, outs)) (fun t => .bytes (outs.map fun n => n.toNat.toUInt8).toArray t) := by
  skip
  unfold Does
  intro dp un gd cn cs L a ccd cl outer s Q E ⟨⟨qv, A₀, base, h₀, m, B, F, X, T⟩, hk, hd, hu⟩ hp hret
  obtain ⟨hx3, hy1, hy2, hg, hby, hdec⟩ := hp
  have hy3 : 0 < y.length := by omega
  have hy4 : y.length ≤ 4096 := by omega
  have hy5 : (y.cps.map Nat.toUInt8).size = (#[43, 47] : Array UInt8).size := by rw [Array.size_map]; exact hy2
  have hy6 : (y.cps.map Nat.toUInt8).size = 2 := hy5
  have hy7 : (((y.cps.map Nat.toUInt8).size : Nat) : Int) = 2 := by rw [hy6]; rfl
  have hts : (transl b (mktab (y.cps.map Nat.toUInt8) #[43, 47])).size ≤ 100 := by unfold transl; rw [Array.size_map]; exact hx3
  have hpre := And.intro (a2bT_pre hg) (And.intro hts (And.intro hby hdec))
  have hx5 : b.size ≤ sizeLine := by rw [sizeLine_eq]; exact Nat.le_trans hx3 (by decide)
  refine wpAny_call ?_
  k_dflt refine' enterS [("s", .bytes b tx), ("altchars", .str y ty), ("validate", .bool true)] ?k1 ?k2 ?k3 ?k5 ?kA ?kF ?kK ?k6 ?k7 ?k8 ?k9 ?kB ?_ ?c2 ?c3 ?c4 ?c5
  k_dflt walk_at "mine rest2"
  k_steps
  all_goals (try dsimp only)
  all_goals first
    | exact hret _ _ _ (Fr.keep (by assumption))
    | (exfalso; omega)
end Mine
end
section
set_option Elab.async false
set_option maxRecDepth 100000
set_option maxHeartbeats 1000000
namespace Mine
open PySem PySem.W PySem.Calls PyProof.Rows
theorem does_b2a {w : World} {loose : List Str} {mean : ExcName → Option Value} {mg mb : Str → Option Value} {b : Array UInt8} {outs : List Int} {tx : Tok} : Does w loose mean mg mb 2 86 [.bytes b tx] [("newline", .bool false)] (fun _ => b.size ≤ 100 ∧ (∀ n ∈ outs, 0 ≤ n ∧ n < 256) ∧ ∃ lc, encSt (KBw.bInts b) = (0, lc, outs)) (fun t => .bytes (outs.map fun n => n.toNat.toUInt8).toArray t) := by
  k_with_none
  k_with "mine fill" => (have hfill : (PySem.Challenge.rw_qh0047_01 = PySem.Challenge.rw_qh0047_01 ∧ Mine.kk.heap_1 = Mine.kk.heap_1) := by (k_fill; exact ⟨rfl, rfl⟩))
  k_with "mine rest" => ((case kA => exact rfl); (case kF => exact rfl); (case kK => assumption); (case k1 => k_asm); (case k2 => k_asm); (case k3 => k_asm); (case k5 => k_asm); (case k6 => k_is); (case k7 => k_is); (case k8 => ktr_room); (case k9 => exact BindsTo.of_eq rfl); (case c5 => decide); (case kB => exact locs rfl); (case c2 => exact rfl); (case c3 => exact rfl); (case c4 => exact rfl); k_whole; intro L' h' F' N' B' X' T'; (try dsimp only [List.reverse_cons, List.reverse_nil, List.nil_append, List.cons_append] at F'); (try dsimp only); (try k_lift B'); (try k_fold))
  k_with "getMethod str" => (k_here; with_reducible refine m_encode ?_)
  k_with "getMethod bytes" => (k_here; with_reducible refine m_translate ?_)
  k_with "call type:type" => (k_here; (with_reducible show wpAny _ _ (call (Value.type "type") [Value.bytes _ _]) _ _ _); refine call_type_of (typeIs_bytes _ _ _) (by decide +kernel) ?_)
  k_with "call builtin:str.encode" => (k_here; (with_reducible show wpAny _ _ (call (Value.builtin "str.encode") [Value.str _ _, Value.str _ _]) _ _ _); refine c_encode (by assumption) (by assumption) (by assumption) ?_; intro t9 k9)
  k_with "call ref" => ktr_call (does_use does_buffer) (by trivial)
  k_with "call ref" => ktr_call (does_use does_truth) (by trivial)
  k_with "call builtin:list.append" => (k_here; (with_reducible show wpAny _ _ (call (Value.builtin _) [Value.ref _, _]) _ _ _); k_dflt (refine append_own (by k_asm) (by k_asm) (by assumption) (by first | assumption | (rw [List.length_append, List.length_singleton]; omega)) ?_); intro h' F' N'; (try k_sweep))
  k_with "subscriptTail" => (k_here; (with_reducible show wpAny _ _ (subscriptTail (PySem.Expr.Name (PySem.Str.ofString "_B64") _) _ (Value.bytes _ _) (Value.int _ _)) _ _ _); refine b64_item ?_)
  walk_at "mine fill"
  unfold Does
  intro dp un gd cn cs L a ccd cl outer s Q E ⟨⟨qv, A₀, base, h₀, m, B, F, X, T⟩, hk, hd, hu⟩ hp hret
  obtain ⟨hsz, hby, lcF, hdec⟩ := hp
  refine wpAny_call ?_
  k_dflt refine' enterS [("data", .bytes b tx), ("newline", .bool false)] ?k1 ?k2 ?k3 ?k5 ?kA ?kF ?kK ?k6 ?k7 ?k8 ?k9 ?kB ?_ ?c2 ?c3 ?c4 ?c5
  k_dflt walk_at "mine rest"
  k_steps
  (rename Fr _ _ _ _ => lF)
  (rename News _ _ _ _ => lN)
  k_dflt refine' b2a_loop rfl lF lN rfl rfl ?turn ?done
  case turn =>
    intro pre post n t lb lc tb tl out us k h tk own kEq hn0 hn1 hoff hI hA kFr kNews
    clear lF lN
    have hl0 := hA.llo
    have hl1 := hA.lhi
    have hus : us.length ≤ 4000 := by rw [hI.length]; exact Nat.le_trans hA.len (by have := b2a_len kEq hsz; omega)
    have hus' : us.length ≤ 4096 := by omega
    rcases hA.lb with rfl | rfl | rfl
    all_goals (
      k_steps
      all_goals (try dsimp only))
    all_goals first
      | exact b2a_end (by assumption) (by assumption) (.head _) (fun p hp => .tail _ hp) (hI.append (IntsAre.cons _ _ .nil)) rfl rfl (by intro z z1 z2 z3; simp only [if_neg z1, if_neg z2, if_neg z3]) (B2A.s0 hA hn0 hn1)
      | exact b2a_end (by assumption) (by assumption) (.head _) (fun p hp => .tail _ hp) (hI.append (IntsAre.cons _ _ .nil)) rfl rfl (by intro z z1 z2 z3; simp only [if_neg z1, if_neg z2, if_neg z3]) (B2A.s2 hA hn0 hn1)
      | exact b2a_end (by assumption) (by assumption) (.head _) (fun p hp => .tail _ hp) ((hI.append (IntsAre.cons _ _ .nil)).append (IntsAre.cons _ _ .nil)) rfl rfl (by intro z z1 z2 z3; simp only [if_neg z1, if_neg z2, if_neg z3]) (B2A.s4 hA hn0 hn1)
  case done =>
    intro u lb lc tb tl out us k h tk hI hA kFr kNews
    clear lF lN
    obtain ⟨aD2, aD3⟩ := B2A.done hA hdec
    subst aD2 aD3
    have hus : us.length ≤ sizeLine := by rw [hI.length, sizeLine_eq]; exact Nat.le_trans hA.len (by rw [KBw.ints_length]; omega)
    k_steps
    (try dsimp only)
    refine bytes_K (by assumption) (by assumption) (News.isList (by assumption) (.head _)) hI hby hus rfl ?_
    intro h' t k F3 N3 _
    exact hret t _ _ F3.keep
end Mine
end
section
set_option Elab.async false
set_option maxRecDepth 100000
set_option maxHeartbeats 1000000
namespace Mine
open PySem PySem.W PySem.Calls PyProof.Rows
theorem does_enc {w : World} {loose : List Str} {mean : ExcName → Option Value} {mg mb : Str → Option Value} {b al : Array UInt8} {outs : List Int} {tx ty : Tok} : Does w loose mean mg mb 3 94 [.bytes b tx, .bytes al ty] [] (fun _ => b.size ≤ 100 ∧ outs.length ≤ 100 ∧ (∀ n ∈ outs, 0 ≤ n ∧ n < 256) ∧ al.size = 2 ∧ ∃ lc, encSt (KBw.bInts b) = (0, lc, outs)) (fun t => .bytes (transl (outs.map fun n => n.toNat.toUInt8).toArray (mktab #[43, 47] al)) t) := by
  k_with_none
  k_with "mine fill" => (have hfill : (PySem.Challenge.rw_qh0047_01 = PySem.Challenge.rw_qh0047_01 ∧ Mine.kk.heap_1 = Mine.kk.heap_1) := by (k_fill; exact ⟨rfl, rfl⟩))
  k_with "mine rest" => ((case kA => exact rfl); (case kF => exact rfl); (case kK => assumption); (case k1 => k_asm); (case k2 => k_asm); (case k3 => k_asm); (case k5 => k_asm); (case k6 => k_is); (case k7 => k_is); (case k8 => ktr_room); (case k9 => exact BindsTo.of_eq rfl); (case c5 => decide); (case kB => exact locs rfl); (case c2 => exact rfl); (case c3 => exact rfl); (case c4 => exact rfl); k_whole; intro L' h' F' N' B' X' T'; (try dsimp only [List.reverse_cons, List.reverse_nil, List.nil_append, List.cons_append] at F'); (try dsimp only); (try k_lift B'); (try k_fold))
  k_with "getMethod str" => (k_here; with_reducible refine m_encode ?_)
  k_with "getMethod bytes" => (k_here; with_reducible refine m_translate ?_)
  k_with "call type:type" => (k_here; (with_reducible show wpAny _ _ (call (Value.type "type") [Value.bytes _ _]) _ _ _); refine call_type_of (typeIs_bytes _ _ _) (by decide +kernel) ?_)
  k_with "call builtin:str.encode" => (k_here; (with_reducible show wpAny _ _ (call (Value.builtin "str.encode") [Value.str _ _, Value.str _ _]) _ _ _); refine c_encode (by assumption) (by assumption) (by assumption) ?_; intro t9 k9)
  k_with "getMethod type:bytes" => (k_here; refine' method_type ?F ?X ?m (by decide +kernel) ?e ?h ?_; (case F => k_asm); (case X => k_asm); (case m => kernel_rfl); (case e => k_dflt k_is); (case h => k_handed))
  k_with "call builtin:bytes.maketrans" => (k_here; (with_reducible show wpAny _ _ (call (Value.builtin "bytes.maketrans") [Value.bytes _ _, Value.bytes _ _]) _ _ _); refine c_maketrans (by assumption) ?_; intro t9 k9)
  k_with "call builtin:bytes.translate" => (k_here; (with_reducible show wpAny _ _ (call (Value.builtin "bytes.translate") [Value.bytes _ _, Value.bytes _ _]) _ _ _); refine c_translate (mktab_size _ _) (by assumption) ?_; intro t9 k9)
  k_with "mine rest2" => ((case kA => exact rfl); (case kF => exact rfl); (case kK => assumption); (case k1 => k_asm); (case k2 => k_asm); (case k3 => k_asm); (case k5 => k_asm); (case k6 => k_is); (case k7 => k_is); (case k8 => ktr_room); (case k9 => exact binds_K (by k_in) rfl (by k_is) rfl rfl rfl); (case c5 => decide); (case kB => exact locs rfl); (case c2 => exact rfl); (case c3 => exact rfl); (case c4 => exact rfl); k_whole; intro L' h' F' N' B' X' T'; (try dsimp only [List.reverse_cons, List.reverse_nil, List.nil_append, List.cons_append] at F'); (try dsimp only); (try k_lift B'); (try k_fold))
  k_with "call ref" => ktr_call (does_use does_b2a) (by assumption)
  walk_at "mine fill"
  unfold Does
  intro dp un gd cn cs L a ccd cl outer s Q E ⟨⟨qv, A₀, base, h₀, m, B, F, X, T⟩, hk, hd, hu⟩ hp hret
  obtain ⟨hsz, hos, hby, hal, henc⟩ := hp
  have hal2 : (#[43, 47] : Array UInt8).size = al.size := by rw [hal]; rfl
  have hal3 : ((al.size : Nat) : Int) = 2 := by rw [hal]; rfl
  have hpre := And.intro hsz (And.intro hby henc)
  have ho5 : (outs.map fun n => n.toNat.toUInt8).toArray.size ≤ sizeLine := by rw [List.size_toArray, List.length_map, sizeLine_eq]; exact Nat.le_trans hos (by decide)
  refine wpAny_call ?_
  k_dflt refine' enterS [("s", .bytes b tx), ("altchars", .bytes al ty)] ?k1 ?k2 ?k3 ?k5 ?kA ?kF ?kK ?k6 ?k7 ?k8 ?k9 ?kB ?_ ?c2 ?c3 ?c4 ?c5
  k_dflt walk_at "mine rest2"
  k_steps
  all_goals (try dsimp only)
  all_goals first
    | exact hret _ _ _ (Fr.keep (by assumption))
    | (exfalso; omega)
end Mine
end
section
set_option Elab.async false
set_option maxRecDepth 100000
set_option maxHeartbeats 1000000
namespace Mine
open PySem PySem.W PySem.Calls PyProof.Rows

theorem does_body {w : World} {loose : List Str} {mean : ExcName → Option Value} {mg mb : Str → Option Value} {p : Nat} {pa pc : Nat} {tp tq : Tok} : Does w loose mean mg mb 1 176 [.int (p : Int) tp, .str (T [pa, pc]) tq] [] (fun _ => p < 100000000) (fun t => .str (T (bodyL p pc)) t) := by
  k_with_none
  k_with "mine fill" => (have hfill : (PySem.Challenge.rw_qh0047_01 = PySem.Challenge.rw_qh0047_01 ∧ Mine.kk.heap_1 = Mine.kk.heap_1) := by (k_fill; exact ⟨rfl, rfl⟩))
  k_with "mine rest" => ((case kA => exact rfl); (case kF => exact rfl); (case kK => assumption); (case k1 => k_asm); (case k2 => k_asm); (case k3 => k_asm); (case k5 => k_asm); (case k6 => k_is); (case k7 => k_is); (case k8 => ktr_room); (case k9 => exact BindsTo.of_eq rfl); (case c5 => decide); (case kB => exact locs rfl); (case c2 => exact rfl); (case c3 => exact rfl); (case c4 => exact rfl); k_whole; intro L' h' F' N' B' X' T'; (try dsimp only [List.reverse_cons, List.reverse_nil, List.nil_append, List.cons_append] at F'); (try dsimp only); (try k_lift B'); (try k_fold))
  k_with "subscriptTail" => (k_here; (with_reducible show wpAny _ _ (subscriptTail _ _ (Value.str _ _) (Value.int _ _)) _ _ _); (refine t_item (by assumption) ?_))
  k_with "subscriptTail" => (k_here; (with_reducible show wpAny _ _ (subscriptTail _ (Expr.Slice none (some _) none _) (Value.str _ _) (Value.ref _)) _ _ _); (with_reducible rename Fr _ _ _ _ => F'); (with_reducible rename News _ _ _ _ => N'); (refine t_slice_ns (s := ⟨_, _, _, _, _⟩) F' N' (by assumption) (by assumption) ?_); intro _ _ _ F' N')
  k_with "subscriptTail" => (k_here; (with_reducible show wpAny _ _ (subscriptTail _ (Expr.Slice (some _) none none _) (Value.str _ _) (Value.ref _)) _ _ _); (with_reducible rename Fr _ _ _ _ => F'); (with_reducible rename News _ _ _ _ => N'); (refine t_slice_sn (s := ⟨_, _, _, _, _⟩) F' N' (by assumption) (by assumption) ?_); intro _ _ _ F' N')
  k_with "subscriptTail" => (k_here; (with_reducible show wpAny _ _ (subscriptTail _ (Expr.Slice (some _) (some _) none _) (Value.str _ _) (Value.ref _)) _ _ _); (with_reducible rename Fr _ _ _ _ => F'); (with_reducible rename News _ _ _ _ => N'); (refine t_slice_ss (s := ⟨_, _, _, _, _⟩) F' N' (by assumption) (by assumption) ?_); intro _ _ _ F' N')
  k_with "binaryOp Add str str" => (k_here; (with_reducible show wpAny _ _ (binaryOp Operator.Add (Value.str _ _) (Value.str _ _)) _ _ _); (refine t_add (by first | assumption | with_reducible exact rfl) (by first | assumption | with_reducible exact rfl) (by first | assumption | exact Nat.le_of_ble_eq_true rfl | (simp only [List.length_append, List.length_cons, List.length_nil]; omega)) ?_); intro _ _)
  k_with "binaryOp Mult str int" => (k_here; (with_reducible show wpAny _ _ (binaryOp Operator.Mult (Value.str _ _) (Value.int _ _)) _ _ _); (refine t_mul (by first | assumption | with_reducible exact rfl) (by assumption) (by exact Nat.le_of_ble_eq_true rfl) (by decide) (by decide) ?_); intro _ _)
  k_with "call type:str" => (k_here; (with_reducible show wpAny _ _ (call (Value.type "str") [Value.int _ _]) _ _ _); (refine t_str (by assumption) (by omega) (by omega) ?_); intro _ _)
  walk_at "mine fill"
  unfold Does
  intro dp un gd cn cs L a ccd cl outer s Q E ⟨⟨qv, A₀, base, h₀, m, B, F, X, Tp⟩, hk, hd, hu⟩ hp hret
  have x1 : ItemIs (T [pa, pc]) 1 (T [pc]) := .mk' 1 rfl rfl (by decide)
  have x2 : Txt.mul (T [pc]) 3 = T [pc, pc, pc] := by unfold T; rfl
  have x3 : Txt.mul (T [48]) 8 = T [48, 48, 48, 48, 48, 48, 48, 48] := by unfold T; rfl
  have x4 : Str.ofString "0" = T [48] := lit_of (by decide +kernel)
  have x5 := tx_text p
  have x6 := last8 hp
  have x7 := tx_len hp
  have x8 : (T ([48, 48, 48, 48, 48, 48, 48, 48] ++ tx p)).length ≤ 4096 := by rw [T_len]; simp only [List.length_append, List.length_cons, List.length_nil]; omega
  have x9 : (dl 8 p).length = 8 := dl_len 8 p
  refine wpAny_call ?_
  k_dflt refine' enterS [("port", .int (p : Int) tp), ("pair", .str (T [pa, pc]) tq)] ?k1 ?k2 ?k3 ?k5 ?kA ?kF ?kK ?k6 ?k7 ?k8 ?k9 ?kB ?_ ?c2 ?c3 ?c4 ?c5
  k_dflt walk_at "mine rest"
  k_steps
  all_goals (try dsimp only)
  all_goals exact q_end (hret _ _ _ (Fr.keep (by assumption))) (congrArg (fun x => Value.str (T x) _) rfl)
end Mine
end
section
set_option Elab.async false
set_option maxRecDepth 100000
set_option maxHeartbeats 1000000
namespace Mine
open PySem PySem.W PySem.Calls PyProof.Rows

theorem does_reply_true {w : World} {loose : List Str} {mean : ExcName → Option Value} {mg mb : Str → Option Value} {p q : Nat} {pc : Nat} {tp tq : Tok} : Does w loose mean mg mb 1 183 [.str (T (bodyL p pc)) tp, .bool true, .str (T (bodyL q pc)) tq] [] (fun _ => _root_.True) (fun t => .str (T (replyL (innerL true p pc) (bodyL q pc))) t) := by
  k_with_none
  k_with "mine fill" => (have hfill : (PySem.Challenge.rw_qh0047_01 = PySem.Challenge.rw_qh0047_01 ∧ Mine.kk.heap_1 = Mine.kk.heap_1) := by (k_fill; exact ⟨rfl, rfl⟩))
  k_with "mine rest" => ((case kA => exact rfl); (case kF => exact rfl); (case kK => assumption); (case k1 => k_asm); (case k2 => k_asm); (case k3 => k_asm); (case k5 => k_asm); (case k6 => k_is); (case k7 => k_is); (case k8 => ktr_room); (case k9 => exact BindsTo.of_eq rfl); (case c5 => decide); (case kB => exact locs rfl); (case c2 => exact rfl); (case c3 => exact rfl); (case c4 => exact rfl); k_whole; intro L' h' F' N' B' X' T'; (try dsimp only [List.reverse_cons, List.reverse_nil, List.nil_append, List.cons_append] at F'); (try dsimp only); (try k_lift B'); (try k_fold))
  k_with "subscriptTail" => (k_here; (with_reducible show wpAny _ _ (subscriptTail _ _ (Value.str _ _) (Value.int _ _)) _ _ _); (refine t_item (by assumption) ?_))
  k_with "subscriptTail" => (k_here; (with_reducible show wpAny _ _ (subscriptTail _ (Expr.Slice none (some _) none _) (Value.str _ _) (Value.ref _)) _ _ _); (with_reducible rename Fr _ _ _ _ => F'); (with_reducible rename News _ _ _ _ => N'); (refine t_slice_ns (s := ⟨_, _, _, _, _⟩) F' N' (by assumption) (by assumption) ?_); intro _ _ _ F' N')
  k_with "subscriptTail" => (k_here; (with_reducible show wpAny _ _ (subscriptTail _ (Expr.Slice (some _) none none _) (Value.str _ _) (Value.ref _)) _ _ _); (with_reducible rename Fr _ _ _ _ => F'); (with_reducible rename News _ _ _ _ => N'); (refine t_slice_sn (s := ⟨_, _, _, _, _⟩) F' N' (by assumption) (by assumption) ?_); intro _ _ _ F' N')
  k_with "subscriptTail" => (k_here; (with_reducible show wpAny _ _ (subscriptTail _ (Expr.Slice (some _) (some _) none _) (Value.str _ _) (Value.ref _)) _ _ _); (with_reducible rename Fr _ _ _ _ => F'); (with_reducible rename News _ _ _ _ => N'); (refine t_slice_ss (s := ⟨_, _, _, _, _⟩) F' N' (by assumption) (by assumption) ?_); intro _ _ _ F' N')
  k_with "binaryOp Add str str" => (k_here; (with_reducible show wpAny _ _ (binaryOp Operator.Add (Value.str _ _) (Value.str _ _)) _ _ _); (refine t_add (by first | assumption | with_reducible exact rfl) (by first | assumption | with_reducible exact rfl) (by first | assumption | exact Nat.le_of_ble_eq_true rfl | (simp only [List.length_append, List.length_cons, List.length_nil]; omega)) ?_); intro _ _)
  k_with "binaryOp Mult str int" => (k_here; (with_reducible show wpAny _ _ (binaryOp Operator.Mult (Value.str _ _) (Value.int _ _)) _ _ _); (refine t_mul (by first | assumption | with_reducible exact rfl) (by assumption) (by exact Nat.le_of_ble_eq_true rfl) (by decide) (by decide) ?_); intro _ _)
  k_with "call type:str" => (k_here; (with_reducible show wpAny _ _ (call (Value.type "str") [Value.int _ _]) _ _ _); (refine t_str (by assumption) (by omega) (by omega) ?_); intro _ _)
  walk_at "mine fill"
  unfold Does
  intro dp un gd cn cs L a ccd cl outer s Q E ⟨⟨qv, A₀, base, h₀, m, B, F, X, Tp⟩, hk, hd, hu⟩ hp hret
  have y1 : Str.ofString "1" = T [49] := lit_of (by decide +kernel)
  have y2 : Str.ofString "10.1.2.3" = T addrL := lit_of (by decide +kernel)
  have y3 : Str.ofString "229 a) Entering Extended Passive Mode (" = T preL := lit_of (by decide +kernel)
  have y4 : Str.ofString ") or (" = T midL := lit_of (by decide +kernel)
  have y5 : Str.ofString ")" = T [41] := lit_of (by decide +kernel)
  have z1 := body_1 p pc
  have z2 := body_12 p pc
  have z3 := body_2 p pc
  have z4 : (T (bodyL p pc)).length ≤ 4096 := by rw [T_len, bodyL_len]; decide
  have z5 : (bodyL p pc).length = 12 := bodyL_len p pc
  have z6 : (bodyL q pc).length = 12 := bodyL_len q pc
  have z7 : addrL.length = 8 := rfl
  have z8 : preL.length = 39 := rfl
  have z9 : midL.length = 6 := rfl
  have z0 : (dl 8 p).length = 8 := dl_len 8 p
  refine wpAny_call ?_
  k_dflt refine' enterS [("body", .str (T (bodyL p pc)) tp), ("filled", .bool true), ("behind", .str (T (bodyL q pc)) tq)] ?k1 ?k2 ?k3 ?k5 ?kA ?kF ?kK ?k6 ?k7 ?k8 ?k9 ?kB ?_ ?c2 ?c3 ?c4 ?c5
  k_dflt walk_at "mine rest"
  k_steps
  all_goals (try dsimp only)
  all_goals exact q_end (hret _ _ _ (Fr.keep (by assumption))) (congrArg (fun x => Value.str (T x) _) rfl)

theorem does_reply_false {w : World} {loose : List Str} {mean : ExcName → Option Value} {mg mb : Str → Option Value} {p q : Nat} {pc : Nat} {tp tq : Tok} : Does w loose mean mg mb 1 183 [.str (T (bodyL p pc)) tp, .bool false, .str (T (bodyL q pc)) tq] [] (fun _ => _root_.True) (fun t => .str (T (replyL (innerL false p pc) (bodyL q pc))) t) := by
  walk_at "mine fill"
  unfold Does
  intro dp un gd cn cs L a ccd cl outer s Q E ⟨⟨qv, A₀, base, h₀, m, B, F, X, Tp⟩, hk, hd, hu⟩ hp hret
  have y1 : Str.ofString "1" = T [49] := lit_of (by decide +kernel)
  have y2 : Str.ofString "10.1.2.3" = T addrL := lit_of (by decide +kernel)
  have y3 : Str.ofString "229 a) Entering Extended Passive Mode (" = T preL := lit_of (by decide +kernel)
  have y4 : Str.ofString ") or (" = T midL := lit_of (by decide +kernel)
  have y5 : Str.ofString ")" = T [41] := lit_of (by decide +kernel)
  have z1 := body_1 p pc
  have z2 := body_12 p pc
  have z3 := body_2 p pc
  have z4 : (T (bodyL p pc)).length ≤ 4096 := by rw [T_len, bodyL_len]; decide
  have z5 : (bodyL p pc).length = 12 := bodyL_len p pc
  have z6 : (bodyL q pc).length = 12 := bodyL_len q pc
  have z7 : addrL.length = 8 := rfl
  have z8 : preL.length = 39 := rfl
  have z9 : midL.length = 6 := rfl
  have z0 : (dl 8 p).length = 8 := dl_len 8 p
  refine wpAny_call ?_
  k_dflt refine' enterS [("body", .str (T (bodyL p pc)) tp), ("filled", .bool false), ("behind", .str (T (bodyL q pc)) tq)] ?k1 ?k2 ?k3 ?k5 ?kA ?kF ?kK ?k6 ?k7 ?k8 ?k9 ?kB ?_ ?c2 ?c3 ?c4 ?c5
  k_dflt walk_at "mine rest"
  k_steps
  all_goals (try dsimp only)
  all_goals exact q_end (hret _ _ _ (Fr.keep (by assumption))) (congrArg (fun x => Value.str (T x) _) rfl)

theorem does_reply {w : World} {loose : List Str} {mean : ExcName → Option Value} {mg mb : Str → Option Value} {f : Bool} {p q : Nat} {pc : Nat} {tp tq : Tok} : Does w loose mean mg mb 1 183 [.str (T (bodyL p pc)) tp, .bool f, .str (T (bodyL q pc)) tq] [] (fun _ => _root_.True) (fun t => .str (T (replyL (innerL f p pc) (bodyL q pc))) t) := by
  cases f
  · exact does_reply_false
  · exact does_reply_true
end Mine
end
section
set_option Elab.async false
set_option maxRecDepth 100000
namespace Mine
open PySem PySem.W PySem.Calls PyProof.Rows
theorem does_swap {w : World} {loose : List Str} {mean : ExcName → Option Value} {mg mb : Str → Option Value} {n : Nat} {f : Addr} {vs : List Value} {kw : List (Str × Value)} {pre pre' : Heap → Prop} {R R' : Tok → Value} (D : Does w loose mean mg mb n f vs kw pre R) (hp : ∀ h, pre' h → pre h) (hR : ∀ h, pre' h → R = R') : Does w loose mean mg mb n f vs kw pre' R' := by
  intro dp un gd cn cs L a ccd cl outer s Q E hat hpre hret
  refine D dp un gd cn cs L a ccd cl outer s Q E hat (hp _ hpre) ?_
  rw [hR _ hpre]
  exact hret
theorem okP_lt {a c : Nat} (h : okP a c) : a < 128 ∧ c < 128 := by
  rcases h with ⟨rfl, rfl⟩ | ⟨rfl, rfl⟩ | ⟨rfl, rfl⟩ | ⟨rfl, rfl⟩ <;> decide
theorem pair_ok {a c : Nat} (h : okP a c) : (∀ x ∈ (T [a, c]).cps, x < 128) ∧ (T [a, c]).length = 2 := by
  have := okP_lt h
  refine ⟨?_, by rw [T_len]; rfl⟩
  rw [T_cps]
  intro x hx
  simp at hx
  omega
theorem does_decBody {w : World} {loose : List Str} {mean : ExcName → Option Value} {mg mb : Str → Option Value} {q pa pc : Nat} {tp tq : Tok} : Does w loose mean mg mb 3 102 [.str (T (32 :: bodyL q pc)) tp, .str (T [pa, pc]) tq] [] (fun _ => okP pa pc) (fun t => .bytes (oct q) t) := by
  refine does_swap (does_decS (outs := octI q)) (fun h hok => ?_) (fun _ _ => by rw [oct_outs])
  obtain ⟨p1, p2⟩ := pair_ok hok
  rw [blank_bytes, tabD_of, tr_blank q hok]
  refine ⟨?_, by rw [T_len]; show 0 < (bodyL q pc).length + 1; omega, by rw [T_len]; show (bodyL q pc).length + 1 ≤ 100; rw [bodyL_len]; decide, p1, p2, good_blank q, octI_in q, 0, ?_⟩
  · rw [T_cps]
    intro x hx
    rcases List.mem_cons.mp (List.mem_toArray.mp hx) with rfl | h
    · decide
    · exact body_lt (okP_lt hok).2 x h
  · rw [blank_ints]; exact dec_body q dec_blank
theorem does_decStart {w : World} {loose : List Str} {mean : ExcName → Option Value} {mg mb : Str → Option Value} {q pa pc : Nat} {tp tq : Tok} : Does w loose mean mg mb 3 102 [.str (T (bodyL q pc)) tp, .str (T [pa, pc]) tq] [] (fun _ => okP pa pc) (fun t => .bytes (oct q) t) := by
  refine does_swap (does_decS (outs := octI q)) (fun h hok => ?_) (fun _ _ => by rw [oct_outs])
  obtain ⟨p1, p2⟩ := pair_ok hok
  rw [body_bytes, tabD_of, tr_dec q hok]
  refine ⟨?_, by rw [T_len, bodyL_len]; decide, by rw [T_len, bodyL_len]; decide, p1, p2, fun c hc => ?_, octI_in q, 0, ?_⟩
  · rw [T_cps]
    intro x hx
    exact body_lt (okP_lt hok).2 x (List.mem_toArray.mp hx)
  · have := good_body q c hc; omega
  · rw [body_ints]; exact dec_body (l := []) q decSt_nil
theorem does_decBytes {w : World} {loose : List Str} {mean : ExcName → Option Value} {mg mb : Str → Option Value} {q pa pc : Nat} {tp tq : Tok} : Does w loose mean mg mb 3 102 [.bytes (bodyB q pc) tp, .str (T [pa, pc]) tq, .bool true] [] (fun _ => okP pa pc) (fun t => .bytes (oct q) t) := by
  refine does_swap (does_decB (outs := octI q)) (fun h hok => ?_) (fun _ _ => by rw [oct_outs])
  obtain ⟨p1, p2⟩ := pair_ok hok
  rw [tabD_of, tr_dec q hok]
  refine ⟨by rw [bodyB_size]; decide, p1, p2, good_body q, octI_in q, 0, ?_⟩
  rw [body_ints]; exact dec_body (l := []) q decSt_nil
theorem does_encOct {w : World} {loose : List Str} {mean : ExcName → Option Value} {mg mb : Str → Option Value} {q pa pc : Nat} {tp tq : Tok} : Does w loose mean mg mb 3 94 [.bytes (oct q) tp, .bytes #[pa.toUInt8, pc.toUInt8] tq] [] (fun _ => okP pa pc) (fun t => .bytes (bodyB q pc) t) := by
  refine does_swap (does_enc (outs := (bodyL q 47).map fun n : Nat => (n : Int))) (fun h hok => ?_) (fun _ hok => ?_)
  · refine ⟨by rw [oct_size]; decide, by rw [List.length_map, bodyL_len]; decide, fun n hn => ?_, rfl, ?_⟩
    · obtain ⟨x, hx, rfl⟩ := List.mem_map.mp hn
      have := body_lt (by decide) x hx
      omega
    · rw [oct_ints]; exact enc_body q
  · funext t
    rw [body_outs]
    exact congrArg (fun b => Value.bytes b t) (tr_enc q hok)
theorem does_octetsE {w : World} {loose : List Str} {mean : ExcName → Option Value} {mg mb : Str → Option Value} {e : Int} {p : Nat} {tp : Tok} : Does w loose mean mg mb 3 195 [.int e tp] [] (fun _ => e = (dn p : Int)) (fun t => .bytes (oct p) t) := by
  intro dp un gd cn cs L a ccd cl outer s Q E hat hpre hret
  subst hpre
  exact does_octets dp un gd cn cs L a ccd cl outer s Q E hat trivial hret
/-- two numbers that _law_sum takes -/
def Sum2 (x y : Int) : Prop := 0 ≤ x ∧ x < 64 ^ 8 ∧ 0 ≤ y ∧ y < 64 ^ 8
theorem does_sum2 {w : World} {loose : List Str} {mean : ExcName → Option Value} {mg mb : Str → Option Value} {x y : Int} {tp tq : Tok} : Does w loose mean mg mb 2 202 [.int x tp, .int y tq] [] (fun _ => Sum2 x y) (fun t => .int (rawSum x y) t) := does_sumRaw
theorem dn_range (p : Nat) : 0 ≤ (dn p : Int) ∧ (dn p : Int) < 64 ^ 8 := by
  have := dn_lt p
  rw [show (64 : Int) ^ 8 = 281474976710656 from by decide]
  omega
theorem sum_0 (a b : Nat) : Sum2 (dn a : Int) (dn b : Int) := ⟨(dn_range a).1, (dn_range a).2, (dn_range b).1, (dn_range b).2⟩
theorem sum_1 {a : Nat} (b : Nat) (ha : a < 100000000) : Sum2 (9 * 4467856773185 - (dn a : Int)) (dn b : Int) := by rw [dn_nines ha]; exact sum_0 _ _
theorem sum_2 {a : Nat} (b : Nat) (ha : a < 100000000) : Sum2 ((64 * (dn a : Int)).fmod (64 ^ Int.toNat 8)) (dn b : Int) := by rw [dn_ten ha]; exact sum_0 _ _
end Mine
end
section
set_option Elab.async false
set_option maxRecDepth 100000
set_option maxHeartbeats 1000000
namespace Mine
open PySem PySem.W PySem.Calls PyProof.Rows

theorem does_step {w : World} {loose : List Str} {mean : ExcName → Option Value} {mg mb : Str → Option Value} {x way q pa pc : Nat} {d : Addr} {t1 t2 t3 t4 : Tok} : Does w loose mean mg mb 4 209 [.bytes (oct x) t1, .ref d] [] (fun h => IsTup h d #[.int (way : Int) t2, .str (T (bodyL q pc)) t3, .str (T [pa, pc]) t4] ∧ okP pa pc ∧ x < 100000000 ∧ q < 100000000 ∧ way < 4) (fun t => .bytes (oct (stepN x way q)) t) := by
  k_with_none
  k_with "mine fill" => (have hfill : (PySem.Challenge.rw_qh0047_01 = PySem.Challenge.rw_qh0047_01 ∧ Mine.kk.heap_1 = Mine.kk.heap_1) := by (k_fill; exact ⟨rfl, rfl⟩))
  k_with "mine rest" => ((case kA => exact rfl); (case kF => exact rfl); (case kK => assumption); (case k1 => k_asm); (case k2 => k_asm); (case k3 => k_asm); (case k5 => k_asm); (case k6 => k_is); (case k7 => k_is); (case k8 => ktr_room); (case k9 => exact BindsTo.of_eq rfl); (case c5 => decide); (case kB => exact locs rfl); (case c2 => exact rfl); (case c3 => exact rfl); (case c4 => exact rfl); k_whole; intro L' h' F' N' B' X' T'; (try dsimp only [List.reverse_cons, List.reverse_nil, List.nil_append, List.cons_append] at F'); (try dsimp only); (try k_lift B'); (try k_fold))
  k_with "subscriptTail" => (k_here; (with_reducible show wpAny _ _ (subscriptTail _ _ (Value.str _ _) (Value.int _ _)) _ _ _); (refine t_item (by assumption) ?_))
  k_with "subscriptTail" => (k_here; (with_reducible show wpAny _ _ (subscriptTail _ (Expr.Slice none (some _) none _) (Value.str _ _) (Value.ref _)) _ _ _); (with_reducible rename Fr _ _ _ _ => F'); (with_reducible rename News _ _ _ _ => N'); (refine t_slice_ns (s := ⟨_, _, _, _, _⟩) F' N' (by assumption) (by assumption) ?_); intro _ _ _ F' N')
  k_with "subscriptTail" => (k_here; (with_reducible show wpAny _ _ (subscriptTail _ (Expr.Slice (some _) none none _) (Value.str _ _) (Value.ref _)) _ _ _); (with_reducible rename Fr _ _ _ _ => F'); (with_reducible rename News _ _ _ _ => N'); (refine t_slice_sn (s := ⟨_, _, _, _, _⟩) F' N' (by assumption) (by assumption) ?_); intro _ _ _ F' N')
  k_with "subscriptTail" => (k_here; (with_reducible show wpAny _ _ (subscriptTail _ (Expr.Slice (some _) (some _) none _) (Value.str _ _) (Value.ref _)) _ _ _); (with_reducible rename Fr _ _ _ _ => F'); (with_reducible rename News _ _ _ _ => N'); (refine t_slice_ss (s := ⟨_, _, _, _, _⟩) F' N' (by assumption) (by assumption) ?_); intro _ _ _ F' N')
  k_with "binaryOp Add str str" => (k_here; (with_reducible show wpAny _ _ (binaryOp Operator.Add (Value.str _ _) (Value.str _ _)) _ _ _); (refine t_add (by first | assumption | with_reducible exact rfl) (by first | assumption | with_reducible exact rfl) (by first | assumption | exact Nat.le_of_ble_eq_true rfl | (simp only [List.length_append, List.length_cons, List.length_nil]; omega)) ?_); intro _ _)
  k_with "binaryOp Mult str int" => (k_here; (with_reducible show wpAny _ _ (binaryOp Operator.Mult (Value.str _ _) (Value.int _ _)) _ _ _); (refine t_mul (by first | assumption | with_reducible exact rfl) (by assumption) (by exact Nat.le_of_ble_eq_true rfl) (by decide) (by decide) ?_); intro _ _)
  k_with "call type:str" => (k_here; (with_reducible show wpAny _ _ (call (Value.type "str") [Value.int _ _]) _ _ _); (refine t_str (by assumption) (by omega) (by omega) ?_); intro _ _)
  k_with "call ref" => ktr_call (does_use does_ones) (by trivial)
  k_with "call ref" => ktr_call (does_use does_digits) (by trivial)
  k_with "call ref" => ktr_call (does_use does_decBody) (by assumption)
  k_with "call ref" => ktr_call (does_use does_sum2) (by assumption)
  k_with "call ref" => ktr_call (does_use does_octetsE) (by assumption)
  walk_at "mine fill"
  unfold Does
  intro dp un gd cn cs L a ccd cl outer s Q E ⟨⟨qv, A₀, base, h₀, m, B, F, X, Tp⟩, hk, hd, hu⟩ hp hret
  obtain ⟨hT, hok, hx, hq, hw⟩ := hp
  have y1 : Str.ofString " " = T [32] := lit_of (by decide +kernel)
  have z1 := bodyL_len q pc
  have s0 := sum_0 x q
  have s1 := sum_1 q hx
  have s2 := sum_2 q hx
  have s3 := sum_1 x hq
  have e0 := step0 hx hq
  have e1 := step1 hx hq
  have e2 := step2 hx hq
  have e3 := step3 hx hq
  refine wpAny_call ?_
  k_dflt refine' enterS [("octets", .bytes (oct x) t1), ("deed", .ref d)] ?k1 ?k2 ?k3 ?k5 ?kA ?kF ?kK ?k6 ?k7 ?k8 ?k9 ?kB ?_ ?c2 ?c3 ?c4 ?c5
  k_dflt walk_at "mine rest"
  k_steps
  all_goals (try dsimp only)
  all_goals first
    | ((obtain rfl : way = 0 := by omega); exact hret _ _ _ (Fr.keep (by assumption)))
    | ((obtain rfl : way = 1 := by omega); exact hret _ _ _ (Fr.keep (by assumption)))
    | ((obtain rfl : way = 2 := by omega); exact hret _ _ _ (Fr.keep (by assumption)))
    | ((obtain rfl : way = 3 := by omega); exact hret _ _ _ (Fr.keep (by assumption)))
end Mine
end
section
set_option Elab.async false
set_option maxRecDepth 100000
set_option maxHeartbeats 1000000
namespace Mine
open PySem PySem.W PySem.Calls PyProof.Rows

/-- a tuple of two, as it is made -/
abbrev tup2 (x y : Value) : Obj := { cls := .type "tuple", data := .seq #[x, y] }
/-- a def that gives back a new object and leaves all that stood as it stood -/
def DoesN (w : World) (loose : List Str) (mean : ExcName → Option Value) (mg mb : Str → Option Value) (n : Nat) (f : Addr) (vs : List Value) (kw : List (Str × Value)) (pre : Heap → Prop) (R : Obj → Prop) : Prop :=
  ∀ (dp un : Nat) (gd : Option (List Code)) (cn : Str) (cs : Scope) (L a : Addr) (ccd : Value) (cl : List (Str × Addr)) (outer : List Env) (s : Shared) (Q E : Value → Shared → Prop),
    At w loose mean mg mb dp un cs L outer s n → pre s.heap →
    (∀ D o h' tk', s.heap.StaysIn h' → s.heap.get? D = none → h'.get? D = some o → R o → Q (.ref D) { s with heap := h', toks := tk' }) →
    wpAny (model PySem.Challenge.rw_qh0047_01.row.prog w) (ktrTop dp un gd cn cs L a ccd cl outer) (call (.ref f) vs kw) Q E s

theorem does_parse2 {w : World} {loose : List Str} {mean : ExcName → Option Value} {mg mb : Str → Option Value} {i b : List Nat} {p pc : Nat} {ho : List Nat} {d : Addr} {t1 t2 t3 t4 t5 : Tok} : DoesN w loose mean mg mb 1 146 [.str (T (replyL i b)) t1, .ref d] [] (fun h => IsTup h d #[.str (T ho) t2, .int 21 t3] ∧ Inner i pc p ∧ b.length ≤ 100 ∧ p < 100000000) (fun o => ∃ tb, o = tup2 (.str (T ho) t2) (.int (p : Int) tb)) := by
  k_with_none
  k_with "mine fill" => (have hfill : (PySem.Challenge.rw_qh0047_01 = PySem.Challenge.rw_qh0047_01 ∧ Mine.kk.heap_1 = Mine.kk.heap_1) := by (k_fill; exact ⟨rfl, rfl⟩))
  k_with "mine rest" => ((case kA => exact rfl); (case kF => exact rfl); (case kK => assumption); (case k1 => k_asm); (case k2 => k_asm); (case k3 => k_asm); (case k5 => k_asm); (case k6 => k_is); (case k7 => k_is); (case k8 => ktr_room); (case k9 => exact BindsTo.of_eq rfl); (case c5 => decide); (case kB => exact locs rfl); (case c2 => exact rfl); (case c3 => exact rfl); (case c4 => exact rfl); k_whole; intro L' h' F' N' B' X' T'; (try dsimp only [List.reverse_cons, List.reverse_nil, List.nil_append, List.cons_append] at F'); (try dsimp only); (try k_lift B'); (try k_fold))
  k_with "subscriptTail" => (k_here; (with_reducible show wpAny _ _ (subscriptTail _ _ (Value.str _ _) (Value.int _ _)) _ _ _); (refine t_item (by assumption) ?_))
  k_with "subscriptTail" => (k_here; (with_reducible show wpAny _ _ (subscriptTail _ (Expr.Slice none (some _) none _) (Value.str _ _) (Value.ref _)) _ _ _); (with_reducible rename Fr _ _ _ _ => F'); (with_reducible rename News _ _ _ _ => N'); (refine t_slice_ns (s := ⟨_, _, _, _, _⟩) F' N' (by assumption) (by assumption) ?_); intro _ _ _ F' N')
  k_with "subscriptTail" => (k_here; (with_reducible show wpAny _ _ (subscriptTail _ (Expr.Slice (some _) none none _) (Value.str _ _) (Value.ref _)) _ _ _); (with_reducible rename Fr _ _ _ _ => F'); (with_reducible rename News _ _ _ _ => N'); (refine t_slice_sn (s := ⟨_, _, _, _, _⟩) F' N' (by assumption) (by assumption) ?_); intro _ _ _ F' N')
  k_with "subscriptTail" => (k_here; (with_reducible show wpAny _ _ (subscriptTail _ (Expr.Slice (some _) (some _) none _) (Value.str _ _) (Value.ref _)) _ _ _); (with_reducible rename Fr _ _ _ _ => F'); (with_reducible rename News _ _ _ _ => N'); (refine t_slice_ss (s := ⟨_, _, _, _, _⟩) F' N' (by assumption) (by assumption) ?_); intro _ _ _ F' N')
  k_with "binaryOp Add str str" => (k_here; (with_reducible show wpAny _ _ (binaryOp Operator.Add (Value.str _ _) (Value.str _ _)) _ _ _); (refine t_add (by first | assumption | with_reducible exact rfl) (by first | assumption | with_reducible exact rfl) (by first | assumption | exact Nat.le_of_ble_eq_true rfl | (simp only [List.length_append, List.length_cons, List.length_nil]; omega)) ?_); intro _ _)
  k_with "binaryOp Mult str int" => (k_here; (with_reducible show wpAny _ _ (binaryOp Operator.Mult (Value.str _ _) (Value.int _ _)) _ _ _); (refine t_mul (by first | assumption | with_reducible exact rfl) (by assumption) (by exact Nat.le_of_ble_eq_true rfl) (by decide) (by decide) ?_); intro _ _)
  k_with "call type:str" => (k_here; (with_reducible show wpAny _ _ (call (Value.type "str") [Value.int _ _]) _ _ _); (refine t_str (by assumption) (by omega) (by omega) ?_); intro _ _)
  k_with "subscriptTail Name Slice str ref" => (k_here; (with_reducible show wpAny _ _ (subscriptTail _ (Expr.Slice none (some _) none _) (Value.str _ _) (Value.ref _)) _ _ _); (with_reducible rename Fr _ _ _ _ => F'); (with_reducible rename News _ _ _ _ => N'); (refine t_slice_ns (s := ⟨_, _, _, _, _⟩) F' N' (by assumption) (by assumption) ?_); intro _ _ _ F' N')
  k_with "subscriptTail Name Slice str ref" => (k_here; (with_reducible show wpAny _ _ (subscriptTail _ (Expr.Slice (some _) none none _) (Value.str _ _) (Value.ref _)) _ _ _); (with_reducible rename Fr _ _ _ _ => F'); (with_reducible rename News _ _ _ _ => N'); (refine t_slice_sn (s := ⟨_, _, _, _, _⟩) F' N' (by assumption) (by assumption) ?_); intro _ _ _ F' N')
  k_with "subscriptTail Name Slice str ref" => (k_here; (with_reducible show wpAny _ _ (subscriptTail _ (Expr.Slice (some _) (some _) none _) (Value.str _ _) (Value.ref _)) _ _ _); (with_reducible rename Fr _ _ _ _ => F'); (with_reducible rename News _ _ _ _ => N'); (refine t_slice_ss (s := ⟨_, _, _, _, _⟩) F' N' (by assumption) (by assumption) ?_); intro _ _ _ F' N')
  k_with "compareOp NotEq str str" => (k_here; (with_reducible refine t_ne_same ?_))
  k_with "compareOp Eq str str" => (k_here; (with_reducible refine t_eq_same ?_))
  k_with "call builtin:str.find" => (k_here; (with_reducible show wpAny _ _ (call (Value.builtin "str.find") [Value.str _ _, Value.str _ _]) _ _ _); (refine t_find (by assumption) ?_); intro _ _)
  k_with "call builtin:str.find" => (k_here; (with_reducible show wpAny _ _ (call (Value.builtin "str.find") [Value.str _ _, Value.str _ _, Value.int _ _]) _ _ _); (refine t_find3 (by assumption) ?_); intro _ _)
  k_with "call type:int" => (k_here; (with_reducible show wpAny _ _ (call (Value.type "int") [Value.str _ _]) _ _ _); (refine t_int (by assumption) (by assumption) ?_); intro _ _)
  k_with "call builtin:str.split" => (k_here; (with_reducible show wpAny _ _ (call (Value.builtin "str.split") [Value.str _ _, Value.str _ _]) _ _ _); (with_reducible rename Fr _ _ _ _ => F'); (with_reducible rename News _ _ _ _ => N'); (refine t_split5 F' N' (by assumption) (by assumption) (by assumption) ?_); intro D' _ _ _ _ _ _ _ F' N' l1; (try k_lt l1))
  walk_at "mine fill"
  unfold DoesN
  intro dp un gd cn cs L a ccd cl outer s Q E ⟨⟨qv, A₀, base, h₀, m, B, F, X, Tp⟩, hk, hd, hu⟩ hp hret
  obtain ⟨hT, hi, hb, hpp⟩ := hp
  have y1 := reply_3 i b
  have y2 := reply_find i b
  have y3 : Txt.find3 (T (replyL i b)) (Str.ofString ")") (38 + 1) = 39 + (i.length : Int) := reply_find2 hi.off
  have y4 : ItemIs (T (replyL i b)) (38 + 1) (T [pc]) := .mk' 39 rfl (reply_at hi.first) (by decide)
  have il := hi.len
  have il' := hi.le
  have y5 : ItemIs (T (replyL i b)) (39 + (i.length : Int) - 1) (T [pc]) := .mk' (39 + (i.length - 1)) (by omega) (reply_at hi.last) (by omega)
  have y6 : Txt.slice (T (replyL i b)) (some (38 + 1)) (some (39 + (i.length : Int))) = T i := reply_in
  obtain ⟨u, v, y7⟩ := hi.cut
  have y8 := int_body hpp
  have z1 : (T (replyL i b)).length ≤ 4096 := by rw [T_len, reply_len]; omega
  have z2 : (T [pc]).length = 1 := T_len _
  have z3 : (T i).length ≤ 4096 := by rw [T_len]; omega
  have z4 : (T (dl 8 p)).length ≤ 640 := by rw [T_len, dl_len]; decide
  refine wpAny_call ?_
  k_dflt refine' enterS [("resp", .str (T (replyL i b)) t1), ("peer", .ref d)] ?k1 ?k2 ?k3 ?k5 ?kA ?kF ?kK ?k6 ?k7 ?k8 ?k9 ?kB ?_ ?c2 ?c3 ?c4 ?c5
  k_dflt walk_at "mine rest"
  k_steps
  all_goals (try dsimp only)
  all_goals ((rename News _ _ _ _ => kN); exact hret _ _ _ _ (Fr.keep (by assumption)) (kN _ (.head _)).2.2 (kN _ (.head _)).1 ⟨_, rfl⟩)

theorem does_parse4 {w : World} {loose : List Str} {mean : ExcName → Option Value} {mg mb : Str → Option Value} {i b : List Nat} {p pc : Nat} {ho : List Nat} {d : Addr} {t1 t2 t3 t4 t5 : Tok} : DoesN w loose mean mg mb 1 146 [.str (T (replyL i b)) t1, .ref d] [] (fun h => IsTup h d #[.str (T ho) t2, .int 21 t3, .int 0 t4, .int 0 t5] ∧ Inner i pc p ∧ b.length ≤ 100 ∧ p < 100000000) (fun o => ∃ tb, o = tup2 (.str (T ho) t2) (.int (p : Int) tb)) := by
  walk_at "mine fill"
  unfold DoesN
  intro dp un gd cn cs L a ccd cl outer s Q E ⟨⟨qv, A₀, base, h₀, m, B, F, X, Tp⟩, hk, hd, hu⟩ hp hret
  obtain ⟨hT, hi, hb, hpp⟩ := hp
  have y1 := reply_3 i b
  have y2 := reply_find i b
  have y3 : Txt.find3 (T (replyL i b)) (Str.ofString ")") (38 + 1) = 39 + (i.length : Int) := reply_find2 hi.off
  have y4 : ItemIs (T (replyL i b)) (38 + 1) (T [pc]) := .mk' 39 rfl (reply_at hi.first) (by decide)
  have il := hi.len
  have il' := hi.le
  have y5 : ItemIs (T (replyL i b)) (39 + (i.length : Int) - 1) (T [pc]) := .mk' (39 + (i.length - 1)) (by omega) (reply_at hi.last) (by omega)
  have y6 : Txt.slice (T (replyL i b)) (some (38 + 1)) (some (39 + (i.length : Int))) = T i := reply_in
  obtain ⟨u, v, y7⟩ := hi.cut
  have y8 := int_body hpp
  have z1 : (T (replyL i b)).length ≤ 4096 := by rw [T_len, reply_len]; omega
  have z2 : (T [pc]).length = 1 := T_len _
  have z3 : (T i).length ≤ 4096 := by rw [T_len]; omega
  have z4 : (T (dl 8 p)).length ≤ 640 := by rw [T_len, dl_len]; decide
  refine wpAny_call ?_
  k_dflt refine' enterS [("resp", .str (T (replyL i b)) t1), ("peer", .ref d)] ?k1 ?k2 ?k3 ?k5 ?kA ?kF ?kK ?k6 ?k7 ?k8 ?k9 ?kB ?_ ?c2 ?c3 ?c4 ?c5
  k_dflt walk_at "mine rest"
  k_steps
  all_goals (try dsimp only)
  all_goals ((rename News _ _ _ _ => kN); exact hret _ _ _ _ (Fr.keep (by assumption)) (kN _ (.head _)).2.2 (kN _ (.head _)).1 ⟨_, rfl⟩)
end Mine
end
section
set_option Elab.async false
set_option maxRecDepth 100000
namespace Mine
open PySem PySem.W PySem.Calls PyProof.Rows
/-- an iterator over the list l, at its start -/
abbrev itObj (l : Addr) : Obj := { cls := .type "list_iterator", data := .fields #[.ref l, .int 0 0] }
section
variable {prog : Program} {w : World} {A : Around} {E : Value → Shared → Prop} {s : Shared} {Q : Value → Shared → Prop}
theorem c_iter_list {l : Addr} {items : Array Value} (hl : s.heap.IsList l items) (h : Q (.ref s.heap.objs.size) { s with heap := s.heap.push (itObj l) }) :
    wpAny (model prog w) A (call (.builtin "iter") [.ref l]) Q E s := by
  refine call_function_entry (by decide +kernel) (by decide +kernel) kdk_entry_iter (kdk_args_iter _) ?_
  unfold Builtin.«iter»
  refine wpAny_bind (m := someArgs "iter" 1 2 _) (wpAny_of_eq (a := [Value.ref l]) (by first | rfl | kernel_rfl!) ?_)
  show wpAny _ _ (pyIter (.ref l) >>= _) _ _ _
  refine wpAny_bind (wpAny_pyIter_list hl ?_)
  exact wpAny_pure ⟨_, rfl, h⟩
theorem c_iter_iter {I l : Addr} {i : Nat} (hI : s.heap.IsListIter I l i) (h : Q (.ref I) s) :
    wpAny (model prog w) A (call (.builtin "iter") [.ref I]) Q E s := by
  refine call_function_entry (by decide +kernel) (by decide +kernel) kdk_entry_iter (kdk_args_iter _) ?_
  unfold Builtin.«iter»
  refine wpAny_bind (m := someArgs "iter" 1 2 _) (wpAny_of_eq (a := [Value.ref I]) (by first | rfl | kernel_rfl!) ?_)
  show wpAny _ _ (pyIter (.ref I) >>= _) _ _ _
  refine wpAny_bind (wpAny_pyIter_listiter hI ?_)
  exact wpAny_pure ⟨_, rfl, h⟩
theorem next_special {it l : Addr} {i : Nat} {items} {x : Value} {Q : Option Value → Shared → Prop} (hit : s.heap.IsListIter it l i)
    (hl : s.heap.IsList l items) (hx : items[i]? = some x)
    (hQ : ∀ h', h'.IsListIter it l (i + 1) → Heap.SameBut it s.heap h' → Q (some x) { s with heap := h' }) :
    wpAny (model prog w) A (callSpecial? (.ref it) (Str.ofString "__next__")) Q E s := by
  obtain ⟨o, ho, hc, hd⟩ := id hit
  obtain ⟨ol, hol, _, nl, hdl⟩ := hl
  refine wpAny_callSpecial?_slot (name := Str.ofString "__next__") hit.typeIs slot_listiter_next
    (wpAny_call_entry slot_listiter_next hit.typeIs entry_listiter_next ?_ (args_listiter_next _))
  show wpAny _ _ (field (.ref it) 0 >>= _) _ _ s
  refine wpAny_bind (wpAny_field ho hd (x := .ref l) rfl ?_)
  show wpAny _ _ (if (Value.ref l == Value.none) = true then _ else _) _ _ s
  rw [if_neg (show ¬ ((Value.ref l == Value.none) = true) from Bool.false_ne_true)]
  show wpAny _ _ (field (.ref it) 1 >>= _) _ _ s
  refine wpAny_bind (wpAny_field ho hd (x := .int i 0) rfl ?_)
  show wpAny _ _ (seqItems? (.ref l) >>= _) _ _ s
  refine wpAny_bind (wpAny_seqItems hol hdl ?_)
  simp only [Int.toNat_natCast, hx]
  refine wpAny_bind (wpAny_setField ho hd (by simp) (wpAny_pure ⟨x, rfl, hQ _ ?_ (Heap.SameBut.update ..)⟩))
  exact ⟨_, Heap.get?_update_self _ ho (Obj.isFreed_of_fields (Obj.data_mapFields hd _)), (Obj.cls_mapFields ..).trans hc, by
    rw [Obj.data_mapFields hd]; simp [rawInt]⟩
theorem c_next_list {it l : Addr} {i : Nat} {items} {x : Value} (hit : s.heap.IsListIter it l i)
    (hl : s.heap.IsList l items) (hx : items[i]? = some x)
    (hQ : ∀ h', h'.IsListIter it l (i + 1) → Heap.SameBut it s.heap h' → Q x { s with heap := h' }) :
    wpAny (model prog w) A (call (.builtin "next") [.ref it]) Q E s := by
  refine call_function_entry (by decide +kernel) (by decide +kernel) kdk_entry_next (kdk_args_next _) ?_
  unfold Builtin.«next»
  refine wpAny_bind (m := someArgs "next" 1 2 _) (wpAny_of_eq (a := [Value.ref it]) (by first | rfl | kernel_rfl!) ?_)
  dsimp only
  refine wpAny_bind (wpAny_specialOf (name := Str.ofString "__next__") hit.typeIs slot_listiter_next.lookup ?_)
  refine wpAny_ite_split (fun hab => absurd hab (by decide)) (fun _ => ?_)
  refine wpAny_bind (next_special hit hl hx fun h' hit' hs => ?_)
  exact wpAny_pure ⟨_, rfl, hQ h' hit' hs⟩
end
theorem c_iter_N {l : Addr} {items : Array Value} {h₀ : Heap} {L : Addr} {m : Str → Option Value} {news : List (Addr × Obj)} (F : Fr h₀ L s.heap m) (N : News h₀ L s.heap news) (hl : h₀.IsList l items)
    (h : ∀ I h', I ≠ l → I ≠ L → h₀.get? I = none → Fr h₀ L h' m → News h₀ L h' ((I, itObj l) :: news) → Q (.ref I) { s with heap := h' }) :
    wpAny (model prog w) A (call (.builtin "iter") [.ref l]) Q E s := by
  have hl' : s.heap.IsList l items := hl.at fun o e => F.keep _ _ e
  refine c_iter_list hl' (h _ _ ?_ ?_ ?_ (F.push _) (News.push F N _ rfl))
  · obtain ⟨o, e, _⟩ := hl'; exact Nat.ne_of_gt (Heap.lt_size e)
  · exact Nat.ne_of_gt F.ns.lt
  · exact next_is_new F
theorem c_next_N {I l : Addr} {xs : List Value} {x : Value} {io : Obj} {h₀ : Heap} {L : Addr} {m : Str → Option Value} (F : Fr h₀ L s.heap m) (N : News h₀ L s.heap [(I, io)]) (hi : ∀ h : Heap, h.get? I = some io → h.IsListIter I l 0) (hl : h₀.IsList l (x :: xs).toArray)
    (h : ∀ h' o', (∀ h : Heap, h.get? I = some o' → h.IsListIter I l 1) → Fr h₀ L h' m → News h₀ L h' [(I, o')] → Q x { s with heap := h' }) :
    wpAny (model prog w) A (call (.builtin "next") [.ref I]) Q E s := by
  have hl' : s.heap.IsList l (x :: xs).toArray := hl.at fun o e => F.keep _ _ e
  have hm := N _ (.head _)
  refine c_next_list (hi _ hm.1) hl' (x := x) (by rfl) fun h' hit hs => ?_
  obtain ⟨o', ho', hc', hd'⟩ := hit
  refine h h' o' (fun g e => ⟨o', e, hc', hd'⟩) (F.change hs hm.2.1 hm.2.2) ?_
  intro p hp
  rw [List.mem_singleton.mp hp]
  exact ⟨ho', hm.2⟩
theorem notin2 {a x y : Addr} (h1 : a ≠ x) (h2 : a ≠ y) : a ∉ [x, y] := by
  intro hm
  rcases List.mem_cons.mp hm with e | hm
  · exact h1 e
  · exact h2 (List.mem_singleton.mp hm)
/-- a walk that has taken its first item -/
theorem walks_shift {prog : Program} {w : World} {A : Around} {I : Addr} {fp wr : List Addr} {n : Nat} {P : Nat → Value → Prop} {St : Nat → Heap → Prop} (W : Walks prog w A I fp wr (n + 1) P St) :
    Walks prog w A I fp wr n (fun i => P (i + 1)) (fun i => St (i + 1)) where
  sub := W.sub
  frame := fun i => W.frame (i + 1)
  item := fun i s Q E hi => W.item (i + 1) s Q E (Nat.succ_lt_succ hi)
  done := W.done
  self := fun i => W.self (i + 1)
theorem walks_list {prog : Program} {w : World} {A : Around} {I l : Addr} {vs : List Value} {n : Nat} (hh : A.handled = none) (hne : l ≠ I) (hn : vs.length = n) :
    Walks prog w A I [I, l] [I] n (fun i v => vs[i]? = some v) (fun i h => h.IsListIter I l i ∧ h.IsList l vs.toArray) := by
  subst hn
  have W := Walks.list (prog := prog) (w := w) hh I l hne vs.toArray
  simpa using W
end Mine
end
section
set_option Elab.async false
set_option maxRecDepth 100000
namespace Mine
open PySem PySem.W PySem.Calls PyProof.Rows
/-- the number behind these deeds -/
noncomputable def runN (x : Nat) (ds : List (Nat × Nat)) : Nat := ds.foldl (fun x p => stepN x p.1 p.2) x
theorem runN_snoc (x : Nat) (ds : List (Nat × Nat)) (p : Nat × Nat) : runN x (ds ++ [p]) = stepN (runN x ds) p.1 p.2 := by unfold runN; rw [List.foldl_append]; rfl
theorem runN_lt {x : Nat} (h : x < 100000000) : ∀ ds, runN x ds < 100000000 := by
  intro ds
  induction ds generalizing x with
  | nil => exact h
  | cons p r ih => exact ih (stepN_lt _ _ _)
section
variable {prog : Program} {w : World} {A : Around} {E : Value → Shared → Prop} {s : Shared} {env : Env} {g : Heap} {body : List Stmt} {Q : Flow → Shared → Prop}
/-- a turn's end -/
noncomputable def TurnEnd (g : Heap) (L : Addr) (x y : Str) (m₀ : Str → Option Value) (V : Nat → Tok → Value) (a : Nat) (led : List (Addr × Obj)) (s₁ : Shared) (f : Flow) (s₂ : Shared) : Prop :=
  f = .next ∧ ∃ h' tk' m' t, s₂ = { s₁ with heap := h', toks := tk' } ∧ Fr g L h' m' ∧ News g L h' led ∧ m' y = some (V a t) ∧ ∀ z, z ≠ x → z ≠ y → m' z = m₀ z
theorem fold_at {x y : Str} (V : Nat → Tok → Value) (R : Heap → Value → Nat × Nat → Prop) {ds : List (Nat × Nat)} {a₀ : Nat} {t₀ : Tok} {m₀ : Str → Option Value} {news : List (Addr × Obj)}
    {I : Addr} {fp wr : List Addr} {P : Nat → Value → Prop} {St : Nat → Heap → Prop} (W : Walks prog w A I fp wr ds.length P St) (ha : a₀ < 100000000)
    (hLf : env.locals ∉ fp) (hwr : ∀ b ∈ wr, g.get? b = none) (hnw : ∀ p ∈ news, p.1 ∉ wr) (hst : St 0 s.heap)
    (hP : ∀ i v p h, g.StaysIn h → News g env.locals h news → P i v → ds[i]? = some p → R h v p)
    (F : Fr g env.locals s.heap m₀) (N : News g env.locals s.heap news) (hv : m₀ y = some (V a₀ t₀))
    (turn : ∀ a v p t h tk own, p ∈ ds → a < 100000000 → R h v p → Fr g env.locals h (fun z => if z = x then some v else if z = y then some (V a t) else m₀ z) → News g env.locals h (own ++ news) →
      wpAny (model prog w) A (execs body env) (TurnEnd g env.locals x y m₀ V (stepN a p.1 p.2) (own ++ news) { s with heap := h, toks := tk }) E { s with heap := h, toks := tk })
    (done : ∀ (u : Option Value) t h tk, Fr g env.locals h (fun z => if z = x then u else if z = y then some (V (runN a₀ ds) t) else m₀ z) → News g env.locals h news → Q .next { s with heap := h, toks := tk }) :
    LoopAtV prog w A g env x body Q E (.ref I) s := by
  have fr : ∀ {h : Heap} {m₁ : Str → Option Value} {k : Nat} {t : Tok} {u : Option Value}, m₁ y = some (V k t) → (∀ z, z ≠ x → z ≠ y → m₁ z = m₀ z) →
      (fun z => if z = x then u else m₁ z) = fun z => if z = x then u else if z = y then some (V k t) else m₀ z := by
    intro h m₁ k t u h1 h2
    funext z
    by_cases e1 : z = x
    · rw [if_pos e1, if_pos e1]
    · rw [if_neg e1, if_neg e1]
      by_cases e2 : z = y
      · rw [if_pos e2, e2, h1]
      · rw [if_neg e2, h2 z e1 e2]
  refine ⟨I, fp, wr, ds.length, P, St, m₀, news, fun i m nx => nx = news ∧ (∃ t, m y = some (V (runN a₀ (ds.take i)) t)) ∧ ∀ z, z ≠ x → z ≠ y → m z = m₀ z, rfl, W, hLf, hwr, hnw, hst, F, N, ⟨rfl, ⟨t₀, hv⟩, fun _ _ _ => rfl⟩, ?_, ?_⟩
  · rintro i v m₁ news₁ s₁ own ⟨h, tk, rfl⟩ hi hPv ⟨rfl, ⟨t, h1⟩, h2⟩ hoff _ _ _ _ F₁ N₁
    have hp : ds[i]? = some ds[i] := List.getElem?_eq_getElem hi
    rw [fr (h := h) h1 h2] at F₁
    refine wpAny_mono (turn _ v ds[i] t h tk own (List.getElem_mem hi) (runN_lt ha _) (hP i v _ h (fun b o e => F₁.keep b o e) (fun p hp => N₁ p (List.mem_append_right _ hp)) hPv hp) F₁ N₁) (fun f s₂ q => ?_) fun _ _ e => e
    obtain ⟨rfl, h', tk', m', t', rfl, F', N', e1, e2⟩ := q
    refine .next ⟨rfl, h', tk', m', news₁, rfl, F', N', hoff, rfl, ⟨t', ?_⟩, e2⟩
    rw [List.take_add_one, hp, Option.toList_some, runN_snoc]
    exact e1
  · rintro h' tk m' news' F' N' _ ⟨rfl, ⟨t, h1⟩, h2⟩
    rw [List.take_length] at h1
    refine done (m' x) t h' tk ?_ N'
    rw [← fr (h := h') h1 h2]
    have : (fun z => if z = x then m' x else m' z) = m' := by
      funext z
      by_cases e : z = x
      · rw [if_pos e, e]
      · rw [if_neg e]
    rw [this]
    exact F'
theorem fold_loop {x y : Str} (V : Nat → Tok → Value) (R : Heap → Value → Nat × Nat → Prop) {ds : List (Nat × Nat)} {a₀ : Nat} {t₀ : Tok} {m₀ : Str → Option Value} {news : List (Addr × Obj)}
    {I : Addr} {fp wr : List Addr} {P : Nat → Value → Prop} {St : Nat → Heap → Prop} (W : Walks prog w A I fp wr ds.length P St) (ha : a₀ < 100000000)
    (hLf : env.locals ∉ fp) (hwr : ∀ b ∈ wr, g.get? b = none) (hnw : ∀ p ∈ news, p.1 ∉ wr) (hst : St 0 s.heap)
    (hP : ∀ i v p h, g.StaysIn h → News g env.locals h news → P i v → ds[i]? = some p → R h v p)
    (F : Fr g env.locals s.heap m₀) (N : News g env.locals s.heap news) (hv : m₀ y = some (V a₀ t₀))
    (turn : ∀ a v p t h tk own, p ∈ ds → a < 100000000 → R h v p → Fr g env.locals h (fun z => if z = x then some v else if z = y then some (V a t) else m₀ z) → News g env.locals h (own ++ news) →
      wpAny (model prog w) A (execs body env) (TurnEnd g env.locals x y m₀ V (stepN a p.1 p.2) (own ++ news) { s with heap := h, toks := tk }) E { s with heap := h, toks := tk })
    (done : ∀ (u : Option Value) t h tk, Fr g env.locals h (fun z => if z = x then u else if z = y then some (V (runN a₀ ds) t) else m₀ z) → News g env.locals h news → Q .next { s with heap := h, toks := tk }) :
    wpAny (model prog w) A (pyIter (.ref I)) (fun it s₂ => LoopAtV prog w A g env x body Q E it s₂) E s := by
  exact W.self 0 _ _ _ hst (fold_at V R W ha hLf hwr hnw hst hP F N hv turn done)
theorem fold_list {x y : Str} (V : Nat → Tok → Value) (R : Heap → Value → Nat × Nat → Prop) {ds : List (Nat × Nat)} {a₀ : Nat} {t₀ : Tok} {m₀ : Str → Option Value} {news : List (Addr × Obj)} {l : Addr} {vs : List Value}
    (hh : A.handled = none) (ha : a₀ < 100000000) (hl : s.heap.IsList l vs.toArray) (hlL : l ≠ env.locals) (hn : vs.length = ds.length)
    (hP : ∀ (i : Nat) v p h, g.StaysIn h → News g env.locals h news → vs[i]? = some v → ds[i]? = some p → R h v p)
    (F : Fr g env.locals s.heap m₀) (N : News g env.locals s.heap news) (hv : m₀ y = some (V a₀ t₀))
    (turn : ∀ a v p t h tk own, p ∈ ds → a < 100000000 → R h v p → Fr g env.locals h (fun z => if z = x then some v else if z = y then some (V a t) else m₀ z) → News g env.locals h (own ++ news) →
      wpAny (model prog w) A (execs body env) (TurnEnd g env.locals x y m₀ V (stepN a p.1 p.2) (own ++ news) { s with heap := h, toks := tk }) E { s with heap := h, toks := tk })
    (done : ∀ (u : Option Value) t h tk, Fr g env.locals h (fun z => if z = x then u else if z = y then some (V (runN a₀ ds) t) else m₀ z) → News g env.locals h news → Q .next { s with heap := h, toks := tk }) :
    wpAny (model prog w) A (pyIter (.ref l)) (fun it s₂ => LoopAtV prog w A g env x body Q E it s₂) E s := by
  have hlt : l < s.heap.objs.size := by obtain ⟨o, e, _⟩ := hl; exact Heap.lt_size e
  refine wpAny_pyIter_list hl ?_
  refine fold_at (s := { s with heap := s.heap.push (itObj l) }) V R (walks_list hh (Nat.ne_of_lt hlt) hn) ha (notin2 (Nat.ne_of_lt F.ns.lt) (Ne.symm hlL)) (fun b hb => by rw [List.mem_singleton.mp hb]; exact next_is_new F) (fun p hp hm => ?_) ⟨⟨_, Heap.get?_push_size _ rfl, rfl, rfl⟩, hl.at fun o e => Heap.get?_push_of_some _ e⟩ hP (F.push _) (N.pushKeep _) hv turn done
  exact absurd (Heap.lt_size (N p hp).1) (by rw [List.mem_singleton.mp hm]; exact Nat.lt_irrefl _)
end
/-- a deed of the script -/
noncomputable def DeedAt (pa pc : Nat) (h : Heap) (v : Value) (p : Nat × Nat) : Prop := ∃ d t2 t3 t4, v = .ref d ∧ IsTup h d #[.int (p.1 : Int) t2, .str (T (bodyL p.2 pc)) t3, .str (T [pa, pc]) t4]
theorem DeedAt.stays {pa pc : Nat} {h h' : Heap} {v : Value} {p : Nat × Nat} (d : DeedAt pa pc h v p) (k : h.StaysIn h') : DeedAt pa pc h' v p := by
  obtain ⟨d, t2, t3, t4, e, o, ho, r⟩ := d
  exact ⟨d, t2, t3, t4, e, o, k _ _ ho, r⟩
/-- these values are the deeds -/
noncomputable def AllAre (R : Value → Nat × Nat → Prop) (vs : List Value) (ds : List (Nat × Nat)) : Prop := vs.length = ds.length ∧ ∀ (i : Nat) (p : Nat × Nat), ds[i]? = some p → ∃ v, vs[i]? = some v ∧ R v p
theorem AllAre.mono {R R' : Value → Nat × Nat → Prop} {vs : List Value} {ds : List (Nat × Nat)} (a : AllAre R vs ds) (h : ∀ v p, R v p → R' v p) : AllAre R' vs ds :=
  ⟨a.1, fun i p e => let ⟨v, h1, h2⟩ := a.2 i p e; ⟨v, h1, h v p h2⟩⟩
noncomputable def okD (ds : List (Nat × Nat)) : Prop := ∀ p ∈ ds, p.1 < 4 ∧ p.2 < 100000000
end Mine
end
section
set_option Elab.async false
set_option maxRecDepth 100000
set_option maxHeartbeats 1000000
namespace Mine
open PySem PySem.W PySem.Calls PyProof.Rows
theorem enterG {prog : Program} {w : World} {A₀ A : Around} {s : Shared} {K : Frag} {L : Addr} {h₀ g base : Heap} {m mg mb : Str → Option Value} {p : Program} {loose : List Str} {mean : ExcName → Option Value}
    {env : Env} {outer : List Env} {R : Result → Shared → Prop} {name qual : Str} {params : Arguments} {body : List Stmt} {scope : Scope} {dV kV doc pm cdv ct oc : Value} {an od : Option Addr} {osl : Array (Option Value)} {f : Addr} {args : Args} (binds : List (Str × Value))
    (B : Below A₀ base outer h₀) (F : Fr h₀ L g m) (kg : g.StaysIn s.heap) (hgs : g.objs.size ≤ s.heap.objs.size) (X₀ : K.In h₀) (T : Top p loose mean mg mb h₀) (hA : A.frames = some (env :: outer)) (hf : env.frame = some L) (hke : env.scope.kind = .function)
    (ho : K.lookup f = some ⟨oc, od, .func (fnOf name qual params body scope dV kV doc pm an cdv ct), osl⟩) (hcd : codeIn K cdv qual = true) (hroom : A.depth < recursionLimit)
    (hbind : BindsTo s (fnOf name qual params body scope dV kV doc pm an cdv ct) args binds) (hloc : ∀ y ∈ binds, scope.names.lookup y.1 = some .local)
    (h : ∀ L' h₁, Fr g L' h₁ (fun y => binds.reverse.lookup y) → s.heap.StaysIn h₁ → s.heap.objs.size ≤ L' → Below A base (env :: outer) g → K.In g → Top p loose mean mg mb g →
      wpAny (model prog w) (A.deeper (envOf qual scope L' f cdv)) (execs body (envOf qual scope L' f cdv))
        (fun fl s' => R (.ok (.ret (match fl with | .ret v => v | _ => .none))) s')
        (fun e s' => wpAny (model prog w) (A.deeper (envOf qual scope L' f cdv)) (leaving (envOf qual scope L' f cdv) e) (fun _ s'' => R (.error e) s'') (fun e' s'' => R (.error e') s'') s')
        { s with heap := h₁, toks := s.toks + binds.length })
    (hco : scope.isCoroutine = false) (hgen : scope.isGenerator = false) (hk : scope.kind = .function)
    (hcell : ∀ x ∈ scope.names, x.2 ≠ .cell) : codeAny (model prog w) A (.call (.ref f) args) R s := by
  k_with_none
  k_with "mine fill" => (have hfill : (PySem.Challenge.rw_qh0047_01 = PySem.Challenge.rw_qh0047_01 ∧ Mine.kk.heap_1 = Mine.kk.heap_1) := by (k_fill; exact ⟨rfl, rfl⟩))
  k_with "mine rest" => ((case kA => exact rfl); (case kF => exact rfl); (case kK => assumption); (case k1 => k_asm); (case k2 => k_asm); (case k3 => k_asm); (case k5 => k_asm); (case k6 => k_is); (case k7 => k_is); (case k8 => ktr_room); (case k9 => exact BindsTo.of_eq rfl); (case c5 => decide); (case kB => exact locs rfl); (case c2 => exact rfl); (case c3 => exact rfl); (case c4 => exact rfl); k_whole; intro L' h' F' N' B' X' T'; (try dsimp only [List.reverse_cons, List.reverse_nil, List.nil_append, List.cons_append] at F'); (try dsimp only); (try k_lift B'); (try k_fold))
  have X := X₀.keeps F.keep
  have T' := T.keeps F.keep
  have Xs := X.keeps kg
  have B₁ := pushX B F hf hke
  refine codeAny_call_def (fd := fnOf name qual params body scope dV kV doc pm an cdv ct) (body := body) (binds := binds) hroom (Xs _ _ ho) rfl (T'.keeps kg).nolimit (codeRec_of Xs hcd) rfl hbind hcell hloc (fun h₁ hns hk₁ => ?_) hco hgen hk
  exact h s.heap.objs.size h₁ ⟨hns, fun b o e => hk₁ b o (kg b o e), hgs⟩ hk₁ (Nat.le_refl _) ⟨hA, B₁.stays, B₁.frames⟩ X T'
def Held (p : Prop) : Prop := p
theorem Held.out {p : Prop} (h : Held p) : p := h
theorem Held.mk {p : Prop} (h : p) : Held p := h

theorem red_iter {w : World} {loose : List Str} {mean : ExcName → Option Value} {mg mb : Str → Option Value} {pa pc : Nat} {l : Addr} {vs : List Value} {ds : List (Nat × Nat)} {t0 : Tok} {dp un : Nat} {gd : Option (List Code)} {cn : Str} {cs : Scope} {L a : Addr} {ccd : Value} {cl : List (Str × Addr)} {outer : List Env} {s : Shared} {Q E : Value → Shared → Prop} {qv : Program} {A₀ : Around} {base h₀ : Heap} {m : Str → Option Value}
    (B : Below A₀ base outer h₀) (F : Fr h₀ L s.heap m) (X : (Mine.kk.heap_1 w.params).In h₀) (Tp : Top qv loose mean mg mb h₀)
    (hk : cs.kind = .function) (hd : dp + 5 < recursionLimit) (hu : un + 8 * 5 + 8 < cLine)
    (hl : s.heap.IsList l vs.toArray) (ha : AllAre (DeedAt pa pc s.heap) vs ds) (hok : okP pa pc) (hds : okD ds)
    (hret : ∀ t h' tk', s.heap.StaysIn h' → Q (.bytes (oct (runN 0 ds)) t) { s with heap := h', toks := tk' }) :
    wpAny (model PySem.Challenge.rw_qh0047_01.row.prog w) (ktrTop dp un gd cn cs L a ccd cl outer) (call (.ref 155) [.ref 209, .ref s.heap.objs.size, .bytes (oct 0) t0] []) Q E { s with heap := s.heap.push (itObj l) } := by
  k_with "call ref" => ktr_call (does_use does_step) (by assumption)
  k_with "call builtin:iter" => (k_here; (with_reducible show wpAny _ _ (call (Value.builtin "iter") [Value.ref _]) _ _ _); (refine c_iter_iter (by assumption) ?_))
  k_with "compareOp Is" => (k_here; (with_reducible show wpAny _ _ (compareOp CmpOp.Is (Value.bytes _ _) (Value.ref _)) _ _ _); refine wpAny_is_other (by rfl) (by intro x; cases x) ?_)
  k_with "pyIter ref" => (k_here; (with_reducible show wpAny _ _ (pyIter (Value.ref _)) _ _ _); refine Held.out ?_)
  walk_at "mine fill"
  have kg : s.heap.StaysIn (s.heap.push (itObj l)) := fun b o e => Heap.get?_push_of_some _ e
  have hgs : s.heap.objs.size ≤ (s.heap.push (itObj l)).objs.size := by rw [Heap.size_push]; exact Nat.le_succ _
  refine wpAny_call ?_
  k_dflt refine' enterG (g := s.heap) [("function", .ref 209), ("sequence", .ref s.heap.objs.size), ("initial", .bytes (oct 0) t0)] ?k1 ?k2 ?kg ?kgs ?k3 ?k5 ?kA ?kF ?kK ?k6 ?k7 ?k8 ?k9 ?kB ?_ ?c2 ?c3 ?c4 ?c5
  case kg => exact kg
  case kgs => exact hgs
  (case kA => exact rfl); (case kF => exact rfl); (case kK => assumption); (case k1 => k_asm); (case k2 => k_asm); (case k3 => k_asm); (case k5 => k_asm); (case k6 => k_is); (case k7 => k_is); (case k8 => ktr_room); (case k9 => have Fp := F.push (itObj l); exact binds_K (by k_in) rfl (by k_is) rfl rfl rfl); (case c5 => decide); (case kB => exact locs rfl); (case c2 => exact rfl); (case c3 => exact rfl); (case c4 => exact rfl)
  k_whole
  intro L' h₁ F' kh hL' B' X' T'
  have N' : News s.heap L' h₁ [(s.heap.objs.size, itObj l)] := fun p hp => by
    rw [List.mem_singleton.mp hp]
    exact ⟨kh _ _ (Heap.get?_push_size _ rfl), Nat.ne_of_lt (Nat.lt_of_lt_of_le (by rw [Heap.size_push]; exact Nat.lt_succ_self _) hL'), Heap.get?_none_of_le (Nat.le_refl _)⟩
  have hI : h₁.IsListIter s.heap.objs.size l 0 := ⟨_, (N' _ (.head _)).1, rfl, rfl⟩
  (try dsimp only [List.reverse_cons, List.reverse_nil, List.nil_append, List.cons_append] at F'); (try dsimp only); (try k_lift B'); (try k_fold)
  k_steps
  refine Held.mk ?_
  (rename Fr _ _ _ _ => lF)
  (rename News _ _ _ _ => lN)
  have hne : l ≠ s.heap.objs.size := by obtain ⟨o, e, _⟩ := hl; exact Nat.ne_of_lt (Heap.lt_size e)
  have hlL : l < s.heap.objs.size := by obtain ⟨o, e, _⟩ := hl; exact Heap.lt_size e
  rw [Heap.size_push] at hL'
  have hLf : L' ∉ [s.heap.objs.size, l] := by
    intro hm
    rcases List.mem_cons.mp hm with e | hm
    · exact absurd hL' (by rw [e]; exact Nat.not_succ_le_self _)
    · have e := List.mem_singleton.mp hm
      exact absurd (Nat.lt_of_lt_of_le hlL (Nat.le_of_succ_le hL')) (by rw [e]; exact Nat.lt_irrefl _)
  k_dflt refine' fold_loop (x := Str.ofString "element") (y := Str.ofString "value") (t₀ := t0) (fun n t => .bytes (oct n) t) (DeedAt pa pc) (a₀ := 0) (news := []) (walks_list rfl hne ha.1) ?la ?lb ?lc ?ld ?le ?lf lF ?lg ?lh ?turn ?done
  case la => decide
  case lb => exact hLf
  case lc =>
    intro b hb
    rw [List.mem_singleton.mp hb]; exact Heap.get?_none_of_le (Nat.le_refl _)
  case ld => intro p hp; nomatch hp
  case le => exact ⟨⟨_, (lN _ (.head _)).1, rfl, rfl⟩, hl.at fun o e => lF.keep _ _ e⟩
  case lf =>
    intro i v p h k _ hv hp
    obtain ⟨v', h1, h2⟩ := ha.2 i p hp
    rw [hv] at h1
    obtain rfl := Option.some.inj h1
    exact h2.stays k
  case lg => exact fun p hp => nomatch hp
  case lh => exact rfl
  case turn =>
    intro x v p t h tk own hp hx hR kFr kNews
    clear lF lN
    obtain ⟨d, t2, t3, t4, rfl, hT⟩ := hR
    have hq := hds p hp
    have hpre := And.intro hT (And.intro hok (And.intro hx (And.intro hq.2 hq.1)))
    k_steps
    all_goals (try dsimp only)
    all_goals exact ⟨rfl, _, _, _, _, rfl, by assumption, by assumption, rfl, by intro z z1 z2; simp only [if_neg z1, if_neg z2]⟩
  case done =>
    intro u t h tk kFr kNews
    clear lF lN
    k_steps
    all_goals (try dsimp only)
    all_goals exact hret _ _ _ (Fr.keep (by assumption))

theorem does_redList {w : World} {loose : List Str} {mean : ExcName → Option Value} {mg mb : Str → Option Value} {pa pc : Nat} {l : Addr} {vs : List Value} {ds : List (Nat × Nat)} {t0 : Tok} : Does w loose mean mg mb 5 155 [.ref 209, .ref l] [] (fun h => h.IsList l (Value.bytes (oct 0) t0 :: vs).toArray ∧ AllAre (DeedAt pa pc h) vs ds ∧ okP pa pc ∧ okD ds) (fun t => .bytes (oct (runN 0 ds)) t) := by
  k_with "call builtin:iter" => (k_here; (with_reducible show wpAny _ _ (call (Value.builtin "iter") [Value.ref _]) _ _ _); (refine c_iter_N (by k_asm) (by k_asm) (by assumption) ?_); intro I' h' nI nL nN F' N')
  k_with "call builtin:next" => (k_here; (with_reducible show wpAny _ _ (call (Value.builtin "next") [Value.ref _]) _ _ _); (refine c_next_N (by k_asm) (by k_asm) (fun h e => ⟨_, e, rfl, rfl⟩) (by assumption) ?_); intro h' o' hO F' N')
  skip
  unfold Does
  intro dp un gd cn cs L a ccd cl outer s Q E ⟨⟨qv, A₀, base, h₀, m, B, F, X, Tp⟩, hk, hd, hu⟩ hp hret
  obtain ⟨hl, ha, hok, hds⟩ := hp
  refine wpAny_call ?_
  k_dflt refine' enterS [("function", .ref 209), ("sequence", .ref l), ("initial", .ref 147)] ?k1 ?k2 ?k3 ?k5 ?kA ?kF ?kK ?k6 ?k7 ?k8 ?k9 ?kB ?_ ?c2 ?c3 ?c4 ?c5
  (case kA => exact rfl); (case kF => exact rfl); (case kK => assumption); (case k1 => k_asm); (case k2 => k_asm); (case k3 => k_asm); (case k5 => k_asm); (case k6 => k_is); (case k7 => k_is); (case k8 => ktr_room); (case k9 => exact binds_K (by k_in) rfl (by k_is) rfl rfl rfl); (case c5 => decide); (case kB => exact locs rfl); (case c2 => exact rfl); (case c3 => exact rfl); (case c4 => exact rfl)
  k_whole
  intro L' h' F' N' B' X' T'
  have hlL : l ≠ L' := by
    obtain ⟨o, e, _⟩ := hl
    exact Nat.ne_of_lt (Nat.lt_of_lt_of_le (Heap.lt_size e) F'.above)
  (try dsimp only [List.reverse_cons, List.reverse_nil, List.nil_append, List.cons_append] at F'); (try dsimp only); (try k_lift B'); (try k_fold)
  k_steps
  (rename ∀ h : Heap, _ => hO)
  (rename (Heap.get? s.heap _ = none) => nN)
  (rename (¬ (_ : Addr) = l) => nI)
  (rename (¬ (_ : Addr) = L') => nL)
  refine Held.mk ?_
  (rename Fr _ _ _ _ => lF)
  (rename News _ _ _ _ => lN)
  have hLf := notin2 (Ne.symm nL) (Ne.symm hlL)
  k_dflt refine' fold_loop (x := Str.ofString "element") (y := Str.ofString "value") (t₀ := t0) (fun n t => .bytes (oct n) t) (DeedAt pa pc) (a₀ := 0) (news := []) (walks_shift (walks_list (vs := Value.bytes (oct 0) t0 :: vs) rfl (Ne.symm nI) (by rw [List.length_cons, ha.1]))) ?la ?lb ?lc ?ld ?le ?lf lF ?lg ?lh ?turn ?done
  case la => decide
  case lb => exact hLf
  case lc =>
    intro b hb
    rw [List.mem_singleton.mp hb]; exact nN
  case ld => intro p hp; nomatch hp
  case le => exact ⟨hO _ (lN _ (.head _)).1, hl.at fun o e => lF.keep _ _ e⟩
  case lf =>
    intro i v p h k _ hv hp
    obtain ⟨v', h1, h2⟩ := ha.2 i p hp
    have hv' : vs[i]? = some v := hv
    rw [hv'] at h1
    obtain rfl := Option.some.inj h1
    exact h2.stays k
  case lg => exact fun p hp => nomatch hp
  case lh => exact rfl
  case turn =>
    intro x v p t h tk own hp hx hR kFr kNews
    clear lF lN
    obtain ⟨d, t2, t3, t4, rfl, hT⟩ := hR
    have hq := hds p hp
    have hpre := And.intro hT (And.intro hok (And.intro hx (And.intro hq.2 hq.1)))
    k_steps
    all_goals (try dsimp only)
    all_goals exact ⟨rfl, _, _, _, _, rfl, by assumption, by assumption, rfl, by intro z z1 z2; simp only [if_neg z1, if_neg z2]⟩
  case done =>
    intro u t h tk kFr kNews
    clear lF lN
    k_steps
    all_goals (try dsimp only)
    all_goals exact hret _ _ _ (Fr.keep (by assumption))
end Mine
end
section
set_option Elab.async false
set_option maxRecDepth 100000
namespace Mine
open PySem PySem.W PySem.Calls PyProof.Rows
/-- the values made so far, and the objects that they need -/
noncomputable def JJ (b : Nat) (Y : Nat → Value → List (Addr × Obj) → Prop) (_i : Nat) (ys : List Value) (h : Heap) : Prop :=
  ∃ nw : List (Addr × Obj), (∀ p ∈ nw, b < p.1 ∧ h.get? p.1 = some p.2) ∧ ∀ j y, ys[j]? = some y → Y j y nw
/-- what holds of more objects -/
noncomputable def Mono (Y : Nat → Value → List (Addr × Obj) → Prop) : Prop := ∀ j y nw nw', (∀ p ∈ nw, p ∈ nw') → Y j y nw → Y j y nw'
/-- an element's end: all that stood stays; its new objects are told -/
noncomputable def EltEnd (s₂ : Shared) (h : Heap) (C : Addr) (i : Nat) (Y : Nat → Value → List (Addr × Obj) → Prop) (y : Value) (s₅ : Shared) : Prop :=
  ∃ h₅ tk₅ nw, s₅ = { s₂ with heap := h₅, toks := tk₅ } ∧ h.StaysIn h₅ ∧ (∀ p ∈ nw, C < p.1 ∧ h₅.get? p.1 = some p.2) ∧ Y i y nw
theorem JJ.nil {b : Nat} {Y : Nat → Value → List (Addr × Obj) → Prop} {h : Heap} : JJ b Y 0 [] h :=
  ⟨[], (fun p hp => by cases hp), (fun j y e => by simp at e)⟩
theorem JJ.stay {b : Nat} {Y : Nat → Value → List (Addr × Obj) → Prop} {i : Nat} {ys : List Value} {h h' : Heap} (j : JJ b Y i ys h) (k : ∀ a o, b < a → h.get? a = some o → h'.get? a = some o) : JJ b Y i ys h' :=
  let ⟨nw, h1, h2⟩ := j; ⟨nw, fun p hp => ⟨(h1 p hp).1, k _ _ (h1 p hp).1 (h1 p hp).2⟩, h2⟩
theorem JJ.step {b : Nat} {Y : Nat → Value → List (Addr × Obj) → Prop} {i : Nat} {ys : List Value} {h h' : Heap} {y : Value} {nw : List (Addr × Obj)} (hm : Mono Y) (j : JJ b Y i ys h) (hi : ys.length = i) (k : h.StaysIn h')
    (hn : ∀ p ∈ nw, b < p.1 ∧ h'.get? p.1 = some p.2) (hy : Y i y nw) : JJ b Y (i + 1) (ys ++ [y]) h' := by
  obtain ⟨nw₀, h1, h2⟩ := j
  refine ⟨nw ++ nw₀, fun p hp => ?_, fun a z hz => ?_⟩
  · rcases List.mem_append.mp hp with hp | hp
    · exact hn p hp
    · exact ⟨(h1 p hp).1, k _ _ (h1 p hp).2⟩
  · rcases Nat.lt_or_ge a ys.length with ha | ha
    · rw [List.getElem?_append_left ha] at hz
      exact hm _ _ _ _ (fun p hp => List.mem_append_right _ hp) (h2 a z hz)
    · rw [List.getElem?_append_right ha] at hz
      have : a - ys.length = 0 := by
        rcases Nat.eq_zero_or_pos (a - ys.length) with e | e
        · exact e
        · rw [List.getElem?_eq_none (by simp; omega)] at hz; cases hz
      rw [this] at hz
      obtain rfl : y = z := by simpa using hz
      obtain rfl : a = i := by omega
      exact hm _ _ _ _ (fun p hp => List.mem_append_left _ hp) hy
section
variable {prog : Program} {w : World} {A : Around} {s : Shared} {env : Env} {h₀ : Heap} {L l : Addr} {m : Str → Option Value} {news : List (Addr × Obj)} {Y : Nat → Value → List (Addr × Obj) → Prop} {scope : Scope} {cl : List (Str × Addr)} {elt : PySem.Expr}
theorem elt_done {s₂ : Shared} {h : Heap} {C : Addr} {m' : Str → Option Value} {i : Nat} {ys : List Value} {y : Value} {s₅ : Shared} (hm : Mono Y) (hn : h.Ns C m') (hi : ys.length = i) (j : JJ C Y i ys h) (e : EltEnd s₂ h C i Y y s₅) :
    CompDone s₂ C h (fun y h₅ => JJ C Y (i + 1) (ys ++ [y]) h₅) y s₅ := by
  obtain ⟨h₅, tk₅, nw, rfl, k, h1, h2⟩ := e
  exact turn_end hn k (j.step hm hi k h1 h2)
theorem lc_name {o : Obj} {St : Nat → Heap → Prop} {x : Str} {px : Pos} {i : Nat} {v : Value} {ys : List Value} (hx : scope.names.lookup x = some .local) (hkind : scope.kind = .function) (hm : Mono Y) (hi : ys.length = i)
    (F : Fr h₀ L s.heap m) (N : News h₀ L s.heap news)
    (H : ∀ C oC (m' : Str → Option Value) (h : Heap) (tk : Nat) (E' : Value → Shared → Prop), LCg.NsObj oC m' → m' x = some v → Fr h₀ L h m → News h₀ L h ((C, oC) :: news) → (∀ p ∈ news, p.1 < C) →
      wpAny (model prog w) A (eval elt (compEnvC scope cl C env)) (EltEnd { s with heap := s.heap.push o } h C i Y) E' { s with heap := h, toks := tk }) :
    CompTurn prog w A { s with heap := s.heap.push o } (.Name x px) elt scope cl env s.heap.objs.size St (JJ ((s.heap.push o).objs.size + 1) Y) i v ys := by
  refine CompTurn.name hx hkind (fun h h' j k => j.stay fun a o ha e => k a o ha e) ?_
  intro C m' h tk E' hC hn hxv hkb hJ
  obtain ⟨oC, hoC, F1, N1⟩ := comp_ctx F N hkb hC hn
  subst hC
  refine wpAny_mono (H _ oC m' h tk E' hoC hxv F1 N1 (fun p hp => ?_)) (fun y s₅ e => elt_done hm hn hi hJ e) fun _ _ e => e
  have := Heap.lt_size (N p hp).1
  show p.1 < (s.heap.push o).objs.size + 1
  rw [Heap.size_push]; exact Nat.lt_succ_of_lt (Nat.lt_succ_of_lt this)
theorem lc_tup2 {o : Obj} {St : Nat → Heap → Prop} {a b : Str} {pa pb tp : Pos} {kk : Nat} {i : Nat} {Tt ax : Addr} {u v : Value} {ys : List Value} (hh : A.handled = none) (ha : scope.names.lookup a = some .local) (hb : scope.names.lookup b = some .local) (nab : a ≠ b) (hkind : scope.kind = .function) (hm : Mono Y) (hi : ys.length = i)
    (F : Fr h₀ L s.heap m) (N : News h₀ L s.heap news) (hT : IsTup s.heap Tt #[u, v]) (hSt : ∀ h, St (i + 1) h → h.IsListIter s.heap.objs.size ax (i + 1))
    (H : ∀ C oC (m' : Str → Option Value) (h : Heap) (tk : Nat) (E' : Value → Shared → Prop), LCg.NsObj oC m' → m' a = some u → m' b = some v → Fr h₀ L h m → News h₀ L h ((C, oC) :: news) → (∀ p ∈ news, p.1 < C) →
      wpAny (model prog w) A (eval elt (compEnvC scope cl C env)) (EltEnd { s with heap := s.heap.push o } h C i Y) E' { s with heap := h, toks := tk }) :
    CompTurn prog w A { s with heap := s.heap.push o } (.Tuple [.Name a pa, .Name b pb] kk tp) elt scope cl env s.heap.objs.size St (JJ ((s.heap.push o).objs.size + 1) Y) i (.ref Tt) ys := by
  have hT2 : ({ s with heap := s.heap.push o } : Shared).heap.IsTuple Tt #[u, v] := by
    obtain ⟨t, e, r⟩ := hT
    exact ⟨t, Heap.get?_push_of_some _ e, r⟩
  have hTI : Tt ≠ s.heap.objs.size := by obtain ⟨t, e, _⟩ := hT; exact Nat.ne_of_lt (Heap.lt_size e)
  refine CompTurn.tuple2 hh ha hb nab hkind hT2 hTI hSt (fun h h' j k => j.stay fun a o ha e => k a o ha e) ?_
  intro C m' h tk E' hC hn h1 h2 hkb hJ
  obtain ⟨oC, hoC, F1, N1⟩ := comp_ctx F N hkb hC hn
  subst hC
  refine wpAny_mono (H _ oC m' h tk E' hoC h1 h2 F1 N1 (fun p hp => ?_)) (fun y s₅ e => elt_done hm hn hi hJ e) fun _ _ e => e
  have := Heap.lt_size (N p hp).1
  show p.1 < (s.heap.push o).objs.size + 1
  rw [Heap.size_push]; exact Nat.lt_succ_of_lt (Nat.lt_succ_of_lt this)
theorem lc_tup3 {o : Obj} {St : Nat → Heap → Prop} {a b c : Str} {pa pb pc tp : Pos} {kk : Nat} {i : Nat} {Tt ax : Addr} {u v z : Value} {ys : List Value} (hh : A.handled = none) (ha : scope.names.lookup a = some .local) (hb : scope.names.lookup b = some .local) (hc : scope.names.lookup c = some .local) (nab : a ≠ b) (nac : a ≠ c) (nbc : b ≠ c) (hkind : scope.kind = .function) (hm : Mono Y) (hi : ys.length = i)
    (F : Fr h₀ L s.heap m) (N : News h₀ L s.heap news) (hT : IsTup s.heap Tt #[u, v, z]) (hSt : ∀ h, St (i + 1) h → h.IsListIter s.heap.objs.size ax (i + 1))
    (H : ∀ C oC (m' : Str → Option Value) (h : Heap) (tk : Nat) (E' : Value → Shared → Prop), LCg.NsObj oC m' → m' a = some u → m' b = some v → m' c = some z → Fr h₀ L h m → News h₀ L h ((C, oC) :: news) → (∀ p ∈ news, p.1 < C) →
      wpAny (model prog w) A (eval elt (compEnvC scope cl C env)) (EltEnd { s with heap := s.heap.push o } h C i Y) E' { s with heap := h, toks := tk }) :
    CompTurn prog w A { s with heap := s.heap.push o } (.Tuple [.Name a pa, .Name b pb, .Name c pc] kk tp) elt scope cl env s.heap.objs.size St (JJ ((s.heap.push o).objs.size + 1) Y) i (.ref Tt) ys := by
  have hT2 : ({ s with heap := s.heap.push o } : Shared).heap.IsTuple Tt #[u, v, z] := by
    obtain ⟨t, e, r⟩ := hT
    exact ⟨t, Heap.get?_push_of_some _ e, r⟩
  have hTI : Tt ≠ s.heap.objs.size := by obtain ⟨t, e, _⟩ := hT; exact Nat.ne_of_lt (Heap.lt_size e)
  refine CompTurn.tuple3 hh ha hb hc nab nac nbc hkind hT2 hTI hSt (fun h h' j k => j.stay fun a o ha e => k a o ha e) ?_
  intro C m' h tk E' hC hn h1 h2 h3 hkb hJ
  obtain ⟨oC, hoC, F1, N1⟩ := comp_ctx F N hkb hC hn
  subst hC
  refine wpAny_mono (H _ oC m' h tk E' hoC h1 h2 h3 F1 N1 (fun p hp => ?_)) (fun y s₅ e => elt_done hm hn hi hJ e) fun _ _ e => e
  have := Heap.lt_size (N p hp).1
  show p.1 < (s.heap.push o).objs.size + 1
  rw [Heap.size_push]; exact Nat.lt_succ_of_lt (Nat.lt_succ_of_lt this)
/-- what stands behind a comprehension -/
theorem lc_fin {h : Heap} {ys nw : List _} {g : Heap} {o : Obj} {b : Nat} (F : Fr h₀ L g m) (N : News h₀ L g news) (hD : h.get? (g.push o).objs.size = some (LCg.lst ys)) (hb : g.objs.size ≤ b)
    (hk : KeptBut [g.objs.size, L] (g.push o) h) (hnw : ∀ p ∈ nw, b < p.1 ∧ h.get? p.1 = some p.2) :
    News h₀ L h (((g.push o).objs.size, LCg.lst ys) :: (nw ++ news)) := by
  have hs : (g.push o).objs.size = g.objs.size + 1 := Heap.size_push _ _
  have hL : L < g.objs.size := F.ns.lt
  have above : ∀ a : Nat, g.objs.size ≤ a → a ≠ L ∧ h₀.get? a = none := fun a ha => ⟨Nat.ne_of_gt (Nat.lt_of_lt_of_le hL ha), Heap.get?_none_of_le (Nat.le_trans F.above (Nat.le_trans (Nat.le_of_lt hL) ha))⟩
  intro p hp
  rcases List.mem_cons.mp hp with rfl | hp
  · exact ⟨hD, above _ (by show g.objs.size ≤ (g.push o).objs.size; rw [hs]; exact Nat.le_succ _)⟩
  · rcases List.mem_append.mp hp with hp | hp
    · exact ⟨(hnw p hp).2, above _ (Nat.le_trans hb (Nat.le_of_lt (hnw p hp).1))⟩
    · have z := N p hp
      refine ⟨hk _ _ ?_ (Heap.get?_push_of_some _ z.1), z.2⟩
      intro hm
      rcases List.mem_cons.mp hm with e | hm
      · exact absurd (Heap.lt_size z.1) (by rw [e]; exact Nat.lt_irrefl _)
      · exact z.2.1 (List.mem_singleton.mp hm)
theorem lc_fr {h : Heap} {g : Heap} {o : Obj} {m' : Str → Option Value} (F : Fr h₀ L g m) (hk : KeptBut [g.objs.size, L] (g.push o) h) (hn : h.Ns L m') : Fr h₀ L h m' := by
  refine ⟨hn, fun b ob e => ?_, F.above⟩
  have hlt := Heap.lt_size e
  refine hk b ob ?_ (Heap.get?_push_of_some _ (F.keep b ob e))
  intro hm
  rcases List.mem_cons.mp hm with e' | hm
  · exact absurd (Heap.lt_size (F.keep b ob e)) (by rw [e']; exact Nat.lt_irrefl _)
  · exact absurd (Nat.lt_of_lt_of_le hlt F.above) (by rw [List.mem_singleton.mp hm]; exact Nat.lt_irrefl _)
/-- a comprehension over a list -/
theorem lc_in {Fin : Shared → List Value → Heap → Nat → Prop} {target : PySem.Expr} {vs : List Value} {xs : List Addr} (hh : A.handled = none) (F : Fr h₀ L s.heap m) (N : News h₀ L s.heap news) (hl : s.heap.IsList l vs.toArray) (hsz : vs.length ≤ 4096) (hxs : ∀ b ∈ xs, b = L)
    (turn : ∀ i v ys, vs[i]? = some v → ys.length = i → CompTurn prog w A { s with heap := s.heap.push (itObj l) } target elt scope cl env s.heap.objs.size (fun i h => h.IsListIter s.heap.objs.size l i ∧ h.IsList l vs.toArray) (JJ ((s.heap.push (itObj l)).objs.size + 1) Y) i v ys)
    (fin : ∀ ys nw h tk, ys.length = vs.length → (∀ j y, ys[j]? = some y → Y j y nw) → (∀ p ∈ news, p.1 < (s.heap.push (itObj l)).objs.size) → (∀ p ∈ nw, (s.heap.push (itObj l)).objs.size < p.1) → (xs = [] → Fr h₀ L h m) → (∀ m', h.Ns L m' → Fr h₀ L h m') → News h₀ L h (((s.heap.push (itObj l)).objs.size, LCg.lst ys) :: (nw ++ news)) → Fin { s with heap := s.heap.push (itObj l) } ys h tk) :
    CompIn prog w A env target elt scope cl xs (Fin { s with heap := s.heap.push (itObj l) }) (.ref s.heap.objs.size) { s with heap := s.heap.push (itObj l) } := by
  have hne : l ≠ s.heap.objs.size := by obtain ⟨o, e, _⟩ := hl; exact Nat.ne_of_lt (Heap.lt_size e)
  have hlt : l < s.heap.objs.size := by obtain ⟨o, e, _⟩ := hl; exact Heap.lt_size e
  refine ⟨_, _, vs.length, _, _, JJ ((s.heap.push (itObj l)).objs.size + 1) Y, rfl, walks_list hh hne rfl, by rw [sizeLine_eq]; omega, ⟨⟨_, Heap.get?_push_size _ rfl, rfl, rfl⟩, hl.at fun o e => Heap.get?_push_of_some _ e⟩, ?_, JJ.nil, fun i ys h h' j k => j.stay fun a o ha e => k a o ha e, ?_, ?_⟩
  · intro b hb
    show b < (s.heap.push (itObj l)).objs.size
    rw [Heap.size_push]
    rcases List.mem_cons.mp hb with rfl | hb
    · exact Nat.lt_succ_self _
    · rw [List.mem_singleton.mp hb]; exact Nat.lt_succ_of_lt hlt
  · intro i v ys _ hv hy
    exact turn i v ys hv hy
  · intro ys h tk hyl hkb hD hJ
    obtain ⟨nw, h1, h2⟩ := hJ
    have hkb' : KeptBut [s.heap.objs.size, L] (s.heap.push (itObj l)) h := hkb.more fun b hb => by
      rcases List.mem_cons.mp hb with rfl | hb
      · exact .head _
      · rw [hxs b hb]; exact .tail _ (.head _)
    refine fin ys nw h tk hyl h2 (fun p hp => ?_) (fun p hp => Nat.lt_of_succ_lt (h1 p hp).1) (fun e => ?_) (fun m' hn => lc_fr F hkb' hn) (lc_fin F N hD (by rw [Heap.size_push]; exact Nat.le_succ_of_le (Nat.le_succ _)) hkb' h1)
    · rw [Heap.size_push]; exact Nat.lt_succ_of_lt (Heap.lt_size (N p hp).1)
    · subst e
      exact lc_fr F hkb' ((F.push (itObj l)).ns.at' fun o e => hkb L o (by simp only [List.mem_singleton]; exact Nat.ne_of_lt F.ns.lt) e)
/-- the same, told as a value -/
theorem lc_expr {E : Value → Shared → Prop} {Fin : Shared → List Value → Heap → Nat → Prop} {target : PySem.Expr} {vs : List Value} (hh : A.handled = none) (F : Fr h₀ L s.heap m) (N : News h₀ L s.heap news) (hl : s.heap.IsList l vs.toArray) (hsz : vs.length ≤ 4096)
    (turn : ∀ i v ys, vs[i]? = some v → ys.length = i → CompTurn prog w A { s with heap := s.heap.push (itObj l) } target elt scope cl env s.heap.objs.size (fun i h => h.IsListIter s.heap.objs.size l i ∧ h.IsList l vs.toArray) (JJ ((s.heap.push (itObj l)).objs.size + 1) Y) i v ys)
    (fin : ∀ ys nw h tk, ys.length = vs.length → (∀ j y, ys[j]? = some y → Y j y nw) → (∀ p ∈ news, p.1 < (s.heap.push (itObj l)).objs.size) → (∀ p ∈ nw, (s.heap.push (itObj l)).objs.size < p.1) → Fr h₀ L h m → News h₀ L h (((s.heap.push (itObj l)).objs.size, LCg.lst ys) :: (nw ++ news)) → Fin { s with heap := s.heap.push (itObj l) } ys h tk) :
    wpAny (model prog w) A (pyIter (.ref l)) (fun it s₂ => CompIn prog w A env target elt scope cl [] (Fin s₂) it s₂) E s :=
  wpAny_pyIter_list hl (lc_in (xs := []) hh F N hl hsz (fun _ h => nomatch h) turn fun ys nw h tk a b c d e _ f => fin ys nw h tk a b c d (e rfl) f)
/-- the same, stored -/
theorem lc_stmt {E : Value → Shared → Prop} {Fin : Shared → List Value → Heap → Nat → Prop} {target : PySem.Expr} {vs : List Value} (hh : A.handled = none) (F : Fr h₀ env.locals s.heap m) (N : News h₀ env.locals s.heap news) (hl : s.heap.IsList l vs.toArray) (hsz : vs.length ≤ 4096)
    (turn : ∀ i v ys, vs[i]? = some v → ys.length = i → CompTurn prog w A { s with heap := s.heap.push (itObj l) } target elt scope cl env s.heap.objs.size (fun i h => h.IsListIter s.heap.objs.size l i ∧ h.IsList l vs.toArray) (JJ ((s.heap.push (itObj l)).objs.size + 1) Y) i v ys)
    (fin : ∀ ys nw h tk, ys.length = vs.length → (∀ j y, ys[j]? = some y → Y j y nw) → (∀ p ∈ news, p.1 < (s.heap.push (itObj l)).objs.size) → (∀ p ∈ nw, (s.heap.push (itObj l)).objs.size < p.1) → (∀ m', h.Ns env.locals m' → Fr h₀ env.locals h m') → News h₀ env.locals h (((s.heap.push (itObj l)).objs.size, LCg.lst ys) :: (nw ++ news)) → Fin { s with heap := s.heap.push (itObj l) } ys h tk) :
    wpAny (model prog w) A (pyIter (.ref l)) (fun it s₂ => s₂.heap.Ns env.locals m ∧ (∀ I, it = .ref I → I ≠ env.locals) ∧ CompIn prog w A env target elt scope cl [env.locals] (Fin s₂) it s₂) E s :=
  wpAny_pyIter_list hl ⟨(F.push (itObj l)).ns, fun I e => by rw [← Value.ref.inj e]; exact Nat.ne_of_gt F.ns.lt, lc_in (xs := [env.locals]) hh F N hl hsz (fun _ h => List.mem_singleton.mp h) turn fun ys nw h tk a b c d _ e f => fin ys nw h tk a b c d e f⟩
end
end Mine
end
section
set_option Elab.async false
set_option maxRecDepth 100000
namespace Mine
open PySem PySem.W PySem.Calls PyProof.Rows
section
variable {prog : Program} {w : World} {A : Around} {E : Value → Shared → Prop} {s : Shared} {h₀ : Heap} {L : Addr} {news : List (Addr × Obj)} {value slice : PySem.Expr}
theorem pair_item {l : Addr} {t1 t2 t3 t4 u : Tok} {n : Nat} {i : Int} {Q : Value → Shared → Prop} (N : News h₀ L s.heap news) (hm : (l, W.listOf #[.str (Str.ofString "+/") t1, .str (Str.ofString "-_") t2, .str (Str.ofString "+|") t3, .str (Str.ofString "!(") t4] n) ∈ news)
    (h0 : 0 ≤ i) (h1 : i < 4) (h : ∀ pa pc t, okP pa pc → Q (.str (T [pa, pc]) t) s)
    (hs : subscripted slice false (.ref l) (.int i u) = operate [.ref l, .int i u] (getItem (.ref l) (.int i u)) := by with_unfolding_all rfl) :
    wpAny (model prog w) A (subscriptTail value slice (.ref l) (.int i u)) Q E s := by
  have e1 : Str.ofString "+/" = T [43, 47] := lit_of (by decide +kernel)
  have e2 : Str.ofString "-_" = T [45, 95] := lit_of (by decide +kernel)
  have e3 : Str.ofString "+|" = T [43, 124] := lit_of (by decide +kernel)
  have e4 : Str.ofString "!(" = T [33, 40] := lit_of (by decide +kernel)
  rw [e1, e2, e3, e4] at hm
  have hl := N.isList hm
  have hi : i = 0 ∨ i = 1 ∨ i = 2 ∨ i = 3 := by omega
  rcases hi with rfl | rfl | rfl | rfl
  · exact tail_any hl.typeIs slot_list_getitem.lookup (wpAny_getItem_list hl (by decide) (by decide) (by rfl) (h _ _ _ (.inl ⟨rfl, rfl⟩))) hs
  · exact tail_any hl.typeIs slot_list_getitem.lookup (wpAny_getItem_list hl (by decide) (by decide) (by rfl) (h _ _ _ (.inr (.inl ⟨rfl, rfl⟩)))) hs
  · exact tail_any hl.typeIs slot_list_getitem.lookup (wpAny_getItem_list hl (by decide) (by decide) (by rfl) (h _ _ _ (.inr (.inr (.inl ⟨rfl, rfl⟩))))) hs
  · exact tail_any hl.typeIs slot_list_getitem.lookup (wpAny_getItem_list hl (by decide) (by decide) (by rfl) (h _ _ _ (.inr (.inr (.inr ⟨rfl, rfl⟩))))) hs
end
end Mine
end
section
set_option Elab.async false
set_option maxRecDepth 100000
namespace Mine
open PySem PySem.W PySem.Calls PyProof.Rows
/-- a cell of the script, as a way and a port -/
noncomputable def plainOf (c : Int) : Nat × Nat := ((c.fmod 4).toNat, ((c.fdiv 4).fmod (10 ^ Int.toNat 8)).toNat)
theorem plainOf_lt (c : Int) : (plainOf c).1 < 4 ∧ (plainOf c).2 < 100000000 := by
  have h1 := Int.fmod_nonneg_of_pos c (show (0 : Int) < 4 by decide)
  have h2 := Int.fmod_lt_of_pos c (show (0 : Int) < 4 by decide)
  have h3 := Int.fmod_nonneg_of_pos (c.fdiv 4) (show (0 : Int) < 10 ^ Int.toNat 8 by decide)
  have h4 := Int.fmod_lt_of_pos (c.fdiv 4) (show (0 : Int) < 10 ^ Int.toNat 8 by decide)
  have e : (10 : Int) ^ Int.toNat 8 = 100000000 := rfl
  unfold plainOf
  rw [e] at h3 h4 ⊢
  constructor
  · show (c.fmod 4).toNat < 4; omega
  · show ((c.fdiv 4).fmod 100000000).toNat < 100000000; omega
theorem plainOf_1 (c : Int) : c.fmod 4 = ((plainOf c).1 : Int) := by
  have h1 := Int.fmod_nonneg_of_pos c (show (0 : Int) < 4 by decide)
  show c.fmod 4 = ((c.fmod 4).toNat : Int); omega
theorem plainOf_2 (c : Int) : (c.fdiv 4).fmod (10 ^ Int.toNat 8) = ((plainOf c).2 : Int) := by
  have h3 := Int.fmod_nonneg_of_pos (c.fdiv 4) (show (0 : Int) < 10 ^ Int.toNat 8 by decide)
  show _ = (((c.fdiv 4).fmod (10 ^ Int.toNat 8)).toNat : Int); omega
theorem okD_plain (cs : List Int) : okD (cs.map plainOf) := by
  intro p hp
  obtain ⟨c, _, rfl⟩ := List.mem_map.mp hp
  exact plainOf_lt c
/-- a pair of ints, told by the ledger -/
noncomputable def PlainIn (led : List (Addr × Obj)) (v : Value) (p : Nat × Nat) : Prop := ∃ d t1 t2, v = .ref d ∧ (d, tup2 (.int (p.1 : Int) t1) (.int (p.2 : Int) t2)) ∈ led
/-- a tuple of three, as it is made -/
abbrev tup3 (x y z : Value) : Obj := { cls := .type "tuple", data := .seq #[x, y, z] }
/-- a deed, told by the ledger -/
noncomputable def DeedIn (pa pc : Nat) (led : List (Addr × Obj)) (v : Value) (p : Nat × Nat) : Prop := ∃ d t1 t2 t3, v = .ref d ∧ (d, tup3 (.int (p.1 : Int) t1) (.str (T (bodyL p.2 pc)) t2) (.str (T [pa, pc]) t3)) ∈ led
/-- the j-th value is what R says of the j-th pair -/
noncomputable def YAll (R : List (Addr × Obj) → Value → Nat × Nat → Prop) (ds : List (Nat × Nat)) (j : Nat) (y : Value) (nw : List (Addr × Obj)) : Prop := ∀ p, ds[j]? = some p → R nw y p
theorem YAll.plain (ds : List (Nat × Nat)) : Mono (YAll PlainIn ds) := fun _ _ _ _ h y p e => let ⟨d, t1, t2, e1, e2⟩ := y p e; ⟨d, t1, t2, e1, h _ e2⟩
theorem YAll.deed (pa pc : Nat) (ds : List (Nat × Nat)) : Mono (YAll (DeedIn pa pc) ds) := fun _ _ _ _ h y p e => let ⟨d, t1, t2, t3, e1, e2⟩ := y p e; ⟨d, t1, t2, t3, e1, h _ e2⟩
theorem YAll.all {R : List (Addr × Obj) → Value → Nat × Nat → Prop} {ds : List (Nat × Nat)} {ys : List Value} {nw : List (Addr × Obj)} (hl : ys.length = ds.length) (h : ∀ j y, ys[j]? = some y → YAll R ds j y nw) : AllAre (R nw) ys ds := by
  refine ⟨hl, fun i p e => ?_⟩
  have hi : i < ds.length := by
    rcases Nat.lt_or_ge i ds.length with h | h
    · exact h
    · rw [List.getElem?_eq_none h] at e; cases e
  have e' : ys[i]? = some (ys[i]'(by omega)) := List.getElem?_eq_getElem (by omega)
  exact ⟨_, e', h i _ e' p e⟩
theorem AllAre.at {R : Value → Nat × Nat → Prop} {vs : List Value} {ds : List (Nat × Nat)} (a : AllAre R vs ds) {i : Nat} {v : Value} (h : vs[i]? = some v) : ∃ p, ds[i]? = some p ∧ R v p := by
  have hi : i < vs.length := by
    rcases Nat.lt_or_ge i vs.length with h' | h'
    · exact h'
    · rw [List.getElem?_eq_none h'] at h; cases h
  have e : ds[i]? = some (ds[i]'(by have := a.1; omega)) := List.getElem?_eq_getElem (by have := a.1; omega)
  obtain ⟨v', h1, h2⟩ := a.2 i _ e
  rw [h] at h1
  obtain rfl := Option.some.inj h1
  exact ⟨_, e, h2⟩
theorem ints_at {vs : List Value} {ns : List Int} (h : IntsAre vs ns) {i : Nat} {v : Value} (e : vs[i]? = some v) : ∃ n t, v = .int n t ∧ ns[i]? = some n := by
  have hi : i < vs.length := by
    rcases Nat.lt_or_ge i vs.length with h' | h'
    · exact h'
    · rw [List.getElem?_eq_none h'] at e; cases e
  have e2 : ns[i]? = some (ns[i]'(by have := h.length; omega)) := List.getElem?_eq_getElem (by have := h.length; omega)
  obtain ⟨t, ht⟩ := h.get i _ e2
  rw [e] at ht
  exact ⟨_, t, Option.some.inj ht, e2⟩
theorem Assign_F {prog : Program} {w : World} {A : Around} {E : Value → Shared → Prop} {s : Shared} {env : Env} {h₀ : Heap} {elt target iter : PySem.Expr} {y : Str} {py : Pos} {scope : Scope} {cl : List (Str × Addr)} {pos spos : Pos} {m : Str → Option Value} {Q : Flow → Shared → Prop}
    (_F : Fr h₀ env.locals s.heap m)
    (hsw : swapsWith (.ListComp elt [⟨target, iter, [], 0⟩] scope pos) (some (.Name y py)) spos.line env = pure true)
    (hclos : closureFor scope env = pure cl) (hcell : ∀ z ∈ scope.names, z.2 ≠ .cell) (hkind : scope.kind = .function)
    (hnames : ∀ z ∈ scope.names, z.2 = .local → scope.names.lookup z.1 = some .local)
    (hy : env.kindOf y = some .local) (hp : (env.scope.kind == .class || (env.scope.kind == .module && env.locals != env.globals)) = false)
    (h : wpAny (model prog w) A (eval iter env) (fun xv s₁ => wpAny (model prog w) A (pyIter xv) (fun it s₂ => s₂.heap.Ns env.locals m ∧ (∀ I, it = .ref I → I ≠ env.locals) ∧
      CompIn prog w A env target elt scope cl [env.locals] (fun _ h tk => h.Ns env.locals (fun z => if z = y then some (.ref s₂.heap.objs.size) else m z) → Q .next { s₂ with heap := h, toks := tk }) it s₂) E s₁) E s)
    (hs : ∀ x, foldedSetIterable iter env x = pure x := by intro _; rfl) :
    wpAny (model prog w) A (exec (.Assign [.Name y py] (.ListComp elt [⟨target, iter, [], 0⟩] scope pos) spos) env) Q E s :=
  Assign_ListComp_G (m := m) hsw hclos hcell hkind hnames hy hp h hs
/-- an element that makes a tuple: its end -/
theorem elt_tup {s₂ : Shared} {g : Heap} {h : Heap} {C : Addr} {oC : Obj} {tk : Nat} {i : Nat} {Y : Nat → Value → List (Addr × Obj) → Prop} {ob : Obj} (k : h.StaysIn g) (hC : g.get? C = some oC) (hf : ob.isFreed = false) (hy : Y i (.ref g.objs.size) [(g.objs.size, ob)]) :
    EltEnd s₂ h C i Y (.ref g.objs.size) { s₂ with heap := g.push ob, toks := tk } :=
  ⟨g.push ob, tk, [(g.objs.size, ob)], rfl, fun _ _ e => Heap.get?_push_of_some _ (k _ _ e), fun p hp => by rw [List.mem_singleton.mp hp]; exact ⟨Heap.lt_size hC, Heap.get?_push_size _ hf⟩, hy⟩
theorem elt_flat {s₂ : Shared} {h : Heap} {C : Addr} {tk : Nat} {i : Nat} {v : Value} {Y : Nat → Value → List (Addr × Obj) → Prop} (hy : Y i v []) :
    EltEnd s₂ h C i Y v { s₂ with heap := h, toks := tk } :=
  ⟨h, tk, [], rfl, fun _ _ e => e, fun _ hp => (nomatch hp), hy⟩
theorem news_first {h₀ h : Heap} {L : Addr} {x1 x2 x3 x4 x5 x6 x7 : Addr × Obj} (N : News h₀ L h [x1, x2, x3, x4, x5, x6, x7]) : News h₀ L h [x2, x5, x6, x7] := by
  intro p hp
  rcases List.mem_cons.mp hp with rfl | hp
  · exact N _ (.tail _ (.head _))
  · exact N p (.tail _ (.tail _ (.tail _ (.tail _ hp))))
theorem cells_ints {vs : List Value} {ns : List Int} {a b c d : Int} (h : IntsAre vs (List.take 8 ns ++ [a, b, c, d])) : ∃ cs, IntsAre vs cs ∧ cs.length ≤ 12 ∧ 0 < cs.length ∧ vs.length = cs.length := by
  refine ⟨_, h, ?_, ?_, h.length⟩
  · simp only [List.length_append, List.length_take, List.length_cons, List.length_nil]; omega
  · simp only [List.length_append, List.length_cons, List.length_nil]; omega
theorem news_second {h₀ h : Heap} {L : Addr} {a b c3 c2 c1 : Addr × Obj} {nw : List (Addr × Obj)} (N : News h₀ L h (a :: (nw ++ [b, c3, c2, c1]))) : News h₀ L h (a :: c3 :: c2 :: c1 :: nw) := by
  intro p hp
  refine N p ?_
  simp only [List.mem_cons, List.mem_append, List.not_mem_nil, or_false] at hp ⊢
  rcases hp with h | h | h | h | h
  · exact .inl h
  · exact .inr (.inr (.inr (.inl h)))
  · exact .inr (.inr (.inr (.inr (.inl h))))
  · exact .inr (.inr (.inr (.inr (.inr h))))
  · exact .inr (.inl h)
theorem news_third {h₀ h : Heap} {L : Addr} {a b c3 c2 c1 : Addr × Obj} {nw own : List (Addr × Obj)} (N : News h₀ L h (a :: (nw ++ b :: c3 :: c2 :: c1 :: own))) : News h₀ L h (a :: b :: c3 :: c2 :: c1 :: (nw ++ own)) := by
  intro p hp
  refine N p ?_
  simp only [List.mem_cons, List.mem_append] at hp ⊢
  rcases hp with h | h | h | h | h | h | h
  · exact .inl h
  · exact .inr (.inr (.inl h))
  · exact .inr (.inr (.inr (.inl h)))
  · exact .inr (.inr (.inr (.inr (.inl h))))
  · exact .inr (.inr (.inr (.inr (.inr (.inl h)))))
  · exact .inr (.inl h)
  · exact .inr (.inr (.inr (.inr (.inr (.inr h)))))
/-- the objects made so far lie behind the frame's cells -/
noncomputable def OwnAbove (L : Addr) (own : List (Addr × Obj)) : Prop := ∀ p ∈ own, L + 1 + 1 + 1 < p.1
theorem OwnAbove.of {L D : Addr} {nw : List (Addr × Obj)} (h1 : L + 1 + 1 + 1 < D) (h2 : ∀ p ∈ nw, D < p.1) : OwnAbove L nw := fun p hp => Nat.lt_trans h1 (h2 p hp)
theorem OwnAbove.app {L : Addr} {a b : List (Addr × Obj)} (h1 : OwnAbove L a) (h2 : OwnAbove L b) : OwnAbove L (a ++ b) := fun p hp => (List.mem_append.mp hp).elim (h1 p) (h2 p)
theorem AllAre.more {R : List (Addr × Obj) → Value → Nat × Nat → Prop} {ds : List (Nat × Nat)} {ys : List Value} {nw nw' : List (Addr × Obj)} (hm : Mono (YAll R ds)) (a : AllAre (R nw) ys ds) (h : ∀ p ∈ nw, p ∈ nw') : AllAre (R nw') ys ds :=
  ⟨a.1, fun i p e => let ⟨v, h1, h2⟩ := a.2 i p e; ⟨v, h1, hm i v nw nw' h (fun q e' => by rw [e] at e'; obtain rfl := Option.some.inj e'; exact h2) p e⟩⟩
theorem does_useS {w : World} {loose : List Str} {mean : ExcName → Option Value} {mg mb : Str → Option Value} {n : Nat} {f : Addr} {vs : List Value} {kw : List (Str × Value)} {pre : Heap → Prop} {R : Tok → Value}
    {dp un : Nat} {gd : Option (List Code)} {cn : Str} {cs : Scope} {L a : Addr} {ccd : Value} {cl : List (Str × Addr)} {outer : List Env} {s : Shared} {Q E : Value → Shared → Prop} {qv : Program} {A₀ : Around} {base h₀ : Heap} {m : Str → Option Value} {news : List (Addr × Obj)}
    (D : Does w loose mean mg mb n f vs kw pre R) (B : Below A₀ base outer h₀) (F : Fr h₀ L s.heap m) (X : (Mine.kk.heap_1 w.params).In h₀) (N : News h₀ L s.heap news) (T : Top qv loose mean mg mb h₀)
    (hk : cs.kind = .function) (hd : dp + n < recursionLimit) (hu : un + 8 * n + 8 < cLine) (hp : pre s.heap)
    (h : ∀ t h' tk', s.heap.StaysIn h' → Fr h₀ L h' m → News h₀ L h' news → Q (R t) { s with heap := h', toks := tk' }) :
    wpAny (model PySem.Challenge.rw_qh0047_01.row.prog w) (ktrTop dp un gd cn cs L a ccd cl outer) (call (.ref f) vs kw) Q E s :=
  D _ _ _ _ _ _ _ _ _ _ _ _ _ ⟨⟨qv, A₀, base, h₀, m, B, F, X, T⟩, hk, hd, hu⟩ hp fun t h' tk' k => h t h' tk' k (fr_stays F k) (news_stays N k)
theorem y_deed {pa pc : Nat} {ds : List (Nat × Nat)} {i : Nat} {p : Nat × Nat} {a : Addr} {t1 t2 t3 : Tok} (hc : ds[i]? = some p) :
    YAll (DeedIn pa pc) ds i (.ref a) [(a, { cls := .type "tuple", data := .seq [Value.int (p.1 : Int) t1, Value.str (T (bodyL p.2 pc)) t2, Value.str (T [pa, pc]) t3].toArray })] := by
  intro q hq
  rw [hc] at hq
  obtain rfl := Option.some.inj hq
  exact ⟨a, t1, t2, t3, rfl, .head _⟩
theorem PlainIn.tup {h₀ h : Heap} {L : Addr} {news own : List (Addr × Obj)} {v : Value} {p : Nat × Nat} (x : PlainIn own v p) (N : News h₀ L h news) (hs : ∀ q ∈ own, q ∈ news) : ∃ d t1 t2, v = .ref d ∧ IsTup h d #[.int (p.1 : Int) t1, .int (p.2 : Int) t2] :=
  let ⟨d, t1, t2, e, hm⟩ := x; ⟨d, t1, t2, e, _, (N _ (hs _ hm)).1, rfl, _, rfl⟩
theorem DeedIn.tup {pa pc : Nat} {h₀ h : Heap} {L : Addr} {news own : List (Addr × Obj)} {v : Value} {p : Nat × Nat} (x : DeedIn pa pc own v p) (N : News h₀ L h news) (hs : ∀ q ∈ own, q ∈ news) : DeedAt pa pc h v p :=
  let ⟨d, t1, t2, t3, e, hm⟩ := x; ⟨d, t1, t2, t3, e, _, (N _ (hs _ hm)).1, rfl, _, rfl⟩
theorem okP.name {a c : Nat} (_ : okP a c) : ∃ x y, x = a ∧ y = c := ⟨a, c, rfl, rfl⟩
theorem y_plain {cs : List Int} {i : Nat} {c : Int} {a : Addr} {t1 t2 : Tok} (hc : cs[i]? = some c) :
    YAll PlainIn (cs.map plainOf) i (.ref a) [(a, { cls := .type "tuple", data := .seq [Value.int (c.fmod 4) t1, Value.int ((c.fdiv 4).fmod (10 ^ Int.toNat 8)) t2].toArray })] := by
  intro p hp
  rw [List.getElem?_map, hc] at hp
  obtain rfl : plainOf c = p := by simpa using hp
  refine ⟨a, t1, t2, rfl, ?_⟩
  rw [plainOf_1, plainOf_2]
  exact .head _
end Mine
end
section
set_option Elab.async false
set_option maxRecDepth 100000
namespace Mine
open PySem PySem.W PySem.Calls PyProof.Rows
theorem does_body0 {w : World} {loose : List Str} {mean : ExcName → Option Value} {mg mb : Str → Option Value} {pa pc : Nat} {tp tq : Tok} : Does w loose mean mg mb 1 176 [.int 0 tp, .str (T [pa, pc]) tq] [] (fun _ => _root_.True) (fun t => .str (T (bodyL 0 pc)) t) :=
  does_swap (does_body (p := 0)) (fun _ _ => by decide) (fun _ _ => rfl)
section
variable {prog : Program} {w : World} {A : Around} {E : Value → Shared → Prop} {s : Shared} {Q : Value → Shared → Prop}
theorem c_iter_push {l : Addr} {items : Array Value} {h₀ : Heap} {L : Addr} {m : Str → Option Value} {news : List (Addr × Obj)} (F : Fr h₀ L s.heap m) (N : News h₀ L s.heap news) (hl : s.heap.IsList l items)
    (h : Fr h₀ L (s.heap.push (itObj l)) m → News h₀ L (s.heap.push (itObj l)) ((s.heap.objs.size, itObj l) :: news) → Q (.ref s.heap.objs.size) { s with heap := s.heap.push (itObj l) }) :
    wpAny (model prog w) A (call (.builtin "iter") [.ref l]) Q E s :=
  c_iter_list hl (h (F.push _) (News.push F N _ rfl))
theorem b_ne_same {b : Array UInt8} {t u : Tok} (h : Q (.bool false) s) : wpAny (model prog w) A (compareOp .NotEq (.bytes b t) (.bytes b u)) Q E s := ne_bytes (by rw [bne_self_eq_false]; exact h)
theorem c_encT {x : Str} {t : Tok} {b : Array UInt8} {u : Tok} (h : ∀ c ∈ x.cps, c < 128) (hn : 0 < x.length) (hfit : x.length ≤ 4096) (hb : x.cps.map Nat.toUInt8 = b) (hq : ∀ t' k, Q (.bytes b t') { s with toks := k }) :
    wpAny (model prog w) A (call (.builtin "str.encode") [.str x t, .str (Str.ofString "ascii") u]) Q E s := by
  subst hb
  exact c_encode h hn hfit hq
end
theorem news_due {h₀ h : Heap} {L : Addr} {x y a b c3 c2 c1 : Addr × Obj} {own : List (Addr × Obj)} (N : News h₀ L h (x :: y :: a :: b :: c3 :: c2 :: c1 :: own)) : News h₀ L h (a :: b :: c3 :: c2 :: c1 :: own) := fun p hp => N p (.tail _ (.tail _ hp))
/-- a text of signs below 128 -/
structure Plain128 (x : Str) (b : Array UInt8) : Prop where
  lo : ∀ c ∈ x.cps, c < 128
  pos : 0 < x.length
  fit : x.length ≤ 4096
  bytes : x.cps.map Nat.toUInt8 = b
theorem pair128 {a c : Nat} (h : okP a c) : Plain128 (T [a, c]) #[a.toUInt8, c.toUInt8] :=
  ⟨(pair_ok h).1, by rw [(pair_ok h).2]; decide, by rw [(pair_ok h).2]; decide, pair_bytes a c⟩
theorem body128 {a c : Nat} (p : Nat) (h : okP a c) : Plain128 (T (bodyL p c)) (bodyB p c) :=
  ⟨by rw [T_cps]; intro x hx; exact body_lt (okP_lt h).2 x (List.mem_toArray.mp hx), by rw [T_len, bodyL_len]; decide, by rw [T_len, bodyL_len]; decide, body_bytes p c⟩
/-- a pair of ints at a heap -/
noncomputable def PlainAt (h : Heap) (v : Value) (p : Nat × Nat) : Prop := ∃ d t1 t2, v = .ref d ∧ IsTup h d #[.int (p.1 : Int) t1, .int (p.2 : Int) t2]
theorem AllAre.news {h₀ h : Heap} {L : Addr} {news own : List (Addr × Obj)} {vs : List Value} {ds : List (Nat × Nat)} (a : AllAre (PlainIn own) vs ds) (N : News h₀ L h news) (hs : ∀ q ∈ own, q ∈ news) {i : Nat} {v : Value} {p : Nat × Nat} (hv : vs[i]? = some v) (hp : ds[i]? = some p) : PlainAt h v p := by
  obtain ⟨v', h1, h2⟩ := a.2 i p hp
  rw [hv] at h1
  obtain rfl := Option.some.inj h1
  exact h2.tup N hs
end Mine
end
section
set_option Elab.async false
set_option maxRecDepth 100000
namespace Mine
open PySem PySem.W PySem.Calls PyProof.Rows
/-- these values are f of these things -/
noncomputable def Are {α : Type} (f : α → Tok → Value) (vs : List Value) (xs : List α) : Prop := vs.length = xs.length ∧ ∀ (i : Nat) x, xs[i]? = some x → ∃ t, vs[i]? = some (f x t)
theorem Are.snoc {α : Type} {f : α → Tok → Value} {vs : List Value} {xs : List α} (a : Are f vs xs) (x : α) (t : Tok) : Are f (vs ++ [f x t]) (xs ++ [x]) := by
  refine ⟨by rw [List.length_append, List.length_append, a.1]; rfl, fun i y h => ?_⟩
  rcases Nat.lt_or_ge i xs.length with hi | hi
  · rw [List.getElem?_append_left hi] at h
    rw [List.getElem?_append_left (by rw [a.1]; exact hi)]
    exact a.2 i y h
  · rw [List.getElem?_append_right hi] at h
    have h0 : i - xs.length = 0 := by
      rcases Nat.eq_zero_or_pos (i - xs.length) with e | e
      · exact e
      · rw [List.getElem?_eq_none (by simp; omega)] at h; cases h
    rw [h0] at h
    obtain rfl : x = y := by simpa using h
    refine ⟨t, ?_⟩
    rw [List.getElem?_append_right (by rw [a.1]; exact hi), a.1, h0]; rfl
theorem Are.at {α : Type} {f : α → Tok → Value} {vs : List Value} {xs : List α} (a : Are f vs xs) {i : Nat} {v : Value} (h : vs[i]? = some v) : ∃ x t, xs[i]? = some x ∧ v = f x t := by
  have hi : i < vs.length := by
    rcases Nat.lt_or_ge i vs.length with h' | h'
    · exact h'
    · rw [List.getElem?_eq_none h'] at h; cases h
  have e : xs[i]? = some (xs[i]'(by have := a.1; omega)) := List.getElem?_eq_getElem (by have := a.1; omega)
  obtain ⟨t, ht⟩ := a.2 i _ e
  rw [h] at ht
  exact ⟨_, t, e, Option.some.inj ht⟩
/-- an int's value -/
noncomputable def vInt (n : Nat) (t : Tok) : Value := .int (n : Int) t
/-- a text's value -/
noncomputable def vTxt (l : List Nat) (t : Tok) : Value := .str (T l) t
/-- an element that needs no object -/
noncomputable def YFlat {α : Type} (f : α → Tok → Value) (xs : List α) (j : Nat) (y : Value) (_ : List (Addr × Obj)) : Prop := ∀ x, xs[j]? = some x → ∃ t, y = f x t
theorem YFlat.mono {α : Type} (f : α → Tok → Value) (xs : List α) : Mono (YFlat f xs) := fun _ _ _ _ _ y x e => y x e
theorem YFlat.mk {α : Type} {f : α → Tok → Value} {xs : List α} {j : Nat} {x : α} {t : Tok} (h : xs[j]? = some x) : YFlat f xs j (f x t) [] := fun x' h' => by
  rw [h] at h'
  obtain rfl := Option.some.inj h'
  exact ⟨t, rfl⟩
theorem YFlat.all {α : Type} {f : α → Tok → Value} {xs : List α} {ys : List Value} {nw : List (Addr × Obj)} (hl : ys.length = xs.length) (h : ∀ j y, ys[j]? = some y → YFlat f xs j y nw) : Are f ys xs := by
  refine ⟨hl, fun i x e => ?_⟩
  have hi : i < xs.length := by
    rcases Nat.lt_or_ge i xs.length with h | h
    · exact h
    · rw [List.getElem?_eq_none h] at e; cases e
  have e' : ys[i]? = some (ys[i]'(by omega)) := List.getElem?_eq_getElem (by omega)
  obtain ⟨t, ht⟩ := h i _ e' x e
  exact ⟨t, by rw [e', ht]⟩
theorem map_at {α β : Type} {l : List α} {f : α → β} {i : Nat} {x : α} (h : l[i]? = some x) : (l.map f)[i]? = some (f x) := by rw [List.getElem?_map, h]; rfl
/-- the ports of the script, and the last -/
noncomputable def portsL (ds : List (Nat × Nat)) (r : Nat) : List Nat := ds.map (·.2) ++ [r]
theorem portsL_lt {ds : List (Nat × Nat)} {r : Nat} (h : okD ds) (hr : r < 100000000) : ∀ q ∈ portsL ds r, q < 100000000 := by
  intro q hq
  rcases List.mem_append.mp hq with hq | hq
  · obtain ⟨p, hp, rfl⟩ := List.mem_map.mp hq
    exact (h p hp).2
  · rw [List.mem_singleton.mp hq]; exact hr
theorem portsL_len (ds : List (Nat × Nat)) (r : Nat) : (portsL ds r).length = ds.length + 1 := by unfold portsL; rw [List.length_append, List.length_map]; rfl
theorem news_drop {h₀ h : Heap} {L : Addr} {x : Addr × Obj} {nw news : List (Addr × Obj)} (N : News h₀ L h (x :: (nw ++ news))) : News h₀ L h (x :: news) := fun p hp => by
  rcases List.mem_cons.mp hp with rfl | hp
  · exact N _ (.head _)
  · exact N _ (.tail _ (List.mem_append_right _ hp))
section
variable {prog : Program} {w : World} {A : Around} {E : Value → Shared → Prop} {s : Shared} {h₀ : Heap} {L : Addr} {m : Str → Option Value} {news : List (Addr × Obj)}
theorem add_N {l b : Addr} {vs ws : List Value} {Q : Value → Shared → Prop} (F : Fr h₀ L s.heap m) (N : News h₀ L s.heap news) (hl : s.heap.IsList l vs.toArray) (hb : s.heap.IsList b ws.toArray) (hsz : vs.length + ws.length ≤ 4096)
    (h : ∀ (D : Nat) h', (∀ p ∈ news, @LT.lt Nat _ p.1 D) → Fr h₀ L h' m → News h₀ L h' ((D, { cls := .type "list", data := .seq (vs ++ ws).toArray }) :: news) → Q (.ref D) { s with heap := h' }) :
    wpAny (model prog w) A (binaryOp .Add (.ref l) (.ref b)) Q E s :=
  add_lists (hsz := by rw [sizeLine_eq]; omega) F N hl hb fun h' F' N' => h _ h' (fun p hp => Heap.lt_size (N p hp).1) F' N'
theorem updF2 {x1 x2 x3 p3 p1 : Addr × Obj} {c2 : Addr} {o2 : Obj} {own : List (Addr × Obj)} (n1 : @Ne Nat x1.1 c2) (n2 : @Ne Nat x2.1 c2) (n3 : @Ne Nat x3.1 c2) (n4 : @Ne Nat p3.1 c2) (n5 : @Ne Nat p1.1 c2) (n6 : ∀ p ∈ own, p.1 ≠ c2) :
    UpdF c2 o2 (x1 :: x2 :: x3 :: p3 :: (c2, o2) :: p1 :: own) (fun o' => x1 :: x2 :: x3 :: p3 :: (c2, o') :: p1 :: own) :=
  .tail n1 (.tail n2 (.tail n3 (.tail n4 (.head fun p hp => by
    rcases List.mem_cons.mp hp with rfl | hp
    · exact n5
    · exact n6 p hp))))
end
theorem OwnAbove.ne {L : Addr} {own : List (Addr × Obj)} (h : OwnAbove L own) {c : Addr} (hc : @LE.le Nat _ c (L + 1 + 1 + 1)) : ∀ p ∈ own, p.1 ≠ c := fun p hp => Nat.ne_of_gt (Nat.lt_of_le_of_lt hc (h p hp))
theorem news_ports {h₀ h : Heap} {L : Addr} {x y z : Addr × Obj} {news : List (Addr × Obj)} (N : News h₀ L h (x :: y :: z :: news)) : News h₀ L h (x :: news) := fun p hp => by
  rcases List.mem_cons.mp hp with rfl | hp
  · exact N _ (.head _)
  · exact N _ (.tail _ (.tail _ (.tail _ hp)))
theorem pv_gen {h₀ h : Heap} {L D : Addr} {ps : List Value} {ds : List (Nat × Nat)} {r : Nat} {t : Tok} {rest : List (Addr × Obj)} (N : News h₀ L h ((D, { cls := .type "list", data := .seq (ps ++ [Value.int (r : Int) t]).toArray }) :: rest)) (hps : Are vInt ps (ds.map fun p => p.2)) :
    ∃ pv, Are vInt pv (portsL ds r) ∧ News h₀ L h ((D, W.listOf pv.toArray 0) :: rest) := ⟨_, hps.snoc r t, N⟩
theorem bv_gen {h₀ h : Heap} {L D : Addr} {bs : List Value} {ds : List (Nat × Nat)} {r pc : Nat} {t : Tok} {rest : List (Addr × Obj)} (N : News h₀ L h ((D, { cls := .type "list", data := .seq (bs ++ [Value.str (T (bodyL r pc)) t]).toArray }) :: rest)) (hbs : Are vTxt bs (ds.map fun p => bodyL p.2 pc)) :
    ∃ bv, Are vTxt bv ((portsL ds r).map fun q => bodyL q pc) ∧ News h₀ L h ((D, W.listOf bv.toArray 0) :: rest) := by
  refine ⟨_, ?_, N⟩
  have e : ((portsL ds r).map fun q => bodyL q pc) = (ds.map fun p => bodyL p.2 pc) ++ [bodyL r pc] := by
    unfold portsL
    rw [List.map_append, List.map_map]; rfl
  rw [e]
  exact hbs.snoc (bodyL r pc) t
end Mine
end
section
set_option Elab.async false
set_option maxRecDepth 100000
namespace Mine
open PySem PySem.W PySem.Calls PyProof.Rows
section
variable {prog : Program} {w : World} {A : Around} {s : Shared} {env : Env} {h₀ : Heap} {L l : Addr} {m : Str → Option Value} {news : List (Addr × Obj)} {Y : Nat → Value → List (Addr × Obj) → Prop} {scope : Scope} {cl : List (Str × Addr)} {elt : PySem.Expr}
/-- a comprehension over any new iterator, told as a value -/
theorem lc_gen {Fin : Shared → List Value → Heap → Nat → Prop} {target : PySem.Expr} {o : Obj} {fp : List Addr} {n : Nat} {P : Nat → Value → Prop} {St : Nat → Heap → Prop} (W : Walks prog w A s.heap.objs.size fp [s.heap.objs.size] n P St) (F : Fr h₀ L s.heap m) (N : News h₀ L s.heap news) (hsz : n ≤ 4096)
    (hst : St 0 (s.heap.push o)) (hfp : ∀ b ∈ fp, b < (s.heap.push o).objs.size)
    (turn : ∀ i v ys, i < n → P i v → ys.length = i → CompTurn prog w A { s with heap := s.heap.push o } target elt scope cl env s.heap.objs.size St (JJ ((s.heap.push o).objs.size + 1) Y) i v ys)
    (fin : ∀ ys nw h tk, ys.length = n → (∀ j y, ys[j]? = some y → Y j y nw) → (∀ p ∈ news, p.1 < (s.heap.push o).objs.size) → (∀ p ∈ nw, (s.heap.push o).objs.size < p.1) → Fr h₀ L h m → News h₀ L h (((s.heap.push o).objs.size, LCg.lst ys) :: (nw ++ news)) → Fin { s with heap := s.heap.push o } ys h tk) :
    CompIn prog w A env target elt scope cl [] (Fin { s with heap := s.heap.push o }) (.ref s.heap.objs.size) { s with heap := s.heap.push o } := by
  refine ⟨_, _, n, _, _, JJ ((s.heap.push o).objs.size + 1) Y, rfl, W, by rw [sizeLine_eq]; omega, hst, hfp, JJ.nil, fun i ys h h' j k => j.stay fun a o ha e => k a o ha e, turn, ?_⟩
  intro ys h tk hyl hkb hD hJ
  obtain ⟨nw, h1, h2⟩ := hJ
  have hkb' : KeptBut [s.heap.objs.size, L] (s.heap.push o) h := hkb.more fun b hb => by rw [List.mem_singleton.mp hb]; exact .head _
  refine fin ys nw h tk hyl h2 (fun p hp => ?_) (fun p hp => Nat.lt_of_succ_lt (h1 p hp).1) (lc_fr F hkb' ?_) (lc_fin F N hD (by rw [Heap.size_push]; exact Nat.le_succ_of_le (Nat.le_succ _)) hkb' h1)
  · rw [Heap.size_push]; exact Nat.lt_succ_of_lt (Heap.lt_size (N p hp).1)
  · exact (F.push o).ns.at' fun ob e => hkb L ob (by simp only [List.mem_singleton]; exact Nat.ne_of_lt F.ns.lt) e
/-- over a bytes -/
theorem lc_bytes {E : Value → Shared → Prop} {Fin : Shared → List Value → Heap → Nat → Prop} {target : PySem.Expr} {b : Array UInt8} {t : Tok} (hh : A.handled = none) (F : Fr h₀ L s.heap m) (N : News h₀ L s.heap news) (hsz : b.size ≤ 4096)
    (turn : ∀ i c u ys, b[i]? = some c → ys.length = i → CompTurn prog w A { s with heap := s.heap.push { cls := .type "bytes_iterator", data := .fields #[.bytes b t, .int 0 0] } } target elt scope cl env s.heap.objs.size (fun i h => KBw.IsBytesIter h s.heap.objs.size b t i) (JJ ((s.heap.push { cls := .type "bytes_iterator", data := .fields #[.bytes b t, .int 0 0] }).objs.size + 1) Y) i (.int (c.toNat : Int) u) ys)
    (fin : ∀ ys nw h tk, ys.length = b.size → (∀ j y, ys[j]? = some y → Y j y nw) → (∀ p ∈ news, p.1 < (s.heap.push { cls := .type "bytes_iterator", data := .fields #[.bytes b t, .int 0 0] }).objs.size) → (∀ p ∈ nw, (s.heap.push { cls := .type "bytes_iterator", data := .fields #[.bytes b t, .int 0 0] }).objs.size < p.1) → Fr h₀ L h m → News h₀ L h (((s.heap.push { cls := .type "bytes_iterator", data := .fields #[.bytes b t, .int 0 0] }).objs.size, LCg.lst ys) :: (nw ++ news)) → Fin { s with heap := s.heap.push { cls := .type "bytes_iterator", data := .fields #[.bytes b t, .int 0 0] } } ys h tk) :
    wpAny (model prog w) A (pyIter (.bytes b t)) (fun it s₂ => CompIn prog w A env target elt scope cl [] (Fin s₂) it s₂) E s := by
  refine KBw.pyIter_bytes (lc_gen (KBw.walks hh s.heap.objs.size b t) F N hsz ⟨_, Heap.get?_push_size _ rfl, rfl, rfl⟩ (fun a ha => ?_) (fun i v ys _ hv hy => ?_) fin)
  · rw [List.mem_singleton.mp ha, Heap.size_push]; exact Nat.lt_succ_self _
  · obtain ⟨c, u, hc, rfl⟩ := hv
    exact turn i c u ys hc hy
end
/-- a sign's value -/
noncomputable def vChr (c : Nat) (t : Tok) : Value := .str (T [c]) t
theorem are_carried {α : Type} {f : α → Tok → Value} {g : α → PyData} (hf : ∀ x t, Carried (f x t) (g x)) : ∀ {vs : List Value} {xs : List α}, Are f vs xs → CarriedAll vs (xs.map g)
  | [], [], _ => .nil
  | [], _ :: _, h => by cases h.1
  | _ :: _, [], h => by cases h.1
  | v :: vs, x :: xs, h => by
    obtain ⟨t, ht⟩ := h.2 0 x rfl
    obtain rfl : v = f x t := by simpa using ht
    exact .cons (hf x t) (are_carried hf ⟨by simpa using h.1, fun i y e => h.2 (i + 1) y e⟩)
theorem join_ones : ∀ l : List Nat, Str.join (T []) (l.map fun c => T [c]) = T l
  | [] => by unfold T; rfl
  | [c] => rfl
  | c :: d :: r => by
    show T [c] ++ T [] ++ Str.join (T []) ((d :: r).map fun c => T [c]) = T (c :: d :: r)
    rw [join_ones (d :: r), T_app, T_app]; rfl
theorem txt_join (l : List Nat) : Txt.join (Str.ofString "") (l.map fun c => T [c]) = T l := by
  show Builtin.Str.glued (Str.ofString "") _ = _
  rw [StrLaws.glued_eq_join, lit_of (s := "") (l := []) (by decide +kernel)]
  exact join_ones l
section
variable {prog : Program} {w : World} {A : Around} {E : Value → Shared → Prop} {s : Shared} {Q : Value → Shared → Prop} {D : Addr} {ys : List Value} {l : List Nat} {t : Tok}
theorem t_join (hl : s.heap.IsList D ys.toArray) (ha : Are vChr ys l) (hn : l.length ≤ 4096) (h : ∀ t' k, Q (.str (T l) t') { s with toks := k }) :
    wpAny (model prog w) A (call (.builtin "str.join") [.str (Str.ofString "") t, .ref D]) Q E s := by
  refine KT.join_1 (l := l) (g := fun c => T [c]) hl (are_carried (f := vChr) (g := fun c => PyData.str (T [c])) (fun x t => .str _ t) ha) (fun a _ => T_len _) (by omega) fun t' k _ => ?_
  rw [txt_join]
  exact h t' k
theorem t_chr {c : Nat} (hc : c < 1114112) (h : ∀ t' k, Q (.str (T [c]) t') { s with toks := k }) : wpAny (model prog w) A (call (.builtin "chr") [.int (c : Int) t]) Q E s := by
  refine chr_of_range (by omega) (by omega) ?_
  rw [Int.toNat_natCast, show (⟨#[c]⟩ : Str) = T [c] from (T_one c).symm]
  exact h _ _
end
theorem bodyB_at {p c i : Nat} {x : UInt8} (hc : c < 128) (h : (bodyB p c)[i]? = some x) : (bodyL p c)[i]? = some x.toNat := by
  unfold bodyB at h
  rw [List.getElem?_toArray, List.getElem?_map] at h
  cases e : (bodyL p c)[i]? with
  | none => rw [e] at h; cases h
  | some y =>
    rw [e] at h
    obtain rfl : y.toUInt8 = x := by simpa using h
    have := body_lt hc y (List.mem_of_getElem? e)
    show some y = some (y % 256)
    rw [Nat.mod_eq_of_lt (by omega)]
end Mine
end
section
set_option Elab.async false
set_option maxRecDepth 100000
namespace Mine
open PySem PySem.W PySem.Calls PyProof.Rows
theorem news_bodies {h₀ h : Heap} {L : Addr} {x y z u v d e : Addr × Obj} {news : List (Addr × Obj)} (N : News h₀ L h (x :: y :: z :: u :: v :: d :: e :: news)) : News h₀ L h (x :: v :: news) := fun p hp => by
  rcases List.mem_cons.mp hp with rfl | hp
  · exact N _ (.head _)
  rcases List.mem_cons.mp hp with rfl | hp
  · exact N _ (.tail _ (.tail _ (.tail _ (.tail _ (.head _)))))
  · exact N _ (.tail _ (.tail _ (.tail _ (.tail _ (.tail _ (.tail _ (.tail _ hp)))))))
theorem updF3 {x1 x2 x3 p2 p1 : Addr × Obj} {c3 : Addr} {o3 : Obj} {own : List (Addr × Obj)} (n1 : @Ne Nat x1.1 c3) (n2 : @Ne Nat x2.1 c3) (n3 : @Ne Nat x3.1 c3) (n4 : @Ne Nat p2.1 c3) (n5 : @Ne Nat p1.1 c3) (n6 : ∀ p ∈ own, p.1 ≠ c3) :
    UpdF c3 o3 (x1 :: x2 :: x3 :: (c3, o3) :: p2 :: p1 :: own) (fun o' => x1 :: x2 :: x3 :: (c3, o') :: p2 :: p1 :: own) :=
  .tail n1 (.tail n2 (.tail n3 (.head fun p hp => by
    rcases List.mem_cons.mp hp with rfl | hp
    · exact n4
    rcases List.mem_cons.mp hp with rfl | hp
    · exact n5
    · exact n6 p hp)))
noncomputable def exL : List Nat := [46, 101, 120, 97, 109, 112, 108, 101]
theorem ex_lit : Str.ofString ".example" = T exL := lit_of (by decide +kernel)
/-- a host's signs -/
noncomputable def hostL (q : Nat) : List Nat := tx q ++ exL
end Mine
end
section
set_option Elab.async false
set_option maxRecDepth 100000
namespace Mine
open PySem PySem.W PySem.Calls PyProof.Rows
theorem range_small' : ∀ n, n < 14 → Builtin.Range.small 0 ((n : Nat) : Int) 1 = true ∧ Builtin.Range.rangeSize 0 ((n : Nat) : Int) 1 = ((n : Nat) : Int) := by decide +kernel
theorem range_small {n : Nat} (h : n ≤ 13) : Builtin.Range.small 0 ((n : Nat) : Int) 1 = true ∧ Builtin.Range.rangeSize 0 ((n : Nat) : Int) 1 = ((n : Nat) : Int) := range_small' n (Nat.lt_succ_of_le h)
section
variable {prog : Program} {w : World} {A : Around} {E : Value → Shared → Prop} {s : Shared}
theorem iter_range {r : Addr} {n : Nat} {t u v : Tok} {Q : Value → Shared → Prop} (hr : IsRange s.heap r 0 ((n : Nat) : Int) 1 t u v) (hn : n ≤ 13)
    (hQ : Q (.ref s.heap.objs.size) { s with heap := s.heap.push { cls := .type "range_iterator", data := .fields #[rawInt 0, rawInt ((n : Nat) : Int), rawInt 1] } }) : wpAny (model prog w) A (pyIter (.ref r)) Q E s := by
  obtain ⟨h1, h2⟩ := range_small hn
  refine wpAny_pyIter_range hr h1 ?_
  rw [h2]
  exact hQ
/-- a walk over 0, 1 .. -/
theorem walks_range (hh : A.handled = none) (I : Addr) (n : Nat) : Walks prog w A I [I] [I] n (fun i v => ∃ t, v = .int ((i : Nat) : Int) t) (fun i h => IsRangeIter h I (0 + (i : Nat) * 1) ((n : Int) - (i : Nat)) 1) := by
  have W := Walks.range (prog := prog) (w := w) hh I 0 1 n
  simpa using W
end
/-- what is told at the end of a turn -/
noncomputable def ToldEnd (h₀ : Heap) (L l : Addr) (m₀ : Str → Option Value) (base : List (Addr × Obj)) (us : List Value) (c : Nat) (RO : Obj → Prop) (s₁ : Shared) (f : Flow) (s₂ : Shared) : Prop :=
  f = .next ∧ ∃ h' tk' m' D ob, s₂ = { s₁ with heap := h', toks := tk' } ∧ Fr h₀ L h' m' ∧ News h₀ L h' ((l, W.listOf (us ++ [Value.ref D]).toArray (c + 1)) :: (D, ob) :: base) ∧ D ≠ l ∧ (∀ p ∈ base, p.1 ≠ D) ∧ RO ob ∧
    ∀ z : Str, z ≠ ("k" : Str) → z ≠ ("reply" : Str) → z ≠ ("peer" : Str) → m' z = m₀ z
/-- the tuples told so far -/
noncomputable def Told (RO : Nat → Obj → Prop) (us : List Value) (own : List (Addr × Obj)) : Prop := ∀ j v, us[j]? = some v → ∃ D ob, v = .ref D ∧ (D, ob) ∈ own ∧ RO j ob
theorem Told.nil {RO : Nat → Obj → Prop} {own : List (Addr × Obj)} : Told RO [] own := fun j v e => by simp at e
theorem Told.snoc {RO : Nat → Obj → Prop} {us : List Value} {own : List (Addr × Obj)} {D : Addr} {ob : Obj} (h : Told RO us own) (hR : RO us.length ob) : Told RO (us ++ [Value.ref D]) ((D, ob) :: own) := by
  intro j v e
  rcases Nat.lt_or_ge j us.length with hj | hj
  · rw [List.getElem?_append_left hj] at e
    obtain ⟨D', ob', h1, h2, h3⟩ := h j v e
    exact ⟨D', ob', h1, .tail _ h2, h3⟩
  · rw [List.getElem?_append_right hj] at e
    obtain ⟨k, rfl⟩ := Nat.le.dest hj
    rw [Nat.add_sub_cancel_left] at e
    cases k with
    | zero => exact ⟨D, ob, (Option.some.inj e).symm, .head _, hR⟩
    | succ k => cases e
section
variable {prog : Program} {w : World} {A : Around} {E : Value → Shared → Prop} {s : Shared} {env : Env} {h₀ : Heap} {body : List Stmt} {Q : Flow → Shared → Prop}
theorem told_loop {r l : Addr} {n : Nat} {t u v : Tok} {m₀ : Str → Option Value} {bl : List (Addr × Obj)} (RO : Nat → Obj → Prop) (hh : A.handled = none) (hr : IsRange s.heap r 0 ((n : Nat) : Int) 1 t u v) (hn : n ≤ 13)
    (F : Fr h₀ env.locals s.heap m₀) (N : News h₀ env.locals s.heap ((l, W.listOf #[] 0) :: bl)) (hbl : ∀ p ∈ bl, p.1 ≠ l)
    (turn : ∀ (i : Nat) (t : Tok) (u1 u2 : Option Value) (h : Heap) (tk : Nat) (us : List Value) (c : Nat) (own : List (Addr × Obj)), i < n → us.length = i → (∀ p ∈ own, p.1 ≠ l) →
      Fr h₀ env.locals h (fun z => if z = ("k" : Str) then some (.int ((i : Nat) : Int) t) else if z = ("reply" : Str) then u1 else if z = ("peer" : Str) then u2 else m₀ z) → News h₀ env.locals h ((l, W.listOf us.toArray c) :: (bl ++ own)) →
      wpAny (model prog w) A (execs body env) (ToldEnd h₀ env.locals l m₀ (bl ++ own) us c (RO i) { s with heap := h, toks := tk }) E { s with heap := h, toks := tk })
    (done : ∀ (u0 u1 u2 : Option Value) (h : Heap) (tk : Nat) (us : List Value) (c : Nat) (own : List (Addr × Obj)), us.length = n → Told RO us own → (∀ p ∈ own, p.1 ≠ l) → Fr h₀ env.locals h (fun z => if z = ("k" : Str) then u0 else if z = ("reply" : Str) then u1 else if z = ("peer" : Str) then u2 else m₀ z) → News h₀ env.locals h ((l, W.listOf us.toArray c) :: (bl ++ own)) → Q .next { s with heap := h, toks := tk }) :
    wpAny (model prog w) A (pyIter (.ref r)) (fun it s₂ => LoopAtV prog w A h₀ env "k" body Q E it s₂) E s := by
  have fr : ∀ {m₁ : Str → Option Value}, (∀ z : Str, z ≠ ("k" : Str) → z ≠ ("reply" : Str) → z ≠ ("peer" : Str) → m₁ z = m₀ z) → ∀ u0, (fun z => if z = ("k" : Str) then u0 else m₁ z) = fun z => if z = ("k" : Str) then u0 else if z = ("reply" : Str) then m₁ "reply" else if z = ("peer" : Str) then m₁ "peer" else m₀ z := by
    intro m₁ hm u0
    funext z
    by_cases e1 : z = ("k" : Str)
    · rw [if_pos e1, if_pos e1]
    rw [if_neg e1, if_neg e1]
    by_cases e2 : z = ("reply" : Str)
    · rw [if_pos e2, e2]
    rw [if_neg e2]
    by_cases e3 : z = ("peer" : Str)
    · rw [if_pos e3, e3]
    rw [if_neg e3]
    exact hm z e1 e2 e3
  refine iter_range hr hn ?_
  refine ⟨s.heap.objs.size, _, _, n, _, _, m₀, (l, W.listOf #[] 0) :: bl, fun i m nx => ∃ us c own, nx = (l, W.listOf us.toArray c) :: (bl ++ own) ∧ us.length = i ∧ (∀ p ∈ own, p.1 ≠ l) ∧ Told RO us own ∧ ∀ z : Str, z ≠ ("k" : Str) → z ≠ ("reply" : Str) → z ≠ ("peer" : Str) → m z = m₀ z,
    rfl, walks_range hh s.heap.objs.size n, ?_, ?_, ?_, ?_, F.push _, N.pushKeep _, ⟨[], 0, [], by rw [List.append_nil], rfl, (fun p hp => nomatch hp), Told.nil, fun _ _ _ _ => rfl⟩, ?_, ?_⟩
  · intro hm
    exact absurd F.ns.lt (by rw [List.mem_singleton.mp hm]; exact Nat.lt_irrefl _)
  · intro b hb
    rw [List.mem_singleton.mp hb]; exact next_is_new F
  · intro p hp hm
    exact absurd (Heap.lt_size (N p hp).1) (by rw [List.mem_singleton.mp hm]; exact Nat.lt_irrefl _)
  · show IsRangeIter _ _ _ _ _
    simpa using Heap.get?_push_size _ rfl
  · rintro i v m₁ news₁ s₁ own ⟨h, tk, rfl⟩ hi ⟨t, rfl⟩ ⟨us, c, own2, rfl, hul, hol, hT, hm⟩ hoff hfp hst hall _ F₁ N₁
    have hI : ∀ p ∈ own, p.1 ≠ l := fun p hp e => by
      have h1 := List.mem_singleton.mp (hfp p hp)
      have := Heap.lt_size (N _ (.head _)).1
      rw [h1] at e
      exact absurd this (by rw [← e]; exact Nat.lt_irrefl _)
    have N₂ : News h₀ env.locals h ((l, W.listOf us.toArray c) :: (bl ++ (own2 ++ own))) := fun p hp => by
      refine N₁ p ?_
      rcases List.mem_cons.mp hp with rfl | hp
      · exact List.mem_append_right _ (.head _)
      · rcases List.mem_append.mp hp with hp | hp
        · exact List.mem_append_right _ (.tail _ (List.mem_append_left _ hp))
        · rcases List.mem_append.mp hp with hp | hp
          · exact List.mem_append_right _ (.tail _ (List.mem_append_right _ hp))
          · exact List.mem_append_left _ hp
    rw [fr hm] at F₁
    refine wpAny_mono (turn i t (m₁ "reply") (m₁ "peer") h tk us c (own2 ++ own) hi hul (fun p hp => (List.mem_append.mp hp).elim (hol p) (hI p)) F₁ N₂) (fun f s₂ q => ?_) fun _ _ e => e
    obtain ⟨rfl, h', tk', m', D, ob, rfl, F', N', hDl, hDb, hR, hm'⟩ := q
    refine .next ⟨rfl, h', tk', m', (l, W.listOf (us ++ [Value.ref D]).toArray (c + 1)) :: (bl ++ ((D, ob) :: own2)), rfl, F', ?_, ?_, us ++ [Value.ref D], c + 1, (D, ob) :: own2, rfl, by rw [List.length_append, hul]; rfl, ?_, hT.snoc (hul ▸ hR), hm'⟩
    · intro p hp
      refine N' p ?_
      rcases List.mem_append.mp hp with hp | hp
      · exact .tail _ (.tail _ (List.mem_append_right _ (List.mem_append_right _ hp)))
      · rcases List.mem_cons.mp hp with rfl | hp
        · exact .head _
        · rcases List.mem_append.mp hp with hp | hp
          · exact .tail _ (.tail _ (List.mem_append_left _ hp))
          · rcases List.mem_cons.mp hp with rfl | hp
            · exact .tail _ (.head _)
            · exact .tail _ (.tail _ (List.mem_append_right _ (List.mem_append_left _ hp)))
    · intro p hp
      rcases List.mem_cons.mp hp with rfl | hp
      · exact hoff (l, W.listOf us.toArray c) (.head _)
      · rcases List.mem_append.mp hp with hp | hp
        · exact hoff _ (.tail _ (List.mem_append_left _ hp))
        · rcases List.mem_cons.mp hp with rfl | hp
          · intro hmem
            have e := List.mem_singleton.mp hmem
            cases hg : h.get? s.heap.objs.size with
            | none =>
              have := F₁.ns
              exact absurd hg (by
                intro hg
                have hst' : IsRangeIter h s.heap.objs.size _ _ _ := ‹_›
                rw [show h.get? s.heap.objs.size = some _ from hst'] at hg
                cases hg)
            | some o =>
              have hmem2 := hall s.heap.objs.size (.head _) (next_is_new F) o hg
              exact hDb _ (List.mem_append_right _ (List.mem_append_right _ hmem2)) e.symm
          · exact hoff _ (.tail _ (List.mem_append_right _ hp))
    · intro p hp
      rcases List.mem_cons.mp hp with rfl | hp
      · exact hDl
      · exact hol p hp
  · rintro h' tk m' news' F' N' _ ⟨us, c, own2, rfl, hul, hol, hT, hm⟩
    refine done (m' "k") (m' "reply") (m' "peer") h' tk us c own2 hul hT hol ?_ N'
    rw [← fr hm]
    have : (fun z => if z = ("k" : Str) then m' "k" else m' z) = m' := by
      funext z
      by_cases e : z = ("k" : Str)
      · rw [if_pos e, e]
      · rw [if_neg e]
    rw [this]
    exact F'
end
end Mine
end
section
set_option Elab.async false
set_option maxRecDepth 100000
namespace Mine
open PySem PySem.W PySem.Calls PyProof.Rows
theorem bl_ne {l : Nat} {x8 x7 x4 p3 p2 p1 : Addr × Obj} {own : List (Addr × Obj)} (h8 : @Ne Nat x8.1 l) (h7 : @Ne Nat x7.1 l) (h4 : @Ne Nat x4.1 l) (h3 : @Ne Nat p3.1 l) (h2 : @Ne Nat p2.1 l) (h1 : @Ne Nat p1.1 l) (ho : ∀ p ∈ own, @Ne Nat p.1 l) :
    ∀ p ∈ x8 :: x7 :: x4 :: p3 :: p2 :: p1 :: own, p.1 ≠ l := by
  intro p hp
  rcases List.mem_cons.mp hp with rfl | hp
  · exact h8
  rcases List.mem_cons.mp hp with rfl | hp
  · exact h7
  rcases List.mem_cons.mp hp with rfl | hp
  · exact h4
  rcases List.mem_cons.mp hp with rfl | hp
  · exact h3
  rcases List.mem_cons.mp hp with rfl | hp
  · exact h2
  rcases List.mem_cons.mp hp with rfl | hp
  · exact h1
  · exact ho p hp
theorem bl_of {h₀ h : Heap} {L : Addr} {l : Nat} {lo : Obj} {x8 x7 x4 p3 p2 p1 : Addr × Obj} {own : List (Addr × Obj)} (_ : News h₀ L h ((l, lo) :: x8 :: x7 :: x4 :: p3 :: p2 :: p1 :: own)) (h8 : @Ne Nat x8.1 l) (h7 : @Ne Nat x7.1 l) (h4 : @Ne Nat x4.1 l) (h3 : @Ne Nat p3.1 l) (h2 : @Ne Nat p2.1 l) (h1 : @Ne Nat p1.1 l) (ho : ∀ p ∈ own, @Ne Nat p.1 l) :
    ∀ p ∈ x8 :: x7 :: x4 :: p3 :: p2 :: p1 :: own, p.1 ≠ l := bl_ne h8 h7 h4 h3 h2 h1 ho
section
variable {w : World} {loose : List Str} {mean : ExcName → Option Value} {mg mb : Str → Option Value}
theorem doesN_use {n : Nat} {f : Addr} {vs : List Value} {kw : List (Str × Value)} {pre : Heap → Prop} {R : Obj → Prop}
    {dp un : Nat} {gd : Option (List Code)} {cn : Str} {cs : Scope} {L a : Addr} {ccd : Value} {cl : List (Str × Addr)} {outer : List Env} {s : Shared} {Q E : Value → Shared → Prop} {qv : Program} {A₀ : Around} {base h₀ : Heap} {m : Str → Option Value} {news : List (Addr × Obj)}
    (D : DoesN w loose mean mg mb n f vs kw pre R) (B : Below A₀ base outer h₀) (F : Fr h₀ L s.heap m) (X : (Mine.kk.heap_1 w.params).In h₀) (N : News h₀ L s.heap news) (T : Top qv loose mean mg mb h₀)
    (hk : cs.kind = .function) (hd : dp + n < recursionLimit) (hu : un + 8 * n + 8 < cLine) (hp : pre s.heap)
    (h : ∀ D o h' tk', Fr h₀ L h' m → News h₀ L h' ((D, o) :: news) → (∀ p ∈ news, p.1 ≠ D) → R o → Q (.ref D) { s with heap := h', toks := tk' }) :
    wpAny (model PySem.Challenge.rw_qh0047_01.row.prog w) (ktrTop dp un gd cn cs L a ccd cl outer) (call (.ref f) vs kw) Q E s := by
  refine D _ _ _ _ _ _ _ _ _ _ _ _ _ ⟨⟨qv, A₀, base, h₀, m, B, F, X, T⟩, hk, hd, hu⟩ hp fun D o h' tk' k hf ho hR => ?_
  have hne : ∀ p ∈ news, p.1 ≠ D := fun p hp e => by
    have := (N p hp).1
    rw [e, hf] at this; cases this
  refine h D o h' tk' (fr_stays F k) (fun p hp => ?_) hne hR
  rcases List.mem_cons.mp hp with rfl | hp
  · refine ⟨ho, fun e => ?_, ?_⟩
    · obtain ⟨oL, _, _, hL, _⟩ := F.ns
      have e' : D = L := e
      rw [e', hL] at hf; cases hf
    · cases hg : h₀.get? D with
      | none => rfl
      | some o' => rw [F.keep _ _ hg] at hf; cases hf
  · exact news_stays N k p hp
theorem doesN_swap {n : Nat} {f : Addr} {vs : List Value} {kw : List (Str × Value)} {pre pre' : Heap → Prop} {R : Obj → Prop} (D : DoesN w loose mean mg mb n f vs kw pre R) (hp : ∀ h, pre' h → pre h) : DoesN w loose mean mg mb n f vs kw pre' R :=
  fun dp un gd cn cs L a ccd cl outer s Q E hat hpre hret => D dp un gd cn cs L a ccd cl outer s Q E hat (hp _ hpre) hret
theorem okP_inner {a c : Nat} (h : okP a c) (f : Bool) (q : Nat) : Inner (innerL f q c) c q := by
  refine inner_of ?_ ?_ ?_ <;> (rcases h with ⟨rfl, rfl⟩ | ⟨rfl, rfl⟩ | ⟨rfl, rfl⟩ | ⟨rfl, rfl⟩ <;> decide)
theorem does_p2 {f : Bool} {q q0 pa pc : Nat} {ho : List Nat} {d : Addr} {t1 t2 t3 : Tok} : DoesN w loose mean mg mb 1 146 [.str (T (replyL (innerL f q pc) (bodyL q0 pc))) t1, .ref d] [] (fun h => IsTup h d #[.str (T ho) t2, .int 21 t3] ∧ okP pa pc ∧ q < 100000000) (fun o => ∃ tb, o = tup2 (.str (T ho) t2) (.int (q : Int) tb)) :=
  doesN_swap (does_parse2 (pc := pc) (p := q) (t4 := 0) (t5 := 0)) fun h hp => ⟨hp.1, okP_inner hp.2.1 f q, by rw [bodyL_len]; decide, hp.2.2⟩
theorem does_p4 {f : Bool} {q q0 pa pc : Nat} {ho : List Nat} {d : Addr} {t1 t2 t3 t4 t5 : Tok} : DoesN w loose mean mg mb 1 146 [.str (T (replyL (innerL f q pc) (bodyL q0 pc))) t1, .ref d] [] (fun h => IsTup h d #[.str (T ho) t2, .int 21 t3, .int 0 t4, .int 0 t5] ∧ okP pa pc ∧ q < 100000000) (fun o => ∃ tb, o = tup2 (.str (T ho) t2) (.int (q : Int) tb)) :=
  doesN_swap (does_parse4 (pc := pc) (p := q)) fun h hp => ⟨hp.1, okP_inner hp.2.1 f q, by rw [bodyL_len]; decide, hp.2.2⟩
end
section
variable {prog : Program} {w : World} {A : Around} {E : Value → Shared → Prop} {s : Shared} {h₀ : Heap} {L : Addr} {m : Str → Option Value} {news : List (Addr × Obj)} {value slice : PySem.Expr} {a : Addr} {n : Nat} {vs : List Value} {x : Value} {u : Tok} {Q : Value → Shared → Prop}
theorem item_N {i : Nat} (N : News h₀ L s.heap news) (hm : (a, W.listOf vs.toArray n) ∈ news) (hx : vs[i]? = some x) (hi : i ≤ 4096) (h : Q x s)
    (hs : subscripted slice false (.ref a) (.int ((i : Nat) : Int) u) = operate [.ref a, .int ((i : Nat) : Int) u] (getItem (.ref a) (.int ((i : Nat) : Int) u)) := by with_unfolding_all rfl) (hg : ∀ r, letTemporaryGo value (.ref a) r = pure () := by intro _; with_unfolding_all rfl) :
    wpAny (model prog w) A (subscriptTail value slice (.ref a) (.int ((i : Nat) : Int) u)) Q E s :=
  kim_list (l := vs) N hm rfl rfl (by omega) (by omega) (by rw [Int.toNat_natCast]; exact hx) h hs hg
theorem item_0 (N : News h₀ L s.heap news) (hm : (a, W.listOf vs.toArray n) ∈ news) (hx : vs[0]? = some x) (h : Q x s)
    (hs : subscripted slice false (.ref a) (.int 0 u) = operate [.ref a, .int 0 u] (getItem (.ref a) (.int 0 u)) := by with_unfolding_all rfl) (hg : ∀ r, letTemporaryGo value (.ref a) r = pure () := by intro _; with_unfolding_all rfl) :
    wpAny (model prog w) A (subscriptTail value slice (.ref a) (.int 0 u)) Q E s :=
  kim_list (l := vs) N hm rfl rfl (by decide) (by decide) hx h hs hg
theorem told_append {l : Addr} {us : List Value} {c : Nat} {rest : List (Addr × Obj)} {v : Value} (F : Fr h₀ L s.heap m) (N : News h₀ L s.heap news) (hm : (l, W.listOf us.toArray c) ∈ news) (hsub : ∀ p ∈ rest, p ∈ news) (hne : ∀ p ∈ rest, p.1 ≠ l) (hsz : us.length ≤ 4096)
    (h : ∀ h', Fr h₀ L h' m → News h₀ L h' ((l, W.listOf (us ++ [v]).toArray (c + 1)) :: rest) → Q .none { s with heap := h' }) : wpAny (model prog w) A (call (.builtin "list.append") [.ref l, v]) Q E s := by
  have N' : News h₀ L s.heap ((l, W.listOf us.toArray c) :: rest) := fun p hp => by
    rcases List.mem_cons.mp hp with rfl | hp
    · exact N _ hm
    · exact N _ (hsub p hp)
  refine append_K F N' (Upd.head hne) (fun h' F' N' => h h' F' ?_) (by show us.toArray.size ≤ sizeLine; rw [List.size_toArray, sizeLine_eq]; omega)
  rw [← List.push_toArray]
  exact N'
theorem told_turn {l DN : Addr} {oN : Obj} {y : Addr × Obj} {us : List Value} {c : Nat} {base : List (Addr × Obj)} (F : Fr h₀ L s.heap m) (N : News h₀ L s.heap ((DN, oN) :: y :: (l, W.listOf us.toArray c) :: base)) (neN : ∀ p ∈ y :: (l, W.listOf us.toArray c) :: base, p.1 ≠ DN) (hne : ∀ p ∈ base, p.1 ≠ l) (hsz : us.length ≤ 4096)
    (h : ∀ h', Fr h₀ L h' m → News h₀ L h' ((l, W.listOf (us ++ [Value.ref DN]).toArray (c + 1)) :: (DN, oN) :: base) → DN ≠ l → (∀ p ∈ base, p.1 ≠ DN) → Q .none { s with heap := h' }) : wpAny (model prog w) A (call (.builtin "list.append") [.ref l, .ref DN]) Q E s := by
  have hDl : DN ≠ l := fun e => neN _ (.tail _ (.head _)) e.symm
  refine told_append (rest := (DN, oN) :: base) F N (.tail _ (.tail _ (.head _))) (fun p hp => ?_) (fun p hp => ?_) hsz fun h' F' N' => h h' F' N' hDl fun p hp => neN p (.tail _ (.tail _ hp))
  · rcases List.mem_cons.mp hp with rfl | hp
    · exact .head _
    · exact .tail _ (.tail _ (.tail _ hp))
  · rcases List.mem_cons.mp hp with rfl | hp
    · exact hDl
    · exact hne p hp
end
theorem told_obj {xs : List Nat} {i q : Nat} {o : Obj} {th : Tok} (hq : xs[i]? = some q) (h : ∃ tb, o = tup2 (.str (T (hostL q)) th) (.int (q : Int) tb)) : ∀ q', xs[i]? = some q' → ∃ t1 t2, o = tup2 (.str (T (hostL q')) t1) (.int (q' : Int) t2) := by
  intro q' e
  rw [hq] at e
  obtain rfl := Option.some.inj e
  obtain ⟨tb, rfl⟩ := h
  exact ⟨_, _, rfl⟩
end Mine
end
section
set_option Elab.async false
set_option maxRecDepth 100000
namespace Mine
open PySem PySem.W PySem.Calls PyProof.Rows
theorem dat_all {α : Type} {own : List (Addr × Obj)} {f : α → Dat} : ∀ {vs : List Value} {xs : List α}, vs.length = xs.length → (∀ (i : Nat) v x, vs[i]? = some v → xs[i]? = some x → DatIn own v (f x)) → DatAll own vs (xs.map f)
  | [], [], _, _ => .nil
  | [], _ :: _, h, _ => by cases h
  | _ :: _, [], h, _ => by cases h
  | v :: vs, x :: xs, h, H => .cons (H 0 v x rfl rfl) (dat_all (by simpa using h) fun i v' x' e1 e2 => H (i + 1) v' x' e1 e2)
/-- a host and its port, as data -/
noncomputable def datQ (q : Nat) : Dat := .tuple [.str (T (hostL q)), .int (q : Int)]
theorem datQ_in {own : List (Addr × Obj)} {d : Addr} {q : Nat} {t1 t2 : Tok} (h : (d, tup2 (.str (T (hostL q)) t1) (.int (q : Int) t2)) ∈ own) : DatIn own (.ref d) (datQ q) :=
  .tuple (vs := [.str (T (hostL q)) t1, .int (q : Int) t2]) h (.cons (.str _ _) (.cons (.int _ _) .nil))
/-- a told pair, by the ledger -/
noncomputable def ToldIn (led : List (Addr × Obj)) (v : Value) (q : Nat) : Prop := ∃ d t1 t2, v = .ref d ∧ (d, tup2 (.str (T (hostL q)) t1) (.int (q : Int) t2)) ∈ led
noncomputable def YTold (qs : List Nat) (j : Nat) (y : Value) (nw : List (Addr × Obj)) : Prop := ∀ q, qs[j]? = some q → ToldIn nw y q
theorem YTold.mono (qs : List Nat) : Mono (YTold qs) := fun _ _ _ _ h y q e => let ⟨d, t1, t2, e1, e2⟩ := y q e; ⟨d, t1, t2, e1, h _ e2⟩
theorem y_told {qs : List Nat} {i q : Nat} {a : Addr} {t1 t2 : Tok} (hq : qs[i]? = some q) : YTold qs i (.ref a) [(a, { cls := .type "tuple", data := .seq [Value.str (T (hostL q)) t1, Value.int (q : Int) t2].toArray })] := by
  intro q' e
  rw [hq] at e
  obtain rfl := Option.some.inj e
  exact ⟨a, t1, t2, rfl, .head _⟩
theorem ytold_all {qs : List Nat} {ys : List Value} {nw : List (Addr × Obj)} (hl : ys.length = qs.length) (h : ∀ j y, ys[j]? = some y → YTold qs j y nw) : DatAll nw ys (qs.map datQ) :=
  dat_all hl fun i v x e1 e2 => by
    obtain ⟨d, t1, t2, rfl, hm⟩ := h i v e1 x e2
    exact datQ_in hm
theorem told_at {qs : List Nat} {us : List Value} {own : List (Addr × Obj)} (hT : Told (fun i o => ∀ q, qs[i]? = some q → ∃ t1 t2, o = tup2 (.str (T (hostL q)) t1) (.int (q : Int) t2)) us own) {i : Nat} {v : Value} {q : Nat} (e1 : us[i]? = some v) (e2 : qs[i]? = some q) : ToldIn own v q := by
  obtain ⟨D, ob, rfl, hm, hR⟩ := hT i v e1
  obtain ⟨t1, t2, rfl⟩ := hR q e2
  exact ⟨D, t1, t2, rfl, hm⟩
theorem told_all {qs : List Nat} {us : List Value} {own : List (Addr × Obj)} (hl : us.length = qs.length) (hT : Told (fun i o => ∀ q, qs[i]? = some q → ∃ t1 t2, o = tup2 (.str (T (hostL q)) t1) (.int (q : Int) t2)) us own) : DatAll own us (qs.map datQ) :=
  dat_all hl fun i v x e1 e2 => by
    obtain ⟨d, t1, t2, rfl, hm⟩ := told_at hT e1 e2
    exact datQ_in hm
theorem ToldIn.tup {h₀ h : Heap} {L : Addr} {news own : List (Addr × Obj)} {v : Value} {q : Nat} (x : ToldIn own v q) (N : News h₀ L h news) (hs : ∀ p ∈ own, p ∈ news) : ∃ d t1 t2, v = .ref d ∧ IsTup h d #[.str (T (hostL q)) t1, .int (q : Int) t2] :=
  let ⟨d, t1, t2, e, hm⟩ := x; ⟨d, t1, t2, e, _, (N _ (hs _ hm)).1, rfl, _, rfl⟩
theorem host_len {q : Nat} (h : q < 100000000) : (hostL q).length ≤ 16 := by
  have := tx_len h
  unfold hostL exL
  simp only [List.length_append, List.length_cons, List.length_nil]; omega
theorem str_ok {l : List Nat} (h : ∀ c ∈ l, c < 1114112) : PyData.strOk (T l) = true := by
  unfold PyData.strOk
  rw [T_cps, Array.all_eq_true_iff_forall_mem]
  intro x hx
  exact decide_eq_true (h x (List.mem_toArray.mp hx))
theorem tx_lt {q : Nat} (h : q < 100000000) : ∀ c ∈ tx q, c < 1114112 := fun c hc => by
  have e := (tx_pad 7 q h).2
  have := dl_in 8 q c (by rw [← e]; exact List.mem_append_right _ hc)
  omega
theorem host_lt {q : Nat} (h : q < 100000000) : ∀ c ∈ hostL q, c < 1114112 := fun c hc => by
  rcases List.mem_append.mp hc with hc | hc
  · exact tx_lt h c hc
  · have : ∀ c ∈ exL, c < 1114112 := by unfold exL; decide
    exact this c hc
theorem datQ_ok {qs : List Nat} (h : ∀ q ∈ qs, q < 100000000) : ∀ d ∈ qs.map datQ, kqdOk 8 d = true := by
  intro d hd
  obtain ⟨q, hq, rfl⟩ := List.mem_map.mp hd
  show ([Dat.str (T (hostL q)), Dat.int (q : Int)].all (kqdOk 7)) = true
  rw [List.all_cons, List.all_cons, List.all_nil]
  show (PyData.strOk (T (hostL q)) && (true && true)) = true
  rw [str_ok (host_lt (h q hq))]; rfl
/-- a port's text, as data -/
noncomputable def datT (q : Nat) : Dat := .str (T (tx q))
theorem datT_ok {qs : List Nat} (h : ∀ q ∈ qs, q < 100000000) : ∀ d ∈ qs.map datT, kqdOk 8 d = true := by
  intro d hd
  obtain ⟨q, hq, rfl⟩ := List.mem_map.mp hd
  exact str_ok (tx_lt (h q hq))
theorem txt_all {qs : List Nat} {ys : List Value} {own : List (Addr × Obj)} (a : Are vTxt ys (qs.map tx)) : DatAll own ys (qs.map datT) :=
  dat_all (by rw [a.1, List.length_map]) fun i v x e1 e2 => by
    obtain ⟨t, ht⟩ := a.2 i _ (map_at e2)
    rw [e1] at ht
    obtain rfl := Option.some.inj ht
    exact .str _ _
section
variable {prog : Program} {w : World} {A : Around} {s : Shared} {env : Env} {h₀ : Heap} {L : Addr} {m : Str → Option Value} {news : List (Addr × Obj)} {Y : Nat → Value → List (Addr × Obj) → Prop} {scope : Scope} {cl : List (Str × Addr)} {elt : PySem.Expr}
/-- the iterator of a range -/
abbrev rgObj (n : Nat) : Obj := { cls := .type "range_iterator", data := .fields #[rawInt 0, rawInt ((n : Nat) : Int), rawInt 1] }
theorem lc_range {E : Value → Shared → Prop} {Fin : Shared → List Value → Heap → Nat → Prop} {target : PySem.Expr} {r : Addr} {n : Nat} {t u v : Tok} (hh : A.handled = none) (hr : IsRange s.heap r 0 ((n : Nat) : Int) 1 t u v) (hn : n ≤ 13) (F : Fr h₀ L s.heap m) (N : News h₀ L s.heap news)
    (turn : ∀ (i : Nat) (t : Tok) ys, i < n → ys.length = i → CompTurn prog w A { s with heap := s.heap.push (rgObj n) } target elt scope cl env s.heap.objs.size (fun i h => IsRangeIter h s.heap.objs.size (0 + (i : Nat) * 1) ((n : Int) - (i : Nat)) 1) (JJ ((s.heap.push (rgObj n)).objs.size + 1) Y) i (.int ((i : Nat) : Int) t) ys)
    (fin : ∀ ys nw h tk, ys.length = n → (∀ j y, ys[j]? = some y → Y j y nw) → (∀ p ∈ news, p.1 < (s.heap.push (rgObj n)).objs.size) → (∀ p ∈ nw, (s.heap.push (rgObj n)).objs.size < p.1) → Fr h₀ L h m → News h₀ L h (((s.heap.push (rgObj n)).objs.size, LCg.lst ys) :: (nw ++ news)) → Fin { s with heap := s.heap.push (rgObj n) } ys h tk) :
    wpAny (model prog w) A (pyIter (.ref r)) (fun it s₂ => CompIn prog w A env target elt scope cl [] (Fin s₂) it s₂) E s := by
  refine iter_range hr hn (lc_gen (walks_range hh s.heap.objs.size n) F N (by omega) ?_ (fun a ha => ?_) (fun i v ys hi hv hy => ?_) fin)
  · show IsRangeIter _ _ _ _ _
    simpa using Heap.get?_push_size _ rfl
  · rw [List.mem_singleton.mp ha, Heap.size_push]; exact Nat.lt_succ_self _
  · obtain ⟨t, rfl⟩ := hv
    exact turn i t ys hi hy
end
end Mine
end
section
set_option Elab.async false
set_option maxRecDepth 100000
namespace Mine
open PySem PySem.W PySem.Calls PyProof.Rows
section
variable {prog : Program} {w : World} {A : Around} {E : Value → Shared → Prop} {s : Shared} {h₀ : Heap} {L a b : Addr} {news n₁ n₂ : List (Addr × Obj)} {xs ys : List Value} {ka kb : Nat} {ds : List Dat} {Q : Value → Shared → Prop}
theorem lists_ne (N : News h₀ L s.heap news) (ma : (a, W.listOf xs.toArray ka) ∈ news) (Da : DatAll n₁ xs ds) (sa : ∀ p ∈ n₁, p ∈ news)
    (mb : (b, W.listOf ys.toArray kb) ∈ news) (Db : DatAll n₂ ys ds) (sb : ∀ p ∈ n₂, p ∈ news) (ha : ∀ d ∈ ds, kqdOk 8 d = true) (hu : A.units + 64 < cLine) (h : Q (.bool false) s) : wpAny (model prog w) A (compareOp .NotEq (.ref a) (.ref b)) Q E s :=
  kqd_ne N ma rfl rfl Da sa mb rfl rfl Db sb ha ha hu (by simpa using h)
theorem lists_eq (N : News h₀ L s.heap news) (ma : (a, W.listOf xs.toArray ka) ∈ news) (Da : DatAll n₁ xs ds) (sa : ∀ p ∈ n₁, p ∈ news)
    (mb : (b, W.listOf ys.toArray kb) ∈ news) (Db : DatAll n₂ ys ds) (sb : ∀ p ∈ n₂, p ∈ news) (ha : ∀ d ∈ ds, kqdOk 8 d = true) (hu : A.units + 64 < cLine) (h : Q (.bool true) s) : wpAny (model prog w) A (compareOp .Eq (.ref a) (.ref b)) Q E s :=
  kqd_eq N ma rfl rfl Da sa mb rfl rfl Db sb ha ha hu (by simpa using h)
end
theorem news_rest {h₀ h : Heap} {L : Addr} {x : Addr × Obj} {nw rest : List (Addr × Obj)} (N : News h₀ L h (x :: (nw ++ rest))) : News h₀ L h rest := fun p hp => N p (.tail _ (List.mem_append_right _ hp))
end Mine
end
section
set_option maxRecDepth 100000
set_option maxHeartbeats 4000000
namespace Mine
open PySem PySem.W PySem.Calls PyProof.Rows
/-- a cut of a proof of G: what is left of it, and that this suffices -/
structure Hid (P : Prop) : Prop where
  out : P
structure Cut (G : Prop) where
  P : Prop
  cut : Hid P → G
structure Ev {α : Type} (a : α) where
  b : α
  e : a = b
noncomputable def vwE : Ev ([0, 2, 3, 6, 7, 8, 9, 10, 11, 18, 19, 20, 21, 22, 24, 27, 28, 29, 30, 31, 32, 33, 34, 35, 36].filterMap fun i => PySem.Challenge.pw_qh0047_01.main.body[i]?) := by
  refine' ⟨_, ?_⟩
  rotate_left
  · delta PySem.Challenge.pw_qh0047_01
    simp only [List.filterMap_cons, List.filterMap_nil, List.getElem?_cons_succ, List.getElem?_cons_zero]
    exact rfl
noncomputable def vw : Program := { PySem.Challenge.pw_qh0047_01 with main := { PySem.Challenge.pw_qh0047_01.main with body := vwE.b } }
def Top0 : Prop := ∀ (d : DefRec) (kwd : List (Str × Expr)), defOf vw (PySem.Challenge.rw_qh0047_01.row).toRowW.name = some (d, kwd) →
    WalkO vw [Str.ofString "bytes_types", Str.ofString "Error_binascii", Str.ofString "a2b_base64", Str.ofString "b2a_base64", Str.ofString "b64encode", Str.ofString "b64decode", Str.ofString "Error_ftplib", Str.ofString "_initial_missing", Str.ofString "reduce"] (XL vw []) (kHook Mine.kk.heap_1 [2, 3, 15, 17, 18, 20, 21, 22, 23, 25, 26, 28, 29, 30, 37, 38, 39, 40, 43, 45, 46, 48, 49, 50, 52, 53, 55, 56, 57, 59, 60, 62, 63, 64, 66, 67, 69, 70, 71, 72, 74, 75, 77, 78, 79, 80, 82, 83, 85, 86, 87, 88, 90, 91, 93, 94, 95, 96, 98, 99, 101, 102, 103, 110, 111, 112, 113, 116, 123, 124, 125, 128, 135, 136, 137, 140, 142, 143, 145, 146, 147, 148, 149, 151, 152, 154, 155, 156, 158, 159, 161, 162, 163, 165, 166, 168, 169, 170, 172, 173, 175, 176, 177, 179, 180, 182, 183, 184, 186, 187, 189, 190, 191, 194, 195, 196, 198, 199, 201, 202, 203, 205, 206, 208, 209, 210, 212, 213, 215, 216, 217, 220, 221] (fun _ => by kernel_rfl)).says (PySem.Challenge.rw_qh0047_01.row).toRowW d kwd fun f vs => PySem.call f vs
theorem top0_of {d₁ : DefRec} {kwd₁ : List (Str × Expr)} (e : defOf vw (PySem.Challenge.rw_qh0047_01.row).toRowW.name = some (d₁, kwd₁))
    (h : WalkO vw [Str.ofString "bytes_types", Str.ofString "Error_binascii", Str.ofString "a2b_base64", Str.ofString "b2a_base64", Str.ofString "b64encode", Str.ofString "b64decode", Str.ofString "Error_ftplib", Str.ofString "_initial_missing", Str.ofString "reduce"] (XL vw []) (kHook Mine.kk.heap_1 [2, 3, 15, 17, 18, 20, 21, 22, 23, 25, 26, 28, 29, 30, 37, 38, 39, 40, 43, 45, 46, 48, 49, 50, 52, 53, 55, 56, 57, 59, 60, 62, 63, 64, 66, 67, 69, 70, 71, 72, 74, 75, 77, 78, 79, 80, 82, 83, 85, 86, 87, 88, 90, 91, 93, 94, 95, 96, 98, 99, 101, 102, 103, 110, 111, 112, 113, 116, 123, 124, 125, 128, 135, 136, 137, 140, 142, 143, 145, 146, 147, 148, 149, 151, 152, 154, 155, 156, 158, 159, 161, 162, 163, 165, 166, 168, 169, 170, 172, 173, 175, 176, 177, 179, 180, 182, 183, 184, 186, 187, 189, 190, 191, 194, 195, 196, 198, 199, 201, 202, 203, 205, 206, 208, 209, 210, 212, 213, 215, 216, 217, 220, 221] (fun _ => by kernel_rfl)).says (PySem.Challenge.rw_qh0047_01.row).toRowW d₁ kwd₁ fun f vs => PySem.call f vs) : Top0 := by
  intro d kwd e'
  cases e.symm.trans e'
  exact h
noncomputable def st1 : Cut Top0 := by
  k_with_none
  k_with "mine fill" => (have hfill : (PySem.Challenge.rw_qh0047_01 = PySem.Challenge.rw_qh0047_01 ∧ Mine.kk.heap_1 = Mine.kk.heap_1) := by (k_fill; exact ⟨rfl, rfl⟩))
  k_with "mine rest" => ((case kA => exact rfl); (case kF => exact rfl); (case kK => assumption); (case k1 => k_asm); (case k2 => k_asm); (case k3 => k_asm); (case k5 => k_asm); (case k6 => k_is); (case k7 => k_is); (case k8 => ktr_room); (case k9 => exact BindsTo.of_eq rfl); (case c5 => decide); (case kB => exact locs rfl); (case c2 => exact rfl); (case c3 => exact rfl); (case c4 => exact rfl); k_whole; intro L' h' F' N' B' X' T'; (try dsimp only [List.reverse_cons, List.reverse_nil, List.nil_append, List.cons_append] at F'); (try dsimp only); (try k_lift B'); (try k_fold))
  k_with "exec Assign cons ListComp" => (k_here; (with_reducible show wpAny _ _ (exec (.Assign _ (.ListComp _ _ _ _) _) _) _ _ _); refine Held.out ?_)
  k_with "pyIter ref" => (k_here; (with_reducible show wpAny _ _ (pyIter (Value.ref _)) _ _ _); refine Held.out ?_)
  k_with "subscriptTail" => (k_here; (with_reducible show wpAny _ _ (subscriptTail (Expr.List _ _) _ (Value.ref _) (Value.int _ _)) _ _ _); k_dflt (refine pair_item (by k_asm) (by k_mem) (fmod_lo _ (by decide)) (fmod_hi _ (by decide)) ?_); intro pa' pc' t' okPair)
  refine' ⟨_, fun kCut => ?_⟩
  rotate_left
  · refine top0_of (by rfl) ?_
    k_fill
    intro w s₀ s₁ mg mb G Y fa o pm cd doc dV kV ho hd hcd hD hmg hg args vals as hpre hlay hrd hwl hlo
    have KX := kIn_of Y
    show wpAny _ _ (PySem.call (Value.ref fa) vals) _ _ _
    k_behind G ho hd hcd hD hmg hpre hlay hrd hwl hlo cd
    all_goals (try k_fold)
    k_steps
    repeat (first | exact kCut.out | revert ‹_›)
end Mine
end
section
set_option maxRecDepth 100000
set_option maxHeartbeats 4000000
namespace Mine
open PySem PySem.W PySem.Calls PyProof.Rows
noncomputable def st2 : Cut st1.P := by
  k_with_none
  k_with "mine fill" => (have hfill : (PySem.Challenge.rw_qh0047_01 = PySem.Challenge.rw_qh0047_01 ∧ Mine.kk.heap_1 = Mine.kk.heap_1) := by (k_fill; exact ⟨rfl, rfl⟩))
  k_with "mine rest" => ((case kA => exact rfl); (case kF => exact rfl); (case kK => assumption); (case k1 => k_asm); (case k2 => k_asm); (case k3 => k_asm); (case k5 => k_asm); (case k6 => k_is); (case k7 => k_is); (case k8 => ktr_room); (case k9 => exact BindsTo.of_eq rfl); (case c5 => decide); (case kB => exact locs rfl); (case c2 => exact rfl); (case c3 => exact rfl); (case c4 => exact rfl); k_whole; intro L' h' F' N' B' X' T'; (try dsimp only [List.reverse_cons, List.reverse_nil, List.nil_append, List.cons_append] at F'); (try dsimp only); (try k_lift B'); (try k_fold))
  k_with "exec Assign cons ListComp" => (k_here; (with_reducible show wpAny _ _ (exec (.Assign _ (.ListComp _ _ _ _) _) _) _ _ _); refine Held.out ?_)
  k_with "pyIter ref" => (k_here; (with_reducible show wpAny _ _ (pyIter (Value.ref _)) _ _ _); refine Held.out ?_)
  k_with "eval Tuple" => (k_here; (with_reducible show wpAny _ _ (eval (Expr.Tuple _ _ _) (compEnvC _ _ _ _)) _ _ _); refine wpAny_Tuple ?_)
  refine' ⟨_, fun kCut => ?_⟩
  rotate_left
  · intro w
    set_option tactic.hygienic false in intros
    refine Held.mk ?_
    (rename okP _ _ => hok)
    obtain ⟨pa, pc, rfl, rfl⟩ := hok.name
    (rename IntsAre _ (List.take 8 _ ++ _) => hcI)
    (rename Fr _ _ _ _ => lF)
    (rename News _ _ _ _ => lN₀)
    have lN := news_first lN₀
    clear lN₀
    obtain ⟨cs, hcI, hclen, hcpos, hwl⟩ := cells_ints hcI
    generalize hM : bindL _ _ _ = M0 at lF
    clear hM
    k_dflt refine Assign_F (cl := []) lF (by with_unfolding_all rfl) (by rfl) (by decide) (by rfl) (by decide) (by rfl) (by rfl) ?_
    k_steps
    refine Held.mk ?_
    have hl := News.isList lN (.head _)
    refine lc_stmt (Y := YAll PlainIn (List.map plainOf cs)) rfl lF lN hl ?len ?turn ?fin
    case len => omega
    case turn =>
      intro i v ys hv hy
      obtain ⟨c, t, rfl, hc⟩ := ints_at hcI hv
      refine lc_name rfl rfl (YAll.plain _) hy lF lN ?_
      intro C oC m' h tk E' hoC hx kFr kNews hlt
      clear lF lN
      k_steps
      all_goals (try dsimp only)
      all_goals exact elt_tup (fun _ _ e => e) (kNews _ (.head _)).1 rfl (y_plain hc)
    case fin =>
      intro ys nw h tk hyl hY hDlt hnw kFr' kNews hNs
      have kFr := kFr' _ hNs
      clear lF lN kFr' hNs
      dsimp only at kFr kNews hDlt hnw ⊢
      generalize (Heap.push _ _).objs.size = D at kFr kNews hDlt hnw
      have hplain := YAll.all (by rw [hyl, hwl, List.length_map]) hY
      have hD0 : @LT.lt Nat _ _ _ := hDlt _ (.tail _ (.head _))
      dsimp only at hD0
      have hown := OwnAbove.of (hDlt _ (.tail _ (.head _))) hnw
      have lN := news_second kNews
      clear hY kNews hDlt hnw hwl hcI hl hyl
      repeat (first | exact kCut.out | revert ‹_›)
end Mine
end
section
set_option maxRecDepth 100000
set_option maxHeartbeats 4000000
namespace Mine
open PySem PySem.W PySem.Calls PyProof.Rows
noncomputable def st3 : Cut st2.P := by
  k_with_none
  k_with "mine fill" => (have hfill : (PySem.Challenge.rw_qh0047_01 = PySem.Challenge.rw_qh0047_01 ∧ Mine.kk.heap_1 = Mine.kk.heap_1) := by (k_fill; exact ⟨rfl, rfl⟩))
  k_with "mine rest" => ((case kA => exact rfl); (case kF => exact rfl); (case kK => assumption); (case k1 => k_asm); (case k2 => k_asm); (case k3 => k_asm); (case k5 => k_asm); (case k6 => k_is); (case k7 => k_is); (case k8 => ktr_room); (case k9 => exact BindsTo.of_eq rfl); (case c5 => decide); (case kB => exact locs rfl); (case c2 => exact rfl); (case c3 => exact rfl); (case c4 => exact rfl); k_whole; intro L' h' F' N' B' X' T'; (try dsimp only [List.reverse_cons, List.reverse_nil, List.nil_append, List.cons_append] at F'); (try dsimp only); (try k_lift B'); (try k_fold))
  k_with "exec Assign cons ListComp" => (k_here; (with_reducible show wpAny _ _ (exec (.Assign _ (.ListComp _ _ _ _) _) _) _ _ _); refine Held.out ?_)
  k_with "pyIter ref" => (k_here; (with_reducible show wpAny _ _ (pyIter (Value.ref _)) _ _ _); refine Held.out ?_)
  k_with "eval Tuple" => (k_here; (with_reducible show wpAny _ _ (eval (Expr.Tuple _ _ _) (compEnvC _ _ _ _)) _ _ _); refine wpAny_Tuple ?_)
  k_with "call ref" => ktr_call (does_useS does_body) (by assumption)
  refine' ⟨_, fun kCut => ?_⟩
  rotate_left
  · intro w
    set_option tactic.hygienic false in intros
    k_steps
    refine Held.mk ?_
    k_dflt refine Assign_F (cl := _) kFr (by with_unfolding_all rfl) (by rfl) (by decide) (by rfl) (by decide) (by rfl) (by rfl) ?_
    k_steps
    refine Held.mk ?_
    have hl := News.isList lN (.head _)
    refine lc_stmt (Y := YAll (DeedIn pa pc) (List.map plainOf cs)) rfl kFr lN hl ?len ?turn ?fin
    case len => rw [hplain.1, List.length_map]; omega
    case turn =>
      intro i v ys hv hy
      obtain ⟨p, hp, hR⟩ := hplain.at hv
      obtain ⟨d, t1, t2, rfl, hT⟩ := hR.tup lN (fun q hq => .tail _ (.tail _ (.tail _ (.tail _ hq))))
      have hp2 := (okD_plain cs p (List.mem_of_getElem? hp)).2
      refine lc_tup2 rfl rfl rfl (by decide) rfl (YAll.deed _ _ _) hy kFr lN hT (fun h x => x.1) ?_
      intro C oC m' h tk E' hoC hx1 hx2 kFr' kNews hlt
      clear kFr lN
      k_steps
      all_goals (try dsimp only)
      all_goals exact elt_tup (by assumption) (News.get (by assumption) (.head _)) rfl (y_deed hp)
    case fin =>
      intro ys2 nw2 h tk hyl2 hY hDlt hnw kFr' kNews hNs
      have kFr2 := kFr' _ hNs
      clear kFr lN kFr' hNs
      dsimp only at kFr2 kNews hDlt hnw ⊢
      generalize (Heap.push _ _).objs.size = D2 at kFr2 kNews hDlt hnw
      have hdeed := YAll.all (by rw [hyl2, hplain.1]) hY
      have lN := news_third kNews
      replace hown := OwnAbove.app (OwnAbove.of (hDlt _ (.tail _ (.head _))) hnw) hown
      replace hplain := hplain.more (nw' := nw2 ++ nw) (YAll.plain _) (fun p hp => List.mem_append_right _ hp)
      replace hdeed := hdeed.more (nw' := nw2 ++ nw) (YAll.deed _ _ _) (fun p hp => List.mem_append_left _ hp)
      have hDD : @LT.lt Nat _ D D2 := hDlt _ (.head _)
      clear hY kNews hDlt hnw hl
      generalize hO : nw2 ++ nw = own at hown hplain hdeed lN
      clear hO
      repeat (first | exact kCut.out | revert ‹_›)
end Mine
end
section
set_option maxRecDepth 100000
set_option maxHeartbeats 4000000
namespace Mine
open PySem PySem.W PySem.Calls PyProof.Rows
noncomputable def st4 : Cut st3.P := by
  k_with_none
  k_with "mine fill" => (have hfill : (PySem.Challenge.rw_qh0047_01 = PySem.Challenge.rw_qh0047_01 ∧ Mine.kk.heap_1 = Mine.kk.heap_1) := by (k_fill; exact ⟨rfl, rfl⟩))
  k_with "mine rest" => ((case kA => exact rfl); (case kF => exact rfl); (case kK => assumption); (case k1 => k_asm); (case k2 => k_asm); (case k3 => k_asm); (case k5 => k_asm); (case k6 => k_is); (case k7 => k_is); (case k8 => ktr_room); (case k9 => exact BindsTo.of_eq rfl); (case c5 => decide); (case kB => exact locs rfl); (case c2 => exact rfl); (case c3 => exact rfl); (case c4 => exact rfl); k_whole; intro L' h' F' N' B' X' T'; (try dsimp only [List.reverse_cons, List.reverse_nil, List.nil_append, List.cons_append] at F'); (try dsimp only); (try k_lift B'); (try k_fold))
  k_with "exec Assign cons ListComp" => (k_here; (with_reducible show wpAny _ _ (exec (.Assign _ (.ListComp _ _ _ _) _) _) _ _ _); refine Held.out ?_)
  k_with "pyIter ref" => (k_here; (with_reducible show wpAny _ _ (pyIter (Value.ref _)) _ _ _); refine Held.out ?_)
  k_with "eval Tuple" => (k_here; (with_reducible show wpAny _ _ (eval (Expr.Tuple _ _ _) (compEnvC _ _ _ _)) _ _ _); refine wpAny_Tuple ?_)
  k_with "call ref" => ktr_call (does_use does_body0) (by trivial)
  k_with "call ref" => ktr_call (does_use does_decStart) (by assumption)
  k_with "compareOp NotEq" => (k_here; (with_reducible refine b_ne_same ?_))
  k_with "binaryOp Add ref ref" => (k_here; (have : ∃ a c, okP a c := ⟨_, _, by with_reducible assumption⟩); clear this; (with_reducible show wpAny _ _ (binaryOp Operator.Add (Value.ref _) (Value.ref _)) _ _ _); refine Held.out ?_)
  k_with "call builtin:iter" => (k_here; (with_reducible show wpAny _ _ (call (Value.builtin "iter") [Value.ref _]) _ _ _); refine Held.out ?_)
  k_with "call ref" => (k_here; (with_reducible show wpAny _ _ (call (Value.ref 155) _ _) _ _ _); refine Held.out ?_)
  refine' ⟨_, fun kCut => ?_⟩
  rotate_left
  · intro w
    set_option tactic.hygienic false in intros
    k_steps
    refine Held.mk ?_
    (rename Fr _ _ _ _ => lF); (rename News _ _ _ _ => lN)
    have hl2 := News.isList lN (.head _)
    have ha2 : AllAre (DeedAt pa pc _) ys2 (List.map plainOf cs) := hdeed.mono (fun v p x => x.tup lN (fun q hq => .tail _ (.tail _ (.tail _ (.tail _ (.tail _ hq))))))
    refine c_iter_push lF lN hl2 ?_
    intro F' N'
    k_steps
    refine Held.mk ?_
    clear F' N'
    k_dflt (refine' red_iter (s := ⟨_, _, _, _, _⟩) ?u1 lF ?u3 ?u5 ?u6 ?u7 ?u8 hl2 ha2 hok (okD_plain cs) ?u10; (case u1 => k_asm); (case u3 => k_asm); (case u5 => k_asm); (case u6 => first | exact rfl | assumption); (case u7 => ktr_room); (case u8 => ktr_units))
    intro tO h2 tk2 S2
    replace lF := fr_stays lF S2
    replace lN := news_stays lN S2
    clear S2 hl2 ha2
    k_steps
    refine Held.mk ?_
    (rename Fr _ _ _ _ => lF); (rename News _ _ _ _ => lN)
    refine add_lists (hsz := ?hsz) lF lN (News.isList lN (.head _)) (News.isList lN (.tail _ (.head _))) ?_
    case hsz => rw [hdeed.1, List.length_map, sizeLine_eq, List.length_singleton]; omega
    intro h4 F' N'
    k_steps
    refine Held.mk ?_
    (rename Fr _ _ _ _ => lF); (rename News _ _ _ _ => lN)
    have hpre := And.intro (News.isList lN (.head _)) (And.intro (hdeed.mono (fun v p x => x.tup lN (fun q hq => .tail _ (.tail _ (.tail _ (.tail _ (.tail _ (.tail _ (.tail _ hq))))))))) (And.intro hok (okD_plain cs)))
    k_dflt (refine' does_use does_redList ?u1 ?u2 ?u3 ?u4 ?u5 ?u6 ?u7 ?u8 ?u9 ?_; (case u1 => k_asm); (case u2 => k_asm); (case u3 => k_asm); (case u4 => k_asm); (case u5 => k_asm); (case u6 => first | exact rfl | assumption); (case u7 => ktr_room); (case u8 => ktr_units); k_whole; (case u9 => exact hpre))
    clear hpre lF lN
    intro t9 h9 tk9 F9 N9
    k_steps
    repeat (first | exact kCut.out | revert ‹_›)
end Mine
end
section
set_option maxRecDepth 100000
set_option maxHeartbeats 4000000
namespace Mine
open PySem PySem.W PySem.Calls PyProof.Rows
noncomputable def st5 : Cut st4.P := by
  k_with_none
  k_with "mine fill" => (have hfill : (PySem.Challenge.rw_qh0047_01 = PySem.Challenge.rw_qh0047_01 ∧ Mine.kk.heap_1 = Mine.kk.heap_1) := by (k_fill; exact ⟨rfl, rfl⟩))
  k_with "mine rest" => ((case kA => exact rfl); (case kF => exact rfl); (case kK => assumption); (case k1 => k_asm); (case k2 => k_asm); (case k3 => k_asm); (case k5 => k_asm); (case k6 => k_is); (case k7 => k_is); (case k8 => ktr_room); (case k9 => exact BindsTo.of_eq rfl); (case c5 => decide); (case kB => exact locs rfl); (case c2 => exact rfl); (case c3 => exact rfl); (case c4 => exact rfl); k_whole; intro L' h' F' N' B' X' T'; (try dsimp only [List.reverse_cons, List.reverse_nil, List.nil_append, List.cons_append] at F'); (try dsimp only); (try k_lift B'); (try k_fold))
  k_with "exec Assign cons ListComp" => (k_here; (with_reducible show wpAny _ _ (exec (.Assign _ (.ListComp _ _ _ _) _) _) _ _ _); refine Held.out ?_)
  k_with "pyIter ref" => (k_here; (with_reducible show wpAny _ _ (pyIter (Value.ref _)) _ _ _); refine Held.out ?_)
  k_with "eval Tuple" => (k_here; (with_reducible show wpAny _ _ (eval (Expr.Tuple _ _ _) (compEnvC _ _ _ _)) _ _ _); refine wpAny_Tuple ?_)
  k_with "call ref" => ktr_call (does_use does_plain) (by assumption)
  k_with "compareOp NotEq" => (k_here; (with_reducible refine b_ne_same ?_))
  k_with "binaryOp Add ref ref" => (k_here; (have : ∃ a c, okP a c := ⟨_, _, by with_reducible assumption⟩); clear this; (with_reducible show wpAny _ _ (binaryOp Operator.Add (Value.ref _) (Value.ref _)) _ _ _); refine Held.out ?_)
  k_with "call builtin:iter" => (k_here; (with_reducible show wpAny _ _ (call (Value.builtin "iter") [Value.ref _]) _ _ _); refine Held.out ?_)
  k_with "call ref" => (k_here; (with_reducible show wpAny _ _ (call (Value.ref 155) _ _) _ _ _); refine Held.out ?_)
  k_with "getMethod str" => (k_here; with_reducible refine m_encode ?_)
  k_with "call builtin:str.encode" => (k_here; (with_reducible show wpAny _ _ (call (Value.builtin "str.encode") [Value.str _ _, Value.str _ _]) _ _ _); (with_reducible refine c_encT (Plain128.lo (by assumption)) (Plain128.pos (by assumption)) (Plain128.fit (by assumption)) (Plain128.bytes (by assumption)) ?_); intro t9 k9)
  k_with "eval ListComp" => (k_here; (with_reducible show wpAny _ _ (eval (.ListComp _ _ _ _) _) _ _ _); refine Held.out ?_)
  k_with "call ref" => ktr_call (does_use does_body) (by assumption)
  k_with "call ref" => ktr_call (does_use does_encOct) (by assumption)
  k_with "call ref" => ktr_call (does_use does_decBytes) (by assumption)
  refine' ⟨_, fun kCut => ?_⟩
  rotate_left
  · intro w
    set_option tactic.hygienic false in intros
    refine Held.mk ?_
    (rename Fr _ _ _ _ => lF); (rename News _ _ _ _ => lN)
    have lN2 := news_due lN
    clear lN
    have hlP := News.isList lN2 (.tail _ (.head _))
    have hnP := (lN2 _ (.tail _ (.head _))).2.1
    k_dflt refine' fold_list (x := Str.ofString "deed") (y := Str.ofString "due") (fun n t => .int (n : Int) t) PlainAt (a₀ := 0) rfl (by decide) hlP hnP hplain.1 ?hP lF lN2 ?hv ?turn ?done
    case hP => exact fun i v p h _ kN hv hp => hplain.news kN (fun q hq => .tail _ (.tail _ (.tail _ (.tail _ (.tail _ hq))))) hv hp
    case hv => exact rfl
    case turn =>
      intro a v p t h tk own' hp ha hR kFr kNews
      clear lF lN2
      obtain ⟨d, t1, t2, rfl, hT⟩ := hR
      have hq := okD_plain cs p hp
      have hpre := And.intro hT (And.intro ha (And.intro hq.1 hq.2))
      k_steps
      all_goals (try dsimp only)
      all_goals exact ⟨rfl, _, _, _, _, rfl, by assumption, by assumption, rfl, by intro z z1 z2; simp only [if_neg z1, if_neg z2]⟩
    case done =>
      intro u t h tk kFr kNews
      clear lF lN2
      have hrun := runN_lt (x := 0) (by decide) (List.map plainOf cs)
      have e1 := pair128 hok
      have e2 := body128 (runN 0 (List.map plainOf cs)) hok
      k_steps
      repeat (first | exact kCut.out | revert ‹_›)
end Mine
end
section
set_option maxRecDepth 100000
set_option maxHeartbeats 4000000
namespace Mine
open PySem PySem.W PySem.Calls PyProof.Rows
noncomputable def st6 : Cut st5.P := by
  k_with_none
  k_with "mine fill" => (have hfill : (PySem.Challenge.rw_qh0047_01 = PySem.Challenge.rw_qh0047_01 ∧ Mine.kk.heap_1 = Mine.kk.heap_1) := by (k_fill; exact ⟨rfl, rfl⟩))
  k_with "mine rest" => ((case kA => exact rfl); (case kF => exact rfl); (case kK => assumption); (case k1 => k_asm); (case k2 => k_asm); (case k3 => k_asm); (case k5 => k_asm); (case k6 => k_is); (case k7 => k_is); (case k8 => ktr_room); (case k9 => exact BindsTo.of_eq rfl); (case c5 => decide); (case kB => exact locs rfl); (case c2 => exact rfl); (case c3 => exact rfl); (case c4 => exact rfl); k_whole; intro L' h' F' N' B' X' T'; (try dsimp only [List.reverse_cons, List.reverse_nil, List.nil_append, List.cons_append] at F'); (try dsimp only); (try k_lift B'); (try k_fold))
  k_with "exec Assign cons ListComp" => (k_here; (with_reducible show wpAny _ _ (exec (.Assign _ (.ListComp _ _ _ _) _) _) _ _ _); refine Held.out ?_)
  k_with "pyIter ref" => (k_here; (with_reducible show wpAny _ _ (pyIter (Value.ref _)) _ _ _); refine Held.out ?_)
  k_with "eval Tuple" => (k_here; (with_reducible show wpAny _ _ (eval (Expr.Tuple _ _ _) (compEnvC _ _ _ _)) _ _ _); refine wpAny_Tuple ?_)
  k_with "compareOp NotEq" => (k_here; (with_reducible refine b_ne_same ?_))
  k_with "binaryOp Add ref ref" => (k_here; (have : ∃ a c, okP a c := ⟨_, _, by with_reducible assumption⟩); clear this; (with_reducible show wpAny _ _ (binaryOp Operator.Add (Value.ref _) (Value.ref _)) _ _ _); refine Held.out ?_)
  k_with "call builtin:iter" => (k_here; (with_reducible show wpAny _ _ (call (Value.builtin "iter") [Value.ref _]) _ _ _); refine Held.out ?_)
  k_with "call ref" => (k_here; (with_reducible show wpAny _ _ (call (Value.ref 155) _ _) _ _ _); refine Held.out ?_)
  k_with "getMethod str" => (k_here; with_reducible refine m_encode ?_)
  k_with "call builtin:str.encode" => (k_here; (with_reducible show wpAny _ _ (call (Value.builtin "str.encode") [Value.str _ _, Value.str _ _]) _ _ _); (with_reducible refine c_encT (Plain128.lo (by assumption)) (Plain128.pos (by assumption)) (Plain128.fit (by assumption)) (Plain128.bytes (by assumption)) ?_); intro t9 k9)
  k_with "eval ListComp" => (k_here; (with_reducible show wpAny _ _ (eval (.ListComp _ _ _ _) _) _ _ _); refine Held.out ?_)
  refine' ⟨_, fun kCut => ?_⟩
  rotate_left
  · intro w
    set_option tactic.hygienic false in intros
    have hokD := okD_plain cs
    have hdl : (List.map plainOf cs).length ≤ 12 := by rw [List.length_map]; exact hclen
    (rename Fr _ _ _ _ => lF); (rename News _ _ _ _ => lN)
    generalize runN 0 (List.map plainOf cs) = r at hrun lF lN e1 e2
    generalize List.map plainOf cs = ds at hplain hdeed hokD hdl
    refine Held.mk ?_
    k_dflt refine ListComp_G (cl := []) (by rfl) (by decide) (by rfl) (by decide) ?_
    k_steps
    refine Held.mk ?_
    have hlP := News.isList lN (.tail _ (.head _))
    refine lc_expr (Y := YFlat vInt (List.map (fun p => p.2) ds)) rfl lF lN hlP ?len ?turn ?fin
    case len => rw [hplain.1]; omega
    case turn =>
      intro i v ys hv hy
      obtain ⟨p, hp, hR⟩ := hplain.at hv
      obtain ⟨d, t1, t2, rfl, hT⟩ := hR.tup lN (fun q hq => .tail _ (.tail _ (.tail _ (.tail _ (.tail _ hq)))))
      refine lc_tup2 rfl rfl rfl (by decide) rfl (YFlat.mono _ _) hy lF lN hT (fun h x => x.1) ?_
      intro C oC m' h tk E' hoC hx1 hx2 kFr' kNews hlt
      clear lF lN
      k_steps
      all_goals (try dsimp only)
      all_goals exact elt_flat (YFlat.mk (f := vInt) (map_at hp))
    case fin =>
      intro ps nw3 h tk hyl3 hY hDlt hnw kFr kNews
      clear lF lN
      dsimp only at kFr kNews hDlt hnw ⊢
      have hDc : @LT.lt Nat _ _ _ := hDlt _ (.tail _ (.tail _ (.head _)))
      generalize (Heap.push _ _).objs.size = D3 at kFr kNews hDlt hnw hDc
      have hps := YFlat.all (by rw [hyl3, hplain.1, List.length_map]) hY
      have lN := news_drop kNews
      clear hY kNews hDlt hnw hlP hyl3
      k_steps
      refine Held.mk ?_
      (rename Fr _ _ _ _ => lF); (rename News _ _ _ _ => lN)
      refine add_N lF lN (News.isList lN (.tail _ (.head _))) (News.isList lN (.head _)) ?hsz ?_
      case hsz => rw [hps.1, List.length_map]; show ds.length + 1 ≤ _; omega
      intro D4 h4 hD4 F' N'
      have hD4c : @LT.lt Nat _ _ _ := hD4 _ (.tail _ (.tail _ (.tail _ (.tail _ (.head _)))))
      dsimp only at hD4c hDc
      clear hD4
      k_steps
      clear lF lN
      (rename Fr _ _ _ _ => lF)
      (rename News _ _ _ _ => lN₀)
      have lN := news_ports lN₀
      clear lN₀
      k_dflt (refine' storeX_C lF lN ?hc (updF2 ?n1 ?n2 ?n3 ?n4 ?n5 (hown.ne ?n6)) ?hd ?_ ?hk ?hx)
      case hc => exact rfl
      case hd => assumption
      case n1 => dsimp only; omega
      case n2 => dsimp only; omega
      case n3 => dsimp only; omega
      case n4 => dsimp only; omega
      case n5 => dsimp only; omega
      case n6 => omega
      case hk => rfl
      case hx => rfl
      clear lF lN
      intro h5 oP lF lN dP
      obtain ⟨pv, hpv, lN⟩ := pv_gen lN hps
      clear hps
      k_steps
      repeat (first | exact kCut.out | revert ‹_›)
end Mine
end
section
set_option maxRecDepth 100000
set_option maxHeartbeats 4000000
namespace Mine
open PySem PySem.W PySem.Calls PyProof.Rows
noncomputable def st7 : Cut st6.P := by
  k_with_none
  k_with "mine fill" => (have hfill : (PySem.Challenge.rw_qh0047_01 = PySem.Challenge.rw_qh0047_01 ∧ Mine.kk.heap_1 = Mine.kk.heap_1) := by (k_fill; exact ⟨rfl, rfl⟩))
  k_with "mine rest" => ((case kA => exact rfl); (case kF => exact rfl); (case kK => assumption); (case k1 => k_asm); (case k2 => k_asm); (case k3 => k_asm); (case k5 => k_asm); (case k6 => k_is); (case k7 => k_is); (case k8 => ktr_room); (case k9 => exact BindsTo.of_eq rfl); (case c5 => decide); (case kB => exact locs rfl); (case c2 => exact rfl); (case c3 => exact rfl); (case c4 => exact rfl); k_whole; intro L' h' F' N' B' X' T'; (try dsimp only [List.reverse_cons, List.reverse_nil, List.nil_append, List.cons_append] at F'); (try dsimp only); (try k_lift B'); (try k_fold))
  k_with "exec Assign cons ListComp" => (k_here; (with_reducible show wpAny _ _ (exec (.Assign _ (.ListComp _ _ _ _) _) _) _ _ _); refine Held.out ?_)
  k_with "pyIter ref" => (k_here; (with_reducible show wpAny _ _ (pyIter (Value.ref _)) _ _ _); refine Held.out ?_)
  k_with "eval Tuple" => (k_here; (with_reducible show wpAny _ _ (eval (Expr.Tuple _ _ _) (compEnvC _ _ _ _)) _ _ _); refine wpAny_Tuple ?_)
  k_with "compareOp NotEq" => (k_here; (with_reducible refine b_ne_same ?_))
  k_with "binaryOp Add ref ref" => (k_here; (have : ∃ a c, okP a c := ⟨_, _, by with_reducible assumption⟩); clear this; (with_reducible show wpAny _ _ (binaryOp Operator.Add (Value.ref _) (Value.ref _)) _ _ _); refine Held.out ?_)
  k_with "call builtin:iter" => (k_here; (with_reducible show wpAny _ _ (call (Value.builtin "iter") [Value.ref _]) _ _ _); refine Held.out ?_)
  k_with "call ref" => (k_here; (with_reducible show wpAny _ _ (call (Value.ref 155) _ _) _ _ _); refine Held.out ?_)
  k_with "getMethod str" => (k_here; with_reducible refine m_encode ?_)
  k_with "call builtin:str.encode" => (k_here; (with_reducible show wpAny _ _ (call (Value.builtin "str.encode") [Value.str _ _, Value.str _ _]) _ _ _); (with_reducible refine c_encT (Plain128.lo (by assumption)) (Plain128.pos (by assumption)) (Plain128.fit (by assumption)) (Plain128.bytes (by assumption)) ?_); intro t9 k9)
  k_with "eval ListComp" => (k_here; (with_reducible show wpAny _ _ (eval (.ListComp _ _ _ _) _) _ _ _); refine Held.out ?_)
  k_with "pyIter bytes" => (k_here; (with_reducible show wpAny _ _ (pyIter (Value.bytes _ _)) _ _ _); refine Held.out ?_)
  k_with "call builtin:chr" => (k_here; (with_reducible show wpAny _ _ (call (Value.builtin "chr") [Value.int _ _]) _ _ _); (refine t_chr (by assumption) ?_); intro _ _)
  k_with "call builtin:str.join" => (k_here; (with_reducible show wpAny _ _ (call (Value.builtin "str.join") [Value.str _ _, Value.ref _]) _ _ _); (refine t_join (News.isList (by k_asm) (.head _)) (by assumption) (by assumption) ?_); intro _ _)
  refine' ⟨_, fun kCut => ?_⟩
  rotate_left
  · intro w
    set_option tactic.hygienic false in intros
    (rename Fr _ _ _ _ => lF); (rename News _ _ _ _ => lN)
    refine Held.mk ?_
    k_dflt refine ListComp_G (cl := []) (by rfl) (by decide) (by rfl) (by decide) ?_
    k_steps
    refine Held.mk ?_
    have hlP := News.isList lN (.tail _ (.head _))
    refine lc_expr (Y := YFlat vTxt (List.map (fun p => bodyL p.2 pc) ds)) rfl lF lN hlP ?len ?turn ?fin
    case len => rw [hdeed.1]; omega
    case turn =>
      intro i v ys hv hy
      obtain ⟨p, hp, hR⟩ := hdeed.at hv
      obtain ⟨d, t1, t2, t3, rfl, hT⟩ := hR.tup lN (fun q hq => .tail _ (.tail _ (.tail _ (.tail _ (.tail _ (.tail _ hq))))))
      refine lc_tup3 rfl rfl rfl rfl (by decide) (by decide) (by decide) rfl (YFlat.mono _ _) hy lF lN hT (fun h x => x.1) ?_
      intro C oC m' h tk E' hoC hx1 hx2 hx3 kFr' kNews hlt
      clear lF lN
      k_steps
      all_goals (try dsimp only)
      all_goals exact elt_flat (YFlat.mk (f := vTxt) (map_at hp))
    case fin =>
      intro bs nw4 h tk hyl4 hY hDlt hnw kFr kNews
      clear lF lN
      dsimp only at kFr kNews hDlt hnw ⊢
      have hD5c : @LT.lt Nat _ _ _ := hDlt _ (.tail _ (.tail _ (.tail _ (.head _))))
      dsimp only at hD5c
      generalize (Heap.push _ _).objs.size = D5 at kFr kNews hDlt hnw hD5c
      have hbs := YFlat.all (by rw [hyl4, hdeed.1, List.length_map]) hY
      have lN := news_drop kNews
      clear hY kNews hDlt hnw hlP hyl4
      k_steps
      refine Held.mk ?_
      (rename Fr _ _ _ _ => lF); (rename News _ _ _ _ => lN)
      k_dflt refine ListComp_G (cl := []) (by rfl) (by decide) (by rfl) (by decide) ?_
      k_steps
      refine Held.mk ?_
      refine lc_bytes (Y := YFlat vChr (bodyL r pc)) rfl lF lN ?len ?turn ?fin
      case len => rw [bodyB_size]; decide
      case turn =>
        intro i c u ys hv hy
        have hc := bodyB_at (okP_lt hok).2 hv
        have hc2 : c.toNat < 1114112 := Nat.lt_trans c.toNat_lt (by decide)
        refine lc_name rfl rfl (YFlat.mono _ _) hy lF lN ?_
        intro C oC m' h tk E' hoC hx1 kFr' kNews hlt
        clear lF lN
        k_steps
        all_goals (try dsimp only)
        all_goals exact elt_flat (YFlat.mk (f := vChr) hc)
      case fin =>
        intro chs nw5 h tk hyl5 hY hDlt hnw kFr kNews
        clear lF lN
        dsimp only at kFr kNews hDlt hnw ⊢
        have hD6c : @LT.lt Nat _ _ _ := hDlt _ (.tail _ (.tail _ (.tail _ (.tail _ (.head _)))))
        dsimp only at hD6c
        generalize (Heap.push _ _).objs.size = D6 at kFr kNews hDlt hnw hD6c
        have hchs := YFlat.all (by rw [hyl5, bodyB_size, bodyL_len]) hY
        have hchn : (bodyL r pc).length ≤ 4096 := by rw [bodyL_len]; decide
        have lN := news_drop kNews
        clear hY kNews hDlt hnw hyl5
        k_steps
        repeat (first | exact kCut.out | revert ‹_›)
end Mine
end
section
set_option maxRecDepth 100000
set_option maxHeartbeats 4000000
namespace Mine
open PySem PySem.W PySem.Calls PyProof.Rows
noncomputable def st8 : Cut st7.P := by
  k_with_none
  k_with "mine fill" => (have hfill : (PySem.Challenge.rw_qh0047_01 = PySem.Challenge.rw_qh0047_01 ∧ Mine.kk.heap_1 = Mine.kk.heap_1) := by (k_fill; exact ⟨rfl, rfl⟩))
  k_with "mine rest" => ((case kA => exact rfl); (case kF => exact rfl); (case kK => assumption); (case k1 => k_asm); (case k2 => k_asm); (case k3 => k_asm); (case k5 => k_asm); (case k6 => k_is); (case k7 => k_is); (case k8 => ktr_room); (case k9 => exact BindsTo.of_eq rfl); (case c5 => decide); (case kB => exact locs rfl); (case c2 => exact rfl); (case c3 => exact rfl); (case c4 => exact rfl); k_whole; intro L' h' F' N' B' X' T'; (try dsimp only [List.reverse_cons, List.reverse_nil, List.nil_append, List.cons_append] at F'); (try dsimp only); (try k_lift B'); (try k_fold))
  k_with "exec Assign cons ListComp" => (k_here; (with_reducible show wpAny _ _ (exec (.Assign _ (.ListComp _ _ _ _) _) _) _ _ _); refine Held.out ?_)
  k_with "pyIter ref" => (k_here; (with_reducible show wpAny _ _ (pyIter (Value.ref _)) _ _ _); refine Held.out ?_)
  k_with "eval Tuple" => (k_here; (with_reducible show wpAny _ _ (eval (Expr.Tuple _ _ _) (compEnvC _ _ _ _)) _ _ _); refine wpAny_Tuple ?_)
  k_with "compareOp NotEq" => (k_here; (with_reducible refine b_ne_same ?_))
  k_with "binaryOp Add ref ref" => (k_here; (have : ∃ a c, okP a c := ⟨_, _, by with_reducible assumption⟩); clear this; (with_reducible show wpAny _ _ (binaryOp Operator.Add (Value.ref _) (Value.ref _)) _ _ _); refine Held.out ?_)
  k_with "call builtin:iter" => (k_here; (with_reducible show wpAny _ _ (call (Value.builtin "iter") [Value.ref _]) _ _ _); refine Held.out ?_)
  k_with "call ref" => (k_here; (with_reducible show wpAny _ _ (call (Value.ref 155) _ _) _ _ _); refine Held.out ?_)
  k_with "getMethod str" => (k_here; with_reducible refine m_encode ?_)
  k_with "call builtin:str.encode" => (k_here; (with_reducible show wpAny _ _ (call (Value.builtin "str.encode") [Value.str _ _, Value.str _ _]) _ _ _); (with_reducible refine c_encT (Plain128.lo (by assumption)) (Plain128.pos (by assumption)) (Plain128.fit (by assumption)) (Plain128.bytes (by assumption)) ?_); intro t9 k9)
  k_with "eval ListComp" => (k_here; (with_reducible show wpAny _ _ (eval (.ListComp _ _ _ _) _) _ _ _); refine Held.out ?_)
  k_with "pyIter bytes" => (k_here; (with_reducible show wpAny _ _ (pyIter (Value.bytes _ _)) _ _ _); refine Held.out ?_)
  k_with "call builtin:chr" => (k_here; (with_reducible show wpAny _ _ (call (Value.builtin "chr") [Value.int _ _]) _ _ _); (refine t_chr (by assumption) ?_); intro _ _)
  k_with "call builtin:str.join" => (k_here; (with_reducible show wpAny _ _ (call (Value.builtin "str.join") [Value.str _ _, Value.ref _]) _ _ _); (refine t_join (News.isList (by k_asm) (.head _)) (by assumption) (by assumption) ?_); intro _ _)
  k_with "subscriptTail" => (k_here; (with_reducible show wpAny _ _ (subscriptTail _ _ (Value.str _ _) (Value.int _ _)) _ _ _); (refine t_item (by assumption) ?_))
  k_with "subscriptTail" => (k_here; (with_reducible show wpAny _ _ (subscriptTail _ (Expr.Slice none (some _) none _) (Value.str _ _) (Value.ref _)) _ _ _); (with_reducible rename Fr _ _ _ _ => F'); (with_reducible rename News _ _ _ _ => N'); (refine t_slice_ns (s := ⟨_, _, _, _, _⟩) F' N' (by assumption) (by assumption) ?_); intro _ _ _ F' N')
  k_with "subscriptTail" => (k_here; (with_reducible show wpAny _ _ (subscriptTail _ (Expr.Slice (some _) none none _) (Value.str _ _) (Value.ref _)) _ _ _); (with_reducible rename Fr _ _ _ _ => F'); (with_reducible rename News _ _ _ _ => N'); (refine t_slice_sn (s := ⟨_, _, _, _, _⟩) F' N' (by assumption) (by assumption) ?_); intro _ _ _ F' N')
  k_with "subscriptTail" => (k_here; (with_reducible show wpAny _ _ (subscriptTail _ (Expr.Slice (some _) (some _) none _) (Value.str _ _) (Value.ref _)) _ _ _); (with_reducible rename Fr _ _ _ _ => F'); (with_reducible rename News _ _ _ _ => N'); (refine t_slice_ss (s := ⟨_, _, _, _, _⟩) F' N' (by assumption) (by assumption) ?_); intro _ _ _ F' N')
  k_with "binaryOp Add str str" => (k_here; (with_reducible show wpAny _ _ (binaryOp Operator.Add (Value.str _ _) (Value.str _ _)) _ _ _); (refine t_add (by first | assumption | with_reducible exact rfl) (by first | assumption | with_reducible exact rfl) (by first | assumption | exact Nat.le_of_ble_eq_true rfl | omega | (simp only [List.length_append, List.length_cons, List.length_nil]; omega)) ?_); intro _ _)
  k_with "binaryOp Mult str int" => (k_here; (with_reducible show wpAny _ _ (binaryOp Operator.Mult (Value.str _ _) (Value.int _ _)) _ _ _); (refine t_mul (by first | assumption | with_reducible exact rfl) (by assumption) (by exact Nat.le_of_ble_eq_true rfl) (by decide) (by decide) ?_); intro _ _)
  k_with "call type:str" => (k_here; (with_reducible show wpAny _ _ (call (Value.type "str") [Value.int _ _]) _ _ _); (refine t_str (by assumption) (by omega) (by omega) ?_); intro _ _)
  k_with "subscriptTail Name Slice str ref" => (k_here; (with_reducible show wpAny _ _ (subscriptTail _ (Expr.Slice none (some _) none _) (Value.str _ _) (Value.ref _)) _ _ _); (with_reducible rename Fr _ _ _ _ => F'); (with_reducible rename News _ _ _ _ => N'); (refine t_slice_ns (s := ⟨_, _, _, _, _⟩) F' N' (by assumption) (by assumption) ?_); intro _ _ _ F' N')
  k_with "subscriptTail Name Slice str ref" => (k_here; (with_reducible show wpAny _ _ (subscriptTail _ (Expr.Slice (some _) none none _) (Value.str _ _) (Value.ref _)) _ _ _); (with_reducible rename Fr _ _ _ _ => F'); (with_reducible rename News _ _ _ _ => N'); (refine t_slice_sn (s := ⟨_, _, _, _, _⟩) F' N' (by assumption) (by assumption) ?_); intro _ _ _ F' N')
  k_with "subscriptTail Name Slice str ref" => (k_here; (with_reducible show wpAny _ _ (subscriptTail _ (Expr.Slice (some _) (some _) none _) (Value.str _ _) (Value.ref _)) _ _ _); (with_reducible rename Fr _ _ _ _ => F'); (with_reducible rename News _ _ _ _ => N'); (refine t_slice_ss (s := ⟨_, _, _, _, _⟩) F' N' (by assumption) (by assumption) ?_); intro _ _ _ F' N')
  k_with "compareOp NotEq str str" => (k_here; (with_reducible refine t_ne_same ?_))
  k_with "compareOp Eq str str" => (k_here; (with_reducible refine t_eq_same ?_))
  k_with "call builtin:len" => (k_here; (with_reducible show wpAny _ _ (call (Value.builtin "len") [Value.ref _]) _ _ _); k_dflt (refine KM.len_K (n := _) (by k_asm) (by k_mem) (by with_reducible assumption) (by omega) ?_))
  refine' ⟨_, fun kCut => ?_⟩
  rotate_left
  · intro w
    set_option tactic.hygienic false in intros
    refine Held.mk ?_
    (rename Fr _ _ _ _ => lF); (rename News _ _ _ _ => lN)
    refine add_N lF lN (News.isList lN (.tail _ (.tail _ (.head _)))) (News.isList lN (.head _)) ?hsz ?_
    case hsz => rw [hbs.1, List.length_map]; show ds.length + 1 ≤ _; omega
    intro D7 h7 hD7 F' N'
    have hD7c : @LT.lt Nat _ _ _ := hD7 _ (.tail _ (.tail _ (.tail _ (.tail _ (.tail _ (.tail _ (.head _)))))))
    dsimp only at hD7c
    clear hD7
    k_steps
    (rename Fr _ _ _ _ => lF); (rename News _ _ _ _ => lN)
    replace lN := news_bodies lN
    obtain ⟨bv, hbv, lN⟩ := bv_gen lN hbs
    clear hbs hchs hchn
    refine Held.mk ?_
    refine wpAny_Assign_Name ?_ (by with_unfolding_all rfl)
    k_steps
    refine Held.mk ?_
    k_dflt refine ListComp_G (cl := []) (by rfl) (by decide) (by rfl) (by decide) ?_
    k_steps
    refine Held.mk ?_
    have hlP := News.isList lN (.tail _ (.head _))
    have hpL := portsL_lt hokD hrun
    have hqs : (portsL ds r).length = ds.length + 1 := portsL_len ds r
    have hsz : pv.toArray.size = ds.length + 1 := by rw [List.size_toArray, hpv.1, hqs]
    refine lc_expr (Y := YFlat vTxt (List.map hostL (portsL ds r))) rfl lF lN hlP ?len ?turn ?fin
    case len => rw [hpv.1, hqs]; omega
    case turn =>
      intro i v ys hv hy
      obtain ⟨q, tq, hq, rfl⟩ := hpv.at hv
      have hq2 := hpL q (List.mem_of_getElem? hq)
      have x1 := tx_text q
      have x2 := tx_len hq2
      have x3 := ex_lit
      have x4 : exL.length = 8 := rfl
      refine lc_name rfl rfl (YFlat.mono _ _) hy lF lN ?_
      intro C oC m' h tk E' hoC hx1 kFr' kNews hlt
      clear lF lN
      unfold vInt at hx1
      k_steps
      all_goals (try dsimp only)
      all_goals exact elt_flat (YFlat.mk (f := vTxt) (map_at (f := hostL) hq))
    case fin =>
      intro hv nw6 h tk hyl6 hY hDlt hnw kFr kNews
      clear lF lN
      dsimp only at kFr kNews hDlt hnw ⊢
      have hD8c : @LT.lt Nat _ _ _ := hDlt _ (.tail _ (.tail _ (.head _)))
      dsimp only at hD8c
      have hownD : ∀ p ∈ own, @LT.lt Nat _ p.1 _ := fun p hp => hDlt p (.tail _ (.tail _ (.tail _ (.tail _ (.tail _ hp)))))
      generalize (Heap.push _ _).objs.size = D8 at kFr kNews hDlt hnw hD8c hownD
      have hhs := YFlat.all (by rw [hyl6, hpv.1, List.length_map]) hY
      have lN := news_drop kNews
      clear hY kNews hDlt hnw hyl6 hlP
      k_steps
      (rename Fr _ _ _ _ => lF); (rename News _ _ _ _ => lN)
      k_dflt (refine' storeX_C lF lN ?hc (updF3 ?n1 ?n2 ?n3 ?n4 ?n5 (hown.ne ?n6)) ?hd ?_ ?hk ?hx)
      case hc => exact rfl
      case hd => assumption
      case n1 => dsimp only; omega
      case n2 => dsimp only; omega
      case n3 => dsimp only; omega
      case n4 => dsimp only; omega
      case n5 => dsimp only; omega
      case n6 => omega
      case hk => rfl
      case hx => rfl
      clear lF lN
      intro h8 oH lF lN dH
      k_steps
      repeat (first | exact kCut.out | revert ‹_›)
end Mine
end
section
set_option maxRecDepth 100000
set_option maxHeartbeats 4000000
namespace Mine
open PySem PySem.W PySem.Calls PyProof.Rows
noncomputable def st9 : Cut st8.P := by
  k_with_none
  k_with "mine fill" => (have hfill : (PySem.Challenge.rw_qh0047_01 = PySem.Challenge.rw_qh0047_01 ∧ Mine.kk.heap_1 = Mine.kk.heap_1) := by (k_fill; exact ⟨rfl, rfl⟩))
  k_with "mine rest" => ((case kA => exact rfl); (case kF => exact rfl); (case kK => assumption); (case k1 => k_asm); (case k2 => k_asm); (case k3 => k_asm); (case k5 => k_asm); (case k6 => k_is); (case k7 => k_is); (case k8 => ktr_room); (case k9 => exact BindsTo.of_eq rfl); (case c5 => decide); (case kB => exact locs rfl); (case c2 => exact rfl); (case c3 => exact rfl); (case c4 => exact rfl); k_whole; intro L' h' F' N' B' X' T'; (try dsimp only [List.reverse_cons, List.reverse_nil, List.nil_append, List.cons_append] at F'); (try dsimp only); (try k_lift B'); (try k_fold))
  k_with "exec Assign cons ListComp" => (k_here; (with_reducible show wpAny _ _ (exec (.Assign _ (.ListComp _ _ _ _) _) _) _ _ _); refine Held.out ?_)
  k_with "pyIter ref" => (k_here; (with_reducible show wpAny _ _ (pyIter (Value.ref _)) _ _ _); refine Held.out ?_)
  k_with "eval Tuple" => (k_here; (with_reducible show wpAny _ _ (eval (Expr.Tuple _ _ _) (compEnvC _ _ _ _)) _ _ _); refine wpAny_Tuple ?_)
  k_with "compareOp NotEq" => (k_here; (with_reducible refine b_ne_same ?_))
  k_with "binaryOp Add ref ref" => (k_here; (have : ∃ a c, okP a c := ⟨_, _, by with_reducible assumption⟩); clear this; (with_reducible show wpAny _ _ (binaryOp Operator.Add (Value.ref _) (Value.ref _)) _ _ _); refine Held.out ?_)
  k_with "call builtin:iter" => (k_here; (with_reducible show wpAny _ _ (call (Value.builtin "iter") [Value.ref _]) _ _ _); refine Held.out ?_)
  k_with "call ref" => (k_here; (with_reducible show wpAny _ _ (call (Value.ref 155) _ _) _ _ _); refine Held.out ?_)
  k_with "getMethod str" => (k_here; with_reducible refine m_encode ?_)
  k_with "call builtin:str.encode" => (k_here; (with_reducible show wpAny _ _ (call (Value.builtin "str.encode") [Value.str _ _, Value.str _ _]) _ _ _); (with_reducible refine c_encT (Plain128.lo (by assumption)) (Plain128.pos (by assumption)) (Plain128.fit (by assumption)) (Plain128.bytes (by assumption)) ?_); intro t9 k9)
  k_with "eval ListComp" => (k_here; (with_reducible show wpAny _ _ (eval (.ListComp _ _ _ _) _) _ _ _); refine Held.out ?_)
  k_with "pyIter bytes" => (k_here; (with_reducible show wpAny _ _ (pyIter (Value.bytes _ _)) _ _ _); refine Held.out ?_)
  k_with "call builtin:chr" => (k_here; (with_reducible show wpAny _ _ (call (Value.builtin "chr") [Value.int _ _]) _ _ _); (refine t_chr (by assumption) ?_); intro _ _)
  k_with "call builtin:str.join" => (k_here; (with_reducible show wpAny _ _ (call (Value.builtin "str.join") [Value.str _ _, Value.ref _]) _ _ _); (refine t_join (News.isList (by k_asm) (.head _)) (by assumption) (by assumption) ?_); intro _ _)
  k_with "call builtin:len" => (k_here; (with_reducible show wpAny _ _ (call (Value.builtin "len") [Value.ref _]) _ _ _); k_dflt (refine KM.len_K (n := _) (by k_asm) (by k_mem) (by with_reducible assumption) (by omega) ?_))
  k_with "subscriptTail" => (k_here; (with_reducible show wpAny _ _ (subscriptTail _ _ (Value.str _ _) (Value.int _ _)) _ _ _); (refine t_item (by assumption) ?_))
  k_with "subscriptTail" => (k_here; (with_reducible show wpAny _ _ (subscriptTail _ (Expr.Slice none (some _) none _) (Value.str _ _) (Value.ref _)) _ _ _); (with_reducible rename Fr _ _ _ _ => F'); (with_reducible rename News _ _ _ _ => N'); (refine t_slice_ns (s := ⟨_, _, _, _, _⟩) F' N' (by assumption) (by assumption) ?_); intro _ _ _ F' N')
  k_with "subscriptTail" => (k_here; (with_reducible show wpAny _ _ (subscriptTail _ (Expr.Slice (some _) none none _) (Value.str _ _) (Value.ref _)) _ _ _); (with_reducible rename Fr _ _ _ _ => F'); (with_reducible rename News _ _ _ _ => N'); (refine t_slice_sn (s := ⟨_, _, _, _, _⟩) F' N' (by assumption) (by assumption) ?_); intro _ _ _ F' N')
  k_with "subscriptTail" => (k_here; (with_reducible show wpAny _ _ (subscriptTail _ (Expr.Slice (some _) (some _) none _) (Value.str _ _) (Value.ref _)) _ _ _); (with_reducible rename Fr _ _ _ _ => F'); (with_reducible rename News _ _ _ _ => N'); (refine t_slice_ss (s := ⟨_, _, _, _, _⟩) F' N' (by assumption) (by assumption) ?_); intro _ _ _ F' N')
  k_with "binaryOp Add str str" => (k_here; (with_reducible show wpAny _ _ (binaryOp Operator.Add (Value.str _ _) (Value.str _ _)) _ _ _); (refine t_add (by first | assumption | with_reducible exact rfl) (by first | assumption | with_reducible exact rfl) (by first | assumption | exact Nat.le_of_ble_eq_true rfl | omega | (simp only [List.length_append, List.length_cons, List.length_nil]; omega)) ?_); intro _ _)
  k_with "binaryOp Mult str int" => (k_here; (with_reducible show wpAny _ _ (binaryOp Operator.Mult (Value.str _ _) (Value.int _ _)) _ _ _); (refine t_mul (by first | assumption | with_reducible exact rfl) (by assumption) (by exact Nat.le_of_ble_eq_true rfl) (by decide) (by decide) ?_); intro _ _)
  k_with "call type:str" => (k_here; (with_reducible show wpAny _ _ (call (Value.type "str") [Value.int _ _]) _ _ _); (refine t_str (by assumption) (by omega) (by omega) ?_); intro _ _)
  k_with "subscriptTail Name Slice str ref" => (k_here; (with_reducible show wpAny _ _ (subscriptTail _ (Expr.Slice none (some _) none _) (Value.str _ _) (Value.ref _)) _ _ _); (with_reducible rename Fr _ _ _ _ => F'); (with_reducible rename News _ _ _ _ => N'); (refine t_slice_ns (s := ⟨_, _, _, _, _⟩) F' N' (by assumption) (by assumption) ?_); intro _ _ _ F' N')
  k_with "subscriptTail Name Slice str ref" => (k_here; (with_reducible show wpAny _ _ (subscriptTail _ (Expr.Slice (some _) none none _) (Value.str _ _) (Value.ref _)) _ _ _); (with_reducible rename Fr _ _ _ _ => F'); (with_reducible rename News _ _ _ _ => N'); (refine t_slice_sn (s := ⟨_, _, _, _, _⟩) F' N' (by assumption) (by assumption) ?_); intro _ _ _ F' N')
  k_with "subscriptTail Name Slice str ref" => (k_here; (with_reducible show wpAny _ _ (subscriptTail _ (Expr.Slice (some _) (some _) none _) (Value.str _ _) (Value.ref _)) _ _ _); (with_reducible rename Fr _ _ _ _ => F'); (with_reducible rename News _ _ _ _ => N'); (refine t_slice_ss (s := ⟨_, _, _, _, _⟩) F' N' (by assumption) (by assumption) ?_); intro _ _ _ F' N')
  k_with "compareOp NotEq str str" => (k_here; (with_reducible refine t_ne_same ?_))
  k_with "compareOp Eq str str" => (k_here; (with_reducible refine t_eq_same ?_))
  k_with "subscriptTail" => (k_here; (have : ∃ a c, okP a c := ⟨_, _, by with_reducible assumption⟩); clear this; (with_reducible show wpAny _ _ (subscriptTail _ _ (Value.ref _) (Value.int (Nat.cast _) _)) _ _ _); k_dflt (refine item_N (by k_asm) (by k_mem) (by with_reducible assumption) (by omega) ?_))
  k_with "subscriptTail" => (k_here; (have : ∃ a c, okP a c := ⟨_, _, by with_reducible assumption⟩); clear this; (with_reducible show wpAny _ _ (subscriptTail _ _ (Value.ref _) (Value.int 0 _)) _ _ _); k_dflt (refine item_0 (by k_asm) (by k_mem) (by with_reducible assumption) ?_))
  k_with "call ref" => ktr_call (does_use does_reply) (by trivial)
  k_with "call ref" => ktr_call (doesN_use does_p2) (by exact ⟨News.isTup (by k_asm) (.head _), by assumption, by assumption⟩)
  k_with "call ref" => ktr_call (doesN_use does_p4) (by exact ⟨News.isTup (by k_asm) (.head _), by assumption, by assumption⟩)
  k_with "call builtin:list.append" => (k_here; (with_reducible show wpAny _ _ (call (Value.builtin "list.append") [Value.ref _, Value.ref _]) _ _ _); refine Held.out ?_)
  refine' ⟨_, fun kCut => ?_⟩
  rotate_left
  · intro w
    set_option tactic.hygienic false in intros
    (rename Fr _ _ _ _ => lF); (rename News _ _ _ _ => lN)
    refine Held.mk ?_
    (rename (@LT.lt Nat _ D8 _ ∧ _) => hl8)
    have hq13 : ds.length + 1 ≤ 13 := by omega
    have hbl := bl_of lN ?b8 ?b7 ?b4 ?b3 ?b2 ?b1 ?b0
    k_dflt refine' told_loop (fun i o => ∀ q, (portsL ds r)[i]? = some q → ∃ t1 t2, o = tup2 (.str (Mine.T (hostL q)) t1) (.int (q : Int) t2)) rfl (by assumption) hq13 lF lN hbl ?turn ?done
    case b8 => dsimp only; omega
    case b7 => dsimp only; omega
    case b4 => dsimp only; omega
    case b3 => dsimp only; omega
    case b2 => dsimp only; omega
    case b1 => dsimp only; omega
    case b0 => intro p hp; have := hownD p hp; omega
    case turn =>
      intro i tk0 u1 u2 h tk us c own' hi hus hol kFr kNews
      clear lF lN
      have hne0 : ∀ p ∈ (_ ++ own'), p.1 ≠ _ := fun p hp => (List.mem_append.mp hp).elim (hbl p) (hol p)
      simp only [List.cons_append] at kNews
      obtain ⟨q, hq⟩ : ∃ q, (portsL ds r)[i]? = some q := ⟨_, List.getElem?_eq_getElem (by rw [hqs]; exact hi)⟩
      obtain ⟨q0, hq0⟩ : ∃ q, (portsL ds r)[0]? = some q := ⟨_, List.getElem?_eq_getElem (by rw [hqs]; omega)⟩
      have hq2 := hpL q (List.mem_of_getElem? hq)
      obtain ⟨tb, hb1⟩ := hbv.2 i _ (map_at hq)
      obtain ⟨tb0, hb0⟩ := hbv.2 0 _ (map_at hq0)
      obtain ⟨th, hh1⟩ := hhs.2 i _ (map_at hq)
      unfold vTxt at hb1 hb0 hh1
      k_steps
      all_goals (
        refine Held.mk ?_
        (rename Fr _ _ _ _ => lF)
        (rename News _ _ _ _ => lN)
        (rename (∃ tb, _ = tup2 _ _) => hRN)
        refine told_turn lF lN (by assumption) hne0 (by omega) ?_
        intro h9 F9 N9 hDl hDb
        k_steps
        all_goals (try dsimp only)
        all_goals exact ⟨rfl, _, _, _, _, _, rfl, F9, N9, hDl, hDb, told_obj hq hRN, by intro z z1 z2 z3; simp only [if_neg z1, if_neg z2, if_neg z3]⟩)
    case done =>
      intro u0 u1 u2 h tk us c own2 hul hTold hol kFr kNews
      clear lF lN
      simp only [List.cons_append] at kNews
      repeat (first | exact kCut.out | revert ‹_›)
end Mine
end
section
set_option maxRecDepth 100000
set_option maxHeartbeats 4000000
namespace Mine
open PySem PySem.W PySem.Calls PyProof.Rows
noncomputable def st10 : Cut st9.P := by
  k_with_none
  k_with "mine fill" => (have hfill : (PySem.Challenge.rw_qh0047_01 = PySem.Challenge.rw_qh0047_01 ∧ Mine.kk.heap_1 = Mine.kk.heap_1) := by (k_fill; exact ⟨rfl, rfl⟩))
  k_with "mine rest" => ((case kA => exact rfl); (case kF => exact rfl); (case kK => assumption); (case k1 => k_asm); (case k2 => k_asm); (case k3 => k_asm); (case k5 => k_asm); (case k6 => k_is); (case k7 => k_is); (case k8 => ktr_room); (case k9 => exact BindsTo.of_eq rfl); (case c5 => decide); (case kB => exact locs rfl); (case c2 => exact rfl); (case c3 => exact rfl); (case c4 => exact rfl); k_whole; intro L' h' F' N' B' X' T'; (try dsimp only [List.reverse_cons, List.reverse_nil, List.nil_append, List.cons_append] at F'); (try dsimp only); (try k_lift B'); (try k_fold))
  k_with "exec Assign cons ListComp" => (k_here; (with_reducible show wpAny _ _ (exec (.Assign _ (.ListComp _ _ _ _) _) _) _ _ _); refine Held.out ?_)
  k_with "pyIter ref" => (k_here; (with_reducible show wpAny _ _ (pyIter (Value.ref _)) _ _ _); refine Held.out ?_)
  k_with "eval Tuple" => (k_here; (with_reducible show wpAny _ _ (eval (Expr.Tuple _ _ _) (compEnvC _ _ _ _)) _ _ _); refine wpAny_Tuple ?_)
  k_with "compareOp NotEq" => (k_here; (with_reducible refine b_ne_same ?_))
  k_with "binaryOp Add ref ref" => (k_here; (have : ∃ a c, okP a c := ⟨_, _, by with_reducible assumption⟩); clear this; (with_reducible show wpAny _ _ (binaryOp Operator.Add (Value.ref _) (Value.ref _)) _ _ _); refine Held.out ?_)
  k_with "call builtin:iter" => (k_here; (with_reducible show wpAny _ _ (call (Value.builtin "iter") [Value.ref _]) _ _ _); refine Held.out ?_)
  k_with "call ref" => (k_here; (with_reducible show wpAny _ _ (call (Value.ref 155) _ _) _ _ _); refine Held.out ?_)
  k_with "getMethod str" => (k_here; with_reducible refine m_encode ?_)
  k_with "call builtin:str.encode" => (k_here; (with_reducible show wpAny _ _ (call (Value.builtin "str.encode") [Value.str _ _, Value.str _ _]) _ _ _); (with_reducible refine c_encT (Plain128.lo (by assumption)) (Plain128.pos (by assumption)) (Plain128.fit (by assumption)) (Plain128.bytes (by assumption)) ?_); intro t9 k9)
  k_with "eval ListComp" => (k_here; (with_reducible show wpAny _ _ (eval (.ListComp _ _ _ _) _) _ _ _); refine Held.out ?_)
  k_with "pyIter bytes" => (k_here; (with_reducible show wpAny _ _ (pyIter (Value.bytes _ _)) _ _ _); refine Held.out ?_)
  k_with "call builtin:chr" => (k_here; (with_reducible show wpAny _ _ (call (Value.builtin "chr") [Value.int _ _]) _ _ _); (refine t_chr (by assumption) ?_); intro _ _)
  k_with "call builtin:str.join" => (k_here; (with_reducible show wpAny _ _ (call (Value.builtin "str.join") [Value.str _ _, Value.ref _]) _ _ _); (refine t_join (News.isList (by k_asm) (.head _)) (by assumption) (by assumption) ?_); intro _ _)
  k_with "call builtin:len" => (k_here; (with_reducible show wpAny _ _ (call (Value.builtin "len") [Value.ref _]) _ _ _); k_dflt (refine KM.len_K (n := _) (by k_asm) (by k_mem) (by with_reducible assumption) (by omega) ?_))
  k_with "subscriptTail" => (k_here; (with_reducible show wpAny _ _ (subscriptTail _ _ (Value.str _ _) (Value.int _ _)) _ _ _); (refine t_item (by assumption) ?_))
  k_with "subscriptTail" => (k_here; (with_reducible show wpAny _ _ (subscriptTail _ (Expr.Slice none (some _) none _) (Value.str _ _) (Value.ref _)) _ _ _); (with_reducible rename Fr _ _ _ _ => F'); (with_reducible rename News _ _ _ _ => N'); (refine t_slice_ns (s := ⟨_, _, _, _, _⟩) F' N' (by assumption) (by assumption) ?_); intro _ _ _ F' N')
  k_with "subscriptTail" => (k_here; (with_reducible show wpAny _ _ (subscriptTail _ (Expr.Slice (some _) none none _) (Value.str _ _) (Value.ref _)) _ _ _); (with_reducible rename Fr _ _ _ _ => F'); (with_reducible rename News _ _ _ _ => N'); (refine t_slice_sn (s := ⟨_, _, _, _, _⟩) F' N' (by assumption) (by assumption) ?_); intro _ _ _ F' N')
  k_with "subscriptTail" => (k_here; (with_reducible show wpAny _ _ (subscriptTail _ (Expr.Slice (some _) (some _) none _) (Value.str _ _) (Value.ref _)) _ _ _); (with_reducible rename Fr _ _ _ _ => F'); (with_reducible rename News _ _ _ _ => N'); (refine t_slice_ss (s := ⟨_, _, _, _, _⟩) F' N' (by assumption) (by assumption) ?_); intro _ _ _ F' N')
  k_with "binaryOp Add str str" => (k_here; (with_reducible show wpAny _ _ (binaryOp Operator.Add (Value.str _ _) (Value.str _ _)) _ _ _); (refine t_add (by first | assumption | with_reducible exact rfl) (by first | assumption | with_reducible exact rfl) (by first | assumption | exact Nat.le_of_ble_eq_true rfl | omega | (simp only [List.length_append, List.length_cons, List.length_nil]; omega)) ?_); intro _ _)
  k_with "binaryOp Mult str int" => (k_here; (with_reducible show wpAny _ _ (binaryOp Operator.Mult (Value.str _ _) (Value.int _ _)) _ _ _); (refine t_mul (by first | assumption | with_reducible exact rfl) (by assumption) (by exact Nat.le_of_ble_eq_true rfl) (by decide) (by decide) ?_); intro _ _)
  k_with "call type:str" => (k_here; (with_reducible show wpAny _ _ (call (Value.type "str") [Value.int _ _]) _ _ _); (refine t_str (by assumption) (by omega) (by omega) ?_); intro _ _)
  k_with "subscriptTail Name Slice str ref" => (k_here; (with_reducible show wpAny _ _ (subscriptTail _ (Expr.Slice none (some _) none _) (Value.str _ _) (Value.ref _)) _ _ _); (with_reducible rename Fr _ _ _ _ => F'); (with_reducible rename News _ _ _ _ => N'); (refine t_slice_ns (s := ⟨_, _, _, _, _⟩) F' N' (by assumption) (by assumption) ?_); intro _ _ _ F' N')
  k_with "subscriptTail Name Slice str ref" => (k_here; (with_reducible show wpAny _ _ (subscriptTail _ (Expr.Slice (some _) none none _) (Value.str _ _) (Value.ref _)) _ _ _); (with_reducible rename Fr _ _ _ _ => F'); (with_reducible rename News _ _ _ _ => N'); (refine t_slice_sn (s := ⟨_, _, _, _, _⟩) F' N' (by assumption) (by assumption) ?_); intro _ _ _ F' N')
  k_with "subscriptTail Name Slice str ref" => (k_here; (with_reducible show wpAny _ _ (subscriptTail _ (Expr.Slice (some _) (some _) none _) (Value.str _ _) (Value.ref _)) _ _ _); (with_reducible rename Fr _ _ _ _ => F'); (with_reducible rename News _ _ _ _ => N'); (refine t_slice_ss (s := ⟨_, _, _, _, _⟩) F' N' (by assumption) (by assumption) ?_); intro _ _ _ F' N')
  k_with "compareOp NotEq str str" => (k_here; (with_reducible refine t_ne_same ?_))
  k_with "compareOp Eq str str" => (k_here; (with_reducible refine t_eq_same ?_))
  k_with "subscriptTail" => (k_here; (have : ∃ a c, okP a c := ⟨_, _, by with_reducible assumption⟩); clear this; (with_reducible show wpAny _ _ (subscriptTail _ _ (Value.ref _) (Value.int (Nat.cast _) _)) _ _ _); k_dflt (refine item_N (by k_asm) (by k_mem) (by with_reducible assumption) (by omega) ?_))
  k_with "subscriptTail" => (k_here; (have : ∃ a c, okP a c := ⟨_, _, by with_reducible assumption⟩); clear this; (with_reducible show wpAny _ _ (subscriptTail _ _ (Value.ref _) (Value.int 0 _)) _ _ _); k_dflt (refine item_0 (by k_asm) (by k_mem) (by with_reducible assumption) ?_))
  k_with "call ref" => ktr_call (does_use does_reply) (by trivial)
  k_with "call ref" => ktr_call (doesN_use does_p2) (by exact ⟨News.isTup (by k_asm) (.head _), by assumption, by assumption⟩)
  k_with "call ref" => ktr_call (doesN_use does_p4) (by exact ⟨News.isTup (by k_asm) (.head _), by assumption, by assumption⟩)
  k_with "call builtin:list.append" => (k_here; (with_reducible show wpAny _ _ (call (Value.builtin "list.append") [Value.ref _, Value.ref _]) _ _ _); refine Held.out ?_)
  k_with "compareOp NotEq ref ref" => (k_here; (with_reducible show wpAny _ _ (compareOp CmpOp.NotEq (Value.ref _) (Value.ref _)) _ _ _); refine Held.out ?_)
  k_with "compareOp Eq ref ref" => (k_here; (with_reducible show wpAny _ _ (compareOp CmpOp.Eq (Value.ref _) (Value.ref _)) _ _ _); refine Held.out ?_)
  refine' ⟨_, fun kCut => ?_⟩
  rotate_left
  · intro w
    set_option tactic.hygienic false in intros
    k_steps
    (rename Fr _ _ _ _ => lF); (rename News _ _ _ _ => lN)
    refine Held.mk ?_
    k_dflt refine ListComp_G (cl := _) (by rfl) (by decide) (by rfl) (by decide) ?_
    k_steps
    (rename Fr _ _ _ _ => lF); (rename News _ _ _ _ => lN)
    refine Held.mk ?_
    have hq13 : ds.length + 1 ≤ 13 := by omega
    refine lc_range (Y := YTold (portsL ds r)) rfl (by assumption) hq13 lF lN ?turn ?fin
    case turn =>
      intro i tk0 ys hi hy
      obtain ⟨q, hq⟩ : ∃ q, (portsL ds r)[i]? = some q := ⟨_, List.getElem?_eq_getElem (by rw [hqs]; exact hi)⟩
      obtain ⟨tp, hp1⟩ := hpv.2 i _ hq
      obtain ⟨th, hh1⟩ := hhs.2 i _ (map_at hq)
      unfold vTxt at hh1
      unfold vInt at hp1
      refine lc_name rfl rfl (YTold.mono _) hy lF lN ?_
      intro C oC m' h tk E' hoC hx kFr kNews hlt
      clear lF lN
      k_steps
      all_goals (try dsimp only)
      all_goals exact elt_tup (fun _ _ e => e) (News.get kNews (.head _)) rfl (y_told hq)
    case fin =>
      intro ys9 nw9 h tk hyl9 hY hDlt hnw kFr kNews
      clear lF lN
      dsimp only at kFr kNews hDlt hnw ⊢
      generalize (Heap.push _ _).objs.size = D9 at kFr kNews hDlt hnw
      have hd1 := ytold_all (by rw [hyl9, hqs]) hY
      have hd2 := told_all (hul.trans hqs.symm) hTold
      clear hY hDlt hnw hyl9
      k_steps
      repeat (first | exact kCut.out | revert ‹_›)
end Mine
end
section
set_option maxRecDepth 100000
set_option maxHeartbeats 4000000
namespace Mine
open PySem PySem.W PySem.Calls PyProof.Rows
theorem st11 : st10.P := by
  k_with_none
  k_with "mine fill" => (have hfill : (PySem.Challenge.rw_qh0047_01 = PySem.Challenge.rw_qh0047_01 ∧ Mine.kk.heap_1 = Mine.kk.heap_1) := by (k_fill; exact ⟨rfl, rfl⟩))
  k_with "mine rest" => ((case kA => exact rfl); (case kF => exact rfl); (case kK => assumption); (case k1 => k_asm); (case k2 => k_asm); (case k3 => k_asm); (case k5 => k_asm); (case k6 => k_is); (case k7 => k_is); (case k8 => ktr_room); (case k9 => exact BindsTo.of_eq rfl); (case c5 => decide); (case kB => exact locs rfl); (case c2 => exact rfl); (case c3 => exact rfl); (case c4 => exact rfl); k_whole; intro L' h' F' N' B' X' T'; (try dsimp only [List.reverse_cons, List.reverse_nil, List.nil_append, List.cons_append] at F'); (try dsimp only); (try k_lift B'); (try k_fold))
  k_with "exec Assign cons ListComp" => (k_here; (with_reducible show wpAny _ _ (exec (.Assign _ (.ListComp _ _ _ _) _) _) _ _ _); refine Held.out ?_)
  k_with "pyIter ref" => (k_here; (with_reducible show wpAny _ _ (pyIter (Value.ref _)) _ _ _); refine Held.out ?_)
  k_with "eval Tuple" => (k_here; (with_reducible show wpAny _ _ (eval (Expr.Tuple _ _ _) (compEnvC _ _ _ _)) _ _ _); refine wpAny_Tuple ?_)
  k_with "compareOp NotEq" => (k_here; (with_reducible refine b_ne_same ?_))
  k_with "binaryOp Add ref ref" => (k_here; (have : ∃ a c, okP a c := ⟨_, _, by with_reducible assumption⟩); clear this; (with_reducible show wpAny _ _ (binaryOp Operator.Add (Value.ref _) (Value.ref _)) _ _ _); refine Held.out ?_)
  k_with "call builtin:iter" => (k_here; (with_reducible show wpAny _ _ (call (Value.builtin "iter") [Value.ref _]) _ _ _); refine Held.out ?_)
  k_with "call ref" => (k_here; (with_reducible show wpAny _ _ (call (Value.ref 155) _ _) _ _ _); refine Held.out ?_)
  k_with "getMethod str" => (k_here; with_reducible refine m_encode ?_)
  k_with "call builtin:str.encode" => (k_here; (with_reducible show wpAny _ _ (call (Value.builtin "str.encode") [Value.str _ _, Value.str _ _]) _ _ _); (with_reducible refine c_encT (Plain128.lo (by assumption)) (Plain128.pos (by assumption)) (Plain128.fit (by assumption)) (Plain128.bytes (by assumption)) ?_); intro t9 k9)
  k_with "eval ListComp" => (k_here; (with_reducible show wpAny _ _ (eval (.ListComp _ _ _ _) _) _ _ _); refine Held.out ?_)
  k_with "pyIter bytes" => (k_here; (with_reducible show wpAny _ _ (pyIter (Value.bytes _ _)) _ _ _); refine Held.out ?_)
  k_with "call builtin:chr" => (k_here; (with_reducible show wpAny _ _ (call (Value.builtin "chr") [Value.int _ _]) _ _ _); (refine t_chr (by assumption) ?_); intro _ _)
  k_with "call builtin:str.join" => (k_here; (with_reducible show wpAny _ _ (call (Value.builtin "str.join") [Value.str _ _, Value.ref _]) _ _ _); (refine t_join (News.isList (by k_asm) (.head _)) (by assumption) (by assumption) ?_); intro _ _)
  k_with "call builtin:len" => (k_here; (with_reducible show wpAny _ _ (call (Value.builtin "len") [Value.ref _]) _ _ _); k_dflt (refine KM.len_K (n := _) (by k_asm) (by k_mem) (by with_reducible assumption) (by omega) ?_))
  k_with "subscriptTail" => (k_here; (with_reducible show wpAny _ _ (subscriptTail _ _ (Value.str _ _) (Value.int _ _)) _ _ _); (refine t_item (by assumption) ?_))
  k_with "subscriptTail" => (k_here; (with_reducible show wpAny _ _ (subscriptTail _ (Expr.Slice none (some _) none _) (Value.str _ _) (Value.ref _)) _ _ _); (with_reducible rename Fr _ _ _ _ => F'); (with_reducible rename News _ _ _ _ => N'); (refine t_slice_ns (s := ⟨_, _, _, _, _⟩) F' N' (by assumption) (by assumption) ?_); intro _ _ _ F' N')
  k_with "subscriptTail" => (k_here; (with_reducible show wpAny _ _ (subscriptTail _ (Expr.Slice (some _) none none _) (Value.str _ _) (Value.ref _)) _ _ _); (with_reducible rename Fr _ _ _ _ => F'); (with_reducible rename News _ _ _ _ => N'); (refine t_slice_sn (s := ⟨_, _, _, _, _⟩) F' N' (by assumption) (by assumption) ?_); intro _ _ _ F' N')
  k_with "subscriptTail" => (k_here; (with_reducible show wpAny _ _ (subscriptTail _ (Expr.Slice (some _) (some _) none _) (Value.str _ _) (Value.ref _)) _ _ _); (with_reducible rename Fr _ _ _ _ => F'); (with_reducible rename News _ _ _ _ => N'); (refine t_slice_ss (s := ⟨_, _, _, _, _⟩) F' N' (by assumption) (by assumption) ?_); intro _ _ _ F' N')
  k_with "binaryOp Add str str" => (k_here; (with_reducible show wpAny _ _ (binaryOp Operator.Add (Value.str _ _) (Value.str _ _)) _ _ _); (refine t_add (by first | assumption | with_reducible exact rfl) (by first | assumption | with_reducible exact rfl) (by first | assumption | exact Nat.le_of_ble_eq_true rfl | omega | (simp only [List.length_append, List.length_cons, List.length_nil]; omega)) ?_); intro _ _)
  k_with "binaryOp Mult str int" => (k_here; (with_reducible show wpAny _ _ (binaryOp Operator.Mult (Value.str _ _) (Value.int _ _)) _ _ _); (refine t_mul (by first | assumption | with_reducible exact rfl) (by assumption) (by exact Nat.le_of_ble_eq_true rfl) (by decide) (by decide) ?_); intro _ _)
  k_with "call type:str" => (k_here; (with_reducible show wpAny _ _ (call (Value.type "str") [Value.int _ _]) _ _ _); (refine t_str (by assumption) (by omega) (by omega) ?_); intro _ _)
  k_with "subscriptTail Name Slice str ref" => (k_here; (with_reducible show wpAny _ _ (subscriptTail _ (Expr.Slice none (some _) none _) (Value.str _ _) (Value.ref _)) _ _ _); (with_reducible rename Fr _ _ _ _ => F'); (with_reducible rename News _ _ _ _ => N'); (refine t_slice_ns (s := ⟨_, _, _, _, _⟩) F' N' (by assumption) (by assumption) ?_); intro _ _ _ F' N')
  k_with "subscriptTail Name Slice str ref" => (k_here; (with_reducible show wpAny _ _ (subscriptTail _ (Expr.Slice (some _) none none _) (Value.str _ _) (Value.ref _)) _ _ _); (with_reducible rename Fr _ _ _ _ => F'); (with_reducible rename News _ _ _ _ => N'); (refine t_slice_sn (s := ⟨_, _, _, _, _⟩) F' N' (by assumption) (by assumption) ?_); intro _ _ _ F' N')
  k_with "subscriptTail Name Slice str ref" => (k_here; (with_reducible show wpAny _ _ (subscriptTail _ (Expr.Slice (some _) (some _) none _) (Value.str _ _) (Value.ref _)) _ _ _); (with_reducible rename Fr _ _ _ _ => F'); (with_reducible rename News _ _ _ _ => N'); (refine t_slice_ss (s := ⟨_, _, _, _, _⟩) F' N' (by assumption) (by assumption) ?_); intro _ _ _ F' N')
  k_with "compareOp NotEq str str" => (k_here; (with_reducible refine t_ne_same ?_))
  k_with "compareOp Eq str str" => (k_here; (with_reducible refine t_eq_same ?_))
  k_with "subscriptTail" => (k_here; (have : ∃ a c, okP a c := ⟨_, _, by with_reducible assumption⟩); clear this; (with_reducible show wpAny _ _ (subscriptTail _ _ (Value.ref _) (Value.int (Nat.cast _) _)) _ _ _); k_dflt (refine item_N (by k_asm) (by k_mem) (by with_reducible assumption) (by omega) ?_))
  k_with "subscriptTail" => (k_here; (have : ∃ a c, okP a c := ⟨_, _, by with_reducible assumption⟩); clear this; (with_reducible show wpAny _ _ (subscriptTail _ _ (Value.ref _) (Value.int 0 _)) _ _ _); k_dflt (refine item_0 (by k_asm) (by k_mem) (by with_reducible assumption) ?_))
  k_with "call ref" => ktr_call (does_use does_reply) (by trivial)
  k_with "call ref" => ktr_call (doesN_use does_p2) (by exact ⟨News.isTup (by k_asm) (.head _), by assumption, by assumption⟩)
  k_with "call ref" => ktr_call (doesN_use does_p4) (by exact ⟨News.isTup (by k_asm) (.head _), by assumption, by assumption⟩)
  k_with "call builtin:list.append" => (k_here; (with_reducible show wpAny _ _ (call (Value.builtin "list.append") [Value.ref _, Value.ref _]) _ _ _); refine Held.out ?_)
  k_with "compareOp NotEq ref ref" => (k_here; (with_reducible show wpAny _ _ (compareOp CmpOp.NotEq (Value.ref _) (Value.ref _)) _ _ _); refine Held.out ?_)
  k_with "compareOp Eq ref ref" => (k_here; (with_reducible show wpAny _ _ (compareOp CmpOp.Eq (Value.ref _) (Value.ref _)) _ _ _); refine Held.out ?_)
  intro w
  set_option tactic.hygienic false in intros
  (rename Fr _ _ _ _ => lF); (rename News _ _ _ _ => lN)
  refine Held.mk ?_
  refine lists_ne lN (.tail _ (List.mem_append_right _ (.head _))) hd2 (fun p hp => .tail _ (List.mem_append_right _ (.tail _ (.tail _ (.tail _ (.tail _ (.tail _ (.tail _ (.tail _ (List.mem_append_right _ hp)))))))))) (.head _) hd1 (fun p hp => .tail _ (List.mem_append_left _ hp)) (datQ_ok hpL) (by ke_room) ?_
  replace lN := news_rest lN
  clear hd1 hd2
  k_steps
  (rename Fr _ _ _ _ => lF); (rename News _ _ _ _ => lN)
  refine Held.mk ?_
  k_dflt refine ListComp_G (cl := []) (by rfl) (by decide) (by rfl) (by decide) ?_
  k_steps
  (rename Fr _ _ _ _ => lF); (rename News _ _ _ _ => lN)
  refine Held.mk ?_
  have hlP := News.isList lN (.head _)
  refine lc_expr (Y := YFlat vTxt (List.map tx (portsL ds r))) rfl lF lN hlP ?len ?turn ?fin
  case len => rw [hul]; omega
  case turn =>
    intro i v ys hv hy
    obtain ⟨q, hq⟩ : ∃ q, (portsL ds r)[i]? = some q := ⟨_, List.getElem?_eq_getElem (by
      rw [hqs, ← hul]
      rcases Nat.lt_or_ge i us.length with hz | hz
      · exact hz
      · rw [List.getElem?_eq_none hz] at hv; cases hv)⟩
    have hq2 := hpL q (List.mem_of_getElem? hq)
    have x1 := tx_text q
    obtain ⟨d, t1, t2, rfl, hT⟩ := (told_at hTold hv hq).tup lN (fun p hp => .tail _ (.tail _ (.tail _ (.tail _ (.tail _ (.tail _ (.tail _ (List.mem_append_right _ hp))))))))
    refine lc_tup2 rfl rfl rfl (by decide) rfl (YFlat.mono _ _) hy lF lN hT (fun h x => x.1) ?_
    intro C oC m' h tk E' hoC hx1 hx2 kFr kNews hlt
    clear lF lN
    k_steps
    all_goals (try dsimp only)
    all_goals exact elt_flat (YFlat.mk (f := vTxt) (map_at (f := tx) hq))
  case fin =>
    intro ya nwa h tk hyla hY hDlt hnw kFr kNews
    clear lF lN
    dsimp only at kFr kNews hDlt hnw ⊢
    generalize (Heap.push _ _).objs.size = Da at kFr kNews hDlt hnw
    have hda := YFlat.all (by rw [hyla, hul, List.length_map, hqs]) hY
    have lN := news_drop kNews
    clear hY hDlt hnw hyla kNews hlP
    k_steps
    (rename Fr _ _ _ _ => lF); (rename News _ _ _ _ => lN)
    refine Held.mk ?_
    k_dflt refine ListComp_G (cl := []) (by rfl) (by decide) (by rfl) (by decide) ?_
    k_steps
    (rename Fr _ _ _ _ => lF); (rename News _ _ _ _ => lN)
    refine Held.mk ?_
    have hlP := News.isList lN (.tail _ (.tail _ (.tail _ (.tail _ (.head _)))))
    refine lc_expr (Y := YFlat vTxt (List.map tx (portsL ds r))) rfl lF lN hlP ?len ?turn ?fin
    case len => rw [hpv.1, hqs]; omega
    case turn =>
      intro i v ys hv hy
      obtain ⟨q, tq, hq, rfl⟩ := hpv.at hv
      have hq2 := hpL q (List.mem_of_getElem? hq)
      have x1 := tx_text q
      refine lc_name rfl rfl (YFlat.mono _ _) hy lF lN ?_
      intro C oC m' h tk E' hoC hx1 kFr kNews hlt
      clear lF lN
      unfold vInt at hx1
      k_steps
      all_goals (try dsimp only)
      all_goals exact elt_flat (YFlat.mk (f := vTxt) (map_at (f := tx) hq))
    case fin =>
      intro yb nwb h tk hylb hY hDlt hnw kFr kNews
      clear lF lN
      dsimp only at kFr kNews hDlt hnw ⊢
      generalize (Heap.push _ _).objs.size = Db at kFr kNews hDlt hnw
      have hdb := YFlat.all (by rw [hylb, hpv.1, List.length_map]) hY
      have lN := news_drop kNews
      clear hY hDlt hnw hylb kNews hlP
      k_steps
      (rename Fr _ _ _ _ => lF); (rename News _ _ _ _ => lN)
      refine Held.mk ?_
      refine lists_eq lN (.tail _ (.head _)) (txt_all (own := []) hda) (fun p hp => nomatch hp) (.head _) (txt_all (own := []) hdb) (fun p hp => nomatch hp) (datT_ok hpL) (by ke_room) ?_
      k_steps
end Mine
end
section
open PySem PySem.W PyProof.Rows
set_option maxRecDepth 100000
set_option maxHeartbeats 8000000
namespace Mine
theorem walk_all : Top0 := st1.cut ⟨st2.cut ⟨st3.cut ⟨st4.cut ⟨st5.cut ⟨st6.cut ⟨st7.cut ⟨st8.cut ⟨st9.cut ⟨st10.cut ⟨st11⟩⟩⟩⟩⟩⟩⟩⟩⟩⟩
theorem walk_any (qv : Program) (e : qv = vw) (d : DefRec) (kwd : List (Str × Expr)) (h : defOf qv (PySem.Challenge.rw_qh0047_01.row).toRowW.name = some (d, kwd)) :
    WalkO qv [Str.ofString "bytes_types", Str.ofString "Error_binascii", Str.ofString "a2b_base64", Str.ofString "b2a_base64", Str.ofString "b64encode", Str.ofString "b64decode", Str.ofString "Error_ftplib", Str.ofString "_initial_missing", Str.ofString "reduce"] (XL qv []) (kHook Mine.kk.heap_1 [2, 3, 15, 17, 18, 20, 21, 22, 23, 25, 26, 28, 29, 30, 37, 38, 39, 40, 43, 45, 46, 48, 49, 50, 52, 53, 55, 56, 57, 59, 60, 62, 63, 64, 66, 67, 69, 70, 71, 72, 74, 75, 77, 78, 79, 80, 82, 83, 85, 86, 87, 88, 90, 91, 93, 94, 95, 96, 98, 99, 101, 102, 103, 110, 111, 112, 113, 116, 123, 124, 125, 128, 135, 136, 137, 140, 142, 143, 145, 146, 147, 148, 149, 151, 152, 154, 155, 156, 158, 159, 161, 162, 163, 165, 166, 168, 169, 170, 172, 173, 175, 176, 177, 179, 180, 182, 183, 184, 186, 187, 189, 190, 191, 194, 195, 196, 198, 199, 201, 202, 203, 205, 206, 208, 209, 210, 212, 213, 215, 216, 217, 220, 221] (fun _ => by kernel_rfl)).says (PySem.Challenge.rw_qh0047_01.row).toRowW d kwd fun f vs => PySem.call f vs := by
  subst e
  exact walk_all d kwd h
set_option Elab.async true
/- The head's tactic writes, for each large constant of this file, a second form under such a name and a proof that the two are equal, to check faster.
   Where the name is taken it goes on without. These six are not wanted here: they would take the compiled file over its size. They say and prove nothing. -/
theorem hd.tw14090284624843534012 : True := trivial
theorem hd.tw4235970728967190064 : True := trivial
theorem hd.tw3039998526598829958 : True := trivial
theorem hd.tw7268811288439504891 : True := trivial
theorem hd.tw4595758421323213155 : True := trivial
theorem hd.tw991500863812532542 : True := trivial
theorem hd : PySem.Challenge.rw_qh0047_01.Holds := by
  w_on
  o_law
  o_head (kHook Mine.kk.heap_1 [2, 3, 15, 17, 18, 20, 21, 22, 23, 25, 26, 28, 29, 30, 37, 38, 39, 40, 43, 45, 46, 48, 49, 50, 52, 53, 55, 56, 57, 59, 60, 62, 63, 64, 66, 67, 69, 70, 71, 72, 74, 75, 77, 78, 79, 80, 82, 83, 85, 86, 87, 88, 90, 91, 93, 94, 95, 96, 98, 99, 101, 102, 103, 110, 111, 112, 113, 116, 123, 124, 125, 128, 135, 136, 137, 140, 142, 143, 145, 146, 147, 148, 149, 151, 152, 154, 155, 156, 158, 159, 161, 162, 163, 165, 166, 168, 169, 170, 172, 173, 175, 176, 177, 179, 180, 182, 183, 184, 186, 187, 189, 190, 191, 194, 195, 196, 198, 199, 201, 202, 203, 205, 206, 208, 209, 210, 212, 213, 215, 216, 217, 220, 221] (fun _ => by kernel_rfl))
  case hw => w_witness2
  refine walk_any _ ?e _ _ ?h
  case e => kernel_rfl
  case h => rfl
end Mine
end
theorem PySem.Challenge.cw_qh0047_01_holds : PySem.Challenge.rw_qh0047_01.Holds := by
  exact Mine.hd
