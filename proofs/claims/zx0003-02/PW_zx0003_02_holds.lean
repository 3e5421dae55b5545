import PyProof.Rows.All
import Wide.All
import OpenK.AllK
import Wide.FinOn
import PySem.Challenge.RW_zx0003_02
open PySem PySem.W PySem.Spec PySem.Calls PyProof.Rows
set_option Elab.async false
set_option maxRecDepth 100000
set_option maxHeartbeats 8000000
set_option linter.unusedVariables false
set_option linter.unusedSimpArgs false

namespace Mine
open_top hd for PySem.Challenge.rw_zx0003_02
end Mine

namespace Mine
/-- the i-th figure of x to the base 2^n -/
def dig (x : Int) (n i : Nat) : Int := x / 2 ^ (n * i) % 2 ^ n

theorem nat_and_high (x s : Nat) : x &&& (x / 2 ^ s * 2 ^ s) = x / 2 ^ s * 2 ^ s := by
  apply Nat.eq_of_testBit_eq
  intro i
  rw [Nat.testBit_and, Nat.testBit_mul_two_pow, Nat.testBit_div_two_pow]
  by_cases h : s ≤ i
  · simp [h]
  · simp [h]
theorem xor_low {x : Int} (h : 0 ≤ x) (s : Nat) : Builtin.bitXor x (x.fdiv (2 ^ s) * 2 ^ s) = x % 2 ^ s := by
  obtain ⟨n, rfl⟩ := Int.eq_ofNat_of_zero_le h
  have h2 : (0 : Int) ≤ 2 ^ s := Int.pow_nonneg (by decide)
  rw [bitXor_and, Int.fdiv_eq_ediv_of_nonneg _ h2]
  have e : ((n : Int) / 2 ^ s * 2 ^ s) = ((n / 2 ^ s * 2 ^ s : Nat) : Int) := by
    rw [Int.natCast_mul, Int.natCast_ediv, Int.natCast_pow]; rfl
  rw [e]
  have e2 : Builtin.bitAnd (n : Int) ((n / 2 ^ s * 2 ^ s : Nat) : Int) = ((n / 2 ^ s * 2 ^ s : Nat) : Int) := by
    unfold Builtin.bitAnd
    simp only [Int.natCast_nonneg, decide_true, Int.toNat_natCast]
    rw [nat_and_high]
  rw [e2]
  have e3 := Nat.div_add_mod n (2 ^ s)
  have e4 : ((n : Int) % 2 ^ s) = ((n % 2 ^ s : Nat) : Int) := by rw [Int.natCast_emod, Int.natCast_pow]; rfl
  rw [e4]
  rw [Nat.mul_comm] at e3
  omega
theorem nat_dig_low (x s t n : Nat) (h : t + n ≤ s) : x % 2 ^ s / 2 ^ t % 2 ^ n = x / 2 ^ t % 2 ^ n := by
  apply Nat.eq_of_testBit_eq
  intro i
  rw [Nat.testBit_mod_two_pow, Nat.testBit_mod_two_pow, Nat.testBit_div_two_pow, Nat.testBit_div_two_pow, Nat.testBit_mod_two_pow]
  by_cases hi : i < n
  · have : i + t < s := by omega
    simp [hi, this]
  · simp [hi]
theorem dig_low {x : Int} (h : 0 ≤ x) {s n i : Nat} (hs : n * i + n ≤ s) : dig (x % 2 ^ s) n i = dig x n i := by
  obtain ⟨m, rfl⟩ := Int.eq_ofNat_of_zero_le h
  unfold dig
  have := nat_dig_low m s (n * i) n hs
  have q := congrArg (fun k : Nat => (k : Int)) this
  simp only [Int.natCast_emod, Int.natCast_ediv, Int.natCast_pow] at q
  exact q
theorem dig_high {x : Int} {n k i : Nat} : dig (x.fdiv (2 ^ (n * k))) n i = dig x n (k + i) := by
  unfold dig
  have h2 : (0 : Int) ≤ 2 ^ (n * k) := Int.pow_nonneg (by decide)
  rw [Int.fdiv_eq_ediv_of_nonneg _ h2, Int.ediv_ediv_of_nonneg h2, ← Int.pow_add, Nat.mul_add]
theorem dig_one {x : Int} {n : Nat} (h : 0 ≤ x) (hx : x < 2 ^ n) : dig x n 0 = x := by
  unfold dig
  rw [Nat.mul_zero, Int.pow_zero, Int.ediv_one, Int.emod_eq_of_lt h hx]
theorem emod_le_self {x m : Int} (h : 0 ≤ x) (hm : 0 < m) : x % m ≤ x := by
  rw [Int.emod_def]
  have := Int.mul_nonneg (Int.le_of_lt hm) (Int.ediv_nonneg h (Int.le_of_lt hm))
  omega
end Mine
namespace Mine
/-- the figures of a to the base 2^n, the least first -/
def digs (a : Int) (n : Nat) : List Int := (List.range ((Builtin.Int.intBits a + n - 1) / n)).map (dig a n)
theorem digs_length (a : Int) (n : Nat) : (digs a n).length = (Builtin.Int.intBits a + n - 1) / n := by simp [digs]
theorem digs_getD (a : Int) (n i : Nat) (h : i < (Builtin.Int.intBits a + n - 1) / n) : (digs a n).getD i 0 = dig a n i := by
  simp [digs, List.getD_eq_getElem?_getD, h]
theorem lt_bits {a : Int} (h : 0 ≤ a) : a < 2 ^ Builtin.Int.intBits a := by
  obtain ⟨n, rfl⟩ := Int.eq_ofNat_of_zero_le h
  unfold Builtin.Int.intBits
  split
  · rename_i h0
    have : (n : Int) = 0 := by simpa using h0
    rw [this]; decide
  · rename_i h0
    have h1 : n ≠ 0 := by
      intro q; apply h0; rw [q]; rfl
    have := Nat.lt_log2_self (n := n)
    rw [Int.natAbs_natCast]
    exact_mod_cast this
theorem bits_le {a : Int} {k : Nat} (h : 0 ≤ a) (hk : a < 2 ^ k) : Builtin.Int.intBits a ≤ k := by
  obtain ⟨n, rfl⟩ := Int.eq_ofNat_of_zero_le h
  unfold Builtin.Int.intBits
  split
  · exact Nat.zero_le _
  · rename_i h0
    have h1 : n ≠ 0 := by
      intro q; apply h0; rw [q]; rfl
    rw [Int.natAbs_natCast]
    exact (Nat.log2_lt h1).mpr (by exact_mod_cast hk)
theorem ceil_mul (b n : Nat) (h : 0 < n) : b ≤ n * ((b + n - 1) / n) := by
  have h1 := Nat.div_add_mod (b + n - 1) n
  have h2 := Nat.mod_lt (b + n - 1) h
  omega
theorem lt_digs {a : Int} {n : Nat} (h : 0 ≤ a) (hn : 0 < n) : a < 2 ^ (n * ((Builtin.Int.intBits a + n - 1) / n)) :=
  Int.lt_of_lt_of_le (lt_bits h) (by exact_mod_cast Nat.pow_le_pow_right (by decide) (ceil_mul _ n hn))
theorem bits_pos {a : Int} (h : a ≠ 0) : 0 < Builtin.Int.intBits a := by
  unfold Builtin.Int.intBits
  split
  · rename_i h0; exact absurd (by simpa using h0) h
  · omega
theorem ext_getD {l l' : List Int} (h : l.length = l'.length) (k : ∀ i : Nat, i < l.length → l.getD i 0 = l'.getD i 0) : l = l' := by
  apply List.ext_getElem h
  intro i h1 h2
  have := k i h1
  rw [List.getD_eq_getElem?_getD, List.getD_eq_getElem?_getD, List.getElem?_eq_getElem h1, List.getElem?_eq_getElem h2] at this
  exact this
theorem flat_rep {α : Type} (v : α) : ∀ k : Nat, (List.replicate k [v]).flatten = List.replicate k v
  | 0 => rfl
  | k + 1 => by
    rw [List.replicate_succ, List.flatten_cons, flat_rep v k, List.replicate_succ]
    rfl
theorem ints_rep (c : Int) (t : Tok) : ∀ k : Nat, IntsAre (List.replicate k (.int c t)) (List.replicate k c)
  | 0 => .nil
  | k + 1 => by rw [List.replicate_succ, List.replicate_succ]; exact .cons c t (ints_rep c t k)
end Mine
namespace Mine
/-- what figures tell, the least first -/
def undig (n : Nat) : List Int → Int
  | [] => 0
  | d :: r => d + 2 ^ n * undig n r
theorem undig_append (n : Nat) (a b : List Int) : undig n (a ++ b) = undig n a + 2 ^ (n * a.length) * undig n b := by
  induction a with
  | nil => simp [undig]
  | cons d a ih =>
    simp only [List.cons_append, undig, ih, List.length_cons, Int.mul_add]
    rw [← Int.mul_assoc, ← Int.pow_add, show n + n * a.length = n * (a.length + 1) by rw [Nat.mul_succ]; omega]
    omega
theorem undig_bound (n : Nat) (a : List Int) (h : ∀ d ∈ a, 0 ≤ d ∧ d < 2 ^ n) : 0 ≤ undig n a ∧ undig n a < 2 ^ (n * a.length) := by
  induction a with
  | nil => simp [undig]
  | cons d a ih =>
    obtain ⟨h0, h1⟩ := ih fun x hx => h x (.tail _ hx)
    obtain ⟨d0, d1⟩ := h d (.head _)
    have p : (0 : Int) < 2 ^ n := Int.pow_pos (by decide)
    simp only [undig, List.length_cons]
    refine ⟨Int.add_nonneg d0 (Int.mul_nonneg (Int.le_of_lt p) h0), ?_⟩
    have e : (2 : Int) ^ (n * (a.length + 1)) = 2 ^ n * 2 ^ (n * a.length) := by rw [← Int.pow_add, Nat.mul_succ, Nat.add_comm]
    rw [e]
    have h2 : undig n a + 1 ≤ 2 ^ (n * a.length) := h1
    have h3 := Int.mul_le_mul_of_nonneg_left h2 (Int.le_of_lt p)
    rw [Int.mul_add, Int.mul_one] at h3
    omega
theorem undig_digs_aux (n : Nat) (hn : 0 < n) : ∀ (k : Nat) (a : Int), 0 ≤ a → a < 2 ^ (n * k) → undig n ((List.range k).map (dig a n)) = a
  | 0, a, h, h' => by simp [undig] at h' ⊢; omega
  | k + 1, a, h, h' => by
    have p : (0 : Int) < 2 ^ n := Int.pow_pos (by decide)
    rw [List.range_succ_eq_map, List.map_cons, List.map_map, undig]
    have e : (dig a n ∘ Nat.succ) = dig (a / 2 ^ n) n := by
      funext i
      have := dig_high (x := a) (n := n) (k := 1) (i := i)
      rw [Int.fdiv_eq_ediv_of_nonneg _ (Int.pow_nonneg (by decide)), Nat.mul_one] at this
      rw [this, Nat.add_comm]; rfl
    rw [e, undig_digs_aux n hn k (a / 2 ^ n) (Int.ediv_nonneg h (Int.le_of_lt p)) ?_]
    · unfold dig
      rw [Nat.mul_zero, Int.pow_zero, Int.ediv_one]
      exact Int.emod_add_mul_ediv a (2 ^ n)
    · refine Int.ediv_lt_of_lt_mul p ?_
      rw [← Int.pow_add, ← Nat.mul_succ]
      exact h'
theorem undig_digs {a : Int} {n : Nat} (h : 0 ≤ a) (hn : 0 < n) : undig n (digs a n) = a := undig_digs_aux n hn _ a h (lt_digs h hn)
theorem digs_bound {a : Int} {n : Nat} : ∀ d ∈ digs a n, 0 ≤ d ∧ d < 2 ^ n := fun d hd => by
  obtain ⟨i, _, rfl⟩ := List.mem_map.mp hd
  exact ⟨Int.emod_nonneg _ (Int.ne_of_gt (Int.pow_pos (by decide))), Int.emod_lt_of_pos _ (Int.pow_pos (by decide))⟩
end Mine
namespace Mine
theorem setmap3 {m0 : Str → Option Value} {a b : Str} {va : Option Value} {vb : Option Value} {c : Str} {vc : Option Value} (ha : m0 a = va) (hb : m0 b = vb) (hc : m0 c = vc) :
    m0 = fun y => if y = a then va else if y = b then vb else if y = c then vc else m0 y := by
  funext y
  by_cases h1 : y = a
  · subst h1; simp [ha]
  · by_cases h2 : y = b
    · subst h2; simp [h1, hb]
    · by_cases h3 : y = c
      · subst h3; simp [h1, h2, hc]
      · simp [h1, h2, h3]
theorem pow_split (n k : Nat) : (2 : Int) ^ (n * (k + 1)) = 2 ^ n * 2 ^ (n * k) := by rw [← Int.pow_add, Nat.mul_succ, Nat.add_comm]
/-- one step of the long division -/
theorem long_step {b a' r d : Int} {n : Nat} {Qt : Int} (hb : 0 < b) (hbn : b < 2 ^ n) (hr : r = a' % b) (hq : Qt = a' / b) (hd0 : 0 ≤ d) (hd1 : d < 2 ^ n) (x : Int) (hx : x = r * 2 ^ n + d) :
    0 ≤ x.fdiv b ∧ x.fdiv b < 2 ^ n ∧ x.fmod b = (d + 2 ^ n * a') % b ∧ x.fdiv b + 2 ^ n * Qt = (d + 2 ^ n * a') / b ∧ 0 ≤ x := by
  have p : (0 : Int) < 2 ^ n := Int.pow_pos (by decide)
  have r0 : 0 ≤ r := hr ▸ Int.emod_nonneg _ (Int.ne_of_gt hb)
  have r1 : r < b := hr ▸ Int.emod_lt_of_pos _ hb
  have x0 : 0 ≤ x := hx ▸ Int.add_nonneg (Int.mul_nonneg r0 (Int.le_of_lt p)) hd0
  have e : d + 2 ^ n * a' = b * (2 ^ n * Qt) + x := by
    have := Int.emod_add_mul_ediv a' b
    rw [← hr, ← hq] at this
    rw [hx, ← this, Int.mul_add, Int.mul_comm r, Int.mul_left_comm]
    omega
  rw [Int.fdiv_eq_ediv_of_nonneg _ (Int.le_of_lt hb), Int.fmod_eq_emod_of_nonneg _ (Int.le_of_lt hb)]
  refine ⟨Int.ediv_nonneg x0 (Int.le_of_lt hb), ?_, ?_, ?_, x0⟩
  · refine Int.ediv_lt_of_lt_mul hb ?_
    have h1 : (r + 1) * 2 ^ n ≤ b * 2 ^ n := Int.mul_le_mul_of_nonneg_right (by omega) (Int.le_of_lt p)
    rw [Int.add_mul, Int.one_mul] at h1
    rw [Int.mul_comm]
    omega
  · rw [e, Int.add_comm, Int.add_mul_emod_self_left]
  · rw [e, Int.add_comm (b * _), Int.add_mul_ediv_left _ _ (Int.ne_of_gt hb)]
end Mine
namespace Mine
theorem neg_div {a b : Int} (hb : 0 < b) : Builtin.bitNot ((-a - 1) / b) = a / b ∧ b + Builtin.bitNot ((-a - 1) % b) = a % b := by
  have h1 := Int.emod_add_mul_ediv (-a - 1) b
  have h2 := Int.emod_nonneg (-a - 1) (Int.ne_of_gt hb)
  have h3 := Int.emod_lt_of_pos (-a - 1) hb
  have h4 := (Int.ediv_emod_unique (a := a) (b := b) (q := Builtin.bitNot ((-a - 1) / b)) (r := b + Builtin.bitNot ((-a - 1) % b)) hb).mpr ?_
  · exact ⟨h4.1.symm, h4.2.symm⟩
  · unfold Builtin.bitNot
    refine ⟨?_, by omega, by omega⟩
    rw [Int.mul_sub, Int.mul_neg, Int.mul_one]
    omega
end Mine
namespace Mine
def bis (ns : List Int) (x : Int) : Nat := ns.countP (fun y => decide (y < x))
theorem countP_split {α : Type} (q : α → Bool) : ∀ (l : List α) (k : Nat), k ≤ l.length → (∀ i (h : i < l.length), i < k → q l[i] = true) → (∀ i (h : i < l.length), k ≤ i → q l[i] = false) → l.countP q = k
  | [], k, hk, _, _ => by simp at hk; simp [hk]
  | a :: l, 0, _, h1, h2 => by
    rw [List.countP_eq_zero]
    intro b hb
    obtain ⟨i, hi, rfl⟩ := List.getElem_of_mem hb
    rw [h2 i hi (Nat.zero_le _)]
    exact Bool.false_ne_true
  | a :: l, k + 1, hk, h1, h2 => by
    have ha := h1 0 (Nat.zero_lt_succ _) (Nat.zero_lt_succ _)
    rw [List.getElem_cons_zero] at ha
    rw [List.countP_cons_of_pos ha, countP_split q l k (by simpa using hk) (fun i h hi => h1 (i + 1) (Nat.succ_lt_succ h) (by omega)) (fun i h hi => h2 (i + 1) (Nat.succ_lt_succ h) (by omega))]
def Sorted (ns : List Int) : Prop := ∀ i j, i ≤ j → j < ns.length → ns.getD i 0 ≤ ns.getD j 0
theorem getD_get (ns : List Int) (i : Nat) (h : i < ns.length) : ns.getD i 0 = ns[i] := by simp [List.getD_eq_getElem?_getD, h]
theorem bis_of {ns : List Int} {x : Int} {lo : Nat} (h0 : lo ≤ ns.length) (h1 : ∀ i, i < lo → ns.getD i 0 < x) (h2 : ∀ i, lo ≤ i → i < ns.length → ¬ ns.getD i 0 < x) : bis ns x = lo := by
  refine countP_split _ ns lo h0 (fun i h hi => ?_) (fun i h hi => ?_)
  · rw [← getD_get ns i h]; exact decide_eq_true (h1 i hi)
  · rw [← getD_get ns i h]; exact decide_eq_false (h2 i hi h)
end Mine
namespace Mine
theorem canon1 {m m0 : Str → Option Value} {a : Str} {va : Option Value} (ha : m a = va) (hr : ∀ y, y ≠ a → m y = m0 y) :
    m = fun y => if y = a then va else m0 y := by
  funext y
  by_cases h0' : y = a
  · subst h0'; simp [ha]
  simp only [if_neg h0']
  exact hr y h0'
theorem canon2 {m m0 : Str → Option Value} {a b : Str} {va vb : Option Value} (ha : m a = va) (hb : m b = vb) (hr : ∀ y, y ≠ a → y ≠ b → m y = m0 y) :
    m = fun y => if y = a then va else if y = b then vb else m0 y := by
  funext y
  by_cases h0' : y = a
  · subst h0'; simp [ha]
  by_cases h1' : y = b
  · subst h1'; simp [hb, h0']
  simp only [if_neg h0', if_neg h1']
  exact hr y h0' h1'
theorem canon3 {m m0 : Str → Option Value} {a b c : Str} {va vb vc : Option Value} (ha : m a = va) (hb : m b = vb) (hc : m c = vc) (hr : ∀ y, y ≠ a → y ≠ b → y ≠ c → m y = m0 y) :
    m = fun y => if y = a then va else if y = b then vb else if y = c then vc else m0 y := by
  funext y
  by_cases h0' : y = a
  · subst h0'; simp [ha]
  by_cases h1' : y = b
  · subst h1'; simp [hb, h0']
  by_cases h2' : y = c
  · subst h2'; simp [hc, h0', h1']
  simp only [if_neg h0', if_neg h1', if_neg h2']
  exact hr y h0' h1' h2'
theorem canon4 {m m0 : Str → Option Value} {a b c d : Str} {va vb vc vd : Option Value} (ha : m a = va) (hb : m b = vb) (hc : m c = vc) (hd : m d = vd) (hr : ∀ y, y ≠ a → y ≠ b → y ≠ c → y ≠ d → m y = m0 y) :
    m = fun y => if y = a then va else if y = b then vb else if y = c then vc else if y = d then vd else m0 y := by
  funext y
  by_cases h0' : y = a
  · subst h0'; simp [ha]
  by_cases h1' : y = b
  · subst h1'; simp [hb, h0']
  by_cases h2' : y = c
  · subst h2'; simp [hc, h0', h1']
  by_cases h3' : y = d
  · subst h3'; simp [hd, h0', h1', h2']
  simp only [if_neg h0', if_neg h1', if_neg h2', if_neg h3']
  exact hr y h0' h1' h2' h3'
theorem canon5 {m m0 : Str → Option Value} {a b c d e : Str} {va vb vc vd ve : Option Value} (ha : m a = va) (hb : m b = vb) (hc : m c = vc) (hd : m d = vd) (he : m e = ve) (hr : ∀ y, y ≠ a → y ≠ b → y ≠ c → y ≠ d → y ≠ e → m y = m0 y) :
    m = fun y => if y = a then va else if y = b then vb else if y = c then vc else if y = d then vd else if y = e then ve else m0 y := by
  funext y
  by_cases h0' : y = a
  · subst h0'; simp [ha]
  by_cases h1' : y = b
  · subst h1'; simp [hb, h0']
  by_cases h2' : y = c
  · subst h2'; simp [hc, h0', h1']
  by_cases h3' : y = d
  · subst h3'; simp [hd, h0', h1', h2']
  by_cases h4' : y = e
  · subst h4'; simp [he, h0', h1', h2', h3']
  simp only [if_neg h0', if_neg h1', if_neg h2', if_neg h3', if_neg h4']
  exact hr y h0' h1' h2' h3' h4'
theorem canon6 {m m0 : Str → Option Value} {a b c d e f : Str} {va vb vc vd ve vf : Option Value} (ha : m a = va) (hb : m b = vb) (hc : m c = vc) (hd : m d = vd) (he : m e = ve) (hf : m f = vf) (hr : ∀ y, y ≠ a → y ≠ b → y ≠ c → y ≠ d → y ≠ e → y ≠ f → m y = m0 y) :
    m = fun y => if y = a then va else if y = b then vb else if y = c then vc else if y = d then vd else if y = e then ve else if y = f then vf else m0 y := by
  funext y
  by_cases h0' : y = a
  · subst h0'; simp [ha]
  by_cases h1' : y = b
  · subst h1'; simp [hb, h0']
  by_cases h2' : y = c
  · subst h2'; simp [hc, h0', h1']
  by_cases h3' : y = d
  · subst h3'; simp [hd, h0', h1', h2']
  by_cases h4' : y = e
  · subst h4'; simp [he, h0', h1', h2', h3']
  by_cases h5' : y = f
  · subst h5'; simp [hf, h0', h1', h2', h3', h4']
  simp only [if_neg h0', if_neg h1', if_neg h2', if_neg h3', if_neg h4', if_neg h5']
  exact hr y h0' h1' h2' h3' h4' h5'
end Mine
namespace Mine
def ins (ns : List Int) (x : Int) : List Int := ns.take (bis ns x) ++ x :: ns.drop (bis ns x)
theorem bis_le (ns : List Int) (x : Int) : bis ns x ≤ ns.length := List.countP_le_length
theorem ints_take {vs : List Value} {ns : List Int} (h : IntsAre vs ns) : ∀ k, IntsAre (vs.take k) (ns.take k) := by
  induction h with
  | nil => intro k; simp; exact .nil
  | cons i t _ ih => intro k; cases k with
    | zero => exact .nil
    | succ k => exact .cons i t (ih k)
theorem ints_drop {vs : List Value} {ns : List Int} (h : IntsAre vs ns) : ∀ k, IntsAre (vs.drop k) (ns.drop k) := by
  induction h with
  | nil => intro k; simp; exact .nil
  | cons i t h ih => intro k; cases k with
    | zero => exact .cons i t h
    | succ k => exact ih k
theorem ins_length (ns : List Int) (x : Int) : (ins ns x).length = ns.length + 1 := by
  have := bis_le ns x
  unfold ins
  rw [List.length_append, List.length_cons, List.length_take, List.length_drop]
  omega
end Mine
namespace Mine
theorem bound3 {f n : Int} (h0 : 0 ≤ f) (h1 : f < 1000) (n0 : 0 ≤ n) (n1 : n < 1000) : 0 ≤ f * f * n ∧ f * f * n < 2 ^ 34 := by
  have a : f * f ≤ 999 * 999 := Int.mul_le_mul (by omega) (by omega) h0 (by decide)
  have b : 0 ≤ f * f := Int.mul_nonneg h0 h0
  have c : f * f * n ≤ 999 * 999 * 999 := Int.mul_le_mul a (by omega) n0 (by decide)
  exact ⟨Int.mul_nonneg b n0, by omega⟩
end Mine

namespace Mine
/-- the loads by which a number is told, the lowest first -/
def laidF : Nat → Int → List Int
  | 0, _ => []
  | k + 1, n => if n = 0 then [] else ((n + 1) % 3 - 1) :: laidF k ((n + 1) / 3)
theorem laidF_eq : ∀ (k k' : Nat) (n : Int), n.natAbs ≤ k → n.natAbs ≤ k' → laidF k n = laidF k' n
  | 0, 0, _, _, _ => rfl
  | 0, k' + 1, n, h, _ => by rw [laidF, laidF, if_pos (by omega)]
  | k + 1, 0, n, _, h => by rw [laidF, laidF, if_pos (by omega)]
  | k + 1, k' + 1, n, h, h' => by
    rw [laidF, laidF]
    by_cases h0 : n = 0
    · rw [if_pos h0, if_pos h0]
    · rw [if_neg h0, if_neg h0, laidF_eq k k' _ (by omega) (by omega)]
def laid (n : Int) : List Int := laidF n.natAbs n
theorem laid_zero : laid 0 = [] := rfl
theorem laid_eq {n : Int} (h : n ≠ 0) : laid n = ((n + 1) % 3 - 1) :: laid ((n + 1) / 3) := by
  unfold laid
  obtain ⟨k, hk⟩ : ∃ k, n.natAbs = k + 1 := ⟨n.natAbs - 1, by omega⟩
  rw [hk, laidF, if_neg h, laidF_eq k _ _ (by omega) (Nat.le_refl _)]
/-- an induction along the numbers that are laid -/
theorem laid_ind {P : Int → Prop} (h0 : P 0) (h1 : ∀ n, n ≠ 0 → P ((n + 1) / 3) → P n) : ∀ n, P n := by
  intro n
  generalize hk : n.natAbs = k
  induction k using Nat.strongRecOn generalizing n with
  | ind k ih =>
    by_cases h : n = 0
    · exact h ▸ h0
    · exact h1 n h (ih ((n + 1) / 3).natAbs (by omega) _ rfl)
/-- what loads weigh -/
def wt : List Int → Int
  | [] => 0
  | d :: r => d + 3 * wt r
theorem wt_append (a b : List Int) : wt (a ++ b) = wt a + 3 ^ a.length * wt b := by
  induction a with
  | nil => simp [wt]
  | cons d a ih =>
    simp only [List.cons_append, wt, ih, List.length_cons, Int.mul_add, Int.pow_succ]
    rw [← Int.mul_assoc, Int.mul_comm 3 (3 ^ a.length)]
    omega
theorem wt_take (ds : List Int) (i : Nat) (d : Int) (h : ds[i]? = some d) : wt (ds.take (i + 1)) = wt (ds.take i) + d * 3 ^ i := by
  rw [List.take_add_one, h, Option.toList_some, wt_append]
  have : i < ds.length := (List.getElem?_eq_some_iff.mp h).1
  rw [List.length_take, Nat.min_eq_left (by omega)]
  simp only [wt, Int.mul_zero, Int.add_zero]
  rw [Int.mul_comm]
/-- the sum of the k lowest loads -/
def ss : Nat → Int
  | 0 => 0
  | k + 1 => 3 * ss k + 1
theorem ss_pos : ∀ k, 0 ≤ ss k
  | 0 => Int.le_refl _
  | k + 1 => by have := ss_pos k; rw [ss]; omega
theorem ss_lt {i j : Nat} (h : i < j) : ss i < ss j := by
  induction j with
  | zero => omega
  | succ j ih =>
    have := ss_pos j
    rw [ss]
    rcases Nat.lt_or_eq_of_le (Nat.le_of_lt_succ h) with h | h
    · have := ih h; omega
    · subst h; omega
theorem ss_le {i j : Nat} (h : i ≤ j) : ss i ≤ ss j := by
  rcases Nat.lt_or_eq_of_le h with h | h
  · exact Int.le_of_lt (ss_lt h)
  · rw [h]; exact Int.le_refl _
theorem ss_pow : ∀ k : Nat, 2 * ss k + 1 = 3 ^ k
  | 0 => rfl
  | k + 1 => by have := ss_pow k; rw [ss, Int.pow_succ]; omega

theorem wt_laid : ∀ n, wt (laid n) = n := laid_ind rfl fun n h ih => by
  rw [laid_eq h, wt, ih]; omega
theorem laid_pans : ∀ n, ∀ d ∈ laid n, d = -1 ∨ d = 0 ∨ d = 1 := laid_ind (fun _ h => nomatch h) fun n h ih d hd => by
  rw [laid_eq h] at hd
  rcases List.mem_cons.mp hd with rfl | hd
  · omega
  · exact ih d hd
theorem laid_len : ∀ (k : Nat) (n : Int), (laid n).length ≤ k ↔ (-ss k ≤ n ∧ n ≤ ss k)
  | 0, n => by
    by_cases h : n = 0
    · subst h; simp [laid_zero, ss]
    · rw [laid_eq h]; simp [ss]; omega
  | k + 1, n => by
    by_cases h : n = 0
    · subst h
      have := ss_pos (k + 1)
      rw [laid_zero]
      simp; omega
    · rw [laid_eq h, List.length_cons, Nat.succ_le_succ_iff, laid_len k, ss]
      omega
theorem laid_neg : ∀ n, laid (0 - n) = (laid n).map (fun p => 0 - p) := laid_ind rfl fun n h ih => by
  rw [laid_eq h, laid_eq (n := 0 - n) (by omega), List.map_cons, ← ih]
  congr 1
  · omega
  · congr 1; omega
theorem laid_first (n : Int) : (laid n ++ [0]).getD 0 0 = (n + 1) % 3 - 1 := by
  by_cases h : n = 0
  · subst h; rfl
  · rw [laid_eq h]; rfl
theorem laid_last : ∀ n, (laid n).drop ((laid n).length - 1) ≠ [0] := laid_ind (by intro h; cases h) fun n h ih => by
  rw [laid_eq h]
  by_cases h1 : (n + 1) / 3 = 0
  · rw [h1, laid_zero]
    intro q
    have := (List.cons.inj q).1
    omega
  · rw [laid_eq h1] at ih ⊢
    simpa using ih
theorem laid_nil {n : Int} (h : laid n = []) : n = 0 := by
  by_cases h0 : n = 0
  · exact h0
  · rw [laid_eq h0] at h; cases h
/-- the sums that the law lists -/
def sumsL : List Int := (rangeKs 1 9).map (fun k => ((3 : Int) ^ k.toNat - 1).fdiv 2)
theorem sumsL_eq : sumsL = [1, 4, 13, 40, 121, 364, 1093, 3280, 9841] := by decide +kernel
theorem sumsL_get : ∀ i, i < 9 → sumsL.getD i 0 = ss (i + 1) := by decide +kernel
theorem sumsL_length : sumsL.length = 9 := by decide +kernel
theorem sumsL_sorted : Sorted sumsL := fun i j h hj => by
  rw [sumsL_length] at hj
  rw [sumsL_get i (by omega), sumsL_get j hj]
  exact ss_le (by omega)
theorem bis_sums {n : Int} (h : n ≠ 0) (hb : -9841 ≤ n ∧ n ≤ 9841) : ((laid n).length : Int) = 1 + (bis sumsL n.natAbs : Int) := by
  have h9 : (laid n).length ≤ 9 := (laid_len 9 n).mpr hb
  have h1 : (laid n).length ≠ 0 := fun q => h (laid_nil (List.length_eq_zero_iff.mp q))
  have e : bis sumsL n.natAbs = (laid n).length - 1 := by
    refine bis_of (by rw [sumsL_length]; omega) (fun i hi => ?_) (fun i hi hj => ?_)
    · rw [sumsL_get i (by omega)]
      have := mt (laid_len (i + 1) n).mpr (by omega)
      omega
    · rw [sumsL_length] at hj
      rw [sumsL_get i hj]
      have := (laid_len (i + 1) n).mp (by omega)
      omega
  rw [e]; omega

/-- the order in which insort_left lays the loads -/
def ordF (ds : List Int) : Nat → List Int
  | 0 => []
  | i + 1 => if ds.getD i 0 ≠ 0 then ins (ordF ds i) (ds.getD i 0 * 3 ^ i) else ordF ds i
def StrictS (ns : List Int) : Prop := ∀ i j, i < j → j < ns.length → ns.getD i 0 < ns.getD j 0
theorem StrictS.sorted {ns : List Int} (h : StrictS ns) : Sorted ns := fun i j hij hj => by
  rcases Nat.lt_or_eq_of_le hij with q | q
  · exact Int.le_of_lt (h i j q hj)
  · rw [q]; exact Int.le_refl _
theorem bis_lt {ns : List Int} {x : Int} (hs : Sorted ns) : (∀ i, i < bis ns x → ns.getD i 0 < x) ∧ ∀ i, bis ns x ≤ i → i < ns.length → ¬ ns.getD i 0 < x := by
  -- a place where the list parts
  have key : ∃ k, k ≤ ns.length ∧ (∀ i, i < k → ns.getD i 0 < x) ∧ ∀ i, k ≤ i → i < ns.length → ¬ ns.getD i 0 < x := by
    have all : ∀ m, m ≤ ns.length → ∃ k, k ≤ m ∧ (∀ i, i < k → ns.getD i 0 < x) ∧ ∀ i, k ≤ i → i < m → ¬ ns.getD i 0 < x := by
      intro m
      induction m with
      | zero => intro _; exact ⟨0, Nat.le_refl _, fun i h => by omega, fun i h h' => by omega⟩
      | succ m ih =>
        intro hm
        obtain ⟨k, a, b, c⟩ := ih (by omega)
        by_cases hx : ns.getD m 0 < x
        · refine ⟨m + 1, Nat.le_refl _, fun i hi => ?_, fun i h h' => by omega⟩
          exact Int.lt_of_le_of_lt (hs i m (by omega) (by omega)) hx
        · refine ⟨k, by omega, b, fun i h h' => ?_⟩
          rcases Nat.lt_or_eq_of_le (Nat.le_of_lt_succ h') with q | q
          · exact c i h q
          · rw [q]; exact hx
    exact all _ (Nat.le_refl _)
  obtain ⟨k, a, b, c⟩ := key
  rw [bis_of a b c]
  exact ⟨b, c⟩
theorem ins_getD (ns : List Int) (x : Int) (i : Nat) : (ins ns x).getD i 0 = if i < bis ns x then ns.getD i 0 else if i = bis ns x then x else ns.getD (i - 1) 0 := by
  have hb := bis_le ns x
  have hl : (ns.take (bis ns x)).length = bis ns x := by rw [List.length_take]; omega
  unfold ins
  rw [List.getD_eq_getElem?_getD]
  by_cases h : i < bis ns x
  · rw [if_pos h, List.getElem?_append_left (by omega), List.getElem?_take_of_lt h, List.getD_eq_getElem?_getD]
  · rw [if_neg h, List.getElem?_append_right (by omega), hl]
    by_cases h1 : i = bis ns x
    · rw [if_pos h1, h1, Nat.sub_self]; rfl
    · rw [if_neg h1, show i - bis ns x = (i - 1 - bis ns x) + 1 by omega, List.getElem?_cons_succ, List.getElem?_drop, List.getD_eq_getElem?_getD]
      congr 2
      omega
theorem ins_strict {ns : List Int} {x : Int} (hs : StrictS ns) (hx : ∀ i, i < ns.length → ns.getD i 0 ≠ x) : StrictS (ins ns x) := fun i j hij hj => by
  rw [ins_length] at hj
  have hb := bis_le ns x
  obtain ⟨h1, h2⟩ := bis_lt (x := x) hs.sorted
  rw [ins_getD, ins_getD]
  by_cases a : i < bis ns x
  · rw [if_pos a]
    by_cases b : j < bis ns x
    · rw [if_pos b]; exact hs i j hij (by omega)
    · rw [if_neg b]
      by_cases c : j = bis ns x
      · rw [if_pos c]; exact h1 i a
      · rw [if_neg c]; exact hs i (j - 1) (by omega) (by omega)
  · rw [if_neg a, if_neg (by omega : ¬ j < bis ns x), if_neg (by omega : ¬ j = bis ns x)]
    by_cases c : i = bis ns x
    · rw [if_pos c]
      have := h2 (j - 1) (by omega) (by omega)
      have := hx (j - 1) (by omega)
      omega
    · rw [if_neg c]; exact hs (i - 1) (j - 1) (by omega) (by omega)
theorem ins_sum (ns : List Int) (x : Int) : (ins ns x).sum = ns.sum + x := by
  have h := List.take_append_drop (bis ns x) ns
  have e : ns.sum = (ns.take (bis ns x)).sum + (ns.drop (bis ns x)).sum := by rw [← List.sum_append, h]
  unfold ins
  rw [List.sum_append, List.sum_cons, e]
  omega
theorem ordF_facts (ds : List Int) (hd : ∀ d ∈ ds, d = -1 ∨ d = 0 ∨ d = 1) : ∀ i, i ≤ ds.length →
    StrictS (ordF ds i) ∧ (ordF ds i).length ≤ i ∧ (∀ j, j < (ordF ds i).length → -ss i ≤ (ordF ds i).getD j 0 ∧ (ordF ds i).getD j 0 ≤ ss i) ∧ (ordF ds i).sum = wt (ds.take i)
  | 0, _ => ⟨fun i j _ h => by simp [ordF] at h, Nat.le_refl _, fun j h => by simp [ordF] at h, by simp [ordF, wt]⟩
  | i + 1, hi => by
    obtain ⟨a, b, c, d⟩ := ordF_facts ds hd i (by omega)
    have hm : ds[i]? = some ds[i] := List.getElem?_eq_getElem (by omega)
    have hg : ds.getD i 0 = ds[i] := getD_get ds i (by omega)
    have hdi := hd ds[i] (List.getElem_mem (by omega))
    have hp := ss_pow i
    have hw := wt_take ds i _ hm
    have h0 := ss_pos i
    rw [ordF]
    by_cases h : ds.getD i 0 ≠ 0
    · rw [if_pos h]
      have hx : ds.getD i 0 * 3 ^ i = 2 * ss i + 1 ∨ ds.getD i 0 * 3 ^ i = -(2 * ss i + 1) := by
        rw [← hp, hg]
        rw [hg] at h
        rcases hdi with q | q | q
        · rw [q]; right; omega
        · exact absurd q h
        · rw [q]; left; omega
      refine ⟨ins_strict a fun j hj => ?_, by rw [ins_length]; omega, fun j hj => ?_, ?_⟩
      · have := c j hj
        omega
      · rw [ins_length] at hj
        rw [ins_getD, ss]
        have hb := bis_le (ordF ds i) (ds.getD i 0 * 3 ^ i)
        by_cases q : j < bis (ordF ds i) (ds.getD i 0 * 3 ^ i)
        · rw [if_pos q]
          have := c j (by omega)
          omega
        · rw [if_neg q]
          by_cases q2 : j = bis (ordF ds i) (ds.getD i 0 * 3 ^ i)
          · rw [if_pos q2]; omega
          · rw [if_neg q2]
            have := c (j - 1) (by omega)
            omega
      · rw [ins_sum, d, hw, hg]
    · rw [if_neg h]
      have hz : ds[i] = 0 := by omega
      refine ⟨a, by omega, fun j hj => ?_, ?_⟩
      · have := c j hj
        rw [ss]; omega
      · rw [d, hw, hz]; omega
/-- all ways of laying so many loads -/
def waysP : Nat → List (List Int)
  | 0 => [[]]
  | k + 1 => (waysP k).flatMap fun w => [w ++ [-1], w ++ [0], w ++ [1]]
end Mine

namespace Mine
def toldP (k : Nat) : List Int := rangeKs (-(ss k)) (2 * ss k + 1).toNat
theorem told_perm : ∀ k, k < 4 → ((waysP k).map wt).Perm (toldP k) ∧ (toldP k).Pairwise (fun a b => a ≤ b) ∧ (toldP k).length ≤ 27 := by decide +kernel
theorem ways_laid : ∀ k, k < 4 → ∀ w ∈ waysP k, ((laid (wt w) ++ List.replicate k 0).take k) = w := by decide +kernel
theorem pow_ss : ∀ k, k < 4 → ((3 : Int) ^ k - 1).fdiv 2 = ss k ∧ ss k ≤ 13 := by decide +kernel
theorem told_eq {k : Nat} (hk : k < 4) {ns : List Int} (hp : ns.Perm ((waysP k).map wt)) (ho : ns.Pairwise (fun a b => a ≤ b)) : ns = toldP k :=
  List.Perm.eq_of_pairwise (fun a b _ _ h1 h2 => Int.le_antisymm h1 h2) ho (told_perm k hk).2.1 (hp.trans (told_perm k hk).1)
end Mine

namespace Mine

/-- a def that makes a def: its code object, that code's table, the place and the name of what it makes -/
structure Ent where
  c : Addr
  P : Addr
  line : Nat
  col : Nat
  qual : Str

def CodeOf (o : Obj) (q : Str) : Prop := ∃ vs t, o.data = .fields vs ∧ vs[1]? = some (.str q t)

def TabIn (look : Addr → Obj → Prop) (e : Ent) (o : Obj) : Prop :=
  o = tabObj #[] ∨ ∃ c' oc, o = tabObj #[rawInt e.line, rawInt e.col, .ref c'] ∧ look c' oc ∧ CodeOf oc e.qual

theorem TabIn.mono {l l' : Addr → Obj → Prop} {e : Ent} {o : Obj} (h : TabIn l e o) (k : ∀ a o, CodeOf o e.qual → l a o → l' a o) : TabIn l' e o :=
  h.imp id fun ⟨c, oc, a, b, d⟩ => ⟨c, oc, a, k _ _ d b, d⟩

/-- the tail of a ledger: the tables and the code objects that they name -/
structure Tl (ents : List Ent) (g : Heap) (tl : List (Addr × Obj)) : Prop where
  tab : ∀ e ∈ ents, ∃ o, (e.P, o) ∈ tl ∧ TabIn (fun a o => g.get? a = some o ∨ (a, o) ∈ tl) e o
  kinds : ∀ p ∈ tl, (∃ vs, p.2 = tabObj vs) ∨ ∃ q, CodeOf p.2 q
theorem Tl.kind {ents : List Ent} {g : Heap} {tl : List (Addr × Obj)} (T : Tl ents g tl) : ∀ p ∈ tl, ∃ vs, p.2.data = .fields vs := fun p hp =>
  (T.kinds p hp).elim (fun ⟨vs, h⟩ => ⟨vs, by rw [h]⟩) fun ⟨_, vs, _, h, _⟩ => ⟨vs, h⟩

def Off (ents : List Ent) (b : Addr) : Prop := ∀ e ∈ ents, b ≠ e.P

/-- all that stood stands, but the tables and what X names -/
def Grow (ents : List Ent) (X : List Addr) (h h' : Heap) : Prop := ∀ b o, Off ents b → b ∉ X → h.get? b = some o → h'.get? b = some o

structure Inv (ents : List Ent) (g0 h : Heap) : Prop where
  stay : g0.StaysIn h
  tab : ∀ e ∈ ents, ∃ o, h.get? e.P = some o ∧ TabIn (fun a o => h.get? a = some o) e o

structure Glo (K : Frag) (p : Program) (loose : List Str) (mean : ExcName → Option Value) (mg mb : Str → Option Value) (ents : List Ent) (g0 : Heap) : Prop where
  X : K.In g0
  T : Top p loose mean mg mb g0
  code : ∀ e ∈ ents, CodeHd g0 e.c e.P
  off : ∀ e ∈ ents, g0.get? e.P = none

def notTab (o : Obj) : Prop := ∀ vs, o ≠ tabObj vs

theorem notTab_cls {o : Obj} {n : String} (h : o.cls = .type n) : notTab o := fun vs e => by rw [e] at h; cases h
theorem notTab_cell {o : Obj} {v : Option Value} (h : o.data = .cell v) : notTab o := fun vs e => by rw [e] at h; cases h
theorem notTab_seq {o : Obj} {v : Array Value} {n : Nat} (h : o.data = .seq v n) : notTab o := fun vs e => by rw [e] at h; cases h
theorem notTab_dict {o : Obj} {v : Array DictEntry} {n : Nat} (h : o.data = .dict v n) : notTab o := fun vs e => by rw [e] at h; cases h
theorem notTab_func {o : Obj} {v : FuncData} (h : o.data = .func v) : notTab o := fun vs e => by rw [e] at h; cases h

theorem TabIn.isTab {l : Addr → Obj → Prop} {e : Ent} {o : Obj} (h : TabIn l e o) : ∃ vs, o = tabObj vs := by
  rcases h with h | ⟨c, oc, h, _⟩ <;> exact ⟨_, h⟩

def AllNot : List (Addr × Obj) → Prop
  | [] => True
  | p :: r => notTab p.2 ∧ AllNot r
theorem AllNot.get {l : List (Addr × Obj)} (h : AllNot l) : ∀ p ∈ l, notTab p.2 := by
  induction l with
  | nil => intro p hp; cases hp
  | cons q r ih =>
    intro p hp
    rcases List.mem_cons.mp hp with rfl | hp
    · exact h.1
    · exact ih h.2 p hp
theorem TabIn.noCode {l : Addr → Obj → Prop} {e : Ent} {o : Obj} {q : Str} (h : TabIn l e o) (x : CodeOf o q) : False := by
  obtain ⟨vs, t, hv, hq⟩ := x
  rcases h with h | ⟨c, oc, h, _⟩
  · rw [h] at hv; cases hv; cases hq
  · rw [h] at hv; cases hv; cases hq

theorem Inv.off_of {ents : List Ent} {g0 h : Heap} (I : Inv ents g0 h) {b : Addr} {o : Obj} (hb : h.get? b = some o) (hn : notTab o) : Off ents b := fun e he q => by
  obtain ⟨o', ho, t⟩ := I.tab e he
  obtain ⟨vs, hv⟩ := t.isTab
  rw [← q, hb] at ho
  cases ho
  exact hn vs hv

theorem Inv.off_code {ents : List Ent} {g0 h : Heap} (I : Inv ents g0 h) {b : Addr} {o : Obj} {q : Str} (hb : h.get? b = some o) (hn : CodeOf o q) : Off ents b := fun e he z => by
  obtain ⟨o', ho, t⟩ := I.tab e he
  rw [← z, hb] at ho
  cases ho
  exact t.noCode hn

/-- what the walk of a body stands on -/
structure Ground0 (ents : List Ent) (X : List Addr) (g0 h g : Heap) (L : Addr) : Prop where
  sub : ∀ b o, Off ents b → b ∉ X → h.get? b = some o → g.get? b = some o
  sup : ∀ b o, g.get? b = some o → h.get? b = some o
  off : ∀ e ∈ ents, g.get? e.P = none
  stay : g0.StaysIn g
  lt : ∀ b o, h.get? b = some o → b < L

theorem Ground0.list {ents : List Ent} {X : List Addr} {g0 h g : Heap} {L l : Addr} {its : Array Value} (B : Ground0 ents X g0 h g L) (I : Inv ents g0 h) (hl : h.IsList l its) (hX : l ∉ X) : g.IsList l its := by
  obtain ⟨o, ho, hc, n, hd⟩ := hl
  exact ⟨o, B.sub l o (I.off_of ho (notTab_cls hc)) hX ho, hc, n, hd⟩

theorem CodeOf.rec {h : Heap} {c : Addr} {o : Obj} {q : Str} (ho : h.get? c = some o) (x : CodeOf o q) : h.CodeRec (.ref c) q :=
  let ⟨vs, t, a, b⟩ := x; ⟨c, o, vs, t, rfl, ho, a, b⟩

/-- what a ledger says of its heap: the tables stand -/
theorem inv_of {ents : List Ent} {g0 g h : Heap} {L : Addr} {m : Str → Option Value} {own tl : List (Addr × Obj)} (F : Fr g L h m) (N : News g L h (own ++ tl)) (T : Tl ents g tl) (st : g0.StaysIn g) : Inv ents g0 h where
  stay := fun b o e => F.keep b o (st b o e)
  tab := fun e he => by
    obtain ⟨o, ho, t⟩ := T.tab e he
    refine ⟨o, (N _ (List.mem_append_right _ ho)).1, t.mono fun a x _ hx => ?_⟩
    rcases hx with hx | hx
    · exact F.keep _ _ hx
    · exact (N _ (List.mem_append_right _ hx)).1

theorem Ground0.fin {ents : List Ent} {X : List Addr} {g0 h g h' : Heap} {L : Addr} {m : Str → Option Value} {own tl : List (Addr × Obj)} (B : Ground0 ents X g0 h g L) (F : Fr g L h' m) (N : News g L h' (own ++ tl)) (T : Tl ents g tl) :
    Grow ents X h h' ∧ Inv ents g0 h' :=
  ⟨fun b o ho hx e => F.keep b o (B.sub b o ho hx e), inv_of F N T B.stay⟩

theorem Ground0.fresh {ents : List Ent} {X : List Addr} {g0 h g h' : Heap} {L a : Addr} {o : Obj} {news : List (Addr × Obj)} (B : Ground0 ents X g0 h g L) (I : Inv ents g0 h') (N : News g L h' news) (hm : (a, o) ∈ news) (hn : notTab o) (hX : a ∉ X) : h.get? a = none ∧ h'.get? a = some o := by
  refine ⟨?_, (N _ hm).1⟩
  cases q : h.get? a with
  | none => rfl
  | some x =>
    have := B.sub a x (I.off_of (N _ hm).1 hn) hX q
    rw [(N _ hm).2.2] at this
    cases this

/-- a call has come back: the caller's frame and ledger at the new heap -/
theorem come_backX {ents : List Ent} {X : List Addr} {g0 g h h' : Heap} {L : Addr} {m : Str → Option Value} {own own' tl : List (Addr × Obj)} (F : Fr g L h m) (N : News g L h (own ++ tl)) (T : Tl ents g tl) (hno : AllNot own)
    (st : g0.StaysIn g) (gr : Grow ents X h h') (I' : Inv ents g0 h') (hX : ∀ x ∈ X, ∃ o, (x, o) ∈ own) (ho' : ∀ p ∈ own', h'.get? p.1 = some p.2 ∧ ∃ o, (p.1, o) ∈ own) :
    Fr g L h' m ∧ ∃ tl', News g L h' (own' ++ tl') ∧ Tl ents g tl' := by
  have I := inv_of F N T st
  have goff : ∀ e ∈ ents, g.get? e.P = none := fun e he => by
    obtain ⟨o, ho, _⟩ := T.tab e he
    exact (N _ (List.mem_append_right _ ho)).2.2
  have gX : ∀ b o, g.get? b = some o → b ∉ X := fun b o e q => by
    obtain ⟨x, hx⟩ := hX b q
    have := (N _ (List.mem_append_left _ hx)).2.2
    rw [e] at this; cases this
  have gkeep : ∀ b o, g.get? b = some o → h'.get? b = some o := fun b o e => gr b o (fun x hx q => by rw [q, goff x hx] at e; cases e) (gX b o e) (F.keep b o e)
  obtain ⟨oL, es, ep, hL, hLd, r⟩ := F.ns
  have Loff : Off ents L := I.off_of hL (notTab_dict hLd)
  have LX : L ∉ X := fun q => by
    obtain ⟨x, hx⟩ := hX L q
    exact (N _ (List.mem_append_left _ hx)).2.1 rfl
  refine ⟨⟨⟨oL, es, ep, gr _ _ Loff LX hL, hLd, r⟩, gkeep, F.above⟩, ?_⟩
  have hL' := gr _ _ Loff LX hL
  have hown : ∀ p ∈ own', h'.get? p.1 = some p.2 ∧ p.1 ≠ L ∧ g.get? p.1 = none := fun p hp => by
    obtain ⟨h1, o, ho⟩ := ho' p hp
    have n := N _ (List.mem_append_left _ ho)
    exact ⟨h1, n.2⟩
  -- the tail: all that is at an address of a table, or is a code object that g does not hold
  have step : ∀ l : List Ent, (∀ e ∈ l, e ∈ ents) → ∃ tl', News g L h' tl' ∧ (∀ e ∈ l, ∃ o, (e.P, o) ∈ tl' ∧ TabIn (fun a o => g.get? a = some o ∨ (a, o) ∈ tl') e o) ∧ ∀ p ∈ tl', (∃ vs, p.2 = tabObj vs) ∨ ∃ q, CodeOf p.2 q := by
    intro l
    induction l with
    | nil => intro _; exact ⟨[], fun _ h => (nomatch h), fun _ h => (nomatch h), fun _ h => (nomatch h)⟩
    | cons e l ih =>
      intro hl
      obtain ⟨tl', N', T', k'⟩ := ih fun x hx => hl x (.tail _ hx)
      obtain ⟨o, ho, t⟩ := I'.tab e (hl e (.head _))
      have hPL : e.P ≠ L := fun q => Loff e (hl e (.head _)) q.symm
      have hPn := goff e (hl e (.head _))
      have old : ∀ {tl'' : List (Addr × Obj)}, (∀ p ∈ tl', p ∈ tl'') → ∀ x ∈ l, ∃ o, (x.P, o) ∈ tl'' ∧ TabIn (fun a o => g.get? a = some o ∨ (a, o) ∈ tl'') x o := fun hs x hx => by
        obtain ⟨o, a, b⟩ := T' x hx
        exact ⟨o, hs _ a, b.mono fun _ _ _ z => z.imp id (hs _)⟩
      obtain ⟨vs, hvs⟩ := t.isTab
      rcases t with t | ⟨c', oc, t, hc, hco⟩
      · refine ⟨(e.P, o) :: tl', fun p hp => ?_, fun x hx => ?_, fun p hp => ?_⟩
        · rcases List.mem_cons.mp hp with rfl | hp
          · exact ⟨ho, hPL, hPn⟩
          · exact N' p hp
        · rcases List.mem_cons.mp hx with rfl | hx
          · exact ⟨o, .head _, .inl t⟩
          · exact old (fun p hp => .tail _ hp) x hx
        · rcases List.mem_cons.mp hp with rfl | hp
          · exact .inl ⟨vs, hvs⟩
          · exact k' p hp
      · cases q : g.get? c' with
        | some oc' =>
          have : oc' = oc := by have := gkeep _ _ q; rw [hc] at this; exact (Option.some.inj this).symm
          subst this
          refine ⟨(e.P, o) :: tl', fun p hp => ?_, fun x hx => ?_, fun p hp => ?_⟩
          · rcases List.mem_cons.mp hp with rfl | hp
            · exact ⟨ho, hPL, hPn⟩
            · exact N' p hp
          · rcases List.mem_cons.mp hx with rfl | hx
            · exact ⟨o, .head _, .inr ⟨c', oc', t, .inl q, hco⟩⟩
            · exact old (fun p hp => .tail _ hp) x hx
          · rcases List.mem_cons.mp hp with rfl | hp
            · exact .inl ⟨vs, hvs⟩
            · exact k' p hp
        | none =>
          have hcL : c' ≠ L := fun z => by
            obtain ⟨vs', t', hv, _⟩ := hco
            rw [z, hL'] at hc
            cases hc
            rw [hLd] at hv
            cases hv
          refine ⟨(e.P, o) :: (c', oc) :: tl', fun p hp => ?_, fun x hx => ?_, fun p hp => ?_⟩
          · rcases List.mem_cons.mp hp with rfl | hp
            · exact ⟨ho, hPL, hPn⟩
            · rcases List.mem_cons.mp hp with rfl | hp
              · exact ⟨hc, hcL, q⟩
              · exact N' p hp
          · rcases List.mem_cons.mp hx with rfl | hx
            · exact ⟨o, .head _, .inr ⟨c', oc, t, .inr (.tail _ (.head _)), hco⟩⟩
            · exact old (fun p hp => .tail _ (.tail _ hp)) x hx
          · rcases List.mem_cons.mp hp with rfl | hp
            · exact .inl ⟨vs, hvs⟩
            · rcases List.mem_cons.mp hp with rfl | hp
              · exact .inr ⟨_, hco⟩
              · exact k' p hp
  obtain ⟨tl', N', T', k'⟩ := step ents fun _ h => h
  exact ⟨tl', fun p hp => (List.mem_append.mp hp).elim (hown p) (N' p), T', k'⟩

theorem come_back {ents : List Ent} {g0 g h h' : Heap} {L : Addr} {m : Str → Option Value} {own tl : List (Addr × Obj)} (F : Fr g L h m) (N : News g L h (own ++ tl)) (T : Tl ents g tl) (hno : AllNot own)
    (st : g0.StaysIn g) (gr : Grow ents [] h h') (I' : Inv ents g0 h') :
    Fr g L h' m ∧ ∃ tl', News g L h' (own ++ tl') ∧ Tl ents g tl' :=
  come_backX F N T hno st gr I' (fun _ h => (nomatch h)) fun p hp =>
    ⟨gr _ _ ((inv_of F N T st).off_of (N p (List.mem_append_left _ hp)).1 (hno.get p hp)) (fun h => (nomatch h)) (N p (List.mem_append_left _ hp)).1, p.2, hp⟩

/-- a new object of the callee's on the caller's ledger -/
theorem news_cons {g h h' : Heap} {L a : Addr} {o : Obj} {m : Str → Option Value} {news : List (Addr × Obj)} (F : Fr g L h m) (N : News g L h' news) (hn : h.get? a = none) (ho : h'.get? a = some o) : News g L h' ((a, o) :: news) := by
  intro p hp
  rcases List.mem_cons.mp hp with rfl | hp
  · refine ⟨ho, fun q => ?_, ?_⟩
    · obtain ⟨oL, es, ep, hL, _⟩ := F.ns
      have : h.get? L = none := q ▸ hn
      rw [hL] at this; cases this
    · cases q : g.get? a with
      | none => rfl
      | some x => have := F.keep _ _ q; rw [hn] at this; cases this
  · exact N p hp

/-- entering a def: the ground is all that stands but the tables, and what is to be turned -/
theorem ground_in {ents : List Ent} {mv : List (Addr × Obj)} {g0 h h₁ : Heap} {m : Str → Option Value} (I : Inv ents g0 h) (goff0 : ∀ e ∈ ents, g0.get? e.P = none)
    (hm : ∀ p ∈ mv, h.get? p.1 = some p.2 ∧ g0.get? p.1 = none ∧ notTab p.2 ∧ ∀ q, ¬ CodeOf p.2 q)
    (hns : h₁.Ns h.objs.size m) (hk : ∀ b o, h.get? b = some o → h₁.get? b = some o) :
    ∃ g tl, Fr g h.objs.size h₁ m ∧ News g h.objs.size h₁ (mv ++ tl) ∧ Tl ents g tl ∧ Ground0 ents (mv.map (·.1)) g0 h g h.objs.size ∧ (∀ p ∈ mv ++ tl, p.1 < h.objs.size) := by
  have key : ∀ l : List Ent, (∀ e ∈ l, e ∈ ents) → ∃ tl : List (Addr × Obj), (∀ p ∈ tl, h.get? p.1 = some p.2 ∧ ∃ e ∈ ents, p.1 = e.P) ∧ (∀ e ∈ l, ∃ o, (e.P, o) ∈ tl ∧ h.get? e.P = some o) := by
    intro l
    induction l with
    | nil => intro _; exact ⟨[], fun _ h => (nomatch h), fun _ h => (nomatch h)⟩
    | cons e l ih =>
      intro hl
      obtain ⟨tl, a, b⟩ := ih fun x hx => hl x (.tail _ hx)
      obtain ⟨o, ho, _⟩ := I.tab e (hl e (.head _))
      refine ⟨(e.P, o) :: tl, fun p hp => ?_, fun x hx => ?_⟩
      · rcases List.mem_cons.mp hp with rfl | hp
        · exact ⟨ho, e, hl e (.head _), rfl⟩
        · exact a p hp
      · rcases List.mem_cons.mp hx with rfl | hx
        · exact ⟨o, .head _, ho⟩
        · obtain ⟨o', y, z⟩ := b x hx; exact ⟨o', .tail _ y, z⟩
  obtain ⟨tl, ha, hb⟩ := key ents fun _ h => h
  have mem : ∀ e ∈ ents, e.P ∈ ents.map (·.P) ++ mv.map (·.1) := fun e he => List.mem_append_left _ (List.mem_map_of_mem he)
  have offm : ∀ b, Off ents b → b ∉ mv.map (·.1) → b ∉ ents.map (·.P) ++ mv.map (·.1) := fun b ho hx q => by
    rcases List.mem_append.mp q with q | q
    · obtain ⟨e, he, q⟩ := List.mem_map.mp q
      exact ho e he q.symm
    · exact hx q
  have g0x : ∀ b o, g0.get? b = some o → b ∉ mv.map (·.1) := fun b o e q => by
    obtain ⟨p, hp, rfl⟩ := List.mem_map.mp q
    rw [(hm p hp).2.1] at e; cases e
  have B : Ground0 ents (mv.map (·.1)) g0 h (hideAll h (ents.map (·.P) ++ mv.map (·.1))) h.objs.size :=
    ⟨fun b o ho hx e => hideAll_get _ e (offm b ho hx), fun b o e => of_hideAll _ e, fun e he => hideAll_none _ (mem e he),
      fun b o e => hideAll_get _ (I.stay b o e) (offm b (fun x hx q => by rw [q, goff0 x hx] at e; cases e) (g0x b o e)), fun b o e => Heap.lt_size e⟩
  refine ⟨_, tl, ⟨hns, fun b o e => hk b o (of_hideAll _ e), Nat.le_of_eq (hideAll_size _ _)⟩, fun p hp => ?_, ⟨fun e he => ?_, fun p hp => ?_⟩, B, fun p hp => ?_⟩
  · rcases List.mem_append.mp hp with hp | hp
    · have h1 := (hm p hp).1
      exact ⟨hk _ _ h1, Nat.ne_of_lt (Heap.lt_size h1), hideAll_none _ (List.mem_append_right _ (List.mem_map_of_mem hp))⟩
    · obtain ⟨h1, e, he, q⟩ := ha p hp
      exact ⟨hk _ _ h1, Nat.ne_of_lt (Heap.lt_size h1), by rw [q]; exact B.off e he⟩
  · obtain ⟨o, h1, h2⟩ := hb e he
    obtain ⟨o', h3, t⟩ := I.tab e he
    rw [h2] at h3
    cases h3
    refine ⟨o, h1, t.mono fun a x hx hax => .inl (B.sub a x (I.off_code hax hx) (fun q => ?_) hax)⟩
    obtain ⟨p, hp, rfl⟩ := List.mem_map.mp q
    have := (hm p hp).1
    rw [hax] at this
    cases this
    exact (hm p hp).2.2.2 _ hx
  · obtain ⟨h1, e, he, q⟩ := ha p hp
    obtain ⟨o', h3, t⟩ := I.tab e he
    rw [q, h3] at h1
    cases h1
    obtain ⟨vs, hv⟩ := t.isTab
    exact .inl ⟨vs, hv⟩
  · rcases List.mem_append.mp hp with hp | hp
    · exact Heap.lt_size (hm p hp).1
    · exact Heap.lt_size (ha p hp).1

inductive Split : List (Addr × Obj) → List (Addr × Obj) → List (Addr × Obj) → Prop
  | nil {tl} : Split tl [] tl
  | cons {p news own tl} : Split news own tl → Split (p :: news) (p :: own) tl
theorem Split.eq {news own tl : List (Addr × Obj)} (h : Split news own tl) : news = own ++ tl := by
  induction h with
  | nil => rfl
  | cons _ ih => rw [ih]; rfl

end Mine

namespace Mine
section
variable {prog : Program} {w : World} {A : Around} {s : Shared} {K : Frag} {p : Program} {loose : List Str} {mean : ExcName → Option Value} {mg mb : Str → Option Value} {ents : List Ent} {g0 : Heap}
  {R : Result → Shared → Prop} {name qual : Str} {params : Arguments} {body : List Stmt} {scope : Scope} {cl : List (Str × Addr)} {dV kV doc pm cdv ct oc : Value} {an od : Option Addr} {osl : Array (Option Value)} {f : Addr} {args : Args} {binds : List (Str × Value)}

theorem enter_defX {mv : List (Addr × Obj)} (G : Glo K p loose mean mg mb ents g0) (I : Inv ents g0 s.heap) (hm : ∀ p ∈ mv, s.heap.get? p.1 = some p.2 ∧ g0.get? p.1 = none ∧ notTab p.2 ∧ ∀ q, ¬ CodeOf p.2 q)
    (ho : s.heap.get? f = some ⟨oc, od, .func (fnX name qual params body scope cl dV kV doc pm an cdv ct), osl⟩) (hcd : s.heap.CodeRec cdv qual) (hroom : A.depth < recursionLimit)
    (hbind : BindsTo s (fnX name qual params body scope cl dV kV doc pm an cdv ct) args binds) (hloc : ∀ y ∈ binds, scope.names.lookup y.1 = some .local)
    (h : ∀ g L' h₁ tl, Fr g L' h₁ (fun y => binds.reverse.lookup y) → News g L' h₁ (mv ++ tl) → Tl ents g tl → Ground0 ents (mv.map (·.1)) g0 s.heap g L' → K.In g → Top p loose mean mg mb g → (∀ e ∈ ents, CodeHd g e.c e.P) → (∀ p ∈ mv ++ tl, p.1 < L') →
      wpAny (model prog w) (A.deeper (envX qual scope L' f cdv cl)) (execs body (envX qual scope L' f cdv cl))
        (fun fl s' => R (.ok (.ret (match fl with | .ret v => v | _ => .none))) s')
        (fun e s' => wpAny (model prog w) (A.deeper (envX qual scope L' f cdv cl)) (leaving (envX qual scope L' f cdv cl) e) (fun _ s'' => R (.error e) s'') (fun e' s'' => R (.error e') s'') s')
        { s with heap := h₁, toks := s.toks + binds.length })
    (hco : scope.isCoroutine = false) (hgen : scope.isGenerator = false) (hk : scope.kind = .function)
    (hcell : ∀ x ∈ scope.names, x.2 ≠ .cell) : codeAny (model prog w) A (.call (.ref f) args) R s := by
  refine codeAny_call_def (fd := fnX name qual params body scope cl dV kV doc pm an cdv ct) (body := body) (binds := binds) hroom ho rfl (G.T.nolimit.keeps I.stay) hcd rfl hbind hcell hloc (fun h₁ hns hk₁ => ?_) hco hgen hk
  obtain ⟨g, tl, F, N, T, B, lt⟩ := ground_in I G.off hm hns hk₁
  exact h g _ h₁ tl F N T B (G.X.keeps B.stay) (G.T.keeps B.stay) (fun e he => (G.code e he).keeps B.stay) lt

theorem enter_def (G : Glo K p loose mean mg mb ents g0) (I : Inv ents g0 s.heap)
    (ho : s.heap.get? f = some ⟨oc, od, .func (fnX name qual params body scope cl dV kV doc pm an cdv ct), osl⟩) (hcd : s.heap.CodeRec cdv qual) (hroom : A.depth < recursionLimit)
    (hbind : BindsTo s (fnX name qual params body scope cl dV kV doc pm an cdv ct) args binds) (hloc : ∀ y ∈ binds, scope.names.lookup y.1 = some .local)
    (h : ∀ g L' h₁ tl, Fr g L' h₁ (fun y => binds.reverse.lookup y) → News g L' h₁ tl → Tl ents g tl → Ground0 ents [] g0 s.heap g L' → K.In g → Top p loose mean mg mb g → (∀ e ∈ ents, CodeHd g e.c e.P) → (∀ p ∈ tl, p.1 < L') →
      wpAny (model prog w) (A.deeper (envX qual scope L' f cdv cl)) (execs body (envX qual scope L' f cdv cl))
        (fun fl s' => R (.ok (.ret (match fl with | .ret v => v | _ => .none))) s')
        (fun e s' => wpAny (model prog w) (A.deeper (envX qual scope L' f cdv cl)) (leaving (envX qual scope L' f cdv cl) e) (fun _ s'' => R (.error e) s'') (fun e' s'' => R (.error e') s'') s')
        { s with heap := h₁, toks := s.toks + binds.length })
    (hco : scope.isCoroutine = false) (hgen : scope.isGenerator = false) (hk : scope.kind = .function)
    (hcell : ∀ x ∈ scope.names, x.2 ≠ .cell) : codeAny (model prog w) A (.call (.ref f) args) R s :=
  enter_defX (mv := []) G I (fun _ h => (nomatch h)) ho hcd hroom hbind hloc h hco hgen hk hcell

theorem enter_cells (G : Glo K p loose mean mg mb ents g0) (I : Inv ents g0 s.heap)
    (ho : s.heap.get? f = some ⟨oc, od, .func (fnX name qual params body scope [] dV kV doc pm an cdv ct), osl⟩) (hcd : s.heap.CodeRec cdv qual) (hroom : A.depth < recursionLimit)
    (hbind : BindsTo s (fnX name qual params body scope [] dV kV doc pm an cdv ct) args binds) (hkind : (binds.all fun y => scope.names.lookup y.1 == some .local || scope.names.lookup y.1 == some .cell) = true)
    (hnd : ((cellsFrom 0 scope.names []).map (·.1)).Nodup)
    (h : ∀ g L' h₁ tl tk cells, Fr g L' h₁ (bindL (envOfC qual scope L' f cdv).kindOf binds fun _ => none) → News g L' h₁ (cells ++ tl) → CellsAre (bindC (envOfC qual scope L' f cdv).kindOf binds fun _ => none) (cellsFrom (L' + 1) scope.names []) cells →
      Tl ents g tl → Ground0 ents [] g0 s.heap g L' → K.In g → Top p loose mean mg mb g → (∀ e ∈ ents, CodeHd g e.c e.P) → (∀ p ∈ tl, p.1 < L') →
      wpAny (model prog w) (A.deeper (envOfC qual scope L' f cdv)) (execs body (envOfC qual scope L' f cdv))
        (fun fl s' => R (.ok (.ret (match fl with | .ret v => v | _ => .none))) s')
        (fun e s' => wpAny (model prog w) (A.deeper (envOfC qual scope L' f cdv)) (leaving (envOfC qual scope L' f cdv) e) (fun _ s'' => R (.error e) s'') (fun e' s'' => R (.error e') s'') s')
        { s with heap := h₁, toks := tk })
    (hco : scope.isCoroutine = false) (hgen : scope.isGenerator = false) (hk : scope.kind = .function) : codeAny (model prog w) A (.call (.ref f) args) R s := by
  refine codeAny_call_function hroom ho rfl hco hgen rfl hcd (hbind _ _ _ _ ?_)
  refine wpAny_newFunctionEnv_cells hk (kindsX hkind _) fun env' he s' x => ?_
  subst he
  refine ⟨(G.T.nolimit.keeps I.stay).keeps x.toInCall.keep, codeAny_func ?_⟩
  obtain ⟨h₁, tk, rfl, _⟩ := x.done
  have hk₁ := x.toInCall.keep
  obtain ⟨cells, NC, Y⟩ := Cl.news (h₀ := s.heap) (Nat.le_refl _) fun n c hm => ⟨x.cell n c (lookup_of_mem_nodup (cellsFrom_names scope.names 0 (s.heap.objs.size + 1) [] [] rfl ▸ hnd) hm), x.above n c hm⟩
  obtain ⟨g, tl, F, N, T, B, lt⟩ := ground_in (mv := []) I G.off (fun _ h => (nomatch h)) x.toInCall.ns hk₁
  refine h g _ h₁ tl tk cells F (fun p hp => ?_) Y T B (G.X.keeps B.stay) (G.T.keeps B.stay) (fun e he => (G.code e he).keeps B.stay) lt
  rcases List.mem_append.mp hp with hp | hp
  · refine ⟨(NC p hp).1, (NC p hp).2.1, ?_⟩
    cases q : g.get? p.1 with
    | none => rfl
    | some o => have := B.sup _ _ q; rw [(NC p hp).2.2] at this; cases this
  · exact N p hp
end
end Mine

namespace Mine
abbrev tupO (vs : List Value) : Obj := ⟨.type "tuple", none, .seq vs.toArray 0, #[]⟩

/-- all that stood stands, but what X names -/
def Keep (X : List Addr) (h h' : Heap) : Prop := ∀ b o, b ∉ X → h.get? b = some o → h'.get? b = some o
theorem Keep.all {h h' : Heap} (k : Keep [] h h') : ∀ b o, h.get? b = some o → h'.get? b = some o := fun b o e => k b o (fun h => nomatch h) e
theorem Keep.trans {X : List Addr} {h h' h'' : Heap} (k : Keep X h h') (k' : Keep X h' h'') : Keep X h h'' := fun b o n e => k' b o n (k b o n e)
theorem Keep.refl {X : List Addr} {h : Heap} : Keep X h h := fun _ _ _ e => e

structure QG (X : List Addr) (g0 h g : Heap) : Prop where
  sub : Keep X h g
  stay : g0.StaysIn g
  sup : ∀ b o, g.get? b = some o → h.get? b = some o

section
variable {X : List Addr} {g0 h g h' : Heap} {L a : Addr} {m : Str → Option Value} {news : List (Addr × Obj)} {o : Obj}
theorem QG.fresh (B : QG X g0 h g) (N : News g L h' news) (hm : (a, o) ∈ news) (hX : a ∉ X) : h.get? a = none ∧ h'.get? a = some o := by
  refine ⟨?_, (N _ hm).1⟩
  cases q : h.get? a with
  | none => rfl
  | some x => have := B.sub a x hX q; rw [(N _ hm).2.2] at this; cases this
theorem QG.fin (B : QG X g0 h g) (F : Fr g L h' m) : Keep X h h' := fun b o n e => F.keep b o (B.sub b o n e)

def AllNe (d : Addr) : List (Addr × Obj) → Prop
  | [] => True
  | p :: r => @Ne Nat p.1 d ∧ AllNe d r
theorem allNe_of {d : Addr} {l : List (Addr × Obj)} (h : ∀ p ∈ l, p.1 ≠ d) : AllNe d l := by
  induction l with
  | nil => exact trivial
  | cons p r ih => exact ⟨h p (.head _), ih fun q hq => h q (.tail _ hq)⟩
theorem allNe_new (N : News g L h news) (h0 : h.get? a = none) : AllNe a news := allNe_of fun p hp q => by
  have := (N p hp).1
  rw [q, h0] at this; cases this

/-- a call that turned nothing -/
theorem fr_back (F : Fr g L h m) (k : Keep [] h h') : Fr g L h' m :=
  ⟨F.ns.keeps k.all, fun b o e => k.all b o (F.keep b o e), F.above⟩
theorem news_back (N : News g L h news) (k : Keep [] h h') : News g L h' news := fun p hp => ⟨k.all _ _ (N p hp).1, (N p hp).2⟩

/-- a call that turned one object of the ledger -/
theorem back1 {pre post : List (Addr × Obj)} {d : Addr} {o o' : Obj} (F : Fr g L h m) (N : News g L h (pre ++ (d, o) :: post)) (k : Keep [d] h h') (hd : h'.get? d = some o') (h1 : ∀ p ∈ pre, p.1 ≠ d) (h2 : ∀ p ∈ post, p.1 ≠ d) :
    Fr g L h' m ∧ News g L h' (pre ++ (d, o') :: post) := by
  have D := N (d, o) (List.mem_append_right _ (.head _))
  have kk : ∀ b o, b ≠ d → h.get? b = some o → h'.get? b = some o := fun b o n e => k b o (fun q => n (List.mem_singleton.mp q)) e
  obtain ⟨oL, es, ep, hL, r⟩ := F.ns
  refine ⟨⟨⟨oL, es, ep, kk _ _ (Ne.symm D.2.1) hL, r⟩, fun b o e => kk b o (fun q => ?_) (F.keep b o e), F.above⟩, fun p hp => ?_⟩
  · have := D.2.2; rw [← q, e] at this; cases this
  · rcases List.mem_append.mp hp with hp | hp
    · have n := N p (List.mem_append_left _ hp); exact ⟨kk _ _ (h1 p hp) n.1, n.2⟩
    · rcases List.mem_cons.mp hp with rfl | hp
      · exact ⟨hd, D.2⟩
      · have n := N p (List.mem_append_right _ (.tail _ hp)); exact ⟨kk _ _ (h2 p hp) n.1, n.2⟩
end

section
variable {prog : Program} {w : World} {A : Around} {s : Shared} {K : Frag} {p : Program} {loose : List Str} {mean : ExcName → Option Value} {mg mb : Str → Option Value} {g0 : Heap}
  {R : Result → Shared → Prop} {name qual : Str} {params : Arguments} {body : List Stmt} {scope : Scope} {cl : List (Str × Addr)} {dV kV doc pm cdv ct oc : Value} {an od : Option Addr} {osl : Array (Option Value)} {f : Addr} {args : Args} {binds : List (Str × Value)}

theorem enter_q {mv : List (Addr × Obj)} (X0 : K.In g0) (T0 : Top p loose mean mg mb g0) (st : g0.StaysIn s.heap) (hm : ∀ p ∈ mv, s.heap.get? p.1 = some p.2 ∧ g0.get? p.1 = none)
    (ho : s.heap.get? f = some ⟨oc, od, .func (fnX name qual params body scope cl dV kV doc pm an cdv ct), osl⟩) (hcd : s.heap.CodeRec cdv qual) (hroom : A.depth < recursionLimit)
    (hbind : BindsTo s (fnX name qual params body scope cl dV kV doc pm an cdv ct) args binds) (hloc : ∀ y ∈ binds, scope.names.lookup y.1 = some .local)
    (h : ∀ g L' h₁, Fr g L' h₁ (fun y => binds.reverse.lookup y) → News g L' h₁ mv → QG (mv.map (·.1)) g0 s.heap g → K.In g → Top p loose mean mg mb g → (∀ p ∈ mv, p.1 < L') →
      wpAny (model prog w) (A.deeper (envX qual scope L' f cdv cl)) (execs body (envX qual scope L' f cdv cl))
        (fun fl s' => R (.ok (.ret (match fl with | .ret v => v | _ => .none))) s')
        (fun e s' => wpAny (model prog w) (A.deeper (envX qual scope L' f cdv cl)) (leaving (envX qual scope L' f cdv cl) e) (fun _ s'' => R (.error e) s'') (fun e' s'' => R (.error e') s'') s')
        { s with heap := h₁, toks := s.toks + binds.length })
    (hco : scope.isCoroutine = false) (hgen : scope.isGenerator = false) (hk : scope.kind = .function)
    (hcell : ∀ x ∈ scope.names, x.2 ≠ .cell) : codeAny (model prog w) A (.call (.ref f) args) R s := by
  refine codeAny_call_def (fd := fnX name qual params body scope cl dV kV doc pm an cdv ct) (body := body) (binds := binds) hroom ho rfl (T0.nolimit.keeps st) hcd rfl hbind hcell hloc (fun h₁ hns hk₁ => ?_) hco hgen hk
  have nm : ∀ b o, g0.get? b = some o → b ∉ mv.map (·.1) := fun b o e q => by
    obtain ⟨p, hp, rfl⟩ := List.mem_map.mp q
    rw [(hm p hp).2] at e; cases e
  have B : QG (mv.map (·.1)) g0 s.heap (hideAll s.heap (mv.map (·.1))) := ⟨fun b o n e => hideAll_get _ e n, fun b o e => hideAll_get _ (st b o e) (nm b o e), fun b o e => of_hideAll _ e⟩
  refine h _ s.heap.objs.size h₁ ⟨hns, fun b o e => hk₁ b o (of_hideAll _ e), Nat.le_of_eq (hideAll_size _ _)⟩ (fun p hp => ?_) B (X0.keeps B.stay) (T0.keeps B.stay) fun p hp => Heap.lt_size (hm p hp).1
  exact ⟨hk₁ _ _ (hm p hp).1, Nat.ne_of_lt (Heap.lt_size (hm p hp).1), hideAll_none _ (List.mem_map_of_mem hp)⟩
end
end Mine

namespace Mine
section
variable {M : Model} {A : Around} {E : Value → Shared → Prop} {s : Shared} {ents : List Ent} {e : Ent} {g0 g : Heap} {L a : Addr} {m mg mb : Str → Option Value} {cn : Str} {cs : Scope} {ccd : Value} {cl : List (Str × Addr)} {own tl : List (Addr × Obj)}
  {p : Program} {loose : List Str} {mean : ExcName → Option Value} {name qual : Str} {params : Arguments} {body : List Stmt} {scope : Scope} {pos : Pos} {firstLine : Nat} {clos : List (Str × Addr)}

theorem nest_any {Q : Value → Shared → Prop} (F : Fr g L s.heap m) (N : News g L s.heap (own ++ tl)) (T : Tl ents g tl) (hno : AllNot own) (st : g0.StaysIn g) (Tp : Top p loose mean mg mb g)
    (he : e ∈ ents) (hinj : ∀ e1 ∈ ents, e1.P = e.P → e1 = e) (C : CodeHd g e.c e.P) (hcd : ccd = .ref e.c) (hl : pos.line = e.line) (hc : pos.col = e.col) (hq : qual = e.qual)
    (hcl : closureFor scope (envX cn cs L a ccd cl) = pure clos)
    (h : ∀ f c' oc ctv doc h' tk tl', Fr g L h' m → News g L h' ((f, fnMade name qual params body scope clos doc ((mg "__name__").getD .none) c' ctv) :: (own ++ tl')) → Tl ents g tl' →
      (g.get? c' = some oc ∨ (c', oc) ∈ tl') → CodeOf oc qual → (∀ p ∈ own, p.1 < f) → Q (.ref f) { s with heap := h', toks := tk }) :
    wpAny M A (makeFunction name qual params (.stmts body) scope (envX cn cs L a ccd cl) [] [] [] pos firstLine) Q E s := by
  have I := inv_of F N T st
  obtain ⟨o, hom, ht⟩ := T.tab e he
  have hoP := N _ (List.mem_append_right _ hom)
  have hgs := Tp.g.keeps F.keep
  obtain ⟨bm, ob, b1, b2, b3, b4, b5, b6⟩ := Tp.bmain
  obtain ⟨vs, hvs⟩ := ht.isTab
  have hgP : mainGlobals ≠ e.P := fun q => by
    obtain ⟨o', es, ep, e', hd, _⟩ := hgs
    rw [q, hoP.1, hvs] at e'; cases e'; cases hd
  have hbP : bm ≠ e.P := fun q => by
    have e' := F.keep _ _ b3
    rw [q, hoP.1, hvs] at e'; cases e'; cases b4
  have hbG : bm ≠ mainGlobals := fun q => by
    obtain ⟨o', es, ep, e', hd, _⟩ := Tp.g
    rw [q, e'] at b3; cases b3; rw [hd] at b6; cases b6
  -- what is common to both roads
  have fin : ∀ (h₂ : Heap) (c' : Addr) (oc : Obj) (ctv doc : Value) (tk : Tok), (∀ b x, b ≠ e.P → s.heap.get? b = some x → h₂.get? b = some x) → s.heap.objs.size ≤ h₂.objs.size →
      h₂.get? e.P = some (tabObj #[rawInt e.line, rawInt e.col, .ref c']) → h₂.get? c' = some oc → CodeOf oc qual →
      Q (.ref h₂.objs.size) { s with heap := h₂.push (fnMade name qual params body scope clos doc ((mg "__name__").getD .none) c' ctv), toks := tk } := by
    intro h₂ c' oc ctv doc tk hk hsz hP hc' hco
    have push : ∀ {b x}, h₂.get? b = some x → (h₂.push (fnMade name qual params body scope clos doc ((mg "__name__").getD .none) c' ctv)).get? b = some x := fun q => Heap.get?_push_of_some _ q
    have gr : Grow ents [] s.heap (h₂.push (fnMade name qual params body scope clos doc ((mg "__name__").getD .none) c' ctv)) := fun b x ho _ q => push (hk b x (ho e he) q)
    have gn : g.get? e.P = none := hoP.2.2
    have I' : Inv ents g0 (h₂.push (fnMade name qual params body scope clos doc ((mg "__name__").getD .none) c' ctv)) := by
      refine ⟨fun b x q => push (hk b x (fun z => ?_) (F.keep _ _ (st b x q))), fun e1 he1 => ?_⟩
      · have := st b x q; rw [z, gn] at this; cases this
      · by_cases q : e1.P = e.P
        · rw [hinj e1 he1 q]
          exact ⟨_, push hP, .inr ⟨c', oc, rfl, push hc', hq ▸ hco⟩⟩
        · obtain ⟨o1, h1, t1⟩ := I.tab e1 he1
          refine ⟨o1, push (hk _ _ q h1), t1.mono fun a x hx hax => push (hk a x (fun z => ?_) hax)⟩
          rw [z, hoP.1] at hax
          cases hax
          exact ht.noCode hx
    obtain ⟨F', tl', N', T'⟩ := come_back F N T hno st gr I'
    have hfresh : s.heap.get? h₂.objs.size = none := Heap.get?_none_of_le hsz
    have N'' := news_cons F N' hfresh (Heap.get?_push_size h₂ rfl)
    refine h _ c' oc ctv doc _ tk tl' F' N'' T' ?_ hco fun p hp => Nat.lt_of_lt_of_le (Heap.lt_size (N p (List.mem_append_left _ hp)).1) hsz
    obtain ⟨o2, m2, t2⟩ := T'.tab e he
    have e2 := (N' _ (List.mem_append_right _ m2)).1
    rw [push hP] at e2
    rcases t2 with t2 | ⟨c2, oc2, t2, l2, d2⟩
    · rw [t2] at e2; cases e2
    · rw [t2] at e2
      have : c' = c2 := by
        have := congrArg (Option.map Obj.data) e2
        simp [tabObj] at this
        exact this
      subst this
      have : oc2 = oc := by
        have h3 : (h₂.push (fnMade name qual params body scope clos doc ((mg "__name__").getD .none) c' ctv)).get? c' = some oc2 := l2.elim (F'.keep _ _) fun z => (N' _ (List.mem_append_right _ z)).1
        rw [push hc'] at h3
        exact (Option.some.inj h3).symm
      subst this
      exact l2
  have CH := C.keeps F.keep
  have BA : s.heap.BuiltinsAt mg e.P := ⟨bm, ob, b1, b2, hbG, hbP, F.keep _ _ b3, b4, b5, b6⟩
  rcases ht with ht | ⟨c', oc, ht, hlook, hco⟩
  · refine makeFunction_K (mg := mg) hcl rfl hgs hcd CH (ht ▸ hoP.1) (by exact True.intro) rfl hgP BA fun c' ctv doc h₂ tk hx hge hlt hrec htb => ?_
    obtain ⟨c₂, oc, vs, t, e2, hoc, hd, hv⟩ := hrec
    cases e2
    refine fin h₂ c' oc ctv doc tk (fun b x hb q => hx b x hb q) (Nat.le_trans hge (Nat.le_of_lt hlt)) ?_ hoc ⟨vs, t, hd, hv⟩
    rw [htb, hl, hc]
    rfl
  · have hcs : s.heap.get? c' = some oc := hlook.elim (F.keep _ _) fun z => (N _ (List.mem_append_right _ z)).1
    refine makeFunction_hit (mg := mg) hcl rfl hgs hcd CH (ht ▸ hoP.1) (by simp [TriplesOk, rawInt]) (cv := .ref c') (by simp [codeAmong, rawInt, hl, hc]) BA fun ctv doc h₂ tk hk hsz => ?_
    exact fin h₂ c' oc ctv doc tk (fun b x _ q => hk b x q) hsz (hk _ _ (ht ▸ hoP.1)) (hk _ _ hcs) (hq ▸ hco)
end
theorem Tl.ne {ents : List Ent} {g h : Heap} {L d : Addr} {tl news : List (Addr × Obj)} {o : Obj} (T : Tl ents g tl) (N : News g L h news) (ht : ∀ p ∈ tl, p ∈ news) (hm : (d, o) ∈ news) (ho : ∀ vs, o.data ≠ .fields vs) : ∀ p ∈ tl, p.1 ≠ d := fun p hp q => by
  obtain ⟨vs, hv⟩ := T.kind p hp
  have h1 := (N p (ht p hp)).1
  have h2 := (N _ hm).1
  rw [q] at h1
  rw [h1] at h2
  cases h2
  exact ho vs hv
theorem notF_cell {o : Obj} {v : Option Value} (h : o.data = .cell v) : ∀ vs, o.data ≠ .fields vs := fun vs q => by rw [h] at q; cases q
theorem notF_seq {o : Obj} {v : Array Value} {n : Nat} (h : o.data = .seq v n) : ∀ vs, o.data ≠ .fields vs := fun vs q => by rw [h] at q; cases q
theorem ne_of_below {tl : List (Addr × Obj)} {L d : Addr} (h : ∀ p ∈ tl, p.1 < L) (hd : L ≤ d) : ∀ p ∈ tl, p.1 ≠ d := fun p hp q => Nat.lt_irrefl _ (Nat.lt_of_lt_of_le (q ▸ h p hp) hd)
end Mine

namespace Mine

theorem nm_nil {a : Addr} : a ∉ ([] : List Addr) := fun h => nomatch h
theorem nm_cons {a b : Addr} {l : List Addr} (h : @Ne Nat a b) (r : a ∉ l) : a ∉ b :: l := fun q => (List.mem_cons.mp q).elim h r
/-- a goal at which the walk is to stand still -/
def Hold (P : Prop) : Prop := P
theorem hold_in {P : Prop} (h : Hold P) : P := h
theorem Hold.out {P : Prop} (h : P) : Hold P := h
def notTl (o : Obj) : Prop := notTab o ∧ ∀ q, ¬ CodeOf o q

theorem Tl.off {ents : List Ent} {g : Heap} {tl : List (Addr × Obj)} (T : Tl ents g tl) {h : Heap} {L I : Addr} {it : Obj} {news : List (Addr × Obj)} (N : News g L h news) (hs : ∀ p ∈ tl, p ∈ news) (hi : h.get? I = some it) (hn : notTl it) : ∀ p ∈ tl, p.1 ≠ I := fun p hp q => by
  have h1 := (N p (hs p hp)).1
  rw [q, hi] at h1
  have e : it = p.2 := Option.some.inj h1
  rcases T.kinds p hp with ⟨vs, hv⟩ | ⟨c, hc⟩
  · exact hn.1 vs (e.trans hv)
  · exact hn.2 c (e ▸ hc)

section
variable {prog : Program} {w : World} {A : Around} {s : Shared} {env : Env} {g : Heap} {ents : List Ent} {adr : List Addr} {own tl : List (Addr × Obj)} {x : Str} {body : List Stmt} {Q : Flow → Shared → Prop} {E : Value → Shared → Prop} {m : Str → Option Value}
  {I : Addr} {fp : List Addr} {n : Nat} {P : Nat → Value → Prop} {St : Nat → Heap → Prop}

/-- the end of a loop's turn -/
def TurnEnd (ents : List Ent) (g : Heap) (L : Addr) (adr : List Addr) (I : Addr) (it : Obj) (J : (Str → Option Value) → List (Addr × Obj) → Prop) (s₁ : Shared) (Q : Flow → Shared → Prop) (f : Flow) (s₂ : Shared) : Prop :=
  match f with
  | .ret v => Q (.ret v) s₂
  | .brk => Q .next s₂
  | _ => ∃ h' tk m' own' tl', s₂ = { s₁ with heap := h', toks := tk } ∧ Fr g L h' m' ∧ News g L h' ((I, it) :: (own' ++ tl')) ∧ own'.map (·.1) = adr ∧ Tl ents g tl' ∧ J m' own'

theorem loop_core (J : Nat → (Str → Option Value) → List (Addr × Obj) → Prop) (W : Walks prog w A I fp [I] n P St) (hLf : env.locals ∉ fp) (hI0 : g.get? I = none)
    (hstI : ∀ i h, St i h → ∃ o, h.get? I = some o ∧ notTl o)
    (hfp : ∀ b ∈ fp, b = I ∨ (∃ o, g.get? b = some o) ∨ ∃ o, ∀ i m own, J i m own → (b, o) ∈ own)
    (hst : St 0 s.heap) (F : Fr g env.locals s.heap m) (N : News g env.locals s.heap (own ++ tl)) (T : Tl ents g tl) (hadr : own.map (·.1) = adr) (hIa : I ∉ adr) (hj : J 0 m own)
    (turn : ∀ i v m₁ own₁ tl₁ h tk it, i < n → P i v → J i m₁ own₁ → own₁.map (·.1) = adr → Tl ents g tl₁ → Fr g env.locals h (fun y => if y = x then some v else m₁ y) → News g env.locals h ((I, it) :: (own₁ ++ tl₁)) → notTab it →
      wpAny (model prog w) A (execs body env) (TurnEnd ents g env.locals adr I it (J (i + 1)) { s with heap := h, toks := tk } Q) E { s with heap := h, toks := tk })
    (done : ∀ m₁ own₁ tl₁ h tk, J n m₁ own₁ → own₁.map (·.1) = adr → Tl ents g tl₁ → Fr g env.locals h m₁ → News g env.locals h (own₁ ++ tl₁) → Q .next { s with heap := h, toks := tk }) :
    LoopAtV prog w A g env x body Q E (.ref I) s := by
  obtain ⟨it₀, hit₀, hnt₀⟩ := hstI _ _ hst
  refine ⟨I, fp, [I], n, P, St, m, own ++ tl, fun i m₁ news₁ => ∃ own₁ tl₁, news₁ = own₁ ++ tl₁ ∧ own₁.map (·.1) = adr ∧ Tl ents g tl₁ ∧ J i m₁ own₁, rfl, W, hLf, ?_, ?_, hst, F, N, ⟨own, tl, rfl, hadr, T, hj⟩, ?_, ?_⟩
  · intro b hb
    rw [List.mem_singleton.mp hb]; exact hI0
  · intro p hp hb
    have e := List.mem_singleton.mp hb
    rcases List.mem_append.mp hp with hp | hp
    · exact hIa (hadr ▸ e ▸ List.mem_map_of_mem hp)
    · exact T.off N (fun p hp => List.mem_append_right _ hp) hit₀ hnt₀ p hp e
  · rintro i v m₁ news₁ s₁ ow ⟨h, tk, rfl⟩ hin hP ⟨own₁, tl₁, rfl, ha₁, T₁, hJ⟩ hoff hown hget hmem hst' F₁ N₁
    obtain ⟨it, hit, hnt⟩ := hstI _ _ hst'
    have hIfp : I ∈ fp := W.sub _ (List.mem_singleton.mpr rfl)
    have hIm := hmem I hIfp hI0 it hit
    have N₂ : News g env.locals h ((I, it) :: (own₁ ++ tl₁)) := fun p hp => by
      rcases List.mem_cons.mp hp with rfl | hp
      · exact N₁ _ (List.mem_append_left _ hIm)
      · exact N₁ _ (List.mem_append_right _ hp)
    refine wpAny_mono (turn i v m₁ own₁ tl₁ h tk it hin hP hJ ha₁ T₁ F₁ N₂ hnt.1) (fun f s₂ hf => ?_) fun _ _ e => e
    have fin : ∀ f', TurnEnd ents g env.locals adr I it (J (i + 1)) { s with heap := h, toks := tk } Q .next s₂ → f' = Flow.next → LoopStepU g env.locals [I] ow (fun m₁ news₁ => ∃ own₁ tl₁, news₁ = own₁ ++ tl₁ ∧ own₁.map (·.1) = adr ∧ Tl ents g tl₁ ∧ J (i + 1) m₁ own₁) { s with heap := h, toks := tk } f' s₂ := by
      rintro f' ⟨h', tk', m', own', tl', rfl, F', N', ha', T', hJ'⟩ rfl
      refine ⟨rfl, h', tk', m', own' ++ tl', rfl, F', fun p hp => ?_, fun p hp hb => ?_, own', tl', rfl, ha', T', hJ'⟩
      · rcases List.mem_append.mp hp with hp | hp
        · rcases hfp p.1 (hown p hp) with e | ⟨o, ho⟩ | ⟨o, ho⟩
          · have : p = (I, it) := by
              have h1 := hget p hp
              rw [e, hit] at h1
              exact Prod.ext e (Option.some.inj h1).symm
            exact N' p (this ▸ .head _)
          · have := (N₁ p (List.mem_append_left _ hp)).2.2
            rw [ho] at this; cases this
          · have h1 := hget p hp
            have h2 := (N₂ (p.1, o) (.tail _ (List.mem_append_left _ (ho _ _ _ hJ)))).1
            rw [h1] at h2
            have : p = (p.1, o) := Prod.ext rfl (Option.some.inj h2)
            rw [this]
            exact N' _ (.tail _ (List.mem_append_left _ (ho _ _ _ hJ')))
        · exact N' p (.tail _ hp)
      · have e := List.mem_singleton.mp hb
        rcases List.mem_append.mp hp with hp | hp
        · exact hIa (ha' ▸ e ▸ List.mem_map_of_mem hp)
        · exact T'.off N' (fun p hp => .tail _ (List.mem_append_right _ hp)) (N' _ (.head _)).1 hnt p hp e
    cases f with
    | ret v => exact .ret hf
    | brk => exact .brk hf
    | next => exact .next (fin _ hf rfl)
    | cont => exact .cont (fin _ hf rfl)
  · rintro h' tk m' news' F' N' _ ⟨own', tl', rfl, ha', T', hJ'⟩
    exact done m' own' tl' h' tk hJ' ha' T' F' N'

theorem notTl_iter {o : Obj} {n : String} {vs : Array Value} (hc : o.cls = .type n) (hd : o.data = .fields vs) (h1 : ∀ x t, vs[1]? ≠ some (.str x t)) : notTl o :=
  ⟨notTab_cls hc, fun q ⟨vs', t, hv, hq⟩ => by rw [hd] at hv; cases hv; exact h1 _ _ hq⟩

/-- over a list: of the ground's, or one that the loop's word holds fast -/
theorem loop_list {l : Addr} {vs : List Value} (J : Nat → (Str → Option Value) → List (Addr × Obj) → Prop) (hh : A.handled = none) (hl : s.heap.IsList l vs.toArray)
    (hwhere : (∃ o, g.get? l = some o) ∨ ∃ o, ∀ i m own, J i m own → (l, o) ∈ own)
    (F : Fr g env.locals s.heap m) (N : News g env.locals s.heap (own ++ tl)) (T : Tl ents g tl) (hadr : own.map (·.1) = adr) (hj : J 0 m own)
    (turn : ∀ i v m₁ own₁ tl₁ h tk I it, vs[i]? = some v → (∀ b ∈ adr, b ≠ I) → J i m₁ own₁ → own₁.map (·.1) = adr → Tl ents g tl₁ → Fr g env.locals h (fun y => if y = x then some v else m₁ y) → News g env.locals h ((I, it) :: (own₁ ++ tl₁)) → notTab it →
      wpAny (model prog w) A (execs body env) (TurnEnd ents g env.locals adr I it (J (i + 1)) { s with heap := h, toks := tk } Q) E { s with heap := h, toks := tk })
    (done : ∀ m₁ own₁ tl₁ h tk, J vs.length m₁ own₁ → own₁.map (·.1) = adr → Tl ents g tl₁ → Fr g env.locals h m₁ → News g env.locals h (own₁ ++ tl₁) → Q .next { s with heap := h, toks := tk }) :
    wpAny (model prog w) A (pyIter (.ref l)) (fun it s₂ => LoopAtV prog w A g env x body Q E it s₂) E s := by
  obtain ⟨ol, hol, hlc, nl, hld⟩ := id hl
  have hne : l ≠ s.heap.objs.size := Nat.ne_of_lt (Heap.lt_size hol)
  have hIn : g.get? s.heap.objs.size = none := next_is_new F
  have hIa : s.heap.objs.size ∉ adr := fun q => by
    rw [← hadr] at q
    obtain ⟨p, hp, e⟩ := List.mem_map.mp q
    exact absurd (Heap.lt_size (N p (List.mem_append_left _ hp)).1) (e ▸ Nat.lt_irrefl _)
  refine wpAny_pyIter_list hl ?_
  have W := Walks.list (prog := prog) (w := w) hh s.heap.objs.size l hne vs.toArray
  rw [List.size_toArray] at W
  refine loop_core J W ?_ hIn ?_ ?_ ⟨⟨_, Heap.get?_push_size _ rfl, rfl, rfl⟩, hl.at fun o e => Heap.get?_push_of_some _ e⟩ (F.push _) (fun p hp => ⟨Heap.get?_push_of_some _ (N p hp).1, (N p hp).2⟩) T hadr hIa hj ?_ done
  · intro hm
    rcases List.mem_cons.mp hm with e | hm
    · exact absurd F.ns.lt (e ▸ Nat.lt_irrefl _)
    · have e := List.mem_singleton.mp hm
      obtain ⟨oL, es, ep, hL, hLd, _⟩ := F.ns
      rw [e, hol] at hL
      cases hL
      rw [hld] at hLd; cases hLd
  · rintro i h ⟨⟨o, ho, hc, hd⟩, _⟩
    exact ⟨o, ho, notTl_iter hc hd fun x t => by simp [rawInt]⟩
  · intro b hb
    rcases List.mem_cons.mp hb with e | hb
    · exact .inl e
    · rw [List.mem_singleton.mp hb]; exact .inr hwhere
  · intro i v m₁ own₁ tl₁ h tk it hi hP hJ ha T₁ F₁ N₁ hn
    exact turn i v m₁ own₁ tl₁ h tk _ it (by simpa using hP) (fun b hb e => hIa (e ▸ hb)) hJ ha T₁ F₁ N₁ hn

/-- over a reversed list's iterator, which stands on the ledger's head -/
theorem loop_rev {l I : Addr} {vs : List Value} (J : Nat → (Str → Option Value) → List (Addr × Obj) → Prop) (hh : A.handled = none) (hl : s.heap.IsList l vs.toArray)
    (hwhere : (∃ o, g.get? l = some o) ∨ ∃ o, ∀ i m own, J i m own → (l, o) ∈ own) (hIl : I ∉ adr)
    (F : Fr g env.locals s.heap m) (N : News g env.locals s.heap ((I, revObj l ((vs.length : Int) - 1)) :: (own ++ tl))) (T : Tl ents g tl) (hadr : own.map (·.1) = adr) (hj : J 0 m own)
    (turn : ∀ i v m₁ own₁ tl₁ h tk it, i < vs.length → vs[vs.length - 1 - i]? = some v → J i m₁ own₁ → own₁.map (·.1) = adr → Tl ents g tl₁ → Fr g env.locals h (fun y => if y = x then some v else m₁ y) → News g env.locals h ((I, it) :: (own₁ ++ tl₁)) → notTab it →
      wpAny (model prog w) A (execs body env) (TurnEnd ents g env.locals adr I it (J (i + 1)) { s with heap := h, toks := tk } Q) E { s with heap := h, toks := tk })
    (done : ∀ m₁ own₁ tl₁ h tk, J vs.length m₁ own₁ → own₁.map (·.1) = adr → Tl ents g tl₁ → Fr g env.locals h m₁ → News g env.locals h (own₁ ++ tl₁) → Q .next { s with heap := h, toks := tk }) :
    wpAny (model prog w) A (pyIter (.ref I)) (fun it s₂ => LoopAtV prog w A g env x body Q E it s₂) E s := by
  obtain ⟨ol, hol, hlc, nl, hld⟩ := id hl
  have hI := N _ (.head _)
  have hit : s.heap.IsRevIter I l ((vs.length : Int) - 1) := ⟨_, hI.1, rfl, rfl⟩
  have hne : l ≠ I := fun q => by
    have := hI.1
    rw [← q, hol] at this
    cases this
    cases hld
  refine wpAny_pyIter_revIter hit ?_
  have W := Walks.listRev (prog := prog) (w := w) hh I l hne vs.toArray
  rw [List.size_toArray] at W
  refine loop_core J W ?_ hI.2.2 ?_ ?_ ⟨Nat.zero_le _, by simpa using hit, hl⟩ F (fun p hp => N p (.tail _ hp)) T hadr hIl hj ?_ done
  · intro hm
    rcases List.mem_cons.mp hm with e | hm
    · exact hI.2.1 e.symm
    · have e := List.mem_singleton.mp hm
      obtain ⟨oL, es, ep, hL, hLd, _⟩ := F.ns
      rw [e, hol] at hL
      cases hL
      rw [hld] at hLd; cases hLd
  · rintro i h ⟨_, ⟨o, ho, hc, hd⟩, _⟩
    exact ⟨o, ho, notTl_iter hc hd fun x t => by simp [rawInt]⟩
  · intro b hb
    rcases List.mem_cons.mp hb with e | hb
    · exact .inl e
    · rw [List.mem_singleton.mp hb]; exact .inr hwhere
  · intro i v m₁ own₁ tl₁ h tk it hi hP hJ ha T₁ F₁ N₁ hn
    exact turn i v m₁ own₁ tl₁ h tk it hi (by simpa using hP) hJ ha T₁ F₁ N₁ hn

/-- over a range by ones -/
theorem loop_range {r : Addr} {a b : Int} {t u v : Tok} {n : Nat} (J : Nat → (Str → Option Value) → List (Addr × Obj) → Prop) (hh : A.handled = none) (hr : IsRange s.heap r a b 1 t u v) (hsm : Builtin.Range.small a b 1 = true) (hn : Builtin.Range.rangeSize a b 1 = (n : Int))
    (F : Fr g env.locals s.heap m) (N : News g env.locals s.heap (own ++ tl)) (T : Tl ents g tl) (hadr : own.map (·.1) = adr) (hj : J 0 m own)
    (turn : ∀ i tk' m₁ own₁ tl₁ h tk I it, i < n → (∀ b ∈ adr, b ≠ I) → J i m₁ own₁ → own₁.map (·.1) = adr → Tl ents g tl₁ → Fr g env.locals h (fun y => if y = x then some (.int (a + (i : Int)) tk') else m₁ y) → News g env.locals h ((I, it) :: (own₁ ++ tl₁)) → notTab it →
      wpAny (model prog w) A (execs body env) (TurnEnd ents g env.locals adr I it (J (i + 1)) { s with heap := h, toks := tk } Q) E { s with heap := h, toks := tk })
    (done : ∀ m₁ own₁ tl₁ h tk, J n m₁ own₁ → own₁.map (·.1) = adr → Tl ents g tl₁ → Fr g env.locals h m₁ → News g env.locals h (own₁ ++ tl₁) → Q .next { s with heap := h, toks := tk }) :
    wpAny (model prog w) A (pyIter (.ref r)) (fun it s₂ => LoopAtV prog w A g env x body Q E it s₂) E s := by
  have hIn : g.get? s.heap.objs.size = none := next_is_new F
  have hIa : s.heap.objs.size ∉ adr := fun q => by
    rw [← hadr] at q
    obtain ⟨p, hp, e⟩ := List.mem_map.mp q
    exact absurd (Heap.lt_size (N p (List.mem_append_left _ hp)).1) (e ▸ Nat.lt_irrefl _)
  refine wpAny_pyIter_range hr hsm ?_
  have W := Walks.range (prog := prog) (w := w) hh s.heap.objs.size a 1 n
  refine loop_core J W ?_ hIn ?_ ?_ ?_ (F.push _) (fun p hp => ⟨Heap.get?_push_of_some _ (N p hp).1, (N p hp).2⟩) T hadr hIa hj ?_ done
  · intro hm
    exact absurd F.ns.lt (List.mem_singleton.mp hm ▸ Nat.lt_irrefl _)
  · intro i h hi
    exact ⟨_, hi, notTl_iter rfl rfl fun x t => by simp [rawInt]⟩
  · intro b hb
    exact .inl (List.mem_singleton.mp hb)
  · show IsRangeIter _ _ _ _ _
    rw [hn]
    simpa using Heap.get?_push_size _ rfl
  · rintro i w' m₁ own₁ tl₁ h tk it hi ⟨tk', rfl⟩ hJ ha T₁ F₁ N₁ hnt
    rw [Int.mul_one] at F₁
    exact turn i tk' m₁ own₁ tl₁ h tk _ it hi (fun b hb e => hIa (e ▸ hb)) hJ ha T₁ F₁ N₁ hnt
end
end Mine

namespace Mine
section
variable {prog : Program} {w : World} {A : Around} {s : Shared} {env : Env} {g : Heap} {ents : List Ent} {adr : List Addr} {own tl : List (Addr × Obj)} {x : Str} {px : Pos} {body : List Stmt} {Q : Flow → Shared → Prop} {E : Value → Shared → Prop} {m : Str → Option Value}
  {I c : Addr} {n : Nat} {P : Nat → Value → Prop} {St : Nat → Heap → Prop}

/-- a for whose target is a captured name -/
def LoopC (prog : Program) (w : World) (A : Around) (env : Env) (x : Str) (px : Pos) (body : List Stmt) (Q : Flow → Shared → Prop) (E : Value → Shared → Prop) (it : Value) (s : Shared) : Prop :=
  codeAny (model prog w) A (.forLoop (.Name x px) it body [] env) (fun r s' => match r with | .ok f => Q f s' | .error e => cameBackBy (model prog w) A env E e s') s

theorem For_cell {pos : Pos} {iter : Expr} (h : wpAny (model prog w) A (eval iter env) (fun xv s₁ => wpAny (model prog w) A (pyIter xv) (fun it s₂ => LoopC prog w A env x px body Q E it s₂) E s₁) E s)
    (hs : ∀ x, foldedSetIterable iter env x = pure x := by intro _; rfl) :
    wpAny (model prog w) A (exec (.For (.Name x px) iter body [] pos) env) Q E s :=
  wpAny_For h hs

/-- the end of such a loop's turn -/
def TurnEndC (ents : List Ent) (g : Heap) (L : Addr) (adr : List Addr) (I : Addr) (it : Obj) (c : Addr) (J : (Str → Option Value) → List (Addr × Obj) → Prop) (s₁ : Shared) (Q : Flow → Shared → Prop) (f : Flow) (s₂ : Shared) : Prop :=
  match f with
  | .ret v => Q (.ret v) s₂
  | .brk => Q .next s₂
  | _ => ∃ h' tk m' oc own' tl', s₂ = { s₁ with heap := h', toks := tk } ∧ Fr g L h' m' ∧ News g L h' ((I, it) :: (c, oc) :: (own' ++ tl')) ∧ (∃ v, oc.data = .cell v) ∧ own'.map (·.1) = adr ∧ Tl ents g tl' ∧ J m' own'

theorem loopc_core {oc₀ : Obj} (J : Nat → (Str → Option Value) → List (Addr × Obj) → Prop) (W : Walks prog w A I [I] [I] n P St) (hx : env.kindOf x = some .cell) (hk : env.scope.kind = .function) (hc : env.cells.lookup x = some c)
    (hI0 : g.get? I = none) (hIL : I ≠ env.locals) (hstI : ∀ i h, St i h → ∃ o, h.get? I = some o ∧ notTl o)
    (hst : St 0 s.heap) (F : Fr g env.locals s.heap m) (N : News g env.locals s.heap ((c, oc₀) :: (own ++ tl))) (hoc : ∃ v, oc₀.data = .cell v) (T : Tl ents g tl) (hadr : own.map (·.1) = adr) (hIa : I ∉ adr) (hca : c ∉ adr) (hcI : c ≠ I) (hj : J 0 m own)
    (turn : ∀ i v m₁ oc own₁ tl₁ h tk it, i < n → P i v → J i m₁ own₁ → own₁.map (·.1) = adr → Tl ents g tl₁ → oc.data = .cell (some v) → Fr g env.locals h m₁ → News g env.locals h ((I, it) :: (c, oc) :: (own₁ ++ tl₁)) → notTab it →
      wpAny (model prog w) A (execs body env) (TurnEndC ents g env.locals adr I it c (J (i + 1)) { s with heap := h, toks := tk } Q) E { s with heap := h, toks := tk })
    (done : ∀ m₁ oc own₁ tl₁ h tk, J n m₁ own₁ → own₁.map (·.1) = adr → Tl ents g tl₁ → (∃ v, oc.data = .cell v) → Fr g env.locals h m₁ → News g env.locals h ((c, oc) :: (own₁ ++ tl₁)) → Q .next { s with heap := h, toks := tk })
    (hE : PassesOwn (model prog w) A env E := by passes_own) :
    LoopC prog w A env x px body Q E (.ref I) s := by
  have old : ∀ b o, g.get? b = some o → b ∉ [I] := fun b o e hb => by rw [List.mem_singleton.mp hb, hI0] at e; cases e
  refine codeAny_forLoop
    (fun k s' => ∃ h' tk m' oc own' tl' i, s' = { s with heap := h', toks := tk } ∧ St i h' ∧ Fr g env.locals h' m' ∧ News g env.locals h' ((c, oc) :: (own' ++ tl')) ∧ (∃ v, oc.data = .cell v) ∧ own'.map (·.1) = adr ∧ Tl ents g tl' ∧ J i m' own' ∧ i ≤ n ∧ k = n + 1 - i) ?_ (n + 1)
    ⟨s.heap, s.toks, m, oc₀, own, tl, 0, rfl, hst, F, N, hoc, hadr, T, hj, Nat.zero_le _, rfl⟩
  rintro k s' ⟨h', tk, m', oc, own', tl', i, rfl, hst', F', N', ⟨v₀, hoc'⟩, hadr', T', hJ, hi, rfl⟩
  obtain ⟨it₀, hit₀, hnt₀⟩ := hstI _ _ hst'
  have hoff : ∀ p ∈ (c, oc) :: (own' ++ tl'), p.1 ∉ [I] := fun p hp hb => by
    have e := List.mem_singleton.mp hb
    rcases List.mem_cons.mp hp with rfl | hp
    · exact hcI e
    · rcases List.mem_append.mp hp with hp | hp
      · exact hIa (hadr' ▸ e ▸ List.mem_map_of_mem hp)
      · exact T'.off N' (fun p hp => .tail _ (List.mem_append_right _ hp)) hit₀ hnt₀ p hp e
  have next : ∀ h₁ : Heap, (∀ b o, b ∉ [I] → h'.get? b = some o → h₁.get? b = some o) → Fr g env.locals h₁ m' ∧ News g env.locals h₁ ((c, oc) :: (own' ++ tl')) := fun h₁ hk₁ =>
    ⟨⟨F'.ns.at' fun o e => hk₁ _ o (fun h => hIL (List.mem_singleton.mp h).symm) e, fun b o e => hk₁ b o (old b o e) (F'.keep b o e), F'.above⟩, fun p hp => ⟨hk₁ _ _ (hoff p hp) (N' p hp).1, (N' p hp).2⟩⟩
  by_cases hlt : i < n
  · refine W.item i _ _ _ hlt hst' fun v h₁ tk₁ hP hst₁ hk₁ => ?_
    obtain ⟨F₁, N₁⟩ := next h₁ hk₁
    obtain ⟨it, hit, hnt⟩ := hstI _ _ hst₁
    have hcm := N₁ _ (.head _)
    refine wpAny_assign_Name (wpAny_storeName_cell hk hx hc ⟨oc, hcm.1, hoc'⟩ fun h₂ hv hs => ?_)
    obtain ⟨o', ho', hd'⟩ := hv
    have F₂ : Fr g env.locals h₂ m' := ⟨F₁.ns.sameBut hs hcm.2.1.symm, fun b o e => (hs.2 b fun q => by rw [q, hcm.2.2] at e; cases e).trans (F₁.keep b o e), F₁.above⟩
    have hIt₂ : h₂.get? I = some it := (hs.2 I fun q => hcI q.symm).trans hit
    have tne := T'.ne N₁ (fun p hp => .tail _ (List.mem_append_right _ hp)) (.head _) (notF_cell hoc')
    have N₂ : News g env.locals h₂ ((I, it) :: (c, o') :: (own' ++ tl')) := fun p hp => by
      rcases List.mem_cons.mp hp with rfl | hp
      · exact ⟨hIt₂, hIL, hI0⟩
      · rcases List.mem_cons.mp hp with rfl | hp
        · exact ⟨ho', hcm.2⟩
        · have n := N₁ p (.tail _ hp)
          refine ⟨(hs.2 p.1 fun q => ?_).trans n.1, n.2⟩
          rcases List.mem_append.mp hp with hp | hp
          · exact hca (hadr' ▸ q ▸ List.mem_map_of_mem hp)
          · exact tne p hp q
    refine wpAny_mono (wpAny_passesOwn hE (turn i v m' o' own' tl' h₂ _ it hlt hP hJ hadr' T' hd' F₂ N₂ hnt.1)) (fun f s₃ h₃ => ?_) fun _ _ e => e
    have fin : ∀ (q : TurnEndC ents g env.locals adr I it c (J (i + 1)) { s with heap := h₂, toks := tk₁ } Q .next s₃), ∃ m, m < n + 1 - i ∧ ∃ h' tk m' oc own' tl' i, s₃ = { s with heap := h', toks := tk } ∧ St i h' ∧ Fr g env.locals h' m' ∧ News g env.locals h' ((c, oc) :: (own' ++ tl')) ∧ (∃ v, oc.data = .cell v) ∧ own'.map (·.1) = adr ∧ Tl ents g tl' ∧ J i m' own' ∧ i ≤ n ∧ m = n + 1 - i := by
      rintro ⟨h₃', tk₃, m₃, oc₃, own₃, tl₃, rfl, F₃, N₃, hoc₃, ha₃, T₃, hJ₃⟩
      refine ⟨n + 1 - (i + 1), by omega, h₃', tk₃, m₃, oc₃, own₃, tl₃, i + 1, rfl, ?_, F₃, fun p hp => N₃ p (.tail _ hp), hoc₃, ha₃, T₃, hJ₃, hlt, rfl⟩
      refine W.frame _ _ _ hst₁ fun b hb o e => ?_
      rw [List.mem_singleton.mp hb] at e ⊢
      rw [hit] at e
      cases e
      exact (N₃ _ (.head _)).1
    cases f with
    | ret v => exact h₃
    | brk => exact h₃
    | cont => exact fin h₃
    | next => exact fin h₃
  · have hin : i = n := by omega
    subst hin
    refine W.done _ _ _ hst' fun h₁ tk₁ hk₁ => wpAny_execs_nil ?_
    obtain ⟨F₁, N₁⟩ := next h₁ hk₁
    exact done m' oc own' tl' h₁ tk₁ hJ hadr' T' ⟨v₀, hoc'⟩ F₁ N₁

/-- over a range by ones -/
theorem loopc_range {oc₀ : Obj} {r : Addr} {a b : Int} {t u v : Tok} (J : Nat → (Str → Option Value) → List (Addr × Obj) → Prop) (hh : A.handled = none) (hr : IsRange s.heap r a b 1 t u v) (hsm : Builtin.Range.small a b 1 = true) (hn : Builtin.Range.rangeSize a b 1 = (n : Int))
    (hx : env.kindOf x = some .cell) (hk : env.scope.kind = .function) (hc : env.cells.lookup x = some c)
    (F : Fr g env.locals s.heap m) (N : News g env.locals s.heap ((c, oc₀) :: (own ++ tl))) (hoc : ∃ v, oc₀.data = .cell v) (T : Tl ents g tl) (hadr : own.map (·.1) = adr) (hca : c ∉ adr) (hj : J 0 m own)
    (turn : ∀ i tk' m₁ oc own₁ tl₁ h tk I it, i < n → (∀ b ∈ adr, b ≠ I) → c ≠ I → J i m₁ own₁ → own₁.map (·.1) = adr → Tl ents g tl₁ → oc.data = .cell (some (.int (a + (i : Int)) tk')) → Fr g env.locals h m₁ → News g env.locals h ((I, it) :: (c, oc) :: (own₁ ++ tl₁)) → notTab it →
      wpAny (model prog w) A (execs body env) (TurnEndC ents g env.locals adr I it c (J (i + 1)) { s with heap := h, toks := tk } Q) E { s with heap := h, toks := tk })
    (done : ∀ m₁ oc own₁ tl₁ h tk, J n m₁ own₁ → own₁.map (·.1) = adr → Tl ents g tl₁ → (∃ v, oc.data = .cell v) → Fr g env.locals h m₁ → News g env.locals h ((c, oc) :: (own₁ ++ tl₁)) → Q .next { s with heap := h, toks := tk })
    (hE : PassesOwn (model prog w) A env E := by passes_own) :
    wpAny (model prog w) A (pyIter (.ref r)) (fun it s₂ => LoopC prog w A env x px body Q E it s₂) E s := by
  have hIn : g.get? s.heap.objs.size = none := next_is_new F
  have hIa : s.heap.objs.size ∉ adr := fun q => by
    rw [← hadr] at q
    obtain ⟨p, hp, e⟩ := List.mem_map.mp q
    exact absurd (Heap.lt_size (N p (.tail _ (List.mem_append_left _ hp))).1) (e ▸ Nat.lt_irrefl _)
  have hcI : c ≠ s.heap.objs.size := Nat.ne_of_lt (Heap.lt_size (N _ (.head _)).1)
  refine wpAny_pyIter_range hr hsm ?_
  have W := Walks.range (prog := prog) (w := w) hh s.heap.objs.size a 1 n
  refine loopc_core J W hx hk hc hIn (Nat.ne_of_gt F.ns.lt) ?_ ?_ (F.push _) (fun p hp => ⟨Heap.get?_push_of_some _ (N p hp).1, (N p hp).2⟩) hoc T hadr hIa hca hcI hj ?_ done hE
  · intro i h hi
    exact ⟨_, hi, notTl_iter rfl rfl fun x t => by simp [rawInt]⟩
  · show IsRangeIter _ _ _ _ _
    rw [hn]
    simpa using Heap.get?_push_size _ rfl
  · rintro i w' m₁ oc own₁ tl₁ h tk it hi ⟨tk', rfl⟩ hJ ha T₁ hd F₁ N₁ hnt
    rw [Int.mul_one] at hd
    exact turn i tk' m₁ oc own₁ tl₁ h tk _ it hi (fun b hb e => hIa (e ▸ hb)) hcI hJ ha T₁ hd F₁ N₁ hnt
end
end Mine

namespace Mine
section
open PyProof.Rows.LCg
section
variable {prog : Program} {w : World} {A : Around} {s : Shared} {env : Env} {g : Heap} {ents : List Ent} {adr : List Addr} {own tl : List (Addr × Obj)} {x : Str} {px : Pos} {E : Value → Shared → Prop} {m : Str → Option Value}
  {I : Addr} {fp : List Addr} {n : Nat} {P : Nat → Value → Prop} {St : Nat → Heap → Prop} {elt iter : Expr} {ifs : List Expr} {scope : Scope} {cl : List (Str × Addr)} {pos : Pos} {Q : Value → Shared → Prop}

/-- the end of a comprehension's turn -/
def CEnd (ents : List Ent) (g : Heap) (L : Addr) (m : Str → Option Value) (adr : List Addr) (pre : List (Addr × Obj)) (J : List (Addr × Obj) → Prop) (s₁ : Shared) (s₂ : Shared) : Prop :=
  ∃ h' tk own' tl', s₂ = { s₁ with heap := h', toks := tk } ∧ Fr g L h' m ∧ News g L h' (pre ++ (own' ++ tl')) ∧ own'.map (·.1) = adr ∧ Tl ents g tl' ∧ J own'

def CTurn (prog : Program) (w : World) (A : Around) (env : Env) (ents : List Ent) (g : Heap) (m : Str → Option Value) (adr : List Addr) (x : Str) (elt : Expr) (ifs : List Expr) (scope : Scope) (cl : List (Str × Addr)) (J : List Value → List (Addr × Obj) → Prop) (J' : List Value → List (Addr × Obj) → Prop) (s : Shared) (v : Value) : Prop :=
  ∀ ys own₁ tl₁ h tk I it C oC D m₂ (E' : Value → Shared → Prop), J ys own₁ → own₁.map (·.1) = adr → Tl ents g tl₁ → (∀ b ∈ adr, @Ne Nat b I ∧ @Ne Nat b C ∧ @Ne Nat b D) → (@Ne Nat I C ∧ @Ne Nat I D ∧ @Ne Nat C D) → NsObj oC m₂ → m₂ x = some v → Fr g env.locals h m →
    News g env.locals h ((I, it) :: (C, oC) :: (D, lst ys) :: (own₁ ++ tl₁)) → notTab it → notTab oC →
    wpAny (model prog w) A (forIn ifs true fun c r => if r = true then do let ok ← isTrue c (compEnvC scope cl C env) (eval c (compEnvC scope cl C env)); pure (ForInStep.yield ok) else pure (ForInStep.yield r)) (fun ok s' =>
      if ok = true then wpAny (model prog w) A (eval elt (compEnvC scope cl C env)) (fun y s'' => CEnd ents g env.locals m adr [(I, it), (C, oC), (D, lst ys)] (J' (ys ++ [y])) { s with heap := h, toks := tk } s'') E' s'
      else CEnd ents g env.locals m adr [(I, it), (C, oC), (D, lst ys)] (J' ys) { s with heap := h, toks := tk } s') E' { s with heap := h, toks := tk }

/-- what the end of a comprehension must give -/
def RROk (ents : List Ent) (g : Heap) (L : Addr) (m : Str → Option Value) (adr : List Addr) (J : List Value → List (Addr × Obj) → Prop) (s : Shared) (RR : Value → Addr → Result → Shared → Prop) : Prop :=
  ∀ D C h tk m' ys own' tl', J ys own' → own'.map (·.1) = adr → Tl ents g tl' → (∀ b ∈ adr, @Ne Nat b D) → Fr g L h m → News g L h ((D, lst ys) :: (own' ++ tl')) → h.Ns C m' → g.get? C = none → C ≠ L → (∀ p ∈ (D, lst ys) :: (own' ++ tl'), p.1 ≠ C) →
    RR (.ref D) C (.ok .next) { s with heap := h, toks := tk }
theorem comp_core {RR : Value → Addr → Result → Shared → Prop} (J : Nat → List Value → List (Addr × Obj) → Prop) (W : Walks prog w A I fp [I] n P St) (hsz : n ≤ sizeLine) (hI0 : g.get? I = none) (hIL : I ≠ env.locals)
    (hstI : ∀ i h, St i h → ∃ o, h.get? I = some o ∧ notTl o)
    (hfp : ∀ b ∈ fp, b = I ∨ (∃ o, g.get? b = some o) ∨ ∃ o, ∀ i ys own, J i ys own → (b, o) ∈ own)
    (hcell : ∀ y ∈ scope.names, y.2 ≠ .cell) (hkind : scope.kind = .function) (hx : scope.names.lookup x = some .local)
    (hst : St 0 s.heap) (F : Fr g env.locals s.heap m) (N : News g env.locals s.heap (own ++ tl)) (T : Tl ents g tl) (hadr : own.map (·.1) = adr) (hIa : I ∉ adr) (hj : J 0 [] own)
    (turn : ∀ i v, i < n → P i v → CTurn prog w A env ents g m adr x elt ifs scope cl (J i) (J (i + 1)) s v)
    (done : RROk ents g env.locals m adr (J n) s RR) :
    wpAny (model prog w) A (newList []) (fun acc s₃ => wpAny (model prog w) A (newFunctionEnv scope env.globals cl [] env.qual none .none (some env)) (fun cenv s₄ =>
      codeAny (model prog w) A (.compStart (.ListComp elt [⟨.Name x px, iter, ifs, 0⟩] scope pos) 0 (.ref I) acc { cenv with scope := relabel scope env }) (RR acc cenv.locals) s₄) E s₃) E s := by
  obtain ⟨it₀, hit₀, hnt₀⟩ := hstI _ _ hst
  refine wpAny_newObj_type (wpAny_newFunctionEnv hcell (by intro y hy; simp at hy) (fun h₁ hns₁ hsb₁ => ?_) hkind)
  dsimp only at hns₁ hsb₁ ⊢
  generalize hH2 : s.heap.push { cls := .type "list", dict := none, data := .seq ([] : List Value).toArray } = H2 at hns₁ hsb₁ ⊢
  have hC : H2.objs.size = s.heap.objs.size + 1 := by rw [← hH2, Heap.size_push]
  generalize hD : s.heap.objs.size = D at *
  generalize hCC : H2.objs.size = C at *
  have old : ∀ b o, s.heap.get? b = some o → h₁.get? b = some o := fun b o e => hsb₁.extBut b o (by have := Heap.lt_size e; rw [hD] at this; rw [hC]; intro q; rw [q] at this; exact Nat.lt_irrefl _ (Nat.lt_of_succ_lt this)) (Heap.get?_push_of_some _ (hH2 ▸ Heap.get?_push_of_some _ e))
  have hDC : D ≠ C := by rw [hC]; exact Nat.ne_of_lt (Nat.lt_succ_self _)
  have hacc : h₁.get? D = some (lst []) := hsb₁.extBut _ _ hDC (Heap.get?_push_of_some _ (hH2 ▸ hD ▸ Heap.get?_push_size _ rfl))
  have below : ∀ b o, s.heap.get? b = some o → b ≠ D ∧ b ≠ C := fun b o e => by
    have := Heap.lt_size e
    rw [hD] at this
    exact ⟨Nat.ne_of_lt this, by rw [hC]; exact Nat.ne_of_lt (Nat.lt_succ_of_lt this)⟩
  have none0 : ∀ a, D ≤ a → g.get? a = none := fun a ha => by
    cases e : g.get? a with
    | none => rfl
    | some o' => have := Heap.lt_size (F.keep a o' e); rw [hD] at this; exact absurd this (Nat.not_lt.mpr ha)
  have hD0 := none0 D (Nat.le_refl _)
  have hC0 := none0 C (by rw [hC]; exact Nat.le_succ _)
  obtain ⟨oL, _, _, hL, _⟩ := id F.ns
  have hLb := below _ _ hL
  have hIb := below _ _ hit₀
  have hab : ∀ b ∈ adr, @Ne Nat b I ∧ @Ne Nat b C ∧ @Ne Nat b D := fun b hb => by
    rw [← hadr] at hb
    obtain ⟨p, hp, e⟩ := List.mem_map.mp hb
    have := below _ _ (N p (List.mem_append_left _ hp)).1
    subst e
    exact ⟨fun q => hIa (hadr ▸ q ▸ List.mem_map_of_mem hp), this.2, this.1⟩
  have hfpb : ∀ b ∈ fp, b ≠ D ∧ b ≠ C := fun b hb => by
    rcases hfp b hb with rfl | ⟨o, ho⟩ | ⟨o, ho⟩
    · exact hIb
    · exact below b o (F.keep b o ho)
    · exact below b o (N (b, o) (List.mem_append_left _ (ho _ _ _ hj))).1
  have hst₁ : St 0 h₁ := W.frame _ _ _ hst fun b _ o e => old b o e
  have N₁ : News g env.locals h₁ ((D, lst []) :: (own ++ tl)) := fun p hp => by
    rcases List.mem_cons.mp hp with rfl | hp
    · exact ⟨hacc, hLb.1.symm, hD0⟩
    · exact ⟨old _ _ (N p hp).1, (N p hp).2⟩
  have loop : ∀ s₃ : Shared, s₃ = { s with heap := h₁, toks := s.toks + ([] : List (Str × Value)).length } →
      codeAny (model prog w) A (.compLoop (.ListComp elt [⟨.Name x px, iter, ifs, 0⟩] scope pos) 0 (.ref I) (.ref D) (compEnvC scope cl C env)) (RR (.ref D) C) s₃ := by
    rintro s₃ rfl
    refine codeAny_compLoop_tests
      (fun k s' => ∃ h' tk i ys m' own' tl', s' = { s with heap := h', toks := tk } ∧ i ≤ n ∧ k = n + 1 - i ∧ ys.length ≤ i ∧ St i h' ∧ Fr g env.locals h' m ∧ h'.Ns C m' ∧ News g env.locals h' ((D, lst ys) :: (own' ++ tl')) ∧
        own'.map (·.1) = adr ∧ Tl ents g tl' ∧ J i ys own') ?_ (n + 1)
      ⟨h₁, _, 0, [], _, own, tl, rfl, Nat.zero_le _, rfl, Nat.le_refl _, hst₁, F.keeps old, hns₁, N₁, hadr, T, hj⟩
    rintro k s' ⟨h', tk, i, ys, m', own', tl', rfl, hi, rfl, hyl, hst', F', hn', N', ha', T', hJ⟩
    obtain ⟨it₁, hit₁, hnt₁⟩ := hstI _ _ hst'
    have offI : ∀ p ∈ (D, lst ys) :: (own' ++ tl'), p.1 ≠ I := fun p hp => by
      rcases List.mem_cons.mp hp with rfl | hp
      · exact hIb.1.symm
      · rcases List.mem_append.mp hp with hp | hp
        · exact (hab _ (ha' ▸ List.mem_map_of_mem hp)).1
        · exact T'.off N' (fun p hp => .tail _ (List.mem_append_right _ hp)) hit₁ hnt₁ p hp
    by_cases hlt : i < n
    · refine W.item i _ _ _ hlt hst' fun v h₂ tk₂ hPv hst₂ hk₂ => ?_
      refine wpAny_assign_Name (wpAny_storeName_local (lookup_relabel_local hx) (hn'.at' fun o e => hk₂ _ o (by simpa using hIb.2.symm) e) (fun h₃ hn₃ hs₃ => ?_) (by simp [compEnvC, relabel, hkind]))
      have hst₃ : St (i + 1) h₃ := W.frame _ _ _ hst₂ fun b hb o e => hs₃.extBut b o (hfpb b hb).2 e
      obtain ⟨it, hit, hnt⟩ := hstI _ _ hst₃
      obtain ⟨oC, heC, hoC⟩ := ns_obj hn₃
      have F₃ : Fr g env.locals h₃ m := (fr_but F' hk₂ hIL.symm hI0).change hs₃ hLb.2.symm hC0
      have N₂ := news_but N' hk₂ offI
      have ntC : notTl oC := by
        obtain ⟨es, ep, hd, _⟩ := hoC
        exact ⟨notTab_dict hd, fun q ⟨vs', t, hv, hq⟩ => by rw [hd] at hv; cases hv⟩
      have offC : ∀ p ∈ (D, lst ys) :: (own' ++ tl'), p.1 ≠ C := fun p hp => by
        obtain ⟨o', es, ep, ho', hd', _⟩ := hn'
        rcases List.mem_cons.mp hp with rfl | hp
        · exact hDC
        · rcases List.mem_append.mp hp with hp | hp
          · exact (hab _ (ha' ▸ List.mem_map_of_mem hp)).2.1
          · exact T'.off N' (fun p hp => .tail _ (List.mem_append_right _ hp)) ho' ⟨notTab_dict hd', fun q ⟨vs', t, hv, hq⟩ => by rw [hd'] at hv; cases hv⟩ p hp
      have N₃ : News g env.locals h₃ ((I, it) :: (C, oC) :: (D, lst ys) :: (own' ++ tl')) := fun p hp => by
        rcases List.mem_cons.mp hp with rfl | hp
        · exact ⟨hit, hIL, hI0⟩
        · rcases List.mem_cons.mp hp with rfl | hp
          · exact ⟨heC, hLb.2.symm, hC0⟩
          · exact ⟨hs₃.extBut _ _ (offC p hp) (N₂ p hp).1, (N₂ p hp).2⟩
      have back : ∀ (own₄ tl₄ : List (Addr × Obj)) (h₄ : Heap), News g env.locals h₄ ([(I, it), (C, oC), (D, lst ys)] ++ (own₄ ++ tl₄)) → own₄.map (·.1) = adr → Tl ents g tl₄ → Fr g env.locals h₄ m → (∃ ys', J (i + 1) ys' own₄) →
          St (i + 1) h₄ ∧ h₄.Ns C (fun y => if y = x then some v else m' y) ∧ News g env.locals h₄ ((D, lst ys) :: (own₄ ++ tl₄)) := fun own₄ tl₄ h₄ N₄ ha₄ T₄ F₄ ⟨ys', hJ₄⟩ => by
        refine ⟨W.frame _ _ _ hst₃ fun b hb o e => ?_, hoC.ns (N₄ _ (.tail _ (.head _))).1, fun p hp => N₄ p (.tail _ (.tail _ hp))⟩
        rcases hfp b hb with rfl | ⟨o', ho'⟩ | ⟨o', ho'⟩
        · rw [hit] at e; cases e; exact (N₄ _ (.head _)).1
        · have := F₃.keep _ _ ho'; rw [e] at this; cases this; exact F₄.keep _ _ ho'
        · have := (N₃ (b, o') (.tail _ (.tail _ (.tail _ (List.mem_append_left _ (ho' _ _ _ hJ)))))).1
          rw [e] at this; cases this
          exact (N₄ (b, o') (List.mem_append_right _ (List.mem_append_left tl₄ (ho' _ _ _ hJ₄)))).1
      refine wpAny_mono (turn i v hlt hPv ys own' tl' h₃ _ I it C oC D _ _ hJ ha' T' hab ⟨hIb.2, hIb.1, hDC.symm⟩ hoC (by simp) F₃ N₃ hnt.1 ntC.1) (fun ok s₄ h₄ => ?_) fun _ _ e => e
      cases ok with
      | true =>
        simp only [if_true] at h₄ ⊢
        refine wpAny_mono h₄ (fun y s₅ h₅ => ?_) fun _ _ e => e
        obtain ⟨h₄, tk₄, own₄, tl₄, rfl, F₄, N₄, ha₄, T₄, hJ₄⟩ := h₅
        obtain ⟨hst₄, hns₄, N₄'⟩ := back own₄ tl₄ h₄ N₄ ha₄ T₄ F₄ ⟨_, hJ₄⟩
        refine append_at (hsz := by show ys.toArray.size ≤ sizeLine; rw [List.size_toArray]; exact Nat.le_trans (Nat.le_trans hyl hi) hsz) (N₄' _ (.head _)).1 fun h₅ hs₅ hD₅ => ?_
        refine ⟨n + 1 - (i + 1), by omega, h₅, tk₄, i + 1, ys ++ [y], _, own₄, tl₄, rfl, hlt, rfl, by rw [List.length_append, List.length_singleton]; exact Nat.succ_le_succ hyl, W.frame _ _ _ hst₄ fun b hb o e => hs₅.extBut b o (hfpb b hb).1 e, F₄.change hs₅ hLb.1.symm hD0,
          hns₄.sameBut hs₅ hDC.symm, fun p hp => ?_, ha₄, T₄, hJ₄⟩
        rcases List.mem_cons.mp hp with rfl | hp
        · exact ⟨hD₅.trans (congrArg some (lst_snoc ys y)), hLb.1.symm, hD0⟩
        · refine ⟨hs₅.extBut _ _ ?_ (N₄' p (.tail _ hp)).1, (N₄' p (.tail _ hp)).2⟩
          rcases List.mem_append.mp hp with hp | hp
          · exact (hab _ (ha₄ ▸ List.mem_map_of_mem hp)).2.2
          · exact T₄.off N₄' (fun p hp => .tail _ (List.mem_append_right _ hp)) (N₄' _ (.head _)).1 ⟨notTab_seq rfl, fun q ⟨vs', t, hv, hq⟩ => by cases hv⟩ p hp
      | false =>
        simp only [Bool.false_eq_true, if_false] at h₄ ⊢
        obtain ⟨h₅, tk₄, own₄, tl₄, rfl, F₄, N₄, ha₄, T₄, hJ₄⟩ := h₄
        obtain ⟨hst₄, hns₄, N₄'⟩ := back own₄ tl₄ h₅ N₄ ha₄ T₄ F₄ ⟨_, hJ₄⟩
        exact ⟨n + 1 - (i + 1), by omega, h₅, tk₄, i + 1, ys, _, own₄, tl₄, rfl, hlt, rfl, Nat.le_succ_of_le hyl, hst₄, F₄, hns₄, N₄', ha₄, T₄, hJ₄⟩
    · obtain rfl : i = n := Nat.le_antisymm hi (Nat.not_lt.mp hlt)
      refine W.done _ _ _ hst' fun h₂ tk₂ hk₂ => ?_
      have N₂ := news_but N' hk₂ offI
      refine done D C h₂ tk₂ _ ys own' tl' hJ ha' T' (fun b hb => (hab b hb).2.2) (fr_but F' hk₂ hIL.symm hI0) N₂ (hn'.at' fun o e => hk₂ _ o (by simpa using hIb.2.symm) e) hC0 hLb.2.symm fun p hp => ?_
      obtain ⟨o', es, ep, ho', hd', _⟩ := hn'
      rcases List.mem_cons.mp hp with rfl | hp
      · exact hDC
      · rcases List.mem_append.mp hp with hp | hp
        · exact (hab _ (ha' ▸ List.mem_map_of_mem hp)).2.1
        · exact T'.off N' (fun p hp => .tail _ (List.mem_append_right _ hp)) ho' ⟨notTab_dict hd', fun q ⟨vs', t, hv, hq⟩ => by rw [hd'] at hv; cases hv⟩ p hp
  exact codeAny_compStart_list (loop _ rfl) (W.self 0 _ _ _ hst₁ (loop _ rfl))

theorem rr_none {J : List Value → List (Addr × Obj) → Prop}
    (done : ∀ D ys own₁ tl₁ h tk, J ys own₁ → own₁.map (·.1) = adr → Tl ents g tl₁ → (∀ b ∈ adr, @Ne Nat b D) → Fr g env.locals h m → News g env.locals h ((D, lst ys) :: (own₁ ++ tl₁)) → Q (.ref D) { s with heap := h, toks := tk }) :
    RROk ents g env.locals m adr J s (fun acc C => compPost (model prog w) A E none Q acc C) := by
  intro D C h tk m' ys own' tl' hJ ha T hb F N hn hC0 hCL off
  refine ⟨m', hn, fun h'' hs'' => done D ys own' tl' h'' tk hJ ha T hb (F.change hs'' hCL hC0) fun p hp => ⟨hs''.extBut _ _ (off p hp) (N p hp).1, (N p hp).2⟩⟩

theorem rr_assign {J : List Value → List (Addr × Obj) → Prop} {y : Str} {py : Pos} {Q : Shared → Prop} (hy : env.kindOf y = some .local) (hp : (env.scope.kind == .class || (env.scope.kind == .module && env.locals != env.globals)) = false)
    (done : ∀ D ys own₁ tl₁ h tk, J ys own₁ → own₁.map (·.1) = adr → Tl ents g tl₁ → (∀ b ∈ adr, @Ne Nat b D) → Fr g env.locals h (fun z => if z = y then some (.ref D) else m z) → News g env.locals h ((D, lst ys) :: (own₁ ++ tl₁)) → Q { s with heap := h, toks := tk }) :
    RROk ents g env.locals m adr J s (fun acc C => compPost (model prog w) A E (some (assign (.Name y py) env)) (fun _ s' => Q s') acc C) := by
  intro D C h tk m' ys own' tl' hJ ha T hb F N hn hC0 hCL off
  show wpAny _ A (assign (.Name y py) env (.ref D)) _ _ _
  refine wpAny_assign_Name (wpAny_storeName_local hy F.ns (fun h₂ hn₂ hs₂ => ?_) hp)
  have hL0 : g.get? env.locals = none := Heap.get?_none_of_le F.above
  have F₂ : Fr g env.locals h₂ (fun z => if z = y then some (.ref D) else m z) := ⟨hn₂, fun b o e => hs₂.extBut b o (fun q => by rw [q, hL0] at e; cases e) (F.keep b o e), F.above⟩
  refine ⟨m', hn.sameBut hs₂ hCL, fun h'' hs'' => done D ys own' tl' h'' _ hJ ha T hb (F₂.change hs'' hCL hC0) fun p hp => ?_⟩
  exact ⟨hs''.extBut _ _ (off p hp) (hs₂.extBut _ _ (N p hp).2.1 (N p hp).1), (N p hp).2⟩

/-- what the value of the comprehension's source must allow -/
def CSrc (prog : Program) (w : World) (A : Around) (env : Env) (x : Str) (px : Pos) (elt iter : Expr) (ifs : List Expr) (scope : Scope) (cl : List (Str × Addr)) (pos : Pos) (RR : Value → Addr → Result → Shared → Prop) (E : Value → Shared → Prop) (it : Value) (s : Shared) : Prop :=
  wpAny (model prog w) A (newList []) (fun acc s₃ => wpAny (model prog w) A (newFunctionEnv scope env.globals cl [] env.qual none .none (some env)) (fun cenv s₄ =>
      codeAny (model prog w) A (.compStart (.ListComp elt [⟨.Name x px, iter, ifs, 0⟩] scope pos) 0 it acc { cenv with scope := relabel scope env }) (RR acc cenv.locals) s₄) E s₃) E s

theorem ListComp_own (hclos : closureFor scope env = pure cl) (hkind : scope.kind = .function)
    (hnames : ∀ y ∈ scope.names, y.2 = .local → scope.names.lookup y.1 = some .local)
    (h : wpAny (model prog w) A (eval iter env) (fun xv s₁ => Hold (wpAny (model prog w) A (pyIter xv) (CSrc prog w A env x px elt iter ifs scope cl pos (fun acc C => compPost (model prog w) A E none Q acc C) E) E s₁)) E s)
    (hs : ∀ x, foldedSetIterable iter env x = pure x := by intro _; rfl) :
    wpAny (model prog w) A (eval (.ListComp elt [⟨.Name x px, iter, ifs, 0⟩] scope pos) env) Q E s := by
  rw [eval_ListComp]
  exact wpAny_comprehension_free (use := none) rfl hs hclos hkind hnames h

theorem Assign_ListComp_own {y : Str} {py : Pos} {spos : Pos} {Q : Flow → Shared → Prop} (hsw : swapsWith (.ListComp elt [⟨.Name x px, iter, ifs, 0⟩] scope pos) (some (.Name y py)) spos.line env = pure true)
    (hclos : closureFor scope env = pure cl) (hkind : scope.kind = .function) (hnames : ∀ y ∈ scope.names, y.2 = .local → scope.names.lookup y.1 = some .local)
    (h : wpAny (model prog w) A (eval iter env) (fun xv s₁ => Hold (wpAny (model prog w) A (pyIter xv) (CSrc prog w A env x px elt iter ifs scope cl pos (fun acc C => compPost (model prog w) A E (some (assign (.Name y py) env)) (fun _ s' => Q .next s') acc C) E) E s₁)) E s)
    (hs : ∀ x, foldedSetIterable iter env x = pure x := by intro _; rfl) :
    wpAny (model prog w) A (exec (.Assign [.Name y py] (.ListComp elt [⟨.Name x px, iter, ifs, 0⟩] scope pos) spos) env) Q E s := by
  rw [exec_Assign_Name_used _ _ _ _ hsw]
  refine wpAny_bind (wpAny_standAt (wpAny_bind ?_))
  show wpAny _ A (do let _ ← comprehension (.ListComp elt [⟨.Name x px, iter, ifs, 0⟩] scope pos) scope env _ (newList []) false (eval iter env) (some (assign (.Name y py) env))) _ _ s
  exact wpAny_bind (wpAny_mono (wpAny_comprehension_free (use := some (assign (.Name y py) env)) (Q := fun _ s' => Q .next s') rfl hs hclos hkind hnames h) (fun _ s' hq => wpAny_pure (wpAny_pure hq)) fun _ _ e => e)

theorem comp_list {RR : Value → Addr → Result → Shared → Prop} {l : Addr} {vs : List Value} (J : Nat → List Value → List (Addr × Obj) → Prop) (hh : A.handled = none) (hl : s.heap.IsList l vs.toArray) (hsz : vs.length ≤ sizeLine)
    (hwhere : (∃ o, g.get? l = some o) ∨ ∃ o, ∀ i ys own, J i ys own → (l, o) ∈ own)
    (hcell : ∀ y ∈ scope.names, y.2 ≠ .cell) (hkind : scope.kind = .function) (hx : scope.names.lookup x = some .local)
    (F : Fr g env.locals s.heap m) (N : News g env.locals s.heap (own ++ tl)) (T : Tl ents g tl) (hadr : own.map (·.1) = adr) (hj : J 0 [] own)
    (turn : ∀ i v, vs[i]? = some v → CTurn prog w A env ents g m adr x elt ifs scope cl (J i) (J (i + 1)) s v)
    (done : ∀ h, RROk ents g env.locals m adr (J vs.length) { s with heap := h } RR) :
    wpAny (model prog w) A (pyIter (.ref l)) (CSrc prog w A env x px elt iter ifs scope cl pos RR E) E s := by
  obtain ⟨ol, hol, hlc, nl, hld⟩ := id hl
  have hne : l ≠ s.heap.objs.size := Nat.ne_of_lt (Heap.lt_size hol)
  have hIn : g.get? s.heap.objs.size = none := next_is_new F
  have hIa : s.heap.objs.size ∉ adr := fun q => by
    rw [← hadr] at q
    obtain ⟨p, hp, e⟩ := List.mem_map.mp q
    exact absurd (Heap.lt_size (N p (List.mem_append_left _ hp)).1) (e ▸ Nat.lt_irrefl _)
  refine wpAny_pyIter_list hl ?_
  have W := Walks.list (prog := prog) (w := w) hh s.heap.objs.size l hne vs.toArray
  rw [List.size_toArray] at W
  refine comp_core J W hsz hIn (Nat.ne_of_gt F.ns.lt) ?_ ?_ hcell hkind hx ⟨⟨_, Heap.get?_push_size _ rfl, rfl, rfl⟩, hl.at fun o e => Heap.get?_push_of_some _ e⟩ (F.push _) (fun p hp => ⟨Heap.get?_push_of_some _ (N p hp).1, (N p hp).2⟩) T hadr hIa hj (fun i v hi hP => turn i v (by simpa using hP)) (done _)
  · rintro i h ⟨⟨o, ho, hc, hd⟩, _⟩
    exact ⟨o, ho, notTl_iter hc hd fun x t => by simp [rawInt]⟩
  · intro b hb
    rcases List.mem_cons.mp hb with e | hb
    · exact .inl e
    · rw [List.mem_singleton.mp hb]; exact .inr hwhere

theorem comp_range {RR : Value → Addr → Result → Shared → Prop} {r : Addr} {a b : Int} {t u v : Tok} (J : Nat → List Value → List (Addr × Obj) → Prop) (hh : A.handled = none) (hr : IsRange s.heap r a b 1 t u v) (hsm : Builtin.Range.small a b 1 = true) (hn : Builtin.Range.rangeSize a b 1 = (n : Int)) (hsz : n ≤ sizeLine)
    (hcell : ∀ y ∈ scope.names, y.2 ≠ .cell) (hkind : scope.kind = .function) (hx : scope.names.lookup x = some .local)
    (F : Fr g env.locals s.heap m) (N : News g env.locals s.heap (own ++ tl)) (T : Tl ents g tl) (hadr : own.map (·.1) = adr) (hj : J 0 [] own)
    (turn : ∀ i tk', i < n → CTurn prog w A env ents g m adr x elt ifs scope cl (J i) (J (i + 1)) s (.int (a + (i : Int)) tk'))
    (done : ∀ h, RROk ents g env.locals m adr (J n) { s with heap := h } RR) :
    wpAny (model prog w) A (pyIter (.ref r)) (CSrc prog w A env x px elt iter ifs scope cl pos RR E) E s := by
  have hIn : g.get? s.heap.objs.size = none := next_is_new F
  have hIa : s.heap.objs.size ∉ adr := fun q => by
    rw [← hadr] at q
    obtain ⟨p, hp, e⟩ := List.mem_map.mp q
    exact absurd (Heap.lt_size (N p (List.mem_append_left _ hp)).1) (e ▸ Nat.lt_irrefl _)
  refine wpAny_pyIter_range hr hsm ?_
  have W := Walks.range (prog := prog) (w := w) hh s.heap.objs.size a 1 n
  refine comp_core J W hsz hIn (Nat.ne_of_gt F.ns.lt) ?_ (fun b hb => .inl (List.mem_singleton.mp hb)) hcell hkind hx ?_ (F.push _) (fun p hp => ⟨Heap.get?_push_of_some _ (N p hp).1, (N p hp).2⟩) T hadr hIa hj ?_ (done _)
  · intro i h hi
    exact ⟨_, hi, notTl_iter rfl rfl fun x t => by simp [rawInt]⟩
  · show IsRangeIter _ _ _ _ _
    rw [hn]
    simpa using Heap.get?_push_size _ rfl
  · rintro i w' hi ⟨tk', rfl⟩
    rw [Int.mul_one]
    exact turn i tk' hi
end
end
end Mine

namespace Mine
section
open PyProof.Rows.LCg
section
variable {prog : Program} {w : World} {A : Around} {s : Shared} {env : Env} {g : Heap} {ents : List Ent} {own tl : List (Addr × Obj)} {x : Str} {px : Pos} {E : Value → Shared → Prop} {m : Str → Option Value}
  {n : Nat} {elt iter ct : Expr} {scope : Scope} {cl : List (Str × Addr)} {pos : Pos} {Q : Value → Shared → Prop}

/-- a filter's turn is over: what was kept of the number -/
def CFEnd (ents : List Ent) (g : Heap) (L : Addr) (m : Str → Option Value) (all : List (Addr × Obj)) (kept : Prop) (s₁ s₂ : Shared) : Prop :=
  kept ∧ ∃ h' tk tl', s₂ = { s₁ with heap := h', toks := tk } ∧ Fr g L h' m ∧ News g L h' (all ++ tl') ∧ Tl ents g tl'

def CFTurn (prog : Program) (w : World) (A : Around) (env : Env) (ents : List Ent) (g : Heap) (m : Str → Option Value) (own : List (Addr × Obj)) (x : Str) (elt ct : Expr) (scope : Scope) (cl : List (Str × Addr)) (p : Int → Bool) (s : Shared) (k : Int) : Prop :=
  ∀ ys ns tk' tl₁ h tk I it C oC D m₂ (E' : Value → Shared → Prop), IntsAre ys ns → Tl ents g tl₁ → (∀ b ∈ own.map (·.1), @Ne Nat b I ∧ @Ne Nat b C ∧ @Ne Nat b D) → (@Ne Nat I C ∧ @Ne Nat I D ∧ @Ne Nat C D) → NsObj oC m₂ → m₂ x = some (.int k tk') → Fr g env.locals h m →
    News g env.locals h ((I, it) :: (C, oC) :: (D, lst ys) :: (own ++ tl₁)) → notTab it → notTab oC →
    wpAny (model prog w) A (isTrue ct (compEnvC scope cl C env) (eval ct (compEnvC scope cl C env))) (fun ok s' =>
      if ok = true then wpAny (model prog w) A (eval elt (compEnvC scope cl C env)) (fun y s'' => CFEnd ents g env.locals m ((I, it) :: (C, oC) :: (D, lst ys) :: own) (p k = true ∧ ∃ t, y = .int k t) { s with heap := h, toks := tk } s'') E' s'
      else CFEnd ents g env.locals m ((I, it) :: (C, oC) :: (D, lst ys) :: own) (p k = false) { s with heap := h, toks := tk } s') E' { s with heap := h, toks := tk }

theorem cf_turn {p : Int → Bool} {ns : List Int} {i : Nat} {k : Int} {tk' : Tok} (hk : ns[i]? = some k) (turn : CFTurn prog w A env ents g m own x elt ct scope cl p s k) :
    CTurn prog w A env ents g m (own.map (·.1)) x elt [ct] scope cl (fun ys own' => own' = own ∧ IntsAre ys ((ns.take i).filter p)) (fun ys own' => own' = own ∧ IntsAre ys ((ns.take (i + 1)).filter p)) s (.int k tk') := by
  rintro ys own₁ tl₁ h tk I it C oC D m₂ E' ⟨rfl, hys⟩ hadr T₁ hb hne hoC hx F N hnt hnC
  refine wpAny_tests_one (wpAny_mono (turn ys _ tk' tl₁ h tk I it C oC D m₂ E' hys T₁ hb hne hoC hx F N hnt hnC) (fun ok s' h1 => ?_) fun _ _ e => e)
  have hs : (ns.take (i + 1)).filter p = (ns.take i).filter p ++ (if p k = true then [k] else []) := by
    rw [List.take_add_one, hk, List.filter_append]
    cases hp : p k <;> simp [hp]
  cases ok with
  | true =>
    simp only [if_true] at h1 ⊢
    refine wpAny_mono h1 (fun y s'' h2 => ?_) fun _ _ e => e
    obtain ⟨⟨hp, t, rfl⟩, h', tk₂, tl', rfl, F', N', T'⟩ := h2
    exact ⟨h', tk₂, _, tl', rfl, F', by simpa using N', rfl, T', rfl, by rw [hs, if_pos hp]; exact hys.append (.cons _ _ .nil)⟩
  | false =>
    simp only [Bool.false_eq_true, if_false] at h1 ⊢
    obtain ⟨hp, h', tk₂, tl', rfl, F', N', T'⟩ := h1
    exact ⟨h', tk₂, _, tl', rfl, F', by simpa using N', rfl, T', rfl, by rw [hs, hp]; simpa using hys⟩

theorem cf_range {RR : Value → Addr → Result → Shared → Prop} {r : Addr} {a b : Int} {t u v : Tok} (p : Int → Bool) (hh : A.handled = none) (hr : IsRange s.heap r a b 1 t u v) (hsm : Builtin.Range.small a b 1 = true) (hn : Builtin.Range.rangeSize a b 1 = (n : Int)) (hsz : n ≤ sizeLine)
    (hcell : ∀ y ∈ scope.names, y.2 ≠ .cell) (hkind : scope.kind = .function) (hx : scope.names.lookup x = some .local)
    (F : Fr g env.locals s.heap m) (N : News g env.locals s.heap (own ++ tl)) (T : Tl ents g tl)
    (turn : ∀ k, a ≤ k → k < a + (n : Int) → CFTurn prog w A env ents g m own x elt ct scope cl p s k)
    (done : ∀ h, RROk ents g env.locals m (own.map (·.1)) (fun ys own' => own' = own ∧ IntsAre ys ((rangeKs a n).filter p)) { s with heap := h } RR) :
    wpAny (model prog w) A (pyIter (.ref r)) (CSrc prog w A env x px elt iter [ct] scope cl pos RR E) E s := by
  refine comp_range (fun i ys own' => own' = own ∧ IntsAre ys (((rangeKs a n).take i).filter p)) hh hr hsm hn hsz hcell hkind hx F N T rfl ⟨rfl, .nil⟩ (fun i tk' hi => ?_) ?_
  · exact cf_turn (by simp [rangeKs, hi]) (turn _ (by omega) (by omega))
  · rw [List.take_of_length_le (Nat.le_of_eq (rangeKs_length a n))]
    exact done

theorem cf_list {RR : Value → Addr → Result → Shared → Prop} {l : Addr} {vs : List Value} {ns : List Int} {k₀ : Nat} (p : Int → Bool) (hh : A.handled = none) (hl : (l, listOf vs.toArray k₀) ∈ own) (hi : IntsAre vs ns) (hsz : vs.length ≤ sizeLine)
    (hcell : ∀ y ∈ scope.names, y.2 ≠ .cell) (hkind : scope.kind = .function) (hx : scope.names.lookup x = some .local)
    (F : Fr g env.locals s.heap m) (N : News g env.locals s.heap (own ++ tl)) (T : Tl ents g tl)
    (turn : ∀ k, k ∈ ns → CFTurn prog w A env ents g m own x elt ct scope cl p s k)
    (done : ∀ h, RROk ents g env.locals m (own.map (·.1)) (fun ys own' => own' = own ∧ IntsAre ys (ns.filter p)) { s with heap := h } RR) :
    wpAny (model prog w) A (pyIter (.ref l)) (CSrc prog w A env x px elt iter [ct] scope cl pos RR E) E s := by
  refine comp_list (l := l) (vs := vs) (fun i ys own' => own' = own ∧ IntsAre ys ((ns.take i).filter p)) hh (News.isList N (List.mem_append_left _ hl)) hsz (.inr ⟨_, fun i ys own' h => by rw [h.1]; exact hl⟩) hcell hkind hx F N T rfl ⟨rfl, .nil⟩ (fun i v hv => ?_) ?_
  · obtain ⟨k, tk0, rfl, hk⟩ := IntsAre.at hi _ v hv
    exact cf_turn hk (turn _ (List.mem_of_getElem? hk))
  · rw [hi.length, List.take_length]
    exact done
end
end
end Mine

namespace Mine
section
open PyProof.Rows.LCg
section
variable {prog : Program} {w : World} {A : Around} {s : Shared} {env : Env} {g : Heap} {news : List (Addr × Obj)} {xi xc : Str} {body : List Stmt} {E : Value → Shared → Prop} {Q : Flow → Shared → Prop} {m : Str → Option Value}

/-- the end of a turn of a loop over an enumerated list -/
def EEnd (g : Heap) (L : Addr) (own news₁ : List (Addr × Obj)) (J : (Str → Option Value) → List (Addr × Obj) → Prop) (s₁ : Shared) (Q : Flow → Shared → Prop) (f : Flow) (s₂ : Shared) : Prop :=
  match f with
  | .ret v => Q (.ret v) s₂
  | .brk => Q .next s₂
  | _ => ∃ h' tk m' news', s₂ = { s₁ with heap := h', toks := tk } ∧ Fr g L h' m' ∧ News g L h' (news' ++ own) ∧ news'.map (·.1) = news₁.map (·.1) ∧ J m' news'

theorem loop_enum {l : Addr} {vs : List Value} (J : Nat → (Str → Option Value) → List (Addr × Obj) → Prop) (hh : A.handled = none) (hl : s.heap.IsList l vs.toArray) (hlL : l ≠ env.locals)
    (F : Fr g env.locals s.heap m) (N : News g env.locals s.heap news) (hj : J 0 m news)
    (turn : ∀ i v t m₁ news₁ h tk own, vs[i]? = some v → J i m₁ news₁ → news₁.map (·.1) = news.map (·.1) → (∀ p ∈ own, p.1 = l ∨ ∀ b ∈ news.map (·.1), @Ne Nat p.1 b) →
      Fr g env.locals h (fun y => if y = xc then some v else if y = xi then some (.int i t) else m₁ y) → News g env.locals h (news₁ ++ own) →
      wpAny (model prog w) A (execs body env) (EEnd g env.locals own news₁ (J (i + 1)) { s with heap := h, toks := tk } Q) E { s with heap := h, toks := tk })
    (done : ∀ m₁ news₁ h tk, J vs.length m₁ news₁ → news₁.map (·.1) = news.map (·.1) → Fr g env.locals h m₁ → News g env.locals h news₁ → Q .next { s with heap := h, toks := tk }) :
    wpAny (model prog w) A (call (.type "enumerate") [.ref l]) (fun xv s₁ => wpAny (model prog w) A (pyIter xv) (fun it s₂ => PairAt3 prog w A g env xi xc body Q E it s₂) E s₁) E s := by
  obtain ⟨ol, hol, _⟩ := id hl
  have hlt : l < s.heap.objs.size := Heap.lt_size hol
  have hLs : env.locals < s.heap.objs.size := F.ns.lt
  refine call_enumerate_list hl fun h' he hit hsz hk => ?_
  have F' : Fr g env.locals h' m := ⟨F.ns.keeps hk, fun b o e => hk b o (F.keep b o e), F.above⟩
  have N' : News g env.locals h' news := fun p hp => ⟨hk _ _ (N p hp).1, (N p hp).2⟩
  have g0 : ∀ a, s.heap.objs.size ≤ a → g.get? a = none := fun a ha => by
    cases e : g.get? a with
    | none => rfl
    | some o' => exact absurd (Heap.lt_size (F.keep a o' e)) (Nat.not_lt.mpr ha)
  have hns : ∀ a, s.heap.objs.size ≤ a → ∀ b ∈ news.map (·.1), @Ne Nat a b := fun a ha b hb q => by
    obtain ⟨p, hp, e⟩ := List.mem_map.mp hb
    have := Heap.lt_size (N p hp).1
    rw [e, ← q] at this
    exact absurd this (Nat.not_lt.mpr ha)
  refine wpAny_pyIter_enum he ?_
  refine ⟨s.heap.objs.size + 1, [s.heap.objs.size + 1, s.heap.objs.size, l], [s.heap.objs.size + 1, s.heap.objs.size], vs.toArray.size, _, _, _, (fun i v0 v1 => ∃ t, v0 = .int i t ∧ vs[i]? = some v1), m, news, J, rfl,
    WalksT.enumerate hh (s.heap.objs.size + 1) s.heap.objs.size l (Nat.succ_ne_self _) (Nat.ne_of_lt (Nat.lt_succ_of_lt hlt)) (Nat.ne_of_lt hlt) vs.toArray, ?_, ?_, ?_, ?_, ⟨⟨_, by simpa using he⟩, hit, hl.at fun o e => hk l o e⟩, F', N', hj, ?_, ?_⟩
  · rintro i vals ⟨t, x, hx, rfl⟩
    exact ⟨_, _, rfl, t, rfl, by simpa using hx⟩
  · intro hm
    rcases List.mem_cons.mp hm with e | hm
    · exact Nat.ne_of_lt (Nat.lt_succ_of_lt hLs) e
    · rcases List.mem_cons.mp hm with e | hm
      · exact Nat.ne_of_lt hLs e
      · exact hlL (List.mem_singleton.mp hm).symm
  · intro b hb
    rcases List.mem_cons.mp hb with rfl | hb
    · exact g0 _ (Nat.le_succ _)
    · rw [List.mem_singleton.mp hb]; exact g0 _ (Nat.le_refl _)
  · intro p hp hb
    rcases List.mem_cons.mp hb with e | hb
    · exact hns _ (Nat.le_succ _) p.1 (List.mem_map_of_mem hp) e.symm
    · exact hns _ (Nat.le_refl _) p.1 (List.mem_map_of_mem hp) (List.mem_singleton.mp hb).symm
  · rintro i v0 v1 m₁ news₁ s₁ own ⟨h, tk, rfl⟩ _ ⟨t, rfl, hv⟩ hJ ha hsub F₁ N₁
    refine wpAny_mono (turn i v1 t m₁ news₁ h tk own hv hJ ha (fun p hp => ?_) F₁ fun p hp => N₁ p (List.mem_append.mpr (List.mem_append.mp hp).symm)) (fun f s₂ hf => ?_) fun _ _ e => e
    · rcases List.mem_cons.mp (hsub p hp) with e | hm
      · exact .inr (e ▸ hns _ (Nat.le_succ _))
      · rcases List.mem_cons.mp hm with e | hm
        · exact .inr (e ▸ hns _ (Nat.le_refl _))
        · exact .inl (List.mem_singleton.mp hm)
    · have fin : ∀ f', EEnd g env.locals own news₁ (J (i + 1)) { s with heap := h, toks := tk } Q .next s₂ → (f' = .next ∨ f' = .cont) → LoopStep3 g env.locals own news₁ (J (i + 1)) { s with heap := h, toks := tk } (fun v s' => Q (.ret v) s') (fun s' => Q .next s') f' s₂ := by
        rintro f' ⟨h2, tk2, m2, news2, rfl, F2, N2, ha2, hJ2⟩ hf
        have N2' : News g env.locals h2 (own ++ news2) := fun p hp => N2 p (List.mem_append.mpr (List.mem_append.mp hp).symm)
        rcases hf with rfl | rfl <;> exact ⟨by simp, h2, tk2, m2, news2, rfl, F2, N2', ha2, hJ2⟩
      cases f with
      | ret v => exact hf
      | brk => exact hf
      | next => exact fin _ hf (.inl rfl)
      | cont => exact fin _ hf (.inr rfl)
  · intro h2 tk2 m2 news2 F2 N2 ha2 hJ2
    exact done m2 news2 h2 tk2 (by simpa using hJ2) ha2 F2 N2
end
end
end Mine

namespace Mine
section
open PyProof.Rows.LCg
section
variable {prog : Program} {w : World} {A : Around} {E : Value → Shared → Prop} {R : Result → Shared → Prop} {s : Shared} {elt t1 t2 i1 i2 : Expr} {scope : Scope} {pos : Pos} {it acc : Value} {env : Env}

/-- a comprehension of two clauses, no tests -/
abbrev comp2 (elt t1 i1 t2 i2 : Expr) (scope : Scope) (pos : Pos) : Expr := .ListComp elt [⟨t1, i1, [], 0⟩, ⟨t2, i2, [], 0⟩] scope pos

theorem compTurn2_outer : compTurn (comp2 elt t1 i1 t2 i2 scope pos) 0 it acc env = (standAt i1.pos >>= fun _ => pyNext it >>= fun r => match r with
      | none => pure (.done .next)
      | some v => letOwnedTupleGo t1 it v >>= fun _ => assign t1 env v >>= fun _ =>
        eval i2 env >>= fun x => standAt i2.pos >>= fun _ => foldedSetIterable i2 env x >>= fun x =>
          holding [x] (pyIter x) >>= fun j => runOwn (.compStart (comp2 elt t1 i1 t2 i2 scope pos) 1 j acc env) env >>= fun _ =>
          again (.compLoop (comp2 elt t1 i1 t2 i2 scope pos) 0 it acc env)) := by rfl
theorem compTurn2_inner : compTurn (comp2 elt t1 i1 t2 i2 scope pos) 1 it acc env = (standAt i2.pos >>= fun _ => pyNext it >>= fun r => match r with
      | none => pure (.done .next)
      | some v => letOwnedTupleGo t2 it v >>= fun _ => assign t2 env v >>= fun _ =>
        (eval elt env >>= fun x => call (.builtin "list.append") [acc, x] >>= fun _ => pure ()) >>= fun _ =>
          again (.compLoop (comp2 elt t1 i1 t2 i2 scope pos) 1 it acc env)) := by rfl

theorem codeAny_comp2_inner (I : Nat → Shared → Prop)
    (turn : ∀ n s, I n s → wpAny (model prog w) A (pyNext it) (fun r s₁ => match r with
      | none => R (.ok .next) s₁
      | some v => wpAny (model prog w) A (assign t2 env v) (fun _ s₂ => wpAny (model prog w) A (eval elt env) (fun x s₃ =>
          wpAny (model prog w) A (call (.builtin "list.append") [acc, x]) (fun _ s₄ => ∃ m, m < n ∧ I m s₄) (notedBy (model prog w) A env fun e s' => R (.error e) s') s₃)
          (notedBy (model prog w) A env fun e s' => R (.error e) s') s₂) (notedBy (model prog w) A env fun e s' => R (.error e) s') s₁) (notedBy (model prog w) A env fun e s' => R (.error e) s') s)
    (n : Nat) (h : I n s) (ht : ∀ v, letOwnedTupleGo t2 it v = pure () := by intro _; rfl) :
    codeAny (model prog w) A (.compLoop (comp2 elt t1 i1 t2 i2 scope pos) 1 it acc env) R s := by
  refine codeAny_loop rfl I (fun n s hI => ?_) n h
  show wpAny _ _ ((compTurn (comp2 elt t1 i1 t2 i2 scope pos) 1 it acc env).onRaise (fun x => do noteFrame x env; theTreesLotGoes x)) _ _ s
  refine wpAny_noted ?_
  rw [compTurn2_inner]
  refine wpAny_bind (wpAny_standAt (wpAny_bind (wpAny_mono (turn n s hI) (fun r s₁ h₁ => ?_) fun _ _ h' => h')))
  cases r with
  | none => exact wpAny_pure h₁
  | some v =>
    refine wpAny_bind (wpAny_of_eq (ht v) ?_)
    exact wpAny_bind (wpAny_mono h₁ (fun _ s₂ h₂ => wpAny_bind (wpAny_bind (wpAny_mono h₂ (fun x s₃ h₃ => wpAny_bind (wpAny_mono h₃
      (fun _ s₄ h₄ => wpAny_pure (wpAny_pure ⟨rfl, h₄⟩)) fun _ _ h' => h')) fun _ _ h' => h'))) fun _ _ h' => h')

theorem codeAny_comp2_start
    (h0 : codeAny (model prog w) A (.compLoop (comp2 elt t1 i1 t2 i2 scope pos) 1 it acc env) R s)
    (h : wpAny (model prog w) A (pyIter it) (fun it' s' => codeAny (model prog w) A (.compLoop (comp2 elt t1 i1 t2 i2 scope pos) 1 it' acc env) R s')
      (notedBy (model prog w) A env fun x s' => R (.error x) s') s) :
    codeAny (model prog w) A (.compStart (comp2 elt t1 i1 t2 i2 scope pos) 1 it acc env) R s := by
  refine codeAny_of_tree ?_
  show wpAny _ _ ((compStart (comp2 elt t1 i1 t2 i2 scope pos) 1 it acc env).onRaise (fun x => do noteFrame x env; standAt theWindowsPlace)) _ _ s
  refine wpAny_notedAt ?_
  unfold compStart
  show wpAny _ _ (ask >>= _) _ _ s
  refine wpAny_bind (wpAny_askSetting (wpAny_ite ?_))
  split
  · first
      | exact wpAny_bind (wpAny_pure (wpAny_pure (And.intro rfl h0)))
      | exact wpAny_pure (And.intro rfl h0)
  · refine wpAny_bind (wpAny_rule ?_)
    show wpAny _ _ (standAt i2.pos >>= _) _ _ s
    exact wpAny_bind (wpAny_standAt (wpAny_bind (wpAny_mono h (fun it' s' h' => wpAny_pure (And.intro rfl h')) fun _ _ x => x)))

theorem codeAny_comp2_outer (I : Nat → Shared → Prop)
    (turn : ∀ n s, I n s → wpAny (model prog w) A (pyNext it) (fun r s₁ => match r with
      | none => R (.ok .next) s₁
      | some v => wpAny (model prog w) A (assign t1 env v) (fun _ s₂ => wpAny (model prog w) A (eval i2 env) (fun x s₃ =>
          wpAny (model prog w) A (pyIter x) (fun j s₄ => codeAny (model prog w) A (.compStart (comp2 elt t1 i1 t2 i2 scope pos) 1 j acc env) (fun r s₅ => match r with | .ok _ => ∃ m, m < n ∧ I m s₅ | .error _ => False) s₄)
          (notedBy (model prog w) A env fun e s' => R (.error e) s') s₃) (notedBy (model prog w) A env fun e s' => R (.error e) s') s₂) (notedBy (model prog w) A env fun e s' => R (.error e) s') s₁) (notedBy (model prog w) A env fun e s' => R (.error e) s') s)
    (n : Nat) (h : I n s) (ht : ∀ v, letOwnedTupleGo t1 it v = pure () := by intro _; rfl) (hf : ∀ x, foldedSetIterable i2 env x = pure x := by intro _; rfl) :
    codeAny (model prog w) A (.compLoop (comp2 elt t1 i1 t2 i2 scope pos) 0 it acc env) R s := by
  refine codeAny_loop rfl I (fun n s hI => ?_) n h
  show wpAny _ _ ((compTurn (comp2 elt t1 i1 t2 i2 scope pos) 0 it acc env).onRaise (fun x => do noteFrame x env; theTreesLotGoes x)) _ _ s
  refine wpAny_noted ?_
  rw [compTurn2_outer]
  refine wpAny_bind (wpAny_standAt (wpAny_bind (wpAny_mono (turn n s hI) (fun r s₁ h₁ => ?_) fun _ _ h' => h')))
  cases r with
  | none => exact wpAny_pure h₁
  | some v =>
    refine wpAny_bind (wpAny_of_eq (ht v) ?_)
    refine wpAny_bind (wpAny_mono h₁ (fun _ s₂ h₂ => wpAny_bind (wpAny_mono h₂ (fun x s₃ h₃ => wpAny_bind (wpAny_standAt (wpAny_bind (wpAny_of_eq (hf x) ?_)))) fun _ _ h' => h')) fun _ _ h' => h')
    refine wpAny_bind (wpAny_holding (wpAny_mono h₃ (fun j s₄ h₄ => wpAny_bind (wpAny_runOwn (codeAny_mono h₄ fun r s₅ h₅ => ?_))) fun _ _ h' => h'))
    cases r with
    | ok f => exact wpAny_pure ⟨rfl, h₅⟩
    | error e => exact h₅.elim
end
end
end Mine

namespace Mine
section
open PyProof.Rows.LCg

/-- lists of a ledger, and what ints they hold -/
inductive LA (own : List (Addr × Obj)) : List Value → List (List Int) → Prop
  | nil : LA own [] []
  | cons {l : Addr} {ws : List Value} {k : Nat} {w : List Int} {vs : List Value} {W : List (List Int)} : (l, listOf ws.toArray k) ∈ own → IntsAre ws w → LA own vs W → LA own (.ref l :: vs) (w :: W)
theorem LA.mono {own own' : List (Addr × Obj)} (hs : ∀ p ∈ own, p ∈ own') {vs : List Value} {W : List (List Int)} (h : LA own vs W) : LA own' vs W := by
  induction h with
  | nil => exact .nil
  | cons a b _ ih => exact .cons (hs _ a) b ih
theorem LA.append {own : List (Addr × Obj)} {vs vs' : List Value} {W W' : List (List Int)} (h : LA own vs W) (h' : LA own vs' W') : LA own (vs ++ vs') (W ++ W') := by
  induction h with
  | nil => exact h'
  | cons a b _ ih => exact .cons a b ih
theorem LA.length {own : List (Addr × Obj)} {vs : List Value} {W : List (List Int)} (h : LA own vs W) : vs.length = W.length := by
  induction h with
  | nil => rfl
  | cons a b _ ih => rw [List.length_cons, List.length_cons, ih]
theorem LA.at {own : List (Addr × Obj)} {vs : List Value} {W : List (List Int)} (h : LA own vs W) : ∀ (i : Nat) (v : Value), vs[i]? = some v → ∃ l ws k w, v = .ref l ∧ (l, listOf ws.toArray k) ∈ own ∧ IntsAre ws w ∧ W[i]? = some w := by
  induction h with
  | nil => intro i v h; simp at h
  | cons a b _ ih =>
    intro i v h
    cases i with
    | zero =>
      simp only [List.getElem?_cons_zero, Option.some.injEq] at h
      exact ⟨_, _, _, _, h.symm, a, b, rfl⟩
    | succ i =>
      simp only [List.getElem?_cons_succ] at h ⊢
      exact ih i v h

section
variable {prog : Program} {w : World} {A : Around} {s : Shared} {env : Env} {g : Heap} {own : List (Addr × Obj)} {x y : Str} {px py : Pos} {E : Value → Shared → Prop} {m : Str → Option Value}
  {I S : Addr} {elt i1 i2 : Expr} {scope : Scope} {cl : List (Str × Addr)} {pos : Pos} {vs : List Value} {kS : Nat} {W : List (List Int)} {cs : List Int}

def SrcEnd (L : Addr) (g : Heap) (m : Str → Option Value) (C : Addr) (oC : Obj) (ledger : List (Addr × Obj)) (cs : List Int) (s : Shared) (xv : Value) (s' : Shared) : Prop :=
  ∃ h' tk' X xs kX, xv = .ref X ∧ s' = { s with heap := h', toks := tk' } ∧ Fr g L h' m ∧ News g L h' ((X, listOf xs.toArray kX) :: (C, oC) :: ledger) ∧ (∀ p ∈ (C, oC) :: ledger, @Ne Nat p.1 X) ∧ IntsAre xs cs
def Src2 (prog : Program) (w : World) (A : Around) (env : Env) (g : Heap) (m : Str → Option Value) (i2 : Expr) (scope : Scope) (cl : List (Str × Addr)) (cs : List Int) (s : Shared) : Prop :=
  ∀ h tk C oC m₂ ledger (E' : Value → Shared → Prop), NsObj oC m₂ → Fr g env.locals h m → News g env.locals h ((C, oC) :: ledger) →
    wpAny (model prog w) A (eval i2 (compEnvC scope cl C env)) (SrcEnd env.locals g m C oC ledger cs s) E' { s with heap := h, toks := tk }
def EltEnd (L : Addr) (g : Heap) (m : Str → Option Value) (ledger : List (Addr × Obj)) (w' : List Int) (s : Shared) (z : Value) (s' : Shared) : Prop :=
  ∃ h' tk' r ws' k', z = .ref r ∧ s' = { s with heap := h', toks := tk' } ∧ Fr g L h' m ∧ News g L h' ((r, listOf ws'.toArray k') :: ledger) ∧ (∀ p ∈ ledger, @Ne Nat p.1 r) ∧ IntsAre ws' w'
def Elt2 (prog : Program) (w : World) (A : Around) (env : Env) (g : Heap) (m : Str → Option Value) (x y : Str) (elt : Expr) (scope : Scope) (cl : List (Str × Addr)) (W : List (List Int)) (cs : List Int) (s : Shared) : Prop :=
  ∀ l ws k w' c t h tk C oC m₂ ledger (E' : Value → Shared → Prop), NsObj oC m₂ → m₂ x = some (.ref l) → m₂ y = some (.int c t) → w' ∈ W → c ∈ cs → IntsAre ws w' → Fr g env.locals h m → News g env.locals h ((C, oC) :: (l, listOf ws.toArray k) :: ledger) →
    wpAny (model prog w) A (eval elt (compEnvC scope cl C env)) (EltEnd env.locals g m ((C, oC) :: (l, listOf ws.toArray k) :: ledger) (w' ++ [c]) s) E' { s with heap := h, toks := tk }
def Done2 (env : Env) (g : Heap) (m : Str → Option Value) (own : List (Addr × Obj)) (W : List (List Int)) (cs : List Int) (s : Shared) (RR : Value → Addr → Result → Shared → Prop) : Prop :=
  ∀ D C h tk m' ys own', (∀ p ∈ own, p ∈ own') → LA own' ys (W.flatMap fun w' => cs.map fun c => w' ++ [c]) → (∀ p ∈ own', @Ne Nat p.1 D) → Fr g env.locals h m → News g env.locals h ((D, lst ys) :: own') → h.Ns C m' → g.get? C = none → C ≠ env.locals →
    (∀ p ∈ (D, lst ys) :: own', @Ne Nat p.1 C) → RR (.ref D) C (.ok .next) { s with heap := h, toks := tk }

theorem comp2_core {RR : Value → Addr → Result → Shared → Prop} (hh : A.handled = none) (hst : s.heap.IsListIter I S 0) (hS : (S, listOf vs.toArray kS) ∈ own) (hW : LA own vs W) (hsz : vs.length * cs.length ≤ sizeLine)
    (hI0 : g.get? I = none) (hIL : I ≠ env.locals) (hIa : ∀ p ∈ own, @Ne Nat p.1 I)
    (hcell : ∀ y ∈ scope.names, y.2 ≠ .cell) (hkind : scope.kind = .function) (hx : scope.names.lookup x = some .local) (hy : scope.names.lookup y = some .local) (hxy : x ≠ y)
    (F : Fr g env.locals s.heap m) (N : News g env.locals s.heap own)
    (hsrc : Src2 prog w A env g m i2 scope cl cs s) (helt : Elt2 prog w A env g m x y elt scope cl W cs s) (done : Done2 env g m own W cs s RR) (hf : ∀ C v, foldedSetIterable i2 (compEnvC scope cl C env) v = pure v) :
    wpAny (model prog w) A (newList []) (fun acc s₃ => wpAny (model prog w) A (newFunctionEnv scope env.globals cl [] env.qual none .none (some env)) (fun cenv s₄ =>
      codeAny (model prog w) A (.compStart (comp2 elt (.Name x px) i1 (.Name y py) i2 scope pos) 0 (.ref I) acc { cenv with scope := relabel scope env }) (RR acc cenv.locals) s₄) E s₃) E s := by
  refine wpAny_newObj_type (wpAny_newFunctionEnv hcell (by intro y hy; simp at hy) (fun h₁ hns₁ hsb₁ => ?_) hkind)
  dsimp only at hns₁ hsb₁ ⊢
  generalize hH2 : s.heap.push { cls := .type "list", dict := none, data := .seq ([] : List Value).toArray } = H2 at hns₁ hsb₁ ⊢
  have hC : H2.objs.size = s.heap.objs.size + 1 := by rw [← hH2, Heap.size_push]
  generalize hD : s.heap.objs.size = D at *
  generalize hCC : H2.objs.size = C at *
  have old : ∀ b o, s.heap.get? b = some o → h₁.get? b = some o := fun b o e => hsb₁.extBut b o (by have := Heap.lt_size e; rw [hD] at this; rw [hC]; intro q; rw [q] at this; exact Nat.lt_irrefl _ (Nat.lt_of_succ_lt this)) (Heap.get?_push_of_some _ (hH2 ▸ Heap.get?_push_of_some _ e))
  have hDC : D ≠ C := by rw [hC]; exact Nat.ne_of_lt (Nat.lt_succ_self _)
  have hacc : h₁.get? D = some (lst []) := hsb₁.extBut _ _ hDC (Heap.get?_push_of_some _ (hH2 ▸ hD ▸ Heap.get?_push_size _ rfl))
  have below : ∀ b o, s.heap.get? b = some o → b ≠ D ∧ b ≠ C := fun b o e => by
    have := Heap.lt_size e
    rw [hD] at this
    exact ⟨Nat.ne_of_lt this, by rw [hC]; exact Nat.ne_of_lt (Nat.lt_succ_of_lt this)⟩
  have none0 : ∀ a, D ≤ a → g.get? a = none := fun a ha => by
    cases e : g.get? a with
    | none => rfl
    | some o' => have := Heap.lt_size (F.keep a o' e); rw [hD] at this; exact absurd this (Nat.not_lt.mpr ha)
  have hD0 := none0 D (Nat.le_refl _)
  have hC0 := none0 C (by rw [hC]; exact Nat.le_succ _)
  obtain ⟨oL, _, _, hL, _⟩ := id F.ns
  have hLb := below _ _ hL
  have hIb : I ≠ D ∧ I ≠ C := by obtain ⟨o, e, _⟩ := id hst; exact below _ _ e
  have hSl : s.heap.IsList S vs.toArray := News.isList N hS
  have hSI : S ≠ I := hIa _ hS
  have W1 := Walks.list (prog := prog) (w := w) hh I S hSI vs.toArray
  rw [List.size_toArray] at W1
  have hn := hW.length
  have hst₁ : h₁.IsListIter I S 0 ∧ h₁.IsList S vs.toArray := ⟨hst.at fun o e => old _ o e, hSl.at fun o e => old _ o e⟩
  have N₁ : News g env.locals h₁ ((D, lst []) :: own) := fun p hp => by
    rcases List.mem_cons.mp hp with rfl | hp
    · exact ⟨hacc, hLb.1.symm, hD0⟩
    · exact ⟨old _ _ (N p hp).1, (N p hp).2⟩
  have hlocx := lookup_relabel_local (env := env) hx
  have hlocy := lookup_relabel_local (env := env) hy
  have loop : ∀ s₃ : Shared, s₃ = { s with heap := h₁, toks := s.toks + ([] : List (Str × Value)).length } →
      codeAny (model prog w) A (.compLoop (comp2 elt (.Name x px) i1 (.Name y py) i2 scope pos) 0 (.ref I) (.ref D) (compEnvC scope cl C env)) (RR (.ref D) C) s₃ := by
    rintro s₃ rfl
    refine codeAny_comp2_outer
      (fun k s' => ∃ h' tk i ys m' own', s' = { s with heap := h', toks := tk } ∧ i ≤ vs.length ∧ k = vs.length + 1 - i ∧ (h'.IsListIter I S i ∧ h'.IsList S vs.toArray) ∧ Fr g env.locals h' m ∧ h'.Ns C m' ∧ News g env.locals h' ((D, lst ys) :: own') ∧
        (∀ p ∈ own, p ∈ own') ∧ (∀ p ∈ own', @Ne Nat p.1 I ∧ @Ne Nat p.1 C ∧ @Ne Nat p.1 D) ∧ LA own' ys ((W.take i).flatMap fun w' => cs.map fun c => w' ++ [c])) ?_ (vs.length + 1)
      ⟨h₁, _, 0, [], _, own, rfl, Nat.zero_le _, rfl, hst₁, F.keeps old, hns₁, N₁, fun _ h => h, fun p hp => ⟨hIa p hp, (below _ _ (N p hp).1).2, (below _ _ (N p hp).1).1⟩, .nil⟩ (fun _ => rfl) (hf C)
    rintro k s' ⟨h', tk, i, ys, m', own', rfl, hi, rfl, hst', F', hn', N', hsub, hoff, hLA⟩
    by_cases hlt : i < vs.length
    · refine W1.item i _ _ _ hlt hst' fun v h₂ tk₂ hPv hst₂ hk₂ => ?_
      obtain ⟨l, ws, kl, w', rfl, hlm, hws, hwi⟩ := hW.at i v (by simpa using hPv)
      refine wpAny_assign_Name (wpAny_storeName_local hlocx (hn'.at' fun o e => hk₂ _ o (by simpa using hIb.2.symm) e) (fun h₃ hn₃ hs₃ => ?_) (by simp [compEnvC, relabel, hkind]))
      have hst₃ := W1.frame _ _ _ hst₂ fun b hb o e => hs₃.extBut b o (by
        rcases List.mem_cons.mp hb with rfl | hb
        · exact hIb.2
        · rw [List.mem_singleton.mp hb]; exact (below _ _ (N _ hS).1).2) e
      obtain ⟨it, hit, hitc, hitd⟩ := id hst₃.1
      obtain ⟨oC, heC, hoC⟩ := ns_obj hn₃
      have F₃ : Fr g env.locals h₃ m := (fr_but F' hk₂ hIL.symm hI0).change hs₃ hLb.2.symm hC0
      have N₃ : News g env.locals h₃ ((C, oC) :: (I, it) :: (D, lst ys) :: own') := fun p hp => by
        rcases List.mem_cons.mp hp with rfl | hp
        · exact ⟨heC, hLb.2.symm, hC0⟩
        · rcases List.mem_cons.mp hp with rfl | hp
          · exact ⟨hit, hIL, hI0⟩
          · rcases List.mem_cons.mp hp with rfl | hp
            · exact ⟨hs₃.extBut _ _ hDC (hk₂ _ _ (by simpa using hIb.1.symm) (N' _ (.head _)).1), (N' _ (.head _)).2⟩
            · have n := N' p (.tail _ hp)
              exact ⟨hs₃.extBut _ _ (hoff p hp).2.1 (hk₂ _ _ (by simpa using (hoff p hp).1) n.1), n.2⟩
      refine wpAny_mono (hsrc h₃ _ C oC _ _ _ hoC F₃ N₃) (fun xv s₄ h₄ => ?_) fun _ _ e => e
      obtain ⟨h₄, tk₄, X, xs, kX, rfl, rfl, F₄, N₄, hXne, hxs⟩ := h₄
      have hXl : h₄.IsList X xs.toArray := News.isList N₄ (.head _)
      have hxl := hxs.length
      obtain ⟨oX, hoX, _⟩ := id hXl
      have hX2 : X ≠ h₄.objs.size := Nat.ne_of_lt (Heap.lt_size hoX)
      refine wpAny_pyIter_list hXl ?_
      dsimp only
      generalize hI2 : h₄.objs.size = I2 at *
      have W2 := Walks.list (prog := prog) (w := w) hh I2 X hX2 xs.toArray
      rw [List.size_toArray] at W2
      -- what stands at the inner loop's start
      have I2new : ∀ p ∈ (X, listOf xs.toArray kX) :: (C, oC) :: (I, it) :: (D, lst ys) :: own', @Ne Nat p.1 I2 := fun p hp => hI2 ▸ Nat.ne_of_lt (Heap.lt_size (N₄ p hp).1)
      have I2L : I2 ≠ env.locals := hI2 ▸ Nat.ne_of_gt F₄.ns.lt
      have I20 : g.get? I2 = none := hI2 ▸ next_is_new F₄
      have inner : ∀ h₅ : Heap, (∀ b o, h₄.get? b = some o → h₅.get? b = some o) → h₅.IsListIter I2 X 0 → ∀ s₅ : Shared, s₅ = { s with heap := h₅, toks := tk₄ } →
          codeAny (model prog w) A (.compLoop (comp2 elt (.Name x px) i1 (.Name y py) i2 scope pos) 1 (.ref I2) (.ref D) (compEnvC scope cl C env))
            (fun r s₅ => match r with
              | .ok _ => ∃ k', k' < vs.length + 1 - i ∧ ∃ h' tk i ys m' own', s₅ = { s with heap := h', toks := tk } ∧ i ≤ vs.length ∧ k' = vs.length + 1 - i ∧ (h'.IsListIter I S i ∧ h'.IsList S vs.toArray) ∧ Fr g env.locals h' m ∧ h'.Ns C m' ∧ News g env.locals h' ((D, lst ys) :: own') ∧
                  (∀ p ∈ own, p ∈ own') ∧ (∀ p ∈ own', @Ne Nat p.1 I ∧ @Ne Nat p.1 C ∧ @Ne Nat p.1 D) ∧ LA own' ys ((W.take i).flatMap fun w' => cs.map fun c => w' ++ [c])
              | .error _ => False) s₅ := by
        rintro h₅ up₅ hst₅ s₅ rfl
        refine codeAny_comp2_inner
          (fun k s' => ∃ h' tk j ys' m' own'', s' = { s with heap := h', toks := tk } ∧ j ≤ xs.length ∧ k = xs.length + 1 - j ∧ (h'.IsListIter I2 X j ∧ h'.IsList X xs.toArray) ∧ Fr g env.locals h' m ∧ h'.Ns C m' ∧ m' x = some (.ref l) ∧
            News g env.locals h' ((I, it) :: (D, lst ys') :: own'') ∧ (∀ p ∈ (X, listOf xs.toArray kX) :: own', p ∈ own'') ∧ (∀ p ∈ own'', @Ne Nat p.1 I ∧ @Ne Nat p.1 C ∧ @Ne Nat p.1 D ∧ @Ne Nat p.1 I2) ∧
            LA own'' ys' (((W.take i).flatMap fun w' => cs.map fun c => w' ++ [c]) ++ (cs.take j).map fun c => w' ++ [c])) ?_ (xs.length + 1)
          ⟨h₅, _, 0, ys, _, (X, listOf xs.toArray kX) :: own', rfl, Nat.zero_le _, rfl, ⟨hst₅, hXl.at fun o e => up₅ _ o e⟩, F₄.keeps up₅, hoC.ns (up₅ _ _ (N₄ _ (.tail _ (.head _))).1), by simp, fun p hp => ?_, fun _ h => h, fun p hp => ?_, by simpa using hLA.mono fun p hp => .tail _ hp⟩
        rotate_left
        · have n := N₄ p (by
            rcases List.mem_cons.mp hp with rfl | hp
            · exact .tail _ (.tail _ (.head _))
            · rcases List.mem_cons.mp hp with rfl | hp
              · exact .tail _ (.tail _ (.tail _ (.head _)))
              · rcases List.mem_cons.mp hp with rfl | hp
                · exact .head _
                · exact .tail _ (.tail _ (.tail _ (.tail _ hp))))
          exact ⟨up₅ _ _ n.1, n.2⟩
        · rcases List.mem_cons.mp hp with rfl | hp
          · exact ⟨(hXne (I, it) (.tail _ (.head _))).symm, (hXne (C, oC) (.head _)).symm, (hXne (D, lst ys) (.tail _ (.tail _ (.head _)))).symm, I2new _ (.head _)⟩
          · exact ⟨(hoff p hp).1, (hoff p hp).2.1, (hoff p hp).2.2, I2new p (.tail _ (.tail _ (.tail _ (.tail _ hp))))⟩
        rintro k s' ⟨h', tk, j, ys', m', own'', rfl, hj, rfl, hstj, F', hn', hmx, N', hsub', hoff', hLA'⟩
        have hIC2 : C ≠ I2 := I2new (C, oC) (.tail _ (.head _))
        have hII2 : I ≠ I2 := I2new (I, it) (.tail _ (.tail _ (.head _)))
        have hDI2 : D ≠ I2 := I2new (D, lst ys) (.tail _ (.tail _ (.tail _ (.head _))))
        have offI2 : ∀ p ∈ (I, it) :: (D, lst ys') :: own'', p.1 ≠ I2 := fun p hp => by
          rcases List.mem_cons.mp hp with rfl | hp
          · exact hII2
          · rcases List.mem_cons.mp hp with rfl | hp
            · exact hDI2
            · exact (hoff' p hp).2.2.2
        by_cases hlj : j < xs.length
        · refine W2.item j _ _ _ hlj hstj fun v h₂ tk₂ hPv hst₂ hk₂ => ?_
          obtain ⟨c, t, rfl, hc⟩ := IntsAre.at hxs j v (by simpa using hPv)
          refine wpAny_assign_Name (wpAny_storeName_local hlocy (hn'.at' fun o e => hk₂ _ o (by simpa using hIC2) e) (fun h₃ hn₃ hs₃ => ?_) (by simp [compEnvC, relabel, hkind]))
          have hXC : X ≠ C := (hXne (C, oC) (.head _)).symm
          have hst₃ := W2.frame _ _ _ hst₂ fun b hb o e => hs₃.extBut b o (by
            rcases List.mem_cons.mp hb with rfl | hb
            · exact hIC2.symm
            · rw [List.mem_singleton.mp hb]; exact hXC) e
          obtain ⟨it2, hit2, hitc2, hitd2⟩ := id hst₃.1
          obtain ⟨oC3, heC3, hoC3⟩ := ns_obj hn₃
          have F₃ : Fr g env.locals h₃ m := (fr_but F' hk₂ I2L.symm I20).change hs₃ hLb.2.symm hC0
          have N₂ := news_but N' hk₂ offI2
          have offC : ∀ p ∈ (I, it) :: (D, lst ys') :: own'', p.1 ≠ C := fun p hp => by
            rcases List.mem_cons.mp hp with rfl | hp
            · exact hIb.2
            · rcases List.mem_cons.mp hp with rfl | hp
              · exact hDC
              · exact (hoff' p hp).2.1
          have hlm2 : (l, listOf ws.toArray kl) ∈ own'' := hsub' _ (.tail _ (hsub _ hlm))
          have N₃ : News g env.locals h₃ ((C, oC3) :: (l, listOf ws.toArray kl) :: (I2, it2) :: (I, it) :: (D, lst ys') :: own'') := fun p hp => by
            rcases List.mem_cons.mp hp with rfl | hp
            · exact ⟨heC3, hLb.2.symm, hC0⟩
            · rcases List.mem_cons.mp hp with rfl | hp
              · have n := N₂ _ (.tail _ (.tail _ hlm2))
                exact ⟨hs₃.extBut _ _ (offC _ (.tail _ (.tail _ hlm2))) n.1, n.2⟩
              · rcases List.mem_cons.mp hp with rfl | hp
                · exact ⟨hit2, I2L, I20⟩
                · exact ⟨hs₃.extBut _ _ (offC p hp) (N₂ p hp).1, (N₂ p hp).2⟩
          refine wpAny_mono (helt l ws kl w' c t h₃ _ C oC3 _ _ _ hoC3 (by simp [hxy, hmx]) (by simp) (List.mem_of_getElem? hwi) (List.mem_of_getElem? hc) hws F₃ N₃) (fun z s₄ h₄ => ?_) fun _ _ e => e
          obtain ⟨h₄', tk₄', r, ws', k', rfl, rfl, F₄', N₄', hrne, hws'⟩ := h₄
          have hrD : D ≠ r := hrne (D, lst ys') (.tail _ (.tail _ (.tail _ (.tail _ (.head _)))))
          have hyl : ys'.length ≤ vs.length * cs.length := by
            have e1 := hLA'.length
            rw [List.length_append, List.length_flatMap, List.length_map] at e1
            have e2 : (List.map (fun a => (List.map (fun c => a ++ [c]) cs).length) (List.take i W)).sum = i * cs.length := by
              simp only [List.length_map]
              rw [List.map_const', List.length_take, Nat.min_eq_left (by omega)]
              simp
            rw [e2] at e1
            have e3 : (cs.take j).length ≤ cs.length := by rw [List.length_take]; omega
            have e4 : (i + 1) * cs.length ≤ vs.length * cs.length := Nat.mul_le_mul_right _ hlt
            rw [Nat.succ_mul] at e4
            omega
          refine append_at (hsz := by show ys'.toArray.size ≤ sizeLine; rw [List.size_toArray]; exact Nat.le_trans hyl hsz) (N₄' (D, lst ys') (.tail _ (.tail _ (.tail _ (.tail _ (.tail _ (.head _))))))).1 fun h₅' hs₅ hD₅ => ?_
          have hst₄ : h₄'.IsListIter I2 X (j + 1) ∧ h₄'.IsList X xs.toArray := W2.frame _ _ _ hst₃ fun b hb o e => by
            rcases List.mem_cons.mp hb with rfl | hb
            · rw [hit2] at e; cases e
              exact (N₄' (b, it2) (.tail _ (.tail _ (.tail _ (.head _))))).1
            · rw [List.mem_singleton.mp hb] at e ⊢
              have hXm : (X, listOf xs.toArray kX) ∈ own'' := hsub' _ (.head _)
              have e2 := (N₃ _ (.tail _ (.tail _ (.tail _ (.tail _ (.tail _ hXm)))))).1
              rw [e] at e2; cases e2
              exact (N₄' _ (.tail _ (.tail _ (.tail _ (.tail _ (.tail _ (.tail _ hXm))))))).1
          have hXD : X ≠ D := (hXne (D, lst ys) (.tail _ (.tail _ (.head _)))).symm
          refine ⟨xs.length + 1 - (j + 1), by omega, h₅', tk₄', j + 1, ys' ++ [.ref r], _, (r, listOf ws'.toArray k') :: own'', rfl, hlj, rfl, W2.frame _ _ _ hst₄ fun b hb o e => hs₅.extBut b o (by
              rcases List.mem_cons.mp hb with rfl | hb
              · exact hDI2.symm
              · rw [List.mem_singleton.mp hb]; exact hXD) e, F₄'.change hs₅ hLb.1.symm hD0,
            (hoC3.ns (N₄' (C, oC3) (.tail _ (.head _))).1).sameBut hs₅ hDC.symm, by simp [hxy, hmx], fun p hp => ?_, fun p hp => .tail _ (hsub' p hp), fun p hp => ?_, ?_⟩
          · rcases List.mem_cons.mp hp with rfl | hp
            · have n := N₄' (I, it) (.tail _ (.tail _ (.tail _ (.tail _ (.head _)))))
              exact ⟨hs₅.extBut _ _ hIb.1 n.1, n.2⟩
            · rcases List.mem_cons.mp hp with rfl | hp
              · exact ⟨hD₅.trans (congrArg some (lst_snoc ys' _)), hLb.1.symm, hD0⟩
              · rcases List.mem_cons.mp hp with rfl | hp
                · have n := N₄' _ (.head _)
                  exact ⟨hs₅.extBut _ _ hrD.symm n.1, n.2⟩
                · have n := N₄' p (.tail _ (.tail _ (.tail _ (.tail _ (.tail _ (.tail _ hp))))))
                  exact ⟨hs₅.extBut _ _ (hoff' p hp).2.2.1 n.1, n.2⟩
          · rcases List.mem_cons.mp hp with rfl | hp
            · exact ⟨(hrne (I, it) (.tail _ (.tail _ (.tail _ (.head _))))).symm, (hrne (C, oC3) (.head _)).symm, hrD.symm, (hrne (I2, it2) (.tail _ (.tail _ (.head _)))).symm⟩
            · exact hoff' p hp
          · rw [List.take_add_one, hc, Option.toList_some, List.map_append, ← List.append_assoc]
            exact (hLA'.mono fun p hp => .tail _ hp).append (.cons (.head _) hws' .nil)
        · obtain rfl : j = xs.length := Nat.le_antisymm hj (Nat.not_lt.mp hlj)
          refine W2.done _ _ _ hstj fun h₂ tk₂ hk₂ => ?_
          have N₂ := news_but N' hk₂ offI2
          have hst₂ : h₂.IsListIter I S (i + 1) ∧ h₂.IsList S vs.toArray := W1.frame _ _ _ hst₃ fun b hb o e => by
            rcases List.mem_cons.mp hb with rfl | hb
            · rw [hit] at e; cases e
              exact (N₂ _ (.head _)).1
            · rw [List.mem_singleton.mp hb] at e ⊢
              have hSm : (S, listOf vs.toArray kS) ∈ own' := hsub _ hS
              have e2 := (N₃ _ (.tail _ (.tail _ (.tail _ hSm)))).1
              rw [e] at e2; cases e2
              exact (N₂ _ (.tail _ (.tail _ (hsub' _ (.tail _ hSm))))).1
          refine ⟨vs.length + 1 - (i + 1), by omega, h₂, tk₂, i + 1, ys', _, own'', rfl, hlt, rfl, hst₂, fr_but F' hk₂ I2L.symm I20, hn'.at' fun o e => hk₂ _ o (by simpa using hIC2) e, fun p hp => N₂ p (.tail _ hp), fun p hp => hsub' _ (.tail _ (hsub p hp)), fun p hp => ⟨(hoff' p hp).1, (hoff' p hp).2.1, (hoff' p hp).2.2.1⟩, ?_⟩
          rw [List.take_add_one, hwi, Option.toList_some, List.flatMap_append, List.flatMap_singleton]
          rw [hxl, List.take_length] at hLA'
          exact hLA'
      refine codeAny_comp2_start (inner _ (fun b o e => Heap.get?_push_of_some _ e) ⟨_, hI2 ▸ Heap.get?_push_size _ rfl, rfl, rfl⟩ _ rfl) ?_
      refine W2.self 0 _ _ _ ⟨⟨_, hI2 ▸ Heap.get?_push_size _ rfl, rfl, rfl⟩, hXl.at fun o e => Heap.get?_push_of_some _ e⟩ ?_
      exact inner _ (fun b o e => Heap.get?_push_of_some _ e) ⟨_, hI2 ▸ Heap.get?_push_size _ rfl, rfl, rfl⟩ _ rfl
    · obtain rfl : i = vs.length := Nat.le_antisymm hi (Nat.not_lt.mp hlt)
      refine W1.done _ _ _ hst' fun h₂ tk₂ hk₂ => ?_
      have offI : ∀ p ∈ (D, lst ys) :: own', p.1 ≠ I := fun p hp => by
        rcases List.mem_cons.mp hp with rfl | hp
        · exact hIb.1.symm
        · exact (hoff p hp).1
      have N₂ := news_but N' hk₂ offI
      rw [hn, List.take_length] at hLA
      refine done D C h₂ tk₂ _ ys own' hsub hLA (fun p hp => (hoff p hp).2.2) (fr_but F' hk₂ hIL.symm hI0) N₂ (hn'.at' fun o e => hk₂ _ o (by simpa using hIb.2.symm) e) hC0 hLb.2.symm fun p hp => ?_
      rcases List.mem_cons.mp hp with rfl | hp
      · exact hDC
      · exact (hoff p hp).2.1
  exact codeAny_compStart_list (loop _ rfl) (W1.self 0 _ _ _ hst₁ (loop _ rfl))
end
end
end Mine

namespace Mine
section
open PyProof.Rows.LCg
section
variable {prog : Program} {w : World} {A : Around} {s : Shared} {env : Env} {g : Heap} {own : List (Addr × Obj)} {x y : Str} {px py : Pos} {E : Value → Shared → Prop} {m : Str → Option Value}
  {S : Addr} {elt i1 i2 : Expr} {scope : Scope} {cl : List (Str × Addr)} {pos : Pos} {vs : List Value} {kS : Nat} {W : List (List Int)} {cs : List Int}

def CSrc2 (prog : Program) (w : World) (A : Around) (env : Env) (x y : Str) (px py : Pos) (elt i1 i2 : Expr) (scope : Scope) (cl : List (Str × Addr)) (pos : Pos) (RR : Value → Addr → Result → Shared → Prop) (E : Value → Shared → Prop) (it : Value) (s : Shared) : Prop :=
  wpAny (model prog w) A (newList []) (fun acc s₃ => wpAny (model prog w) A (newFunctionEnv scope env.globals cl [] env.qual none .none (some env)) (fun cenv s₄ =>
      codeAny (model prog w) A (.compStart (comp2 elt (.Name x px) i1 (.Name y py) i2 scope pos) 0 it acc { cenv with scope := relabel scope env }) (RR acc cenv.locals) s₄) E s₃) E s

theorem comp2_list {RR : Value → Addr → Result → Shared → Prop} (hh : A.handled = none) (hS : (S, listOf vs.toArray kS) ∈ own) (hW : LA own vs W) (hsz : vs.length * cs.length ≤ sizeLine)
    (hcell : ∀ y ∈ scope.names, y.2 ≠ .cell) (hkind : scope.kind = .function) (hx : scope.names.lookup x = some .local) (hy : scope.names.lookup y = some .local) (hxy : x ≠ y)
    (F : Fr g env.locals s.heap m) (N : News g env.locals s.heap own) (hf : ∀ C v, foldedSetIterable i2 (compEnvC scope cl C env) v = pure v)
    (hsrc : Src2 prog w A env g m i2 scope cl cs s) (helt : Elt2 prog w A env g m x y elt scope cl W cs s) (done : ∀ h, Done2 env g m own W cs { s with heap := h } RR) :
    wpAny (model prog w) A (pyIter (.ref S)) (CSrc2 prog w A env x y px py elt i1 i2 scope cl pos RR E) E s := by
  refine wpAny_pyIter_list (News.isList N hS) ?_
  exact comp2_core (s := { s with heap := _ }) hh ⟨_, Heap.get?_push_size _ rfl, rfl, rfl⟩ hS hW hsz (next_is_new F) (Nat.ne_of_gt F.ns.lt) (fun p hp => Nat.ne_of_lt (Heap.lt_size (N p hp).1)) hcell hkind hx hy hxy (F.push _) (fun p hp => ⟨Heap.get?_push_of_some _ (N p hp).1, (N p hp).2⟩)
    hsrc helt (done _) hf

theorem Assign_comp2 {z : Str} {pz spos : Pos} {Q : Flow → Shared → Prop} (hsw : swapsWith (comp2 elt (.Name x px) i1 (.Name y py) i2 scope pos) (some (.Name z pz)) spos.line env = pure true)
    (hclos : closureFor scope env = pure cl) (hkind : scope.kind = .function) (hnames : ∀ y ∈ scope.names, y.2 = .local → scope.names.lookup y.1 = some .local)
    (h : wpAny (model prog w) A (eval i1 env) (fun xv s₁ => Hold (wpAny (model prog w) A (pyIter xv) (CSrc2 prog w A env x y px py elt i1 i2 scope cl pos (fun acc C => compPost (model prog w) A E (some (assign (.Name z pz) env)) (fun _ s' => Q .next s') acc C) E) E s₁)) E s)
    (hs : ∀ v, foldedSetIterable i1 env v = pure v := by intro _; rfl) :
    wpAny (model prog w) A (exec (.Assign [.Name z pz] (comp2 elt (.Name x px) i1 (.Name y py) i2 scope pos) spos) env) Q E s := by
  rw [exec_Assign_Name_used _ _ _ _ hsw]
  refine wpAny_bind (wpAny_standAt (wpAny_bind ?_))
  show wpAny _ A (do let _ ← comprehension (comp2 elt (.Name x px) i1 (.Name y py) i2 scope pos) scope env _ (newList []) false (eval i1 env) (some (assign (.Name z pz) env))) _ _ s
  exact wpAny_bind (wpAny_mono (wpAny_comprehension_free (use := some (assign (.Name z pz) env)) (Q := fun _ s' => Q .next s') rfl hs hclos hkind hnames h) (fun _ s' hq => wpAny_pure (wpAny_pure hq)) fun _ _ e => e)

theorem rr2_assign {z : Str} {pz : Pos} {Q : Shared → Prop} (hz : env.kindOf z = some .local) (hp : (env.scope.kind == .class || (env.scope.kind == .module && env.locals != env.globals)) = false)
    (done : ∀ D ys own' h tk, (∀ p ∈ own, p ∈ own') → LA own' ys (W.flatMap fun w' => cs.map fun c => w' ++ [c]) → (∀ p ∈ own', @Ne Nat p.1 D) → Fr g env.locals h (fun y => if y = z then some (.ref D) else m y) → News g env.locals h ((D, lst ys) :: own') → Q { s with heap := h, toks := tk }) :
    Done2 env g m own W cs s (fun acc C => compPost (model prog w) A E (some (assign (.Name z pz) env)) (fun _ s' => Q s') acc C) := by
  intro D C h tk m' ys own' hsub hLA hb F N hn hC0 hCL off
  show wpAny _ A (assign (.Name z pz) env (.ref D)) _ _ _
  refine wpAny_assign_Name (wpAny_storeName_local hz F.ns (fun h₂ hn₂ hs₂ => ?_) hp)
  have hL0 : g.get? env.locals = none := Heap.get?_none_of_le F.above
  have F₂ : Fr g env.locals h₂ (fun y => if y = z then some (.ref D) else m y) := ⟨hn₂, fun b o e => hs₂.extBut b o (fun q => by rw [q, hL0] at e; cases e) (F.keep b o e), F.above⟩
  refine ⟨m', hn.sameBut hs₂ hCL, fun h'' hs'' => done D ys own' h'' _ hsub hLA hb (F₂.change hs'' hCL hC0) fun p hp => ?_⟩
  exact ⟨hs''.extBut _ _ (off p hp) (hs₂.extBut _ _ (N p hp).2.1 (N p hp).1), (N p hp).2⟩
end
end
end Mine

namespace Mine
section
open PyProof.Rows.LCg
def NoF (own : List (Addr × Obj)) : Prop := ∀ p ∈ own, ∀ vs, p.2.data ≠ .fields vs
theorem NoF.cons {p : Addr × Obj} {own : List (Addr × Obj)} (h : ∀ vs, p.2.data ≠ .fields vs) (h' : NoF own) : NoF (p :: own) := fun q hq => by
  rcases List.mem_cons.mp hq with rfl | hq
  · exact h
  · exact h' q hq
theorem LA.extract {own : List (Addr × Obj)} {vs : List Value} {W : List (List Int)} (h : LA own vs W) : ∃ own', (∀ p ∈ own', p ∈ own) ∧ NoF own' ∧ LA own' vs W := by
  induction h with
  | nil => exact ⟨[], fun _ h => (nomatch h), fun _ h => (nomatch h), .nil⟩
  | @cons l ws k w vs W a b _ ih =>
    obtain ⟨own', h1, h2, h3⟩ := ih
    refine ⟨(l, listOf ws.toArray k) :: own', fun p hp => ?_, NoF.cons (notF_seq rfl) h2, .cons (.head _) b (h3.mono fun p hp => .tail _ hp)⟩
    rcases List.mem_cons.mp hp with rfl | hp
    · exact a
    · exact h1 p hp
section
variable {prog : Program} {w : World} {A : Around} {s : Shared} {env : Env} {g : Heap} {own : List (Addr × Obj)} {x : Str} {body : List Stmt} {Q : Flow → Shared → Prop} {E : Value → Shared → Prop} {m : Str → Option Value} {n : Nat}

/-- the end of a turn of a loop whose ledger may grow -/
def TurnEndQ (g : Heap) (L : Addr) (I : Addr) (it : Obj) (J : (Str → Option Value) → List (Addr × Obj) → Prop) (s₁ : Shared) (Q : Flow → Shared → Prop) (f : Flow) (s₂ : Shared) : Prop :=
  match f with
  | .ret v => Q (.ret v) s₂
  | .brk => Q .next s₂
  | _ => ∃ h' tk m' own', s₂ = { s₁ with heap := h', toks := tk } ∧ Fr g L h' m' ∧ News g L h' ((I, it) :: own') ∧ NoF own' ∧ J m' own'

theorem loopq_range {r : Addr} {a b : Int} {t u v : Tok} (J : Nat → (Str → Option Value) → List (Addr × Obj) → Prop) (hh : A.handled = none) (hr : IsRange s.heap r a b 1 t u v) (hsm : Builtin.Range.small a b 1 = true) (hn : Builtin.Range.rangeSize a b 1 = (n : Int))
    (F : Fr g env.locals s.heap m) (N : News g env.locals s.heap own) (hF : NoF own) (hj : J 0 m own)
    (turn : ∀ i tk' m₁ own₁ h tk I it, i < n → J i m₁ own₁ → NoF own₁ → Fr g env.locals h (fun y => if y = x then some (.int (a + (i : Int)) tk') else m₁ y) → News g env.locals h ((I, it) :: own₁) → (∀ p ∈ own₁, @Ne Nat p.1 I) →
      wpAny (model prog w) A (execs body env) (TurnEndQ g env.locals I it (J (i + 1)) { s with heap := h, toks := tk } Q) E { s with heap := h, toks := tk })
    (done : ∀ m₁ own₁ h tk, J n m₁ own₁ → NoF own₁ → Fr g env.locals h m₁ → News g env.locals h own₁ → Q .next { s with heap := h, toks := tk }) :
    wpAny (model prog w) A (pyIter (.ref r)) (fun it s₂ => LoopAtV prog w A g env x body Q E it s₂) E s := by
  have hIn : g.get? s.heap.objs.size = none := next_is_new F
  refine wpAny_pyIter_range hr hsm ?_
  have W := Walks.range (prog := prog) (w := w) hh s.heap.objs.size a 1 n
  generalize hI : s.heap.objs.size = I at *
  have offI : ∀ {h : Heap} {it : Obj} {vs : Array Value} {own : List (Addr × Obj)}, NoF own → (∀ p ∈ own, h.get? p.1 = some p.2) → h.get? I = some it → it.data = .fields vs → ∀ p ∈ own, p.1 ≠ I := fun hF hg hi hd p hp q => by
    have := hg p hp
    rw [q, hi] at this
    cases this
    exact hF p hp _ hd
  have hst : ∀ (i : Int) h, IsRangeIter h I (a + i * 1) ((n : Int) - i) 1 → ∃ o vs, h.get? I = some o ∧ o.data = .fields vs := fun i h hi => ⟨_, _, hi, rfl⟩
  refine ⟨I, [I], [I], n, _, _, m, own, fun i m₁ news₁ => NoF news₁ ∧ J i m₁ news₁, rfl, W, ?_, ?_, ?_, ?_, F.push _, (fun p hp => ⟨Heap.get?_push_of_some _ (N p hp).1, (N p hp).2⟩), ⟨hF, hj⟩, ?_, ?_⟩
  · intro hm
    exact absurd F.ns.lt (List.mem_singleton.mp hm ▸ hI ▸ Nat.lt_irrefl _)
  · intro b hb
    rw [List.mem_singleton.mp hb]; exact hIn
  · intro p hp hb
    exact absurd (Heap.lt_size (N p hp).1) (by rw [List.mem_singleton.mp hb, hI]; exact Nat.lt_irrefl _)
  · show IsRangeIter _ _ _ _ _
    rw [hn]
    simpa using hI ▸ Heap.get?_push_size _ rfl
  · rintro i v m₁ news₁ s₁ ow ⟨h, tk, rfl⟩ hin ⟨tk', rfl⟩ ⟨hF₁, hJ⟩ hoff hown hget hmem hst' F₁ N₁
    obtain ⟨it, vs, hit, hid⟩ := hst _ _ hst'
    have hIm := hmem I (List.mem_singleton.mpr rfl) hIn it hit
    have N₂ : News g env.locals h ((I, it) :: news₁) := fun p hp => by
      rcases List.mem_cons.mp hp with rfl | hp
      · exact N₁ _ (List.mem_append_left _ hIm)
      · exact N₁ _ (List.mem_append_right _ hp)
    rw [Int.mul_one] at F₁
    refine wpAny_mono (turn i tk' m₁ news₁ h tk I it hin hJ hF₁ F₁ N₂ (offI hF₁ (fun p hp => (N₂ p (.tail _ hp)).1) hit hid)) (fun f s₂ hf => ?_) fun _ _ e => e
    have fin : ∀ f', TurnEndQ g env.locals I it (J (i + 1)) { s with heap := h, toks := tk } Q .next s₂ → f' = Flow.next → LoopStepU g env.locals [I] ow (fun m₁ news₁ => NoF news₁ ∧ J (i + 1) m₁ news₁) { s with heap := h, toks := tk } f' s₂ := by
      rintro f' ⟨h', tk', m', own', rfl, F', N', hF', hJ'⟩ rfl
      refine ⟨rfl, h', tk', m', own', rfl, F', fun p hp => ?_, fun p hp hb => ?_, hF', hJ'⟩
      · rcases List.mem_append.mp hp with hp | hp
        · have e := List.mem_singleton.mp (hown p hp)
          have : p = (I, it) := by
            have h1 := hget p hp
            rw [e, hit] at h1
            exact Prod.ext e (Option.some.inj h1).symm
          exact N' p (this ▸ .head _)
        · exact N' p (.tail _ hp)
      · exact offI hF' (fun p hp => (N' p (.tail _ hp)).1) (N' _ (.head _)).1 hid p hp (List.mem_singleton.mp hb)
    cases f with
    | ret v => exact .ret hf
    | brk => exact .brk hf
    | next => exact .next (fin _ hf rfl)
    | cont => exact .cont (fin _ hf rfl)
  · rintro h' tk m' news' F' N' _ ⟨hF', hJ'⟩
    exact done m' news' h' tk hJ' hF' F' N'
end
end
end Mine

namespace Mine
/-- the walks ahead of the law's own are walks of plain calls -/
theorem tops_off : True := by
  w_top off
  trivial
section
local macro_rules | `(tactic| units_room) => `(tactic| ((show _ + 3 + 64 < cLine); omega))
local macro_rules | `(tactic| k_all) => `(tactic| exact Tl.ne (by assumption) (by k_asm) (by (intro p hp; (repeat' (first | exact hp | refine List.Mem.tail _ ?_)))) (by k_mem) (by first | exact notF_cell (by assumption) | exact notF_seq rfl))
local macro_rules | `(tactic| walk_at "exec For Name Call cons nil") => `(tactic| (k_here; (with_unfolding_all refine' For_cell ?_); k_whole))
local macro_rules | `(tactic| walk_at "exec For Name Subscript cons nil") => `(tactic| (k_here; (rename Fr _ _ _ _ => lF'); (with_unfolding_all refine' For_invVF lF' ?k1 ?k2 ?_; (case k1 => exact rfl); (case k2 => exact rfl); k_whole)))
local macro_rules | `(tactic| walk_at "exec For Name Call cons nil") => `(tactic| (k_here; (rename Fr _ _ _ _ => lF'); (with_unfolding_all refine' For_invVF lF' ?k1 ?k2 ?_; (case k1 => exact rfl); (case k2 => exact rfl); k_whole)))
local macro_rules | `(tactic| walk_at "exec For Name Name cons nil") => `(tactic| (k_here; (rename Fr _ _ _ _ => lF'); (with_unfolding_all refine' For_invVF lF' ?k1 ?k2 ?_; (case k1 => exact rfl); (case k2 => exact rfl); k_whole)))
local macro_rules | `(tactic| walk_at "pyIter ref") => `(tactic| (k_here; (with_reducible show wpAny _ _ (pyIter (Value.ref _)) (fun it s₂ => LoopC _ _ _ _ _ _ _ _ _ it s₂) _ _); refine hold_in ?_))
local macro_rules | `(tactic| walk_at "eval ListComp") => `(tactic| (k_here; (with_reducible show wpAny _ _ (eval (PySem.Expr.ListComp _ [⟨PySem.Expr.Name _ _, _, [PySem.Expr.Compare (PySem.Expr.Subscript (PySem.Expr.Call _ _ _ _) _ _) _ _ _], 0⟩] _ _) _) _ _ _); k_dflt (refine ListComp_own (by with_unfolding_all rfl) (by rfl) (by decide) ?_)))
local macro_rules | `(tactic| walk_at "eval ListComp") => `(tactic| (k_here; (with_reducible show wpAny _ _ (eval (PySem.Expr.ListComp _ [⟨PySem.Expr.Name _ _, _, [PySem.Expr.Compare (PySem.Expr.Call _ _ _ _) _ _ _], 0⟩] _ _) _) _ _ _); k_dflt (refine ListComp_own (by with_unfolding_all rfl) (by rfl) (by decide) ?_)))
local macro_rules | `(tactic| walk_at "pyIter ref") => `(tactic| (k_here; (with_reducible show wpAny _ _ (pyIter (Value.ref _)) (fun it s₂ => LoopAtV _ _ _ _ _ _ _ _ _ it s₂) _ _); refine hold_in ?_))
section
variable {prog : Program} {w : World} {p : Program} {loose : List Str} {mean : ExcName → Option Value} {mg mb : Str → Option Value} {g0 : Heap}

theorem div2n1n_ok (X0 : (hd.heap_39 w.params).In g0) (T0 : Top p loose mean mg mb g0) {A : Around} {s : Shared} {R : Result → Shared → Prop} {a b n : Int} {ta tb tn : Tok}
    (hd : A.depth + 1 < recursionLimit) (st : g0.StaysIn s.heap) (ha : 0 ≤ a) (hb : 0 < b) (hb' : b < 1073741824) (hbl : (Builtin.Int.intBits a : Int) - n ≤ 4000)
    (ret : ∀ r h' tk' tq tr, Keep [] s.heap h' → s.heap.get? r = none → h'.get? r = some (tupO [.int (a.fdiv b) tq, .int (a.fmod b) tr]) → R (.ok (.ret (.ref r))) { s with heap := h', toks := tk' }) :
    codeAny (model prog w) A (.call (.ref 21) ⟨[.int a ta, .int b tb, .int n tn], []⟩) R s := by
  refine' enter_q (f := 21) (mv := []) X0 T0 st (fun _ h => nomatch h) ?ho ?hcd ?room ?bind ?loc ?_ ?c2 ?c3 ?c4 ?c5
  case ho => exact (X0.keeps st) _ _ (by k_is)
  case hcd => exact codeRec_of (X0.keeps st) (by k_is)
  case bind => exact BindsTo.of_eq rfl
  case loc => exact locs rfl
  case c5 => decide
  case c2 => exact rfl
  case c3 => exact rfl
  case c4 => exact rfl
  case room => (try dsimp only); omega
  intro g L h₁ F₁ N₁ B X₁ Top₁ lt₁
  clear lt₁
  (try dsimp only)
  (try k_fold)
  k_steps
  rename Fr _ _ _ _ => F
  rename News _ _ _ _ => N
  have fr := B.fresh N (.head _) (fun h => nomatch h)
  exact ret _ _ _ _ _ (B.fin F) fr.1 fr.2

theorem div2n1n_use (X0 : (hd.heap_39 w.params).In g0) (T0 : Top p loose mean mg mb g0) {A : Around} {s : Shared} {Q E : Value → Shared → Prop} {a b n : Int} {ta tb tn : Tok} {g : Heap} {L : Addr} {m : Str → Option Value} {news : List (Addr × Obj)}
    (st : g0.StaysIn g) (F : Fr g L s.heap m) (N : News g L s.heap news) 
    (hd : A.depth + 1 < recursionLimit) (ha : 0 ≤ a) (hb : 0 < b) (hb' : b < 1073741824) (hbl : (Builtin.Int.intBits a : Int) - n ≤ 4000)
    (h : ∀ r h' tk' tq tr, Fr g L h' m → News g L h' ((r, tupO [.int (a.fdiv b) tq, .int (a.fmod b) tr]) :: news) → AllNe r news → Q (.ref r) { s with heap := h', toks := tk' }) :
    wpAny (model prog w) A (call (.ref 21) [.int a ta, .int b tb, .int n tn]) Q E s :=
  wpAny_call (div2n1n_ok X0 T0 hd (fun b o e => F.keep b o (st b o e)) ha hb hb' hbl fun r h' tk' tq tr k h0 h1 =>
    h _ _ _ _ _ (fr_back F k) (news_cons F (news_back N k) h0 h1) (allNe_new N h0))
end

section
variable {prog : Program} {w : World} {p : Program} {loose : List Str} {mean : ExcName → Option Value} {mg mb : Str → Option Value} {g0 : Heap}

theorem nameX_G {M : Model} {A : Around} {E : Value → Shared → Prop} {s : Shared} {g : Heap} {L a : Addr} {m : Str → Option Value} {cn : Str} {cs : Scope} {ccd : Value} {cl : List (Str × Addr)} {x : Str} {pos : Pos} {v : Value} {Q : Value → Shared → Prop} {c : Addr}
    (F : Fr g L s.heap m) (hc : cl.lookup x = some c) (hg : g.IsCell c (some v)) (h : Q v s)
    (hk : cs.kind = .function := by rfl) (hx : (envX cn cs L a ccd cl).kindOf x = some .free := by rfl) (hb : (x == ("__debug__" : Str)) = false := by decide) (hn : (x == ("__classdict__" : Str)) = false := by decide) :
    wpAny M A (eval (.Name x pos) (envX cn cs L a ccd cl)) Q E s :=
  wpAny_Name (wpAny_loadName_free hk hx hc (let ⟨o, e, d⟩ := hg; ⟨o, F.keep _ _ e, d⟩) h hn) hb

def innerOf (o : Obj) (i : Nat) : Option (Str × Arguments × List Stmt × Scope) := match o.data with
  | .func fd => match fd.body with
    | .stmts b => match b.drop i with
      | .FunctionDef n ps bd _ _ _ sc _ _ _ :: _ => some (n, ps, bd, sc)
      | _ => none
    | _ => none
  | _ => none

theorem fnAt_g {g h : Heap} {L q : Addr} {m : Str → Option Value} (F : Fr g L h m) (x : FnAt q g) : FnAt q h := let ⟨a, b, c, d, e⟩ := x; ⟨a, b, c, d, F.keep _ _ e⟩
theorem with_lookup {K : Frag} {f : Addr} {o o' : Obj} {P : Prop} (h : K.lookup f = some o) (x : K.lookup f = some o') (k : o = o' → P) : P := k (Option.some.inj (h.symm.trans x))

local macro_rules | `(tactic| walk_at "callWith ref") => `(tactic| (k_here; k_dflt (refine' callWith_F ?k1 ?_; (case k1 => exact fnAt_g (by k_asm) (by k_asm)); k_whole)))
local macro_rules | `(tactic| walk_at "And") => `(tactic| ((with_reducible show FnAt _ _ ∧ _); refine ⟨fnAt_g (by k_asm) (by k_asm), ?_⟩; try dsimp only [List.nil_append, List.cons_append]))
local macro_rules | `(tactic| walk_at "eval Name") => `(tactic| (k_here; k_dflt (refine' nameX_G ?F ?c ?g ?_ ?a ?b; (case a => rfl); (case b => rfl); (case F => k_asm); (case c => assumption); (case g => assumption); k_whole)))

theorem inner_ok (X0 : (hd.heap_39 w.params).In g0) (T0 : Top p loose mean mg mb g0) {o53 : Obj} (h53 : (hd.heap_39 w.params).lookup 35 = some o53)
    {name : Str} {params : Arguments} {body : List Stmt} {scope : Scope} (hdef : innerOf o53 1 = some (name, params, body, scope))
    {qual : Str} {clos : List (Str × Addr)} {doc pm ctv : Value} {c' fI cD cN cI D : Addr} {n : Nat} {tn : Tok} (hn : 0 < n) (hn' : n < 100)
    (hcD : clos.lookup (Str.ofString "a_digits") = some cD) (hcN : clos.lookup (Str.ofString "n") = some cN) (hcI : clos.lookup (Str.ofString "inner") = some cI) (hD0 : g0.get? D = none) :
    ∀ (k : Nat) {A : Around} {s : Shared} {R : Result → Shared → Prop} {x l r : Int} {l0 : Nat} {tx tl tr : Tok} {vs : List Value} {ns : List Int},
    A.depth + k + 1 < recursionLimit → g0.StaysIn s.heap → s.heap.get? fI = some (fnMade name qual params body scope clos doc pm c' ctv) → s.heap.CodeRec (.ref c') qual →
    s.heap.IsCell cD (some (.ref D)) → s.heap.IsCell cN (some (.int n tn)) → s.heap.IsCell cI (some (.ref fI)) → 
    s.heap.get? D = some (listOf vs.toArray 0) → IntsAre vs ns → (ns.length : Int) < 2 ^ 40 → l = (l0 : Int) → l + k = r → 0 < k → k < 1000 → r ≤ ns.length → 0 ≤ x → x < 2 ^ (n * k) → x < 2 ^ 60 →
    (∀ h' tk' vs' ns', Keep [D] s.heap h' → h'.get? D = some (listOf vs'.toArray 0) → IntsAre vs' ns' → ns'.length = ns.length →
      (∀ i : Nat, ns'.getD i 0 = if l0 ≤ i ∧ i < l0 + k then dig x n (i - l0) else ns.getD i 0) → R (.ok (.ret .none)) { s with heap := h', toks := tk' }) →
    codeAny (model prog w) A (.call (.ref fI) ⟨[.int x tx, .int l tl, .int r tr], []⟩) R s := by
  refine' with_lookup h53 ?hk ?_
  case hk => k_is
  intro e53
  subst e53
  dsimp only [innerOf, List.drop] at hdef
  cases hdef
  intro k
  induction k using Nat.strongRecOn with
  | ind k ih =>
  intro A s R x l r l0 tx tl tr vs ns hd st hf hcd h1 h2 h3 hL hi hlen hl0 hr hk hk' hrn hx hxk hx60 ret
  have nf : fI ∉ ([(D, listOf vs.toArray 0)].map (·.1)) := fun q => by
    rw [← (List.mem_singleton.mp q : fI = D), hf] at hL
    have := congrArg (Option.map Obj.data) hL
    simp at this
  have nc : ∀ {c v}, s.heap.IsCell c v → c ∉ ([(D, listOf vs.toArray 0)].map (·.1)) := fun hc q => by
    obtain ⟨o, ho, hd⟩ := hc
    rw [← (List.mem_singleton.mp q : _ = D), ho] at hL; cases hL; cases hd
  refine' enter_q (mv := [(D, listOf vs.toArray 0)]) X0 T0 st (List.forall_mem_cons.mpr ⟨⟨hL, hD0⟩, fun _ h => nomatch h⟩) hf hcd ?room ?bind ?loc ?_ ?c2 ?c3 ?c4 ?c5
  case bind => exact BindsTo.of_eq rfl
  case loc => exact locs rfl
  case c5 => decide
  case c2 => exact rfl
  case c3 => exact rfl
  case c4 => exact rfl
  case room => omega
  intro g L h₁ F₁ N₁ B X₁ Top₁ lt₁
  (try dsimp only)
  (try k_fold)
  have cell : ∀ {c v}, s.heap.IsCell c v → g.IsCell c v := fun hc => by
    obtain ⟨o, ho, hd⟩ := hc
    exact ⟨o, B.sub _ _ (nc ⟨o, ho, hd⟩) ho, hd⟩
  have g1 := cell h1
  have g2 := cell h2
  have g3 := cell h3
  have gf := B.sub _ _ nf hf
  have gfn : FnAt fI g := ⟨_, _, _, _, gf⟩
  have gcd : g.CodeRec (.ref c') qual := by
    obtain ⟨c, o, vs', t, e, ho, hv, q⟩ := hcd
    refine ⟨c, o, vs', t, e, B.sub _ _ (fun q' => ?_) ho, hv, q⟩
    rw [← (List.mem_singleton.mp q' : c = D), ho] at hL; cases hL; cases hv
  rcases Nat.eq_or_lt_of_le (show 1 ≤ k from hk) with e | e
  · have e1 : l + 1 = r := by omega
    k_steps
    rotate_left
    · exfalso; omega
    rename Fr _ _ _ _ => F
    rename News _ _ _ _ => N
    rename IntsAre (List.set _ _ _) _ => hi'
    refine ret _ _ _ _ (B.fin F) (N _ (.head _)).1 hi' (by rw [List.length_set]) fun i => ?_
    subst e
    have e2 : l.toNat = l0 := by omega
    rw [e2, List.getD_eq_getElem?_getD, List.getElem?_set]
    by_cases h : l0 = i
    · subst h
      rw [if_pos rfl, if_pos (by omega), if_pos ⟨Nat.le_refl _, by omega⟩, Nat.sub_self, dig_one hx (by simpa using hxk)]
      rfl
    · rw [if_neg h, if_neg (by omega), List.getD_eq_getElem?_getD]
  · have e1 : l + 1 ≠ r := by omega
    k_steps
    · exfalso; omega
    have hm : (l + r).fdiv (2 ^ Int.toNat 1) = l + ((k / 2 : Nat) : Int) := by
      rw [Int.fdiv_eq_ediv_of_nonneg _ (by decide), show ((2 : Int) ^ Int.toNat 1) = 2 from rfl]
      omega
    have hS0 : ((l + r).fdiv (2 ^ Int.toNat 1) - l) * (n : Int) = ((n * (k / 2) : Nat) : Int) := by
      rw [hm, show l + ((k / 2 : Nat) : Int) - l = ((k / 2 : Nat) : Int) by omega, Int.natCast_mul, Int.mul_comm]
    have hS2 : n * (k / 2) ≤ 100 * 1000 := Nat.mul_le_mul (by omega) (by omega)
    generalize hS : ((l + r).fdiv (2 ^ Int.toNat 1) - l) * (n : Int) = S at *
    refine rshift_int (by omega) ?_
    have hU0 : 0 ≤ x.fdiv (2 ^ S.toNat) := Int.fdiv_nonneg hx (Int.pow_nonneg (by decide))
    have hU1 : x.fdiv (2 ^ S.toNat) ≤ x := by
      rw [Int.fdiv_eq_ediv_of_nonneg _ (Int.pow_nonneg (by decide))]
      exact Int.ediv_le_self _ hx
    have hxor := xor_low hx S.toNat
    generalize hU : x.fdiv (2 ^ S.toNat) = U at *
    have hU2 : U.natAbs < 2 ^ 64 := by omega
    have hST : S.toNat = n * (k / 2) := by omega
    rw [hST] at hxor hU
    have hsub : k - k / 2 + k / 2 = k := by omega
    have hUd : U < 2 ^ (n * (k - k / 2)) := by
      rw [← hU, Int.fdiv_eq_ediv_of_nonneg _ (Int.pow_nonneg (by decide))]
      refine Int.ediv_lt_of_lt_mul (Int.pow_pos (by decide)) ?_
      rw [← Int.pow_add, ← Nat.mul_add, hsub]
      exact hxk
    have hlo0 : 0 ≤ x % 2 ^ (n * (k / 2)) := Int.emod_nonneg _ (Int.ne_of_gt (Int.pow_pos (by decide)))
    have hlo1 : x % 2 ^ (n * (k / 2)) < 2 ^ (n * (k / 2)) := Int.emod_lt_of_pos _ (Int.pow_pos (by decide))
    have hlo2 : x % 2 ^ (n * (k / 2)) ≤ x := emod_le_self hx (Int.pow_pos (by decide))
    k_steps
    rename Fr _ _ _ _ => F
    rename News _ _ _ _ => N
    have sc : ∀ {h : Heap} {m : Str → Option Value} {c : Addr} {v : Option Value}, Fr g L h m → g.IsCell c v → h.IsCell c v := fun F hc => let ⟨o, e, d⟩ := hc; ⟨o, F.keep _ _ e, d⟩
    refine wpAny_call (ih (k / 2) (by omega) (l0 := l0) (by show A.depth + 1 + _ + 1 < _; omega) (fun b o e => F.keep b o (B.stay b o e)) (F.keep _ _ gf) (gcd.keeps F.keep) (sc F g1) (sc F g2) (sc F g3) (N _ (.head _)).1 hi hlen hl0 hm.symm (by omega) (by omega) (by omega) (by rw [hST, hxor]; exact hlo0) (by rw [hST, hxor]; exact hlo1) (by rw [hST, hxor]; omega) ?_)
    intro h2 tk2 vs2 ns2 kp2 hD2 hi2 hl2 hv2
    obtain ⟨F2, N2⟩ := back1 (pre := []) (post := []) F N kp2 hD2 (fun _ h => nomatch h) (fun _ h => nomatch h)
    simp only [List.nil_append] at N2
    clear F N
    (try dsimp only)
    k_steps
    rename Fr _ _ _ _ => F
    rename News _ _ _ _ => N
    refine wpAny_call (ih (k - k / 2) (by omega) (l0 := l0 + k / 2) (by show A.depth + 1 + _ + 1 < _; omega) (fun b o e => F.keep b o (B.stay b o e)) (F.keep _ _ gf) (gcd.keeps F.keep) (sc F g1) (sc F g2) (sc F g3) (N _ (.head _)).1 hi2 (by omega) (by omega) (by omega) (by omega) (by omega) (by omega) hU0 hUd (by omega) ?_)
    intro h3 tk3 vs3 ns3 kp3 hD3 hi3 hl3 hv3
    obtain ⟨F3, N3⟩ := back1 (pre := []) (post := []) F N kp3 hD3 (fun _ h => nomatch h) (fun _ h => nomatch h)
    simp only [List.nil_append] at N3
    clear F N
    (try dsimp only)
    k_steps
    refine ret _ _ _ _ (B.fin F3) hD3 hi3 (by omega) fun i => ?_
    rw [hv3 i, hv2 i, hST, hxor]
    by_cases c1 : l0 + k / 2 ≤ i ∧ i < l0 + k / 2 + (k - k / 2)
    · rw [if_pos c1, if_pos (by omega), ← hU, dig_high]
      congr 1
      omega
    · rw [if_neg c1]
      by_cases c2 : l0 ≤ i ∧ i < l0 + k / 2
      · rw [if_pos c2, if_pos (by omega), dig_low hx]
        rw [← Nat.mul_succ]
        exact Nat.mul_le_mul_left _ (by omega)
      · rw [if_neg c2, if_neg (by omega)]
end

section
variable {prog : Program} {w : World} {p : Program} {loose : List Str} {mean : ExcName → Option Value} {mg mb : Str → Option Value} {g0 : Heap}
abbrev EE : List Ent := [⟨34, 30, 32, 4, Str.ofString "_int2digits" ++ Str.ofString ".<locals>." ++ Str.ofString "inner"⟩, ⟨41, 37, 47, 4, Str.ofString "_digits2int" ++ Str.ofString ".<locals>." ++ Str.ofString "inner"⟩]


local macro_rules | `(tactic| walk_at "callWith ref") => `(tactic| (k_here; k_dflt (refine' callWith_F ?k1 ?_; (case k1 => exact FnAt.of (by k_asm) (by k_mem)); k_whole)))
local macro_rules | `(tactic| walk_at "And") => `(tactic| ((with_reducible show FnAt _ _ ∧ _); refine ⟨FnAt.of (by k_asm) (by k_mem), ?_⟩; try dsimp only [List.nil_append, List.cons_append]))

theorem EE_inj : ∀ e ∈ EE, ∀ e1 ∈ EE, e1.P = e.P → e1 = e := by
  intro e he e1 h1 q
  rcases List.mem_cons.mp he with rfl | he <;> rcases List.mem_cons.mp h1 with rfl | h1
  · rfl
  · rw [List.mem_singleton.mp h1] at q; cases q
  · rw [List.mem_singleton.mp he] at q; cases q
  · rw [List.mem_singleton.mp he, List.mem_singleton.mp h1]

theorem int2digits_ok (G : Glo (hd.heap_39 w.params) p loose mean mg mb EE g0) {A : Around} {s : Shared} {R : Result → Shared → Prop} {a n : Int} {n0 : Nat} {ta tn : Tok}
    (hd : A.depth + 100 < recursionLimit) (I : Inv EE g0 s.heap) (ha : 0 ≤ a) (hn0 : n = (n0 : Int)) (hn : 0 < n0) (hn' : n0 < 100) (ha' : a < 2 ^ 60)
    (ret : ∀ r h' tk' vs, Grow EE [] s.heap h' → Inv EE g0 h' → s.heap.get? r = none → h'.get? r = some (listOf vs.toArray 0) → IntsAre vs (digs a n0) → R (.ok (.ret (.ref r))) { s with heap := h', toks := tk' }) :
    codeAny (model prog w) A (.call (.ref 35) ⟨[.int a ta, .int n tn], []⟩) R s := by
  have hb60 : Builtin.Int.intBits a ≤ 60 := bits_le ha ha'
  refine' enter_cells (f := 35) G I ?ho ?hcd ?room ?bind ?kind ?nd ?_ ?c2 ?c3 ?c4
  case ho => exact ((Glo.X G).keeps (Inv.stay I)) _ _ (by k_is)
  case hcd => exact codeRec_of ((Glo.X G).keeps (Inv.stay I)) (by k_is)
  case bind => exact BindsTo.of_eq rfl
  case kind => exact rfl
  case nd => decide +kernel
  case c2 => exact rfl
  case c3 => exact rfl
  case c4 => exact rfl
  case room => (try dsimp only); omega
  intro g L h₁ tl tk cells F₁ N₁ Y₁ T₁ B X₁ Top₁ C₁ lt₁
  k_cells Y₁
  simp only [List.cons_append, List.nil_append] at N₁
  (try dsimp only)
  (try k_fold)
  k_steps
  have hq : ((↑(Builtin.Int.intBits a) + n - 1).fdiv n).toNat = (Builtin.Int.intBits a + n0 - 1) / n0 := by
    subst hn0
    rw [Int.fdiv_eq_ediv_of_nonneg _ (by omega), show ((Builtin.Int.intBits a : Int) + (n0 : Int) - 1) = ((Builtin.Int.intBits a + n0 - 1 : Nat) : Int) by omega]
    exact Int.toNat_natCast _
  have hq0 : 0 ≤ (↑(Builtin.Int.intBits a) + n - 1).fdiv n := Int.fdiv_nonneg (by omega) (by omega)
  have hq1 : (Builtin.Int.intBits a + n0 - 1) / n0 ≤ 60 := Nat.div_le_of_le_mul (by omega)
  rename Fr _ _ _ _ => F
  rename News _ _ _ _ => N
  refine KMa.mul F N (News.isList N (.head _)) (by omega) (by omega) ?_ rfl fun D h' F' N' l' => ?_
  · simp only [List.length_cons, List.length_nil]
    omega
  rw [hq, flat_rep] at N'
  clear F N
  k_lt l'
  have hi := ints_rep 0 tk ((Builtin.Int.intBits a + n0 - 1) / n0)
  generalize hvs : List.replicate ((Builtin.Int.intBits a + n0 - 1) / n0) (Value.int 0 tk) = vs at *
  k_steps
  refine nestDef_K rfl rfl rfl ?_
  rename Fr _ _ _ _ => F
  rename News _ _ _ _ => N
  refine nest_any (own := [_, _, _, _, _]) F N T₁ ?_ B.stay Top₁ (.head _) (EE_inj _ (.head _)) (C₁ _ (.head _)) rfl rfl rfl rfl rfl ?_
  · repeat' (first | exact trivial | refine And.intro ?_ ?_ | exact notTab_seq rfl | exact notTab_cell (by assumption))
  intro f' c' oc ctv doc h' tk tl' F' N' T' look hco l''
  simp only [List.cons_append, List.nil_append] at N'
  k_lt l''
  clear F N
  (try dsimp only)
  k_steps
  · rename Fr _ _ _ _ => F
    rename News _ _ _ _ => N
    have hlen : vs.length = (Builtin.Int.intBits a + n0 - 1) / n0 := by rw [← hvs, List.length_replicate]
    refine call_len_list (News.isList N (by k_mem)) (by rw [List.size_toArray]; omega) ?_
    k_steps
    have hkp : 0 < (Builtin.Int.intBits a + n0 - 1) / n0 := Nat.div_pos (by have := bits_pos (a := a) (by assumption); omega) hn
    refine' wpAny_call (inner_ok (D := D) (fI := f') G.X G.T ?h53 ?hdef hn hn' ?ca ?cb ?cc ?hD0 ((Builtin.Int.intBits a + n0 - 1) / n0) (l0 := 0) ?dp (fun b o e => F.keep b o (B.stay b o e))
      (N (f', _) (by k_mem)).1 ?cr ?c1 ?c2 ?c3 (N (D, _) (by k_mem)).1 hi ?len0 rfl ?hr hkp (by omega) ?rl ha ?hx ha' ?cont)
    case dp => show A.depth + 1 + (Builtin.Int.intBits a + n0 - 1) / n0 + 1 < _; omega
    case h53 => k_is
    case hdef => exact rfl
    case ca => exact rfl
    case cb => exact rfl
    case cc => exact rfl
    case hD0 =>
      cases q : g0.get? D with
      | none => rfl
      | some x => have := (N (D, _) (by k_mem)).2.2; rw [B.stay _ _ q] at this; cases this
    case cr => exact CodeOf.rec (look.elim (F.keep _ _) fun z => (N (c', oc) (by repeat (first | exact z | refine List.Mem.tail _ ?_))).1) hco
    case c1 => exact ⟨_, (N (L + 1 + 1, _) (by k_mem)).1, by assumption⟩
    case c2 => exact ⟨_, (N (L + 1, _) (by k_mem)).1, by subst hn0; assumption⟩
    case c3 => exact ⟨_, (N (L + 1 + 1 + 1, _) (by k_mem)).1, by assumption⟩
    case len0 => rw [List.length_replicate]; omega
    case hr => rw [List.size_toArray]; omega
    case rl => rw [List.length_replicate, List.size_toArray]; omega
    case hx => exact lt_digs ha hn
    intro h2 tk2 vs2 ns2 kp2 hD2 hi2 hl2 hv2
    obtain ⟨F2, N2⟩ := back1 (pre := [_]) (post := _ :: _ :: _ :: _ :: tl') F N kp2 hD2 (by first | k_all) (by first | k_all)
    simp only [List.cons_append, List.nil_append] at N2
    clear F N
    (try dsimp only)
    k_steps
    dsimp only
    have fin := B.fin (own := [_, _, _, _, _, _]) F2 N2 T'
    have fr := B.fresh fin.2 N2 (.tail _ (.head _)) (notTab_seq rfl) (fun h => nomatch h)
    have e2 : ns2 = digs a n0 := by
      refine ext_getD (by rw [hl2, List.length_replicate, digs_length]) fun i hi => ?_
      rw [hl2, List.length_replicate] at hi
      rw [hv2 i, if_pos (by omega), digs_getD _ _ _ hi, Nat.sub_zero]
    exact ret _ _ _ _ fin.1 fin.2 fr.1 fr.2 (e2 ▸ hi2)
  · dsimp only
    rename Fr _ _ _ _ => F
    rename News _ _ _ _ => N
    have fin := B.fin (own := [_, _, _, _, _, _]) F N T'
    have fr := B.fresh fin.2 N (.tail _ (.head _)) (notTab_seq rfl) (fun h => nomatch h)
    refine ret _ _ _ _ fin.1 fin.2 fr.1 fr.2 ?_
    have h0 : a = 0 := by assumption
    subst h0
    have e0 : (Builtin.Int.intBits 0 + n0 - 1) / n0 = 0 := Nat.div_eq_of_lt (by show 0 + n0 - 1 < n0; omega)
    rw [e0] at hi
    unfold digs
    rw [e0]
    exact hi
end

section
variable {prog : Program} {w : World} {p : Program} {loose : List Str} {mean : ExcName → Option Value} {mg mb : Str → Option Value} {g0 : Heap}
local macro_rules | `(tactic| walk_at "zz") => `(tactic| fail "zz")
local macro_rules | `(tactic| walk_at "eval Name") => `(tactic| (k_here; k_dflt (refine' nameX_G ?F ?c ?g ?_ ?a ?b; (case a => rfl); (case b => rfl); (case F => k_asm); (case c => assumption); (case g => assumption); k_whole)))
local macro_rules | `(tactic| walk_at "callWith ref") => `(tactic| (k_here; k_dflt (refine' callWith_F ?k1 ?_; (case k1 => exact fnAt_g (by k_asm) (by k_asm)); k_whole)))
local macro_rules | `(tactic| walk_at "And") => `(tactic| ((with_reducible show FnAt _ _ ∧ _); refine ⟨fnAt_g (by k_asm) (by k_asm), ?_⟩; try dsimp only [List.nil_append, List.cons_append]))

theorem inner2_ok (X0 : (hd.heap_39 w.params).In g0) (T0 : Top p loose mean mg mb g0) {o60 : Obj} (h60 : (hd.heap_39 w.params).lookup 42 = some o60)
    {name : Str} {params : Arguments} {body : List Stmt} {scope : Scope} (hdef : innerOf o60 0 = some (name, params, body, scope))
    {qual : Str} {clos : List (Str × Addr)} {doc pm ctv : Value} {c' fI cD cN cI D : Addr} {n : Nat} {tn : Tok} (hn : 0 < n) (hn' : n < 100)
    (hcD : clos.lookup (Str.ofString "digits") = some cD) (hcN : clos.lookup (Str.ofString "n") = some cN) (hcI : clos.lookup (Str.ofString "inner") = some cI) 
    {vs : List Value} {ns : List Int} (hi : IntsAre vs ns) (hb : ∀ d ∈ ns, 0 ≤ d ∧ d < 2 ^ n) (hlen : ns.length < 1000) (hsz : n * ns.length ≤ 64) :
    ∀ (k : Nat) {A : Around} {s : Shared} {R : Result → Shared → Prop} {l r : Int} {l0 : Nat} {tl tr : Tok},
    A.depth + k + 1 < recursionLimit → g0.StaysIn s.heap → s.heap.get? fI = some (fnMade name qual params body scope clos doc pm c' ctv) → s.heap.CodeRec (.ref c') qual →
    s.heap.IsCell cD (some (.ref D)) → s.heap.IsCell cN (some (.int n tn)) → s.heap.IsCell cI (some (.ref fI)) → 
    s.heap.IsList D vs.toArray → l = (l0 : Int) → l + k = r → 0 < k → l0 + k ≤ ns.length →
    (∀ h' tk' t, Keep [] s.heap h' → R (.ok (.ret (.int (undig n ((ns.drop l0).take k)) t))) { s with heap := h', toks := tk' }) →
    codeAny (model prog w) A (.call (.ref fI) ⟨[.int l tl, .int r tr], []⟩) R s := by
  refine' with_lookup h60 ?hk ?_
  case hk => k_is
  intro e60
  subst e60
  dsimp only [innerOf, List.drop] at hdef
  cases hdef
  intro k
  induction k using Nat.strongRecOn with
  | ind k ih =>
  intro A s R l r l0 tl tr hd st hf hcd h1 h2 h3 hL hl0 hr hk hrn ret
  refine' enter_q (mv := []) X0 T0 st (fun _ h => nomatch h) hf hcd ?room ?bind ?loc ?_ ?c2 ?c3 ?c4 ?c5
  case bind => exact BindsTo.of_eq rfl
  case loc => exact locs rfl
  case c5 => decide
  case c2 => exact rfl
  case c3 => exact rfl
  case c4 => exact rfl
  case room => omega
  intro g L h₁ F₁ N₁ B X₁ Top₁ lt₁
  (try dsimp only)
  (try k_fold)
  have up := B.sub.all
  have cell : ∀ {h h' : Heap} {c : Addr} {v : Option Value}, h.IsCell c v → (∀ b o, h.get? b = some o → h'.get? b = some o) → h'.IsCell c v := fun hc k => let ⟨o, ho, hd⟩ := hc; ⟨o, k _ _ ho, hd⟩
  have g1 := cell h1 up
  have g2 := cell h2 up
  have g3 := cell h3 up
  have gL : g.IsList D vs.toArray := let ⟨o, ho, r⟩ := hL; ⟨o, up _ _ ho, r⟩
  have gfn : FnAt fI g := ⟨_, _, _, _, up _ _ hf⟩
  k_steps
  · have e : k = 1 := by omega
    subst e
    rename Fr _ _ _ _ => F
    dsimp only
    have e2 : l.toNat = l0 := by omega
    have e3 : (ns.drop l0).take 1 = [ns.getD l0 0] := by
      rw [List.take_one, List.head?_drop, List.getD_eq_getElem?_getD, List.getElem?_eq_getElem (by omega)]
      rfl
    rw [e2, show ns.getD l0 0 = undig n ((ns.drop l0).take 1) by rw [e3, undig, undig, Int.mul_zero, Int.add_zero]]
    exact ret _ _ _ (B.fin F)
  · have e : 1 < k := by omega
    have hm : (l + r).fdiv (2 ^ Int.toNat 1) = l + ((k / 2 : Nat) : Int) := by
      rw [Int.fdiv_eq_ediv_of_nonneg _ (by decide), show ((2 : Int) ^ Int.toNat 1) = 2 from rfl]
      omega
    have hS0 : ((l + r).fdiv (2 ^ Int.toNat 1) - l) * (n : Int) = ((n * (k / 2) : Nat) : Int) := by
      rw [hm, show l + ((k / 2 : Nat) : Int) - l = ((k / 2 : Nat) : Int) by omega, Int.natCast_mul, Int.mul_comm]
    have hS2 : n * (k / 2) ≤ 100 * 1000 := Nat.mul_le_mul (by omega) (by omega)
    generalize hS : ((l + r).fdiv (2 ^ Int.toNat 1) - l) * (n : Int) = S at *
    have hsub : k - k / 2 + k / 2 = k := by omega
    have hST : S.toNat = n * (k / 2) := by omega
    rename Fr _ _ _ _ => F
    rename News _ _ _ _ => N
    refine wpAny_call (ih (k - k / 2) (by omega) (l0 := l0 + k / 2) (by show A.depth + 1 + _ + 1 < _; omega) (fun b o e => F.keep b o (B.stay b o e)) (F.keep _ _ (up _ _ hf)) (hcd.keeps fun b o e => F.keep b o (up b o e)) (cell g1 F.keep) (cell g2 F.keep) (cell g3 F.keep)
      (let ⟨o, ho, r⟩ := gL; ⟨o, F.keep _ _ ho, r⟩) (by omega) (by omega) (by omega) (by omega) ?_)
    intro h2 tk2 t2 kp2
    have F2 := fr_back F kp2
    have N2 := news_back N kp2
    clear F N
    have hb1 := undig_bound n ((ns.drop (l0 + k / 2)).take (k - k / 2)) fun d hd => hb d (List.mem_of_mem_drop (List.mem_of_mem_take hd))
    have hv2 : undig n ((ns.drop (l0 + k / 2)).take (k - k / 2)) < 2 ^ 64 := by
      refine Int.lt_of_lt_of_le hb1.2 ?_
      exact_mod_cast Nat.pow_le_pow_right (by decide) (Nat.le_trans (Nat.mul_le_mul_left n (by rw [List.length_take, List.length_drop]; omega)) hsz)
    have hv0 := hb1.1
    have happ : undig n ((ns.drop l0).take k) = undig n ((ns.drop l0).take (k / 2)) + 2 ^ S.toNat * undig n ((ns.drop (l0 + k / 2)).take (k - k / 2)) := by
      have : (ns.drop l0).take k = (ns.drop l0).take (k / 2) ++ (ns.drop (l0 + k / 2)).take (k - k / 2) := by
        have e5 : (ns.drop l0).take (k / 2 + (k - k / 2)) = (ns.drop l0).take (k / 2) ++ ((ns.drop l0).drop (k / 2)).take (k - k / 2) := List.take_add
        rw [show k / 2 + (k - k / 2) = k by omega, List.drop_drop] at e5
        exact e5
      rw [this, undig_append, hST, show ((ns.drop l0).take (k / 2)).length = k / 2 by rw [List.length_take, List.length_drop]; omega]
    generalize undig n ((ns.drop (l0 + k / 2)).take (k - k / 2)) = V at *
    have hV : V.natAbs < 2 ^ 64 := by omega
    (try dsimp only)
    k_steps
    rename Fr _ _ _ _ => F
    rename News _ _ _ _ => N
    refine wpAny_call (ih (k / 2) (by omega) (l0 := l0) (by show A.depth + 1 + _ + 1 < _; omega) (fun b o e => F.keep b o (B.stay b o e)) (F.keep _ _ (up _ _ hf)) (hcd.keeps fun b o e => F.keep b o (up b o e)) (cell g1 F.keep) (cell g2 F.keep) (cell g3 F.keep)
      (let ⟨o, ho, r⟩ := gL; ⟨o, F.keep _ _ ho, r⟩) hl0 hm.symm (by omega) (by omega) ?_)
    intro h3 tk3 t3 kp3
    have F3 := fr_back F kp3
    have N3 := news_back N kp3
    clear F N
    (try dsimp only)
    k_steps
    rw [show V * 2 ^ S.toNat + undig n ((ns.drop l0).take (k / 2)) = undig n ((ns.drop l0).take k) by rw [happ, Int.add_comm, Int.mul_comm]]
    exact ret _ _ _ (B.fin F3)

local macro_rules | `(tactic| walk_at "callWith ref") => `(tactic| (k_here; k_dflt (refine' callWith_F ?k1 ?_; (case k1 => exact FnAt.of (by k_asm) (by k_mem)); k_whole)))
local macro_rules | `(tactic| walk_at "And") => `(tactic| ((with_reducible show FnAt _ _ ∧ _); refine ⟨FnAt.of (by k_asm) (by k_mem), ?_⟩; try dsimp only [List.nil_append, List.cons_append]))

theorem digits2int_ok (G : Glo (hd.heap_39 w.params) p loose mean mg mb EE g0) {A : Around} {s : Shared} {R : Result → Shared → Prop} {n : Int} {n0 : Nat} {tn : Tok} {D : Addr} {vs : List Value} {ns : List Int}
    (hd : A.depth + 100 < recursionLimit) (I : Inv EE g0 s.heap) (hn0 : n = (n0 : Int)) (hn : 0 < n0) (hn' : n0 < 100) (hL : s.heap.IsList D vs.toArray) (hi : IntsAre vs ns) (hb : ∀ d ∈ ns, 0 ≤ d ∧ d < 2 ^ n0) (hsz : n0 * ns.length ≤ 64)
    (ret : ∀ h' tk' t, Grow EE [] s.heap h' → Inv EE g0 h' → R (.ok (.ret (.int (undig n0 ns) t))) { s with heap := h', toks := tk' }) :
    codeAny (model prog w) A (.call (.ref 42) ⟨[.ref D, .int n tn], []⟩) R s := by
  refine' enter_cells (f := 42) G I ?ho ?hcd ?room ?bind ?kind ?nd ?_ ?c2 ?c3 ?c4
  case ho => exact ((Glo.X G).keeps (Inv.stay I)) _ _ (by k_is)
  case hcd => exact codeRec_of ((Glo.X G).keeps (Inv.stay I)) (by k_is)
  case bind => exact BindsTo.of_eq rfl
  case kind => exact rfl
  case nd => decide +kernel
  case c2 => exact rfl
  case c3 => exact rfl
  case c4 => exact rfl
  case room => (try dsimp only); omega
  intro g L h₁ tl tk cells F₁ N₁ Y₁ T₁ B X₁ Top₁ C₁ lt₁
  k_cells Y₁
  simp only [List.cons_append, List.nil_append] at N₁
  (try dsimp only)
  (try k_fold)
  have gL := B.list I hL (fun h => nomatch h)
  refine wpAny_execs_cons ?_
  refine nestDef_K rfl rfl rfl ?_
  refine nest_any (own := [_, _, _]) F₁ N₁ T₁ ?_ B.stay Top₁ (.tail _ (.head _)) (EE_inj _ (.tail _ (.head _))) (C₁ _ (.tail _ (.head _))) rfl rfl rfl rfl rfl ?_
  · repeat' (first | exact trivial | refine And.intro ?_ ?_ | exact notTab_seq rfl | exact notTab_cell (by assumption))
  intro f' c' oc ctv doc h' tk tl' F' N' T' look hco l''
  simp only [List.cons_append, List.nil_append] at N'
  k_lt l''
  clear F₁ N₁
  (try dsimp only)
  have hlen := hi.length
  have hle : ns.length ≤ 64 := Nat.le_trans (Nat.le_mul_of_pos_left _ hn) hsz
  have hsize : vs.toArray.size = ns.length := by rw [List.size_toArray]; exact hlen
  k_steps
  · rename Fr _ _ _ _ => F
    rename News _ _ _ _ => N
    have h0 : 0 < ns.length := by assumption
    refine' wpAny_call (inner2_ok (D := D) (fI := f') G.X G.T ?h60 ?hdef hn hn' ?ca ?cb ?cc hi hb (by omega) hsz ns.length (l0 := 0) (by show A.depth + 1 + ns.length + 1 < _; omega) (fun b o e => F.keep b o (B.stay b o e))
      (N (f', _) (by k_mem)).1 ?cr ?c1 ?c2 ?c3 ?gl rfl ?hr h0 (by omega) ?cont)
    case h60 => k_is
    case hdef => exact rfl
    case ca => exact rfl
    case cb => exact rfl
    case cc => exact rfl
    case cr => exact CodeOf.rec (look.elim (F.keep _ _) fun z => (N (c', oc) (by repeat (first | exact z | refine List.Mem.tail _ ?_))).1) hco
    case c1 => exact ⟨_, (N (L + 1, _) (by k_mem)).1, by assumption⟩
    case c2 => exact ⟨_, (N (L + 1 + 1, _) (by k_mem)).1, by subst hn0; assumption⟩
    case c3 => exact ⟨_, (N (L + 1 + 1 + 1, _) (by k_mem)).1, by assumption⟩
    case gl => exact gL.at (F.keep _)
    case hr => omega
    intro h2 tk2 t2 kp2
    have F2 := fr_back F kp2
    have N2 := news_back N kp2
    rw [List.drop_zero, List.take_length]
    clear F N
    (try dsimp only)
    k_steps
    have fin := B.fin (own := [_, _, _, _]) F2 N2 T'
    exact ret _ _ _ fin.1 fin.2
  · rename Fr _ _ _ _ => F
    rename News _ _ _ _ => N
    have h0 : ns = [] := List.eq_nil_of_length_eq_zero (by omega)
    have fin := B.fin (own := [_, _, _, _]) F N T'
    subst h0
    exact ret _ _ _ fin.1 fin.2
end

section
variable {prog : Program} {w : World} {p : Program} {loose : List Str} {mean : ExcName → Option Value} {mg mb : Str → Option Value} {g0 : Heap}
theorem int2digits_use (G : Glo (hd.heap_39 w.params) p loose mean mg mb EE g0) {A : Around} {s : Shared} {Q E : Value → Shared → Prop} {a n : Int} {n0 : Nat} {ta tn : Tok} {g : Heap} {L : Addr} {m : Str → Option Value} {news own tl : List (Addr × Obj)}
    (F : Fr g L s.heap m) (N : News g L s.heap news) (sp : Split news own tl) (T : Tl EE g tl) (hno : AllNot own) (st : g0.StaysIn g)
    (hd : A.depth + 100 < recursionLimit) (ha : 0 ≤ a) (hn0 : n = (n0 : Int)) (hn : 0 < n0) (hn' : n0 < 100) (ha' : a < 2 ^ 60)
    (h : ∀ r h' tk' vs tl', Fr g L h' m → News g L h' ((r, listOf vs.toArray 0) :: (own ++ tl')) → Tl EE g tl' → IntsAre vs (digs a n0) → AllNe r own → Q (.ref r) { s with heap := h', toks := tk' }) :
    wpAny (model prog w) A (call (.ref 35) [.int a ta, .int n tn]) Q E s := by
  have e := sp.eq
  subst e
  refine wpAny_call (int2digits_ok G hd (inv_of F N T st) ha hn0 hn hn' ha' fun r h' tk' vs gr I' h0 h1 hi => ?_)
  obtain ⟨F', tl', N', T'⟩ := come_back F N T hno st gr I'
  exact h _ _ _ _ _ F' (news_cons F N' h0 h1) T' hi (allNe_new (fun p hp => N p (List.mem_append_left _ hp)) h0)

theorem digits2int_use (G : Glo (hd.heap_39 w.params) p loose mean mg mb EE g0) {A : Around} {s : Shared} {Q E : Value → Shared → Prop} {n : Int} {n0 : Nat} {tn : Tok} {D : Addr} {vs : List Value} {ns : List Int} {g : Heap} {L : Addr} {m : Str → Option Value} {news own tl : List (Addr × Obj)}
    (F : Fr g L s.heap m) (N : News g L s.heap news) (sp : Split news own tl) (T : Tl EE g tl) (hno : AllNot own) (st : g0.StaysIn g)
    (hd : A.depth + 100 < recursionLimit) (hn0 : n = (n0 : Int)) (hn : 0 < n0) (hn' : n0 < 100) (hL : s.heap.IsList D vs.toArray) (hi : IntsAre vs ns) (hb : ∀ d ∈ ns, 0 ≤ d ∧ d < 2 ^ n0) (hsz : n0 * ns.length ≤ 64)
    (h : ∀ h' tk' t tl', Fr g L h' m → News g L h' (own ++ tl') → Tl EE g tl' → Q (.int (undig n0 ns) t) { s with heap := h', toks := tk' }) :
    wpAny (model prog w) A (call (.ref 42) [.ref D, .int n tn]) Q E s := by
  have e := sp.eq
  subst e
  refine wpAny_call (digits2int_ok G hd (inv_of F N T st) hn0 hn hn' hL hi hb hsz fun h' tk' t gr I' => ?_)
  obtain ⟨F', tl', N', T'⟩ := come_back F N T hno st gr I'
  exact h _ _ _ _ F' N' T'

theorem divmod_pos_ok (G : Glo (hd.heap_39 w.params) p loose mean mg mb EE g0) {A : Around} {s : Shared} {R : Result → Shared → Prop} {a b : Int} {ta tb : Tok}
    (hd : A.depth + 110 < recursionLimit) (hA : A.handled = none) (I : Inv EE g0 s.heap) (ha : 0 ≤ a) (ha' : a < 2 ^ 34) (hb : 0 < b) (hb' : b < 2 ^ 30)
    (ret : ∀ r h' tk' tq tr, Grow EE [] s.heap h' → Inv EE g0 h' → s.heap.get? r = none → h'.get? r = some (tupO [.int (a / b) tq, .int (a % b) tr]) → R (.ok (.ret (.ref r))) { s with heap := h', toks := tk' }) :
    codeAny (model prog w) A (.call (.ref 49) ⟨[.int a ta, .int b tb], []⟩) R s := by
  obtain ⟨hh, dp, fr, gd, un⟩ := A
  change hh = none at hA
  subst hA
  change dp + 110 < recursionLimit at hd
  refine' enter_def (f := 49) G I ?ho ?hcd ?room ?bind ?loc ?_ ?c2 ?c3 ?c4 ?c5
  case ho => exact ((Glo.X G).keeps (Inv.stay I)) _ _ (by k_is)
  case hcd => exact codeRec_of ((Glo.X G).keeps (Inv.stay I)) (by k_is)
  case bind => exact BindsTo.of_eq rfl
  case loc => exact locs rfl
  case c5 => decide
  case c2 => exact rfl
  case c3 => exact rfl
  case c4 => exact rfl
  case room => (try dsimp only); omega
  intro g L h₁ tl F₁ N₁ T₁ B X₁ Top₁ C₁ lt₁
  (try dsimp only)
  (try k_fold)
  have hB1 : Builtin.Int.intBits b ≤ 30 := bits_le (by omega) hb'
  have hB0 : 0 < Builtin.Int.intBits b := bits_pos (by omega)
  k_steps
  rename Fr _ _ _ _ => F
  rename News _ _ _ _ => N
  refine int2digits_use (own := []) G F N .nil T₁ trivial B.stay (by show dp + 1 + 100 < _; omega) ha rfl hB0 (by omega) (by omega) fun Da h' tk' va tl' F' N' T' hia _ => ?_
  simp only [List.cons_append, List.nil_append] at N'
  clear F N
  (try dsimp only)
  k_steps
  rename_i lq _ l1 _ Dr _ F N l2
  generalize hds : digs a (Builtin.Int.intBits b) = ds at *
  have hdb : ∀ d ∈ ds, 0 ≤ d ∧ d < 2 ^ Builtin.Int.intBits b := hds ▸ digs_bound
  have hud : undig (Builtin.Int.intBits b) ds = a := hds ▸ undig_digs ha hB0
  have hdl : Builtin.Int.intBits b * ds.length ≤ 64 := by
    rw [← hds, digs_length]
    have h1 := bits_le ha ha'
    have h2 := Nat.div_mul_le_self (Builtin.Int.intBits a + Builtin.Int.intBits b - 1) (Builtin.Int.intBits b)
    rw [Nat.mul_comm]
    omega
  have hbn : b < 2 ^ Builtin.Int.intBits b := lt_bits (by omega)
  have hp60 : (2 : Int) ^ Builtin.Int.intBits b ≤ 2 ^ 30 := by exact_mod_cast Nat.pow_le_pow_right (by decide) hB1
  generalize hn0 : Builtin.Int.intBits b = n0 at *
  have hk : va.length = ds.length := hia.length
  have hk64 : ds.length ≤ 64 := Nat.le_trans (Nat.le_mul_of_pos_left _ hB0) hdl
  generalize hm0 : (fun y => if y = Str.ofString "q_digits" then _ else _ : Str → Option Value) = m0 at F
  refine Hold.out ?_
  refine loop_rev (l := Da) (vs := va) (own := [(lq, listOf [].toArray 0), (Da, listOf va.toArray 0)]) (adr := [lq, Da])
    (fun i m own => ∃ (r : Int) (tr : Tok) (uq ua : Option Value) (vq : List Value) (cq : Nat) (nq : List Int), m = (fun y => if y = Str.ofString "r" then some (.int r tr) else if y = Str.ofString "q_digit" then uq else if y = Str.ofString "a_digit" then ua else m0 y) ∧
      own = [(lq, listOf vq.toArray cq), (Da, listOf va.toArray 0)] ∧ IntsAre vq nq ∧ nq.length = i ∧ r = undig n0 (ds.drop (ds.length - i)) % b ∧ undig n0 nq.reverse = undig n0 (ds.drop (ds.length - i)) / b ∧ (∀ d ∈ nq, 0 ≤ d ∧ d < 2 ^ n0))
    rfl (News.isList N (by k_mem)) (.inr ⟨_, fun i m own h => by obtain ⟨_, _, _, _, _, _, _, _, rfl, _⟩ := h; exact .tail _ (.head _)⟩) ?_ F N T' rfl ?_ ?_ ?_
  · exact nm_cons (by omega) (nm_cons (by omega) nm_nil)
  · refine ⟨0, _, m0 (Str.ofString "q_digit"), m0 (Str.ofString "a_digit"), [], 0, [], setmap3 (by subst hm0; rfl) rfl rfl, rfl, .nil, rfl, ?_, ?_, fun _ h => nomatch h⟩
    · rw [Nat.sub_zero, List.drop_length]; simp [undig]
    · rw [Nat.sub_zero, List.drop_length]; simp [undig]
  · intro i v m₁ own₁ tl₁ h tk it hi hv hJ hadr T₂ F N hnt
    obtain ⟨r, tr, uq, ua, vq, cq, nq, rfl, rfl, hiq, hql, hr, hq, hqb⟩ := hJ
    subst hm0
    have hvl := hiq.length
    simp only [List.cons_append, List.nil_append] at N
    obtain ⟨d, td, rfl, hdk⟩ := IntsAre.at hia _ v hv
    obtain ⟨hd0, hd1⟩ := hdb d (List.mem_of_getElem? hdk)
    have hr0 : 0 ≤ r := hr ▸ Int.emod_nonneg _ (Int.ne_of_gt hb)
    have hr1 : r < b := hr ▸ Int.emod_lt_of_pos _ hb
    have hr2 : r.natAbs < 2 ^ 64 := by omega
    k_steps
    have LS := long_step (n := n0) hb hbn hr hq hd0 hd1 (r * 2 ^ (n0 : Int).toNat + d) (by rw [Int.toNat_natCast])
    generalize hx : r * 2 ^ (n0 : Int).toNat + d = x at *
    obtain ⟨hq0, hq1, hrm, hqd, hx0⟩ := LS
    have hxb : Builtin.Int.intBits x ≤ 60 := bits_le hx0 (by
      rw [← hx, Int.toNat_natCast]
      have h1 : (r + 1) * 2 ^ n0 ≤ 2 ^ 30 * 2 ^ 30 := Int.mul_le_mul (by omega) hp60 (Int.le_of_lt (Int.pow_pos (by decide))) (by decide)
      rw [Int.add_mul, Int.one_mul] at h1
      omega)
    rename Fr _ _ _ _ => F
    rename News _ _ _ _ => N
    refine div2n1n_use G.X G.T B.stay F N (by show dp + 1 + 1 < _; omega) hx0 hb (by omega) (by omega) fun rt h2 tk2 tq tr2 F2 N2 hne => ?_
    simp only [AllNe] at hne
    clear F N
    (try dsimp only)
    k_steps
    rename Fr _ _ _ _ => F
    rename News _ _ _ _ => N
    rw [List.push_toArray] at N
    have hii : i < ds.length := by omega
    have hdrop : ds.drop (ds.length - (i + 1)) = d :: ds.drop (ds.length - i) := by
      rw [hk] at hdk
      have e1 : ds.length - (i + 1) = ds.length - 1 - i := by omega
      have e2 : ds.length - i = (ds.length - 1 - i) + 1 := by omega
      rw [e1, e2, List.drop_eq_getElem_cons (by omega)]
      congr 1
      rw [List.getElem?_eq_getElem (by omega)] at hdk
      exact Option.some.inj hdk
    refine ⟨_, _, _, [_, _], tl₁, rfl, F, cb_drop N (fun p hp => .tail _ hp), rfl, T₂, x.fmod b, tr2, some (.int (x.fdiv b) tq), some (.int d td), vq ++ [.int (x.fdiv b) tq], cq + 1, nq ++ [x.fdiv b], ?_, rfl, hiq.append (.cons _ _ .nil), ?_, ?_, ?_, ?_⟩
    · skip
      funext y
      by_cases h0 : y = Str.ofString "r"
      · simp only [if_pos h0]
      by_cases h1 : y = Str.ofString "q_digit"
      · simp only [if_neg h0, if_pos h1]
      by_cases h2 : y = Str.ofString "a_digit"
      · simp only [if_neg h0, if_neg h1, if_pos h2]
      simp only [if_neg h0, if_neg h1, if_neg h2]
    · rw [List.length_append, hql]; rfl
    · rw [hdrop, undig, hrm]
    · rw [hdrop, undig, List.reverse_append, List.reverse_cons, List.reverse_nil, List.nil_append, List.singleton_append, undig, hqd]
    · intro q hm
      rcases List.mem_append.mp hm with hm | hm
      · exact hqb q hm
      · rw [List.mem_singleton.mp hm]; exact ⟨hq0, hq1⟩
  · intro m₁ own₁ tl₁ h tk hJ hadr T₂ F N
    obtain ⟨r, tr, uq, ua, vq, cq, nq, rfl, rfl, hiq, hql, hr, hq, hqb⟩ := hJ
    subst hm0
    have hvl := hiq.length
    simp only [List.cons_append, List.nil_append] at N
    k_steps
    dsimp only
    refine' kl_reverse (its := vq.toArray) (l := vq.reverse) F N rfl ?u ?z ?_
    case u => k_upd
    case z =>
      rw [PySem.sizeLine_eq]
      show vq.length ≤ _
      omega
    intro h' F' N'
    clear F N
    k_steps
    rename Fr _ _ _ _ => F
    rename News _ _ _ _ => N
    have hrv := IntsAre.reverse hiq
    have hud2 : undig n0 nq.reverse = a / b := by rw [hq, hk, Nat.sub_self, List.drop_zero, hud]
    have hr2 : r = a % b := by rw [hr, hk, Nat.sub_self, List.drop_zero, hud]
    refine digits2int_use (own := [_, _]) (ns := nq.reverse) G F N (.cons (.cons .nil)) T₂ ⟨notTab_seq rfl, notTab_seq rfl, trivial⟩ B.stay (by show dp + 1 + 100 < _; omega) rfl hB0 (by omega) (News.isList N (.head _)) hrv (fun d h => hqb d (List.mem_reverse.mp h)) (by rw [List.length_reverse, hql, hk]; exact hdl) fun h' tk' tq tl' F' N' T' => ?_
    rw [hud2]
    simp only [List.cons_append, List.nil_append] at N'
    clear F N
    (try dsimp only)
    k_steps
    rename Fr _ _ _ _ => F
    rename News _ _ _ _ => N
    have fin := B.fin (own := [_, _, _]) F N T'
    have frs := B.fresh fin.2 N (.head _) (notTab_cls rfl) (fun h => nomatch h)
    rw [hr2] at frs
    exact ret _ _ _ _ _ fin.1 fin.2 frs.1 frs.2

theorem divmod_pos_use (G : Glo (hd.heap_39 w.params) p loose mean mg mb EE g0) {A : Around} {s : Shared} {Q E : Value → Shared → Prop} {a b : Int} {ta tb : Tok} {g : Heap} {L : Addr} {m : Str → Option Value} {news own tl : List (Addr × Obj)}
    (F : Fr g L s.heap m) (N : News g L s.heap news) (sp : Split news own tl) (T : Tl EE g tl) (hno : AllNot own) (st : g0.StaysIn g)
    (hd : A.depth + 110 < recursionLimit) (hA : A.handled = none) (ha : 0 ≤ a) (ha' : a < 2 ^ 34) (hb : 0 < b) (hb' : b < 2 ^ 30)
    (h : ∀ r h' tk' tq tr tl', Fr g L h' m → News g L h' ((r, tupO [.int (a / b) tq, .int (a % b) tr]) :: (own ++ tl')) → Tl EE g tl' → AllNe r own → Q (.ref r) { s with heap := h', toks := tk' }) :
    wpAny (model prog w) A (call (.ref 49) [.int a ta, .int b tb]) Q E s := by
  have e := sp.eq
  subst e
  refine wpAny_call (divmod_pos_ok G hd hA (inv_of F N T st) ha ha' hb hb' fun r h' tk' tq tr gr I' h0 h1 => ?_)
  obtain ⟨F', tl', N', T'⟩ := come_back F N T hno st gr I'
  exact h _ _ _ _ _ _ F' (news_cons F N' h0 h1) T' (allNe_new (fun p hp => N p (List.mem_append_left _ hp)) h0)
end

section
variable {prog : Program} {w : World} {p : Program} {loose : List Str} {mean : ExcName → Option Value} {mg mb : Str → Option Value} {g0 : Heap}
theorem int_divmod_nn (G : Glo (hd.heap_39 w.params) p loose mean mg mb EE g0) {A : Around} {s : Shared} {R : Result → Shared → Prop} {a b : Int} {ta tb : Tok}
    (hd : A.depth + 120 < recursionLimit) (hA : A.handled = none) (I : Inv EE g0 s.heap) (ha : 0 ≤ a) (ha' : a < 2 ^ 34) (hb : 0 < b) (hb' : b < 2 ^ 30)
    (ret : ∀ r h' tk' tq tr, Grow EE [] s.heap h' → Inv EE g0 h' → s.heap.get? r = none → h'.get? r = some (tupO [.int (a / b) tq, .int (a % b) tr]) → R (.ok (.ret (.ref r))) { s with heap := h', toks := tk' }) :
    codeAny (model prog w) A (.call (.ref 56) ⟨[.int a ta, .int b tb], []⟩) R s := by
  obtain ⟨hh, dp, fr, gd, un⟩ := A
  change hh = none at hA
  subst hA
  change dp + 120 < recursionLimit at hd
  refine' enter_def (f := 56) G I ?ho ?hcd ?room ?bind ?loc ?_ ?c2 ?c3 ?c4 ?c5
  case ho => exact ((Glo.X G).keeps (Inv.stay I)) _ _ (by k_is)
  case hcd => exact codeRec_of ((Glo.X G).keeps (Inv.stay I)) (by k_is)
  case bind => exact BindsTo.of_eq rfl
  case loc => exact locs rfl
  case c5 => decide
  case c2 => exact rfl
  case c3 => exact rfl
  case c4 => exact rfl
  case room => (try dsimp only); omega
  intro g L h₁ tl F₁ N₁ T₁ B X₁ Top₁ C₁ lt₁
  (try dsimp only)
  (try k_fold)
  k_steps
  · exfalso; omega
  · rename Fr _ _ _ _ => F
    rename News _ _ _ _ => N
    refine divmod_pos_use (own := []) G F N .nil T₁ trivial B.stay (by show dp + 1 + 110 < _; omega) rfl ha ha' hb hb' fun r h' tk' tq tr tl' F' N' T' _ => ?_
    clear F N
    (try dsimp only)
    k_steps
    have fin := B.fin (own := [_]) F' N' T'
    have frs := B.fresh fin.2 N' (.head _) (notTab_cls rfl) (fun h => nomatch h)
    exact ret _ _ _ _ _ fin.1 fin.2 frs.1 frs.2

theorem int_divmod_ok (G : Glo (hd.heap_39 w.params) p loose mean mg mb EE g0) {A : Around} {s : Shared} {R : Result → Shared → Prop} {a b : Int} {ta tb : Tok}
    (hd : A.depth + 130 < recursionLimit) (hA : A.handled = none) (I : Inv EE g0 s.heap) (ha : -(2 ^ 34) < a) (ha' : a < 2 ^ 34) (hb : 0 < b) (hb' : b < 2 ^ 30)
    (ret : ∀ r h' tk' tq tr, Grow EE [] s.heap h' → Inv EE g0 h' → s.heap.get? r = none → h'.get? r = some (tupO [.int (a / b) tq, .int (a % b) tr]) → R (.ok (.ret (.ref r))) { s with heap := h', toks := tk' }) :
    codeAny (model prog w) A (.call (.ref 56) ⟨[.int a ta, .int b tb], []⟩) R s := by
  rcases Int.lt_or_le a 0 with hn | hn
  rotate_left
  · exact int_divmod_nn G (by omega) hA I hn ha' hb hb' ret
  obtain ⟨hh, dp, fr, gd, un⟩ := A
  change hh = none at hA
  subst hA
  change dp + 130 < recursionLimit at hd
  refine' enter_def (f := 56) G I ?ho ?hcd ?room ?bind ?loc ?_ ?c2 ?c3 ?c4 ?c5
  case ho => exact ((Glo.X G).keeps (Inv.stay I)) _ _ (by k_is)
  case hcd => exact codeRec_of ((Glo.X G).keeps (Inv.stay I)) (by k_is)
  case bind => exact BindsTo.of_eq rfl
  case loc => exact locs rfl
  case c5 => decide
  case c2 => exact rfl
  case c3 => exact rfl
  case c4 => exact rfl
  case room => (try dsimp only); omega
  intro g L h₁ tl F₁ N₁ T₁ B X₁ Top₁ C₁ lt₁
  (try dsimp only)
  (try k_fold)
  k_steps
  · exfalso; omega
  · rename Fr _ _ _ _ => F
    rename News _ _ _ _ => N
    have hbn : Builtin.bitNot a = -a - 1 := rfl
    refine wpAny_call (int_divmod_nn G (by show dp + 1 + 120 < _; omega) rfl (inv_of (own := []) F N T₁ B.stay) (by omega) (by omega) hb hb' fun r h' tk' tq tr gr I' h0 h1 => ?_)
    obtain ⟨F', tl', N', T'⟩ := come_back (own := []) F N T₁ trivial B.stay gr I'
    have N'' := news_cons F N' h0 h1
    clear F N N'
    rw [hbn] at N''
    (try dsimp only)
    k_steps
    rename Fr _ _ _ _ => F
    rename News _ _ _ _ => N
    rw [(neg_div hb).1, (neg_div hb).2] at N
    have fin := B.fin (own := [_, _]) F N T'
    have frs := B.fresh fin.2 N (.head _) (notTab_cls rfl) (fun h => nomatch h)
    exact ret _ _ _ _ _ fin.1 fin.2 frs.1 frs.2

theorem int_divmod_use (G : Glo (hd.heap_39 w.params) p loose mean mg mb EE g0) {A : Around} {s : Shared} {Q E : Value → Shared → Prop} {a b : Int} {ta tb : Tok} {g : Heap} {L : Addr} {m : Str → Option Value} {news own tl : List (Addr × Obj)}
    (F : Fr g L s.heap m) (N : News g L s.heap news) (sp : Split news own tl) (T : Tl EE g tl) (hno : AllNot own) (st : g0.StaysIn g)
    (hd : A.depth + 130 < recursionLimit) (hA : A.handled = none) (ha : -(2 ^ 34) < a) (ha' : a < 2 ^ 34) (hb : 0 < b) (hb' : b < 2 ^ 30)
    (h : ∀ r h' tk' tq tr tl', Fr g L h' m → News g L h' ((r, tupO [.int (a / b) tq, .int (a % b) tr]) :: (own ++ tl')) → Tl EE g tl' → AllNe r own → Q (.ref r) { s with heap := h', toks := tk' }) :
    wpAny (model prog w) A (call (.ref 56) [.int a ta, .int b tb]) Q E s := by
  have e := sp.eq
  subst e
  refine wpAny_call (int_divmod_ok G hd hA (inv_of F N T st) ha ha' hb hb' fun r h' tk' tq tr gr I' h0 h1 => ?_)
  obtain ⟨F', tl', N', T'⟩ := come_back F N T hno st gr I'
  exact h _ _ _ _ _ _ F' (news_cons F N' h0 h1) T' (allNe_new (fun p hp => N p (List.mem_append_left _ hp)) h0)
end

section
variable {prog : Program} {w : World} {p : Program} {loose : List Str} {mean : ExcName → Option Value} {mg mb : Str → Option Value} {g0 : Heap}
local macro_rules | `(tactic| walk_at "exec While") => `(tactic| (k_here; refine hold_in ?_))
theorem with_get {K : Frag} {f : Addr} {o : Obj} {P : Prop} (x : K.lookup f = some o) (k : K.lookup f = some o → P) : P := k x
theorem bisect_any (X0 : (hd.heap_39 w.params).In g0) (T0 : Top p loose mean mg mb g0) {A : Around} {s : Shared} {R : Result → Shared → Prop} {args : Args} {l : Addr} {x : Int} {tx : Tok} {vs : List Value} {ns : List Int}
    (hb : ∀ oc od fd sl, (hd.heap_39 w.params).lookup 74 = some ⟨oc, od, .func fd, sl⟩ → ∃ t0, ∀ S, peek (hd.heap_39 w.params) S (bindArgs fd args) = some [(Str.ofString "a", .ref l), (Str.ofString "x", .int x tx), (Str.ofString "lo", .int 0 t0), (Str.ofString "hi", .none), (Str.ofString "key", .none)])
    (hd : A.depth + 1 < recursionLimit) (hA : A.handled = none) (st : g0.StaysIn s.heap) (hL : s.heap.IsList l vs.toArray) (hi : IntsAre vs ns) (hs : Sorted ns) (hlen : ns.length < 2 ^ 40)
    (ret : ∀ h' tk' t, Keep [] s.heap h' → R (.ok (.ret (.int (bis ns x) t))) { s with heap := h', toks := tk' }) :
    codeAny (model prog w) A (.call (.ref 74) args) R s := by
  obtain ⟨hh, dp, fr, gd, un⟩ := A
  change hh = none at hA
  subst hA
  change dp + 1 < recursionLimit at hd
  refine' with_get (K := Mine.hd.heap_39 w.params) (f := 74) ?x32 ?_
  case x32 => k_is
  intro h32
  obtain ⟨t0, hb⟩ := hb _ _ _ _ h32
  refine' enter_q (f := 74) (mv := []) X0 T0 st (fun _ h => nomatch h) ?ho ?hcd ?room ?bind ?loc ?_ ?c2 ?c3 ?c4 ?c5
  case ho => exact (X0.keeps st) _ _ (by k_is)
  case hcd => exact codeRec_of (X0.keeps st) (by k_is)
  case bind => exact kp_binds (X0.keeps st) hb
  case loc => exact locs rfl
  case c5 => decide
  case c2 => exact rfl
  case c3 => exact rfl
  case c4 => exact rfl
  case room => (try dsimp only); omega
  intro g L h₁ F₁ N₁ B X₁ Top₁ lt₁
  clear lt₁ hb h32
  (try dsimp only)
  (try k_fold)
  have gL : g.IsList l vs.toArray := let ⟨o, ho, r⟩ := hL; ⟨o, B.sub.all _ _ ho, r⟩
  have hlv := hi.length
  k_steps
  refine Hold.out ?_
  rename Fr _ _ _ _ => F
  rename News _ _ _ _ => N
  generalize hm0 : (fun y => if y = Str.ofString "hi" then _ else _ : Str → Option Value) = m0 at F
  refine While_inv2 (fun n m news => news = [] ∧ ∃ (lo hh : Int), (∃ t, m (Str.ofString "lo") = some (.int lo t)) ∧ (∃ t, m (Str.ofString "hi") = some (.int hh t)) ∧ (∀ y, y ≠ Str.ofString "lo" → y ≠ Str.ofString "hi" → y ≠ Str.ofString "mid" → m y = m0 y) ∧
    0 ≤ lo ∧ lo ≤ hh ∧ hh ≤ ns.length ∧ (∀ i : Nat, (i : Int) < lo → ns.getD i 0 < x) ∧ (∀ i : Nat, hh ≤ i → i < ns.length → ¬ ns.getD i 0 < x) ∧ n = (hh - lo).toNat) F N (n₀ := ns.length) ?_ ?_
  · refine ⟨rfl, 0, ns.length, ⟨_, by subst hm0; rfl⟩, ⟨_, by subst hm0; rfl⟩, fun _ _ _ _ => rfl, by omega, by omega, by omega, fun i h => by omega, fun i h h' => by omega, by omega⟩
  · rintro n m₁ news₁ h tk F N ⟨rfl, lo, hh, ⟨t1, b1⟩, ⟨t2, b2⟩, b3, a0, a1, a2, a3, a4, a5⟩
    rw [canon3 b1 b2 rfl b3] at F
    generalize m₁ (Str.ofString "mid") = um at F
    clear b1 b2 b3
    subst hm0
    k_steps
    · rename Fr _ _ _ _ => F
      have c1 : (lo + hh).fdiv 2 = (lo + hh) / 2 := Int.fdiv_eq_ediv_of_nonneg _ (by decide)
      have c2 : ns.getD ((lo + hh).fdiv 2).toNat 0 < x := by assumption
      refine ⟨_, _, _, [], (hh - ((lo + hh).fdiv 2 + 1)).toNat, rfl, F, (fun _ h => nomatch h), by omega, rfl, (lo + hh).fdiv 2 + 1, hh, ⟨_, rfl⟩, ⟨_, rfl⟩, fun y h1 h2 h3 => by simp only [if_neg h1, if_neg h2, if_neg h3], by omega, by omega, by omega, fun i h => ?_, a4, rfl⟩
      exact Int.lt_of_le_of_lt (hs i _ (by omega) (by omega)) c2
    · rename Fr _ _ _ _ => F
      have c1 : (lo + hh).fdiv 2 = (lo + hh) / 2 := Int.fdiv_eq_ediv_of_nonneg _ (by decide)
      have c2 : ¬ ns.getD ((lo + hh).fdiv 2).toNat 0 < x := by assumption
      refine ⟨_, _, _, [], ((lo + hh).fdiv 2 - lo).toNat, rfl, F, (fun _ h => nomatch h), by omega, rfl, lo, (lo + hh).fdiv 2, ⟨_, rfl⟩, ⟨_, rfl⟩, fun y h1 h2 h3 => by simp only [if_neg h1, if_neg h2, if_neg h3], by omega, by omega, by omega, a3, fun i h h' q => ?_, rfl⟩
      exact c2 (Int.lt_of_le_of_lt (hs _ i (by omega) h') q)
    · rename Fr _ _ _ _ => F
      dsimp only
      have e : bis ns x = lo.toNat := bis_of (by omega) (fun i h => a3 i (by omega)) (fun i h h' => a4 i (by omega) h')
      have e2 : lo = ((bis ns x : Nat) : Int) := by omega
      rw [e2]
      exact ret _ _ _ (B.fin F)

/-- called with two arguments -/
theorem bisect_ok (X0 : (hd.heap_39 w.params).In g0) (T0 : Top p loose mean mg mb g0) {A : Around} {s : Shared} {R : Result → Shared → Prop} {l : Addr} {x : Int} {tx : Tok} {vs : List Value} {ns : List Int}
    (hd : A.depth + 1 < recursionLimit) (hA : A.handled = none) (st : g0.StaysIn s.heap) (hL : s.heap.IsList l vs.toArray) (hi : IntsAre vs ns) (hs : Sorted ns) (hlen : ns.length < 2 ^ 40)
    (ret : ∀ h' tk' t, Keep [] s.heap h' → R (.ok (.ret (.int (bis ns x) t))) { s with heap := h', toks := tk' }) :
    codeAny (model prog w) A (.call (.ref 74) ⟨[.ref l, .int x tx], []⟩) R s := by
  refine bisect_any X0 T0 (tx := tx) (fun oc od fd sl h => ?_) hd hA st hL hi hs hlen ret
  refine' with_lookup h ?hk ?_
  case hk => k_is
  intro e
  cases e
  exact ⟨_, fun _ => rfl⟩

/-- called by insort_left -/
theorem bisect_ok4 (X0 : (hd.heap_39 w.params).In g0) (T0 : Top p loose mean mg mb g0) {A : Around} {s : Shared} {R : Result → Shared → Prop} {l : Addr} {x : Int} {tx t0 : Tok} {vs : List Value} {ns : List Int}
    (hd : A.depth + 1 < recursionLimit) (hA : A.handled = none) (st : g0.StaysIn s.heap) (hL : s.heap.IsList l vs.toArray) (hi : IntsAre vs ns) (hs : Sorted ns) (hlen : ns.length < 2 ^ 40)
    (ret : ∀ h' tk' t, Keep [] s.heap h' → R (.ok (.ret (.int (bis ns x) t))) { s with heap := h', toks := tk' }) :
    codeAny (model prog w) A (.call (.ref 74) ⟨[.ref l, .int x tx, .int 0 t0, .none], []⟩) R s := by
  refine bisect_any X0 T0 (tx := tx) (fun oc od fd sl h => ?_) hd hA st hL hi hs hlen ret
  refine' with_lookup h ?hk ?_
  case hk => k_is
  intro e
  cases e
  exact ⟨_, fun _ => rfl⟩
end

section
variable {prog : Program} {w : World} {p : Program} {loose : List Str} {mean : ExcName → Option Value} {mg mb : Str → Option Value} {g0 : Heap}
theorem insort_any (X0 : (hd.heap_39 w.params).In g0) (T0 : Top p loose mean mg mb g0) {A : Around} {s : Shared} {R : Result → Shared → Prop} {D : Addr} {x : Int} {tx : Tok} {vs : List Value} {ns : List Int} {n : Nat}
    (hd : A.depth + 2 < recursionLimit) (hA : A.handled = none) (st : g0.StaysIn s.heap) (hL : s.heap.get? D = some (listOf vs.toArray n)) (hD0 : g0.get? D = none) (hi : IntsAre vs ns) (hs : Sorted ns) (hlen : ns.length < 1000)
    (ret : ∀ h' tk', Keep [D] s.heap h' → h'.get? D = some (listOf (vs.take (bis ns x) ++ .int x tx :: vs.drop (bis ns x)).toArray (n + 1)) → IntsAre (vs.take (bis ns x) ++ .int x tx :: vs.drop (bis ns x)) (ins ns x) → R (.ok (.ret .none)) { s with heap := h', toks := tk' }) :
    codeAny (model prog w) A (.call (.ref 65) ⟨[.ref D, .int x tx], []⟩) R s := by
  obtain ⟨hh, dp, fr, gd, un⟩ := A
  change hh = none at hA
  subst hA
  change dp + 2 < recursionLimit at hd
  refine' enter_q (f := 65) (mv := [(D, listOf vs.toArray n)]) X0 T0 st (List.forall_mem_cons.mpr ⟨⟨hL, hD0⟩, fun _ h => nomatch h⟩) ?ho ?hcd ?room ?bind ?loc ?_ ?c2 ?c3 ?c4 ?c5
  case ho => exact (X0.keeps st) _ _ (by k_is)
  case hcd => exact codeRec_of (X0.keeps st) (by k_is)
  case bind => exact kp_binds (X0.keeps st) (fun _ => rfl)
  case loc => exact locs rfl
  case c5 => decide
  case c2 => exact rfl
  case c3 => exact rfl
  case c4 => exact rfl
  case room => (try dsimp only); omega
  intro g L h₁ F₁ N₁ B X₁ Top₁ lt₁
  clear lt₁
  (try dsimp only)
  (try k_fold)
  have hlv := hi.length
  have hble := bis_le ns x
  k_steps
  refine wpAny_call (bisect_ok4 X0 T0 (by show dp + 1 + 1 < _; omega) rfl (fun b o e => F₁.keep b o (B.stay b o e)) (News.isList N₁ (.head _)) hi hs (by omega) fun h2 tk2 t2 kp => ?_)
  have F2 := fr_back F₁ kp
  have N2 := news_back N₁ kp
  clear F₁ N₁
  (try dsimp only)
  k_steps
  rename Fr _ _ _ _ => F
  rename News _ _ _ _ => N
  have hki : kl_ins vs ((bis ns x : Nat) : Int) (.int x tx) = vs.take (bis ns x) ++ .int x tx :: vs.drop (bis ns x) := by
    unfold kl_ins
    rw [if_neg (by omega), Int.toNat_natCast, Nat.min_eq_left (by omega)]
  refine' kl_insert (its := vs.toArray) F N ?hf hki ?u ?z ?_
  case hf =>
    simp only [Builtin.List.listFitsIndex, Bool.and_eq_true, decide_eq_true_eq]
    omega
  case u => k_upd
  case z =>
    rw [PySem.sizeLine_eq]
    show vs.length ≤ _
    omega
  intro h' F' N'
  clear F N
  k_steps
  exact ret _ _ (B.fin F') (N' _ (.head _)).1 ((ints_take hi _).append (.cons _ _ (ints_drop hi _)))
end

section
variable {prog : Program} {w : World} {p : Program} {loose : List Str} {mean : ExcName → Option Value} {mg mb : Str → Option Value} {g0 : Heap}
local macro_rules | `(tactic| walk_at "zz") => `(tactic| fail "zz")
local macro_rules | `(tactic| walk_at "zz") => `(tactic| fail "zz")
local macro_rules | `(tactic| walk_at "zz") => `(tactic| fail "zz")
local macro_rules | `(tactic| walk_at "zz") => `(tactic| fail "zz")
local macro_rules | `(tactic| walk_at "exec While Compare cons nil") => `(tactic| (k_here; refine hold_in ?_))
theorem law_laid_ok (G : Glo (hd.heap_39 w.params) p loose mean mg mb EE g0) {A : Around} {s : Shared} {R : Result → Shared → Prop} {number : Int} {ta : Tok}
    (hd : A.depth + 140 < recursionLimit) (hA : A.handled = none) (I : Inv EE g0 s.heap) (hn : -9841 ≤ number ∧ number ≤ 9841)
    (ret : ∀ r h' tk' vs n, Grow EE [] s.heap h' → Inv EE g0 h' → s.heap.get? r = none → h'.get? r = some (listOf vs.toArray n) → IntsAre vs (laid number) → R (.ok (.ret (.ref r))) { s with heap := h', toks := tk' }) :
    codeAny (model prog w) A (.call (.ref 81) ⟨[.int number ta], []⟩) R s := by
  obtain ⟨hh, dp, fr, gd, un⟩ := A
  change hh = none at hA
  subst hA
  change dp + 140 < recursionLimit at hd
  refine' enter_def (f := 81) G I ?ho ?hcd ?room ?bind ?loc ?_ ?c2 ?c3 ?c4 ?c5
  case ho => exact ((Glo.X G).keeps (Inv.stay I)) _ _ (by k_is)
  case hcd => exact codeRec_of ((Glo.X G).keeps (Inv.stay I)) (by k_is)
  case bind => exact BindsTo.of_eq rfl
  case loc => exact locs rfl
  case c5 => decide
  case c2 => exact rfl
  case c3 => exact rfl
  case c4 => exact rfl
  case room => (try dsimp only); omega
  intro g L h₁ tl F₁ N₁ T₁ B X₁ Top₁ C₁ lt₁
  (try dsimp only)
  (try k_fold)
  k_steps
  refine Hold.out ?_
  rename Fr _ _ _ _ => F
  rename News _ _ _ _ => N
  rename_i D hh1 hh2 tk1
  generalize hm0 : (fun y => if y = Str.ofString "found" then _ else _ : Str → Option Value) = m0 at F
  have hL9 : (laid number).length ≤ 9 := (laid_len 9 number).mpr hn
  refine While_inv2 (fun n m news => ∃ (k : Int) (vs : List Value) (c : Nat) (ks : List Int) (tl' : List (Addr × Obj)), news = (D, listOf vs.toArray c) :: tl' ∧ Tl EE g tl' ∧ (∃ t, m (Str.ofString "number") = some (.int k t)) ∧ m (Str.ofString "found") = some (.ref D) ∧
    IntsAre vs ks ∧ ks ++ laid k = laid number ∧ -9841 ≤ k ∧ k ≤ 9841 ∧ n = (laid k).length) F N (n₀ := (laid number).length) ?_ ?_
  · exact ⟨number, [], 0, [], _, rfl, T₁, ⟨_, by subst hm0; rfl⟩, by subst hm0; rfl, .nil, rfl, hn.1, hn.2, rfl⟩
  · rintro n m₁ news₁ h tk F N ⟨k, vs, c, ks, tl', rfl, T, ⟨t1, b1⟩, b2, hi, he, k0, k1, rfl⟩
    rw [canon2 b1 b2 (m0 := m₁) (fun _ _ _ => rfl)] at F
    clear b1 b2
    have hvl := hi.length
    have hkl : ks.length ≤ 9 := by
      have := congrArg List.length he
      rw [List.length_append] at this
      omega
    k_steps
    · rename Fr _ _ _ _ => F
      rename News _ _ _ _ => N
      have hk : k ≠ 0 := by assumption
      refine int_divmod_use (own := [_]) G F N (.cons .nil) T ⟨notTab_seq rfl, trivial⟩ B.stay (by show dp + 1 + 130 < _; omega) rfl (by omega) (by omega) (by decide) (by decide) fun rt h2 tk2 tq tr tl2 F2 N2 T3 hne => ?_
      simp only [List.cons_append, List.nil_append] at N2
      simp only [AllNe] at hne
      clear F N
      (try dsimp only)
      k_steps
      rename Fr _ _ _ _ => F
      rename News _ _ _ _ => N
      rw [List.push_toArray] at N
      refine ⟨_, _, _, _, (laid ((k + 1) / 3)).length, rfl, F, cb_drop N (fun p hp => .tail _ hp), ?_, (k + 1) / 3, _, c + 1, ks ++ [(k + 1) % 3 - 1], tl2, rfl, T3, ⟨_, rfl⟩, rfl, hi.append (.cons _ _ .nil), ?_, by omega, by omega, rfl⟩
      · rw [laid_eq hk]; exact Nat.lt_succ_self _
      · rw [List.append_assoc, List.singleton_append, ← laid_eq hk, he]
    · rename Fr _ _ _ _ => F
      rename News _ _ _ _ => N
      have hk : k = 0 := by assumption
      subst hk
      rw [laid_zero, List.append_nil] at he
      subst he
      (try dsimp only)
      k_steps
      (try dsimp only)
      have fin := B.fin (own := [_]) F N T
      have fr := B.fresh fin.2 N (.head _) (notTab_seq rfl) (fun h => nomatch h)
      exact ret _ _ _ _ _ fin.1 fin.2 fr.1 fr.2 hi

theorem law_laid_use (G : Glo (hd.heap_39 w.params) p loose mean mg mb EE g0) {A : Around} {s : Shared} {Q E : Value → Shared → Prop} {number : Int} {ta : Tok} {g : Heap} {L : Addr} {m : Str → Option Value} {news own tl : List (Addr × Obj)}
    (F : Fr g L s.heap m) (N : News g L s.heap news) (sp : Split news own tl) (T : Tl EE g tl) (hno : AllNot own) (st : g0.StaysIn g)
    (hd : A.depth + 140 < recursionLimit) (hA : A.handled = none) (hn : -9841 ≤ number ∧ number ≤ 9841)
    (h : ∀ r h' tk' vs n tl', Fr g L h' m → News g L h' ((r, listOf vs.toArray n) :: (own ++ tl')) → Tl EE g tl' → AllNe r own → IntsAre vs (laid number) → Q (.ref r) { s with heap := h', toks := tk' }) :
    wpAny (model prog w) A (call (.ref 81) [.int number ta]) Q E s := by
  have e := sp.eq
  subst e
  refine wpAny_call (law_laid_ok G hd hA (inv_of F N T st) hn fun r h' tk' vs n gr I' h0 h1 hv => ?_)
  obtain ⟨F', tl', N', T'⟩ := come_back F N T hno st gr I'
  exact h _ _ _ _ _ _ F' (news_cons F N' h0 h1) T' (allNe_new (fun p hp => N p (List.mem_append_left _ hp)) h0) hv
end

section
variable {prog : Program} {w : World} {p : Program} {loose : List Str} {mean : ExcName → Option Value} {mg mb : Str → Option Value} {g0 : Heap}
local macro_rules | `(tactic| walk_at "zz") => `(tactic| fail "zz")
local macro_rules | `(tactic| walk_at "zz") => `(tactic| fail "zz")
local macro_rules | `(tactic| walk_at "zz") => `(tactic| fail "zz")
local macro_rules | `(tactic| walk_at "zz") => `(tactic| fail "zz")
local macro_rules | `(tactic| walk_at "zz") => `(tactic| fail "zz")
local macro_rules | `(tactic| walk_at "exec For Tuple Call") => `(tactic| (k_here; (with_reducible show wpAny _ _ (exec (Stmt.For (PySem.Expr.Tuple _ _ _) (PySem.Expr.Call (PySem.Expr.Name (Str.ofString "enumerate") _) _ _ _) _ _ _) _) _ _ _); (rename Fr _ _ _ _ => lF'); (with_unfolding_all refine' For_pair3F lF' ?hh ?hxi ?hxc ?hp ?_ ?hs); (case hh => exact rfl); (case hxi => exact rfl); (case hxc => exact rfl); (case hp => exact rfl); (case hs => exact fun _ => rfl); k_whole))
local macro_rules | `(tactic| walk_at "call type:enumerate") => `(tactic| (k_here; refine hold_in ?_))
theorem wt_bound : ∀ (ds : List Int), (∀ d ∈ ds, d = -1 ∨ d = 0 ∨ d = 1) → -ss ds.length ≤ wt ds ∧ wt ds ≤ ss ds.length
  | [], _ => by simp [wt, ss]
  | d :: r, h => by
    have h1 := wt_bound r fun x hx => h x (.tail _ hx)
    have h2 := h d (.head _)
    rw [wt, List.length_cons, ss]
    omega
theorem pow3_bound (i : Nat) (h : i < 9) : 0 < (3 : Int) ^ i ∧ (3 : Int) ^ i < 10000 := by
  have h1 := ss_pow i
  have h2 := ss_pos i
  have h3 := ss_le (i := i) (j := 8) (by omega)
  have h4 : ss 8 = 3280 := by decide
  omega
theorem pan_mul {d k : Int} (h : d = -1 ∨ d = 0 ∨ d = 1) (h0 : 0 < k) (h1 : k < 10000) : -10000 < d * k ∧ d * k < 10000 := by
  rcases h with rfl | rfl | rfl <;> omega
theorem law_weight_ok (X0 : (hd.heap_39 w.params).In g0) (T0 : Top p loose mean mg mb g0) {A : Around} {s : Shared} {R : Result → Shared → Prop} {l : Addr} {vs : List Value} {ns : List Int}
    (hd : A.depth + 1 < recursionLimit) (hA : A.handled = none) (st : g0.StaysIn s.heap) (hL : s.heap.IsList l vs.toArray) (hi : IntsAre vs ns) (hlen : ns.length ≤ 9) (hb : ∀ d ∈ ns, d = -1 ∨ d = 0 ∨ d = 1)
    (ret : ∀ h' tk' t, Keep [] s.heap h' → R (.ok (.ret (.int (wt ns) t))) { s with heap := h', toks := tk' }) :
    codeAny (model prog w) A (.call (.ref 93) ⟨[.ref l], []⟩) R s := by
  obtain ⟨hh, dp, fr, gd, un⟩ := A
  change hh = none at hA
  subst hA
  change dp + 1 < recursionLimit at hd
  refine' enter_q (f := 93) (mv := []) X0 T0 st (fun _ h => nomatch h) ?ho ?hcd ?room ?bind ?loc ?_ ?c2 ?c3 ?c4 ?c5
  case ho => exact (X0.keeps st) _ _ (by k_is)
  case hcd => exact codeRec_of (X0.keeps st) (by k_is)
  case bind => exact BindsTo.of_eq rfl
  case loc => exact locs rfl
  case c5 => decide
  case c2 => exact rfl
  case c3 => exact rfl
  case c4 => exact rfl
  case room => (try dsimp only); omega
  intro g L h₁ F₁ N₁ B X₁ Top₁ lt₁
  clear lt₁
  (try dsimp only)
  (try k_fold)
  k_steps
  refine Hold.out ?_
  rename Fr _ _ _ _ => F
  rename News _ _ _ _ => N
  generalize hm0 : (fun y => if y = Str.ofString "whole" then _ else _ : Str → Option Value) = m0 at F
  have hvl := hi.length
  have hlL : l ≠ L := fun q => by
    subst q
    obtain ⟨o, e, -, n, hd⟩ := hL
    obtain ⟨oL, es, ep, hL2, hLd, _⟩ := F.ns
    have := F.keep _ _ (B.sub.all _ _ e)
    rw [hL2] at this
    cases this
    rw [hd] at hLd; cases hLd
  have hLs : ∀ {h : Heap} {m : Str → Option Value}, Fr g L h m → h.IsList l vs.toArray := fun F => let ⟨o, e, r⟩ := hL; ⟨o, F.keep _ _ (B.sub.all _ _ e), r⟩
  refine loop_enum (l := l) (vs := vs) (news := [])
    (fun i m news => news = [] ∧ (∃ t, m (Str.ofString "whole") = some (.int (wt (ns.take i)) t)) ∧ ∀ y, y ≠ Str.ofString "whole" → y ≠ Str.ofString "k" → y ≠ Str.ofString "pan" → m y = m0 y)
    rfl (hLs F) hlL F N ?_ ?_ ?_
  · exact ⟨rfl, ⟨_, by subst hm0; rfl⟩, fun _ _ _ _ => rfl⟩
  · rintro i v t m₁ news₁ h tk own hv ⟨rfl, ⟨t1, b1⟩, b2⟩ - - F N
    obtain ⟨d, td, rfl, hdk⟩ := IntsAre.at hi _ v hv
    have hi9 : i < 9 := by
      have := (List.getElem?_eq_some_iff.mp hv).1
      omega
    rw [canon1 (m := m₁) (a := Str.ofString "whole") b1 (m0 := m₁) (fun _ _ => rfl)] at F
    have hd1 := hb d (List.mem_of_getElem? hdk)
    have hd2 : -1 ≤ d ∧ d ≤ 1 := by omega
    obtain ⟨p0, p1⟩ := pow3_bound i hi9
    obtain ⟨q0, q1⟩ := pan_mul hd1 p0 p1
    have hw := wt_bound (ns.take i) fun x hx => hb x (List.mem_of_mem_take hx)
    have hss : ss (ns.take i).length ≤ 9841 := Int.le_trans (ss_le (j := 9) (by rw [List.length_take]; omega)) (by decide)
    have hw1 : -9841 ≤ wt (ns.take i) ∧ wt (ns.take i) ≤ 9841 := by omega
    have hws := wt_take ns i d hdk
    clear hw hss
    have hp3 : (3 : Int) ^ (i : Int).toNat = 3 ^ i := by rw [Int.toNat_natCast]
    k_steps
    rename Fr _ _ _ _ => F
    rename News _ _ _ _ => N
    refine ⟨_, _, _, [], rfl, F, N, rfl, rfl, ⟨_, by rw [hws, ← hp3]; exact rfl⟩, fun y h1 h2 h3 => ?_⟩
    · simp only [if_neg h1, if_neg h2, if_neg h3]
      exact b2 y h1 h2 h3
  · rintro m₁ news₁ h tk ⟨rfl, ⟨t1, b1⟩, b2⟩ - F N
    rw [canon1 (m := m₁) (a := Str.ofString "whole") b1 (m0 := m₁) (fun _ _ => rfl)] at F
    k_steps
    rename Fr _ _ _ _ => F
    dsimp only
    rw [hvl, List.take_length]
    exact ret _ _ _ (B.fin F)
end

section
variable {prog : Program} {w : World} {p : Program} {loose : List Str} {mean : ExcName → Option Value} {mg mb : Str → Option Value} {g0 : Heap}
local macro_rules | `(tactic| walk_at "zz") => `(tactic| fail "zz")
local macro_rules | `(tactic| walk_at "zz") => `(tactic| fail "zz")
local macro_rules | `(tactic| walk_at "zz") => `(tactic| fail "zz")
local macro_rules | `(tactic| walk_at "zz") => `(tactic| fail "zz")
local macro_rules | `(tactic| walk_at "zz") => `(tactic| fail "zz")
local macro_rules | `(tactic| walk_at "zz") => `(tactic| fail "zz")
local macro_rules | `(tactic| walk_at "zz") => `(tactic| fail "zz")
local macro_rules | `(tactic| walk_at "exec Assign cons ListComp") => `(tactic| (k_here; (with_reducible show wpAny _ _ (exec (PySem.Stmt.Assign _ (PySem.Expr.ListComp _ [⟨PySem.Expr.Name _ _, _, [], 0⟩, ⟨PySem.Expr.Name _ _, _, [], 0⟩] _ _) _) _) _ _ _); k_dflt (refine Assign_comp2 (by with_unfolding_all rfl) (by with_unfolding_all rfl) (by rfl) (by decide) ?_)))
theorem allLt_mem {d : Nat} : ∀ {l : List (Addr × Obj)}, AllLt d l → ∀ p ∈ l, @Ne Nat p.1 d
  | [], _, p, hp => nomatch hp
  | q :: r, h, p, hp => by
    rcases List.mem_cons.mp hp with rfl | hp
    · exact Nat.ne_of_lt h.1
    · exact allLt_mem h.2 p hp
theorem waysP_len : ∀ k, (waysP k).length = 3 ^ k
  | 0 => rfl
  | k + 1 => by
    rw [waysP, List.length_flatMap, Nat.pow_succ, ← waysP_len k]
    simp [List.map_const']
theorem waysP_each : ∀ k, k < 4 → ∀ w ∈ waysP k, w.length = k ∧ ∀ d ∈ w, d = -1 ∨ d = 0 ∨ d = 1 := by decide +kernel
theorem waysP_small (k : Nat) (h : k < 4) : (waysP k).length ≤ 27 := by
  rw [waysP_len]
  exact Nat.pow_le_pow_right (by decide) (show k ≤ 3 by omega)
theorem law_ways_ok (X0 : (hd.heap_39 w.params).In g0) (T0 : Top p loose mean mg mb g0) {A : Around} {s : Shared} {R : Result → Shared → Prop} {many : Int} {n0 : Nat} {ta : Tok}
    (hd : A.depth + 1 < recursionLimit) (hA : A.handled = none) (st : g0.StaysIn s.heap) (hm : many = (n0 : Int)) (h3 : n0 ≤ 3)
    (ret : ∀ S vs k own h' tk', Keep [] s.heap h' → (∀ p ∈ (S, listOf vs.toArray k) :: own, s.heap.get? p.1 = none ∧ h'.get? p.1 = some p.2) → (∀ p ∈ own, @Ne Nat p.1 S) → LA own vs (waysP n0) → NoF own → R (.ok (.ret (.ref S))) { s with heap := h', toks := tk' }) :
    codeAny (model prog w) A (.call (.ref 86) ⟨[.int many ta], []⟩) R s := by
  obtain ⟨hh, dp, fr, gd, un⟩ := A
  change hh = none at hA
  subst hA
  change dp + 1 < recursionLimit at hd
  refine' enter_q (f := 86) (mv := []) X0 T0 st (fun _ h => nomatch h) ?ho ?hcd ?room ?bind ?loc ?_ ?c2 ?c3 ?c4 ?c5
  case ho => exact (X0.keeps st) _ _ (by k_is)
  case hcd => exact codeRec_of (X0.keeps st) (by k_is)
  case bind => exact BindsTo.of_eq rfl
  case loc => exact locs rfl
  case c5 => decide
  case c2 => exact rfl
  case c3 => exact rfl
  case c4 => exact rfl
  case room => (try dsimp only); omega
  intro g L h₁ F₁ N₁ B X₁ Top₁ lt₁
  clear lt₁
  (try dsimp only)
  (try k_fold)
  k_steps
  refine Hold.out ?_
  rename IsRange _ _ _ _ _ _ _ _ => hr
  rename Fr _ _ _ _ => F
  rename News _ _ _ _ => N
  generalize hm0 : (fun y => if y = Str.ofString "found" then _ else _ : Str → Option Value) = m0 at F
  refine loopq_range (n := n0)
    (fun i m own => ∃ S vs k own', own = (S, listOf vs.toArray k) :: own' ∧ m (Str.ofString "found") = some (.ref S) ∧ LA own' vs (waysP i) ∧ ∀ p ∈ own', @Ne Nat p.1 S)
    rfl hr (by subst hm; exact small_one (by omega) (by omega) (by omega) (by omega)) (by rw [rangeSize_nat]; omega) F N ?_ ?_ ?_ ?_
  · exact NoF.cons (notF_seq rfl) (NoF.cons (notF_seq rfl) fun _ h => nomatch h)
  · refine ⟨_, _, _, _, rfl, by subst hm0; rfl, .cons (ws := []) (.head _) .nil .nil, fun p hp => ?_⟩
    rw [List.mem_singleton.mp hp]
    show @Ne Nat _ _
    omega
  · rintro i tk' m₁ own₁ h tk I it hin ⟨S, vs, k, own', rfl, b1, hLA, hne⟩ hF₁ F N hI
    rw [canon1 (m := m₁) (a := Str.ofString "found") b1 (m0 := m₁) (fun _ _ => rfl)] at F
    k_steps
    refine Hold.out ?_
    rename Fr _ _ _ _ => F
    rename News _ _ _ _ => N
    have hw3 := waysP_small i (by omega)
    have hwe := waysP_each i (by omega)
    have hvl := hLA.length
    refine comp2_list (own := (I, it) :: (S, listOf vs.toArray k) :: own') (W := waysP i) (cs := [-1, 0, 1]) rfl (.tail _ (.head _)) (hLA.mono fun p hp => .tail _ (.tail _ hp)) (by rw [PySem.sizeLine_eq, hvl]; show _ * 3 ≤ _; omega) (by decide) rfl rfl rfl (by decide) F N (fun _ _ => rfl) ?_ ?_ (fun _ => rr2_assign rfl rfl ?_)
    · intro h tk C oC m₂ ledger E' hoC F N
      k_steps
      rename Fr _ _ _ _ => F
      rename News _ _ _ _ => N
      rename _ ∧ AllLt _ _ => hlt
      refine ⟨_, _, _, _, _, rfl, rfl, F, N, fun p hp => ?_, .cons _ _ (.cons _ _ (.cons _ _ .nil))⟩
      rcases List.mem_cons.mp hp with rfl | hp
      · exact Nat.ne_of_lt hlt.1
      · exact allLt_mem hlt.2 p hp
    · intro l ws k w' c t h tk C oC m₂ ledger E' hoC hx hy hw hc hws F N
      have hwl : w'.length ≤ 3 := by have := (hwe w' hw).1; omega
      have hwsl := hws.length
      k_steps
      rename Fr _ _ _ _ => F
      rename News _ _ _ _ => N
      rename _ ∧ _ ∧ _ ∧ AllLt _ _ => hlt
      rename IntsAre _ (w' ++ [c]) => hr'
      refine ⟨_, _, _, _, 0, rfl, rfl, F, fun p hp => N p ?_, fun p hp => ?_, hr'⟩
      · rcases List.mem_cons.mp hp with rfl | hp
        · exact .head _
        · exact .tail _ (.tail _ hp)
      · rcases List.mem_cons.mp hp with rfl | hp
        · exact Nat.ne_of_lt hlt.2.1
        · rcases List.mem_cons.mp hp with rfl | hp
          · exact Nat.ne_of_lt hlt.2.2.1
          · exact allLt_mem hlt.2.2.2 p hp
    · rintro D ys own'' h tk hsub hLA' hne' F N
      dsimp only
      obtain ⟨own3, e1, e2, e3⟩ := LA.extract hLA'
      k_steps
      refine ⟨_, _, _, (D, LCg.lst ys) :: own3, rfl, F, fun p hp => ?_, NoF.cons (notF_seq rfl) e2, D, ys, ys.length, own3, rfl, rfl, ?_, fun p hp => hne' p (e1 p hp)⟩
      · rcases List.mem_cons.mp hp with rfl | hp
        · exact N _ (.tail _ (hsub _ (.head _)))
        · rcases List.mem_cons.mp hp with rfl | hp
          · exact N _ (.head _)
          · exact N _ (.tail _ (e1 _ hp))
      · exact e3
  · rintro m₁ own₁ h tk ⟨S, vs, k, own', rfl, b1, hLA, hne⟩ hF₁ F N
    rw [canon1 (m := m₁) (a := Str.ofString "found") b1 (m0 := m₁) (fun _ _ => rfl)] at F
    k_steps
    dsimp only
    exact ret S vs k own' _ _ (B.fin F) (fun p hp => B.fresh N hp (fun h => nomatch h)) hne hLA fun p hp => hF₁ p (.tail _ hp)
end

section
variable {prog : Program} {w : World} {p : Program} {loose : List Str} {mean : ExcName → Option Value} {mg mb : Str → Option Value} {g0 : Heap}
theorem law_weight_use (X0 : (hd.heap_39 w.params).In g0) (T0 : Top p loose mean mg mb g0) {A : Around} {s : Shared} {Q E : Value → Shared → Prop} {l : Addr} {vs : List Value} {ns : List Int} {g : Heap} {L : Addr} {m : Str → Option Value} {news : List (Addr × Obj)}
    (st : g0.StaysIn g) (F : Fr g L s.heap m) (N : News g L s.heap news)
    (hd : A.depth + 1 < recursionLimit) (hA : A.handled = none) (hL : s.heap.IsList l vs.toArray) (hi : IntsAre vs ns) (hlen : ns.length ≤ 9) (hb : ∀ d ∈ ns, d = -1 ∨ d = 0 ∨ d = 1)
    (h : ∀ h' tk' t, Fr g L h' m → News g L h' news → Q (.int (wt ns) t) { s with heap := h', toks := tk' }) :
    wpAny (model prog w) A (call (.ref 93) [.ref l]) Q E s :=
  wpAny_call (law_weight_ok X0 T0 hd hA (fun b o e => F.keep b o (st b o e)) hL hi hlen hb fun h' tk' t k => h _ _ _ (fr_back F k) (news_back N k))

theorem law_ways_use (X0 : (hd.heap_39 w.params).In g0) (T0 : Top p loose mean mg mb g0) {A : Around} {s : Shared} {Q E : Value → Shared → Prop} {many : Int} {n0 : Nat} {ta : Tok} {g : Heap} {L : Addr} {m : Str → Option Value} {news : List (Addr × Obj)}
    (st : g0.StaysIn g) (F : Fr g L s.heap m) (N : News g L s.heap news)
    (hd : A.depth + 1 < recursionLimit) (hA : A.handled = none) (hm : many = (n0 : Int)) (h3 : n0 ≤ 3)
    (h : ∀ S vs k own h' tk', Fr g L h' m → News g L h' ((S, listOf vs.toArray k) :: (own ++ news)) → LA own vs (waysP n0) → NoF own → Q (.ref S) { s with heap := h', toks := tk' }) :
    wpAny (model prog w) A (call (.ref 86) [.int many ta]) Q E s :=
  wpAny_call (law_ways_ok X0 T0 hd hA (fun b o e => F.keep b o (st b o e)) hm h3 fun S vs k own h' tk' kp hown hne hLA hF => by
    have nw : ∀ p ∈ (S, listOf vs.toArray k) :: own, News g L h' [p] := fun p hp => news_cons F (fun _ h => nomatch h) (hown p hp).1 (hown p hp).2
    refine h S vs k own h' tk' (fr_back F kp) (fun p hp => ?_) hLA hF
    rcases List.mem_cons.mp hp with rfl | hp
    · exact nw _ (.head _) _ (.head _)
    · rcases List.mem_append.mp hp with hp | hp
      · exact nw _ (.tail _ hp) _ (.head _)
      · exact news_back N kp p hp)

theorem glo_of {g h : Heap} {L : Addr} {news : List (Addr × Obj)} (X : (hd.heap_39 w.params).In g) (T : Top p loose mean mg mb g) (N : News g L h news) (c1 : CodeHd g 41 37) (c2 : CodeHd g 34 30) (h1 : (37, tabObj #[]) ∈ news) (h2 : (30, tabObj #[]) ∈ news) :
    Glo (hd.heap_39 w.params) p loose mean mg mb EE g where
  X := X
  T := T
  code := fun e he => by
    rcases List.mem_cons.mp he with rfl | he
    · exact c2
    · rw [List.mem_singleton.mp he]; exact c1
  off := fun e he => by
    rcases List.mem_cons.mp he with rfl | he
    · exact (N _ h2).2.2
    · rw [List.mem_singleton.mp he]; exact (N _ h1).2.2
theorem tl_of {g : Heap} : Tl EE g [(37, tabObj #[]), (30, tabObj #[])] where
  tab := fun e he => by
    rcases List.mem_cons.mp he with rfl | he
    · exact ⟨_, .tail _ (.head _), .inl rfl⟩
    · rw [List.mem_singleton.mp he]; exact ⟨_, .head _, .inl rfl⟩
  kinds := fun p hp => by
    rcases List.mem_cons.mp hp with rfl | hp
    · exact .inl ⟨_, rfl⟩
    · rw [List.mem_singleton.mp hp]; exact .inl ⟨_, rfl⟩

/-- a call that turned one object of the ledger's own part -/
theorem back_own {g h h' : Heap} {L : Addr} {m : Str → Option Value} {pre post tl : List (Addr × Obj)} {d : Addr} {o o' : Obj} (F : Fr g L h m) (N : News g L h (pre ++ (d, o) :: (post ++ tl))) (T : Tl EE g tl) (k : Keep [d] h h') (hd : h'.get? d = some o') (hn : notTl o)
    (h1 : ∀ p ∈ pre, p.1 ≠ d) (h2 : ∀ p ∈ post, p.1 ≠ d) :
    Fr g L h' m ∧ News g L h' (pre ++ (d, o') :: (post ++ tl)) :=
  back1 F N k hd h1 fun p hp => (List.mem_append.mp hp).elim (h2 p) (T.off N (fun p hp => List.mem_append_right _ (.tail _ (List.mem_append_right _ hp))) (N (d, o) (List.mem_append_right _ (.head _))).1 hn p)

def JT (g : Heap) (L : Addr) (m : Str → Option Value) (own : List (Addr × Obj)) (s : Shared) (b : Bool) (s' : Shared) : Prop :=
  b = false ∧ ∃ h' tk' tl', s' = { s with heap := h', toks := tk' } ∧ Fr g L h' m ∧ News g L h' (own ++ tl') ∧ Tl EE g tl'
theorem join_test {M : Model} {e : Sem Bool} {A : Around} {s : Shared} {g : Heap} {L : Addr} {m : Str → Option Value} {own tl : List (Addr × Obj)} {Q : Bool → Shared → Prop} {E : Value → Shared → Prop} (F : Fr g L s.heap m) (N : News g L s.heap (own ++ tl)) (T : Tl EE g tl)
    (h1 : wpAny M A e (fun b s' => JT g L m own s b s') E s)
    (h2 : ∀ h' tk' tl', Fr g L h' m → News g L h' (own ++ tl') → Tl EE g tl' → Q false { s with heap := h', toks := tk' }) : wpAny M A e Q E s :=
  wpAny_mono h1 (fun b s' ⟨hf, h', tk', tl', hs, F', N', T'⟩ => by subst hf; subst hs; exact h2 h' tk' tl' F' N' T') fun _ _ e => e

def lawFn : List Stmt × Scope := match PySem.Challenge.pw_zx0003_02.main.body.getLast? with
  | some (.FunctionDef _ _ b _ _ _ sc _ _ _) => (b, sc)
  | _ => ([], PySem.Challenge.pw_zx0003_02.main.scope)
def turnBody : List Stmt := match lawFn.1 with
  | _ :: .For _ _ b _ _ :: _ => b
  | _ => []
def lawScope : Scope := lawFn.2
def nthS : List Stmt → Nat → Stmt
  | [], _ => .Pass ⟨0, 0, 0, 0⟩
  | x :: _, 0 => x
  | _ :: r, n + 1 => nthS r n
def stS (n : Nat) : Stmt := nthS turnBody n
/-- the statements behind the loop -/
def stT (n : Nat) : Stmt := nthS lawFn.1 (n + 2)
def envL (L fa : Addr) (cd : Value) : Env := envOfC (Str.ofString "law") lawScope L fa cd
end

section
variable {prog : Program} {w : World} {p : Program} {loose : List Str} {mean : ExcName → Option Value} {mg mb : Str → Option Value} {g0 : Heap}
local macro_rules | `(tactic| walk_at "zz") => `(tactic| fail "zz")
local macro_rules | `(tactic| walk_at "zz") => `(tactic| fail "zz")
local macro_rules | `(tactic| walk_at "zz") => `(tactic| fail "zz")
local macro_rules | `(tactic| walk_at "zz") => `(tactic| fail "zz")
local macro_rules | `(tactic| walk_at "zz") => `(tactic| fail "zz")
local macro_rules | `(tactic| walk_at "zz") => `(tactic| fail "zz")
local macro_rules | `(tactic| walk_at "zz") => `(tactic| fail "zz")
local macro_rules | `(tactic| walk_at "zz") => `(tactic| fail "zz")
local macro_rules | `(tactic| walk_at "eval ListComp") => `(tactic| (k_here; (with_reducible show wpAny _ _ (eval (PySem.Expr.ListComp _ [⟨PySem.Expr.Name _ _, _, [_], 0⟩] _ _) _) _ _ _); k_dflt (refine ListComp_own (by with_unfolding_all rfl) (by rfl) (by decide) ?_)))
local macro_rules | `(tactic| k_ne) => `(tactic| (refine neN ?_; (try dsimp only); first | assumption | exact Ne.symm (by assumption)))
theorem st2 (G : Glo (hd.heap_39 w.params) p loose mean mg mb EE g0) {A : Around} {s : Shared} {Q : Flow → Shared → Prop} {E : Value → Shared → Prop} {L fa : Addr} {cd : Value} (hd : A.depth + 160 < recursionLimit) (hA : A.handled = none) (hu : A.units + 100 < cLine)
    {n : Int} (hn : -9841 ≤ n ∧ n ≤ 9841) {Wy Sm I Dc : Addr} {vals ys : List Value} {k ks : Nat} {it oD o2 o1 : Obj} {v2 v1 : Option Value} {tn : Tok} {tl : List (Addr × Obj)} {m0 : Str → Option Value}
    (hit : notTab it) (hoD : notTab oD) (d2 : o2.data = .cell v2) (d1 : o1.data = .cell v1) (hva : IntsAre vals (laid n)) (hys : IntsAre ys sumsL)
    (F : Fr g0 L s.heap (fun y => if y = Str.ofString "way" then some (.ref Wy) else if y = Str.ofString "number" then some (.int n tn) else if y = Str.ofString "sums" then some (.ref Sm) else m0 y))
    (N : News g0 L s.heap ([(Wy, listOf vals.toArray k), (I, it), (Dc, oD), (Sm, listOf ys.toArray ks), (L + 1 + 1, o2), (L + 1, o1)] ++ tl)) (T : Tl EE g0 tl)
    (ret : ∀ h' tk' tl', Fr g0 L h' (fun y => if y = Str.ofString "way" then some (.ref Wy) else if y = Str.ofString "number" then some (.int n tn) else if y = Str.ofString "sums" then some (.ref Sm) else m0 y) →
      News g0 L h' ([(Wy, listOf vals.toArray k), (I, it), (Dc, oD), (Sm, listOf ys.toArray ks), (L + 1 + 1, o2), (L + 1, o1)] ++ tl') → Tl EE g0 tl' → Q .next { s with heap := h', toks := tk' }) :
    wpAny (model prog w) A (exec (stS 2) (envL L fa cd)) Q E s := by
  have X₁ := G.X
  have Top₁ := G.T
  obtain ⟨hh, dp, fr, gd, un⟩ := A
  change hh = none at hA
  subst hA
  change dp + 160 < recursionLimit at hd
  change un + 100 < cLine at hu
  have hvl := hva.length
  have hL9 : (laid n).length ≤ 9 := (laid_len 9 n).mpr hn
  have hpans := laid_pans n
  conv in (stS _) => whnf
  unfold envL
  conv in lawScope => whnf
  dsimp only [List.cons_append, List.nil_append] at N
  k_steps
  rename Fr _ _ _ _ => F
  rename News _ _ _ _ => N
  refine law_weight_use (ns := laid n) G.X G.T (fun b o e => e) F N (by show dp + 1 < _; omega) rfl (News.isList N (by k_mem)) hva hL9 hpans fun h2 tk2 t2 F2 N2 => ?_
  rw [wt_laid]
  clear F N
  (try dsimp only)
  k_steps
  · exact absurd rfl (by assumption : n ≠ n)
  refine Hold.out ?_
  rename Fr _ _ _ _ => F
  rename News _ _ _ _ => N
  refine cf_list (l := Wy) (vs := vals) (ns := laid n) (k₀ := k) (own := [_, _, _, _, _, _]) (fun d => decide (¬ (d = -1 ∨ d = 0 ∨ d = 1))) rfl (.head _) hva (by rw [PySem.sizeLine_eq]; omega) (by decide) rfl rfl F N T ?_ (fun _ => rr_none ?_)
  · rintro k2 hkm ys2 ns tk' tl₁ h tk I2 it2 C oC9 D m₂ E' hys2 T₁ hb hne hoC hx F N hnt3 hnC
    simp only [List.map_cons, List.map_nil, List.forall_mem_cons, List.not_mem_nil, false_implies, implies_true, and_true] at hb
    obtain ⟨⟨_, _, _⟩, ⟨_, _, _⟩, ⟨_, _, _⟩, ⟨_, _, _⟩, ⟨_, _, _⟩, _, _, _⟩ := hb
    obtain ⟨_, _, _⟩ := hne
    dsimp only [List.cons_append, List.nil_append] at N
    have hk2 := hpans k2 hkm
    k_steps
    · rename Fr _ _ _ _ => F
      rename News _ _ _ _ => N
      exact ⟨decide_eq_false (fun q => q hk2), _, _, _, rfl, F, fun p hp => N p (.tail _ hp), T₁⟩
    · exfalso
      have ha : ([0 - 1, 0, 1].any fun x => x == k2) = false := by assumption
      rcases hk2 with rfl | rfl | rfl <;> exact absurd ha (by decide)
  · rintro D7 ys2 own₁ tl₁ h tk ⟨rfl, hys2⟩ hadr3 T₁ hb F N
    simp only [List.map_cons, List.map_nil, List.forall_mem_cons, List.not_mem_nil, false_implies, implies_true, and_true] at hb
    obtain ⟨_, _, _, _, _, _⟩ := hb
    dsimp only [List.cons_append, List.nil_append] at N
    k_steps
    · exact absurd (by assumption : List.drop ((laid n).length - 1) (laid n) = [0]) (laid_last n)
    · rename Fr _ _ _ _ => F
      rename News _ _ _ _ => N
      exact ret _ _ _ F (fun p hp => N p (.tail _ (.tail _ (.tail _ (.tail _ hp))))) T₁
    · exfalso
      have ha : decide ((laid n).filter (fun d => decide (¬ (d = -1 ∨ d = 0 ∨ d = 1))) = []) = false := by assumption
      refine of_decide_eq_false ha (List.filter_eq_nil_iff.mpr fun d hd => ?_)
      simp [hpans d hd]
end

section
variable {prog : Program} {w : World} {p : Program} {loose : List Str} {mean : ExcName → Option Value} {mg mb : Str → Option Value} {g0 : Heap}
local macro_rules | `(tactic| walk_at "zz") => `(tactic| fail "zz")
local macro_rules | `(tactic| walk_at "zz") => `(tactic| fail "zz")
local macro_rules | `(tactic| walk_at "zz") => `(tactic| fail "zz")
local macro_rules | `(tactic| walk_at "zz") => `(tactic| fail "zz")
local macro_rules | `(tactic| walk_at "zz") => `(tactic| fail "zz")
local macro_rules | `(tactic| walk_at "zz") => `(tactic| fail "zz")
local macro_rules | `(tactic| walk_at "zz") => `(tactic| fail "zz")
local macro_rules | `(tactic| walk_at "zz") => `(tactic| fail "zz")
local macro_rules | `(tactic| walk_at "zz") => `(tactic| fail "zz")
local macro_rules | `(tactic| walk_at "eval ListComp") => `(tactic| (k_here; (with_reducible show wpAny _ _ (eval (PySem.Expr.ListComp _ [⟨PySem.Expr.Name _ _, _, [_], 0⟩] _ _) _) _ _ _); k_dflt (refine ListComp_own (by with_unfolding_all rfl) (by rfl) (by decide) ?_)))
local macro_rules | `(tactic| k_ne) => `(tactic| (refine neN ?_; (try dsimp only); first | assumption | exact Ne.symm (by assumption)))
theorem st3 (G : Glo (hd.heap_39 w.params) p loose mean mg mb EE g0) {A : Around} {s : Shared} {Q : Flow → Shared → Prop} {E : Value → Shared → Prop} {L fa : Addr} {cd : Value} (hd : A.depth + 160 < recursionLimit) (hA : A.handled = none) (hu : A.units + 100 < cLine)
    {n : Int} (hn : -9841 ≤ n ∧ n ≤ 9841) {Wy Sm I Dc : Addr} {vals ys : List Value} {k ks : Nat} {it oD o2 o1 : Obj} {v2 v1 : Option Value} {tn : Tok} {tl : List (Addr × Obj)} {m0 : Str → Option Value}
    (hit : notTab it) (hoD : notTab oD) (d2 : o2.data = .cell v2) (d1 : o1.data = .cell v1) (hva : IntsAre vals (laid n)) (hys : IntsAre ys sumsL)
    (F : Fr g0 L s.heap (fun y => if y = Str.ofString "way" then some (.ref Wy) else if y = Str.ofString "number" then some (.int n tn) else if y = Str.ofString "sums" then some (.ref Sm) else m0 y))
    (N : News g0 L s.heap ([(Wy, listOf vals.toArray k), (I, it), (Dc, oD), (Sm, listOf ys.toArray ks), (L + 1 + 1, o2), (L + 1, o1)] ++ tl)) (T : Tl EE g0 tl)
    (ret : ∀ h' tk' tl', Fr g0 L h' (fun y => if y = Str.ofString "way" then some (.ref Wy) else if y = Str.ofString "number" then some (.int n tn) else if y = Str.ofString "sums" then some (.ref Sm) else m0 y) → News g0 L h' ([(Wy, listOf vals.toArray k), (I, it), (Dc, oD), (Sm, listOf ys.toArray ks), (L + 1 + 1, o2), (L + 1, o1)] ++ tl') → Tl EE g0 tl' → Q .next { s with heap := h', toks := tk' }) :
    wpAny (model prog w) A (exec (stS 3) (envL L fa cd)) Q E s := by
  have X₁ := G.X
  have Top₁ := G.T
  obtain ⟨hh, dp, fr, gd, un⟩ := A
  change hh = none at hA
  subst hA
  change dp + 160 < recursionLimit at hd
  change un + 100 < cLine at hu
  have hvl := hva.length
  have hyl := hys.length
  have hL9 : (laid n).length ≤ 9 := (laid_len 9 n).mpr hn
  have hpans := laid_pans n
  conv in (stS _) => whnf
  unfold envL
  conv in lawScope => whnf
  dsimp only [List.cons_append, List.nil_append] at N
  k_steps
  · exfalso
    have h0 : n = 0 := by assumption
    have h1 : ((laid n).length : Int) ≠ 0 := by assumption
    exact h1 (by rw [h0]; rfl)
  · exact ret _ _ _ F N T
  · have h0 : n ≠ 0 := by assumption
    have hbs := bis_sums h0 hn
    have hab : (if n < 0 then -n else n) = ((n.natAbs : Nat) : Int) := by
      split <;> omega
    rw [hab]
    refine wpAny_call (bisect_ok G.X G.T (by show dp + 1 < _; omega) rfl F.keep (News.isList N (by k_mem)) hys sumsL_sorted (by rw [sumsL_length]; decide) fun h7 tk7 t7 kp => ?_)
    have F7 := fr_back F kp
    have N7 := news_back N kp
    clear F N
    (try dsimp only)
    have hb9 := bis_le sumsL n.natAbs
    rw [sumsL_length] at hb9
    generalize hbb : bis sumsL n.natAbs = bb at *
    k_steps
    · exfalso
      have h1 : ((laid n).length : Int) ≠ 1 + (bb : Int) := by assumption
      exact h1 hbs
    · exact ret _ _ _ F7 N7 T
end

section
variable {prog : Program} {w : World} {p : Program} {loose : List Str} {mean : ExcName → Option Value} {mg mb : Str → Option Value} {g0 : Heap}
local macro_rules | `(tactic| walk_at "zz") => `(tactic| fail "zz")
local macro_rules | `(tactic| walk_at "zz") => `(tactic| fail "zz")
local macro_rules | `(tactic| walk_at "zz") => `(tactic| fail "zz")
local macro_rules | `(tactic| walk_at "zz") => `(tactic| fail "zz")
local macro_rules | `(tactic| walk_at "zz") => `(tactic| fail "zz")
local macro_rules | `(tactic| walk_at "zz") => `(tactic| fail "zz")
local macro_rules | `(tactic| walk_at "zz") => `(tactic| fail "zz")
local macro_rules | `(tactic| walk_at "eval ListComp") => `(tactic| (k_here; (with_reducible show wpAny _ _ (eval (PySem.Expr.ListComp _ [⟨PySem.Expr.Name _ _, _, [_], 0⟩] _ _) _) _ _ _); k_dflt (refine ListComp_own (by with_unfolding_all rfl) (by rfl) (by decide) ?_)))
local macro_rules | `(tactic| k_ne) => `(tactic| (refine neN ?_; (try dsimp only); first | assumption | exact Ne.symm (by assumption)))
local macro_rules | `(tactic| walk_at "eval ListComp") => `(tactic| (k_here; (with_reducible show wpAny _ _ (eval (PySem.Expr.ListComp _ [⟨PySem.Expr.Name _ _, _, [], 0⟩] _ _) _) _ _ _); k_dflt (refine ListComp_own (by with_unfolding_all rfl) (by rfl) (by decide) ?_)))
local macro_rules | `(tactic| walk_at "binaryOp Add ref ref") => `(tactic| (k_here; refine hold_in ?_))
local macro_rules | `(tactic| walk_at "compareOp NotEq int int") => `(tactic| (k_here; refine hold_in ?_))
theorem st4 (G : Glo (hd.heap_39 w.params) p loose mean mg mb EE g0) {A : Around} {s : Shared} {Q : Flow → Shared → Prop} {E : Value → Shared → Prop} {L fa : Addr} {cd : Value} (hd : A.depth + 160 < recursionLimit) (hA : A.handled = none) (hu : A.units + 100 < cLine)
    {n : Int} (hn : -9841 ≤ n ∧ n ≤ 9841) {Wy Sm I Dc : Addr} {vals ys : List Value} {k ks : Nat} {it oD o2 o1 : Obj} {v2 v1 : Option Value} {tn : Tok} {tl : List (Addr × Obj)} {m0 : Str → Option Value}
    (hit : notTab it) (hoD : notTab oD) (d2 : o2.data = .cell v2) (d1 : o1.data = .cell v1) (hva : IntsAre vals (laid n)) (hys : IntsAre ys sumsL)
    (F : Fr g0 L s.heap (fun y => if y = Str.ofString "way" then some (.ref Wy) else if y = Str.ofString "number" then some (.int n tn) else if y = Str.ofString "sums" then some (.ref Sm) else m0 y))
    (N : News g0 L s.heap ([(Wy, listOf vals.toArray k), (I, it), (Dc, oD), (Sm, listOf ys.toArray ks), (L + 1 + 1, o2), (L + 1, o1)] ++ tl)) (T : Tl EE g0 tl)
    (ret : ∀ h' tk' tl', Fr g0 L h' (fun y => if y = Str.ofString "way" then some (.ref Wy) else if y = Str.ofString "number" then some (.int n tn) else if y = Str.ofString "sums" then some (.ref Sm) else m0 y) → News g0 L h' ([(Wy, listOf vals.toArray k), (I, it), (Dc, oD), (Sm, listOf ys.toArray ks), (L + 1 + 1, o2), (L + 1, o1)] ++ tl') → Tl EE g0 tl' → Q .next { s with heap := h', toks := tk' }) :
    wpAny (model prog w) A (exec (stS 4) (envL L fa cd)) Q E s := by
  have X₁ := G.X
  have Top₁ := G.T
  obtain ⟨hh, dp, fr, gd, un⟩ := A
  change hh = none at hA
  subst hA
  change dp + 160 < recursionLimit at hd
  change un + 100 < cLine at hu
  have hvl := hva.length
  have hyl := hys.length
  have hL9 : (laid n).length ≤ 9 := (laid_len 9 n).mpr hn
  have hpans := laid_pans n
  conv in (stS _) => whnf
  unfold envL
  conv in lawScope => whnf
  dsimp only [List.cons_append, List.nil_append] at N
  have hln := laid_neg n
  have hL92 : (laid (0 - n)).length ≤ 9 := (laid_len 9 (0 - n)).mpr (by show (-9841 : Int) ≤ _ ∧ _ ≤ (9841 : Int); omega)
  have hneg : -9841 ≤ 0 - n ∧ 0 - n ≤ 9841 := by omega
  k_steps
  refine law_laid_use (own := [_, _, _, _, _, _]) G F N (.cons (.cons (.cons (.cons (.cons (.cons .nil)))))) T ⟨notTab_seq rfl, hit, hoD, notTab_seq rfl, notTab_cell d2, notTab_cell d1, trivial⟩ (fun b o e => e) (by show dp + 140 < _; omega) rfl hneg fun W2 h2 tk2 vs2 k2 tl2 F2 N2 T2 _ hv2 => ?_
  simp only [List.cons_append, List.nil_append] at N2
  clear F N
  (try dsimp only)
  have hvl2 := hv2.length
  k_steps
  refine Hold.out ?_
  rename Fr _ _ _ _ => F
  rename News _ _ _ _ => N
  refine comp_list (l := Wy) (vs := vals) (own := [_, _, _, _, _, _, _]) (adr := [_, _, _, _, _, _, _])
    (fun j zs own => own = [(W2, listOf vs2.toArray k2), (Wy, listOf vals.toArray k), (I, it), (Dc, oD), (Sm, listOf ys.toArray ks), (L + 1 + 1, o2), (L + 1, o1)] ∧ IntsAre zs (((laid n).take j).map (fun p => 0 - p)))
    rfl (News.isList N (.tail _ (.head _))) (by rw [PySem.sizeLine_eq]; omega) (.inr ⟨listOf vals.toArray k, fun i ys own h => by rw [h.1]; exact .tail _ (.head _)⟩) (by decide) rfl rfl F N T2 rfl ⟨rfl, .nil⟩ ?_ (fun _ => rr_none ?_)
  · rintro j v hj zs own₁ tl₁ h tk I2 it2 C oC D m₂ E' ⟨rfl, hzs⟩ hadr T₃ hb hne hoC hx F N hnt2 hntC
    obtain ⟨d, td, rfl, hdk⟩ := IntsAre.at hva _ v hj
    have hdp := hpans d (List.mem_of_getElem? hdk)
    simp only [List.forall_mem_cons, List.not_mem_nil, false_implies, implies_true, and_true] at hb
    obtain ⟨⟨_, _, _⟩, ⟨_, _, _⟩, ⟨_, _, _⟩, ⟨_, _, _⟩, ⟨_, _, _⟩, ⟨_, _, _⟩, _, _, _⟩ := hb
    obtain ⟨_, _, _⟩ := hne
    dsimp only [List.cons_append, List.nil_append] at N
    refine wpAny_tests_nil ?_
    simp only [if_true]
    k_steps
    refine ⟨_, _, _, tl₁, rfl, F, N, rfl, T₃, rfl, ?_⟩
    rw [List.take_add_one, hdk, Option.toList_some, List.map_append]
    exact hzs.append (.cons _ _ .nil)
  · rintro D7 zs own₁ tl₁ h tk ⟨rfl, hzs⟩ hadr3 T₁ hb F N
    simp only [List.forall_mem_cons, List.not_mem_nil, false_implies, implies_true, and_true] at hb
    rw [hvl, List.take_length, ← hln] at hzs
    dsimp only [List.cons_append, List.nil_append] at N
    have hzl := hzs.length
    clear hb hadr3 hln hpans
    k_steps
    refine Hold.out ?_
    rename Fr _ _ _ _ => F
    rename News _ _ _ _ => N
    refine kmk_add_ints F N (News.isList N (by k_mem)) (News.isList N (.head _)) hva (.cons 0 _ .nil) (fun D9 us h9 F9 N9 l9 hi9 => ?_) (by rw [PySem.sizeLine_eq]; show (laid n).length + 1 ≤ _; omega)
    clear F N
    have hfst := laid_first n
    have hul := hi9.length
    rw [List.length_append] at hul
    clear l9
    have hapl : 0 < (laid n ++ [0]).length := by rw [List.length_append]; exact Nat.succ_pos _
    have hfm : (laid n ++ [0]).getD (Int.toNat 0) 0 = (n + 1).fmod 3 - 1 := by rw [Int.fmod_eq_emod_of_nonneg _ (by decide)]; exact hfst
    clear hfst hzs hzl hv2 hvl2 hL92 hneg hul
    have hm3 := Int.fmod_nonneg_of_pos (n + 1) (b := 3) (by decide)
    have hm4 := Int.fmod_lt_of_pos (n + 1) (b := 3) (by decide)
    have hus : us.length ≤ 10 := by rw [hi9.length, List.length_append]; show (laid n).length + 1 ≤ 10; omega
    generalize hlw : laid n ++ [0] = lw at *
    generalize hfv : (n + 1).fmod 3 = fv at *
    clear hlw
    rename_i l1
    clear l1 hn
    k_steps
    refine Hold.out ?_
    refine ne_int ?_
    have e9 : (lw.getD (Int.toNat 0) 0 != (n + 1).fmod 3 - 1) = false := by rw [hfv, hfm]; simp
    rw [e9]
    clear e9
    refine wpAny_truthy_bool ?_
    simp only [Bool.false_eq_true, if_false]
    k_steps
    exact ret _ _ _ F9 (fun p hp => N9 p (.tail _ (.tail _ (.tail _ (.tail _ hp))))) T₁
end

section
variable {prog : Program} {w : World} {p : Program} {loose : List Str} {mean : ExcName → Option Value} {mg mb : Str → Option Value} {g0 : Heap}
local macro_rules | `(tactic| walk_at "zz") => `(tactic| fail "zz")
local macro_rules | `(tactic| walk_at "zz") => `(tactic| fail "zz")
local macro_rules | `(tactic| walk_at "zz") => `(tactic| fail "zz")
local macro_rules | `(tactic| walk_at "zz") => `(tactic| fail "zz")
local macro_rules | `(tactic| walk_at "zz") => `(tactic| fail "zz")
local macro_rules | `(tactic| walk_at "zz") => `(tactic| fail "zz")
local macro_rules | `(tactic| walk_at "zz") => `(tactic| fail "zz")
local macro_rules | `(tactic| walk_at "zz") => `(tactic| fail "zz")
local macro_rules | `(tactic| walk_at "zz") => `(tactic| fail "zz")
local macro_rules | `(tactic| walk_at "zz") => `(tactic| fail "zz")
local macro_rules | `(tactic| walk_at "exec For Tuple Call") => `(tactic| (k_here; (with_reducible show wpAny _ _ (exec (Stmt.For (PySem.Expr.Tuple _ _ _) (PySem.Expr.Call (PySem.Expr.Name (Str.ofString "enumerate") _) _ _ _) _ _ _) _) _ _ _); (rename Fr _ _ _ _ => lF'); (with_unfolding_all refine' For_pair3F lF' ?hh ?hxi ?hxc ?hp ?_ ?hs ?hE); (case hh => exact rfl); (case hxi => exact rfl); (case hxc => exact rfl); (case hp => exact rfl); (case hs => exact fun _ => rfl); (case hE => first | assumption | passes_own); k_whole))
local macro_rules | `(tactic| walk_at "call type:enumerate") => `(tactic| (k_here; refine hold_in ?_))
local macro_rules | `(tactic| k_ne) => `(tactic| (refine neN ?_; (try dsimp only); first | assumption | exact Ne.symm (by assumption)))
theorem st5 (G : Glo (hd.heap_39 w.params) p loose mean mg mb EE g0) {A : Around} {s : Shared} {Q : Flow → Shared → Prop} {E : Value → Shared → Prop} {L fa : Addr} {cd : Value} (hd : A.depth + 160 < recursionLimit) (hA : A.handled = none) (hu : A.units + 100 < cLine)
    {n : Int} (hn : -9841 ≤ n ∧ n ≤ 9841) {Wy Sm I Dc : Addr} {vals ys : List Value} {k ks : Nat} {it oD o2 o1 : Obj} {v2 v1 : Option Value} {tn : Tok} {tl : List (Addr × Obj)} {m0 : Str → Option Value}
    (hit : notTab it) (hoD : notTab oD) (d2 : o2.data = .cell v2) (d1 : o1.data = .cell v1) (hva : IntsAre vals (laid n)) (hys : IntsAre ys sumsL)
    (F : Fr g0 L s.heap (fun y => if y = Str.ofString "way" then some (.ref Wy) else if y = Str.ofString "number" then some (.int n tn) else if y = Str.ofString "sums" then some (.ref Sm) else m0 y))
    (N : News g0 L s.heap ([(Wy, listOf vals.toArray k), (I, it), (Dc, oD), (Sm, listOf ys.toArray ks), (L + 1 + 1, o2), (L + 1, o1)] ++ tl)) (T : Tl EE g0 tl)
    (x0 : @Ne Nat (L + 1) Wy) (x1 : @Ne Nat (L + 1) I) (x2 : @Ne Nat (L + 1) Dc) (x3 : @Ne Nat (L + 1) Sm)
    (ret : ∀ Od o1' h' tk', o1'.data = .cell (some (.ref Od)) → (@Ne Nat Od Wy ∧ @Ne Nat Od I ∧ @Ne Nat Od Dc ∧ @Ne Nat Od Sm ∧ @Ne Nat Od (L + 1 + 1) ∧ @Ne Nat Od (L + 1)) → Fr g0 L h' (fun y => if y = Str.ofString "way" then some (.ref Wy) else if y = Str.ofString "number" then some (.int n tn) else if y = Str.ofString "sums" then some (.ref Sm) else m0 y) →
      News g0 L h' ((Od, listOf #[] 0) :: [(Wy, listOf vals.toArray k), (I, it), (Dc, oD), (Sm, listOf ys.toArray ks), (L + 1 + 1, o2), (L + 1, o1')] ++ tl) → Q .next { s with heap := h', toks := tk' }) :
    wpAny (model prog w) A (exec (stS 5) (envL L fa cd)) Q E s := by
  have X₁ := G.X
  have Top₁ := G.T
  obtain ⟨hh, dp, fr, gd, un⟩ := A
  change hh = none at hA
  subst hA
  change dp + 160 < recursionLimit at hd
  change un + 100 < cLine at hu
  have hvl := hva.length
  have hyl := hys.length
  have hL9 : (laid n).length ≤ 9 := (laid_len 9 n).mpr hn
  have hpans := laid_pans n
  conv in (stS _) => whnf
  unfold envL
  conv in lawScope => whnf
  dsimp only [List.cons_append, List.nil_append] at N
  have x4 : @Ne Nat (L + 1) (L + 1 + 1) := by omega
  k_steps
  rename Fr _ _ _ _ => F
  rename News _ _ _ _ => N
  rename _ ∧ _ => hlt
  rename Obj.data _ = Data.cell (some (Value.ref _)) => d9
  refine ret _ _ _ _ d9 ⟨?_, ?_, ?_, ?_, ?_, ?_⟩ F N
  · exact Nat.ne_of_gt hlt.1
  · exact Nat.ne_of_gt hlt.2.1
  · exact Nat.ne_of_gt hlt.2.2.1
  · exact Nat.ne_of_gt hlt.2.2.2.1
  · exact Nat.ne_of_gt hlt.2.2.2.2.1
  · exact Nat.ne_of_gt hlt.2.2.2.2.2.1

theorem st6 (G : Glo (hd.heap_39 w.params) p loose mean mg mb EE g0) {A : Around} {s : Shared} {Q : Flow → Shared → Prop} {E : Value → Shared → Prop} {L fa : Addr} {cd : Value} (hd : A.depth + 160 < recursionLimit) (hA : A.handled = none) (hu : A.units + 100 < cLine)
    {n : Int} (hn : -9841 ≤ n ∧ n ≤ 9841) {Wy Sm I Dc : Addr} {vals ys : List Value} {k ks : Nat} {it oD o2 o1 : Obj} {v2 v1 : Option Value} {tn : Tok} {tl : List (Addr × Obj)} {m0 : Str → Option Value}
    (hit : notTab it) (hoD : notTab oD) (d2 : o2.data = .cell v2) (d1 : o1.data = .cell v1) (hva : IntsAre vals (laid n)) (hys : IntsAre ys sumsL)
    (F : Fr g0 L s.heap (fun y => if y = Str.ofString "way" then some (.ref Wy) else if y = Str.ofString "number" then some (.int n tn) else if y = Str.ofString "sums" then some (.ref Sm) else m0 y))
    (N : News g0 L s.heap ([(Wy, listOf vals.toArray k), (I, it), (Dc, oD), (Sm, listOf ys.toArray ks), (L + 1 + 1, o2), (L + 1, o1)] ++ tl)) (T : Tl EE g0 tl)
    (hE : PassesOwn (model prog w) A (envL L fa cd) E) {Od : Addr} {vsc : Option Value} (hsc : m0 (Str.ofString "script") = vsc) (d1' : o1.data = .cell (some (.ref Od))) (y0 : @Ne Nat Od Wy ∧ @Ne Nat Od I ∧ @Ne Nat Od Dc ∧ @Ne Nat Od Sm ∧ @Ne Nat Od (L + 1 + 1) ∧ @Ne Nat Od (L + 1)) 
    (NO : News g0 L s.heap ((Od, listOf #[] 0) :: ([(Wy, listOf vals.toArray k), (I, it), (Dc, oD), (Sm, listOf ys.toArray ks), (L + 1 + 1, o2), (L + 1, o1)] ++ tl)))
    (ret : ∀ (os : List Value) (c : Nat) (m' : Str → Option Value) (h' : Heap) (tk' : Nat), IntsAre os (ordF (laid n) (laid n).length) → m' (Str.ofString "script") = vsc → Fr g0 L h' (fun y => if y = Str.ofString "way" then some (.ref Wy) else if y = Str.ofString "number" then some (.int n tn) else if y = Str.ofString "sums" then some (.ref Sm) else m' y) →
      News g0 L h' ((Od, listOf os.toArray c) :: [(Wy, listOf vals.toArray k), (I, it), (Dc, oD), (Sm, listOf ys.toArray ks), (L + 1 + 1, o2), (L + 1, o1)] ++ tl) → Q .next { s with heap := h', toks := tk' }) :
    wpAny (model prog w) A (exec (stS 6) (envL L fa cd)) Q E s := by
  have X₁ := G.X
  have Top₁ := G.T
  obtain ⟨hh, dp, fr, gd, un⟩ := A
  change hh = none at hA
  subst hA
  change dp + 160 < recursionLimit at hd
  change un + 100 < cLine at hu
  have hvl := hva.length
  have hyl := hys.length
  have hL9 : (laid n).length ≤ 9 := (laid_len 9 n).mpr hn
  have hpans := laid_pans n
  conv in (stS _) => whnf
  unfold envL
  conv in lawScope => whnf
  dsimp only [List.cons_append, List.nil_append] at N
  unfold envL at hE
  conv at hE in lawScope => whnf
  clear N
  dsimp only [List.cons_append, List.nil_append] at NO
  k_steps
  refine Hold.out ?_
  rename Fr _ _ _ _ => F
  rename News _ _ _ _ => N
  have hof := ordF_facts (laid n) hpans
  have hWL : Wy ≠ L := (N (Wy, listOf vals.toArray k) (.tail _ (.head _))).2.1
  refine loop_enum (l := Wy) (vs := vals)
    (fun i m news => (∃ os c, news = (Od, listOf os.toArray c) :: ([(Wy, listOf vals.toArray k), (I, it), (Dc, oD), (Sm, listOf ys.toArray ks), (L + 1 + 1, o2), (L + 1, o1)] ++ tl) ∧ IntsAre os (ordF (laid n) i)) ∧ m (Str.ofString "way") = some (.ref Wy) ∧ m (Str.ofString "number") = some (.int n tn) ∧ m (Str.ofString "sums") = some (.ref Sm) ∧ m (Str.ofString "script") = vsc)
    rfl (News.isList N (.tail _ (.head _))) hWL F N ?_ ?_ ?_
  · exact ⟨⟨[], 0, rfl, .nil⟩, rfl, rfl, rfl, hsc⟩
  · rintro i v t m₁ news₁ h tk own hv ⟨⟨os, c, rfl, hos⟩, b1, b2, b3, b4⟩ - hown F N
    obtain ⟨d, td, rfl, hdk⟩ := IntsAre.at hva _ v hv
    have hi9 : i < (laid n).length := by
      have := (List.getElem?_eq_some_iff.mp hv).1
      omega
    rw [canon3 (m := m₁) b1 b2 b3 (m0 := m₁) (fun _ _ _ _ => rfl)] at F
    dsimp only [List.cons_append, List.nil_append] at N
    have hd1 := hpans d (List.mem_of_getElem? hdk)
    have hdg : (laid n).getD i 0 = d := by rw [List.getD_eq_getElem?_getD, hdk]; rfl
    obtain ⟨p0, p1⟩ := pow3_bound i (by omega)
    obtain ⟨q0, q1⟩ := pan_mul hd1 p0 p1
    have hd2 : -1 ≤ d ∧ d ≤ 1 := by omega
    obtain ⟨f1, f2, f3, f4⟩ := hof i (by omega)
    have hol := hos.length
    have hoL : (ordF (laid n) i).length ≤ 9 := by omega
    have hp3 : (3 : Int) ^ (i : Int).toNat = 3 ^ i := by rw [Int.toNat_natCast]
    clear f2 f3 f4 hd1
    k_steps
    · have hd0 : d ≠ 0 := by assumption
      rename Fr _ _ _ _ => F
      rename News _ _ _ _ => N
      have hOd := N (Od, listOf os.toArray c) (.head _)
      refine wpAny_call (insort_any G.X G.T (by show dp + 2 < _; omega) rfl F.keep hOd.1 hOd.2.2 hos f1.sorted (by omega) fun h5 tk5 kp hd5 hv5 => ?_)
      have hne : ∀ p ∈ (Wy, listOf vals.toArray k) :: (I, it) :: (Dc, oD) :: (Sm, listOf ys.toArray ks) :: (L + 1 + 1, o2) :: (L + 1, o1) :: (tl ++ own), p.1 ≠ Od := by
        refine List.forall_mem_cons.mpr ⟨y0.1.symm, List.forall_mem_cons.mpr ⟨y0.2.1.symm, List.forall_mem_cons.mpr ⟨y0.2.2.1.symm, List.forall_mem_cons.mpr ⟨y0.2.2.2.1.symm, List.forall_mem_cons.mpr ⟨y0.2.2.2.2.1.symm, List.forall_mem_cons.mpr ⟨y0.2.2.2.2.2.symm, fun p hp => ?_⟩⟩⟩⟩⟩⟩
        rcases List.mem_append.mp hp with hp | hp
        · exact T.off (news := tl) (fun p hp => N p (.tail _ (.tail _ (.tail _ (.tail _ (.tail _ (.tail _ (.tail _ (List.mem_append_left _ hp))))))))) (fun _ h => h) hOd.1 ⟨notTab_seq rfl, fun q ⟨vs', t, hv, hq⟩ => by cases hv⟩ p hp
        · rcases hown p hp with e | e
          · exact fun q => y0.1 (q.symm.trans e)
          · exact e Od (.head _)
      obtain ⟨F5, N5⟩ := back1 (pre := []) F N kp hd5 (fun _ h => nomatch h) hne
      clear F N hne
      (try dsimp only)
      k_steps
      refine ⟨_, _, _, (Od, _) :: ([(Wy, listOf vals.toArray k), (I, it), (Dc, oD), (Sm, listOf ys.toArray ks), (L + 1 + 1, o2), (L + 1, o1)] ++ tl), rfl, F5, N5, rfl, ⟨_, _, rfl, ?_⟩, rfl, rfl, rfl, b4⟩
      rw [ordF, hdg, if_pos hd0, ← hp3]
      exact hv5
    · have hd0 : d = 0 := by assumption
      rename Fr _ _ _ _ => F
      rename News _ _ _ _ => N
      refine ⟨_, _, _, (Od, listOf os.toArray c) :: ([(Wy, listOf vals.toArray k), (I, it), (Dc, oD), (Sm, listOf ys.toArray ks), (L + 1 + 1, o2), (L + 1, o1)] ++ tl), rfl, F, N, rfl, ⟨os, c, rfl, ?_⟩, rfl, rfl, rfl, b4⟩
      rw [ordF, hdg, if_neg (fun q => q hd0)]
      exact hos
  · rintro m₁ news₁ h tk ⟨⟨os, c, rfl, hos⟩, b1, b2, b3, b4⟩ - F N
    rw [canon3 (m := m₁) b1 b2 b3 (m0 := m₁) (fun _ _ _ _ => rfl)] at F
    rw [hvl] at hos
    exact ret os c m₁ _ _ hos b4 F N
end

section
variable {prog : Program} {w : World} {p : Program} {loose : List Str} {mean : ExcName → Option Value} {mg mb : Str → Option Value} {g0 : Heap}
local macro_rules | `(tactic| walk_at "zz") => `(tactic| fail "zz")
local macro_rules | `(tactic| walk_at "zz") => `(tactic| fail "zz")
local macro_rules | `(tactic| walk_at "zz") => `(tactic| fail "zz")
local macro_rules | `(tactic| walk_at "zz") => `(tactic| fail "zz")
local macro_rules | `(tactic| walk_at "zz") => `(tactic| fail "zz")
local macro_rules | `(tactic| walk_at "zz") => `(tactic| fail "zz")
local macro_rules | `(tactic| walk_at "zz") => `(tactic| fail "zz")
local macro_rules | `(tactic| walk_at "zz") => `(tactic| fail "zz")
local macro_rules | `(tactic| walk_at "zz") => `(tactic| fail "zz")
local macro_rules | `(tactic| walk_at "zz") => `(tactic| fail "zz")
local macro_rules | `(tactic| walk_at "zz") => `(tactic| fail "zz")
local macro_rules | `(tactic| walk_at "zz") => `(tactic| fail "zz")
local macro_rules | `(tactic| walk_at "eval ListComp") => `(tactic| (k_here; (with_reducible show wpAny _ _ (eval (PySem.Expr.ListComp _ [⟨PySem.Expr.Name _ _, _, [_], 0⟩] _ _) _) _ _ _); k_dflt (refine ListComp_own (by with_unfolding_all rfl) (by rfl) (by decide) ?_)))
local macro_rules | `(tactic| k_ne) => `(tactic| (refine neN ?_; (try dsimp only); first | assumption | exact Ne.symm (by assumption)))
theorem st7 (G : Glo (hd.heap_39 w.params) p loose mean mg mb EE g0) {A : Around} {s : Shared} {Q : Flow → Shared → Prop} {E : Value → Shared → Prop} {L fa : Addr} {cd : Value} (hd : A.depth + 160 < recursionLimit) (hA : A.handled = none) (hu : A.units + 100 < cLine)
    {n : Int} (hn : -9841 ≤ n ∧ n ≤ 9841) {Wy Sm I Dc : Addr} {vals ys : List Value} {k ks : Nat} {it oD o2 o1 : Obj} {v2 v1 : Option Value} {tn : Tok} {tl : List (Addr × Obj)} {m0 : Str → Option Value}
    (hit : notTab it) (hoD : notTab oD) (d2 : o2.data = .cell v2) (d1 : o1.data = .cell v1) (hva : IntsAre vals (laid n)) (hys : IntsAre ys sumsL)
    (F : Fr g0 L s.heap (fun y => if y = Str.ofString "way" then some (.ref Wy) else if y = Str.ofString "number" then some (.int n tn) else if y = Str.ofString "sums" then some (.ref Sm) else m0 y))
    (N : News g0 L s.heap ([(Wy, listOf vals.toArray k), (I, it), (Dc, oD), (Sm, listOf ys.toArray ks), (L + 1 + 1, o2), (L + 1, o1)] ++ tl)) (T : Tl EE g0 tl)
    {Od : Addr} {os : List Value} {c : Nat} (d1' : o1.data = .cell (some (.ref Od))) (hos : IntsAre os (ordF (laid n) (laid n).length))
    (NO : News g0 L s.heap ((Od, listOf os.toArray c) :: ([(Wy, listOf vals.toArray k), (I, it), (Dc, oD), (Sm, listOf ys.toArray ks), (L + 1 + 1, o2), (L + 1, o1)] ++ tl)))
    (ret : ∀ h' tk' tl', Fr g0 L h' (fun y => if y = Str.ofString "way" then some (.ref Wy) else if y = Str.ofString "number" then some (.int n tn) else if y = Str.ofString "sums" then some (.ref Sm) else m0 y) → News g0 L h' ([(Wy, listOf vals.toArray k), (I, it), (Dc, oD), (Sm, listOf ys.toArray ks), (L + 1 + 1, o2), (L + 1, o1)] ++ tl') → Tl EE g0 tl' → Q .next { s with heap := h', toks := tk' }) :
    wpAny (model prog w) A (exec (stS 7) (envL L fa cd)) Q E s := by
  have X₁ := G.X
  have Top₁ := G.T
  obtain ⟨hh, dp, fr, gd, un⟩ := A
  change hh = none at hA
  subst hA
  change dp + 160 < recursionLimit at hd
  change un + 100 < cLine at hu
  have hvl := hva.length
  have hyl := hys.length
  have hL9 : (laid n).length ≤ 9 := (laid_len 9 n).mpr hn
  have hpans := laid_pans n
  conv in (stS _) => whnf
  unfold envL
  conv in lawScope => whnf
  dsimp only [List.cons_append, List.nil_append] at N
  clear N
  dsimp only [List.cons_append, List.nil_append] at NO
  obtain ⟨f1, f2, f3, f4⟩ := ordF_facts (laid n) hpans _ (Nat.le_refl _)
  rw [List.take_length, wt_laid] at f4
  have hol := hos.length
  have hoL : (ordF (laid n) (laid n).length).length ≤ 9 := by omega
  clear f3 f2 hpans
  generalize ordF (laid n) (laid n).length = ns at *
  k_steps
  refine Hold.out ?_
  rename IsRange _ _ _ _ _ _ _ _ => hr
  rename Fr _ _ _ _ => F
  rename News _ _ _ _ => N
  refine cf_range (n := ns.length - 1) (own := [_, _, _, _, _, _, _]) (fun k => decide (ns.getD (k - 1).toNat 0 ≥ ns.getD k.toNat 0)) rfl hr ?_ ?_ (by rw [PySem.sizeLine_eq]; omega) (by decide) rfl rfl F N T ?_ (fun _ => rr_none ?_)
  · exact small_one (by omega) (by omega) (by omega) (by omega)
  · rw [rangeSize_nat]; omega
  · rintro k2 hk0 hk1 ys2 ns2 tk' tl₁ h tk I2 it2 C oC9 D m₂ E' hys2 T₁ hb hne hoC hx F N hnt3 hnC
    clear hb hne
    dsimp only [List.cons_append, List.nil_append] at N
    have hk3 : 0 ≤ k2 - 1 := by omega
    have hk4 : k2 - 1 < (ns.length : Int) := by omega
    have hk5 : 0 ≤ k2 := by omega
    have hk2 : k2 < (ns.length : Int) := by omega
    have hlt : ns.getD (k2 - 1).toNat 0 < ns.getD k2.toNat 0 := f1 _ _ (by omega) (by omega)
    k_steps
    rename Fr _ _ _ _ => F
    rename News _ _ _ _ => N
    exact ⟨decide_eq_false (by omega), _, _, _, rfl, F, N, T₁⟩
  · rintro D7 ys2 own₁ tl₁ h tk ⟨rfl, hys2⟩ hadr3 T₁ hb F N
    clear hb
    dsimp only [List.cons_append, List.nil_append] at N
    k_steps
    · exact absurd f4 (by assumption : ns.sum ≠ n)
    · rename Fr _ _ _ _ => F
      rename News _ _ _ _ => N
      exact ret _ _ _ F (fun p hp => N p (.tail _ (.tail _ (.tail _ hp)))) T₁
    · exfalso
      have ha : decide ((rangeKs 1 (ns.length - 1)).filter (fun k => decide (ns.getD (k - 1).toNat 0 ≥ ns.getD k.toNat 0)) = []) = false := by assumption
      refine of_decide_eq_false ha (List.filter_eq_nil_iff.mpr fun d hd => ?_)
      obtain ⟨h1, h2⟩ := mem_rangeKs hd
      have := f1 (d - 1).toNat d.toNat (by omega) (by omega)
      simp only [decide_eq_true_eq]
      omega
end

section
variable {prog : Program} {w : World} {p : Program} {loose : List Str} {mean : ExcName → Option Value} {mg mb : Str → Option Value} {g0 : Heap}
local macro_rules | `(tactic| walk_at "zz") => `(tactic| fail "zz")
local macro_rules | `(tactic| walk_at "zz") => `(tactic| fail "zz")
local macro_rules | `(tactic| walk_at "zz") => `(tactic| fail "zz")
local macro_rules | `(tactic| walk_at "zz") => `(tactic| fail "zz")
local macro_rules | `(tactic| walk_at "zz") => `(tactic| fail "zz")
local macro_rules | `(tactic| walk_at "zz") => `(tactic| fail "zz")
local macro_rules | `(tactic| walk_at "zz") => `(tactic| fail "zz")
local macro_rules | `(tactic| walk_at "zz") => `(tactic| fail "zz")
local macro_rules | `(tactic| walk_at "zz") => `(tactic| fail "zz")
local macro_rules | `(tactic| walk_at "zz") => `(tactic| fail "zz")
local macro_rules | `(tactic| walk_at "zz") => `(tactic| fail "zz")
local macro_rules | `(tactic| walk_at "zz") => `(tactic| fail "zz")
local macro_rules | `(tactic| walk_at "zz") => `(tactic| fail "zz")
local macro_rules | `(tactic| walk_at "eval ListComp") => `(tactic| (k_here; (with_reducible show wpAny _ _ (eval (PySem.Expr.ListComp _ [⟨PySem.Expr.Name _ _, _, [], 0⟩] _ _) _) _ _ _); k_dflt (refine ListComp_own (by with_unfolding_all rfl) (by rfl) (by decide) ?_)))
local macro_rules | `(tactic| k_ne) => `(tactic| (refine neN ?_; (try dsimp only); first | assumption | exact Ne.symm (by assumption)))
theorem news_drop2 {g h : Heap} {L : Addr} {a b : Addr × Obj} {r : List (Addr × Obj)} (N : News g L h (a :: b :: r)) : News g L h (a :: r) := fun p hp => N p (by
  rcases List.mem_cons.mp hp with rfl | hp
  · exact .head _
  · exact .tail _ (.tail _ hp))
theorem tT2 (G : Glo (hd.heap_39 w.params) p loose mean mg mb EE g0) {A : Around} {s : Shared} {Q : Flow → Shared → Prop} {E : Value → Shared → Prop} {L fa : Addr} {cd : Value} (hd : A.depth + 160 < recursionLimit) (hA : A.handled = none) (hu : A.units + 100 < cLine)
    {n0 : Nat} (hn : n0 ≤ 3) {S : Addr} {vs : List Value} {k : Nat} {own tl : List (Addr × Obj)} {m0 : Str → Option Value} (hLA : LA own vs (waysP n0))
    (F : Fr g0 L s.heap (fun y => if y = Str.ofString "ways" then some (.ref S) else m0 y))
    (N : News g0 L s.heap (((S, listOf vs.toArray k) :: own) ++ tl)) (T : Tl EE g0 tl)
    (ret : ∀ D zs c h' tk' tl', IntsAre zs (toldP n0) → Fr g0 L h' (fun y => if y = Str.ofString "told" then some (.ref D) else if y = Str.ofString "ways" then some (.ref S) else m0 y) →
      News g0 L h' ((D, listOf zs.toArray c) :: (((S, listOf vs.toArray k) :: own) ++ tl')) → Tl EE g0 tl' → Q .next { s with heap := h', toks := tk' }) :
    wpAny (model prog w) A (exec (stT 2) (envL L fa cd)) Q E s := by
  have X₁ := G.X
  have Top₁ := G.T
  obtain ⟨hh, dp, fr, gd, un⟩ := A
  change hh = none at hA
  subst hA
  change dp + 160 < recursionLimit at hd
  change un + 100 < cLine at hu
  conv in (stT _) => whnf
  unfold envL
  conv in lawScope => whnf
  have hw3 := waysP_small n0 (by omega)
  have hwe := waysP_each n0 (by omega)
  have hvl := hLA.length
  k_steps
  refine Hold.out ?_
  rename Fr _ _ _ _ => F
  rename News _ _ _ _ => N
  refine comp_list (l := S) (vs := vs) (own := (S, listOf vs.toArray k) :: own)
    (fun j zs own' => own' = (S, listOf vs.toArray k) :: own ∧ IntsAre zs (((waysP n0).take j).map wt))
    rfl (News.isList N (.head _)) (by rw [PySem.sizeLine_eq]; omega) (.inr ⟨listOf vs.toArray k, fun i ys own h => by rw [h.1]; exact .head _⟩) (by decide) rfl rfl F N T rfl ⟨rfl, .nil⟩ ?_ (fun _ => rr_none ?_)
  · rintro j v hj zs own₁ tl₁ h tk I2 it2 C oC D m₂ E' ⟨rfl, hzs⟩ hadr T₃ hb hne hoC hx F N hnt2 hntC
    obtain ⟨l, ws, kl, w', rfl, hlm, hws, hwi⟩ := hLA.at j v hj
    obtain ⟨hwl, hwp⟩ := hwe w' (List.mem_of_getElem? hwi)
    clear hb hne
    refine wpAny_tests_nil ?_
    simp only [if_true]
    k_steps
    rename Fr _ _ _ _ => F
    rename News _ _ _ _ => N
    refine law_weight_use (ns := w') G.X G.T (fun b o e => e) F N (by show dp + 1 < _; omega) rfl (News.isList N (.tail _ (.tail _ (.tail _ (List.mem_append_left _ (.tail _ hlm)))))) hws (by omega) hwp fun h2 tk2 t2 F2 N2 => ?_
    refine ⟨_, _, _, tl₁, rfl, F2, N2, rfl, T₃, rfl, ?_⟩
    rw [List.take_add_one, hwi, Option.toList_some, List.map_append]
    exact hzs.append (.cons _ _ .nil)
  · rintro D7 zs own₁ tl₁ h tk ⟨rfl, hzs⟩ hadr3 T₁ hb F N
    rw [hvl, List.take_length] at hzs
    clear hb hadr3
    have hzl := hzs.length
    k_steps
    rename Fr _ _ _ _ => F
    rename News _ _ _ _ => N
    rename List.Pairwise _ _ => ho
    rename IntsAre _ _ => hi9
    rename List.Perm _ _ => hp
    refine ret _ _ _ _ _ _ ?_ F (news_drop2 N) T₁
    rw [← told_eq (k := n0) (by omega) hp ho]
    exact hi9
end

section
variable {prog : Program} {w : World} {p : Program} {loose : List Str} {mean : ExcName → Option Value} {mg mb : Str → Option Value} {g0 : Heap}
local macro_rules | `(tactic| k_ne) => `(tactic| (refine neN ?_; (try dsimp only); first | assumption | exact Ne.symm (by assumption)))
theorem tT3 (G : Glo (hd.heap_39 w.params) p loose mean mg mb EE g0) {A : Around} {s : Shared} {Q : Flow → Shared → Prop} {E : Value → Shared → Prop} {L fa : Addr} {cd : Value} (hd : A.depth + 160 < recursionLimit) (hA : A.handled = none) (hu : A.units + 100 < cLine)
    {n0 : Nat} (hn : n0 ≤ 3) {D : Addr} {zs : List Value} {c : Nat} {o2 : Obj} {tm : Tok} {rest : List (Addr × Obj)} {m0 : Str → Option Value} (d2 : o2.data = .cell (some (.int (n0 : Int) tm))) (hzs : IntsAre zs (toldP n0))
    (F : Fr g0 L s.heap (fun y => if y = Str.ofString "told" then some (.ref D) else m0 y))
    (N : News g0 L s.heap ((D, listOf zs.toArray c) :: (L + 1 + 1, o2) :: rest))
    (ret : ∀ h' tk', Fr g0 L h' (fun y => if y = Str.ofString "told" then some (.ref D) else m0 y) → News g0 L h' ((D, listOf zs.toArray c) :: (L + 1 + 1, o2) :: rest) → Q .next { s with heap := h', toks := tk' }) :
    wpAny (model prog w) A (exec (stT 3) (envL L fa cd)) Q E s := by
  have X₁ := G.X
  have Top₁ := G.T
  obtain ⟨hh, dp, fr, gd, un⟩ := A
  change hh = none at hA
  subst hA
  change dp + 160 < recursionLimit at hd
  change un + 100 < cLine at hu
  conv in (stT _) => whnf
  unfold envL
  conv in lawScope => whnf
  have hzl := hzs.length
  have htl := (told_perm n0 (by omega)).2.2
  obtain ⟨hps, hs13⟩ := pow_ss n0 (by omega)
  have hs0 := ss_pos n0
  have hm0 : 0 ≤ (n0 : Int) := by omega
  have hm3 : (n0 : Int) ≤ 3 := by omega
  have hp3 : (3 : Int) ^ (n0 : Int).toNat = 3 ^ n0 := by rw [Int.toNat_natCast]
  obtain ⟨q0, q1⟩ := pow3_bound n0 (by omega)
  k_steps
  rename IsRange _ _ _ _ _ _ _ _ => hr
  rename Fr _ _ _ _ => F
  rename News _ _ _ _ => N
  rw [hp3, hps] at hr
  refine kll_range (n := (2 * ss n0 + 1).toNat) rfl F N hr (small_one (by omega) (by omega) (by omega) (by omega)) (by rw [rangeSize_nat]; omega) (by omega) fun D2 us c2 h2 tk2 F2 N2 _ hi2 => ?_
  have e2 : rangeKs (0 - ss n0) (2 * ss n0 + 1).toNat = toldP n0 := by rw [Int.zero_sub]; rfl
  rw [e2] at hi2
  clear F N hr hps hp3 q0 q1 hs13 hs0 e2
  have hul := hi2.length
  k_steps
  exact ret _ _ F2 fun p hp => N2 p (.tail _ hp)
end

section
variable {prog : Program} {w : World} {p : Program} {loose : List Str} {mean : ExcName → Option Value} {mg mb : Str → Option Value} {g0 : Heap}
local macro_rules | `(tactic| walk_at "zz") => `(tactic| fail "zz")
local macro_rules | `(tactic| walk_at "zz") => `(tactic| fail "zz")
local macro_rules | `(tactic| walk_at "zz") => `(tactic| fail "zz")
local macro_rules | `(tactic| walk_at "zz") => `(tactic| fail "zz")
local macro_rules | `(tactic| walk_at "zz") => `(tactic| fail "zz")
local macro_rules | `(tactic| walk_at "zz") => `(tactic| fail "zz")
local macro_rules | `(tactic| walk_at "zz") => `(tactic| fail "zz")
local macro_rules | `(tactic| walk_at "zz") => `(tactic| fail "zz")
local macro_rules | `(tactic| walk_at "zz") => `(tactic| fail "zz")
local macro_rules | `(tactic| walk_at "zz") => `(tactic| fail "zz")
local macro_rules | `(tactic| walk_at "zz") => `(tactic| fail "zz")
local macro_rules | `(tactic| walk_at "zz") => `(tactic| fail "zz")
local macro_rules | `(tactic| walk_at "zz") => `(tactic| fail "zz")
local macro_rules | `(tactic| walk_at "zz") => `(tactic| fail "zz")
local macro_rules | `(tactic| walk_at "eval ListComp") => `(tactic| (k_here; (with_reducible show wpAny _ _ (eval (PySem.Expr.ListComp _ [⟨PySem.Expr.Name _ _, _, [_], 0⟩] _ _) _) _ _ _); k_dflt (refine ListComp_own (by with_unfolding_all rfl) (by rfl) (by decide) ?_)))
local macro_rules | `(tactic| k_ne) => `(tactic| (refine neN ?_; (try dsimp only); first | assumption | exact Ne.symm (by assumption)))
theorem Split.app {tl : List (Addr × Obj)} : ∀ own : List (Addr × Obj), Split (own ++ tl) own tl
  | [] => .nil
  | _ :: r => .cons (Split.app r)
theorem NoF.not : ∀ {own : List (Addr × Obj)}, NoF own → AllNot own
  | [], _ => trivial
  | p :: r, h => ⟨fun vs q => h p (.head _) _ (by rw [q]), NoF.not fun x hx => h x (.tail _ hx)⟩

local macro_rules | `(tactic| walk_at "binaryOp Mult ref int") => `(tactic| (k_here; refine hold_in ?_))
local macro_rules | `(tactic| walk_at "binaryOp Add ref ref") => `(tactic| (k_here; refine hold_in ?_))
local macro_rules | `(tactic| walk_at "compareOp NotEq ref ref") => `(tactic| (k_here; refine hold_in ?_))
theorem tT4 (G : Glo (hd.heap_39 w.params) p loose mean mg mb EE g0) {A : Around} {s : Shared} {Q : Flow → Shared → Prop} {E : Value → Shared → Prop} {L fa : Addr} {cd : Value} (hd : A.depth + 160 < recursionLimit) (hA : A.handled = none) (hu : A.units + 100 < cLine)
    {n0 : Nat} (hn : n0 ≤ 3) {S : Addr} {vs : List Value} {k : Nat} {own tl : List (Addr × Obj)} {o2 : Obj} {tm : Tok} {m0 : Str → Option Value} (d2 : o2.data = .cell (some (.int (n0 : Int) tm))) (hLA : LA own vs (waysP n0)) (hF : NoF own)
    (F : Fr g0 L s.heap (fun y => if y = Str.ofString "ways" then some (.ref S) else m0 y))
    (N : News g0 L s.heap (((L + 1 + 1, o2) :: (S, listOf vs.toArray k) :: own) ++ tl)) (T : Tl EE g0 tl)
    (ret : ∀ h' tk' tl', Fr g0 L h' (fun y => if y = Str.ofString "ways" then some (.ref S) else m0 y) → News g0 L h' (((L + 1 + 1, o2) :: (S, listOf vs.toArray k) :: own) ++ tl') → Tl EE g0 tl' → Q (.ret (.bool true)) { s with heap := h', toks := tk' }) :
    wpAny (model prog w) A (exec (stT 4) (envL L fa cd)) Q E s := by
  have X₁ := G.X
  have Top₁ := G.T
  obtain ⟨hh, dp, fr, gd, un⟩ := A
  change hh = none at hA
  subst hA
  change dp + 160 < recursionLimit at hd
  change un + 100 < cLine at hu
  conv in (stT _) => whnf
  unfold envL
  conv in lawScope => whnf
  have hw3 := waysP_small n0 (by omega)
  have hwe := waysP_each n0 (by omega)
  have hwl := ways_laid n0 (by omega)
  have hvl := hLA.length
  have hm0 : 0 ≤ (n0 : Int) := by omega
  have hm3 : (n0 : Int) ≤ 3 := by omega
  k_steps
  refine Hold.out ?_
  rename Fr _ _ _ _ => F
  rename News _ _ _ _ => N
  refine comp_list (l := S) (vs := vs) (own := (L + 1 + 1, o2) :: (S, listOf vs.toArray k) :: own)
    (fun j zs own' => own' = (L + 1 + 1, o2) :: (S, listOf vs.toArray k) :: own ∧ zs = [])
    rfl (News.isList N (.tail _ (.head _))) (by rw [PySem.sizeLine_eq]; omega) (.inr ⟨listOf vs.toArray k, fun i ys own h => by rw [h.1]; exact .tail _ (.head _)⟩) (by decide) rfl rfl F N T rfl ⟨rfl, rfl⟩ ?_ (fun _ => rr_none ?_)
  · rintro j v hj zs own₁ tl₁ h tk I2 it2 C oC D m₂ E' ⟨rfl, rfl⟩ hadr T₃ hb hne hoC hx F N hnt2 hntC
    obtain ⟨l, ws, kl, w', rfl, hlm, hws, hwi⟩ := hLA.at j v hj
    obtain ⟨hwn, hwp⟩ := hwe w' (List.mem_of_getElem? hwi)
    have hwL := hwl w' (List.mem_of_getElem? hwi)
    have hwb := wt_bound w' hwp
    have hss : ss w'.length ≤ 13 := by rw [hwn]; exact (pow_ss n0 (by omega)).2
    clear hb hne
    refine wpAny_tests_one ?_
    k_steps
    rename Fr _ _ _ _ => F
    rename News _ _ _ _ => N
    refine law_weight_use (ns := w') G.X G.T (fun b o e => e) F N (by show dp + 1 < _; omega) rfl (News.isList N (.tail _ (.tail _ (.tail _ (List.mem_append_left _ (.tail _ (.tail _ hlm))))))) hws (by omega) hwp fun h2 tk2 t2 F2 N2 => ?_
    clear F N
    have hwn9 : -9841 ≤ wt w' ∧ wt w' ≤ 9841 := by omega
    have hll : (laid (wt w')).length ≤ 9 := (laid_len 9 (wt w')).mpr hwn9
    clear hwb hss
    generalize hwv : wt w' = wv at *
    (try dsimp only)
    k_steps
    rename Fr _ _ _ _ => F
    rename News _ _ _ _ => N
    refine law_laid_use (own := (I2, it2) :: (C, oC) :: (D, LCg.lst []) :: (L + 1 + 1, o2) :: (S, listOf vs.toArray k) :: own) G F N (.cons (.cons (.cons (.cons (.cons (Split.app own)))))) T₃ ⟨hnt2, hntC, notTab_seq rfl, notTab_cell d2, notTab_seq rfl, hF.not⟩ (fun b o e => e) (by show dp + 140 < _; omega) rfl hwn9 fun r h3 tk3 vs3 k3 tl3 F3 N3 T4 _ hv3 => ?_
    simp only [List.cons_append] at N3
    clear F N
    have hv3l := hv3.length
    (try dsimp only)
    k_steps
    refine Hold.out ?_
    rename Fr _ _ _ _ => F
    rename News _ _ _ _ => N
    refine KMa.mul F N (News.isList N (.head _)) (by omega) (by omega) ?_ rfl fun X h5 F5 N5 _ => ?_
    · simp only [List.length_cons, List.length_nil]
      omega
    rw [Int.toNat_natCast, flat_rep] at N5
    have hrp := ints_rep 0 tk3 n0
    clear F N
    k_steps
    refine Hold.out ?_
    refine kmk_add_ints F5 N5 (News.isList N5 (.tail _ (.tail _ (.head _)))) (News.isList N5 (.head _)) hv3 hrp (fun D9 us h9 F9 N9 l9 hi9 => ?_) (by rw [PySem.sizeLine_eq, List.length_replicate]; omega)
    clear F5 N5 l9
    have hul := hi9.length
    have hu9 : (laid wv ++ List.replicate n0 0).length ≤ 12 := by rw [List.length_append, List.length_replicate]; omega
    have hu8 : n0 ≤ (laid wv ++ List.replicate n0 0).length := by rw [List.length_append, List.length_replicate]; omega
    generalize laid wv ++ List.replicate n0 0 = w9 at *
    k_steps
    refine Hold.out ?_
    rename Fr _ _ _ _ => F
    rename News _ _ _ _ => N
    rename IntsAre _ (List.take _ _) => hcut
    rw [Int.toNat_natCast, hwL] at hcut
    refine ke_ne_ints (News.isList N (.head _)) (News.isList N (.tail _ (.tail _ (.tail _ (.tail _ (.tail _ (.tail _ (.tail _ (.tail _ (.tail _ (.tail _ (List.mem_append_left _ hlm)))))))))))) hcut hws (by show un + 64 < cLine; omega) ?_
    simp only [decide_true, Bool.not_true]
    refine wpAny_truthy_bool ?_
    show CEnd _ _ _ _ _ _ _ _ _
    refine ⟨_, _, _, tl3, rfl, F, fun p hp => N p ?_, rfl, T4, rfl, rfl⟩
    exact .tail _ (.tail _ (.tail _ (.tail _ (.tail _ hp))))
  · rintro D7 zs own₁ tl₁ h tk ⟨rfl, rfl⟩ hadr3 T₁ hb F N
    clear hb hadr3
    k_steps
    rename Fr _ _ _ _ => F
    rename News _ _ _ _ => N
    exact ret _ _ _ F (fun p hp => N p (.tail _ (.tail _ hp))) T₁
end

section
variable {prog : Program} {w : World} {p : Program} {loose : List Str} {mean : ExcName → Option Value} {mg mb : Str → Option Value} {g0 : Heap}
local macro_rules | `(tactic| k_ne) => `(tactic| (refine neN ?_; (try dsimp only); first | assumption | exact Ne.symm (by assumption)))
local macro_rules | `(tactic| walk_at "zz") => `(tactic| fail "zz")
local macro_rules | `(tactic| walk_at "zz") => `(tactic| fail "zz")
local macro_rules | `(tactic| walk_at "zz") => `(tactic| fail "zz")
local macro_rules | `(tactic| walk_at "zz") => `(tactic| fail "zz")
local macro_rules | `(tactic| walk_at "zz") => `(tactic| fail "zz")
local macro_rules | `(tactic| walk_at "zz") => `(tactic| fail "zz")
local macro_rules | `(tactic| walk_at "zz") => `(tactic| fail "zz")
local macro_rules | `(tactic| walk_at "zz") => `(tactic| fail "zz")
local macro_rules | `(tactic| walk_at "zz") => `(tactic| fail "zz")
local macro_rules | `(tactic| walk_at "zz") => `(tactic| fail "zz")
local macro_rules | `(tactic| walk_at "zz") => `(tactic| fail "zz")
local macro_rules | `(tactic| walk_at "exec Assign") => `(tactic| (k_here; (with_reducible show wpAny _ _ (exec (PySem.Stmt.Assign _ (PySem.Expr.List [] _) _) _) _ _ _); refine hold_in ?_))
local macro_rules | `(tactic| walk_at "exec Assign") => `(tactic| (k_here; (with_reducible show wpAny _ _ (exec (PySem.Stmt.Assign _ (PySem.Expr.Call _ [PySem.Expr.ListComp _ _ _ _] _ _) _) _) _ _ _); refine hold_in ?_))
local macro_rules | `(tactic| walk_at "exec For Tuple Call") => `(tactic| (k_here; refine hold_in ?_))
local macro_rules | `(tactic| walk_at "exec Return some") => `(tactic| (k_here; (with_reducible show wpAny _ _ (exec (PySem.Stmt.Return (some (PySem.Expr.Compare _ _ _ _)) _) _) _ _ _); refine hold_in ?_))
local macro_rules | `(tactic| walk_at "exec If") => `(tactic| (k_here; refine hold_in ?_))
theorem Fr.canonA1 {g h : Heap} {L : Addr} {m : Str → Option Value} {a : Str} {va : Option Value} (F : Fr g L h m) (ha : m a = va) : Fr g L h (fun y => if y = a then va else m y) := canon1 (m := m) (m0 := m) ha (fun _ _ => rfl) ▸ F
theorem Fr.canonA3 {g h : Heap} {L : Addr} {m : Str → Option Value} {a b c : Str} {va vb vc : Option Value} (F : Fr g L h m) (ha : m a = va) (hb : m b = vb) (hc : m c = vc) : Fr g L h (fun y => if y = a then va else if y = b then vb else if y = c then vc else m y) := canon3 (m := m) (m0 := m) ha hb hc (fun _ _ _ _ => rfl) ▸ F
theorem mem_re {S o2 d e o1 p : Addr × Obj} {own tl : List (Addr × Obj)} (h : p ∈ (S :: (own ++ [o2])) ++ tl) : p ∈ S :: (own ++ d :: e :: o2 :: o1 :: tl) := by
  simp only [List.cons_append, List.append_assoc, List.mem_cons, List.mem_append, List.not_mem_nil, false_or] at h ⊢
  rcases h with h | h | h | h
  · exact .inl h
  · exact .inr (.inl h)
  · exact .inr (.inr (.inr (.inr (.inl h))))
  · exact .inr (.inr (.inr (.inr (.inr (.inr h)))))
theorem mem_re2 {S o2 D p : Addr × Obj} {own tl : List (Addr × Obj)} (h : p ∈ D :: o2 :: S :: (own ++ tl)) : p ∈ D :: ((S :: (own ++ [o2])) ++ tl) := by
  simp only [List.cons_append, List.append_assoc, List.mem_cons, List.mem_append, List.not_mem_nil, false_or] at h ⊢
  rcases h with h | h | h | h | h
  · exact .inl h
  · exact .inr (.inr (.inr (.inl h)))
  · exact .inr (.inl h)
  · exact .inr (.inr (.inl h))
  · exact .inr (.inr (.inr (.inr h)))
def FinR (g : Heap) (L : Addr) (s1 : Shared) (fl : Flow) (s' : Shared) : Prop := fl = .ret (.bool true) ∧ ∃ h' tk m' own tl', s' = { s1 with heap := h', toks := tk } ∧ Fr g L h' m' ∧ News g L h' (own ++ tl') ∧ Tl EE g tl'
theorem law2 : PySem.Challenge.rw_zx0003_02.Holds := hd (by
  k_go0
  (try k_fold)
  rename Fr _ _ _ _ => F
  rename News _ _ _ _ => N
  rename IntsAre _ _ => hI
  rename_i z01 z02 s1 z04 z05 z06 z07 z08 z09 z10 z11 z12 z13 z14 z15 z16 z17 z18 z19 z20 z21 z22 z23 z24 z25 z26 z27 z28 z29 z30 z31 z32 z33 z34 z35 z36 z37 z38 z39 z40 z41 z42 o2 o1 d2 d1 cells X T kb q1 lts
  rename CodeHd _ _ _ => q2
  refine wpAny_mono (Q := FinR (ghostOf s1.heap [(41, 37), (34, 30)]) s1.heap.objs.size s1) (E := fun _ _ => False) ?walk ?conv (fun _ _ e => e.elim)
  case conv =>
    rintro fl s' ⟨rfl, h', tk, m', own, tl', rfl, F1, N1, T1⟩
    (try dsimp only)
    refine ⟨⟨.inl ⟨.bool true, .bool true, [], rfl, fun _ => rfl, ?r1, ?r2, fun _ => ⟨List.nodup_nil, fun _ h => nomatch h⟩⟩, fun b o e => F1.keep b o e, rfl, z15⟩, ?r3⟩
    case r1 => exact ReadsW.bool _
    case r2 => wrow_post
    case r3 =>
      obtain ⟨x1, y1, w1⟩ := T1.tab _ (.head _)
      obtain ⟨x2, y2, w2⟩ := T1.tab _ (.tail _ (.head _))
      obtain ⟨p1, rfl⟩ := w1.isTab
      obtain ⟨p2, rfl⟩ := w2.isTab
      exact ⟨⟨_, (N1 _ (List.mem_append_right _ y2)).1⟩, ⟨_, (N1 _ (List.mem_append_right _ y1)).1⟩, trivial⟩
  case walk =>
    clear z06 z07 z13 z14 z15 z16 z17 z18 z19 z20 z21 z24 z26 z27 z34 z35 z36 z37 z39 z40 cells
    clear hT9 kb
    clear hT8
    have G := glo_of X T N q1 q2 (by k_mem) (by k_mem)
    clear lts
    generalize hL : s1.heap.objs.size = L at *
    generalize hg0 : ghostOf s1.heap [(41, 37), (34, 30)] = g at *
    k_steps
    rename Fr _ _ _ _ => F
    rename News _ _ _ _ => N
    rename_i ys hys hyl9 Sm h3 tk3 o1' Dc vs h4 hvs hc4 hl4 l1
    refine Hold.out ?_
    have hys : IntsAre ys sumsL := hys
    generalize hm0 : (fun z => if z = Str.ofString "sums" then _ else _ : Str → Option Value) = m0 at F
    refine loop_list (l := Dc) (vs := vs) (own := [(Dc, listOf vs.toArray 0), (Sm, listOf ys.toArray ys.length), (L + 1 + 1, o2), (L + 1, o1)]) (adr := [Dc, Sm, L + 1 + 1, L + 1])
      (fun i m own => (m (Str.ofString "sums") = some (.ref Sm) ∧ m (Str.ofString "script") = some (.ref z30)) ∧ ∃ o2 o1 : Obj, own = [(Dc, listOf vs.toArray 0), (Sm, listOf ys.toArray ys.length), (L + 1 + 1, o2), (L + 1, o1)] ∧ (∃ v, o2.data = .cell v) ∧ (∃ v, o1.data = .cell v))
      rfl (News.isList N (.head _)) (.inr ⟨listOf vs.toArray 0, fun i m own h => by obtain ⟨_, _, _, rfl, _⟩ := h; exact .head _⟩) F N tl_of rfl ⟨⟨by subst hm0; rfl, by subst hm0; rfl⟩, o2, o1, rfl, ⟨_, d2⟩, ⟨_, d1⟩⟩ ?_ ?_
    · rintro i v m₁ own₁ tl₁ h tk I it hv hI9 ⟨⟨b1, b2⟩, o2, o1, rfl, ⟨v2, d2⟩, ⟨v1, d1⟩⟩ hadr T₂ F N hnt
      obtain ⟨c0, tc, rfl, hdk⟩ := IntsAre.at hvs _ v hv
      simp only [List.cons_append, List.nil_append] at N
      have i1 : @Ne Nat Dc I := hI9 _ (by k_mem)
      have i2 : @Ne Nat Sm I := hI9 _ (by k_mem)
      have i3 : @Ne Nat (L + 1 + 1) I := hI9 _ (by k_mem)
      have i4 : @Ne Nat (L + 1) I := hI9 _ (by k_mem)
      have i5 : @Ne Nat (L + 1) Dc := Nat.ne_of_lt l1.2.2.1
      have i6 : @Ne Nat (L + 1) Sm := o1'.2.1
      clear hI9
      rw [canon2 (m := m₁) b1 b2 (m0 := m₁) (fun _ _ _ => rfl)] at F
      have e1 : -9841 ≤ c0.fmod 19683 - 9841 ∧ c0.fmod 19683 - 9841 ≤ 9841 := by
        have h1 := Int.fmod_nonneg_of_pos c0 (b := 19683) (by decide)
        have h2 := Int.fmod_lt_of_pos c0 (b := 19683) (by decide)
        omega
      k_steps
      rename Fr _ _ _ _ => F
      rename News _ _ _ _ => N
      refine law_laid_use (own := [_, _, _, _, _]) G F N (.cons (.cons (.cons (.cons (.cons .nil))))) T₂ ⟨hnt, notTab_seq rfl, notTab_seq rfl, notTab_cell d2, notTab_cell d1, trivial⟩ (fun b o e => e) (by show _ + 1 + 140 < _; decide +kernel) rfl e1 fun Wy h2 tk2 vals kw tl2 F2 N2 T3 hne hva => ?_
      simp only [List.cons_append, List.nil_append] at N2
      simp only [AllNe] at hne
      have i7 : @Ne Nat (L + 1) Wy := hne.2.2.2.2.1
      clear hne F N
      (try dsimp only)
      k_steps
      refine Hold.out ?_
      rename Fr _ _ _ _ => F
      rename News _ _ _ _ => N
      have F3 := Fr.canonA3 (a := Str.ofString "way") (b := Str.ofString "number") (c := Str.ofString "sums") (va := some (.ref Wy)) (vb := some (.int (c0.fmod 19683 - 9841) _)) (vc := some (.ref Sm)) F rfl rfl rfl
      clear F
      refine st2 (ks := ys.length) G (by show _ + 1 + 160 < _; decide +kernel) rfl (by show _ + 3 + 100 < _; decide +kernel) e1 hnt (notTab_seq rfl) d2 d1 hva hys F3 N T3 fun h11 tk11 tl11 F11 N11 T11 => ?_
      clear F3 N
      (try dsimp only)
      k_steps
      refine Hold.out ?_
      refine st3 (ks := ys.length) G (by show _ + 1 + 160 < _; decide +kernel) rfl (by show _ + 3 + 100 < _; decide +kernel) e1 hnt (notTab_seq rfl) d2 d1 hva hys F11 N11 T11 fun h12 tk12 tl12 F12 N12 T12 => ?_
      clear F11 N11
      (try dsimp only)
      k_steps
      refine Hold.out ?_
      refine st4 (ks := ys.length) G (by show _ + 1 + 160 < _; decide +kernel) rfl (by show _ + 3 + 100 < _; decide +kernel) e1 hnt (notTab_seq rfl) d2 d1 hva hys F12 N12 T12 fun h13 tk13 tl13 F13 N13 T13 => ?_
      clear F12 N12
      (try dsimp only)
      k_steps
      refine Hold.out ?_
      refine st5 (ks := ys.length) G (by show _ + 1 + 160 < _; decide +kernel) rfl (by show _ + 3 + 100 < _; decide +kernel) e1 hnt (notTab_seq rfl) d2 d1 hva hys F13 N13 T13 i7 i4 i5 i6 fun Od o1n h14 tk14 d1n hOd F14 N14 => ?_
      clear F13 N13
      (try dsimp only)
      k_steps
      refine Hold.out ?_
      refine st6 (ks := ys.length) (vsc := some (.ref z30)) G (by show _ + 1 + 160 < _; decide +kernel) rfl (by show _ + 3 + 100 < _; decide +kernel) e1 hnt (notTab_seq rfl) d2 d1n hva hys F14 (fun p hp => N14 p (.tail _ hp)) T13 (by passes_own) rfl d1n hOd N14 fun os cO m15 h15 tk15 hos hsc F15 N15 => ?_
      clear F14 N14
      (try dsimp only)
      k_steps
      refine Hold.out ?_
      refine st7 (ks := ys.length) G (by show _ + 1 + 160 < _; decide +kernel) rfl (by show _ + 3 + 100 < _; decide +kernel) e1 hnt (notTab_seq rfl) d2 d1n hva hys F15 (fun p hp => N15 p (.tail _ hp)) T13 d1n hos N15 fun h16 tk16 tl16 F16 N16 T16 => ?_
      clear F15 N15
      (try dsimp only)
      k_steps
      exact ⟨_, _, _, [(Dc, listOf vs.toArray 0), (Sm, listOf ys.toArray ys.length), (L + 1 + 1, o2), (L + 1, o1n)], tl16, rfl, F16, fun p hp => N16 p (.tail _ hp), rfl, T16, ⟨rfl, hsc⟩, o2, o1n, rfl, ⟨_, d2⟩, ⟨_, d1n⟩⟩
    · rintro m₁ own₁ tl₁ h tk ⟨⟨b1, b2⟩, o2, o1, rfl, ⟨v2, d2⟩, ⟨v1, d1⟩⟩ hadr T₂ F N
      simp only [List.cons_append, List.nil_append] at N
      have i3 : @Ne Nat (L + 1 + 1) (L + 1) := by omega
      have i5 : @Ne Nat (L + 1 + 1) Dc := Nat.ne_of_lt l1.2.1
      have i6 : @Ne Nat (L + 1 + 1) Sm := o1'.1
      rw [canon2 (m := m₁) b1 b2 (m0 := m₁) (fun _ _ _ => rfl)] at F
      k_steps
      rename Fr _ _ _ _ => F
      rename News _ _ _ _ => N
      rename Obj.data _ = Data.cell (some (Value.int _ _)) => d9
      obtain ⟨n0, hn0, hn3⟩ : ∃ n0 : Nat, z22.sum.fmod 4 = (n0 : Int) ∧ n0 ≤ 3 := by
        have h1 := Int.fmod_nonneg_of_pos z22.sum (b := 4) (by decide)
        have h2 := Int.fmod_lt_of_pos z22.sum (b := 4) (by decide)
        exact ⟨(z22.sum.fmod 4).toNat, by omega, by omega⟩
      rw [hn0] at d9 ⊢
      refine law_ways_use (n0 := n0) G.X G.T (fun b o e => e) F N (by show _ + 1 + 1 < _; decide +kernel) rfl rfl hn3 fun S ws kW ownW h20 tk20 F20 N20 hLA hNF => ?_
      clear F N
      (try dsimp only)
      k_steps
      refine Hold.out ?_
      rename Fr _ _ _ _ => F
      rename News _ _ _ _ => N
      refine tT2 G (by show _ + 1 + 160 < _; decide +kernel) rfl (by show _ + 3 + 100 < _; decide +kernel) hn3 (hLA.mono fun p hp => List.mem_append_left _ hp) F (fun p hp => N p (mem_re hp)) T₂ fun D zs cz h21 tk21 tl21 hzs F21 N21 T21 => ?_
      clear F N
      (try dsimp only)
      k_steps
      refine Hold.out ?_
      refine tT3 G (by show _ + 1 + 160 < _; decide +kernel) rfl (by show _ + 3 + 100 < _; decide +kernel) hn3 d9 hzs F21 (fun p hp => N21 p (mem_re2 hp)) fun h22 tk22 F22 N22 => ?_
      clear F21 N21
      (try dsimp only)
      k_steps
      refine Hold.out ?_
      refine tT4 G (by show _ + 1 + 160 < _; decide +kernel) rfl (by show _ + 3 + 100 < _; decide +kernel) hn3 d9 hLA hNF (Fr.canonA1 (a := Str.ofString "ways") (va := some (.ref S)) F22 rfl) (fun p hp => N22 p (.tail _ hp)) T21 fun h23 tk23 tl23 F23 N23 T23 => ?_
      clear F22 N22
      exact ⟨rfl, _, _, _, _, _, rfl, F23, N23, T23⟩)
end

end
end Mine

set_option maxHeartbeats 8000000 in
theorem PySem.Challenge.cw_zx0003_02_holds : PySem.Challenge.rw_zx0003_02.Holds := by
  exact Mine.law2
