import PyProof.Rows.All
import Wide.All
import OpenK.AllK
import Wide.FinOn
import PySem.Challenge.RW_jy0011_01
open PySem PySem.W PyProof.Rows
set_option Elab.async false
namespace Mine
/-- the number that a row of digits of f bits makes, the first the highest -/
def num (f : Nat) (ns : List Int) : Int := ns.foldl (fun a d => a * 2 ^ f + d) 0
/-- c digits of t bits, the lowest of x -/
def row (t : Nat) : Nat → Int → List Int
  | 0, _ => []
  | c + 1, x => row t c (x / 2 ^ t) ++ [x % 2 ^ t]
/-- every digit has f bits -/
def Dig (f : Nat) (ns : List Int) : Prop := ∀ d ∈ ns, 0 ≤ d ∧ d < 2 ^ f
/-- between the turns of convertbits' outer loop -/
def CbInv (f t : Int) (pre : List Int) (acc bits : Int) (ret : List Int) : Prop :=
  Dig f.toNat pre ∧ ∃ b c : Nat, bits = b ∧ b < t.toNat ∧ b + t.toNat * c = f.toNat * pre.length ∧ ret = row t.toNat c (num f.toNat pre / 2 ^ b) ∧ acc = num f.toNat pre % 2 ^ (f + t - 1).toNat
/-- between the turns of its inner loop -/
def CbIn (t b0 acc : Int) (r0 : List Int) (bits : Int) (ret : List Int) : Prop :=
  0 ≤ bits ∧ ∃ j : Nat, bits + t * j = b0 ∧ ret = r0 ++ row t.toNat j (acc / 2 ^ bits.toNat)
theorem p2 (k : Nat) : (0 : Int) < 2 ^ k := Int.pow_pos (by decide)
theorem padd (a b : Nat) : (2 : Int) ^ (a + b) = 2 ^ a * 2 ^ b := Int.pow_add 2 a b
theorem divdiv (x : Int) (a b : Nat) : x / 2 ^ a / 2 ^ b = x / 2 ^ (a + b) := by
  rw [padd, Int.ediv_ediv_of_nonneg (Int.le_of_lt (p2 a))]
theorem modcut (x : Int) (k b t : Nat) (h : b + t ≤ k) : x % 2 ^ k / 2 ^ b % 2 ^ t = x / 2 ^ b % 2 ^ t := by
  obtain ⟨c, rfl⟩ : ∃ c, k = b + (t + c) := ⟨k - b - t, by omega⟩
  have e : x = x % 2 ^ (b + (t + c)) + 2 ^ b * (2 ^ t * (2 ^ c * (x / 2 ^ (b + (t + c))))) := by
    have := Int.emod_add_mul_ediv x (2 ^ (b + (t + c)))
    rw [← Int.mul_assoc, ← Int.mul_assoc, ← padd, ← padd, Nat.add_assoc]
    exact this.symm
  have e2 : x / 2 ^ b = x % 2 ^ (b + (t + c)) / 2 ^ b + 2 ^ t * (2 ^ c * (x / 2 ^ (b + (t + c)))) := by
    conv => lhs; rw [e]
    rw [Int.add_mul_ediv_left _ _ (Int.ne_of_gt (p2 b))]
  rw [e2, Int.add_mul_emod_self_left]
theorem row_length (t : Nat) : ∀ (c : Nat) (x : Int), (row t c x).length = c
  | 0, _ => rfl
  | c + 1, x => by rw [row, List.length_append, row_length t c]; rfl
theorem row_dig (t : Nat) : ∀ (c : Nat) (x : Int), Dig t (row t c x)
  | 0, _ => fun _ h => nomatch h
  | c + 1, x => by
    intro d h
    rw [row] at h
    rcases List.mem_append.mp h with h | h
    · exact row_dig t c _ d h
    · rw [List.mem_singleton.mp h]
      exact ⟨Int.emod_nonneg _ (Int.ne_of_gt (p2 t)), Int.emod_lt_of_pos _ (p2 t)⟩
theorem num_nil (f : Nat) : num f [] = 0 := rfl
theorem num_snoc (f : Nat) (xs : List Int) (d : Int) : num f (xs ++ [d]) = num f xs * 2 ^ f + d := by
  unfold num; rw [List.foldl_append]; rfl
theorem Dig.init {f : Nat} {xs ys : List Int} (h : Dig f (xs ++ ys)) : Dig f xs := fun d hd => h d (List.mem_append_left _ hd)
theorem Dig.tail {f : Nat} {xs ys : List Int} (h : Dig f (xs ++ ys)) : Dig f ys := fun d hd => h d (List.mem_append_right _ hd)
theorem Dig.app {f : Nat} {xs ys : List Int} (h : Dig f xs) (h' : Dig f ys) : Dig f (xs ++ ys) := fun d hd => (List.mem_append.mp hd).elim (h d) (h' d)
theorem Dig.one {f : Nat} {d : Int} (h : 0 ≤ d) (h' : d < 2 ^ f) : Dig f [d] := fun _ hd => by rw [List.mem_singleton.mp hd]; exact ⟨h, h'⟩
theorem snoc_ind {P : List Int → Prop} (h0 : P []) (h1 : ∀ xs d, P xs → P (xs ++ [d])) (xs : List Int) : P xs := by
  have : ∀ ys : List Int, P ys.reverse := by
    intro ys
    induction ys with
    | nil => exact h0
    | cons y r ih => rw [List.reverse_cons]; exact h1 _ _ ih
  have h := this xs.reverse
  rwa [List.reverse_reverse] at h
theorem num_range (f : Nat) (xs : List Int) (h : Dig f xs) : 0 ≤ num f xs ∧ num f xs < 2 ^ (f * xs.length) := by
  induction xs using snoc_ind with
  | h0 => rw [num_nil]; exact ⟨Int.le_refl _, p2 _⟩
  | h1 xs d ih =>
    obtain ⟨a, b⟩ := ih h.init
    obtain ⟨c, e⟩ := h d (List.mem_append_right _ (.head _))
    rw [num_snoc, List.length_append]
    show _ ∧ _ < (2 : Int) ^ (f * (xs.length + 1))
    rw [Nat.mul_add, Nat.mul_one, padd]
    have p := p2 f
    refine ⟨Int.add_nonneg (Int.mul_nonneg a (Int.le_of_lt p)) c, ?_⟩
    have : num f xs * 2 ^ f + 2 ^ f ≤ 2 ^ (f * xs.length) * 2 ^ f := by
      have := Int.mul_le_mul_of_nonneg_right (show num f xs + 1 ≤ 2 ^ (f * xs.length) from b) (Int.le_of_lt p)
      rwa [Int.add_mul, Int.one_mul] at this
    omega
theorem snoc_div {f : Nat} {x d : Int} (h : 0 ≤ d) (h' : d < 2 ^ f) : (x * 2 ^ f + d) / 2 ^ f = x := by
  rw [Int.add_comm, Int.add_mul_ediv_right _ _ (Int.ne_of_gt (p2 f)), Int.ediv_eq_zero_of_lt h h', Int.zero_add]
theorem snoc_mod {f : Nat} {x d : Int} (h : 0 ≤ d) (h' : d < 2 ^ f) : (x * 2 ^ f + d) % 2 ^ f = d := by
  rw [Int.add_comm, Int.add_mul_emod_self_right, Int.emod_eq_of_lt h h']
theorem row_num (f : Nat) (xs : List Int) (h : Dig f xs) : row f xs.length (num f xs) = xs := by
  induction xs using snoc_ind with
  | h0 => rfl
  | h1 xs d ih =>
    obtain ⟨c, e⟩ := h d (List.mem_append_right _ (.head _))
    rw [num_snoc, List.length_append]
    show row f (xs.length + 1) _ = _
    rw [row, snoc_div c e, snoc_mod c e, ih h.init]
theorem num_row (t : Nat) : ∀ (c : Nat) (x : Int), num t (row t c x) = x % 2 ^ (t * c)
  | 0, x => by rw [row, num_nil]; simp [Int.emod_one]
  | c + 1, x => by
    rw [row, num_snoc, num_row t c, Nat.mul_add, Nat.mul_one, Nat.add_comm, padd]
    have h := Int.emod_add_mul_ediv x (2 ^ t)
    have h2 := Int.emod_add_mul_ediv (x / 2 ^ t) (2 ^ (t * c))
    have r1 := Int.emod_nonneg x (Int.ne_of_gt (p2 t))
    have r2 := Int.emod_lt_of_pos x (p2 t)
    have s1 := Int.emod_nonneg (x / 2 ^ t) (Int.ne_of_gt (p2 (t * c)))
    have s2 := Int.emod_lt_of_pos (x / 2 ^ t) (p2 (t * c))
    have pt := p2 t
    have e : x = (x / 2 ^ t % 2 ^ (t * c) * 2 ^ t + x % 2 ^ t) + 2 ^ t * 2 ^ (t * c) * (x / 2 ^ t / 2 ^ (t * c)) := by
      generalize x / 2 ^ t = y at *
      generalize y / 2 ^ (t * c) = z at *
      generalize x % 2 ^ t = u at *
      generalize y % 2 ^ (t * c) = v at *
      generalize (2 : Int) ^ t = A at *
      generalize (2 : Int) ^ (t * c) = B at *
      rw [← h, ← h2, Int.mul_add, Int.mul_comm A v, Int.mul_assoc]
      omega
    conv => rhs; rw [e]
    rw [Int.add_mul_emod_self_left]
    refine (Int.emod_eq_of_lt (Int.add_nonneg (Int.mul_nonneg s1 (Int.le_of_lt pt)) r1) ?_).symm
    have := Int.mul_le_mul_of_nonneg_right (show x / 2 ^ t % 2 ^ (t * c) + 1 ≤ 2 ^ (t * c) from s2) (Int.le_of_lt pt)
    rw [Int.add_mul, Int.one_mul, Int.mul_comm (2 ^ (t * c))] at this
    omega
theorem row_split (t a : Nat) : ∀ (b : Nat) (x : Int), row t (a + b) x = row t a (x / 2 ^ (t * b)) ++ row t b x
  | 0, x => by rw [row, List.append_nil, Nat.mul_zero, Nat.add_zero]; simp
  | b + 1, x => by
    show row t (a + b + 1) x = _
    rw [row, row_split t a b, row, divdiv, List.append_assoc, Nat.mul_add, Nat.mul_one, Nat.add_comm t]
theorem row_mod (t : Nat) : ∀ (j : Nat) (x : Int) (k b : Nat), b + t * j ≤ k → row t j (x % 2 ^ k / 2 ^ b) = row t j (x / 2 ^ b)
  | 0, _, _, _, _ => rfl
  | j + 1, x, k, b, h => by
    rw [Nat.mul_add, Nat.mul_one] at h
    rw [row, row, divdiv, divdiv, row_mod t j x k (b + t) (by omega), modcut x k b t (by omega)]
/-- what convertbits hands back -/
def conv (f t : Nat) (pad : Bool) (ns : List Int) : Option (List Int) :=
  if ∀ d ∈ ns, 0 ≤ d ∧ d < 2 ^ f then
    if pad then some (row t (f * ns.length / t) (num f ns / 2 ^ (f * ns.length % t)) ++ if f * ns.length % t = 0 then [] else [num f ns % 2 ^ (f * ns.length % t) * 2 ^ (t - f * ns.length % t)])
    else if f ≤ f * ns.length % t ∨ num f ns % 2 ^ (f * ns.length % t) ≠ 0 then none
    else some (row t (f * ns.length / t) (num f ns / 2 ^ (f * ns.length % t)))
  else none

theorem or_add {x n : Int} {f : Nat} (hx : 0 ≤ x) (h0 : 0 ≤ n) (h1 : n < 2 ^ f) : Builtin.bitOr (x * 2 ^ f) n = x * 2 ^ f + n := by
  have pf := p2 f
  have hx' : 0 ≤ x * 2 ^ f := Int.mul_nonneg hx (Int.le_of_lt pf)
  rw [bitOr_and, bitAnd_pp hx' h0]
  have e1 : (x * 2 ^ f).toNat = x.toNat * 2 ^ f := by
    rw [Int.toNat_mul hx (Int.le_of_lt pf)]
    congr 1
  have e2 : n.toNat < 2 ^ f := by
    have hc := kbt_cast f
    omega
  have e3 : n.toNat = n.toNat &&& (2 ^ f - 1) := by rw [Nat.and_two_pow_sub_one_eq_mod, Nat.mod_eq_of_lt e2]
  have e4 : x.toNat * 2 ^ f &&& n.toNat = 0 := by
    rw [e3, Nat.and_comm n.toNat, ← Nat.and_assoc, Nat.and_two_pow_sub_one_eq_mod, Nat.mul_mod_left, Nat.zero_and]
  rw [e1, e4]
  simp
theorem and_mask (x : Int) (k : Nat) : Builtin.bitAnd x (1 * 2 ^ k - 1) = x % 2 ^ k := by rw [Int.one_mul, kbt_mask]

theorem pmono {a b : Nat} (h : a ≤ b) : (2 : Int) ^ a ≤ 2 ^ b := by
  have h1 := Nat.pow_le_pow_right (show 2 > 0 by decide) h
  have h2 := kbt_cast a
  have h3 := kbt_cast b
  omega
theorem fdiv_p (x : Int) (k : Nat) : x.fdiv (2 ^ k) = x / 2 ^ k := Int.fdiv_eq_ediv_of_nonneg _ (Int.le_of_lt (p2 k))

theorem cbinv {f t : Nat} {pre ret : List Int} {acc bits : Int} (h : CbInv f t pre acc bits ret) :
    Dig f pre ∧ ∃ b c : Nat, bits = b ∧ b < t ∧ b + t * c = f * pre.length ∧ ret = row t c (num f pre / 2 ^ b) ∧ acc = num f pre % 2 ^ (f + t - 1) := by
  obtain ⟨a, b, c, h1, h2, h3, h4, h5⟩ := h
  have e : ((f : Int) + t - 1).toNat = f + t - 1 := by omega
  rw [e] at h5
  exact ⟨a, b, c, h1, h2, h3, h4, h5⟩
theorem cbinv_of {f t : Nat} {pre ret : List Int} {acc bits : Int} (h : Dig f pre ∧ ∃ b c : Nat, bits = b ∧ b < t ∧ b + t * c = f * pre.length ∧ ret = row t c (num f pre / 2 ^ b) ∧ acc = num f pre % 2 ^ (f + t - 1)) : CbInv f t pre acc bits ret := by
  obtain ⟨a, b, c, h1, h2, h3, h4, h5⟩ := h
  have e : ((f : Int) + t - 1).toNat = f + t - 1 := by omega
  exact ⟨a, b, c, h1, h2, h3, h4, by rw [e]; exact h5⟩
theorem cbin {t : Nat} {b0 acc bits : Int} {r0 ret : List Int} (h : CbIn t b0 acc r0 bits ret) :
    ∃ b j : Nat, bits = b ∧ (b : Int) + t * j = b0 ∧ ret = r0 ++ row t j (acc / 2 ^ b) := by
  obtain ⟨a, j, h1, h2⟩ := h
  refine ⟨bits.toNat, j, by omega, ?_, h2⟩
  rw [← h1, Int.toNat_of_nonneg a]

theorem cb_start {f t : Nat} (ht : 1 ≤ t) : CbInv f t [] 0 0 [] :=
  cbinv_of ⟨(fun _ h => nomatch h), 0, 0, rfl, ht, rfl, rfl, by rw [num_nil]; simp⟩
theorem cb_nonneg {f t : Nat} {pre ret : List Int} {acc bits : Int} (h : CbInv f t pre acc bits ret) : 0 ≤ acc := by
  obtain ⟨_, b, c, _, _, _, _, h5⟩ := cbinv h
  rw [h5]; exact Int.emod_nonneg _ (Int.ne_of_gt (p2 _))
theorem cb_lt {f t : Nat} {pre ret : List Int} {acc bits : Int} (h : CbInv f t pre acc bits ret) : acc < 2 ^ (f + t - 1) := by
  obtain ⟨_, b, c, _, _, _, _, h5⟩ := cbinv h
  rw [h5]; exact Int.emod_lt_of_pos _ (p2 _)
theorem cb_bits {f t : Nat} {pre ret : List Int} {acc bits : Int} (h : CbInv f t pre acc bits ret) (hf : f ≤ 40) (ht : t ≤ 40) : Builtin.Int.intBits acc ≤ 80 := by
  rw [intBits_le_iff]
  have h0 := cb_nonneg h
  have h1 := cb_lt h
  have h2 : (2 : Int) ^ (f + t - 1) ≤ 2 ^ 80 := pmono (by omega)
  have e : ((2 ^ 80 : Nat) : Int) = (2 : Int) ^ 80 := kbt_cast 80
  omega
theorem cb_sh1 {f t : Nat} {pre ret : List Int} {acc bits : Int} (h : CbInv f t pre acc bits ret) (hf : f ≤ 40) (ht : t ≤ 40) : (Builtin.Int.intBits acc : Int) + (f : Int) ≤ 2 ^ 27 := by
  have := cb_bits h hf ht
  have e : (2 : Int) ^ 27 = 134217728 := by decide
  omega
theorem cb_sh0 {f t : Nat} {pre ret : List Int} {acc bits : Int} (h : CbInv f t pre acc bits ret) : 0 ≤ (t : Int) - bits := by
  obtain ⟨_, b, c, h1, h2, _⟩ := cbinv h
  omega
theorem cb_sh2 {f t : Nat} {pre ret : List Int} {acc bits : Int} (h : CbInv f t pre acc bits ret) (hf : f ≤ 40) (ht : t ≤ 40) : (Builtin.Int.intBits acc : Int) + ((t : Int) - bits) ≤ 2 ^ 27 := by
  have := cb_bits h hf ht
  obtain ⟨_, b, c, h1, h2, _⟩ := cbinv h
  have e : (2 : Int) ^ 27 = 134217728 := by decide
  omega
theorem le_mul (t c : Nat) (ht : 1 ≤ t) : c ≤ t * c := Nat.le_mul_of_pos_left c ht
theorem cb_len {f t : Nat} {pre ret : List Int} {acc bits : Int} (h : CbInv f t pre acc bits ret) (hf : f ≤ 40) (ht : 1 ≤ t) : ret.length ≤ 40 * pre.length := by
  obtain ⟨_, b, c, _, _, h3, h4, _⟩ := cbinv h
  rw [h4, row_length]
  have := le_mul t c ht
  have h6 : f * pre.length ≤ 40 * pre.length := Nat.mul_le_mul_right _ hf
  omega
theorem cb_size2 {f t : Nat} {ns ret : List Int} {vs : List Value} {acc bits : Int} (h : CbInv f t ns acc bits ret) (hf : f ≤ 40) (ht : 1 ≤ t) (hl : ns.length ≤ 1000) (hv : vs.length = ret.length) : vs.toArray.size ≤ sizeLine := by
  have := cb_len h hf ht
  rw [sizeLine_eq, List.size_toArray]
  omega
theorem cb_size1 {f t : Nat} {ns pre post ret ret' : List Int} {n : Int} {vs : List Value} {acc bits acc' bits' : Int} (h : CbInv f t pre acc bits ret) (h' : CbIn t (bits + f) acc' ret bits' ret') (he : ns = pre ++ n :: post) (hf : f ≤ 40) (ht : 1 ≤ t) (hl : ns.length ≤ 1000) (hv : vs.length = ret'.length) : vs.toArray.size ≤ sizeLine := by
  have h1 := cb_len h hf ht
  obtain ⟨b, j, h2, h3, h4⟩ := cbin h'
  obtain ⟨_, b', c, h5, h6, h7, h8, h9⟩ := cbinv h
  have h10 := le_mul t j ht
  have h11 : ((b : Nat) : Int) + ((t * j : Nat) : Int) = b' + f := by rw [Int.natCast_mul, h3, h5]
  have h12 : f * pre.length ≤ 40 * pre.length := Nat.mul_le_mul_right _ hf
  have h13 : ns.length = pre.length + (post.length + 1) := by rw [he, List.length_append]; rfl
  rw [sizeLine_eq, List.size_toArray, hv, h4, List.length_append, row_length]
  omega

theorem cbin_start {f t : Nat} {pre ret : List Int} {acc bits acc' : Int} (h : CbInv f t pre acc bits ret) : CbIn t (bits + f) acc' ret (bits + f) ret := by
  obtain ⟨_, b', c, h5, h6, h7, h8, h9⟩ := cbinv h
  refine ⟨by omega, 0, by simp, ?_⟩
  rw [row, List.append_nil]
theorem cbin_turn {t : Nat} {b0 acc bits : Int} {r0 ret : List Int} (h : CbIn t b0 acc r0 bits ret) (hb : (t : Int) ≤ bits) :
    CbIn t b0 acc r0 (bits - t) (ret ++ [Builtin.bitAnd (acc.fdiv (2 ^ (bits - t).toNat)) (1 * 2 ^ (t : Int).toNat - 1)]) := by
  obtain ⟨b, j, h2, h3, h4⟩ := cbin h
  refine ⟨by omega, j + 1, ?_, ?_⟩
  · rw [← h3, h2]
    have : (t : Int) * ((j + 1 : Nat) : Int) = t * j + t := by rw [Int.natCast_add, Int.mul_add]; simp
    omega
  · have e : (bits - t).toNat = b - t := by omega
    have e' : (t : Int).toNat = t := Int.toNat_natCast t
    have e2 : b - t + t = b := by omega
    rw [e, e', and_mask, fdiv_p, row, ← List.append_assoc, divdiv, e2, h4]

theorem cb_turn {f t : Nat} {pre ret ret' : List Int} {acc bits n bits' : Int} (hf : 1 ≤ f) (ht : 1 ≤ t) (h : CbInv f t pre acc bits ret) (h0 : ¬ n < 0) (h1 : n.fdiv (2 ^ (f : Int).toNat) = 0)
    (hw : CbIn t (bits + f) (Builtin.bitAnd (Builtin.bitOr (acc * 2 ^ (f : Int).toNat) n) (1 * 2 ^ ((f : Int) + t - 1).toNat - 1)) ret bits' ret') (he : ¬ (t : Int) ≤ bits') :
    CbInv f t (pre ++ [n]) (Builtin.bitAnd (Builtin.bitOr (acc * 2 ^ (f : Int).toNat) n) (1 * 2 ^ ((f : Int) + t - 1).toNat - 1)) bits' ret' := by
  have ef : (f : Int).toNat = f := Int.toNat_natCast f
  have eft : ((f : Int) + t - 1).toNat = f + t - 1 := by omega
  rw [ef] at h1
  rw [ef, eft, and_mask] at hw ⊢
  have hn0 : 0 ≤ n := by omega
  have hn1 : n < 2 ^ f := by
    rw [fdiv_p] at h1
    have := Int.emod_add_mul_ediv n (2 ^ f)
    rw [h1, Int.mul_zero, Int.add_zero] at this
    rw [← this]; exact Int.emod_lt_of_pos _ (p2 f)
  rw [or_add (cb_nonneg h) hn0 hn1] at hw ⊢
  obtain ⟨hd, b, c, h5, h6, h7, h8, h9⟩ := cbinv h
  obtain ⟨b2, j, i1, i2, i3⟩ := cbin hw
  have i2' : b2 + t * j = b + f := by
    have : ((b2 : Nat) : Int) + ((t * j : Nat) : Int) = b + f := by rw [Int.natCast_mul, i2, h5]
    omega
  have eacc : (acc * 2 ^ f + n) % 2 ^ (f + t - 1) = num f (pre ++ [n]) % 2 ^ (f + t - 1) := by
    rw [num_snoc, h9]
    have := Int.emod_add_mul_ediv (num f pre) (2 ^ (f + t - 1))
    conv => rhs; rw [← this]
    rw [Int.add_mul, Int.mul_assoc, Int.add_right_comm, Int.add_mul_emod_self_left]
  refine cbinv_of ⟨hd.app (Dig.one hn0 hn1), b2, c + j, i1, by omega, ?_, ?_, ?_⟩
  · have h8 : (pre ++ [n]).length = pre.length + 1 := by simp
    rw [h8, Nat.mul_add, Nat.mul_add, Nat.mul_one, ← h7]
    omega
  · rw [i3, row_split, eacc, row_mod t j _ _ _ (by omega), divdiv, i2', h8, num_snoc]
    congr 2
    rw [Nat.add_comm b f, ← divdiv, snoc_div hn0 hn1]
  · exact eacc

theorem conv_bad {f t : Nat} {pad : Bool} {ns pre post : List Int} {n : Int} (he : ns = pre ++ n :: post) (h : n < 0 ∨ n.fdiv (2 ^ (f : Int).toNat) ≠ 0) : conv f t pad ns = none := by
  unfold conv
  rw [if_neg]
  intro hall
  obtain ⟨a, b⟩ := hall n (by rw [he]; exact List.mem_append_right _ (.head _))
  rw [Int.toNat_natCast, fdiv_p, Int.ediv_eq_zero_of_lt a b] at h
  rcases h with h | h
  · omega
  · exact h rfl
theorem cb_dm {f t b c l : Nat} (hb : b < t) (h : b + t * c = f * l) : f * l % t = b ∧ f * l / t = c := by
  have ht : 0 < t := Nat.lt_of_le_of_lt (Nat.zero_le b) hb
  rw [← h]
  exact ⟨by rw [Nat.add_mul_mod_self_left, Nat.mod_eq_of_lt hb], by rw [Nat.add_mul_div_left _ _ ht, Nat.div_eq_of_lt hb, Nat.zero_add]⟩
theorem mod_shift (x : Int) {b t k : Nat} (hb : b ≤ t) (hk : b ≤ k) : (x % 2 ^ k * 2 ^ (t - b)) % 2 ^ t = x % 2 ^ b * 2 ^ (t - b) := by
  have e : (2 : Int) ^ t = 2 ^ b * 2 ^ (t - b) := by rw [← padd]; congr 1; omega
  rw [e, Int.mul_comm (x % 2 ^ k), Int.mul_comm (2 ^ b), Int.mul_emod_mul_of_pos _ _ (p2 (t - b)), Int.mul_comm]
  congr 1
  exact Int.emod_emod_of_dvd _ (by obtain ⟨c, rfl⟩ : ∃ c, k = b + c := ⟨k - b, by omega⟩; rw [padd]; exact Int.dvd_mul_right _ _)
/-- the item that the end reckons -/
theorem cb_last {f t : Nat} {ns ret : List Int} {acc bits : Int} (hf : 1 ≤ f) (h : CbInv f t ns acc bits ret) {b : Nat} (hb : bits = b) (hb' : b < t) :
    Builtin.bitAnd (acc * 2 ^ ((t : Int) - bits).toNat) (1 * 2 ^ (t : Int).toNat - 1) = num f ns % 2 ^ b * 2 ^ (t - b) := by
  obtain ⟨_, _, _, _, _, _, _, h9⟩ := cbinv h
  have e : ((t : Int) - bits).toNat = t - b := by omega
  rw [Int.toNat_natCast, and_mask, e, h9, mod_shift _ (by omega) (by omega)]
theorem conv_pad0 {f t : Nat} {ns ret : List Int} {acc bits : Int} {pad : Bool} (hp : pad = true) (h : CbInv f t ns acc bits ret) (hb : bits = 0) : conv f t pad ns = some ret := by
  subst hp
  obtain ⟨hd, b, c, h5, h6, h7, h8, h9⟩ := cbinv h
  obtain ⟨e1, e2⟩ := cb_dm h6 h7
  have : b = 0 := by omega
  subst this
  unfold conv
  rw [if_pos (show ∀ d ∈ ns, 0 ≤ d ∧ d < 2 ^ f from hd), e1, e2, ← h8]
  simp
theorem conv_pad1 {f t : Nat} {ns ret : List Int} {acc bits : Int} {pad : Bool} (hp : pad = true) (hf : 1 ≤ f) (h : CbInv f t ns acc bits ret) (hb : bits ≠ 0) :
    conv f t pad ns = some (ret ++ [Builtin.bitAnd (acc * 2 ^ ((t : Int) - bits).toNat) (1 * 2 ^ (t : Int).toNat - 1)]) := by
  subst hp
  obtain ⟨hd, b, c, h5, h6, h7, h8, h9⟩ := cbinv h
  obtain ⟨e1, e2⟩ := cb_dm h6 h7
  rw [cb_last hf h h5 h6]
  have : ¬ b = 0 := by omega
  unfold conv
  rw [if_pos (show ∀ d ∈ ns, 0 ≤ d ∧ d < 2 ^ f from hd), e1, e2, ← h8]
  simp [this]
theorem conv_none1 {f t : Nat} {ns ret : List Int} {acc bits : Int} {pad : Bool} (hp : pad = false) (h : CbInv f t ns acc bits ret) (hb : (f : Int) ≤ bits) : conv f t pad ns = none := by
  subst hp
  obtain ⟨hd, b, c, h5, h6, h7, h8, h9⟩ := cbinv h
  obtain ⟨e1, e2⟩ := cb_dm h6 h7
  have : f ≤ b := by omega
  unfold conv
  rw [if_pos (show ∀ d ∈ ns, 0 ≤ d ∧ d < 2 ^ f from hd), e1, e2]
  simp [this]
theorem conv_none2 {f t : Nat} {ns ret : List Int} {acc bits : Int} {pad : Bool} (hp : pad = false) (hf : 1 ≤ f) (h : CbInv f t ns acc bits ret) (hb : Builtin.bitAnd (acc * 2 ^ ((t : Int) - bits).toNat) (1 * 2 ^ (t : Int).toNat - 1) ≠ 0) : conv f t pad ns = none := by
  subst hp
  obtain ⟨hd, b, c, h5, h6, h7, h8, h9⟩ := cbinv h
  obtain ⟨e1, e2⟩ := cb_dm h6 h7
  rw [cb_last hf h h5 h6] at hb
  have : num f ns % 2 ^ b ≠ 0 := fun z => hb (by rw [z, Int.zero_mul])
  unfold conv
  rw [if_pos (show ∀ d ∈ ns, 0 ≤ d ∧ d < 2 ^ f from hd), e1, e2]
  simp [this]
theorem conv_some2 {f t : Nat} {ns ret : List Int} {acc bits : Int} {pad : Bool} (hp : pad = false) (hf : 1 ≤ f) (h : CbInv f t ns acc bits ret) (h1 : ¬ (f : Int) ≤ bits) (hb : Builtin.bitAnd (acc * 2 ^ ((t : Int) - bits).toNat) (1 * 2 ^ (t : Int).toNat - 1) = 0) : conv f t pad ns = some ret := by
  subst hp
  obtain ⟨hd, b, c, h5, h6, h7, h8, h9⟩ := cbinv h
  obtain ⟨e1, e2⟩ := cb_dm h6 h7
  rw [cb_last hf h h5 h6] at hb
  have : num f ns % 2 ^ b = 0 := by
    rcases Int.mul_eq_zero.mp hb with z | z
    · exact z
    · exact absurd z (Int.ne_of_gt (p2 _))
  have h2 : ¬ f ≤ b := by omega
  unfold conv
  rw [if_pos (show ∀ d ∈ ns, 0 ≤ d ∧ d < 2 ^ f from hd), e1, e2, ← h8]
  simp [this, h2]
/-- what a call of convertbits hands back, whoever calls -/
def CbTells (prog : Program) (w : World) (K : Frag) (p : Program) (loose : List Str) (mean : ExcName → Option Value) (mg mb : Str → Option Value) (f : Addr) : Prop :=
  ∀ (dp un : Nat) (gd : Option (List Code)) (cn : Str) (cs : Scope) (a : Addr) (ccd : Value) (cl : List (Str × Addr)) (outer : List Env) (A₀ : Around) (base h₀ : Heap) (L : Addr) (m : Str → Option Value) (news : List (Addr × Obj)) (s : Shared)
    (l : Addr) (vs : List Value) (ns : List Int) (cap : Nat) (fb tb : Nat) (t1 t2 : Tok) (pad : Bool) (args : List Value)
    (Q E : Value → Shared → Prop),
    Below A₀ base outer h₀ → Fr h₀ L s.heap m → K.In h₀ → News h₀ L s.heap news → Top p loose mean mg mb h₀ → cs.kind = .function →
    (l, listOf vs.toArray cap) ∈ news → IntsAre vs ns → ns.length ≤ 1000 → 1 ≤ fb → fb ≤ 40 → 1 ≤ tb → tb ≤ 40 → dp + 1 < recursionLimit → un + 8 < cLine →
    (args = [.ref l, .int fb t1, .int tb t2, .bool pad] ∨ (args = [.ref l, .int fb t1, .int tb t2] ∧ pad = true)) →
    (conv fb tb pad ns = none → ∀ h' tk', Fr h₀ L h' m → News h₀ L h' news → Q .none { s with heap := h', toks := tk' }) →
    (∀ r l' vs' cap' h' tk', conv fb tb pad ns = some r → IntsAre vs' r → (∀ p ∈ news, p.1 < l') → Fr h₀ L h' m → News h₀ L h' ((l', listOf vs'.toArray cap') :: news) → Q (.ref l') { s with heap := h', toks := tk' }) →
    wpAny (model prog w) (ktrTop dp un gd cn cs L a ccd cl outer) (call (.ref f) args) Q E s

theorem ints_snoc {vs : List Value} {ns : List Int} {x : Int} {t : Tok} (h : IntsAre vs ns) : IntsAre (vs ++ [.int x t]) (ns ++ [x]) := by
  induction h with
  | nil => exact .cons _ _ .nil
  | cons n u _ ih => exact .cons n u ih
theorem news_push {h₀ h : Heap} {L l : Addr} {vs : List Value} {x : Value} {c : Nat} {news : List (Addr × Obj)} (N : News h₀ L h ((l, listOf (vs.toArray.push x) c) :: news)) : News h₀ L h ((l, listOf (vs ++ [x]).toArray c) :: news) := by
  rw [← List.push_toArray]; exact N
theorem num_bits {f : Nat} {ns : List Int} (h : Dig f ns) (hf : f ≤ 40) (hl : ns.length ≤ 1000) : Builtin.Int.intBits (num f ns) ≤ 40000 := by
  rw [intBits_le_iff]
  obtain ⟨a, b⟩ := num_range f ns h
  have h1 : f * ns.length ≤ 40 * 1000 := Nat.mul_le_mul hf hl
  have h2 : (2 : Int) ^ (f * ns.length) ≤ 2 ^ 40000 := pmono (by omega)
  have e := kbt_cast 40000
  generalize (2 : Int) ^ (f * ns.length) = C at *
  generalize (2 : Int) ^ 40000 = A at *
  generalize (2 : Nat) ^ 40000 = B at *
  omega
theorem pow_bits {f : Nat} (hf : f ≤ 40) : Builtin.Int.intBits ((2 : Int) ^ (f : Int).toNat) ≤ 41 := by
  rw [Int.toNat_natCast, intBits_le_iff]
  rw [← kbt_cast f]
  exact Nat.pow_lt_pow_right (by decide) (by omega)
theorem ln_mul {f : Nat} {ns pre post : List Int} {n number : Int} (h : number = num (f : Int).toNat pre) (he : ns = pre ++ n :: post) (hd : Dig f ns) (hf : f ≤ 40) (hl : ns.length ≤ 1000) : IntMulOk number (2 ^ (f : Int).toNat) := by
  rw [Int.toNat_natCast] at h
  subst he
  have h1 := num_bits hd.init hf (by rw [List.length_append] at hl; omega)
  rw [← h] at h1
  exact IntMulOk.of_le h1 (pow_bits hf) (by decide)
theorem ln_start {f : Nat} : (0 : Int) = num (f : Int).toNat [] := by rw [num_nil]
theorem ln_turn {f : Nat} {pre : List Int} {n number : Int} (h : number = num (f : Int).toNat pre) : number * 2 ^ (f : Int).toNat + n = num (f : Int).toNat (pre ++ [n]) := by
  rw [num_snoc, ← h]

/-- what a call of _law_number hands back, whoever calls -/
def LnTells (prog : Program) (w : World) (K : Frag) (p : Program) (loose : List Str) (mean : ExcName → Option Value) (mg mb : Str → Option Value) (f : Addr) : Prop :=
  ∀ (dp un : Nat) (gd : Option (List Code)) (cn : Str) (cs : Scope) (a : Addr) (ccd : Value) (cl : List (Str × Addr)) (outer : List Env) (A₀ : Around) (base h₀ : Heap) (L : Addr) (m : Str → Option Value) (news : List (Addr × Obj)) (s : Shared)
    (l : Addr) (vs : List Value) (ns : List Int) (cap : Nat) (fb : Nat) (t1 : Tok)
    (Q E : Value → Shared → Prop),
    Below A₀ base outer h₀ → Fr h₀ L s.heap m → K.In h₀ → News h₀ L s.heap news → Top p loose mean mg mb h₀ → cs.kind = .function →
    (l, listOf vs.toArray cap) ∈ news → IntsAre vs ns → ns.length ≤ 1000 → Dig fb ns → fb ≤ 40 → dp + 1 < recursionLimit → un + 8 < cLine →
    (∀ t h' tk', Fr h₀ L h' m → News h₀ L h' news → Q (.int (num fb ns) t) { s with heap := h', toks := tk' }) →
    wpAny (model prog w) (ktrTop dp un gd cn cs L a ccd cl outer) (call (.ref f) [.ref l, .int fb t1]) Q E s
section
variable {prog : Program} {w : World} {A : Around} {E : Value → Shared → Prop} {s : Shared} {env : Env} {h₀ : Heap} {x : Str} {body : List Stmt} {Q : Flow → Shared → Prop}
/-- a loop over range(n) whose turns may make new objects: an invariant over the frame and any ledger -/
theorem lr_range {r : Addr} {b₀ : Int} {t₀ u₀ v₀ : Tok} {n : Nat} {m₀ : Str → Option Value} {news : List (Addr × Obj)} (J : Nat → (Str → Option Value) → List (Addr × Obj) → Prop)
    (hh : A.handled = none) (hr : IsRange s.heap r 0 b₀ 1 t₀ u₀ v₀) (hsmall : Builtin.Range.small 0 b₀ 1 = true) (hn : Builtin.Range.rangeSize 0 b₀ 1 = (n : Int)) (F : Fr h₀ env.locals s.heap m₀) (N : News h₀ env.locals s.heap news) (hj : J 0 m₀ news)
    (turn : ∀ i t m₁ nx h tk own, i < n → TbOff own nx → J i m₁ nx → Fr h₀ env.locals h (fun y => if y = x then some (.int (i : Nat) t) else m₁ y) → News h₀ env.locals h (nx ++ own) →
      wpAny (model prog w) A (execs body env) (TbPost h₀ env.locals (J (i + 1)) own { s with heap := h, toks := tk } Q) E { s with heap := h, toks := tk })
    (done : ∀ m₁ nx h tk, J n m₁ nx → Fr h₀ env.locals h m₁ → News h₀ env.locals h nx → Q .next { s with heap := h, toks := tk }) :
    wpAny (model prog w) A (pyIter (.ref r)) (fun it s₂ => LoopAtV prog w A h₀ env x body Q E it s₂) E s := by
  refine wpAny_pyIter_range hr hsmall ?_
  have W : Walks prog w A s.heap.objs.size [s.heap.objs.size] [s.heap.objs.size] n (fun i v => ∃ t, v = .int (0 + (i : Nat) * 1) t)
      (fun i h => IsRangeIter h s.heap.objs.size (0 + (i : Nat) * 1) ((n : Int) - (i : Nat)) 1) := Walks.range hh _ 0 1 n
  refine ⟨_, _, _, n, _, _, m₀, news, J, rfl, W, ?_, ?_, ?_, ?_, F.push _, (fun p hp => ⟨Heap.get?_push_of_some _ (N p hp).1, (N p hp).2⟩), hj, ?_, ?_⟩
  · intro hm
    exact absurd F.ns.lt ((List.mem_singleton.mp hm) ▸ Nat.lt_irrefl _)
  · intro b hb
    rw [List.mem_singleton.mp hb]
    exact next_is_new F
  · intro p hp hI
    exact absurd (Heap.lt_size (N p hp).1) ((List.mem_singleton.mp hI) ▸ Nat.lt_irrefl _)
  · show IsRangeIter _ _ _ _ _
    rw [hn]
    simpa using Heap.get?_push_size _ rfl
  · rintro i v m₁ news₁ s₁ own ⟨hh', tk', rfl⟩ hin hP hJ hoff hown _ hmem hst F₁ N₁
    have hst' : IsRangeIter hh' s.heap.objs.size _ _ _ := hst
    have hI : (s.heap.objs.size, _) ∈ own := hmem _ (.head _) (next_is_new F) _ hst'
    have hsep : TbOff own news₁ := by
      intro p hp q hq e
      have h1 := List.mem_singleton.mp (hown p hp)
      exact hoff q hq (List.mem_singleton.mpr (by rw [← e, h1]))
    obtain ⟨t, rfl⟩ := hP
    have e1 : (0 : Int) + ((i : Nat) : Int) * 1 = (i : Nat) := by omega
    rw [e1] at F₁
    have N₂ : News h₀ env.locals hh' (news₁ ++ own) := fun p hp => N₁ p ((List.mem_append.mp hp).elim (fun h => List.mem_append.mpr (.inr h)) fun h => List.mem_append.mpr (.inl h))
    refine wpAny_mono (turn i t m₁ news₁ hh' tk' own hin hsep hJ F₁ N₂) (fun f s₂ p => ?_) fun _ _ e => e
    have fin : TbEnd h₀ env.locals (J (i + 1)) own { s with heap := hh', toks := tk' } s₂ → LoopStepU h₀ env.locals [s.heap.objs.size] own (J (i + 1)) { s with heap := hh', toks := tk' } .next s₂ := by
      rintro ⟨h', tk, m', news', nx, e, F', N', hn, ho, ha, hm⟩
      exact ⟨rfl, h', tk, m', nx, e, F', fun p hp => N' p ((List.mem_append.mp hp).elim (ho p) (hn p)), fun p hp hq => ha _ hI p hp (List.mem_singleton.mp hq).symm, hm⟩
    cases f with
    | ret v => exact .ret p
    | brk => exact .brk p
    | next => exact .next (fin p)
    | cont => exact .cont (fin p)
  · rintro h' tk m' news' F' N' _ hJ
    exact done m' news' h' tk hJ F' N'

/-- between the turns of _law_row's loop -/
def LrInv (t : Nat) (x₀ : Int) (news : List (Addr × Obj)) (m₀ : Str → Option Value) (i : Nat) (m : Str → Option Value) (nx : List (Addr × Obj)) : Prop :=
  ∃ l vs cap tk, IntsAre vs (row t i x₀) ∧ nx = (l, listOf vs.toArray cap) :: news ∧ (∀ p ∈ news, p.1 < l) ∧ m (Str.ofString "row") = some (.ref l) ∧ m (Str.ofString "number") = some (.int (x₀ / 2 ^ (t * i)) tk) ∧
    ∀ z, z ≠ Str.ofString "k" → z ≠ Str.ofString "row" → z ≠ Str.ofString "number" → m z = m₀ z
theorem lr_map {t i : Nat} {x₀ : Int} {m m₀ : Str → Option Value} {l : Addr} {tk : Tok} {u : Option Value} (h1 : m (Str.ofString "row") = some (.ref l)) (h2 : m (Str.ofString "number") = some (.int (x₀ / 2 ^ (t * i)) tk))
    (h3 : ∀ z, z ≠ Str.ofString "k" → z ≠ Str.ofString "row" → z ≠ Str.ofString "number" → m z = m₀ z) :
    (fun y => if y = Str.ofString "k" then u else m y) = fun y => if y = Str.ofString "k" then u else if y = Str.ofString "row" then some (.ref l) else if y = Str.ofString "number" then some (.int (x₀ / 2 ^ (t * i)) tk) else m₀ y := by
  funext y
  by_cases a : y = Str.ofString "k"
  · rw [if_pos a, if_pos a]
  · rw [if_neg a, if_neg a]
    by_cases b : y = Str.ofString "row"
    · rw [if_pos b, b, h1]
    · rw [if_neg b]
      by_cases c : y = Str.ofString "number"
      · rw [if_pos c, c, h2]
      · rw [if_neg c]; exact h3 y a b c
theorem lr_loop {r : Addr} {b₀ : Int} {t₀ u₀ v₀ : Tok} {n : Nat} {m₀ : Str → Option Value} {news : List (Addr × Obj)} {l₀ : Addr} {cap₀ : Nat} {tk₀ tkb : Tok} {t : Nat} {x₀ : Int} (hx : x = Str.ofString "k")
    (hh : A.handled = none) (hr : IsRange s.heap r 0 b₀ 1 t₀ u₀ v₀) (hsmall : Builtin.Range.small 0 b₀ 1 = true) (hn : Builtin.Range.rangeSize 0 b₀ 1 = (n : Int)) (F : Fr h₀ env.locals s.heap m₀) (N : News h₀ env.locals s.heap ((l₀, listOf #[] cap₀) :: news))
    (hlt : ∀ p ∈ news, p.1 < l₀) (hrow : m₀ (Str.ofString "row") = some (.ref l₀)) (hnum : m₀ (Str.ofString "number") = some (.int x₀ tk₀)) (hbits : m₀ (Str.ofString "bits") = some (.int (t : Nat) tkb))
    (turn : ∀ i tki l vs cap tkn h tk own, i < n → (∀ p ∈ news, p.1 < l) → TbOff own ((l, listOf vs.toArray cap) :: news) → IntsAre vs (row t i x₀) → vs.length = i →
      Fr h₀ env.locals h (fun y => if y = Str.ofString "k" then some (.int (i : Nat) tki) else if y = Str.ofString "row" then some (.ref l) else if y = Str.ofString "number" then some (.int (x₀ / 2 ^ (t * i)) tkn) else m₀ y) →
      News h₀ env.locals h ((l, listOf vs.toArray cap) :: (news ++ own)) →
      wpAny (model prog w) A (execs body env) (TbPost h₀ env.locals (LrInv t x₀ news m₀ (i + 1)) own { s with heap := h, toks := tk } Q) E { s with heap := h, toks := tk })
    (done : ∀ l vs cap tkn h tk (u : Option Value), (∀ p ∈ news, p.1 < l) → IntsAre vs (row t n x₀) →
      Fr h₀ env.locals h (fun y => if y = Str.ofString "k" then u else if y = Str.ofString "row" then some (.ref l) else if y = Str.ofString "number" then some (.int (x₀ / 2 ^ (t * n)) tkn) else m₀ y) →
      News h₀ env.locals h ((l, listOf vs.toArray cap) :: news) → Q .next { s with heap := h, toks := tk }) :
    wpAny (model prog w) A (pyIter (.ref r)) (fun it s₂ => LoopAtV prog w A h₀ env x body Q E it s₂) E s := by
  subst hx
  refine lr_range (LrInv t x₀ news m₀) hh hr hsmall hn F N ⟨l₀, [], cap₀, tk₀, .nil, rfl, hlt, hrow, by rw [Nat.mul_zero]; simpa using hnum, fun _ _ _ _ => rfl⟩ ?_ ?_
  · rintro i tki m₁ nx h tk own hin hoff ⟨l, vs, cap, tkn, hi, rfl, hl, h1, h2, h3⟩ F₁ N₁
    rw [lr_map h1 h2 h3] at F₁
    exact turn i tki l vs cap tkn h tk own hin hl hoff hi (by rw [hi.length, row_length]) F₁ N₁
  · rintro m₁ nx h tk ⟨l, vs, cap, tkn, hi, rfl, hl, h1, h2, h3⟩ F₁ N₁
    refine done l vs cap tkn h tk (m₁ (Str.ofString "k")) hl hi ?_ N₁
    rw [← lr_map (u := m₁ (Str.ofString "k")) h1 h2 h3]
    have e : (fun y => if y = Str.ofString "k" then m₁ (Str.ofString "k") else m₁ y) = m₁ := by
      funext y
      by_cases a : y = Str.ofString "k"
      · rw [if_pos a, a]
      · rw [if_neg a]
    rw [e]; exact F₁
end
theorem lr_end {h₀ h1 : Heap} {L l : Addr} {t i : Nat} {x₀ y : Int} {m₀ m' : Str → Option Value} {news own : List (Addr × Obj)} {vs vs' : List Value} {cap cap' : Nat} {tkn : Tok} {s₁ : Shared} {h' : Heap} {tk : Nat} {q1 q2 : Addr × Obj}
    (F : Fr h₀ L h' m') (N : News h₀ L h' ((h1.objs.size, listOf vs'.toArray cap') :: q1 :: q2 :: (news ++ own))) (N0 : News h₀ L h1 (q1 :: q2 :: (news ++ own))) (hoff : TbOff own ((l, listOf vs.toArray cap) :: news))
    (hi : IntsAre vs' (row t (i + 1) x₀)) (h1 : m' (Str.ofString "row") = some (.ref h1.objs.size)) (h2 : m' (Str.ofString "number") = some (.int y tkn)) (hy : y = x₀ / 2 ^ (t * (i + 1)))
    (h3 : ∀ z, z ≠ Str.ofString "k" → z ≠ Str.ofString "row" → z ≠ Str.ofString "number" → m' z = m₀ z) : TbEnd h₀ L (LrInv t x₀ news m₀ (i + 1)) own s₁ { s₁ with heap := h', toks := tk } := by
  subst hy
  have hlt : ∀ p ∈ news ++ own, p.1 < _ := fun p hp => Heap.lt_size (N0 p (.tail _ (.tail _ hp))).1
  have hsub : ∀ p ∈ news ++ own, p ∈ q1 :: q2 :: (news ++ own) := fun p hp => .tail _ (.tail _ hp)
  refine ⟨h', tk, m', _, (_, listOf vs'.toArray cap') :: news, rfl, F, N, ?_, fun p hp => .tail _ (hsub p (List.mem_append_right _ hp)), ?_, _, vs', cap', tkn, hi, rfl, fun p hp => hlt p (List.mem_append_left _ hp), h1, h2, h3⟩
  · intro p hp
    rcases List.mem_cons.mp hp with rfl | hp
    · exact .head _
    · exact .tail _ (hsub p (List.mem_append_left _ hp))
  · intro p hp q hq
    rcases List.mem_cons.mp hq with rfl | hq
    · exact Nat.ne_of_lt (hlt p (List.mem_append_right _ hp))
    · exact hoff p hp q (.tail _ hq)
theorem row_cons (t i : Nat) (x : Int) : row t (i + 1) x = x / 2 ^ (t * i) % 2 ^ t :: row t i x := by
  rw [Nat.add_comm, row_split t 1 i]; rfl
theorem lr_ints {t i : Nat} {x : Int} {vs : List Value} {tk : Tok} (h : IntsAre vs (row t i x)) : IntsAre ([.int ((x / 2 ^ (t * i)).fmod (2 ^ (t : Int).toNat)) tk] ++ vs) (row t (i + 1) x) := by
  rw [row_cons, Int.toNat_natCast, Int.fmod_eq_emod_of_nonneg _ (Int.le_of_lt (p2 t))]
  exact .cons _ _ h
theorem lr_div {t i : Nat} {x : Int} : (x / 2 ^ (t * i)).fdiv (2 ^ (t : Int).toNat) = x / 2 ^ (t * (i + 1)) := by
  rw [Int.toNat_natCast, fdiv_p, divdiv, Nat.mul_add, Nat.mul_one]
theorem lr_cnt {t c : Nat} {x : Int} {vs : List Value} (h : IntsAre vs (row t ((c : Int) - 0).toNat x)) : IntsAre vs (row t c x) := by
  have e : ((c : Int) - 0).toNat = c := by omega
  rwa [e] at h

/-- what a call of _law_row hands back, whoever calls -/
def LrTells (prog : Program) (w : World) (K : Frag) (p : Program) (loose : List Str) (mean : ExcName → Option Value) (mg mb : Str → Option Value) (f : Addr) : Prop :=
  ∀ (dp un : Nat) (gd : Option (List Code)) (cn : Str) (cs : Scope) (a : Addr) (ccd : Value) (cl : List (Str × Addr)) (outer : List Env) (A₀ : Around) (base h₀ : Heap) (L : Addr) (m : Str → Option Value) (news : List (Addr × Obj)) (s : Shared)
    (x : Int) (tb c : Nat) (t1 t2 t3 : Tok)
    (Q E : Value → Shared → Prop),
    Below A₀ base outer h₀ → Fr h₀ L s.heap m → K.In h₀ → News h₀ L s.heap news → Top p loose mean mg mb h₀ → cs.kind = .function →
    tb ≤ 40 → c ≤ 1000 → dp + 1 < recursionLimit → un + 8 < cLine →
    (∀ l' vs' cap' h' tk', IntsAre vs' (row tb c x) → (∀ p ∈ news, p.1 < l') → Fr h₀ L h' m → News h₀ L h' ((l', listOf vs'.toArray cap') :: news) → Q (.ref l') { s with heap := h', toks := tk' }) →
    wpAny (model prog w) (ktrTop dp un gd cn cs L a ccd cl outer) (call (.ref f) [.int x t1, .int tb t2, .int c t3]) Q E s
def lawBody : List Stmt := match PySem.Challenge.pw_jy0011_01.main.body with
  | _ :: _ :: _ :: _ :: _ :: .FunctionDef _ _ b _ _ _ _ _ _ _ :: _ => b
  | _ => []
def lawScope : Scope := match PySem.Challenge.pw_jy0011_01.main.body with
  | _ :: _ :: _ :: _ :: _ :: .FunctionDef _ _ _ _ _ _ sc _ _ _ :: _ => sc
  | _ => { kind := .function, names := [], isGenerator := false, isCoroutine := false, more := [] }

section
variable {prog : Program} {w : World} {K : Frag} {p : Program} {loose : List Str} {mean : ExcName → Option Value} {mg mb : Str → Option Value} {f : Addr} {dp un : Nat} {gd : Option (List Code)} {cn : Str} {cs : Scope} {a : Addr} {ccd : Value} {cl : List (Str × Addr)} {outer : List Env} {A₀ : Around} {base h₀ : Heap} {L : Addr} {m : Str → Option Value} {news : List (Addr × Obj)} {s : Shared}
  {l : Addr} {vs : List Value} {ns : List Int} {cap fb tb c : Nat} {x : Int} {t1 t2 t3 : Tok} {pad : Bool} {Q E : Value → Shared → Prop}
theorem ln_use (B : Below A₀ base outer h₀) (F : Fr h₀ L s.heap m) (X : K.In h₀) (N : News h₀ L s.heap news) (T : Top p loose mean mg mb h₀) (hk : cs.kind = .function) (C : LnTells prog w K p loose mean mg mb f)
    (hl : (l, listOf vs.toArray cap) ∈ news) (hi : IntsAre vs ns) (hlen : ns.length ≤ 1000) (hd : Dig fb ns) (hf : fb ≤ 40) (hdp : dp + 1 < recursionLimit) (hu : un + 8 < cLine)
    (ret : ∀ t h' tk', Fr h₀ L h' m → News h₀ L h' news → Q (.int (num fb ns) t) { s with heap := h', toks := tk' }) :
    wpAny (model prog w) (ktrTop dp un gd cn cs L a ccd cl outer) (call (.ref f) [.ref l, .int fb t1]) Q E s :=
  C _ _ _ _ _ _ _ _ _ _ _ _ _ _ _ _ _ _ _ _ _ _ _ _ B F X N T hk hl hi hlen hd hf hdp hu ret
theorem lr_use (B : Below A₀ base outer h₀) (F : Fr h₀ L s.heap m) (X : K.In h₀) (N : News h₀ L s.heap news) (T : Top p loose mean mg mb h₀) (hk : cs.kind = .function) (C : LrTells prog w K p loose mean mg mb f)
    (ht : tb ≤ 40) (hc : c ≤ 1000) (hdp : dp + 1 < recursionLimit) (hu : un + 8 < cLine)
    (ret : ∀ l' vs' cap' h' tk', IntsAre vs' (row tb c x) → (∀ p ∈ news, p.1 < l') → Fr h₀ L h' m → News h₀ L h' ((l', listOf vs'.toArray cap') :: news) → Q (.ref l') { s with heap := h', toks := tk' }) :
    wpAny (model prog w) (ktrTop dp un gd cn cs L a ccd cl outer) (call (.ref f) [.int x t1, .int tb t2, .int c t3]) Q E s :=
  C _ _ _ _ _ _ _ _ _ _ _ _ _ _ _ _ _ _ _ _ _ _ _ _ B F X N T hk ht hc hdp hu ret
theorem cb_some {r : List Int} {args : List Value} (B : Below A₀ base outer h₀) (F : Fr h₀ L s.heap m) (X : K.In h₀) (N : News h₀ L s.heap news) (T : Top p loose mean mg mb h₀) (hk : cs.kind = .function) (C : CbTells prog w K p loose mean mg mb f)
    (hargs : args = [.ref l, .int fb t1, .int tb t2, .bool pad] ∨ (args = [.ref l, .int fb t1, .int tb t2] ∧ pad = true))
    (hl : (l, listOf vs.toArray cap) ∈ news) (hi : IntsAre vs ns) (hr : conv fb tb pad ns = some r) (hlen : ns.length ≤ 1000) (hf1 : 1 ≤ fb) (hf : fb ≤ 40) (ht1 : 1 ≤ tb) (ht : tb ≤ 40) (hdp : dp + 1 < recursionLimit) (hu : un + 8 < cLine)
    (ret : ∀ l' vs' cap' h' tk', IntsAre vs' r → (∀ p ∈ news, p.1 < l') → Fr h₀ L h' m → News h₀ L h' ((l', listOf vs'.toArray cap') :: news) → Q (.ref l') { s with heap := h', toks := tk' }) :
    wpAny (model prog w) (ktrTop dp un gd cn cs L a ccd cl outer) (call (.ref f) args) Q E s :=
  C _ _ _ _ _ _ _ _ _ _ _ _ _ _ _ _ _ _ _ _ _ _ _ _ _ _ _ _ B F X N T hk hl hi hlen hf1 hf ht1 ht hdp hu hargs (fun e => by rw [e] at hr; cases hr) (fun r' l' vs' cap' h' tk' e hi' hlt F' N' => by
    rw [e] at hr; cases hr; exact ret l' vs' cap' h' tk' hi' hlt F' N')
theorem cb_none {args : List Value} (B : Below A₀ base outer h₀) (F : Fr h₀ L s.heap m) (X : K.In h₀) (N : News h₀ L s.heap news) (T : Top p loose mean mg mb h₀) (hk : cs.kind = .function) (C : CbTells prog w K p loose mean mg mb f)
    (hargs : args = [.ref l, .int fb t1, .int tb t2, .bool pad] ∨ (args = [.ref l, .int fb t1, .int tb t2] ∧ pad = true))
    (hl : (l, listOf vs.toArray cap) ∈ news) (hi : IntsAre vs ns) (hr : conv fb tb pad ns = none) (hlen : ns.length ≤ 1000) (hf1 : 1 ≤ fb) (hf : fb ≤ 40) (ht1 : 1 ≤ tb) (ht : tb ≤ 40) (hdp : dp + 1 < recursionLimit) (hu : un + 8 < cLine)
    (ret : ∀ h' tk', Fr h₀ L h' m → News h₀ L h' news → Q .none { s with heap := h', toks := tk' }) :
    wpAny (model prog w) (ktrTop dp un gd cn cs L a ccd cl outer) (call (.ref f) args) Q E s :=
  C _ _ _ _ _ _ _ _ _ _ _ _ _ _ _ _ _ _ _ _ _ _ _ _ _ _ _ _ B F X N T hk hl hi hlen hf1 hf ht1 ht hdp hu hargs (fun _ h' tk' F' N' => ret h' tk' F' N') (fun r' l' vs' cap' h' tk' e _ _ _ _ => by rw [e] at hr; cases hr)
theorem ne_same {A : Around} {x y : Addr} {xs ys : List Value} {ns ms : List Int} {c1 c2 : Nat} (N : News h₀ L s.heap news) (h1 : (x, listOf xs.toArray c1) ∈ news) (h2 : (y, listOf ys.toArray c2) ∈ news) (hi : IntsAre xs ns) (hj : IntsAre ys ms) (e : ns = ms) (hu : A.units + 64 < cLine)
    (h : Q (.bool false) s) : wpAny (model prog w) A (compareOp .NotEq (.ref x) (.ref y)) Q E s := by
  subst e
  exact ke_ne_ints ⟨_, (N _ h1).1, rfl, _, rfl⟩ ⟨_, (N _ h2).1, rfl, _, rfl⟩ hi hj hu (by simpa using h)
theorem eq_same {A : Around} {x y : Addr} {xs ys : List Value} {ns ms : List Int} {c1 c2 : Nat} (N : News h₀ L s.heap news) (h1 : (x, listOf xs.toArray c1) ∈ news) (h2 : (y, listOf ys.toArray c2) ∈ news) (hi : IntsAre xs ns) (hj : IntsAre ys ms) (e : ns = ms) (hu : A.units + 64 < cLine)
    (h : Q (.bool true) s) : wpAny (model prog w) A (compareOp .Eq (.ref x) (.ref y)) Q E s := by
  subst e
  exact ke_eq_ints ⟨_, (N _ h1).1, rfl, _, rfl⟩ ⟨_, (N _ h2).1, rfl, _, rfl⟩ hi hj hu (by simpa using h)
end
section
variable {prog : Program} {w : World} {A : Around} {s : Shared} {Q E : Value → Shared → Prop} {a b c : Int} {t u : Tok}
theorem mul_to (e : a * b = c) (hm : IntMulOk a b) (h : Q (.int c s.toks) { s with toks := s.toks + 1 }) : wpAny (model prog w) A (binaryOp .Mult (.int a t) (.int b u)) Q E s := by
  subst e; exact mul_int h hm
theorem sub_to (e : a - b = c) (h : Q (.int c s.toks) { s with toks := s.toks + 1 }) : wpAny (model prog w) A (binaryOp .Sub (.int a t) (.int b u)) Q E s := by
  subst e; exact sub_int h
theorem mod_to (e : a.fmod b = c) (hb : b ≠ 0) (h : Q (.int c s.toks) { s with toks := s.toks + 1 }) : wpAny (model prog w) A (binaryOp .Mod (.int a t) (.int b u)) Q E s := by
  subst e; exact mod_int' hb h
theorem fdiv_to (e : a.fdiv b = c) (hb : b ≠ 0) (hp : Builtin.divisionGoesByPylong a b = false) (h : Q (.int c s.toks) { s with toks := s.toks + 1 }) : wpAny (model prog w) A (binaryOp .FloorDiv (.int a t) (.int b u)) Q E s := by
  subst e; exact floordiv_int hb h (Or.inl hp)
theorem neg_to (e : -a = c) (h : Q (.int c s.toks) { s with toks := s.toks + 1 }) : wpAny (model prog w) A (unaryOp .USub (.int a t)) Q E s := by
  subst e; exact PySem.P.neg_int h
end
def Trap (P : Prop) : Prop := P
theorem trap {P : Prop} (h : Trap P) : P := h
theorem fr_all {h₀ h : Heap} {L : Addr} {m : Str → Option Value} {ps : List (Str × Value)} (F : Fr h₀ L h m) (e : ∀ p ∈ ps, m p.1 = some p.2) : Fr h₀ L h (kstB m ps) := by
  have e' : kstB m ps = m := funext fun z => kstB_eq e fun _ => rfl
  rw [e']; exact F
theorem wr_len {rs : List Int} {pl k : Nat} {x : Int} (h : rs.length ≤ 16) : (rs.take pl ++ [x] ++ rs.drop k).length ≤ 1000 := by
  simp only [List.length_append, List.length_take, List.length_drop, List.length_cons, List.length_nil]; omega
theorem conv_nil {f t : Nat} {pad : Bool} (hf : 1 ≤ f) (ht : 1 ≤ t) : conv f t pad [] = some [] := by
  have h1 : ¬ f ≤ 0 := by omega
  unfold conv
  rw [if_pos (fun _ h => nomatch h)]
  simp [row, num_nil, h1]
theorem rep_eq {rs : List Int} {z : Nat} : rs ++ List.replicate z 0 = rs ++ (List.replicate (z : Int).toNat [0]).flatten := by
  rw [Int.toNat_natCast]
  congr 1
  induction z with
  | zero => rfl
  | succ k ih => rw [List.replicate_succ, List.replicate_succ, List.flatten_cons, ← ih]; rfl

/-- what the walk of the law's last quarter asks of its numbers -/
structure F4 (o n cnt : Nat) (rs fl : List Int) (sz g gn pd z : Nat) (a0 a1 a2 a3 : Int) (A pl Aq : Nat) (M : Int) : Prop where
  ho1 : 1 ≤ o
  ho2 : o ≤ 40
  hn1 : 1 ≤ n
  hn2 : n ≤ 40
  hrl : rs.length = cnt
  hcnt1 : 1 ≤ cnt
  hcnt2 : cnt ≤ 16
  hfl : fl.length ≤ 1000
  hgn : (g : Int) * n = gn
  hgnm : IntMulOk g n
  hpd : (gn : Int) - sz = pd
  hz : (pd : Int).fdiv o = z
  hz2 : z ≤ 40
  hc3 : conv n o false fl = some (rs ++ List.replicate z 0)
  hA : (if [a0, a1, a2, a3].getD (Int.toNat 3) 0 < 0 then -[a0, a1, a2, a3].getD (Int.toNat 3) 0 else [a0, a1, a2, a3].getD (Int.toNat 3) 0) = (A : Int)
  hpl : (A : Int).fmod cnt = pl
  hpl2 : pl < cnt
  hAq : (A : Int).fdiv cnt = Aq
  hM : (2 : Int) ^ (o : Int).toNat * (1 + (Aq : Int)) = M
  hw1 : ∀ pad, conv o n pad (rs.take pl ++ [M + rs.getD (pl : Int).toNat 0] ++ rs.drop ((pl : Int) + 1).toNat) = none
  hw2 : ∀ pad, conv o n pad (rs.take pl ++ [rs.getD (pl : Int).toNat 0 - M] ++ rs.drop ((pl : Int) + 1).toNat) = none
  hMm : IntMulOk ((2 : Int) ^ (o : Int).toNat) (1 + (Aq : Int))
theorem nz {n : Nat} (h : 1 ≤ n) : (n : Int) ≠ 0 := by omega
theorem small_py {a b : Nat} (hb : b ≤ 40) : Builtin.divisionGoesByPylong (a : Int) (b : Int) = false := by
  exact PyProof.noPylong_small (by omega)
theorem num_mulok {o cnt pd : Nat} {rs : List Int} (h : Dig o rs) (ho : o ≤ 40) (hl : rs.length = cnt) (hc : cnt ≤ 16) (hp : pd ≤ 40) : IntMulOk (num o rs) (2 ^ (pd : Int).toNat) :=
  IntMulOk.of_le (num_bits h ho (by omega)) (pow_bits hp) (by decide)



theorem abs_to {prog : Program} {w : World} {A : Around} {s : Shared} {Q E : Value → Shared → Prop} {a c : Int} {t : Tok} (e : (if a < 0 then -a else a) = c) (h : ∀ u tk, Q (.int c u) { s with toks := tk }) : wpAny (model prog w) A (call (.builtin "abs") [.int a t]) Q E s := by
  subst e; exact call_abs_int h


section
variable {prog : Program} {w : World} {A : Around} {E : Value → Shared → Prop} {s : Shared} {h₀ : Heap} {L l : Addr} {m : Str → Option Value} {news : List (Addr × Obj)} {value slice : PySem.Expr} {vs : List Value} {ns : List Int} {cap pl : Nat} {x : Int} {t : Tok} {Q : Value → Shared → Prop}
theorem sl_upto (F : Fr h₀ L s.heap m) (N : News h₀ L s.heap news) (hm : (l, listOf vs.toArray cap) ∈ news) (hi : IntsAre vs ns) (hlen : ns.length ≤ 1000)
    (h : ∀ D ws h', Fr h₀ L h' m → News h₀ L h' ((D, listOf (List.toArray ws) 0) :: news) → (∀ p ∈ news, p.1 < D) → IntsAre ws (ns.take pl) → Q (.ref D) { s with heap := h' })
    (hs : subscripted slice false (.ref l) (.ref s.heap.objs.size) = operate [.ref s.heap.objs.size, .ref l] (getItem (.ref l) (.ref s.heap.objs.size))) (ht : ∀ r, letTemporaryGo value (.ref l) r = pure ()) :
    wpAny (model prog w) A (subscriptTail value slice (.ref l) (.ref s.heap.objs.size)) Q E { s with heap := s.heap.push { cls := .type "slice", data := .fields #[.none, .int (pl : Nat) t, .none] } } :=
  kmk_slice_ints (lo := none) (hi := some (pl : Int)) F N ⟨_, (N _ hm).1, rfl, _, rfl⟩ .none (.int _ _) hi (kmk_upto hi (Int.natCast_nonneg pl)) rfl
    (fun D ws h' F' N' l1 hI _ _ => h D ws h' F' N' l1 (by rwa [Int.toNat_natCast] at hI)) hs ht (by rw [sizeLine_eq, List.size_toArray, hi.length]; omega)
theorem sl_from (F : Fr h₀ L s.heap m) (N : News h₀ L s.heap news) (hm : (l, listOf vs.toArray cap) ∈ news) (hi : IntsAre vs ns) (hlen : ns.length ≤ 1000) (h0 : 0 ≤ x)
    (h : ∀ D ws h', Fr h₀ L h' m → News h₀ L h' ((D, listOf (List.toArray ws) 0) :: news) → (∀ p ∈ news, p.1 < D) → IntsAre ws (ns.drop x.toNat) → Q (.ref D) { s with heap := h' })
    (hs : subscripted slice false (.ref l) (.ref s.heap.objs.size) = operate [.ref s.heap.objs.size, .ref l] (getItem (.ref l) (.ref s.heap.objs.size))) (ht : ∀ r, letTemporaryGo value (.ref l) r = pure ()) :
    wpAny (model prog w) A (subscriptTail value slice (.ref l) (.ref s.heap.objs.size)) Q E { s with heap := s.heap.push { cls := .type "slice", data := .fields #[.int x t, .none, .none] } } :=
  kmk_slice_ints (lo := some x) (hi := none) F N ⟨_, (N _ hm).1, rfl, _, rfl⟩ (.int _ _) .none hi (kmk_from hi h0) rfl
    (fun D ws h' F' N' l1 hI _ _ => h D ws h' F' N' l1 hI) hs ht (by rw [sizeLine_eq, List.size_toArray, hi.length]; omega)
end
theorem news5 {h₀ h : Heap} {L : Addr} {news : List (Addr × Obj)} {q1 q2 q3 q4 q5 : Addr × Obj} (N : News h₀ L h news) (h1 : q1 ∈ news) (h2 : q2 ∈ news) (h3 : q3 ∈ news) (h4 : q4 ∈ news) (h5 : q5 ∈ news) : News h₀ L h [q1, q2, q3, q4, q5] := by
  intro p hp
  simp only [List.mem_cons, List.not_mem_nil, or_false] at hp
  rcases hp with rfl | rfl | rfl | rfl | rfl <;> exact N _ (by assumption)
/-- what the walk of the law's second half asks of its numbers -/
structure F3 (o n cnt : Nat) (rs : List Int) (sz g gn pd lf q z : Nat) : Prop where
  ho1 : 1 ≤ o
  ho2 : o ≤ 40
  hn1 : 1 ≤ n
  hn2 : n ≤ 40
  hrd : Dig o rs
  hrl : rs.length = cnt
  hcnt1 : 1 ≤ cnt
  hcnt2 : cnt ≤ 16
  hsz : (o : Int) * cnt = sz
  hszm : IntMulOk o cnt
  hg : -((-(sz : Int)).fdiv n) = g
  hg2 : g ≤ 1000
  hgn : (g : Int) * n = gn
  hgnm : IntMulOk g n
  hpd : (gn : Int) - sz = pd
  hpd2 : pd ≤ 40
  hlf : (sz : Int).fmod n = lf
  hlf2 : lf ≤ 40
  hq : (sz : Int).fdiv n = q
  hq2 : q ≤ 1000
  hz : (pd : Int).fdiv o = z
  hz2 : z ≤ 40
  hc1 : conv o n true rs = some (row n g (num o rs * 2 ^ (pd : Int).toNat))
  hc2a : (o : Int) ≤ lf → conv o n false rs = none
  hc2b : (num o rs).fmod (2 ^ (lf : Int).toNat) ≠ 0 → conv o n false rs = none
  hc2c : ¬ (o : Int) ≤ lf → (num o rs).fmod (2 ^ (lf : Int).toNat) = 0 → conv o n false rs = some (row n q ((num o rs).fdiv (2 ^ (lf : Int).toNat)))
  hc3 : conv n o false (row n g (num o rs * 2 ^ (pd : Int).toNat)) = some (rs ++ List.replicate z 0)
theorem fmod_n (a b : Nat) : (a : Int).fmod b = ((a % b : Nat) : Int) := by
  rw [Int.fmod_eq_emod_of_nonneg _ (Int.natCast_nonneg b), Int.natCast_emod]
theorem fdiv_n (a b : Nat) : (a : Int).fdiv b = ((a / b : Nat) : Int) := by
  rw [Int.fdiv_eq_ediv_of_nonneg _ (Int.natCast_nonneg b), Int.natCast_ediv]
theorem fmod_p (x : Int) (k : Nat) : x.fmod (2 ^ (k : Int).toNat) = x % 2 ^ k := by
  rw [Int.toNat_natCast, Int.fmod_eq_emod_of_nonneg _ (Int.le_of_lt (p2 k))]
theorem fdiv_p' (x : Int) (k : Nat) : x.fdiv (2 ^ (k : Int).toNat) = x / 2 ^ k := by
  rw [Int.toNat_natCast, fdiv_p]
theorem nat_bits {a : Nat} (h : a ≤ 1000000) : Builtin.Int.intBits (a : Int) ≤ 20 := by
  rw [intBits_le_iff, Int.natAbs_natCast]
  exact Nat.lt_of_le_of_lt h (by decide)
theorem nat_mulok {a b : Nat} (ha : a ≤ 1000000) (hb : b ≤ 1000000) : IntMulOk a b := IntMulOk.of_le (nat_bits ha) (nat_bits hb) (by decide)
theorem row_zero (o : Nat) (N : Int) : ∀ z : Nat, row o z (N * 2 ^ (o * z)) = List.replicate z 0
  | 0 => rfl
  | z + 1 => by
    have e : N * 2 ^ (o * (z + 1)) = N * 2 ^ (o * z) * 2 ^ o := by rw [Nat.mul_add, Nat.mul_one, padd, Int.mul_assoc]
    rw [row, e, Int.mul_ediv_cancel _ (Int.ne_of_gt (p2 o)), Int.mul_emod_left, row_zero o N z, List.replicate_succ']
/-- the least number of groups of n bits that hold sz bits -/
theorem ceil_of (sz n : Nat) (hn : 1 ≤ n) : ∃ g : Nat, -((-(sz : Int)).fdiv n) = (g : Int) ∧ sz ≤ g * n ∧ g * n < sz + n := by
  have hn' : (0 : Int) < n := by omega
  have h1 := Int.emod_add_mul_ediv (-(sz : Int)) n
  have h2 := Int.emod_nonneg (-(sz : Int)) (Int.ne_of_gt hn')
  have h3 := Int.emod_lt_of_pos (-(sz : Int)) hn'
  rw [Int.fdiv_eq_ediv_of_nonneg _ (Int.le_of_lt hn')]
  generalize (-(sz : Int)) / n = d at *
  generalize (-(sz : Int)) % n = r at *
  have hd : d ≤ 0 := by
    rcases Int.lt_or_le 0 d with h | h
    · have := Int.mul_le_mul_of_nonneg_left (show (1 : Int) ≤ d from h) (Int.le_of_lt hn')
      omega
    · exact h
  refine ⟨(-d).toNat, by omega, ?_, ?_⟩
  · have e : (((-d).toNat * n : Nat) : Int) = -(n * d) := by
      rw [Int.natCast_mul, Int.toNat_of_nonneg (by omega), Int.neg_mul, Int.mul_comm]
    omega
  · have e : (((-d).toNat * n : Nat) : Int) = -(n * d) := by
      rw [Int.natCast_mul, Int.toNat_of_nonneg (by omega), Int.neg_mul, Int.mul_comm]
    omega
theorem conv_full {o n g : Nat} {rs : List Int} (hn : 1 ≤ n) (hd : Dig o rs) (h1 : o * rs.length ≤ g * n) (h2 : g * n < o * rs.length + n) : conv o n true rs = some (row n g (num o rs * 2 ^ (g * n - o * rs.length))) := by
  unfold conv
  rw [if_pos (show ∀ d ∈ rs, 0 ≤ d ∧ d < 2 ^ o from hd)]
  generalize o * rs.length = sz at *
  have e := Nat.mod_add_div sz n
  have hb : sz % n < n := Nat.mod_lt _ hn
  generalize sz / n = q at *
  generalize sz % n = b at *
  rw [if_pos rfl]
  have hc := Nat.mul_comm g n
  by_cases hb0 : b = 0
  · have hg : g = q := by
      rcases Nat.lt_trichotomy g q with h | h | h
      · have := Nat.mul_le_mul_left n (show g + 1 ≤ q from h)
        rw [Nat.mul_add] at this
        omega
      · exact h
      · have := Nat.mul_le_mul_left n (show q + 1 ≤ g from h)
        rw [Nat.mul_add] at this
        omega
    subst hg
    have e2 : g * n - sz = 0 := by omega
    rw [hb0, if_pos rfl, e2]
    simp
  · have hg : g = q + 1 := by
      rcases Nat.lt_trichotomy g (q + 1) with h | h | h
      · have := Nat.mul_le_mul_left n (show g ≤ q by omega)
        omega
      · exact h
      · have := Nat.mul_le_mul_left n (show q + 1 + 1 ≤ g from h)
        rw [Nat.mul_add, Nat.mul_add] at this
        omega
    subst hg
    rw [Nat.mul_add] at hc
    have e2 : (q + 1) * n - sz = n - b := by omega
    have e3 : (2 : Int) ^ n = 2 ^ b * 2 ^ (n - b) := by rw [← padd]; congr 1; omega
    rw [if_neg hb0, e2, row, e3, Int.mul_ediv_mul_of_pos_left _ _ (p2 (n - b)), Int.mul_comm (num o rs), Int.mul_comm (2 ^ b), Int.mul_emod_mul_of_pos _ _ (p2 (n - b)), Int.mul_comm (2 ^ (n - b))]
theorem conv_back {o n g : Nat} {rs : List Int} (ho : 1 ≤ o) (hn : 1 ≤ n) (hd : Dig o rs) (h1 : o * rs.length ≤ g * n) (h2 : g * n < o * rs.length + n) :
    conv n o false (row n g (num o rs * 2 ^ (g * n - o * rs.length))) = some (rs ++ List.replicate ((g * n - o * rs.length) / o) 0) := by
  have hr := num_range o rs hd
  have hdig := row_dig n g (num o rs * 2 ^ (g * n - o * rs.length))
  have hx : num n (row n g (num o rs * 2 ^ (g * n - o * rs.length))) = num o rs * 2 ^ (g * n - o * rs.length) := by
    rw [num_row]
    refine Int.emod_eq_of_lt (Int.mul_nonneg hr.1 (Int.le_of_lt (p2 _))) ?_
    have e : n * g = o * rs.length + (g * n - o * rs.length) := by rw [Nat.mul_comm n g]; omega
    rw [e, padd]
    exact Int.mul_lt_mul_of_pos_right hr.2 (p2 _)
  unfold conv
  rw [if_pos (show ∀ d ∈ row n g (num o rs * 2 ^ (g * n - o * rs.length)), 0 ≤ d ∧ d < 2 ^ n from hdig), hx, row_length, if_neg (by decide)]
  generalize hN : num o rs = N at *
  generalize hs : o * rs.length = sz at *
  have hp : n * g = sz + (g * n - sz) := by rw [Nat.mul_comm n g]; omega
  rw [hp]
  generalize hpd : g * n - sz = pd at *
  have hpn : pd < n := by omega
  have e := Nat.mod_add_div pd o
  have hb : pd % o < o := Nat.mod_lt _ ho
  have e1 : (sz + pd) % o = pd % o := by rw [← hs, Nat.mul_add_mod]
  have e2 : (sz + pd) / o = rs.length + pd / o := by rw [← hs, Nat.mul_add_div ho]
  rw [e1, e2]
  generalize pd / o = z at *
  generalize pd % o = b at *
  have e3 : N * 2 ^ pd = N * 2 ^ (o * z) * 2 ^ b := by rw [Int.mul_assoc, ← padd]; congr 2; omega
  rw [e3, Int.mul_emod_left, Int.mul_ediv_cancel _ (Int.ne_of_gt (p2 b)), row_split, Int.mul_ediv_cancel _ (Int.ne_of_gt (p2 _)), row_zero, ← hN, row_num o rs hd, if_neg]
  rintro (h | h)
  · omega
  · exact h rfl
theorem conv_f1 {o n : Nat} {rs : List Int} (h : o ≤ o * rs.length % n) : conv o n false rs = none := by
  unfold conv
  split
  · rw [if_neg (by decide), if_pos (Or.inl h)]
  · rfl
theorem conv_f2 {o n : Nat} {rs : List Int} (h : num o rs % 2 ^ (o * rs.length % n) ≠ 0) : conv o n false rs = none := by
  unfold conv
  split
  · rw [if_neg (by decide), if_pos (Or.inr h)]
  · rfl
theorem conv_f3 {o n : Nat} {rs : List Int} (hd : Dig o rs) (h1 : ¬ o ≤ o * rs.length % n) (h2 : num o rs % 2 ^ (o * rs.length % n) = 0) : conv o n false rs = some (row n (o * rs.length / n) (num o rs / 2 ^ (o * rs.length % n))) := by
  unfold conv
  rw [if_pos (show ∀ d ∈ rs, 0 ≤ d ∧ d < 2 ^ o from hd), if_neg (by decide), if_neg]
  rintro (h | h)
  · exact h1 h
  · exact h h2
theorem getD_dig {o : Nat} {rs : List Int} (h : Dig o rs) (i : Nat) : 0 ≤ rs.getD i 0 ∧ rs.getD i 0 < 2 ^ o := by
  by_cases hi : i < rs.length
  · have e : rs.getD i 0 = rs[i] := by simp [List.getD, hi]
    rw [e]; exact h _ (List.getElem_mem hi)
  · have e : rs.getD i 0 = 0 := by simp [List.getD, Nat.not_lt.mp hi]
    rw [e]; exact ⟨Int.le_refl _, p2 o⟩
theorem conv_wrong {f t : Nat} {pad : Bool} {xs ys : List Int} {x : Int} (h : x < 0 ∨ 2 ^ f ≤ x) : conv f t pad (xs ++ [x] ++ ys) = none := by
  refine conv_bad (pre := xs) (post := ys) (n := x) (by simp) ?_
  rcases h with h | h
  · exact Or.inl h
  · refine Or.inr fun e => ?_
    rw [Int.toNat_natCast, fdiv_p] at e
    have := Int.emod_add_mul_ediv x (2 ^ f)
    rw [e, Int.mul_zero, Int.add_zero] at this
    have := Int.emod_lt_of_pos x (p2 f)
    omega
theorem facts {o n cnt : Nat} {rs : List Int} (a0 a1 a2 a3 : Int) (ho1 : 1 ≤ o) (ho2 : o ≤ 40) (hn1 : 1 ≤ n) (hn2 : n ≤ 40) (hrd : Dig o rs) (hrl : rs.length = cnt) (hc1 : 1 ≤ cnt) (hc2 : cnt ≤ 16) (ha3 : Builtin.Int.intBits a3 ≤ 1048576) :
    ∃ sz g gn pd lf q z A pl Aq M, F3 o n cnt rs sz g gn pd lf q z ∧ F4 o n cnt rs (row n g (num o rs * 2 ^ (pd : Int).toNat)) sz g gn pd z a0 a1 a2 a3 A pl Aq M := by
  have hsz : o * cnt ≤ 640 := Nat.mul_le_mul ho2 hc2
  obtain ⟨g, hg, g1, g2⟩ := ceil_of (o * cnt) n hn1
  have hg0 : g ≤ g * n := Nat.le_mul_of_pos_right g hn1
  have hgn : ((g * n : Nat) : Int) = (g : Int) * n := Int.natCast_mul g n
  have hfull := conv_full hn1 hrd (by rw [hrl]; exact g1) (by rw [hrl]; exact g2)
  have hback := conv_back ho1 hn1 hrd (by rw [hrl]; exact g1) (by rw [hrl]; exact g2)
  rw [hrl] at hfull hback
  have hmod : o * cnt % n < n := Nat.mod_lt _ hn1
  have hdiv : o * cnt / n ≤ o * cnt := Nat.div_le_self _ _
  have hz : (g * n - o * cnt) / o ≤ g * n - o * cnt := Nat.div_le_self _ _
  have hc3 : conv n o false (row n g (num o rs * 2 ^ ((g * n - o * cnt : Nat) : Int).toNat)) = some (rs ++ List.replicate ((g * n - o * cnt) / o) 0) := by rw [Int.toNat_natCast]; exact hback
  have hM : (2 : Int) ^ o ≤ 2 ^ o * (1 + ((a3.natAbs / cnt : Nat) : Int)) := by
    have := Int.mul_le_mul_of_nonneg_left (show (1 : Int) ≤ 1 + ((a3.natAbs / cnt : Nat) : Int) from Int.le_add_of_nonneg_right (Int.natCast_nonneg _)) (Int.le_of_lt (p2 o))
    rwa [Int.mul_one] at this
  refine ⟨o * cnt, g, g * n, g * n - o * cnt, o * cnt % n, o * cnt / n, (g * n - o * cnt) / o, a3.natAbs, a3.natAbs % cnt, a3.natAbs / cnt, 2 ^ o * (1 + ((a3.natAbs / cnt : Nat) : Int)), ?_, ?_⟩
  · exact {
      ho1 := ho1, ho2 := ho2, hn1 := hn1, hn2 := hn2, hrd := hrd, hrl := hrl, hcnt1 := hc1, hcnt2 := hc2
      hsz := (Int.natCast_mul o cnt).symm
      hszm := nat_mulok (by omega) (by omega)
      hg := hg
      hg2 := by omega
      hgn := hgn.symm
      hgnm := nat_mulok (by omega) (by omega)
      hpd := by omega
      hpd2 := by omega
      hlf := fmod_n _ _
      hlf2 := by omega
      hq := fdiv_n _ _
      hq2 := by omega
      hz := fdiv_n _ _
      hz2 := by omega
      hc1 := by rw [Int.toNat_natCast]; exact hfull
      hc2a := fun h => conv_f1 (by rw [hrl]; omega)
      hc2b := fun h => conv_f2 (by rw [hrl]; rwa [fmod_p] at h)
      hc2c := fun h h' => by
        rw [fmod_p] at h'
        rw [fdiv_p']
        have := conv_f3 (n := n) hrd (by rw [hrl]; omega) (by rw [hrl]; exact h')
        rwa [hrl] at this
      hc3 := hc3 }
  · exact {
      ho1 := ho1, ho2 := ho2, hn1 := hn1, hn2 := hn2, hrl := hrl, hcnt1 := hc1, hcnt2 := hc2
      hfl := by rw [row_length]; omega
      hgn := hgn.symm
      hgnm := nat_mulok (by omega) (by omega)
      hpd := by omega
      hz := fdiv_n _ _
      hz2 := by omega
      hc3 := hc3
      hA := by
        show (if a3 < 0 then -a3 else a3) = _
        split <;> omega
      hpl := fmod_n _ _
      hpl2 := Nat.mod_lt _ hc1
      hAq := fdiv_n _ _
      hM := by rw [Int.toNat_natCast]
      hw1 := fun pad => by
        have hd := getD_dig hrd (((a3.natAbs % cnt : Nat) : Int).toNat)
        exact conv_wrong (Or.inr (by omega))
      hw2 := fun pad => by
        have hd := getD_dig hrd (((a3.natAbs % cnt : Nat) : Int).toNat)
        exact conv_wrong (Or.inl (by omega))
      hMm := by
        refine IntMulOk.of_le (pow_bits ho2) (intBits_add_le ((intBits_le_iff (m := 1)).mpr (by decide)) (n := 1048576) ?_) (by decide)
        rw [← fdiv_n]
        exact intBits_fdiv_le (intBits_natAbs_le ha3) }
theorem dig_map {o : Nat} {f : Int → Int} {ks : List Int} : Dig o (List.map (fun k => (f k).fmod (2 ^ (o : Int).toNat)) ks) := by
  intro d hd
  obtain ⟨k, _, rfl⟩ := List.mem_map.mp hd
  rw [fmod_p]
  exact ⟨Int.emod_nonneg _ (Int.ne_of_gt (p2 o)), Int.emod_lt_of_pos _ (p2 o)⟩
theorem facts' {o n c : Nat} {f : Int → Int} {ys : List Value} (a0 a1 a2 a3 : Int) (ho1 : 1 ≤ o) (ho2 : o ≤ 40) (hn1 : 1 ≤ n) (hn2 : n ≤ 40) (hI : IntsAre ys (List.map (fun k => (f k).fmod (2 ^ (o : Int).toNat)) (rangeKs 0 c))) (h1 : 1 ≤ c) (h2 : c ≤ 16) (ha3 : Builtin.Int.intBits a3 ≤ 1048576) :
    ∃ sz g gn pd lf q z A pl Aq M, F3 o n c (List.map (fun k => (f k).fmod (2 ^ (o : Int).toNat)) (rangeKs 0 c)) sz g gn pd lf q z ∧ F4 o n c (List.map (fun k => (f k).fmod (2 ^ (o : Int).toNat)) (rangeKs 0 c)) (row n g (num o (List.map (fun k => (f k).fmod (2 ^ (o : Int).toNat)) (rangeKs 0 c)) * 2 ^ (pd : Int).toNat)) sz g gn pd z a0 a1 a2 a3 A pl Aq M :=
  facts a0 a1 a2 a3 ho1 ho2 hn1 hn2 dig_map (by rw [List.length_map, rangeKs_length]) h1 h2 ha3
theorem count_is {v : Option Value} {c : Int} {cnt : Nat} {t : Tok} (h : v = some (.int c t)) (e : c = (cnt : Int)) : v = some (.int (cnt : Int) t) := by
  rw [← e]; exact h
theorem ne_nil {l : List Int} (h : 0 < l.length) : l ≠ [] := fun e => by rw [e] at h; exact Nat.lt_irrefl _ h
theorem news4 {h₀ h : Heap} {L : Addr} {news : List (Addr × Obj)} {q1 q2 q3 q4 : Addr × Obj} (N : News h₀ L h news) (h1 : q1 ∈ news) (h2 : q2 ∈ news) (h3 : q3 ∈ news) (h4 : q4 ∈ news) : News h₀ L h [q1, q2, q3, q4] := by
  intro p hp
  simp only [List.mem_cons, List.not_mem_nil, or_false] at hp
  rcases hp with rfl | rfl | rfl | rfl <;> exact N _ (by assumption)
theorem cutQ {M : Model} {A : Around} {α : Type} {t : Sem α} {Q : α → Shared → Prop} {E : Value → Shared → Prop} {s : Shared} (P : α → Shared → Prop) (h : ∀ Q' : α → Shared → Prop, (∀ v s', P v s' → Q' v s') → wpAny M A t Q' E s) (h2 : ∀ v s', P v s' → Q v s') : wpAny M A t Q E s := h Q h2
structure TrapOff : Prop where
section
variable {prog : Program} {w : World} {A : Around} {s : Shared} {Q E : Value → Shared → Prop} {a k ln : Int} {t u : Tok} {o : Nat}
theorem quot_range (h0 : 0 ≤ k) (hk : k < 16) (hl : 0 < ln) : 0 ≤ k.fdiv ln ∧ k.fdiv ln < 16 := by
  rw [Int.fdiv_eq_ediv_of_nonneg _ (Int.le_of_lt hl)]
  exact ⟨Int.ediv_nonneg h0 (Int.le_of_lt hl), Int.lt_of_le_of_lt (Int.ediv_le_self _ h0) hk⟩
theorem pw_to (ho : o ≤ 40) (h0 : 0 ≤ k) (hk : k < 16) (hl : 0 < ln) (h : Q (.int (((2 : Int) ^ (o : Int).toNat) ^ (k.fdiv ln).toNat) s.toks) { s with toks := s.toks + 1 }) :
    wpAny (model prog w) A (binaryOp .Pow (.int ((2 : Int) ^ (o : Int).toNat) t) (.int (k.fdiv ln) u)) Q E s := by
  obtain ⟨h1, h2⟩ := quot_range h0 hk hl
  have h3 := pow_bits ho
  refine pow_int h1 ?_ h
  have e : (2 : Int) ^ 27 = 134217728 := by decide
  have h4 : ((Builtin.Int.intBits ((2 : Int) ^ (o : Int).toNat) : Nat) : Int) ≤ 41 := by omega
  have h5 := Int.mul_le_mul h4 (Int.le_of_lt h2) h1 (by decide)
  rw [e]
  exact Int.le_trans h5 (by decide)
theorem powpow (o e : Nat) : ((2 : Int) ^ o) ^ e = 2 ^ (o * e) := Int.pow_mul.symm
theorem fd_to (ho : o ≤ 40) (h0 : 0 ≤ k) (hk : k < 16) (hl : 0 < ln) (h : Q (.int (a.fdiv (((2 : Int) ^ (o : Int).toNat) ^ (k.fdiv ln).toNat)) s.toks) { s with toks := s.toks + 1 }) :
    wpAny (model prog w) A (binaryOp .FloorDiv (.int a t) (.int (((2 : Int) ^ (o : Int).toNat) ^ (k.fdiv ln).toNat) u)) Q E s := by
  obtain ⟨h1, h2⟩ := quot_range h0 hk hl
  refine floordiv_int ?_ h (Or.inl (PyProof.noPylong_of_log2 ?_))
  · rw [powpow]; exact Int.ne_of_gt (p2 _)
  · rw [powpow, Int.toNat_natCast, ← kbt_cast, Int.natAbs_natCast, Nat.log2_two_pow]
    have h6 : (k.fdiv ln).toNat ≤ 16 := by omega
    have := Nat.mul_le_mul ho h6
    omega
end
theorem told_of (sc : List Int) : ∃ a0 a1 a2 a3 : Int, List.take 4 (sc ++ [0, 0, 0, 0]) = [a0, a1, a2, a3] := by
  match sc with
  | [] => exact ⟨0, 0, 0, 0, rfl⟩
  | [a] => exact ⟨a, 0, 0, 0, rfl⟩
  | [a, b] => exact ⟨a, b, 0, 0, rfl⟩
  | [a, b, c] => exact ⟨a, b, c, 0, rfl⟩
  | a :: b :: c :: d :: _ => exact ⟨a, b, c, d, rfl⟩
theorem width_of (k : Int) : ∃ o : Nat, (if (k.fdiv 13).fmod 4 < 3 then 1 + k.fmod 13 else 14 + (k.fdiv 52).fmod 27) = (o : Int) ∧ 1 ≤ o ∧ o ≤ 40 := by
  have e1 : k.fmod 13 = k % 13 := Int.fmod_eq_emod_of_nonneg _ (by decide)
  have e2 : (k.fdiv 52).fmod 27 = k.fdiv 52 % 27 := Int.fmod_eq_emod_of_nonneg _ (by decide)
  rw [e1, e2]
  split
  · exact ⟨(1 + k % 13).toNat, by omega, by omega, by omega⟩
  · exact ⟨(14 + k.fdiv 52 % 27).toNat, by omega, by omega, by omega⟩
theorem told_make {f : Int → Int} (hf : ∀ k, ∃ o : Nat, f k = (o : Int) ∧ 1 ≤ o ∧ o ≤ 40) {sc : List Int} {ws1 ws2 ys : List Value} (h1 : IntsAre ws1 (List.take 4 (sc ++ [0, 0, 0, 0]))) (h2 : IntsAre ws2 (List.take 2 (List.take 4 (sc ++ [0, 0, 0, 0]))))
    (h3 : IntsAre ys (List.map f (List.take 2 (List.take 4 (sc ++ [0, 0, 0, 0]))))) :
    ∃ (a0 a1 a2 a3 : Int) (t0 t1 t2 t3 v0 v1 : Tok) (o n : Nat), ws1 = [.int a0 t0, .int a1 t1, .int a2 t2, .int a3 t3] ∧ ys = [.int o v0, .int n v1] ∧ 1 ≤ o ∧ o ≤ 40 ∧ 1 ≤ n ∧ n ≤ 40 ∧ List.take 4 (sc ++ [0, 0, 0, 0]) = [a0, a1, a2, a3] := by
  obtain ⟨a0, a1, a2, a3, e⟩ := told_of sc
  rw [e] at h1 h3
  obtain ⟨o, eo, o1, o2⟩ := hf a0
  obtain ⟨n, en, n1, n2⟩ := hf a1
  simp only [List.take_succ_cons, List.take_zero, List.map_cons, List.map_nil, eo, en] at h3
  cases h1 with
  | cons _ t0 h1 => cases h1 with
    | cons _ t1 h1 => cases h1 with
      | cons _ t2 h1 => cases h1 with
        | cons _ t3 h1 =>
          cases h1
          cases h3 with
          | cons _ v0 h3 => cases h3 with
            | cons _ v1 h3 =>
              cases h3
              exact ⟨a0, a1, a2, a3, t0, t1, t2, t3, v0, v1, o, n, rfl, rfl, o1, o2, n1, n2, e⟩
theorem bits_told {sc : List Int} {a0 a1 a2 a3 : Int} (e : List.take 4 (sc ++ [0, 0, 0, 0]) = [a0, a1, a2, a3]) (h : PyData.layable0 (.list (sc.map .int)) = true) : Builtin.Int.intBits a3 ≤ 1048576 := by
  have hm : a3 ∈ List.take 4 (sc ++ [0, 0, 0, 0]) := by rw [e]; simp
  rcases List.mem_append.mp (List.mem_of_mem_take hm) with h' | h'
  · exact intBits_le_of_item h' h
  · have : a3 = 0 := by simpa using h'
    rw [this]; exact Nat.zero_le _
theorem news3 {h₀ h : Heap} {L : Addr} {news : List (Addr × Obj)} {q1 q2 q3 : Addr × Obj} (N : News h₀ L h news) (h1 : q1 ∈ news) (h2 : q2 ∈ news) (h3 : q3 ∈ news) : News h₀ L h [q1, q2, q3] := by
  intro p hp
  simp only [List.mem_cons, List.not_mem_nil, or_false] at hp
  rcases hp with rfl | rfl | rfl <;> exact N _ (by assumption)

/-- a mark in the context: which walk this is -/
structure MarkC1 : Prop where
structure MarkC2 : Prop where
structure MarkC3 : Prop where
structure MarkS4 : Prop where
structure MarkS3 : Prop where
structure MarkS2 : Prop where
structure MarkL1 : Prop where
def PC1 (K : Params → Frag) : Prop := ∀ (w : World) (p : Program) (loose : List Str) (mean : ExcName → Option Value) (mg mb : Str → Option Value), CbTells PySem.Challenge.rw_jy0011_01.row.prog w (K w.params) p loose mean mg mb 22
def PC2 (K : Params → Frag) : Prop := ∀ (w : World) (p : Program) (loose : List Str) (mean : ExcName → Option Value) (mg mb : Str → Option Value), LnTells PySem.Challenge.rw_jy0011_01.row.prog w (K w.params) p loose mean mg mb 29
def PC3 (K : Params → Frag) : Prop := ∀ (w : World) (p : Program) (loose : List Str) (mean : ExcName → Option Value) (mg mb : Str → Option Value), LrTells PySem.Challenge.rw_jy0011_01.row.prog w (K w.params) p loose mean mg mb 36
def PS4 (K : Params → Frag) : Prop :=
  ∀ (w : World)
    (p : Program)
    (loose : List Str)
    (mean : ExcName → Option Value)
    (mg mb : Str → Option Value)
    {fa : Addr}
    {cd : Value}
    {base h₀ : Heap}
    {L Dr Dt Df : Addr}
    {m : Str → Option Value}
    {s : Shared}
    {oc1 oc2 : Obj}
    {rvs fvs : List Value}
    {capr capf : Nat}
    {t0 t1 t2 t3 tc tn v0 u1 u2 : Tok}
    {a0 a1 a2 a3 : Int}
    {X : Option Value}
    {o n cnt sz g gn pd z A pl Aq : Nat}
    {M : Int}
    {rs fl : List Int}
    {Q : Flow → Shared → Prop}
    {E : Value → Shared → Prop}
    (C1 : CbTells PySem.Challenge.rw_jy0011_01.row.prog w (K w.params) p loose mean mg mb 22)
    (B : Below callerA base [] h₀)
    (F : Fr h₀ L s.heap m)
    (KX : (K w.params).In h₀)
    (T : Top p loose mean mg mb h₀)
    (m1 : m (Str.ofString "row") = some (.ref Dr))
    (m2 : m (Str.ofString "count") = some (.int cnt tc))
    (m3 : m (Str.ofString "new") = some (.int n tn))
    (m4 : m (Str.ofString "told") = some (.ref Dt))
    (m5 : m (Str.ofString "filled") = some (.ref Df))
    (m6 : m (Str.ofString "groups") = some (.int g u1))
    (m7 : m (Str.ofString "size") = some (.int sz u2))
    (N : News h₀ L s.heap [(Df, listOf fvs.toArray capf), (Dr, listOf rvs.toArray capr), (Dt, listOf #[.int a0 t0, .int a1 t1, .int a2 t2, .int a3 t3] 0), (L + 1 + 1, oc2), (L + 1, oc1)])
    (hc1 : oc1.data = Data.cell (some (.int o v0)))
    (hc2 : oc2.data = Data.cell X)
    (hi : IntsAre rvs rs)
    (hj : IntsAre fvs fl)
    (FF : F4 o n cnt rs fl sz g gn pd z a0 a1 a2 a3 A pl Aq M)
    (hE : PassesOwn (model PySem.Challenge.rw_jy0011_01.row.prog w) (callerA.deeper (envOfC (Str.ofString "law") lawScope L fa cd)) (envOfC (Str.ofString "law") lawScope L fa cd) E)
    (hret : ∀ h' tk' m' news', Fr h₀ L h' m' → News h₀ L h' news' → Q (.ret (.bool true)) { s with heap := h', toks := tk' }),
    wpAny (model PySem.Challenge.rw_jy0011_01.row.prog w) (callerA.deeper (envOfC (Str.ofString "law") lawScope L fa cd)) (execs (lawBody.drop 13) (envOfC (Str.ofString "law") lawScope L fa cd)) Q E s
theorem useS4 {K : Params → Frag} (h : PS4 K) :
  ∀ (w : World)
    (p : Program)
    (loose : List Str)
    (mean : ExcName → Option Value)
    (mg mb : Str → Option Value)
    {fa : Addr}
    {cd : Value}
    {base h₀ : Heap}
    {L Dr Dt Df : Addr}
    {m : Str → Option Value}
    {s : Shared}
    {oc1 oc2 : Obj}
    {rvs fvs : List Value}
    {capr capf : Nat}
    {t0 t1 t2 t3 tc tn v0 u1 u2 : Tok}
    {a0 a1 a2 a3 : Int}
    {X : Option Value}
    {o n cnt sz g gn pd z A pl Aq : Nat}
    {M : Int}
    {rs fl : List Int}
    {Q : Flow → Shared → Prop}
    {E : Value → Shared → Prop}
    (C1 : CbTells PySem.Challenge.rw_jy0011_01.row.prog w (K w.params) p loose mean mg mb 22)
    (B : Below callerA base [] h₀)
    (F : Fr h₀ L s.heap m)
    (KX : (K w.params).In h₀)
    (T : Top p loose mean mg mb h₀)
    (m1 : m (Str.ofString "row") = some (.ref Dr))
    (m2 : m (Str.ofString "count") = some (.int cnt tc))
    (m3 : m (Str.ofString "new") = some (.int n tn))
    (m4 : m (Str.ofString "told") = some (.ref Dt))
    (m5 : m (Str.ofString "filled") = some (.ref Df))
    (m6 : m (Str.ofString "groups") = some (.int g u1))
    (m7 : m (Str.ofString "size") = some (.int sz u2))
    (N : News h₀ L s.heap [(Df, listOf fvs.toArray capf), (Dr, listOf rvs.toArray capr), (Dt, listOf #[.int a0 t0, .int a1 t1, .int a2 t2, .int a3 t3] 0), (L + 1 + 1, oc2), (L + 1, oc1)])
    (hc1 : oc1.data = Data.cell (some (.int o v0)))
    (hc2 : oc2.data = Data.cell X)
    (hi : IntsAre rvs rs)
    (hj : IntsAre fvs fl)
    (FF : F4 o n cnt rs fl sz g gn pd z a0 a1 a2 a3 A pl Aq M)
    (hE : PassesOwn (model PySem.Challenge.rw_jy0011_01.row.prog w) (callerA.deeper (envOfC (Str.ofString "law") lawScope L fa cd)) (envOfC (Str.ofString "law") lawScope L fa cd) E)
    (hret : ∀ h' tk' m' news', Fr h₀ L h' m' → News h₀ L h' news' → Q (.ret (.bool true)) { s with heap := h', toks := tk' }),
    wpAny (model PySem.Challenge.rw_jy0011_01.row.prog w) (callerA.deeper (envOfC (Str.ofString "law") lawScope L fa cd)) (execs (lawBody.drop 13) (envOfC (Str.ofString "law") lawScope L fa cd)) Q E s := h
def PS3 (K : Params → Frag) : Prop :=
  ∀ (w : World)
    (p : Program)
    (loose : List Str)
    (mean : ExcName → Option Value)
    (mg mb : Str → Option Value)
    {fa : Addr}
    {cd : Value}
    {base h₀ : Heap}
    {L Dr Dt : Addr}
    {m0 : Str → Option Value}
    {s : Shared}
    {oc1 oc2 : Obj}
    {rvs : List Value}
    {capr : Nat}
    {t0 t1 t2 t3 tc tn v0 : Tok}
    {a0 a1 a2 a3 : Int}
    {X : Option Value}
    {o n cnt sz g gn pd lf q z A pl Aq : Nat}
    {M : Int}
    {rs : List Int}
    {Q : Flow → Shared → Prop}
    {E : Value → Shared → Prop}
    (C1 : CbTells PySem.Challenge.rw_jy0011_01.row.prog w (K w.params) p loose mean mg mb 22)
    (C2 : LnTells PySem.Challenge.rw_jy0011_01.row.prog w (K w.params) p loose mean mg mb 29)
    (C3 : LrTells PySem.Challenge.rw_jy0011_01.row.prog w (K w.params) p loose mean mg mb 36)
    (B : Below callerA base [] h₀)
    (F : Fr h₀ L s.heap m0)
    (m1 : m0 (Str.ofString "row") = some (.ref Dr))
    (m2 : m0 (Str.ofString "count") = some (.int cnt tc))
    (m3 : m0 (Str.ofString "new") = some (.int n tn))
    (m4 : m0 (Str.ofString "told") = some (.ref Dt))
    (KX : (K w.params).In h₀)
    (T : Top p loose mean mg mb h₀)
    (N : News h₀ L s.heap [(Dr, listOf rvs.toArray capr), (Dt, listOf #[.int a0 t0, .int a1 t1, .int a2 t2, .int a3 t3] 0), (L + 1 + 1, oc2), (L + 1, oc1)])
    (hc1 : oc1.data = Data.cell (some (.int o v0)))
    (hc2 : oc2.data = Data.cell X)
    (hi : IntsAre rvs rs)
    (FF : F3 o n cnt rs sz g gn pd lf q z)
    (F4' : F4 o n cnt rs (row n g (num o rs * 2 ^ (pd : Int).toNat)) sz g gn pd z a0 a1 a2 a3 A pl Aq M)
    (hE : PassesOwn (model PySem.Challenge.rw_jy0011_01.row.prog w) (callerA.deeper (envOfC (Str.ofString "law") lawScope L fa cd)) (envOfC (Str.ofString "law") lawScope L fa cd) E)
    (hret : ∀ h' tk' m' news', Fr h₀ L h' m' → News h₀ L h' news' → Q (.ret (.bool true)) { s with heap := h', toks := tk' }),
    wpAny (model PySem.Challenge.rw_jy0011_01.row.prog w) (callerA.deeper (envOfC (Str.ofString "law") lawScope L fa cd)) (execs (lawBody.drop 5) (envOfC (Str.ofString "law") lawScope L fa cd)) Q E s
theorem useS3 {K : Params → Frag} (h : PS3 K) :
  ∀ (w : World)
    (p : Program)
    (loose : List Str)
    (mean : ExcName → Option Value)
    (mg mb : Str → Option Value)
    {fa : Addr}
    {cd : Value}
    {base h₀ : Heap}
    {L Dr Dt : Addr}
    {m0 : Str → Option Value}
    {s : Shared}
    {oc1 oc2 : Obj}
    {rvs : List Value}
    {capr : Nat}
    {t0 t1 t2 t3 tc tn v0 : Tok}
    {a0 a1 a2 a3 : Int}
    {X : Option Value}
    {o n cnt sz g gn pd lf q z A pl Aq : Nat}
    {M : Int}
    {rs : List Int}
    {Q : Flow → Shared → Prop}
    {E : Value → Shared → Prop}
    (C1 : CbTells PySem.Challenge.rw_jy0011_01.row.prog w (K w.params) p loose mean mg mb 22)
    (C2 : LnTells PySem.Challenge.rw_jy0011_01.row.prog w (K w.params) p loose mean mg mb 29)
    (C3 : LrTells PySem.Challenge.rw_jy0011_01.row.prog w (K w.params) p loose mean mg mb 36)
    (B : Below callerA base [] h₀)
    (F : Fr h₀ L s.heap m0)
    (m1 : m0 (Str.ofString "row") = some (.ref Dr))
    (m2 : m0 (Str.ofString "count") = some (.int cnt tc))
    (m3 : m0 (Str.ofString "new") = some (.int n tn))
    (m4 : m0 (Str.ofString "told") = some (.ref Dt))
    (KX : (K w.params).In h₀)
    (T : Top p loose mean mg mb h₀)
    (N : News h₀ L s.heap [(Dr, listOf rvs.toArray capr), (Dt, listOf #[.int a0 t0, .int a1 t1, .int a2 t2, .int a3 t3] 0), (L + 1 + 1, oc2), (L + 1, oc1)])
    (hc1 : oc1.data = Data.cell (some (.int o v0)))
    (hc2 : oc2.data = Data.cell X)
    (hi : IntsAre rvs rs)
    (FF : F3 o n cnt rs sz g gn pd lf q z)
    (F4' : F4 o n cnt rs (row n g (num o rs * 2 ^ (pd : Int).toNat)) sz g gn pd z a0 a1 a2 a3 A pl Aq M)
    (hE : PassesOwn (model PySem.Challenge.rw_jy0011_01.row.prog w) (callerA.deeper (envOfC (Str.ofString "law") lawScope L fa cd)) (envOfC (Str.ofString "law") lawScope L fa cd) E)
    (hret : ∀ h' tk' m' news', Fr h₀ L h' m' → News h₀ L h' news' → Q (.ret (.bool true)) { s with heap := h', toks := tk' }),
    wpAny (model PySem.Challenge.rw_jy0011_01.row.prog w) (callerA.deeper (envOfC (Str.ofString "law") lawScope L fa cd)) (execs (lawBody.drop 5) (envOfC (Str.ofString "law") lawScope L fa cd)) Q E s := h
def PS2 (K : Params → Frag) : Prop :=
  ∀ (w : World)
    (p : Program)
    (loose : List Str)
    (mean : ExcName → Option Value)
    (mg mb : Str → Option Value)
    {fa : Addr}
    {cd : Value}
    {base h₀ : Heap}
    {L Dt l : Addr}
    {m : Str → Option Value}
    {s : Shared}
    {oc1 oc2 : Obj}
    {svs : List Value}
    {t0 t1 t2 t3 tn v0 : Tok}
    {a0 a1 a2 a3 : Int}
    {X : Option Value}
    {o n : Nat}
    {sc : List Int}
    {Q : Flow → Shared → Prop}
    {E : Value → Shared → Prop}
    (C1 : CbTells PySem.Challenge.rw_jy0011_01.row.prog w (K w.params) p loose mean mg mb 22)
    (C2 : LnTells PySem.Challenge.rw_jy0011_01.row.prog w (K w.params) p loose mean mg mb 29)
    (C3 : LrTells PySem.Challenge.rw_jy0011_01.row.prog w (K w.params) p loose mean mg mb 36)
    (B : Below callerA base [] h₀)
    (F : Fr h₀ L s.heap m)
    (KX : (K w.params).In h₀)
    (T : Top p loose mean mg mb h₀)
    (m1 : m (Str.ofString "script") = some (.ref l))
    (m3 : m (Str.ofString "new") = some (.int n tn))
    (m4 : m (Str.ofString "told") = some (.ref Dt))
    (N : News h₀ L s.heap [(Dt, listOf #[.int a0 t0, .int a1 t1, .int a2 t2, .int a3 t3] 0), (L + 1 + 1, oc2), (L + 1, oc1)])
    (hc1 : oc1.data = Data.cell (some (.int o v0)))
    (hc2 : oc2.data = Data.cell X)
    (hs : h₀.IsList l svs.toArray)
    (hi : IntsAre svs sc)
    (hsl : sc.length ≤ 63)
    (ho1 : 1 ≤ o)
    (ho2 : o ≤ 40)
    (hn1 : 1 ≤ n)
    (hn2 : n ≤ 40)
    (ha3 : Builtin.Int.intBits a3 ≤ 1048576)
    (hE : PassesOwn (model PySem.Challenge.rw_jy0011_01.row.prog w) (callerA.deeper (envOfC (Str.ofString "law") lawScope L fa cd)) (envOfC (Str.ofString "law") lawScope L fa cd) E)
    (hret : ∀ h' tk' m' news', Fr h₀ L h' m' → News h₀ L h' news' → Q (.ret (.bool true)) { s with heap := h', toks := tk' }),
    wpAny (model PySem.Challenge.rw_jy0011_01.row.prog w) (callerA.deeper (envOfC (Str.ofString "law") lawScope L fa cd)) (execs (lawBody.drop 2) (envOfC (Str.ofString "law") lawScope L fa cd)) Q E s
theorem useS2 {K : Params → Frag} (h : PS2 K) :
  ∀ (w : World)
    (p : Program)
    (loose : List Str)
    (mean : ExcName → Option Value)
    (mg mb : Str → Option Value)
    {fa : Addr}
    {cd : Value}
    {base h₀ : Heap}
    {L Dt l : Addr}
    {m : Str → Option Value}
    {s : Shared}
    {oc1 oc2 : Obj}
    {svs : List Value}
    {t0 t1 t2 t3 tn v0 : Tok}
    {a0 a1 a2 a3 : Int}
    {X : Option Value}
    {o n : Nat}
    {sc : List Int}
    {Q : Flow → Shared → Prop}
    {E : Value → Shared → Prop}
    (C1 : CbTells PySem.Challenge.rw_jy0011_01.row.prog w (K w.params) p loose mean mg mb 22)
    (C2 : LnTells PySem.Challenge.rw_jy0011_01.row.prog w (K w.params) p loose mean mg mb 29)
    (C3 : LrTells PySem.Challenge.rw_jy0011_01.row.prog w (K w.params) p loose mean mg mb 36)
    (B : Below callerA base [] h₀)
    (F : Fr h₀ L s.heap m)
    (KX : (K w.params).In h₀)
    (T : Top p loose mean mg mb h₀)
    (m1 : m (Str.ofString "script") = some (.ref l))
    (m3 : m (Str.ofString "new") = some (.int n tn))
    (m4 : m (Str.ofString "told") = some (.ref Dt))
    (N : News h₀ L s.heap [(Dt, listOf #[.int a0 t0, .int a1 t1, .int a2 t2, .int a3 t3] 0), (L + 1 + 1, oc2), (L + 1, oc1)])
    (hc1 : oc1.data = Data.cell (some (.int o v0)))
    (hc2 : oc2.data = Data.cell X)
    (hs : h₀.IsList l svs.toArray)
    (hi : IntsAre svs sc)
    (hsl : sc.length ≤ 63)
    (ho1 : 1 ≤ o)
    (ho2 : o ≤ 40)
    (hn1 : 1 ≤ n)
    (hn2 : n ≤ 40)
    (ha3 : Builtin.Int.intBits a3 ≤ 1048576)
    (hE : PassesOwn (model PySem.Challenge.rw_jy0011_01.row.prog w) (callerA.deeper (envOfC (Str.ofString "law") lawScope L fa cd)) (envOfC (Str.ofString "law") lawScope L fa cd) E)
    (hret : ∀ h' tk' m' news', Fr h₀ L h' m' → News h₀ L h' news' → Q (.ret (.bool true)) { s with heap := h', toks := tk' }),
    wpAny (model PySem.Challenge.rw_jy0011_01.row.prog w) (callerA.deeper (envOfC (Str.ofString "law") lawScope L fa cd)) (execs (lawBody.drop 2) (envOfC (Str.ofString "law") lawScope L fa cd)) Q E s := h
structure All (K : Params → Frag) : Prop where
  c1 : PC1 K
  c2 : PC2 K
  c3 : PC3 K
  s2 : PS2 K
theorem chain {K : Params → Frag} (c1 : PC1 K) (c2 : PC2 K) (c3 : PC3 K) (s4 : PS4 K) (s3 : PS4 K → PS3 K) (s2 : PS3 K → PS2 K) : All K := ⟨c1, c2, c3, s2 (s3 s4)⟩
theorem split {q : Program} {loose : List Str} {XP : (Str → Option Value) → Heap → Prop} {K : Params → Frag} {as : List Addr} {e : ∀ P, as = (K P).map (·.1)} {r : RowW} {d : DefRec} {kwd : List (Str × Expr)} {run : Value → List Value → Sem Value} (c : All K) (h : All K → WalkO q loose XP (kHook K as e).says r d kwd run) : WalkO q loose XP (kHook K as e).says r d kwd run := h c
end Mine
open Mine
local macro_rules | `(tactic| k_memK) => `(tactic| ((rename MarkC1 => mk9); assumption))
local macro_rules | `(tactic| walk_at "binaryOp LShift int int") => `(tactic| ((rename MarkC1 => mk9); (k_here; (with_reducible refine lshift_int ?ka ?kb ?_); (case ka => first | exact Int.natCast_nonneg _ | exact cb_sh0 (by assumption)); (case kb => first | exact cb_sh1 (by assumption) (by assumption) (by assumption) | exact cb_sh2 (by assumption) (by assumption) (by assumption)))))
local macro_rules | `(tactic| size_fits) => `(tactic| ((rename MarkC1 => mk9); first | exact cb_size2 (by assumption) (by assumption) (by assumption) (by assumption) (by assumption) | exact cb_size1 (by assumption) (by assumption) (by assumption) (by assumption) (by assumption) (by assumption) (by assumption)))
local macro_rules | `(tactic| k_memK) => `(tactic| ((rename MarkC2 => mk9); assumption))
local macro_rules | `(tactic| walk_at "binaryOp Mult int int") => `(tactic| ((rename MarkC2 => mk9); (k_here; (with_reducible refine' mul_int ?_ ?kb); (case kb => exact ln_mul (by assumption) (by assumption) (by assumption) (by assumption) (by assumption)))))
local macro_rules | `(tactic| walk_at "pyIter ref") => `(tactic| ((rename MarkC3 => mk9); k_dflt (k_here; (with_reducible show wpAny _ _ (pyIter (Value.ref _)) (fun it s₂ => LoopAtV _ _ _ _ _ _ _ _ _ it s₂) _ _); (rename Fr _ _ _ _ => lF'); (rename News _ _ _ _ => lN'); (rename IsRange _ _ _ _ _ _ _ _ => rgX); (with_unfolding_all refine' lr_loop ?kx ?kh rgX ?ks ?kn lF' lN' ?kl ?kr ?ku ?kb ?_ ?_); (case kx => rfl); (case kh => rfl); (case ks => exact small_one (by omega) (by omega) (by omega) (by omega)); (case kn => exact rangeSize_nat _ _); (case kl => assumption); (case kr => rfl); (case ku => rfl); (case kb => rfl); (all_goals (try clear lF' lN')); (all_goals first | (intro i tki l' vs' cap' tkn h' tk' own' hin hlt hoff hI hL F' N') | (intro l' vs' cap' tkn h' tk' u' hlt hI F' N')); (all_goals (try dsimp only)); (all_goals (try k_fold)))))
local macro_rules | `(tactic| walk_at "binaryOp Mult int int") => `(tactic| ((rename MarkS4 => mk9); k_dflt (k_here; first | (refine' mul_to ?e ?m ?_; (case e => with_reducible assumption); (case m => with_reducible assumption)) | (refine' mul_int ?_ ?m; (case m => exact num_mulok (by assumption) (by assumption) (by assumption) (by assumption) (by assumption))))))
local macro_rules | `(tactic| walk_at "binaryOp Sub int int") => `(tactic| ((rename MarkS4 => mk9); k_dflt (k_here; (refine' sub_to ?e ?_; (case e => with_reducible assumption)))))
local macro_rules | `(tactic| walk_at "unaryOp USub int") => `(tactic| ((rename MarkS4 => mk9); k_dflt (k_here; (refine' neg_to ?e ?_; (case e => with_reducible assumption)))))
local macro_rules | `(tactic| walk_at "binaryOp Mod int int") => `(tactic| ((rename MarkS4 => mk9); k_dflt (k_here; (refine' mod_to ?e ?z ?_; (case e => with_reducible assumption); (case z => exact nz (by assumption))))))
local macro_rules | `(tactic| walk_at "binaryOp FloorDiv int int") => `(tactic| ((rename MarkS4 => mk9); k_dflt (k_here; (refine' fdiv_to ?e ?z ?p ?_; (case e => with_reducible assumption); (case z => exact nz (by assumption)); (case p => exact small_py (by omega))))))
local macro_rules | `(tactic| walk_at "call ref") => `(tactic| ((rename MarkS4 => mk9); k_dflt (k_here; first
  | (refine' ln_use ?k1 ?k2 ?k3 ?k4 ?k5 ?kK ?kC ?kl ?ki ?kn ?kd ?kf ?kdp ?ku ?_; (case kC => assumption); (case k1 => k_asm); (case k2 => k_asm); (case k3 => k_asm); (case k4 => k_asm); (case k5 => k_asm); (case kK => exact rfl); (case kl => k_mem); (case ki => assumption); (case kn => omega); (case kd => assumption); (case kf => assumption); (case kdp => ktr_room); (case ku => ktr_units); intro t9 h9 tk9 F9 N9; (try dsimp only); (try k_fold))
  | (refine' lr_use ?k1 ?k2 ?k3 ?k4 ?k5 ?kK ?kC ?kt ?kc ?kdp ?ku ?_; (case kC => assumption); (case k1 => k_asm); (case k2 => k_asm); (case k3 => k_asm); (case k4 => k_asm); (case k5 => k_asm); (case kK => exact rfl); (case kt => assumption); (case kc => assumption); (case kdp => ktr_room); (case ku => ktr_units); intro l9 vs9 cap9 h9 tk9 hI9 hlt9 F9 N9; (try k_lt hlt9); (try dsimp only); (try k_fold))
  | (refine' cb_some ?k1 ?k2 ?k3 ?k4 ?k5 ?kK ?kC ?ka ?kl ?ki ?kr ?kn ?kf1 ?kf2 ?kt1 ?kt2 ?kdp ?ku ?_; (case kC => assumption); (case k1 => k_asm); (case k2 => k_asm); (case k3 => k_asm); (case k4 => k_asm); (case k5 => k_asm); (case kK => exact rfl); (case ka => first | exact Or.inl rfl | exact Or.inr ⟨rfl, rfl⟩); (case kl => k_mem); (case ki => first | assumption | exact IntsAre.nil); (case kr => first | assumption | exact conv_nil (by assumption) (by assumption)); (case kn => first | omega | exact Nat.zero_le _ | (rw [row_length]; assumption)); (case kf1 => assumption); (case kf2 => assumption); (case kt1 => assumption); (case kt2 => assumption); (case kdp => ktr_room); (case ku => ktr_units); intro l9 vs9 cap9 h9 tk9 hI9 hlt9 F9 N9; (try k_lt hlt9); (try dsimp only); (try k_fold))
  | (refine' cb_none ?k1 ?k2 ?k3 ?k4 ?k5 ?kK ?kC ?ka ?kl ?ki ?kr ?kn ?kf1 ?kf2 ?kt1 ?kt2 ?kdp ?ku ?_; (case kC => assumption); (case k1 => k_asm); (case k2 => k_asm); (case k3 => k_asm); (case k4 => k_asm); (case k5 => k_asm); (case kK => exact rfl); (case ka => first | exact Or.inl rfl | exact Or.inr ⟨rfl, rfl⟩); (case kl => k_mem); (case ki => assumption); (case kr => first | exact F4.hw1 (by assumption) _ | exact F4.hw2 (by assumption) _); (case kn => first | omega | exact wr_len (by omega) | (rw [row_length]; assumption)); (case kf1 => assumption); (case kf2 => assumption); (case kt1 => assumption); (case kt2 => assumption); (case kdp => ktr_room); (case ku => ktr_units); intro h9 tk9 F9 N9; (try dsimp only); (try k_fold))
  | fail "no contract")))
local macro_rules | `(tactic| walk_at "compareOp Eq ref ref") => `(tactic| ((rename MarkS4 => mk9); k_dflt (k_here; (refine' eq_same ?k1 ?k2 ?k3 ?k4 ?k5 ?k6 ?k7 ?_; (case k1 => k_asm); (case k2 => k_mem); (case k3 => k_mem); (case k4 => first | assumption | exact IntsAre.nil); (case k5 => first | assumption | exact IntsAre.nil); (case k6 => rfl); (case k7 => units_room)))))
local macro_rules | `(tactic| walk_at "compareOp NotEq ref ref") => `(tactic| ((rename MarkS4 => mk9); k_dflt (k_here; (refine' ne_same ?k1 ?k2 ?k3 ?k4 ?k5 ?k6 ?k7 ?_; (case k1 => k_asm); (case k2 => k_mem); (case k3 => k_mem); (case k4 => assumption); (case k5 => assumption); (case k6 => first | rfl | exact rep_eq); (case k7 => units_room)))))
local macro_rules | `(tactic| walk_at "call builtin:abs") => `(tactic| ((rename MarkS4 => mk9); k_dflt (k_here; (refine' abs_to ?e ?_; (case e => with_reducible assumption)); intro u9 tk9)))
local macro_rules | `(tactic| walk_at "subscriptTail Name Slice ref ref") => `(tactic| ((rename MarkS4 => mk9); (k_here; (with_reducible show wpAny _ _ (subscriptTail _ (PySem.Expr.Slice _ _ none _) (Value.ref _) (Value.ref _)) _ _ _); k_dflt (first | (refine' sl_upto ?F ?N ?l ?i ?n ?_ ?s ?t; (case F => k_asm); (case N => k_asm); (case l => k_mem); (case i => assumption); (case n => omega); (case s => with_unfolding_all rfl); (case t => kmk_pure)) | (refine' sl_from ?F ?N ?l ?i ?n ?z ?_ ?s ?t; (case F => k_asm); (case N => k_asm); (case l => k_mem); (case i => assumption); (case n => omega); (case z => omega); (case s => with_unfolding_all rfl); (case t => kmk_pure))); intro D' ws' h' F' N' l1 hI'; (try k_lt l1))))
local macro_rules | `(tactic| walk_at "binaryOp Mult int int") => `(tactic| ((rename MarkS3 => mk9); k_dflt (k_here; first | (refine' mul_to ?e ?m ?_; (case e => with_reducible assumption); (case m => with_reducible assumption)) | (refine' mul_int ?_ ?m; (case m => exact num_mulok (by assumption) (by assumption) (by assumption) (by assumption) (by assumption))))))
local macro_rules | `(tactic| walk_at "binaryOp Sub int int") => `(tactic| ((rename MarkS3 => mk9); k_dflt (k_here; (refine' sub_to ?e ?_; (case e => with_reducible assumption)))))
local macro_rules | `(tactic| walk_at "unaryOp USub int") => `(tactic| ((rename MarkS3 => mk9); k_dflt (k_here; (refine' neg_to ?e ?_; (case e => with_reducible assumption)))))
local macro_rules | `(tactic| walk_at "binaryOp Mod int int") => `(tactic| ((rename MarkS3 => mk9); k_dflt (k_here; (refine' mod_to ?e ?z ?_; (case e => with_reducible assumption); (case z => exact nz (by assumption))))))
local macro_rules | `(tactic| walk_at "binaryOp FloorDiv int int") => `(tactic| ((rename MarkS3 => mk9); k_dflt (k_here; (refine' fdiv_to ?e ?z ?p ?_; (case e => with_reducible assumption); (case z => exact nz (by assumption)); (case p => exact small_py (by omega))))))
local macro_rules | `(tactic| walk_at "call ref") => `(tactic| ((rename MarkS3 => mk9); k_dflt (k_here; first
  | (refine' ln_use ?k1 ?k2 ?k3 ?k4 ?k5 ?kK ?kC ?kl ?ki ?kn ?kd ?kf ?kdp ?ku ?_; (case kC => assumption); (case k1 => k_asm); (case k2 => k_asm); (case k3 => k_asm); (case k4 => k_asm); (case k5 => k_asm); (case kK => exact rfl); (case kl => k_mem); (case ki => assumption); (case kn => omega); (case kd => assumption); (case kf => assumption); (case kdp => ktr_room); (case ku => ktr_units); intro t9 h9 tk9 F9 N9; (try dsimp only); (try k_fold))
  | (refine' lr_use ?k1 ?k2 ?k3 ?k4 ?k5 ?kK ?kC ?kt ?kc ?kdp ?ku ?_; (case kC => assumption); (case k1 => k_asm); (case k2 => k_asm); (case k3 => k_asm); (case k4 => k_asm); (case k5 => k_asm); (case kK => exact rfl); (case kt => assumption); (case kc => assumption); (case kdp => ktr_room); (case ku => ktr_units); intro l9 vs9 cap9 h9 tk9 hI9 hlt9 F9 N9; (try k_lt hlt9); (try dsimp only); (try k_fold))
  | (refine' cb_some ?k1 ?k2 ?k3 ?k4 ?k5 ?kK ?kC ?ka ?kl ?ki ?kr ?kn ?kf1 ?kf2 ?kt1 ?kt2 ?kdp ?ku ?_; (case kC => assumption); (case k1 => k_asm); (case k2 => k_asm); (case k3 => k_asm); (case k4 => k_asm); (case k5 => k_asm); (case kK => exact rfl); (case ka => first | exact Or.inl rfl | exact Or.inr ⟨rfl, rfl⟩); (case kl => k_mem); (case ki => first | assumption | exact IntsAre.nil); (case kr => first | assumption | exact F3.hc2c (by assumption) (by assumption) (by assumption)); (case kn => first | omega | exact Nat.zero_le _ | (rw [row_length]; assumption)); (case kf1 => assumption); (case kf2 => assumption); (case kt1 => assumption); (case kt2 => assumption); (case kdp => ktr_room); (case ku => ktr_units); intro l9 vs9 cap9 h9 tk9 hI9 hlt9 F9 N9; (try k_lt hlt9); (try dsimp only); (try k_fold))
  | (refine' cb_none ?k1 ?k2 ?k3 ?k4 ?k5 ?kK ?kC ?ka ?kl ?ki ?kr ?kn ?kf1 ?kf2 ?kt1 ?kt2 ?kdp ?ku ?_; (case kC => assumption); (case k1 => k_asm); (case k2 => k_asm); (case k3 => k_asm); (case k4 => k_asm); (case k5 => k_asm); (case kK => exact rfl); (case ka => first | exact Or.inl rfl | exact Or.inr ⟨rfl, rfl⟩); (case kl => k_mem); (case ki => assumption); (case kr => first | exact F3.hc2a (by assumption) (by assumption) | exact F3.hc2b (by assumption) (by assumption)); (case kn => first | omega | exact wr_len (by omega) | (rw [row_length]; assumption)); (case kf1 => assumption); (case kf2 => assumption); (case kt1 => assumption); (case kt2 => assumption); (case kdp => ktr_room); (case ku => ktr_units); intro h9 tk9 F9 N9; (try dsimp only); (try k_fold))
  | fail "no contract")))
local macro_rules | `(tactic| walk_at "compareOp Eq ref ref") => `(tactic| ((rename MarkS3 => mk9); k_dflt (k_here; (refine' eq_same ?k1 ?k2 ?k3 ?k4 ?k5 ?k6 ?k7 ?_; (case k1 => k_asm); (case k2 => k_mem); (case k3 => k_mem); (case k4 => first | assumption | exact IntsAre.nil); (case k5 => first | assumption | exact IntsAre.nil); (case k6 => rfl); (case k7 => units_room)))))
local macro_rules | `(tactic| walk_at "compareOp NotEq ref ref") => `(tactic| ((rename MarkS3 => mk9); k_dflt (k_here; (refine' ne_same ?k1 ?k2 ?k3 ?k4 ?k5 ?k6 ?k7 ?_; (case k1 => k_asm); (case k2 => k_mem); (case k3 => k_mem); (case k4 => assumption); (case k5 => assumption); (case k6 => first | rfl | exact rep_eq); (case k7 => units_room)))))
local macro_rules | `(tactic| walk_at "execs cons") => `(tactic| ((rename MarkS3 => mk9); (k_here; (with_reducible show wpAny _ _ (execs (PySem.Stmt.If _ _ _ { line := 50, col := 4, endLine := 51, endCol := 20 } :: _) _) _ _ _); refine trap ?_)))
local macro_rules | `(tactic| walk_at "eval BoolOp") => `(tactic| ((rename MarkS2 => mk9); (k_here; (fail_if_success (rename TrapOff => x9)); refine trap ?_)))
local macro_rules | `(tactic| walk_at "binaryOp Pow int int") => `(tactic| ((rename MarkS2 => mk9); k_dflt (k_here; (with_reducible refine' pw_to ?a ?b ?c ?d ?_); (case a => omega); (case b => omega); (case c => omega); (case d => omega))))
local macro_rules | `(tactic| walk_at "binaryOp Mod int int") => `(tactic| ((rename MarkS2 => mk9); k_dflt (k_here; (with_reducible refine' mod_int' ?z ?_); (case z => first | omega | exact Int.ne_of_gt (p2 _)))))
local macro_rules | `(tactic| walk_at "binaryOp FloorDiv int int") => `(tactic| ((rename MarkS2 => mk9); k_dflt (k_here; first | ((with_reducible refine' fd_to ?a ?b ?c ?d ?_); (case a => omega); (case b => omega); (case c => omega); (case d => omega)) | ((with_reducible refine' floordiv_int ?z ?_ (Or.inl (PyProof.noPylong_small ?p))); (case z => omega); (case p => omega)))))
local macro_rules | `(tactic| walk_at "execs cons") => `(tactic| ((rename MarkS2 => mk9); (k_here; (with_reducible show wpAny _ _ (execs (PySem.Stmt.Assign _ _ { line := 40, col := _, endLine := _, endCol := _ } :: _) _) _ _ _); refine trap ?_)))
local macro_rules | `(tactic| walk_at "assign Tuple cons ref") => `(tactic| ((rename MarkL1 => mk9); (k_here; (fail_if_success (rename TrapOff => x9)); refine trap ?_)))
local macro_rules | `(tactic| walk_at "execs cons") => `(tactic| ((rename MarkL1 => mk9); (k_here; (with_reducible show wpAny _ _ (execs (PySem.Stmt.Assign _ _ { line := 37, col := _, endLine := _, endCol := _ } :: _) _) _ _ _); refine trap ?_)))
set_option maxRecDepth 100000 in
set_option maxHeartbeats 100000000 in
theorem PySem.Challenge.cw_jy0011_01_holds : PySem.Challenge.rw_jy0011_01.Holds := by
  w_on
  o_law
  k_head
  (case hw => w_witness2)
  refine split ?_ ?_
  · refine chain ?_ ?_ ?_ ?_ ?_ ?_
    · unfold PC1
      intro w p loose mean mg mb
      have mk : MarkC1 := MarkC1.mk
      k_with_none
      w_top off
      k_fill
      unfold CbTells
      intro dp un gd cn cs a ccd cl outer A₀ base h₀ L m news s l vs ns cap fb tb t1 t2 pad args Q E B F X N T hk hl hi hlen hf1 hf40 ht1 ht40 hd hu hargs hnone hsome
      k_with "pyIter ref" => k_state_given ["frombits", "tobits"] (fun f t pre acc bits ret => CbInv f t pre acc bits ret) "acc" "bits" "ret"
      k_with "exec While Compare cons nil" => k_while_given ["tobits", "bits!", "acc", "ret!"] (fun t b0 acc r0 _ bits ret => CbIn t b0 acc r0 bits ret) (fun t b0 acc r0 _ bits ret => bits.toNat) "bits" "ret"
      k_with "state" => first
        | exact cb_start (by assumption)
        | exact cbin_start (by assumption)
        | exact cbin_turn (by assumption) (by assumption)
        | exact cb_turn (by assumption) (by assumption) (by assumption) (by assumption) (by assumption) (by assumption) (by assumption)
      refine wpAny_call ?_
      rcases hargs with rfl | ⟨rfl, rfl⟩
      all_goals (k_dflt (refine' code_def ?k1 ?k2 ?k3 ?k4 ?k5 ?kA ?kF ?kK ?k6 ?k7 ?k8 ?k9 ?kB ?_ ?c2 ?c3 ?c4 ?c5; (case kA => exact rfl); (case kF => exact rfl); (case kK => assumption); (case k1 => k_asm); (case k2 => k_asm); (case k3 => k_asm); (case k4 => k_asm); (case k5 => k_asm); (case k6 => k_is); (case k7 => k_is); (case k8 => ktr_room); (case k9 => first | exact BindsTo.of_eq rfl | exact binds_K (by k_in) rfl (by k_is) rfl rfl rfl); (case c5 => decide); (case kB => exact locs rfl); (case c2 => exact rfl); (case c3 => exact rfl); (case c4 => exact rfl); k_whole; intro g' L' h' FG' F' N' B' X' T'; (try dsimp only); (try k_lift B'); (try k_fold)))
      all_goals k_steps
      all_goals first
        | exact hnone (conv_bad (by assumption) (Or.inl (by assumption))) _ _ (by assumption) (cb_drop (by assumption) (fun p hp => List.mem_cons_of_mem _ (List.mem_append_left _ hp)))
        | exact hnone (conv_bad (by assumption) (Or.inr (by assumption))) _ _ (by assumption) (cb_drop (by assumption) (fun p hp => List.mem_cons_of_mem _ (List.mem_append_left _ hp)))
        | exact hnone (conv_none1 (by assumption) (by assumption) (by assumption)) _ _ (by assumption) (cb_drop (by assumption) (fun p hp => List.mem_cons_of_mem _ hp))
        | exact hnone (conv_none2 (by assumption) (by assumption) (by assumption) (by assumption)) _ _ (by assumption) (cb_drop (by assumption) (fun p hp => List.mem_cons_of_mem _ hp))
        | exact hsome _ _ _ _ _ _ (conv_pad1 (by first | assumption | rfl) (by assumption) (by assumption) (by assumption)) (ints_snoc (by assumption)) (by assumption) (by assumption) (news_push (by assumption))
        | exact hsome _ _ _ _ _ _ (conv_pad0 (by first | assumption | rfl) (by assumption) (by assumption)) (by assumption) (by assumption) (by assumption) (by assumption)
        | exact hsome _ _ _ _ _ _ (conv_some2 (by assumption) (by assumption) (by assumption) (by assumption) (by assumption)) (by assumption) (by assumption) (by assumption) (by assumption)
    · unfold PC2
      intro w p loose mean mg mb
      have mk : MarkC2 := MarkC2.mk
      k_with_none
      w_top off
      k_fill
      unfold LnTells
      intro dp un gd cn cs a ccd cl outer A₀ base h₀ L m news s l vs ns cap fb t1 Q E B F X N T hk hl hi hlen hdig hf40 hd hu hret
      k_with "pyIter ref" => k_state_given ["bits"] (fun f pre number => number = num f.toNat pre) "number"
      k_with "state" => first
        | exact ln_start
        | exact ln_turn (by assumption)
      refine wpAny_call ?_
      k_dflt cell_enter
      k_steps
      rename _ = num _ _ => hh
      rw [Int.toNat_natCast] at hh
      subst hh
      exact hret _ _ _ (by assumption) (by assumption)
    · unfold PC3
      intro w p loose mean mg mb
      have mk : MarkC3 := MarkC3.mk
      k_with_none
      w_top off
      k_fill
      unfold LrTells
      intro dp un gd cn cs a ccd cl outer A₀ base h₀ L m news s x tb c t1 t2 t3 Q E B F X N T hk ht40 hc hd hu hret
      refine wpAny_call ?_
      k_dflt cell_enter
      k_steps
      all_goals first
        | exact hret _ _ _ _ _ (lr_cnt (by assumption)) (by assumption) (by assumption) (by assumption)
        | exact lr_end (by assumption) (by assumption) (by assumption) (by assumption) (lr_ints (by assumption)) rfl rfl lr_div (by intro z a b c; simp [a, b, c])
    · unfold PS4
      intro w p loose mean mg mb fa cd base h₀ L Dr Dt Df m s oc1 oc2 rvs fvs capr capf t0 t1 t2 t3 tc tn v0 u1 u2 a0 a1 a2 a3 X o n cnt sz g gn pd z A pl Aq M rs fl Q E C1 B F KX T m1 m2 m3 m4 m5 m6 m7 N hc1 hc2 hi hj FF hE hret
      have mk : MarkS4 := MarkS4.mk
      revert KX
      k_with_none
      w_top off
      k_fill
      intro KX
      obtain ⟨ho1, ho2, hn1, hn2, hrl, hcnt1, hcnt2, hfl, hgn, hgnm, hpd, hz, hz2, hc3, hA, hpl, hpl2, hAq, hM, _, _, hMm⟩ := id FF
      replace F := fr_all (ps := [(Str.ofString "row", .ref Dr), (Str.ofString "count", .int cnt tc), (Str.ofString "new", .int n tn), (Str.ofString "told", .ref Dt), (Str.ofString "filled", .ref Df), (Str.ofString "groups", .int g u1), (Str.ofString "size", .int sz u2)]) F (by simp [m1, m2, m3, m4, m5, m6, m7])
      dsimp only [kstB] at F
      clear m1 m2 m3 m4 m5 m6 m7
      dsimp only [lawBody, lawScope, PySem.Challenge.pw_jy0011_01, List.drop] at hE ⊢
      k_steps
      exact hret _ _ _ _ (by assumption) (by assumption)
    · intro st4
      unfold PS3
      intro w p loose mean mg mb fa cd base h₀ L Dr Dt m0 s oc1 oc2 rvs capr t0 t1 t2 t3 tc tn v0 a0 a1 a2 a3 X o n cnt sz g gn pd lf q z A pl Aq M rs Q E C1 C2 C3 B F m1 m2 m3 m4 KX T N hc1 hc2 hi FF F4' hE hret
      have mk : MarkS3 := MarkS3.mk
      revert KX
      k_with_none
      w_top off
      k_fill
      intro KX
      replace F := fr_all (ps := [(Str.ofString "row", .ref Dr), (Str.ofString "count", .int cnt tc), (Str.ofString "new", .int n tn), (Str.ofString "told", .ref Dt)]) F (by simp [m1, m2, m3, m4])
      dsimp only [kstB] at F
      clear m1 m2 m3 m4
      obtain ⟨ho1, ho2, hn1, hn2, hrd, hrl, hcnt1, hcnt2, hsz, hszm, hg, hg2, hgn, hgnm, hpd, hpd2, hlf, hlf2, hq, hq2, hz, hz2, hc1, _, _, _, hc3⟩ := id FF
      dsimp only [lawBody, lawScope, PySem.Challenge.pw_jy0011_01, List.drop]
      k_steps
      all_goals (
        unfold Trap
        rename Fr _ _ _ _ => F9
        rename News _ _ _ _ => N9
        exact useS4 st4 w p loose mean mg mb C1 B F9 KX T rfl rfl rfl rfl rfl rfl rfl (news5 N9 (by k_mem) (by k_mem) (by k_mem) (by k_mem) (by k_mem)) (by assumption) (by assumption) (by assumption) (by assumption) F4' hE (fun h' tk' m' news' a b => hret h' tk' m' news' a b))
    · intro st3
      unfold PS2
      intro w p loose mean mg mb fa cd base h₀ L Dt l m s oc1 oc2 svs t0 t1 t2 t3 tn v0 a0 a1 a2 a3 X o n sc Q E C1 C2 C3 B F KX T m1 m3 m4 N hc1 hc2 hs hi hsl ho1 ho2 hn1 hn2 ha3 hE hret
      have mk : MarkS2 := MarkS2.mk
      revert KX
      k_with_none
      w_top off
      k_fill
      intro KX
      replace F := fr_all (ps := [(Str.ofString "new", .int n tn), (Str.ofString "told", .ref Dt), (Str.ofString "script", .ref l)]) F (by simp [m1, m3, m4])
      dsimp only [kstB] at F
      clear m1 m3 m4
      dsimp only [lawBody, lawScope, PySem.Challenge.pw_jy0011_01, List.drop]
      k_steps
      unfold Trap
      refine cutQ (fun v s' => ∃ l' ws rr cap' h' tk', v = Value.ref l' ∧ s' = { s with heap := h', toks := tk' } ∧ Fr h₀ L h' (fun z => if z = Str.ofString "new" then some (.int n tn) else if z = Str.ofString "told" then some (.ref Dt) else if z = Str.ofString "script" then some (.ref l) else m z) ∧
        News h₀ L h' [(l', PySem.W.listOf (List.toArray ws) cap'), (Dt, PySem.W.listOf #[.int a0 t0, .int a1 t1, .int a2 t2, .int a3 t3] 0), (L + 1 + 1, oc2), (L + 1, oc1)] ∧ (Dt < l' ∧ L + 1 + 1 < l' ∧ L + 1 < l') ∧ IntsAre ws rr ∧ rr ≠ [] ∧ rr.length ≤ 64) ?_ ?_
      · intro Qv hQv
        have off : TrapOff := TrapOff.mk
        k_steps
        · exact hQv _ _ ⟨_, _, _, _, _, _, rfl, rfl, by assumption, by assumption, by assumption, by assumption, ne_nil (by assumption), by omega⟩
        · exact hQv _ _ ⟨_, _, _, _, _, _, rfl, rfl, by assumption, (news4 (by assumption) (by k_mem) (by k_mem) (by k_mem) (by k_mem)), (And.right (by assumption)), IntsAre.cons _ _ .nil, List.cons_ne_nil _ _, Nat.succ_le_succ (Nat.zero_le _)⟩
      · rintro v s' ⟨l', ws, rr, cap', h', tk', rfl, rfl, F', N', hlt, hw, hr1, hr2⟩
        clear N F
        have hr0 : 0 < rr.length := List.length_pos_iff.mpr hr1
        have off : TrapOff := TrapOff.mk
        dsimp only
        k_steps
        all_goals (
          unfold Trap
          rename Fr _ _ _ _ => F9
          rename News _ _ _ _ => N9
          rename IntsAre _ (List.map _ _) => hI9
          obtain ⟨sz, g, gn, pd, lf, q, z, A, pl, Aq, M, f3, f4⟩ := facts' a0 a1 a2 a3 ho1 ho2 hn1 hn2 hI9 (by omega) (by omega) ha3
          refine useS3 st3 w p loose mean mg mb C1 C2 C3 B F9 rfl (count_is rfl ?_) rfl rfl KX T (news4 N9 (by k_mem) (by k_mem) (by k_mem) (by k_mem)) (by assumption) (by assumption) hI9 f3 f4 hE (fun h' tk' m' news' a b => hret h' tk' m' news' a b)
          omega)
  · intro all
    obtain ⟨hc1, hc2, hc3, hs2⟩ := all
    have mk : MarkL1 := MarkL1.mk
    k_with_none
    k_go0
    (all_goals try k_fold)
    k_steps
    unfold Trap
    rename IntsAre _ (List.take 4 _) => h1
    rename IntsAre _ (List.take 2 _) => h2
    rename IntsAre _ (List.map _ _) => h3
    obtain ⟨a0, a1, a2, a3, t0, t1, t2, t3, v0, v1, o, n, rfl, rfl, ho1, ho2, hn1, hn2, htold⟩ := told_make width_of h1 h2 h3
    clear h1 h2 h3
    have off : TrapOff := TrapOff.mk
    k_steps
    unfold Trap
    rename Fr _ _ _ _ => F9
    rename News _ _ _ _ => N9
    rename PyData.layable0 (.list _) = true => hlay
    rename Below _ _ _ _ => B9
    rename Frag.In _ _ => K9
    rename Top _ _ _ _ _ _ => T9
    refine useS2 hs2 _ _ _ _ _ _ (hc1 _ _ _ _ _ _) (hc2 _ _ _ _ _ _) (hc3 _ _ _ _ _ _) B9 F9 K9 T9 rfl rfl rfl (news3 N9 (by k_mem) (by k_mem) (by k_mem)) (by assumption) (by assumption) (by assumption) (by assumption) (by omega) ho1 ho2 hn1 hn2 (bits_told htold hlay) ?_ ?_
    · passes_own
    · intro h' tk' m' news' F' N'
      k_steps
