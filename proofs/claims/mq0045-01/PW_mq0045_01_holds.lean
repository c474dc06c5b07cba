import PyProof.Rows.All
import Wide.All
import OpenK.AllK
import Wide.FinOn
import PySem.Challenge.RW_mq0045_01
open PySem PySem.W PyProof.Rows
set_option Elab.async false
set_option maxRecDepth 100000
set_option maxHeartbeats 16000000
namespace Mine
section
open PySem PyProof.Rows PySem.W
theorem xor_add_and : ∀ (n a b : Nat), a ≤ n → (a ^^^ b) + 2 * (a &&& b) = a + b := by
  intro n
  induction n with
  | zero => intro a b h; have : a = 0 := by omega
            subst this; simp
  | succ n ih =>
    intro a b h
    by_cases h0 : a = 0
    · subst h0; simp
    have e1 := ih (a / 2) (b / 2) (by omega)
    have x1 : (a ^^^ b) / 2 = a / 2 ^^^ b / 2 := Nat.xor_div_two
    have x2 : (a ^^^ b) % 2 = (a % 2 + b % 2) % 2 := by
      have h1 : a % 2 = 0 ∨ a % 2 = 1 := by omega
      have h2 : b % 2 = 0 ∨ b % 2 = 1 := by omega
      rw [show (2:Nat) = 2 ^ 1 from rfl, Nat.xor_mod_two_pow]
      rcases h1 with h1 | h1 <;> rcases h2 with h2 | h2 <;> simp [h1, h2]
    have y1 : (a &&& b) / 2 = a / 2 &&& b / 2 := Nat.and_div_two
    have y2 : (a &&& b) % 2 = (a % 2) * (b % 2) := by
      have h1 : a % 2 = 0 ∨ a % 2 = 1 := by omega
      have h2 : b % 2 = 0 ∨ b % 2 = 1 := by omega
      rw [show (2:Nat) = 2 ^ 1 from rfl, Nat.and_mod_two_pow]
      rcases h1 with h1 | h1 <;> rcases h2 with h2 | h2 <;> simp [h1, h2]
    have h1 : a % 2 = 0 ∨ a % 2 = 1 := by omega
    have h2 : b % 2 = 0 ∨ b % 2 = 1 := by omega
    rcases h1 with h1 | h1 <;> rcases h2 with h2 | h2 <;> simp only [h1, h2] at x2 y2 <;> omega

theorem bx_nat (a b : Nat) : Builtin.bitXor (a : Int) (b : Int) = ((a ^^^ b : Nat) : Int) := by
  rw [bitXor_and, bitAnd_pp (by omega) (by omega)]
  have := xor_add_and a a b (Nat.le_refl _)
  simp only [Int.toNat_natCast]
  omega
theorem bx_nn {x y : Int} (hx : 0 ≤ x) (hy : 0 ≤ y) : Builtin.bitXor x y = ((x.toNat ^^^ y.toNat : Nat) : Int) := by
  obtain ⟨a, rfl⟩ := Int.eq_ofNat_of_zero_le hx
  obtain ⟨b, rfl⟩ := Int.eq_ofNat_of_zero_le hy
  exact bx_nat a b

def mulN (n : Nat) : Nat := if n % 2 = 1 then n / 2 ^^^ 3988292384 else n / 2
def mulZ (v : Int) : Int := ((mulN v.toNat : Nat) : Int)
theorem mulZ_nn (v : Int) : 0 ≤ mulZ v := Int.natCast_nonneg _
theorem mulZ_odd {v : Int} (hv : 0 ≤ v) (h : v.fmod 2 = 1) : Builtin.bitXor (v.fdiv 2) 3988292384 = mulZ v := by
  obtain ⟨a, rfl⟩ := Int.eq_ofNat_of_zero_le hv
  have e : ((a : Int).fdiv 2) = ((a / 2 : Nat) : Int) := by
    rw [Int.fdiv_eq_ediv_of_nonneg _ (by decide)]; rfl
  have h' : a % 2 = 1 := by
    rw [Int.fmod_eq_emod_of_nonneg _ (by decide)] at h; omega
  rw [e, show (3988292384 : Int) = ((3988292384 : Nat) : Int) from rfl, bx_nat]
  unfold mulZ mulN
  rw [Int.toNat_natCast, if_pos h']
theorem mulZ_even {v : Int} (hv : 0 ≤ v) (h : ¬ v.fmod 2 = 1) : v.fdiv 2 = mulZ v := by
  obtain ⟨a, rfl⟩ := Int.eq_ofNat_of_zero_le hv
  have e : ((a : Int).fdiv 2) = ((a / 2 : Nat) : Int) := by
    rw [Int.fdiv_eq_ediv_of_nonneg _ (by decide)]; rfl
  have h' : ¬ a % 2 = 1 := by
    rw [Int.fmod_eq_emod_of_nonneg _ (by decide)] at h; omega
  rw [e]
  unfold mulZ mulN
  rw [Int.toNat_natCast, if_neg h']
def iterN (f : Nat → Nat) : Nat → Nat → Nat
  | 0, x => x
  | k + 1, x => f (iterN f k x)
def genZ (v : Int) : Int := ((iterN mulN 8 v.toNat : Nat) : Int)
theorem gen_start {v : Int} (hv : 0 ≤ v) : v = ((iterN mulN ([] : List Int).length v.toNat : Nat) : Int) := by
  show v = ((v.toNat : Nat) : Int)
  omega
theorem iterN_app (f : Nat → Nat) (pre : List Int) (k : Int) (x : Nat) : iterN f (pre ++ [k]).length x = f (iterN f pre.length x) := by
  rw [List.length_append]; rfl
theorem gen_odd {pre : List Int} {k c : Int} {x : Nat} (hi : c = ((iterN mulN pre.length x : Nat) : Int)) (h : Builtin.bitAnd c 1 ≠ 0) :
    Builtin.bitXor (c.fdiv (2 ^ Int.toNat 1)) 3988292384 = ((iterN mulN (pre ++ [k]).length x : Nat) : Int) := by
  have hc : 0 ≤ c := by omega
  rw [bitAnd_m1] at h
  have hm : c.fmod 2 = 1 := by
    rw [Int.fmod_eq_emod_of_nonneg _ (by decide)]; omega
  have := mulZ_odd hc hm
  rw [show (2 : Int) ^ Int.toNat 1 = 2 from rfl, this, iterN_app]
  unfold mulZ
  rw [hi, Int.toNat_natCast]
theorem gen_even {pre : List Int} {k c : Int} {x : Nat} (hi : c = ((iterN mulN pre.length x : Nat) : Int)) (h : Builtin.bitAnd c 1 = 0) :
    c.fdiv (2 ^ Int.toNat 1) = ((iterN mulN (pre ++ [k]).length x : Nat) : Int) := by
  have hc : 0 ≤ c := by omega
  rw [bitAnd_m1] at h
  have hm : ¬ c.fmod 2 = 1 := by
    rw [Int.fmod_eq_emod_of_nonneg _ (by decide)]; omega
  have := mulZ_even hc hm
  rw [show (2 : Int) ^ Int.toNat 1 = 2 from rfl, this, iterN_app]
  unfold mulZ
  rw [hi, Int.toNat_natCast]
theorem gen_end {c v : Int} (h : c = ((iterN mulN (PySem.W.rangeKs 0 (8 - 0 : Int).toNat).length v.toNat : Nat) : Int)) : c = genZ v := h
/-- squaring: one turn -/
def sqStep (v : Nat) (made k : Nat) : Nat :=
  let d := mulN (mulN made)
  if (v / 2 ^ k) % 2 = 1 then d ^^^ 2147483648 else d
def sqN (v : Nat) : Nat → Nat
  | 0 => 0
  | k + 1 => sqStep v (sqN v k) k
def sqZ (v : Int) : Int := ((sqN v.toNat 32 : Nat) : Int)
theorem sqZ_nn (v : Int) : 0 ≤ sqZ v := Int.natCast_nonneg _
theorem shr_nat {v k : Int} (hv : 0 ≤ v) (hk : 0 ≤ k) : v.fdiv (2 ^ k.toNat) = ((v.toNat / 2 ^ k.toNat : Nat) : Int) := by
  obtain ⟨a, rfl⟩ := Int.eq_ofNat_of_zero_le hv
  have h2 : ((2 : Int) ^ k.toNat) = ((2 ^ k.toNat : Nat) : Int) := by simp
  rw [h2, Int.fdiv_eq_ediv_of_nonneg _ (Int.natCast_nonneg _)]
  rfl
theorem bit_nat {v k : Int} (hv : 0 ≤ v) (hk : 0 ≤ k) : (v.fdiv (2 ^ k.toNat)).fmod 2 = ((v.toNat / 2 ^ k.toNat % 2 : Nat) : Int) := by
  rw [shr_nat hv hk, Int.fmod_eq_emod_of_nonneg _ (by decide)]
  rfl
theorem sq_start {v : Int} : (0 : Int) = ((sqN v.toNat ([] : List Int).length : Nat) : Int) := rfl
theorem sq_set {v k c : Int} {pre : List Int} (hv : 0 ≤ v) (hk : k = 0 + (pre.length : Int)) (hi : c = ((sqN v.toNat pre.length : Nat) : Int)) (h : (v.fdiv (2 ^ k.toNat)).fmod 2 = 1) :
    Builtin.bitXor (mulZ (mulZ c)) 2147483648 = ((sqN v.toNat (pre ++ [k]).length : Nat) : Int) := by
  subst hi
  have hk' : k.toNat = pre.length := by omega
  rw [bit_nat hv (by omega), hk'] at h
  rw [List.length_append]
  show _ = ((sqStep v.toNat (sqN v.toNat pre.length) pre.length : Nat) : Int)
  unfold sqStep
  rw [if_pos (by omega)]
  unfold mulZ
  rw [Int.toNat_natCast, Int.toNat_natCast, show (2147483648 : Int) = ((2147483648 : Nat) : Int) from rfl, bx_nat]
theorem sq_not {v k c : Int} {pre : List Int} (hv : 0 ≤ v) (hk : k = 0 + (pre.length : Int)) (hi : c = ((sqN v.toNat pre.length : Nat) : Int)) (h : (v.fdiv (2 ^ k.toNat)).fmod 2 ≠ 1) :
    mulZ (mulZ c) = ((sqN v.toNat (pre ++ [k]).length : Nat) : Int) := by
  subst hi
  have hk' : k.toNat = pre.length := by omega
  rw [bit_nat hv (by omega), hk'] at h
  rw [List.length_append]
  show _ = ((sqStep v.toNat (sqN v.toNat pre.length) pre.length : Nat) : Int)
  unfold sqStep
  rw [if_neg (by omega)]
  unfold mulZ
  rw [Int.toNat_natCast, Int.toNat_natCast]
theorem sq_end {c v : Int} (h : c = ((sqN v.toNat (PySem.W.rangeKs 0 (32 - 0 : Int).toNat).length : Nat) : Int)) : c = sqZ v := h
end
section
open PySem PyProof.Rows PySem.W
def sumStep (st c : Nat) : Nat := iterN mulN 8 (st ^^^ c)
def sumL (l : List Int) : Nat := l.foldl (fun st c => sumStep st c.toNat) 4294967295
def sumZ (x : Str) : Int := ((sumL (KStt.codes x) ^^^ 4294967295 : Nat) : Int)
theorem sum_start : (4294967295 : Int) = ((sumL [] : Nat) : Int) := rfl
theorem sum_nn {c : Int} {pre : List Int} (hi : c = ((sumL pre : Nat) : Int)) (n : Nat) : 0 ≤ Builtin.bitXor c (n : Int) := by
  rw [hi, bx_nat]; exact Int.natCast_nonneg _
theorem sum_turn {c : Int} {n : Nat} {pre : List Int} (hi : c = ((sumL pre : Nat) : Int)) : genZ (Builtin.bitXor c (n : Int)) = ((sumL (pre ++ [(n : Int)]) : Nat) : Int) := by
  rw [hi, bx_nat]
  unfold genZ sumL
  rw [List.foldl_append, Int.toNat_natCast]
  rfl
theorem sum_end {c : Int} {x : Str} (h : c = ((sumL (KStt.codes x) : Nat) : Int)) : Builtin.bitXor c 4294967295 = sumZ x := by
  rw [h, show (4294967295 : Int) = ((4294967295 : Nat) : Int) from rfl, bx_nat]
  rfl
end
section
open PySem PyProof.Rows PySem.W
def tabAt (ns : List Int) (i : Nat) : Bool := decide (ns.length ≤ i) || decide ((ns.getD i 0).fmod 3 ≠ 0)
def flipAt (f : Nat) (i : Nat) : Bool := decide (f / 2 ^ (39 - i) % 2 = 1)
def whiteC (ns : List Int) (f i : Nat) : Nat := if (tabAt ns i ^^ flipAt f i) then 9 else 13
def whiteL (ns : List Int) (f : Nat) : Nat → List Nat
  | 0 => []
  | k + 1 => whiteL ns f k ++ [whiteC ns f k]
def whiteS (ns : List Int) (f : Nat) (k : Nat) : Str := ⟨(whiteL ns f k).toArray⟩
theorem whiteL_length (ns : List Int) (f : Nat) : ∀ k, (whiteL ns f k).length = k
  | 0 => rfl
  | k + 1 => by rw [whiteL, List.length_append, whiteL_length ns f k]; rfl
theorem white_start (ns : List Int) (f : Nat) : Str.ofString "" = whiteS ns f ([] : List Int).length ∧ (Str.ofString "").length = ([] : List Int).length := ⟨rfl, rfl⟩
def whiteT (b : Bool) : Str := if b then Str.ofString "\t" else Str.ofString "\r"
theorem white_turn {ns : List Int} {f : Nat} {pre : List Int} {k : Int} {row : Str} {b : Bool} (hi : row = whiteS ns f pre.length ∧ row.length = pre.length) (hb : (tabAt ns pre.length ^^ flipAt f pre.length) = b) :
    row ++ whiteT b = whiteS ns f (pre ++ [k]).length ∧ (row ++ whiteT b).length = (pre ++ [k]).length := by
  obtain ⟨h1, h2⟩ := hi
  have e : row ++ whiteT b = whiteS ns f (pre ++ [k]).length := by
    rw [h1, List.length_append]
    refine PySem.Str.ext' (Array.toList_inj.mp ?_)
    rw [PySem.Str.cps_append, Array.toList_append]
    show whiteL ns f pre.length ++ (whiteT b).cps.toList = whiteL ns f pre.length ++ [whiteC ns f pre.length]
    congr 1
    unfold whiteC
    rw [hb]
    cases b <;> decide
  refine ⟨e, ?_⟩
  rw [e]
  show (whiteL ns f (pre ++ [k]).length).toArray.size = _
  rw [List.size_toArray, whiteL_length]
section
variable {ns : List Int} {f : Int} {pre : List Int} {k : Int} {row : Str}
theorem flip_t (hf : 0 ≤ f) (hk : k = 0 + (pre.length : Int)) (hl : pre.length < (40 - 0 : Int).toNat) (h : (f.fdiv (2 ^ (39 - k).toNat)).fmod 2 = 1) : flipAt f.toNat pre.length = true := by
  rw [bit_nat hf (by omega)] at h
  have e : (39 - k).toNat = 39 - pre.length := by omega
  rw [e] at h
  unfold flipAt
  simp only [decide_eq_true_eq]
  omega
theorem flip_f (hf : 0 ≤ f) (hk : k = 0 + (pre.length : Int)) (hl : pre.length < (40 - 0 : Int).toNat) (h : (f.fdiv (2 ^ (39 - k).toNat)).fmod 2 ≠ 1) : flipAt f.toNat pre.length = false := by
  rw [bit_nat hf (by omega)] at h
  have e : (39 - k).toNat = 39 - pre.length := by omega
  rw [e] at h
  unfold flipAt
  simp only [decide_eq_false_iff_not]
  omega
theorem tab_ge (hk : k = 0 + (pre.length : Int)) (h : (ns.length : Int) ≤ k) : tabAt ns pre.length = true := by
  unfold tabAt
  rw [decide_eq_true (by omega)]
  rfl
theorem tab_ne (hk : k = 0 + (pre.length : Int)) (h : ¬ (ns.length : Int) ≤ k) (hm : (ns.getD k.toNat 0).fmod 3 ≠ 0) : tabAt ns pre.length = true := by
  have e : k.toNat = pre.length := by omega
  rw [e] at hm
  unfold tabAt
  rw [decide_eq_true hm, Bool.or_true]
theorem tab_eq (hk : k = 0 + (pre.length : Int)) (h : ¬ (ns.length : Int) ≤ k) (hm : (ns.getD k.toNat 0).fmod 3 = 0) : tabAt ns pre.length = false := by
  have e : k.toNat = pre.length := by omega
  rw [e] at hm
  unfold tabAt
  rw [hm]
  simp only [ne_eq, not_true_eq_false, decide_false, Bool.or_false, decide_eq_false_iff_not]
  omega
theorem white_cr {b : Bool} (hi : row = whiteS ns f.toNat pre.length ∧ row.length = pre.length) (ht : tabAt ns pre.length = b) (hf : flipAt f.toNat pre.length = b) :
    row ++ Str.ofString "\r" = whiteS ns f.toNat (pre ++ [k]).length ∧ (row ++ Str.ofString "\r").length = (pre ++ [k]).length :=
  white_turn (b := false) hi (by rw [ht, hf]; cases b <;> rfl)
theorem white_tab {b : Bool} (hi : row = whiteS ns f.toNat pre.length ∧ row.length = pre.length) (ht : tabAt ns pre.length = b) (hf : flipAt f.toNat pre.length = !b) :
    row ++ Str.ofString "\t" = whiteS ns f.toNat (pre ++ [k]).length ∧ (row ++ Str.ofString "\t").length = (pre ++ [k]).length :=
  white_turn (b := true) hi (by rw [ht, hf]; cases b <;> rfl)
end
theorem white_end {c : Str} {ns : List Int} {f : Nat} (h : c = whiteS ns f (rangeKs 0 (40 - 0 : Int).toNat).length) : c = whiteS ns f 40 := h
def Bnd (m f : Int) : Prop := (0 ≤ m ∧ m < 256) ∧ (0 ≤ f ∧ f < 4294967296)
theorem bnd_start : Bnd 0 0 := by unfold Bnd; omega
theorem xor_lt {a b n : Nat} (ha : a < 2 ^ n) (hb : b < 2 ^ n) : a ^^^ b < 2 ^ n := Nat.xor_lt_two_pow ha hb
theorem bx_bnd {x : Int} {k : Int} {n : Nat} (h0 : 0 ≤ x) (h1 : x < ((2 ^ n : Nat) : Int)) (k0 : 0 ≤ k) (k1 : k < (n : Int)) :
    0 ≤ Builtin.bitXor x (2 ^ k.toNat) ∧ Builtin.bitXor x (2 ^ k.toNat) < ((2 ^ n : Nat) : Int) := by
  obtain ⟨a, rfl⟩ := Int.eq_ofNat_of_zero_le h0
  have e : (2 : Int) ^ k.toNat = ((2 ^ k.toNat : Nat) : Int) := by simp
  rw [e, bx_nat]
  have hk : 2 ^ k.toNat < 2 ^ n := Nat.pow_lt_pow_right (by decide) (by omega)
  have ha : a < 2 ^ n := by omega
  have := xor_lt ha hk
  omega
theorem bnd_turn {m f n : Int} (h : Bnd m f) : Bnd (Builtin.bitXor m (2 ^ (n.fmod 8).toNat)) (Builtin.bitXor f (2 ^ ((n.fdiv 8).fmod 32).toNat)) := by
  obtain ⟨⟨a, b⟩, c, d⟩ := h
  have m0 : 0 ≤ n.fmod 8 := Int.fmod_nonneg_of_pos _ (by decide)
  have m1 : n.fmod 8 < 8 := Int.fmod_lt_of_pos _ (by decide)
  have m2 : 0 ≤ (n.fdiv 8).fmod 32 := Int.fmod_nonneg_of_pos _ (by decide)
  have m3 : (n.fdiv 8).fmod 32 < 32 := Int.fmod_lt_of_pos _ (by decide)
  exact ⟨bx_bnd (n := 8) a b m0 m1, bx_bnd (n := 32) c d m2 m3⟩
theorem with_bnd {P : Prop} {m f : Int} (h0 : Bnd m f) (h : ∀ m' f', m' = m → f' = f → P) : P := h m f rfl rfl
def flipN (many few : Nat) : Nat → Nat
  | 0 => few
  | k + 1 => if many / 2 ^ k % 2 = 1 then flipN many few k ^^^ (4374732215 * 2 ^ k) else flipN many few k
def flipZ (many few : Int) (k : Nat) : Int := ((flipN many.toNat few.toNat k : Nat) : Int)
theorem flipZ_nn (many few : Int) (k : Nat) : 0 ≤ flipZ many few k := Int.natCast_nonneg _
theorem flip_start {many few : Int} (h : Bnd many few) : few = flipZ many few ([] : List Int).length := by
  obtain ⟨_, h0, _⟩ := h
  show few = ((few.toNat : Nat) : Int)
  omega
theorem flip_set {many few c k : Int} {pre : List Int} (h : Bnd many few) (hk : k = 0 + (pre.length : Int)) (hi : c = flipZ many few pre.length) (hb : (many.fdiv (2 ^ k.toNat)).fmod 2 = 1) :
    Builtin.bitXor c (4374732215 * 2 ^ k.toNat) = flipZ many few (pre ++ [k]).length := by
  obtain ⟨⟨m0, _⟩, f0, _⟩ := h
  have hk' : k.toNat = pre.length := by omega
  rw [bit_nat m0 (by omega), hk'] at hb
  have e : (4374732215 : Int) * 2 ^ k.toNat = ((4374732215 * 2 ^ pre.length : Nat) : Int) := by rw [hk']; simp
  rw [e, hi, List.length_append]
  show Builtin.bitXor ((_ : Nat) : Int) _ = ((flipN many.toNat few.toNat (pre.length + 1) : Nat) : Int)
  rw [bx_nat, flipN, if_pos (by omega)]
theorem flip_not {many few c k : Int} {pre : List Int} (h : Bnd many few) (hk : k = 0 + (pre.length : Int)) (hi : c = flipZ many few pre.length) (hb : (many.fdiv (2 ^ k.toNat)).fmod 2 ≠ 1) :
    c = flipZ many few (pre ++ [k]).length := by
  obtain ⟨⟨m0, _⟩, f0, _⟩ := h
  have hk' : k.toNat = pre.length := by omega
  rw [bit_nat m0 (by omega), hk'] at hb
  rw [hi, List.length_append]
  show _ = ((flipN many.toNat few.toNat (pre.length + 1) : Nat) : Int)
  rw [flipN, if_neg (by omega)]
  rfl
def Letters (x : Str) : Prop := x.length ≤ 24 ∧ ∀ c ∈ x.cps.toList, 97 ≤ c ∧ c ≤ 122
def letterOf (n : Int) : Str := ⟨#[(97 + n.fmod 26).toNat]⟩
theorem letters_nil : Letters Str.empty := ⟨by decide, fun c hc => by cases hc⟩
theorem joinL_nil : ∀ l : List Str, (Str.join (Str.ofString "") l).cps.toList = (l.map fun x => x.cps.toList).flatten
  | [] => rfl
  | [x] => by show x.cps.toList = _; simp
  | x :: y :: r => by
    have ih := joinL_nil (y :: r)
    show (x ++ Str.ofString "" ++ Str.join (Str.ofString "") (y :: r)).cps.toList = _
    rw [Str.cps_append, Str.cps_append, Array.toList_append, Array.toList_append, ih, show (Str.ofString "").cps.toList = [] from by decide]
    simp
theorem letters_of (ns : List Int) (h : ns.length ≤ 24) : Letters (Txt.join (Str.ofString "") (ns.map letterOf)) := by
  have e : (Txt.join (Str.ofString "") (ns.map letterOf)).cps.toList = ns.map fun n => (97 + n.fmod 26).toNat := by
    show (Builtin.Str.glued (Str.ofString "") (ns.map letterOf)).cps.toList = _
    rw [StrLaws.glued_eq_join, joinL_nil, List.map_map]
    induction ns with
    | nil => rfl
    | cons n r ih => rw [List.map_cons, List.flatten_cons, ih (by simp only [List.length_cons] at h; omega)]; rfl
  refine ⟨?_, ?_⟩
  · show (Txt.join (Str.ofString "") (ns.map letterOf)).cps.size ≤ 24
    rw [← Array.length_toList, e, List.length_map]
    exact h
  · intro c hc
    rw [e] at hc
    obtain ⟨n, _, rfl⟩ := List.mem_map.1 hc
    have m0 : 0 ≤ n.fmod 26 := Int.fmod_nonneg_of_pos _ (by decide)
    have m1 : n.fmod 26 < 26 := Int.fmod_lt_of_pos _ (by decide)
    omega
end
section
open PySem PyProof.Rows PySem.W PySem.Builtin.Str
theorem app_toList (x y : Str) : (x ++ y).cps.toList = x.cps.toList ++ y.cps.toList := by rw [Str.cps_append, Array.toList_append]
theorem str_ext {x y : Str} (h : x.cps.toList = y.cps.toList) : x = y := Str.ext' (Array.toList_inj.mp h)
theorem len_list (x : Str) : x.length = x.cps.toList.length := Array.length_toList.symm
/-! split and join -/
theorem sep_inj {c : Nat} : ∀ (x y A B : List Nat), c ∉ x → c ∉ y → x ++ c :: A = y ++ c :: B → x = y ∧ A = B
  | [], [], A, B, _, _, h => ⟨rfl, (List.cons.inj h).2⟩
  | [], b :: y, A, B, _, hy, h => absurd (List.mem_cons.mpr (Or.inl (List.cons.inj h).1)) hy
  | a :: x, [], A, B, hx, _, h => absurd (List.mem_cons.mpr (Or.inl (List.cons.inj h).1.symm)) hx
  | a :: x, b :: y, A, B, hx, hy, h => by
    obtain ⟨h1, h2⟩ := List.cons.inj h
    obtain ⟨e1, e2⟩ := sep_inj x y A B (fun m => hx (List.mem_cons_of_mem _ m)) (fun m => hy (List.mem_cons_of_mem _ m)) h2
    exact ⟨by rw [h1, e1], e2⟩
theorem join_list2 (c : Nat) (x y : Str) (r : List Str) : (Str.join ⟨#[c]⟩ (x :: y :: r)).cps.toList = x.cps.toList ++ c :: (Str.join ⟨#[c]⟩ (y :: r)).cps.toList := by
  show (x ++ (⟨#[c]⟩ : Str) ++ Str.join ⟨#[c]⟩ (y :: r)).cps.toList = _
  rw [app_toList, app_toList, List.append_assoc]
  rfl
theorem join_inj (c : Nat) : ∀ zs ws : List Str, zs ≠ [] → ws ≠ [] → (∀ z ∈ zs, c ∉ z.cps.toList) → (∀ z ∈ ws, c ∉ z.cps.toList) → Str.join ⟨#[c]⟩ zs = Str.join ⟨#[c]⟩ ws → zs = ws
  | [], _, h, _, _, _, _ => absurd rfl h
  | _, [], _, h, _, _, _ => absurd rfl h
  | [x], [y], _, _, _, _, h => by
    have e : x = y := h
    rw [e]
  | [x], y :: y2 :: s, _, _, hz, _, h => by
    exfalso
    have e : x.cps.toList = y.cps.toList ++ c :: (Str.join ⟨#[c]⟩ (y2 :: s)).cps.toList := by rw [← join_list2, ← h]; rfl
    exact hz x (List.mem_singleton.mpr rfl) (by rw [e]; simp)
  | x :: x2 :: r, [y], _, _, _, hw, h => by
    exfalso
    have e : y.cps.toList = x.cps.toList ++ c :: (Str.join ⟨#[c]⟩ (x2 :: r)).cps.toList := by rw [← join_list2, h]; rfl
    exact hw y (List.mem_singleton.mpr rfl) (by rw [e]; simp)
  | x :: x2 :: r, y :: y2 :: s, _, _, hz, hw, h => by
    have e := congrArg (fun z : Str => z.cps.toList) h
    simp only [join_list2] at e
    obtain ⟨e1, e2⟩ := sep_inj _ _ _ _ (hz x (.head _)) (hw y (.head _)) e
    have ih := join_inj c (x2 :: r) (y2 :: s) (by simp) (by simp) (fun z m => hz z (.tail _ m)) (fun z m => hw z (.tail _ m)) (str_ext e2)
    rw [str_ext e1, ih]
theorem split_join (c : Nat) (zs : List Str) (hne : zs ≠ []) (hf : ∀ z ∈ zs, c ∉ z.cps.toList) (x : Str) (hx : x.cps.toList = (Str.join ⟨#[c]⟩ zs).cps.toList) : Txt.split x ⟨#[c]⟩ = zs := by
  refine join_inj c _ _ ?_ hne (StrLaws.split_free x c) hf ?_
  · intro e
    have := split_pos x ⟨#[c]⟩
    rw [e] at this
    simp at this
  · rw [StrLaws.join_split]
    exact str_ext hx
/-! strip -/
theorem stripBy_eq (goes : Nat → Bool) (l r : Bool) (x : Str) : Txt.stripBy goes l r x = strSub x (stripLo goes l x) (stripHi goes r x (stripLo goes l x)) := by
  unfold Txt.stripBy
  split
  · rename_i h
    unfold stripSame at h
    rw [Bool.and_eq_true, beq_iff_eq, beq_iff_eq] at h
    rw [h.2, h.1, StrLaws.sub_whole]
  · rfl
theorem takeWhile_pre (p : Nat → Bool) (pre : List Nat) (k : Nat) (r : List Nat) (h : ∀ c ∈ pre, p c = true) (hk : p k = false) : (pre ++ k :: r).takeWhile p = pre := by
  rw [List.takeWhile_append_of_pos h, List.takeWhile_cons_of_neg (by rw [hk]; decide), List.append_nil]
theorem strip_core {x : Str} {pre K post : List Nat} {k0 kl : Nat} {K1 K2 : List Nat} (hx : x.cps.toList = pre ++ K ++ post) (h1 : K = k0 :: K1) (h2 : K = K2 ++ [kl]) (hp : ∀ c ∈ pre, Unicode.isSpace c = true) (hq : ∀ c ∈ post, Unicode.isSpace c = true)
    (n0 : Unicode.isSpace k0 = false) (nl : Unicode.isSpace kl = false) : (Txt.strip x).cps.toList = K := by
  unfold Txt.strip
  rw [stripBy_eq, StrLaws.strSub_toList]
  have e1 : stripLo Unicode.isSpace true x = pre.length := by
    unfold stripLo
    rw [if_pos rfl, hx, h1, List.append_assoc, List.cons_append, takeWhile_pre _ _ _ _ hp n0]
  have e2 : stripHi Unicode.isSpace true x pre.length = pre.length + K.length := by
    unfold stripHi
    rw [if_pos rfl, hx, List.append_assoc, List.drop_left, h2, List.reverse_append, List.reverse_append]
    show x.length - ((post.reverse ++ ([kl] ++ K2.reverse)).takeWhile _).length = _
    rw [List.singleton_append, takeWhile_pre _ _ _ _ (fun c hc => hq c (List.mem_reverse.mp hc)) nl, len_list, hx, h2]
    simp only [List.length_append, List.length_reverse, List.length_cons, List.length_nil]
    omega
  rw [e1, e2, hx, List.append_assoc, List.drop_left, show pre.length + K.length - pre.length = K.length from by omega, List.take_left]
theorem rstrip_none {x : Str} (h : ∀ c ∈ x.cps.toList, Unicode.isSpace c = true) : Txt.rstrip x = Str.ofString "" := by
  refine str_ext ?_
  unfold Txt.rstrip
  rw [stripBy_eq, StrLaws.strSub_toList]
  have e1 : stripLo Unicode.isSpace false x = 0 := rfl
  have e2 : stripHi Unicode.isSpace true x 0 = 0 := by
    unfold stripHi
    rw [if_pos rfl, List.drop_zero]
    have : x.cps.toList.reverse.takeWhile Unicode.isSpace = x.cps.toList.reverse := by
      have e := List.takeWhile_append_of_pos (p := Unicode.isSpace) (l₁ := x.cps.toList.reverse) (l₂ := []) (fun c hc => h c (List.mem_reverse.mp hc))
      rw [List.append_nil] at e
      rw [e]; simp
    rw [this, List.length_reverse, len_list]
    omega
  rw [e1, e2]
  rfl
theorem sp9 : Unicode.isSpace 9 = true := by decide +kernel
theorem sp10 : Unicode.isSpace 10 = true := by decide +kernel
theorem sp13 : Unicode.isSpace 13 = true := by decide +kernel
theorem sp32 : Unicode.isSpace 32 = true := by decide +kernel
theorem spAll : ∀ c, c < 123 → 97 ≤ c → Unicode.isSpace c = false := by decide +kernel
end
section
open PySem PyProof.Rows PySem.W
def White (x : Str) : Prop := x.length = 40 ∧ ∀ c ∈ x.cps.toList, c = 9 ∨ c = 13
theorem whiteS_white (ns : List Int) (f : Nat) : White (whiteS ns f 40) := by
  refine ⟨?_, ?_⟩
  · show (whiteL ns f 40).toArray.size = 40
    rw [List.size_toArray, whiteL_length]
  · intro c hc
    have hc' : c ∈ whiteL ns f 40 := hc
    have key : ∀ k, ∀ c ∈ whiteL ns f k, c = 9 ∨ c = 13 := by
      intro k
      induction k with
      | zero => intro c hc; cases hc
      | succ k ih =>
        intro c hc
        rw [whiteL, List.mem_append] at hc
        rcases hc with hc | hc
        · exact ih c hc
        · rw [List.mem_singleton.mp hc]
          unfold whiteC
          split
          · exact Or.inl rfl
          · exact Or.inr rfl
    exact key 40 c hc'
theorem whiteS_length (ns : List Int) (f : Nat) : (whiteS ns f 40).length = 40 := (whiteS_white ns f).1
theorem len_apage : (Str.ofString "a page").length = 6 := by decide
theorem len_zip : (Str.ofString "zip").length = 3 := by decide
theorem len_of : (Str.ofString " of\n\t\n").length = 6 := by decide
theorem len_nt : (Str.ofString "\n\t").length = 2 := by decide
theorem len_n : (Str.ofString "\n").length = 1 := by decide
theorem len_sn : (Str.ofString " \n").length = 2 := by decide
theorem len_nn : (Str.ofString "\n\n").length = 2 := by decide
theorem len_o : (Str.ofString " of").length = 3 := by decide
theorem len_t : (Str.ofString "\t").length = 1 := by decide
theorem len_e : (Str.ofString "").length = 0 := by decide
theorem li_apage : (Str.ofString "a page").cps.toList = [97, 32, 112, 97, 103, 101] := by decide +kernel
theorem li_zip : (Str.ofString "zip").cps.toList = [122, 105, 112] := by decide +kernel
theorem li_of : (Str.ofString " of\n\t\n").cps.toList = [32, 111, 102, 10, 9, 10] := by decide +kernel
theorem li_o : (Str.ofString " of").cps.toList = [32, 111, 102] := by decide +kernel
theorem li_t : (Str.ofString "\t").cps.toList = [9] := by decide +kernel
theorem li_nt : (Str.ofString "\n\t").cps.toList = [10, 9] := by decide +kernel
theorem li_n : (Str.ofString "\n").cps.toList = [10] := by decide +kernel
theorem li_nn : (Str.ofString "\n\n").cps.toList = [10, 10] := by decide +kernel
theorem li_sn : (Str.ofString " \n").cps.toList = [32, 10] := by decide +kernel
theorem li_e : (Str.ofString "").cps.toList = [] := by decide +kernel
theorem nl_is : Str.ofString "\n" = (⟨#[10]⟩ : Str) := str_ext (by rw [li_n])
theorem join_list1 (c : Nat) (x : Str) : (Str.join ⟨#[c]⟩ [x]).cps.toList = x.cps.toList := rfl
section
variable {l wh : Str}
theorem strip_page {x core : Str} {pre mid post : List Nat} (hx : x.cps.toList = pre ++ core.cps.toList ++ post) (hc : core.cps.toList = [97, 32, 112, 97, 103, 101] ++ mid ++ [122, 105, 112]) (hp : ∀ c ∈ pre, Unicode.isSpace c = true) (hq : ∀ c ∈ post, Unicode.isSpace c = true) : Txt.strip x = core :=
  str_ext (strip_core (k0 := 97) (kl := 112) (K1 := [32, 112, 97, 103, 101] ++ mid ++ [122, 105, 112]) (K2 := [97, 32, 112, 97, 103, 101] ++ mid ++ [122, 105]) hx (by rw [hc]; simp) (by rw [hc]; simp) hp hq (spAll 97 (by decide) (by decide)) (spAll 112 (by decide) (by decide)))
theorem sp_pre : ∀ c ∈ [10, 9], Unicode.isSpace c = true := by
  intro c hc
  simp only [List.mem_cons, List.not_mem_nil, or_false] at hc
  rcases hc with rfl | rfl
  · exact sp10
  · exact sp9
theorem sp_post : ∀ c ∈ [32, 10], Unicode.isSpace c = true := by
  intro c hc
  simp only [List.mem_cons, List.not_mem_nil, or_false] at hc
  rcases hc with rfl | rfl
  · exact sp32
  · exact sp10
theorem sp_nil : ∀ c ∈ ([] : List Nat), Unicode.isSpace c = true := fun _ h => nomatch h
theorem letters_free (hL : Letters l) : 10 ∉ l.cps.toList := fun h => by have := hL.2 10 h; omega
theorem first_free (hL : Letters l) : 10 ∉ (Str.ofString "a page" ++ l).cps.toList := by
  rw [app_toList, li_apage]
  intro h
  rcases List.mem_append.mp h with h | h
  · revert h; decide
  · exact letters_free hL h
theorem last_free (hL : Letters l) : 10 ∉ (l ++ Str.ofString "zip").cps.toList := by
  rw [app_toList, li_zip]
  intro h
  rcases List.mem_append.mp h with h | h
  · exact letters_free hL h
  · revert h; decide
theorem white_free (hw : White wh) : 10 ∉ wh.cps.toList := fun h => by have := hw.2 10 h; omega
theorem of_free : 10 ∉ (Str.ofString " of").cps.toList := by rw [li_o]; decide
theorem t_free : 10 ∉ (Str.ofString "\t").cps.toList := by rw [li_t]; decide
theorem e_free : 10 ∉ (Str.ofString "").cps.toList := by rw [li_e]; decide
theorem page_strip (hL : Letters l) (hw : White wh) :
    Txt.strip (Str.ofString "\n\t" ++ (Str.ofString "a page" ++ l) ++ Str.ofString "\n" ++ wh ++ Str.ofString "\n" ++ (Str.ofString " of\n\t\n" ++ (l ++ Str.ofString "zip")) ++ Str.ofString " \n")
      = (Str.ofString "a page" ++ l) ++ Str.ofString "\n" ++ wh ++ Str.ofString "\n" ++ (Str.ofString " of\n\t\n" ++ (l ++ Str.ofString "zip")) := by
  refine strip_page (pre := [10, 9]) (mid := l.cps.toList ++ [10] ++ wh.cps.toList ++ [10] ++ [32, 111, 102, 10, 9, 10] ++ l.cps.toList) (post := [32, 10]) ?_ ?_ sp_pre sp_post
  · simp only [app_toList, li_nt, li_apage, li_n, li_of, li_zip, li_sn, List.append_assoc]
  · simp only [app_toList, li_nt, li_apage, li_n, li_of, li_zip, li_sn, List.append_assoc]
theorem page_split (hL : Letters l) (hw : White wh) :
    Txt.split ((Str.ofString "a page" ++ l) ++ Str.ofString "\n" ++ wh ++ Str.ofString "\n" ++ (Str.ofString " of\n\t\n" ++ (l ++ Str.ofString "zip"))) (Str.ofString "\n")
      = [Str.ofString "a page" ++ l, wh, Str.ofString " of", Str.ofString "\t", l ++ Str.ofString "zip"] := by
  have e := split_join 10 [Str.ofString "a page" ++ l, wh, Str.ofString " of", Str.ofString "\t", l ++ Str.ofString "zip"] (by simp)
    (by
      intro z hz
      simp only [List.mem_cons, List.not_mem_nil, or_false] at hz
      rcases hz with rfl | rfl | rfl | rfl | rfl
      · exact first_free hL
      · exact white_free hw
      · exact of_free
      · exact t_free
      · exact last_free hL)
    ((Str.ofString "a page" ++ l) ++ Str.ofString "\n" ++ wh ++ Str.ofString "\n" ++ (Str.ofString " of\n\t\n" ++ (l ++ Str.ofString "zip")))
    (by
      simp only [join_list2, join_list1, app_toList, li_apage, li_n, li_of, li_o, li_t, li_zip, List.append_assoc, List.cons_append, List.nil_append])
  rw [← nl_is] at e
  exact e
theorem white_rstrip (hw : White wh) : Txt.rstrip wh = Str.ofString "" := rstrip_none fun c hc => by
  rcases hw.2 c hc with rfl | rfl
  · exact sp9
  · exact sp13
theorem rest_join : Txt.join (Str.ofString "\n") [Str.ofString " of", Str.ofString "\t", l ++ Str.ofString "zip"] = Str.ofString " of\n\t\n" ++ (l ++ Str.ofString "zip") := by
  refine str_ext ?_
  show (Builtin.Str.glued (Str.ofString "\n") _).cps.toList = _
  rw [StrLaws.glued_eq_join, nl_is]
  simp only [join_list2, join_list1, app_toList, li_of, li_o, li_t, li_zip, List.append_assoc, List.cons_append, List.nil_append]
theorem empty_strip (hL : Letters l) :
    Txt.strip ((Str.ofString "a page" ++ l) ++ Str.ofString "\n\n" ++ (Str.ofString " of\n\t\n" ++ (l ++ Str.ofString "zip")))
      = (Str.ofString "a page" ++ l) ++ Str.ofString "\n\n" ++ (Str.ofString " of\n\t\n" ++ (l ++ Str.ofString "zip")) := by
  refine strip_page (pre := []) (mid := l.cps.toList ++ [10, 10] ++ [32, 111, 102, 10, 9, 10] ++ l.cps.toList) (post := []) ?_ ?_ sp_nil sp_nil
  · simp only [List.nil_append, List.append_nil]
  · simp only [app_toList, li_nn, li_apage, li_n, li_of, li_zip, li_sn, List.append_assoc]
theorem empty_split (hL : Letters l) :
    Txt.split ((Str.ofString "a page" ++ l) ++ Str.ofString "\n\n" ++ (Str.ofString " of\n\t\n" ++ (l ++ Str.ofString "zip"))) (Str.ofString "\n")
      = [Str.ofString "a page" ++ l, Str.ofString "", Str.ofString " of", Str.ofString "\t", l ++ Str.ofString "zip"] := by
  have e := split_join 10 [Str.ofString "a page" ++ l, Str.ofString "", Str.ofString " of", Str.ofString "\t", l ++ Str.ofString "zip"] (by simp)
    (by
      intro z hz
      simp only [List.mem_cons, List.not_mem_nil, or_false] at hz
      rcases hz with rfl | rfl | rfl | rfl | rfl
      · exact first_free hL
      · exact e_free
      · exact of_free
      · exact t_free
      · exact last_free hL)
    ((Str.ofString "a page" ++ l) ++ Str.ofString "\n\n" ++ (Str.ofString " of\n\t\n" ++ (l ++ Str.ofString "zip")))
    (by
      simp only [join_list2, join_list1, app_toList, li_apage, li_n, li_nn, li_e, li_of, li_o, li_t, li_zip, List.append_assoc, List.cons_append, List.nil_append])
  rw [← nl_is] at e
  exact e
theorem empty_rstrip : Txt.rstrip (Str.ofString "") = Str.ofString "" := rstrip_none fun c hc => by rw [li_e] at hc; cases hc
theorem bare_strip (hL : Letters l) :
    Txt.strip ((Str.ofString "a page" ++ l) ++ Str.ofString "\n" ++ (Str.ofString " of\n\t\n" ++ (l ++ Str.ofString "zip")))
      = (Str.ofString "a page" ++ l) ++ Str.ofString "\n" ++ (Str.ofString " of\n\t\n" ++ (l ++ Str.ofString "zip")) := by
  refine strip_page (pre := []) (mid := l.cps.toList ++ [10] ++ [32, 111, 102, 10, 9, 10] ++ l.cps.toList) (post := []) ?_ ?_ sp_nil sp_nil
  · simp only [List.nil_append, List.append_nil]
  · simp only [app_toList, li_nn, li_apage, li_n, li_of, li_zip, li_sn, List.append_assoc]
theorem bare_split (hL : Letters l) :
    Txt.split ((Str.ofString "a page" ++ l) ++ Str.ofString "\n" ++ (Str.ofString " of\n\t\n" ++ (l ++ Str.ofString "zip"))) (Str.ofString "\n")
      = [Str.ofString "a page" ++ l, Str.ofString " of", Str.ofString "\t", l ++ Str.ofString "zip"] := by
  have e := split_join 10 [Str.ofString "a page" ++ l, Str.ofString " of", Str.ofString "\t", l ++ Str.ofString "zip"] (by simp)
    (by
      intro z hz
      simp only [List.mem_cons, List.not_mem_nil, or_false] at hz
      rcases hz with rfl | rfl | rfl | rfl
      · exact first_free hL
      · exact of_free
      · exact t_free
      · exact last_free hL)
    ((Str.ofString "a page" ++ l) ++ Str.ofString "\n" ++ (Str.ofString " of\n\t\n" ++ (l ++ Str.ofString "zip")))
    (by
      simp only [join_list2, join_list1, app_toList, li_apage, li_n, li_nn, li_e, li_of, li_o, li_t, li_zip, List.append_assoc, List.cons_append, List.nil_append])
  rw [← nl_is] at e
  exact e
theorem of_rstrip : Txt.rstrip (Str.ofString " of") = Str.ofString " of" := by decide +kernel
theorem bare_join : Txt.join (Str.ofString "\n") [Str.ofString "a page" ++ l, Str.ofString " of", Str.ofString "\t", l ++ Str.ofString "zip"] = (Str.ofString "a page" ++ l) ++ Str.ofString "\n" ++ (Str.ofString " of\n\t\n" ++ (l ++ Str.ofString "zip")) := by
  refine str_ext ?_
  show (Builtin.Str.glued (Str.ofString "\n") _).cps.toList = _
  rw [StrLaws.glued_eq_join]
  have e : Str.join (Str.ofString "\n") [Str.ofString "a page" ++ l, Str.ofString " of", Str.ofString "\t", l ++ Str.ofString "zip"] = Str.join ⟨#[10]⟩ [Str.ofString "a page" ++ l, Str.ofString " of", Str.ofString "\t", l ++ Str.ofString "zip"] := by rw [nl_is]
  rw [e]
  simp only [join_list2, join_list1, app_toList, li_apage, li_n, li_of, li_o, li_t, li_zip, List.append_assoc, List.cons_append, List.nil_append]
theorem last_strip (hL : Letters l) : Txt.strip (l ++ Str.ofString "zip") = l ++ Str.ofString "zip" := by
  refine str_ext ?_
  have n0 : ∀ c, c = 122 ∨ c ∈ l.cps.toList → Unicode.isSpace c = false := by
    intro c hc
    rcases hc with rfl | hc
    · exact spAll 122 (by decide) (by decide)
    · have := hL.2 c hc
      exact spAll c (by omega) (by omega)
  have e : (l ++ Str.ofString "zip").cps.toList = l.cps.toList ++ [122, 105, 112] := by rw [app_toList, li_zip]
  cases h : l.cps.toList with
  | nil =>
    refine strip_core (pre := []) (post := []) (k0 := 122) (kl := 112) (K1 := [105, 112]) (K2 := [122, 105]) (by simp) ?_ ?_ sp_nil sp_nil (n0 _ (Or.inl rfl)) (spAll 112 (by decide) (by decide))
    · rw [e, h]; rfl
    · rw [e, h]; rfl
  | cons k r =>
    refine strip_core (pre := []) (post := []) (k0 := k) (kl := 112) (K1 := r ++ [122, 105, 112]) (K2 := k :: r ++ [122, 105]) (by simp) ?_ ?_ sp_nil sp_nil (n0 _ (Or.inr (by rw [h]; exact .head _))) (spAll 112 (by decide) (by decide))
    · rw [e, h]; rfl
    · rw [e, h]; simp
theorem last_split (hL : Letters l) : Txt.split (l ++ Str.ofString "zip") (Str.ofString "\n") = [l ++ Str.ofString "zip"] := by
  have e := split_join 10 [l ++ Str.ofString "zip"] (by simp) (by
      intro z hz
      rw [List.mem_singleton.mp hz]
      exact last_free hL) (l ++ Str.ofString "zip") rfl
  rw [← nl_is] at e
  exact e
end
end
section
open PySem PyProof.Rows PySem.W
def revN (f : Nat) : Nat → Nat
  | 0 => 0
  | k + 1 => revN f k * 2 + f / 2 ^ k % 2
theorem rev_start {f : Nat} : (0 : Int) = ((revN f ([] : List Int).length : Nat) : Int) := rfl
theorem rev_turn {m few c k : Int} {pre : List Int} (h : Bnd m few) (hk : k = 0 + (pre.length : Int)) (hi : c = ((revN few.toNat pre.length : Nat) : Int)) :
    c * 2 + (few.fdiv (2 ^ k.toNat)).fmod 2 = ((revN few.toNat (pre ++ [k]).length : Nat) : Int) := by
  obtain ⟨_, f0, _⟩ := h
  have hk' : k.toNat = pre.length := by omega
  rw [bit_nat f0 (by omega), hk', hi, List.length_append]
  show _ = ((revN few.toNat (pre.length + 1) : Nat) : Int)
  rw [revN]
  omega
/-- r three times squared -/
def cubeZ (few : Int) : Int := sqZ (sqZ (sqZ ((revN few.toNat (rangeKs 0 (32 - 0 : Int).toNat).length : Nat) : Int)))
theorem cubeZ_nn (few : Int) : 0 ≤ cubeZ few := sqZ_nn _
theorem told_start (few : Int) : cubeZ few = ((iterN mulN ([] : List Int).length (cubeZ few).toNat : Nat) : Int) := by
  have := cubeZ_nn few
  show _ = (((cubeZ few).toNat : Nat) : Int)
  omega
theorem told_turn {c k : Int} {x : Nat} {pre : List Int} (hi : c = ((iterN mulN pre.length x : Nat) : Int)) : mulZ c = ((iterN mulN (pre ++ [k]).length x : Nat) : Int) := by
  rw [iterN_app, hi]
  rfl
end
section
open PySem PyProof.Rows PySem.W
/-! bits -/
theorem bit_iff (x k : Nat) : x / 2 ^ k % 2 = 1 ↔ x.testBit k = true := by
  rw [Nat.testBit_eq_decide_div_mod_eq, decide_eq_true_eq]
def bitC (x k c : Nat) : Nat := if x / 2 ^ k % 2 = 1 then c else 0
theorem bitC_xor (a b k c : Nat) : bitC (a ^^^ b) k c = bitC a k c ^^^ bitC b k c := by
  unfold bitC
  simp only [bit_iff, Nat.testBit_xor]
  cases a.testBit k <;> cases b.testBit k <;> simp
theorem xor4 (a b c d : Nat) : (a ^^^ b) ^^^ (c ^^^ d) = (a ^^^ c) ^^^ (b ^^^ d) := by
  rw [Nat.xor_assoc, Nat.xor_assoc, ← Nat.xor_assoc b, Nat.xor_comm b c, Nat.xor_assoc c]
theorem if_xor (p : Prop) [Decidable p] (d c : Nat) : (if p then d ^^^ c else d) = d ^^^ (if p then c else 0) := by
  split <;> simp
/-! linear maps -/
def Lin (F : Nat → Nat) : Prop := ∀ a b, F (a ^^^ b) = F a ^^^ F b
theorem Lin.zero {F : Nat → Nat} (h : Lin F) : F 0 = 0 := by
  have := h 0 0
  rw [Nat.xor_self] at this
  rw [this, Nat.xor_self]
theorem Lin.comp {F G : Nat → Nat} (hF : Lin F) (hG : Lin G) : Lin fun x => F (G x) := fun a b => by
  show F (G (a ^^^ b)) = _
  rw [hG, hF]
theorem top_bit {n f : Nat} (h0 : 2 ^ n ≤ f) (h1 : f < 2 ^ (n + 1)) : f ^^^ 2 ^ n = f % 2 ^ n := by
  apply Nat.eq_of_testBit_eq
  intro i
  rw [Nat.testBit_xor, Nat.testBit_mod_two_pow, Nat.testBit_two_pow]
  by_cases hi : i < n
  · have : ¬ n = i := by omega
    simp [hi, this]
  · by_cases he : n = i
    · subst he
      have : f.testBit n = true := by
        rw [Nat.testBit_eq_decide_div_mod_eq]
        have hd : f / 2 ^ n = 1 := by
          have hp : 0 < 2 ^ n := Nat.two_pow_pos n
          rw [Nat.pow_succ] at h1
          exact Nat.div_eq_of_lt_le (by omega) (by omega)
        rw [hd]; rfl
      simp [this]
    · have : f.testBit i = false := Nat.testBit_lt_two_pow (Nat.lt_of_lt_of_le h1 (Nat.pow_le_pow_right (by decide) (by omega)))
      simp [this, hi, he]
theorem Lin.ext {F G : Nat → Nat} (hF : Lin F) (hG : Lin G) : ∀ n, (∀ j, j < n → F (2 ^ j) = G (2 ^ j)) → ∀ f, f < 2 ^ n → F f = G f
  | 0, _, f, h => by
    have : f = 0 := by have : f < 1 := h; omega
    rw [this, hF.zero, hG.zero]
  | n + 1, hb, f, h => by
    by_cases h0 : f < 2 ^ n
    · exact hF.ext hG n (fun j hj => hb j (by omega)) f h0
    · have e := top_bit (by omega) h
      have hl : f ^^^ 2 ^ n < 2 ^ n := by rw [e]; exact Nat.mod_lt _ (Nat.two_pow_pos n)
      have ih := hF.ext hG n (fun j hj => hb j (by omega)) _ hl
      have ef : f = (f ^^^ 2 ^ n) ^^^ 2 ^ n := by rw [Nat.xor_assoc, Nat.xor_self, Nat.xor_zero]
      rw [ef, hF, hG, ih, hb n (by omega)]
/-! the maps of the program -/
theorem mulN_eq (n : Nat) : mulN n = n / 2 ^^^ bitC n 0 3988292384 := by
  unfold mulN bitC
  rw [if_xor, Nat.pow_zero, Nat.div_one]
theorem mulN_lin : Lin mulN := fun a b => by
  rw [mulN_eq, mulN_eq, mulN_eq, bitC_xor, Nat.xor_div_two, xor4]
theorem iter_lin {F : Nat → Nat} (h : Lin F) : ∀ k, Lin (iterN F k)
  | 0, _, _ => rfl
  | k + 1, a, b => by
    show F (iterN F k (a ^^^ b)) = F (iterN F k a) ^^^ F (iterN F k b)
    rw [iter_lin h k, h]
theorem iterN_add (F : Nat → Nat) (j x : Nat) : ∀ k, iterN F (k + j) x = iterN F k (iterN F j x)
  | 0 => by rw [Nat.zero_add]; rfl
  | k + 1 => by
    rw [show k + 1 + j = (k + j) + 1 from by omega]
    show F (iterN F (k + j) x) = F (iterN F k (iterN F j x))
    rw [iterN_add F j x k]
theorem sqStep_eq (v m k : Nat) : sqStep v m k = mulN (mulN m) ^^^ bitC v k 2147483648 := if_xor _ _ _
theorem sqN_lin : ∀ k, Lin fun v => sqN v k
  | 0, _, _ => (Nat.xor_self 0).symm
  | k + 1, a, b => by
    show sqStep (a ^^^ b) (sqN (a ^^^ b) k) k = sqStep a (sqN a k) k ^^^ sqStep b (sqN b k) k
    rw [sqStep_eq, sqStep_eq, sqStep_eq, bitC_xor, show sqN (a ^^^ b) k = sqN a k ^^^ sqN b k from sqN_lin k a b, mulN_lin, mulN_lin, xor4]
theorem twice_xor (x y p q : Nat) (hp : p < 2) (hq : q < 2) : (x * 2 + p) ^^^ (y * 2 + q) = (x ^^^ y) * 2 + (p ^^^ q) := by
  have h1 := @Nat.xor_div_two (x * 2 + p) (y * 2 + q)
  have h2 : ((x * 2 + p) ^^^ (y * 2 + q)) % 2 = p ^^^ q := by
    have e := @Nat.xor_mod_two_pow (x * 2 + p) (y * 2 + q) 1
    rw [Nat.pow_one, show (x * 2 + p) % 2 = p from by omega, show (y * 2 + q) % 2 = q from by omega] at e
    exact e
  rw [show (x * 2 + p) / 2 = x from by omega, show (y * 2 + q) / 2 = y from by omega] at h1
  omega
theorem revN_eq (f k : Nat) : revN f (k + 1) = revN f k * 2 + bitC f k 1 := by
  show revN f k * 2 + f / 2 ^ k % 2 = _
  unfold bitC
  split <;> omega
theorem bitC_lt (f k : Nat) : bitC f k 1 < 2 := by unfold bitC; split <;> omega
theorem revN_lin : ∀ k, Lin fun f => revN f k
  | 0, _, _ => (Nat.xor_self 0).symm
  | k + 1, a, b => by
    show revN (a ^^^ b) (k + 1) = revN a (k + 1) ^^^ revN b (k + 1)
    rw [revN_eq, revN_eq, revN_eq, show revN (a ^^^ b) k = revN a k ^^^ revN b k from revN_lin k a b, bitC_xor, twice_xor _ _ _ _ (bitC_lt _ _) (bitC_lt _ _)]
def cubeN (f : Nat) : Nat := sqN (sqN (sqN (revN f 32) 32) 32) 32
theorem cubeN_lin : Lin cubeN := ((sqN_lin 32).comp (sqN_lin 32)).comp ((sqN_lin 32).comp (revN_lin 32))
/-- the white row's own difference -/
def dN (f : Nat) : Nat → Nat
  | 0 => 0
  | k + 1 => sumStep (dN f k) (bitC f (39 - k) 4)
theorem dN_lin : ∀ k, Lin fun f => dN f k
  | 0, _, _ => (Nat.xor_self 0).symm
  | k + 1, a, b => by
    show iterN mulN 8 (dN (a ^^^ b) k ^^^ bitC (a ^^^ b) (39 - k) 4) = iterN mulN 8 (dN a k ^^^ bitC a (39 - k) 4) ^^^ iterN mulN 8 (dN b k ^^^ bitC b (39 - k) 4)
    rw [show dN (a ^^^ b) k = dN a k ^^^ dN b k from dN_lin k a b, bitC_xor, ← iter_lin mulN_lin 8, xor4]
theorem d_poly : ∀ k, k < 8 → dN (4374732215 * 2 ^ k) 40 = 0 := by decide +kernel
theorem d_flip (many few : Nat) : ∀ k, k ≤ 8 → dN (flipN many few k) 40 = dN few 40
  | 0, _ => rfl
  | k + 1, h => by
    rw [flipN]
    split
    · rw [show dN (flipN many few k ^^^ 4374732215 * 2 ^ k) 40 = dN (flipN many few k) 40 ^^^ dN (4374732215 * 2 ^ k) 40 from dN_lin 40 _ _, d_poly k (by omega), Nat.xor_zero]
      exact d_flip many few k (by omega)
    · exact d_flip many few k (by omega)
theorem d_base : ∀ j, j < 32 → dN (2 ^ j) 40 = iterN mulN 37 (cubeN (2 ^ j)) := by decide +kernel
theorem d_few {f : Nat} (h : f < 2 ^ 32) : dN f 40 = iterN mulN 37 (cubeN f) :=
  (dN_lin 40).ext ((iter_lin mulN_lin 37).comp cubeN_lin) 32 d_base f h
/-! nothing is lost -/
def gC : List Nat := [2783876014, 677985483, 1722352018, 3848479919, 569291592, 1529774360, 2850533934, 8, 1391938007, 2522091710, 861176009, 4040236172, 284645796, 764887180, 1425266967, 4, 2870684208, 1261045855, 2613759679, 2020118086, 142322898, 382443590, 2820235856, 2, 1435342104, 2817886964, 3481659780, 1010059043, 71161449, 191221795, 1410117928, 1]
def gN (x : Nat) : Nat → Nat
  | 0 => 0
  | k + 1 => gN x k ^^^ bitC x k (gC.getD k 0)
theorem gN_lin : ∀ k, Lin fun x => gN x k
  | 0, _, _ => (Nat.xor_self 0).symm
  | k + 1, a, b => by
    show gN (a ^^^ b) k ^^^ bitC (a ^^^ b) k (gC.getD k 0) = (gN a k ^^^ bitC a k (gC.getD k 0)) ^^^ (gN b k ^^^ bitC b k (gC.getD k 0))
    rw [show gN (a ^^^ b) k = gN a k ^^^ gN b k from gN_lin k a b, bitC_xor, xor4]
theorem g_base : ∀ j, j < 32 → gN (cubeN (2 ^ j)) 32 = 2 ^ j := by decide +kernel
theorem g_cube {f : Nat} (h : f < 2 ^ 32) : gN (cubeN f) 32 = f :=
  ((gN_lin 32).comp cubeN_lin).ext (G := fun x => x) (fun _ _ => rfl) 32 g_base f h
theorem cube_zero {f : Nat} (h : f < 2 ^ 32) (h0 : cubeN f = 0) : f = 0 := by
  rw [← g_cube h, h0]
  exact (gN_lin 32).zero
theorem mulN_lt {v : Nat} (h : v < 2 ^ 32) : mulN v < 2 ^ 32 := by
  unfold mulN
  split
  · exact Nat.xor_lt_two_pow (by omega) (by decide)
  · omega
theorem mulN_zero {v : Nat} (h : v < 2 ^ 32) (h0 : mulN v = 0) : v = 0 := by
  unfold mulN at h0
  split at h0
  · have e : v / 2 = 3988292384 := by
      have : (v / 2 ^^^ 3988292384) ^^^ 3988292384 = 0 ^^^ 3988292384 := by rw [h0]
      rwa [Nat.xor_assoc, Nat.xor_self, Nat.xor_zero, Nat.zero_xor] at this
    omega
  · omega
theorem iter_lt {v : Nat} (h : v < 2 ^ 32) : ∀ k, iterN mulN k v < 2 ^ 32
  | 0 => h
  | k + 1 => mulN_lt (iter_lt h k)
theorem iter_zero {v : Nat} (h : v < 2 ^ 32) : ∀ k, iterN mulN k v = 0 → v = 0
  | 0, h0 => h0
  | k + 1, h0 => iter_zero h k (mulN_zero (iter_lt h k) h0)
theorem sqN_lt (v : Nat) : ∀ k, sqN v k < 2 ^ 32
  | 0 => by show 0 < 2 ^ 32; decide
  | k + 1 => by
    show sqStep v (sqN v k) k < 2 ^ 32
    rw [sqStep_eq]
    refine Nat.xor_lt_two_pow (mulN_lt (mulN_lt (sqN_lt v k))) ?_
    unfold bitC
    split <;> decide
theorem cubeN_lt (f : Nat) : cubeN f < 2 ^ 32 := sqN_lt _ _
end
section
open PySem PyProof.Rows PySem.W
theorem step_xor (x y c d : Nat) : sumStep x c ^^^ sumStep y d = sumStep (x ^^^ y) (c ^^^ d) := by
  unfold sumStep
  rw [← iter_lin mulN_lin 8, xor4]
theorem fold_same : ∀ (cs : List Nat) (a b : Nat), cs.foldl sumStep a ^^^ cs.foldl sumStep b = iterN mulN (8 * cs.length) (a ^^^ b)
  | [], _, _ => rfl
  | c :: r, a, b => by
    show r.foldl sumStep (sumStep a c) ^^^ r.foldl sumStep (sumStep b c) = _
    rw [fold_same r, step_xor, Nat.xor_self]
    unfold sumStep
    rw [Nat.xor_zero, List.length_cons, Nat.mul_add, iterN_add]
theorem iter_of_zero : ∀ k, iterN mulN k 0 = 0 := fun k => (iter_lin mulN_lin k).zero
theorem white_xor (ns : List Int) (g k : Nat) : whiteC ns 0 k ^^^ whiteC ns g k = bitC g (39 - k) 4 := by
  unfold whiteC bitC flipAt
  rw [Nat.zero_div]
  by_cases h : g / 2 ^ (39 - k) % 2 = 1
  · simp only [h]
    cases tabAt ns k <;> rfl
  · simp only [h]
    cases tabAt ns k <;> rfl
theorem fold_white (ns : List Int) (g a : Nat) : ∀ k, (whiteL ns 0 k).foldl sumStep a ^^^ (whiteL ns g k).foldl sumStep a = dN g k
  | 0 => Nat.xor_self a
  | k + 1 => by
    show (whiteL ns 0 k ++ [whiteC ns 0 k]).foldl sumStep a ^^^ (whiteL ns g k ++ [whiteC ns g k]).foldl sumStep a = sumStep (dN g k) (bitC g (39 - k) 4)
    rw [List.foldl_append, List.foldl_append, ← white_xor ns g k, ← fold_white ns g a k, ← step_xor]
    rfl
theorem crc_diff (P R : List Nat) (ns : List Int) (g i : Nat) :
    (P ++ whiteL ns 0 40 ++ R).foldl sumStep i ^^^ (P ++ whiteL ns g 40 ++ R).foldl sumStep i = iterN mulN (8 * R.length) (dN g 40) := by
  rw [List.foldl_append, List.foldl_append, List.foldl_append, List.foldl_append, fold_same, fold_white]
theorem sumL_codes (x : Str) : sumL (KStt.codes x) = x.cps.toList.foldl sumStep 4294967295 := by
  unfold sumL KStt.codes
  rw [List.foldl_map]
  congr 1
theorem sums_xor (x y : Str) : Builtin.bitXor (sumZ x) (sumZ y) = ((x.cps.toList.foldl sumStep 4294967295 ^^^ y.cps.toList.foldl sumStep 4294967295 : Nat) : Int) := by
  unfold sumZ
  rw [bx_nat, sumL_codes, sumL_codes, xor4, Nat.xor_self, Nat.xor_zero]
theorem page_list (a b c wh d e f : Str) : (a ++ b ++ c ++ wh ++ d ++ e ++ f).cps.toList = (a ++ b ++ c).cps.toList ++ wh.cps.toList ++ (d ++ e ++ f).cps.toList := by
  simp only [Str.cps_append, Array.toList_append, List.append_assoc]
theorem cube_eq (few : Int) : cubeZ few = ((cubeN few.toNat : Nat) : Int) := rfl
theorem law_told {many few : Int} (h : Bnd many few) (ns : List Int) (l : Str) :
    Builtin.bitXor
      (sumZ (Str.ofString "\n\t" ++ (Str.ofString "a page" ++ l) ++ Str.ofString "\n" ++ whiteS ns (Int.toNat 0) 40 ++ Str.ofString "\n" ++ (Str.ofString " of\n\t\n" ++ (l ++ Str.ofString "zip")) ++ Str.ofString " \n"))
      (sumZ (Str.ofString "\n\t" ++ (Str.ofString "a page" ++ l) ++ Str.ofString "\n" ++ whiteS ns (flipZ many few (rangeKs 0 (8 - 0 : Int).toNat).length).toNat 40 ++ Str.ofString "\n" ++ (Str.ofString " of\n\t\n" ++ (l ++ Str.ofString "zip")) ++ Str.ofString " \n"))
    = ((iterN mulN (rangeKs 0 (29 + 8 * (((9 + l.length : Nat) : Int) + 4) - 0).toNat).length (cubeZ few).toNat : Nat) : Int) := by
  obtain ⟨_, f0, f1⟩ := h
  have hf : few.toNat < 2 ^ 32 := by omega
  rw [sums_xor]
  congr 1
  rw [page_list, page_list]
  have e0 : (flipZ many few (rangeKs 0 (8 - 0 : Int).toNat).length).toNat = flipN many.toNat few.toNat 8 := by
    unfold flipZ
    rw [rangeKs_length, Int.toNat_natCast]
    congr 1
  rw [e0]
  have e1 : (whiteS ns (Int.toNat 0) 40).cps.toList = whiteL ns 0 40 := by unfold whiteS; rw [Int.toNat_zero]
  have e2 : (whiteS ns (flipN many.toNat few.toNat 8) 40).cps.toList = whiteL ns (flipN many.toNat few.toNat 8) 40 := by unfold whiteS; rfl
  rw [e1, e2, crc_diff, d_flip _ _ 8 (Nat.le_refl _), d_few hf, ← iterN_add, cube_eq, Int.toNat_natCast, rangeKs_length, Array.length_toList]
  have e3 : (Str.ofString "\n" ++ (Str.ofString " of\n\t\n" ++ (l ++ Str.ofString "zip")) ++ Str.ofString " \n").cps.size = 12 + l.length := by
    show (Str.ofString "\n" ++ (Str.ofString " of\n\t\n" ++ (l ++ Str.ofString "zip")) ++ Str.ofString " \n").length = _
    simp only [Str.length_append, len_n, len_of, len_zip, len_sn]
    omega
  rw [e3]
  have e4 : (29 + 8 * (((9 + l.length : Nat) : Int) + 4) - 0).toNat = 8 * (12 + l.length) + 37 := by omega
  rw [e4]
theorem law_zero {many few : Int} (h : Bnd many few) (k : Nat) : ((iterN mulN k (cubeZ few).toNat : Nat) : Int) = 0 ↔ few = 0 := by
  obtain ⟨_, f0, f1⟩ := h
  have hf : few.toNat < 2 ^ 32 := by omega
  rw [cube_eq, Int.toNat_natCast]
  constructor
  · intro h0
    have h1 : iterN mulN k (cubeN few.toNat) = 0 := by omega
    have := cube_zero hf (iter_zero (cubeN_lt _) k h1)
    omega
  · intro h0
    subst h0
    rw [show cubeN (Int.toNat 0) = 0 from cubeN_lin.zero, iter_of_zero]
    rfl
end
structure MulOK (K : Params → Frag) : Prop where
  out : ∀ (prog p : Program) (loose : List Str) (w : World) (mean : ExcName → Option Value) (mg mb : Str → Option Value) (v : Int) (t : Tok) (news : List (Addr × Obj))
    (dp un : Nat) (gd : Option (List Code)) (cn : Str) (cs : Scope) (a : Addr) (ccd : Value) (cl : List (Str × Addr)) (outer : List Env) (A₀ : Around) (base h₀ : Heap) (L : Addr) (m : Str → Option Value) (s : Shared) (Q E : Value → Shared → Prop)
    (B : Below A₀ base outer h₀) (F : Fr h₀ L s.heap m) (X : (K w.params).In h₀) (N : News h₀ L s.heap news) (T : Top p loose mean mg mb h₀) (hk : cs.kind = .function) (hv : 0 ≤ v) (hdp : dp + 1 < recursionLimit) (hun : un + 8 < cLine)
    (hret : ∀ (t : Tok) (h' : Heap) (tk' : Nat), Fr h₀ L h' m → News h₀ L h' news → Q (.int (mulZ v) t) { s with heap := h', toks := tk' }),
    wpAny (model prog w) (ktrTop dp un gd cn cs L a ccd cl outer) (call (.ref 42) [.int v t]) Q E s
structure GenOK (K : Params → Frag) : Prop where
  out : ∀ (prog p : Program) (loose : List Str) (w : World) (mean : ExcName → Option Value) (mg mb : Str → Option Value) (v : Int) (t : Tok) (news : List (Addr × Obj))
    (dp un : Nat) (gd : Option (List Code)) (cn : Str) (cs : Scope) (a : Addr) (ccd : Value) (cl : List (Str × Addr)) (outer : List Env) (A₀ : Around) (base h₀ : Heap) (L : Addr) (m : Str → Option Value) (s : Shared) (Q E : Value → Shared → Prop)
    (B : Below A₀ base outer h₀) (F : Fr h₀ L s.heap m) (X : (K w.params).In h₀) (N : News h₀ L s.heap news) (T : Top p loose mean mg mb h₀) (hk : cs.kind = .function) (hv : 0 ≤ v) (hdp : dp + 1 < recursionLimit) (hun : un + 8 < cLine)
    (hret : ∀ (t : Tok) (h' : Heap) (tk' : Nat), Fr h₀ L h' m → News h₀ L h' news → Q (.int (genZ v) t) { s with heap := h', toks := tk' }),
    wpAny (model prog w) (ktrTop dp un gd cn cs L a ccd cl outer) (call (.ref 28) [.int v t]) Q E s
structure SqOK (K : Params → Frag) : Prop where
  out : ∀ (prog p : Program) (loose : List Str) (w : World) (mean : ExcName → Option Value) (mg mb : Str → Option Value) (v : Int) (t : Tok) (news : List (Addr × Obj))
    (dp un : Nat) (gd : Option (List Code)) (cn : Str) (cs : Scope) (a : Addr) (ccd : Value) (cl : List (Str × Addr)) (outer : List Env) (A₀ : Around) (base h₀ : Heap) (L : Addr) (m : Str → Option Value) (s : Shared) (Q E : Value → Shared → Prop)
    (B : Below A₀ base outer h₀) (F : Fr h₀ L s.heap m) (X : (K w.params).In h₀) (N : News h₀ L s.heap news) (T : Top p loose mean mg mb h₀) (hk : cs.kind = .function) (hv : 0 ≤ v) (hdp : dp + 2 < recursionLimit) (hun : un + 16 < cLine)
    (hret : ∀ (t : Tok) (h' : Heap) (tk' : Nat), Fr h₀ L h' m → News h₀ L h' news → Q (.int (sqZ v) t) { s with heap := h', toks := tk' }),
    wpAny (model prog w) (ktrTop dp un gd cn cs L a ccd cl outer) (call (.ref 49) [.int v t]) Q E s
structure SumOK (K : Params → Frag) : Prop where
  out : ∀ (prog p : Program) (loose : List Str) (w : World) (mean : ExcName → Option Value) (mg mb : Str → Option Value) (x : Str) (t : Tok) (news : List (Addr × Obj))
    (dp un : Nat) (gd : Option (List Code)) (cn : Str) (cs : Scope) (a : Addr) (ccd : Value) (cl : List (Str × Addr)) (outer : List Env) (A₀ : Around) (base h₀ : Heap) (L : Addr) (m : Str → Option Value) (s : Shared) (Q E : Value → Shared → Prop)
    (B : Below A₀ base outer h₀) (F : Fr h₀ L s.heap m) (X : (K w.params).In h₀) (N : News h₀ L s.heap news) (T : Top p loose mean mg mb h₀) (hk : cs.kind = .function) (hdp : dp + 2 < recursionLimit) (hun : un + 16 < cLine)
    (hret : ∀ (t : Tok) (h' : Heap) (tk' : Nat), Fr h₀ L h' m → News h₀ L h' news → Q (.int (sumZ x) t) { s with heap := h', toks := tk' }),
    wpAny (model prog w) (ktrTop dp un gd cn cs L a ccd cl outer) (call (.ref 35) [.str x t]) Q E s
structure WhiteOK (K : Params → Frag) : Prop where
  out : ∀ (prog p : Program) (loose : List Str) (w : World) (mean : ExcName → Option Value) (mg mb : Str → Option Value) (f : Int) (t : Tok) (l : Addr) (vs : List Value) (ns : List Int) (nn : Nat) (news : List (Addr × Obj))
    (dp un : Nat) (gd : Option (List Code)) (cn : Str) (cs : Scope) (a : Addr) (ccd : Value) (cl : List (Str × Addr)) (outer : List Env) (A₀ : Around) (base h₀ : Heap) (L : Addr) (m : Str → Option Value) (s : Shared) (Q E : Value → Shared → Prop)
    (B : Below A₀ base outer h₀) (F : Fr h₀ L s.heap m) (X : (K w.params).In h₀) (N : News h₀ L s.heap news) (T : Top p loose mean mg mb h₀) (hk : cs.kind = .function) (hdp : dp + 1 < recursionLimit) (hun : un + 8 < cLine)
    (hm : (l, listOf vs.toArray nn) ∈ news) (hi : IntsAre vs ns) (hlen : ns.length ≤ 24) (hf : 0 ≤ f)
    (hret : ∀ (t : Tok) (h' : Heap) (tk' : Nat), Fr h₀ L h' m → News h₀ L h' news → Q (.str (whiteS ns f.toNat 40) t) { s with heap := h', toks := tk' }),
    wpAny (model prog w) (ktrTop dp un gd cn cs L a ccd cl outer) (call (.ref 56) [.ref l, .int f t]) Q E s
structure Split1OK (K : Params → Frag) : Prop where
  out : ∀ (prog p : Program) (loose : List Str) (w : World) (mean : ExcName → Option Value) (mg mb : Str → Option Value) (x y l0 : Str) (t : Tok) (news : List (Addr × Obj))
    (dp un : Nat) (gd : Option (List Code)) (cn : Str) (cs : Scope) (a : Addr) (ccd : Value) (cl : List (Str × Addr)) (outer : List Env) (A₀ : Around) (base h₀ : Heap) (L : Addr) (m : Str → Option Value) (s : Shared) (Q E : Value → Shared → Prop)
    (B : Below A₀ base outer h₀) (F : Fr h₀ L s.heap m) (X : (K w.params).In h₀) (N : News h₀ L s.heap news) (T : Top p loose mean mg mb h₀) (hk : cs.kind = .function) (hdp : dp + 1 < recursionLimit) (hun : un + 8 < cLine)
    (hx : x.length ≤ 1000) (hy : y.length ≤ 1000) (hstrip : Txt.strip x = y) (hsplit : Txt.split y (Str.ofString "\n") = [l0])
    (hret : ∀ (D : Addr) (t1 t2 : Tok) (c : Nat) (h' : Heap) (tk' : Nat), Fr h₀ L h' m → News h₀ L h' ((D, ({ cls := .type "tuple", data := .seq #[.str l0 t1, .str (Str.ofString "") t2] c } : Obj)) :: news) → (∀ p ∈ news, p.1 < D) → Q (.ref D) { s with heap := h', toks := tk' }),
    wpAny (model prog w) (ktrTop dp un gd cn cs L a ccd cl outer) (call (.ref 21) [.str x t]) Q E s
structure Split4OK (K : Params → Frag) : Prop where
  out : ∀ (prog p : Program) (loose : List Str) (w : World) (mean : ExcName → Option Value) (mg mb : Str → Option Value) (x y l0 l1 l2 l3 : Str) (t : Tok) (news : List (Addr × Obj))
    (dp un : Nat) (gd : Option (List Code)) (cn : Str) (cs : Scope) (a : Addr) (ccd : Value) (cl : List (Str × Addr)) (outer : List Env) (A₀ : Around) (base h₀ : Heap) (L : Addr) (m : Str → Option Value) (s : Shared) (Q E : Value → Shared → Prop)
    (B : Below A₀ base outer h₀) (F : Fr h₀ L s.heap m) (X : (K w.params).In h₀) (N : News h₀ L s.heap news) (T : Top p loose mean mg mb h₀) (hk : cs.kind = .function) (hdp : dp + 1 < recursionLimit) (hun : un + 8 < cLine)
    (hx : x.length ≤ 1000) (hy : y.length ≤ 1000) (hstrip : Txt.strip x = y) (hsplit : Txt.split y (Str.ofString "\n") = [l0, l1, l2, l3]) (hl0 : l0.length ≤ 1000) (hl1 : l1.length ≤ 1000) (hl2 : l2.length ≤ 1000) (hl3 : l3.length ≤ 1000) (hr : Txt.rstrip l1 = Str.ofString " of")
    (hret : ∀ (D : Addr) (t1 t2 : Tok) (c : Nat) (h' : Heap) (tk' : Nat), Fr h₀ L h' m → News h₀ L h' ((D, ({ cls := .type "tuple", data := .seq #[.str (Str.ofString "") t1, .str (Txt.join (Str.ofString "\n") [l0, l1, l2, l3]) t2] c } : Obj)) :: news) → (∀ p ∈ news, p.1 < D) → Q (.ref D) { s with heap := h', toks := tk' }),
    wpAny (model prog w) (ktrTop dp un gd cn cs L a ccd cl outer) (call (.ref 21) [.str x t]) Q E s
structure Split5OK (K : Params → Frag) : Prop where
  out : ∀ (prog p : Program) (loose : List Str) (w : World) (mean : ExcName → Option Value) (mg mb : Str → Option Value) (x y l0 l1 l2 l3 l4 : Str) (t : Tok) (news : List (Addr × Obj))
    (dp un : Nat) (gd : Option (List Code)) (cn : Str) (cs : Scope) (a : Addr) (ccd : Value) (cl : List (Str × Addr)) (outer : List Env) (A₀ : Around) (base h₀ : Heap) (L : Addr) (m : Str → Option Value) (s : Shared) (Q E : Value → Shared → Prop)
    (B : Below A₀ base outer h₀) (F : Fr h₀ L s.heap m) (X : (K w.params).In h₀) (N : News h₀ L s.heap news) (T : Top p loose mean mg mb h₀) (hk : cs.kind = .function) (hdp : dp + 1 < recursionLimit) (hun : un + 8 < cLine)
    (hx : x.length ≤ 1000) (hy : y.length ≤ 1000) (hstrip : Txt.strip x = y) (hsplit : Txt.split y (Str.ofString "\n") = [l0, l1, l2, l3, l4]) (hl0 : l0.length ≤ 1000) (hl1 : l1.length ≤ 1000) (hl2 : l2.length ≤ 1000) (hl3 : l3.length ≤ 1000) (hl4 : l4.length ≤ 1000) (hr : Txt.rstrip l1 = Str.ofString "")
    (hret : ∀ (D : Addr) (t1 t2 : Tok) (c : Nat) (h' : Heap) (tk' : Nat), Fr h₀ L h' m → News h₀ L h' ((D, ({ cls := .type "tuple", data := .seq #[.str (l0) t1, .str (Txt.join (Str.ofString "\n") [l2, l3, l4]) t2] c } : Obj)) :: news) → (∀ p ∈ news, p.1 < D) → Q (.ref D) { s with heap := h', toks := tk' }),
    wpAny (model prog w) (ktrTop dp un gd cn cs L a ccd cl outer) (call (.ref 21) [.str x t]) Q E s
section
variable {prog p : Program} {loose : List Str} {w : World} {mean : ExcName → Option Value} {mg mb : Str → Option Value} {dp un : Nat} {gd : Option (List Code)} {cn : Str} {cs : Scope} {a : Addr} {ccd : Value} {cl : List (Str × Addr)} {outer : List Env} {A₀ : Around} {base h₀ : Heap} {L : Addr} {m : Str → Option Value} {s : Shared} {Q E : Value → Shared → Prop} {news : List (Addr × Obj)} {v : Int} {t : Tok}
theorem mul_use {K : Params → Frag} (hOK : MulOK K) (B : Below A₀ base outer h₀) (F : Fr h₀ L s.heap m) (X : (K w.params).In h₀) (N : News h₀ L s.heap news) (T : Top p loose mean mg mb h₀) (hk : cs.kind = .function) (hv : 0 ≤ v) (hdp : dp + 1 < recursionLimit) (hun : un + 8 < cLine)
    (hret : ∀ (t : Tok) (h' : Heap) (tk' : Nat), Fr h₀ L h' m → News h₀ L h' news → 0 ≤ mulZ v → Q (.int (mulZ v) t) { s with heap := h', toks := tk' }) :
    wpAny (model prog w) (ktrTop dp un gd cn cs L a ccd cl outer) (call (.ref 42) [.int v t]) Q E s :=
  hOK.out prog p loose w mean mg mb v t news dp un gd cn cs a ccd cl outer A₀ base h₀ L m s Q E B F X N T hk hv hdp hun fun t h tk F N => hret t h tk F N (mulZ_nn v)
end
section
variable {prog p : Program} {loose : List Str} {w : World} {mean : ExcName → Option Value} {mg mb : Str → Option Value} {dp un : Nat} {gd : Option (List Code)} {cn : Str} {cs : Scope} {a : Addr} {ccd : Value} {cl : List (Str × Addr)} {outer : List Env} {A₀ : Around} {base h₀ : Heap} {L : Addr} {m : Str → Option Value} {s : Shared} {Q E : Value → Shared → Prop} {news : List (Addr × Obj)} {v : Int} {t : Tok}
theorem gen_use {K : Params → Frag} (hOK : GenOK K) (B : Below A₀ base outer h₀) (F : Fr h₀ L s.heap m) (X : (K w.params).In h₀) (N : News h₀ L s.heap news) (T : Top p loose mean mg mb h₀) (hk : cs.kind = .function) (hv : 0 ≤ v) (hdp : dp + 1 < recursionLimit) (hun : un + 8 < cLine)
    (hret : ∀ (t : Tok) (h' : Heap) (tk' : Nat), Fr h₀ L h' m → News h₀ L h' news → Q (.int (genZ v) t) { s with heap := h', toks := tk' }) :
    wpAny (model prog w) (ktrTop dp un gd cn cs L a ccd cl outer) (call (.ref 28) [.int v t]) Q E s :=
  hOK.out prog p loose w mean mg mb v t news dp un gd cn cs a ccd cl outer A₀ base h₀ L m s Q E B F X N T hk hv hdp hun hret
end
section
variable {prog : Program} {w : World} {A : Around} {E : Value → Shared → Prop} {s : Shared} {h₀ : Heap} {L l : Addr} {news : List (Addr × Obj)} {vs : List Value} {ns : List Int} {c : Nat} {Q : Value → Shared → Prop}
theorem my_len (N : News h₀ L s.heap news) (hm : (l, listOf vs.toArray c) ∈ news) (hi : IntsAre vs ns) (hlen : ns.length ≤ 24) (h : Q (.int (ns.length : Int) (s.toks + 1)) { s with toks := s.toks + 1 + 1 }) : wpAny (model prog w) A (call (.builtin "len") [.ref l]) Q E s :=
  kst_len N hm hi.length (by omega) h
theorem my_item {value slice : PySem.Expr} {k : Int} {u : Tok} (N : News h₀ L s.heap news) (hm : (l, listOf vs.toArray c) ∈ news) (hi : IntsAre vs ns) (hlen : ns.length ≤ 24) (h0 : 0 ≤ k) (hk : k < (ns.length : Int)) (h : ∀ t, Q (.int (ns.getD k.toNat 0) t) s)
    (hs : subscripted slice false (.ref l) (.int k u) = operate [.ref l, .int k u] (getItem (.ref l) (.int k u)) := by with_unfolding_all rfl) (hg : ∀ r, letTemporaryGo value (.ref l) r = pure () := by intro _; with_unfolding_all rfl) :
    wpAny (model prog w) A (subscriptTail value slice (.ref l) (.int k u)) Q E s := by
  have hl : s.heap.IsList l vs.toArray := ⟨_, (N _ hm).1, rfl, c, rfl⟩
  have hv := hi.length
  have hlt : k.toNat < vs.length := by omega
  have hx : vs[k.toNat]? = some vs[k.toNat] := List.getElem?_eq_getElem hlt
  obtain ⟨t, e⟩ := hi.int_at _ _ hx
  rw [e] at hx
  exact item_listL hl h0 (by omega) hx (h t) hs hg
end
section
variable {prog : Program} {w : World} {A : Around} {E : Value → Shared → Prop} {s : Shared} {h₀ : Heap} {L : Addr} {m : PySem.Str → Option Value} {news : List (Addr × Obj)} {x y : PySem.Str} {zs : List Str} {t u : Tok} {Q : Value → Shared → Prop}
theorem my_split (hF : Fr h₀ L s.heap m) (hN : News h₀ L s.heap news) (hy : (y.length == 0) = false) (hsz : x.length + 2 ≤ sizeLine) (hz : Txt.split x y = zs)
    (h : ∀ D l h' k, l.map (·.1) = zs → StrsAre (strValues l) (l.map (·.1)) → Fr h₀ L h' m → News h₀ L h' ((D, listOf (strValues l).toArray 0) :: news) → (∀ p ∈ news, p.1 < D) → Q (.ref D) { s with heap := h', toks := k }) :
    wpAny (model prog w) A (call (.builtin "str.split") [.str x t, .str y u]) Q E s := KSpl.split1 hF hN hy (fun D l h' k e => h D l h' k (e.trans hz)) hsz
end
section
variable {prog p : Program} {loose : List Str} {w : World} {mean : ExcName → Option Value} {mg mb : Str → Option Value} {dp un : Nat} {gd : Option (List Code)} {cn : Str} {cs : Scope} {a : Addr} {ccd : Value} {cl : List (Str × Addr)} {outer : List Env} {A₀ : Around} {base h₀ : Heap} {L : Addr} {m : Str → Option Value} {s : Shared} {Q E : Value → Shared → Prop} {news : List (Addr × Obj)} {l wh : Str} {t : Tok} {v : Int}
theorem white_use {K : Params → Frag} (hOK : WhiteOK K) {f : Int} {la : Addr} {vs : List Value} {ns : List Int} {nn : Nat} (B : Below A₀ base outer h₀) (F : Fr h₀ L s.heap m) (X : (K w.params).In h₀) (N : News h₀ L s.heap news) (T : Top p loose mean mg mb h₀) (hk : cs.kind = .function) (hdp : dp + 1 < recursionLimit) (hun : un + 8 < cLine)
    (hm : (la, listOf vs.toArray nn) ∈ news) (hi : IntsAre vs (ns.take 24)) (hf : 0 ≤ f)
    (hret : ∀ (t : Tok) (h' : Heap) (tk' : Nat), Fr h₀ L h' m → News h₀ L h' news → Q (.str (whiteS (ns.take 24) f.toNat 40) t) { s with heap := h', toks := tk' }) :
    wpAny (model prog w) (ktrTop dp un gd cn cs L a ccd cl outer) (call (.ref 56) [.ref la, .int f t]) Q E s :=
  hOK.out prog p loose w mean mg mb f t la vs (ns.take 24) nn news dp un gd cn cs a ccd cl outer A₀ base h₀ L m s Q E B F X N T hk hdp hun hm hi (by rw [List.length_take]; omega) hf hret
theorem sum_use {K : Params → Frag} (hOK : SumOK K) {x : Str} (B : Below A₀ base outer h₀) (F : Fr h₀ L s.heap m) (X : (K w.params).In h₀) (N : News h₀ L s.heap news) (T : Top p loose mean mg mb h₀) (hk : cs.kind = .function) (hdp : dp + 2 < recursionLimit) (hun : un + 16 < cLine)
    (hret : ∀ (t : Tok) (h' : Heap) (tk' : Nat), Fr h₀ L h' m → News h₀ L h' news → Q (.int (sumZ x) t) { s with heap := h', toks := tk' }) :
    wpAny (model prog w) (ktrTop dp un gd cn cs L a ccd cl outer) (call (.ref 35) [.str x t]) Q E s :=
  hOK.out prog p loose w mean mg mb x t news dp un gd cn cs a ccd cl outer A₀ base h₀ L m s Q E B F X N T hk hdp hun hret
theorem sq_use {K : Params → Frag} (hOK : SqOK K) (B : Below A₀ base outer h₀) (F : Fr h₀ L s.heap m) (X : (K w.params).In h₀) (N : News h₀ L s.heap news) (T : Top p loose mean mg mb h₀) (hk : cs.kind = .function) (hv : 0 ≤ v) (hdp : dp + 2 < recursionLimit) (hun : un + 16 < cLine)
    (hret : ∀ (t : Tok) (h' : Heap) (tk' : Nat), Fr h₀ L h' m → News h₀ L h' news → 0 ≤ sqZ v → Q (.int (sqZ v) t) { s with heap := h', toks := tk' }) :
    wpAny (model prog w) (ktrTop dp un gd cn cs L a ccd cl outer) (call (.ref 49) [.int v t]) Q E s :=
  hOK.out prog p loose w mean mg mb v t news dp un gd cn cs a ccd cl outer A₀ base h₀ L m s Q E B F X N T hk hv hdp hun fun t h tk F N => hret t h tk F N (sqZ_nn v)
theorem page_use {K : Params → Frag} (hOK : Split5OK K) (B : Below A₀ base outer h₀) (F : Fr h₀ L s.heap m) (X : (K w.params).In h₀) (N : News h₀ L s.heap news) (T : Top p loose mean mg mb h₀) (hk : cs.kind = .function) (hdp : dp + 1 < recursionLimit) (hun : un + 8 < cLine)
    (hL : Letters l) (hw : White wh)
    (hret : ∀ (D : Addr) (t1 t2 : Tok) (c : Nat) (h' : Heap) (tk' : Nat), Fr h₀ L h' m → News h₀ L h' ((D, ({ cls := .type "tuple", data := .seq #[.str (Str.ofString "a page" ++ l) t1, .str (Str.ofString " of\n\t\n" ++ (l ++ Str.ofString "zip")) t2] c } : Obj)) :: news) → (∀ p ∈ news, p.1 < D) → Q (.ref D) { s with heap := h', toks := tk' }) :
    wpAny (model prog w) (ktrTop dp un gd cn cs L a ccd cl outer) (call (.ref 21) [.str (Str.ofString "\n\t" ++ (Str.ofString "a page" ++ l) ++ Str.ofString "\n" ++ wh ++ Str.ofString "\n" ++ (Str.ofString " of\n\t\n" ++ (l ++ Str.ofString "zip")) ++ Str.ofString " \n") t]) Q E s := by
  have h1 := hL.1
  have h2 := hw.1
  refine hOK.out prog p loose w mean mg mb _ _ _ _ _ _ _ t news dp un gd cn cs a ccd cl outer A₀ base h₀ L m s Q E B F X N T hk hdp hun ?_ ?_ (page_strip hL hw) (page_split hL hw) ?_ ?_ ?_ ?_ ?_ (white_rstrip hw) ?_
  any_goals (simp only [Str.length_append, len_apage, len_zip, len_of, len_nt, len_n, len_sn, len_nn, len_o, len_t]; omega)
  · omega
  · rw [rest_join]; exact hret
theorem empty_use {K : Params → Frag} (hOK : Split5OK K) (B : Below A₀ base outer h₀) (F : Fr h₀ L s.heap m) (X : (K w.params).In h₀) (N : News h₀ L s.heap news) (T : Top p loose mean mg mb h₀) (hk : cs.kind = .function) (hdp : dp + 1 < recursionLimit) (hun : un + 8 < cLine)
    (hL : Letters l)
    (hret : ∀ (D : Addr) (t1 t2 : Tok) (c : Nat) (h' : Heap) (tk' : Nat), Fr h₀ L h' m → News h₀ L h' ((D, ({ cls := .type "tuple", data := .seq #[.str (Str.ofString "a page" ++ l) t1, .str (Str.ofString " of\n\t\n" ++ (l ++ Str.ofString "zip")) t2] c } : Obj)) :: news) → (∀ p ∈ news, p.1 < D) → Q (.ref D) { s with heap := h', toks := tk' }) :
    wpAny (model prog w) (ktrTop dp un gd cn cs L a ccd cl outer) (call (.ref 21) [.str ((Str.ofString "a page" ++ l) ++ Str.ofString "\n\n" ++ (Str.ofString " of\n\t\n" ++ (l ++ Str.ofString "zip"))) t]) Q E s := by
  have h1 := hL.1
  refine hOK.out prog p loose w mean mg mb _ _ _ _ _ _ _ t news dp un gd cn cs a ccd cl outer A₀ base h₀ L m s Q E B F X N T hk hdp hun ?_ ?_ (empty_strip hL) (empty_split hL) ?_ ?_ ?_ ?_ ?_ empty_rstrip ?_
  any_goals (simp only [Str.length_append, len_apage, len_zip, len_of, len_nt, len_n, len_sn, len_nn, len_o, len_t, len_e]; omega)
  · rw [rest_join]; exact hret
theorem bare_use {K : Params → Frag} (hOK : Split4OK K) (B : Below A₀ base outer h₀) (F : Fr h₀ L s.heap m) (X : (K w.params).In h₀) (N : News h₀ L s.heap news) (T : Top p loose mean mg mb h₀) (hk : cs.kind = .function) (hdp : dp + 1 < recursionLimit) (hun : un + 8 < cLine)
    (hL : Letters l)
    (hret : ∀ (D : Addr) (t1 t2 : Tok) (c : Nat) (h' : Heap) (tk' : Nat), Fr h₀ L h' m → News h₀ L h' ((D, ({ cls := .type "tuple", data := .seq #[.str (Str.ofString "") t1, .str ((Str.ofString "a page" ++ l) ++ Str.ofString "\n" ++ (Str.ofString " of\n\t\n" ++ (l ++ Str.ofString "zip"))) t2] c } : Obj)) :: news) → (∀ p ∈ news, p.1 < D) → Q (.ref D) { s with heap := h', toks := tk' }) :
    wpAny (model prog w) (ktrTop dp un gd cn cs L a ccd cl outer) (call (.ref 21) [.str ((Str.ofString "a page" ++ l) ++ Str.ofString "\n" ++ (Str.ofString " of\n\t\n" ++ (l ++ Str.ofString "zip"))) t]) Q E s := by
  have h1 := hL.1
  refine hOK.out prog p loose w mean mg mb _ _ _ _ _ _ t news dp un gd cn cs a ccd cl outer A₀ base h₀ L m s Q E B F X N T hk hdp hun ?_ ?_ (bare_strip hL) (bare_split hL) ?_ ?_ ?_ ?_ of_rstrip ?_
  any_goals (simp only [Str.length_append, len_apage, len_zip, len_of, len_nt, len_n, len_sn, len_nn, len_o, len_t]; omega)
  · rw [bare_join]; exact hret
theorem last_use {K : Params → Frag} (hOK : Split1OK K) (B : Below A₀ base outer h₀) (F : Fr h₀ L s.heap m) (X : (K w.params).In h₀) (N : News h₀ L s.heap news) (T : Top p loose mean mg mb h₀) (hk : cs.kind = .function) (hdp : dp + 1 < recursionLimit) (hun : un + 8 < cLine)
    (hL : Letters l)
    (hret : ∀ (D : Addr) (t1 t2 : Tok) (c : Nat) (h' : Heap) (tk' : Nat), Fr h₀ L h' m → News h₀ L h' ((D, ({ cls := .type "tuple", data := .seq #[.str (l ++ Str.ofString "zip") t1, .str (Str.ofString "") t2] c } : Obj)) :: news) → (∀ p ∈ news, p.1 < D) → Q (.ref D) { s with heap := h', toks := tk' }) :
    wpAny (model prog w) (ktrTop dp un gd cn cs L a ccd cl outer) (call (.ref 21) [.str (l ++ Str.ofString "zip") t]) Q E s := by
  have h1 := hL.1
  refine hOK.out prog p loose w mean mg mb _ _ _ t news dp un gd cn cs a ccd cl outer A₀ base h₀ L m s Q E B F X N T hk hdp hun ?_ ?_ (last_strip hL) (last_split hL) hret
  any_goals (simp only [Str.length_append, len_zip]; omega)
end
structure FewAt (mm : Int) (h₀ : Heap) (L : Addr) (m : Str → Option Value) (news : List (Addr × Obj)) (s : Shared) (f : Flow) (s' : Shared) : Prop where
  next : f = .next
  here : ∃ (r : Int) (t : Tok), Bnd mm r ∧ KJoinAt h₀ L (fun y => if y = Str.ofString "few" then some (.int r t) else m y) news s s'
section
variable {M : Model} {A : Around} {E : Value → Shared → Prop} {s : Shared} {env : Env} {h₀ : Heap} {L : Addr} {m : Str → Option Value} {news : List (Addr × Obj)}
theorem few_join {mm f₀ : Int} {st : Stmt} {Q : Flow → Shared → Prop} (hB0 : Bnd mm f₀) (F0 : Fr h₀ L s.heap m) (N0 : News h₀ L s.heap news)
    (hif : wpAny M A (exec st env) (fun f s' => FewAt mm h₀ L m news s f s') E s)
    (hk : ∀ (r : Int) (t : Tok) (h : Heap) (tk : Nat), Bnd mm r → Fr h₀ L h (fun y => if y = Str.ofString "few" then some (.int r t) else m y) → News h₀ L h news → Q .next { s with heap := h, toks := tk }) :
    wpAny M A (exec st env) Q E s := by
  refine wpAny_mono hif (fun f s' hf => ?_) fun _ _ h => h
  obtain ⟨hf, r, t, hB, h, tk, e, F, N⟩ := hf
  subst hf
  subst e
  exact hk r t h tk hB F N
theorem my_join {prog : Program} {w : World} {A : Around} {E : Value → Shared → Prop} {s : Shared} {t : Tok} {Q : Value → Shared → Prop} {D : Addr} {ys : List Value} {l : List Int} (hl : s.heap.IsList D ys.toArray) (hc : CarriedAll ys ((l.take 24).map fun a => PyData.str (letterOf a)))
    (h : ∀ letters t' k, Letters letters → Q (.str letters t') { s with toks := k }) : wpAny (model prog w) A (call (.builtin "str.join") [.str (PySem.Str.ofString "") t, .ref D]) Q E s :=
  KT.join_B 1 hl hc (fun a _ => Nat.le_refl _) (by rw [List.length_take]; omega) (by decide) fun t' k => h _ t' k (letters_of _ (by rw [List.length_take]; omega))
theorem few_set {mm r : Int} {t : Tok} {h : Heap} {tk : Nat} (hB : Bnd mm r) (F : Fr h₀ L h (fun y => if y = Str.ofString "few" then some (.int r t) else m y)) (N : News h₀ L h news) :
    FewAt mm h₀ L m news s .next { s with heap := h, toks := tk } := ⟨rfl, r, t, hB, h, tk, rfl, F, N⟩
theorem few_old {mm r : Int} {t : Tok} {h : Heap} {tk : Nat} (hB : Bnd mm r) (hold : m (Str.ofString "few") = some (.int r t)) (F : Fr h₀ L h m) (N : News h₀ L h news) :
    FewAt mm h₀ L m news s .next { s with heap := h, toks := tk } := by
  refine ⟨rfl, r, t, hB, h, tk, rfl, ?_, N⟩
  have e : (fun y => if y = Str.ofString "few" then some (Value.int r t) else m y) = m := by
    funext y
    by_cases hy : y = Str.ofString "few"
    · rw [if_pos hy, hy, hold]
    · rw [if_neg hy]
  rw [e]
  exact F
theorem bnd_zero {mm f : Int} (h : Bnd mm f) : Bnd mm 0 := ⟨h.1, by omega, by omega⟩
end
section
variable {prog : Program} {w : World} {A : Around} {E : Value → Shared → Prop} {s : Shared} {n : Int} {t : Tok} {Q : Value → Shared → Prop}
theorem my_chr (h : Q (.str ⟨#[(97 + n.fmod 26).toNat]⟩ s.toks) { s with toks := s.toks + 1 }) : wpAny (model prog w) A (call (.builtin "chr") [.int (97 + n.fmod 26) t]) Q E s := by
  have m0 : 0 ≤ n.fmod 26 := Int.fmod_nonneg_of_pos _ (by decide)
  have m1 : n.fmod 26 < 26 := Int.fmod_lt_of_pos _ (by decide)
  exact chr_of_range (by omega) (by omega) h
end
theorem strOk_app {x y : Str} (hx : PyData.strOk x = true) (hy : PyData.strOk y = true) : PyData.strOk (x ++ y) = true := by
  unfold PyData.strOk at *
  rw [Str.cps_append, Array.all_append, hx, hy]
  rfl
theorem ok_apage : PyData.strOk (Str.ofString "a page") = true := by decide +kernel
theorem ok_of : PyData.strOk (Str.ofString " of\n\t\n") = true := by decide +kernel
theorem ok_zip : PyData.strOk (Str.ofString "zip") = true := by decide +kernel
theorem ok_n : PyData.strOk (Str.ofString "\n") = true := by decide +kernel
theorem ok_e : PyData.strOk (Str.ofString "") = true := by decide +kernel
theorem letters_ok {x : Str} (h : Letters x) : PyData.strOk x = true := by
  unfold PyData.strOk
  rw [← Array.all_toList, List.all_eq_true]
  intro c hc
  have := h.2 c hc
  simp
  omega
section
variable {prog : Program} {w : World} {A : Around} {E : Value → Shared → Prop} {s : Shared} {h₀ : Heap} {L D1 D2 : Addr} {news : List (Addr × Obj)} {x y : Str} {t1 t2 t3 t4 : Tok} {c1 c2 : Nat} {Q : Value → Shared → Prop}
theorem my_ne (N : News h₀ L s.heap news) (h1 : (D1, ({ cls := .type "tuple", data := .seq #[.str x t1, .str y t2] c1 } : Obj)) ∈ news) (h2 : (D2, ({ cls := .type "tuple", data := .seq #[.str x t3, .str y t4] c2 } : Obj)) ∈ news)
    (hx : PyData.strOk x = true) (hy : PyData.strOk y = true) (hu : A.units + 64 < cLine) (h : Q (.bool false) s) : wpAny (model prog w) A (compareOp .NotEq (.ref D1) (.ref D2)) Q E s := by
  have r1 := reads_tuple_at (N _ h1).1 rfl rfl (ReadsAll.cons (Reads.str _ _) (ReadsAll.cons (Reads.str _ _) ReadsAll.nil))
  have r2 := reads_tuple_at (N _ h2).1 rfl rfl (ReadsAll.cons (Reads.str _ _) (ReadsAll.cons (Reads.str _ _) ReadsAll.nil))
  have hs : SeqAt.shaped (.tuple [.str x, .str y]) = true := by
    simp [SeqAt.shaped, PyData.canLay0, PyData.canLayAll0, PyData.depth, PyData.depthAll, hx, hy]
  refine ne_dataH r1 r2 hs hs hu ?_
  have e : PyData.eqv (.tuple [.str x, .str y]) (.tuple [.str x, .str y]) = true := by
    simp [PyData.eqv, PyData.eqvAll]
  rw [e]
  exact h
end
theorem my_lenS {prog : Program} {w : World} {A : Around} {E : Value → Shared → Prop} {s : Shared} {l : Str} {t : Tok} {Q : Value → Shared → Prop} (hL : Letters l) (h : ∀ t' k, Q (.int ((9 + l.length : Nat) : Int) t') { s with toks := k }) :
    wpAny (model prog w) A (call (.builtin "len") [.str (Str.ofString " of\n\t\n" ++ (l ++ Str.ofString "zip")) t]) Q E s := by
  have h1 := hL.1
  have e : (Str.ofString " of\n\t\n" ++ (l ++ Str.ofString "zip")).length = 9 + l.length := by
    simp only [Str.length_append, len_of, len_zip]; omega
  refine P.len_str (by rw [e]; omega) ?_
  rw [e]
  exact h _ _
section
variable {prog : Program} {w : World} {A : Around} {E : Value → Shared → Prop} {s : Shared} {t u : Tok} {Q : Value → Shared → Prop} {many few told : Int} {ns : List Int} {l : Str}
theorem my_xor (hF : Bnd many few) (hT : told = ((iterN mulN (rangeKs 0 (29 + 8 * (((9 + l.length : Nat) : Int) + 4) - 0).toNat).length (cubeZ few).toNat : Nat) : Int)) (h : Q (.int told s.toks) { s with toks := s.toks + 1 }) :
    wpAny (model prog w) A (binaryOp .BitXor
      (.int (sumZ (Str.ofString "\n\t" ++ (Str.ofString "a page" ++ l) ++ Str.ofString "\n" ++ whiteS ns (Int.toNat 0) 40 ++ Str.ofString "\n" ++ (Str.ofString " of\n\t\n" ++ (l ++ Str.ofString "zip")) ++ Str.ofString " \n")) t)
      (.int (sumZ (Str.ofString "\n\t" ++ (Str.ofString "a page" ++ l) ++ Str.ofString "\n" ++ whiteS ns (flipZ many few (rangeKs 0 (8 - 0 : Int).toNat).length).toNat 40 ++ Str.ofString "\n" ++ (Str.ofString " of\n\t\n" ++ (l ++ Str.ofString "zip")) ++ Str.ofString " \n")) u)) Q E s :=
  xor_int (by rw [law_told hF ns l, ← hT]; exact h)
end
local macro_rules | `(tactic| walk_at "InvEndN") => `(tactic| k_dflt kst_close)
local macro_rules | `(tactic| walk_at "call ref") => `(tactic| (k_here; (with_reducible show wpAny _ _ (call (Value.ref 42) [Value.int _ _]) _ _ _); k_dflt (refine' mul_use ?kO ?k1 ?k2 ?k3 ?k4 ?k5 ?kK ?kp ?kd ?ku ?_; (case kO => assumption); (case k1 => k_asm); (case k2 => k_asm); (case k3 => k_asm); (case k4 => k_asm); (case k5 => k_asm); (case kK => first | exact rfl | assumption); (case kp => first | assumption | omega); (case kd => ktr_room); (case ku => ktr_units); (intro t9 h9 tk9 F9 N9 hnn9; (try dsimp only); (try k_fold)))))
local macro_rules | `(tactic| walk_at "call ref") => `(tactic| (k_here; (with_reducible show wpAny _ _ (call (Value.ref 28) [Value.int _ _]) _ _ _); k_dflt (refine' gen_use ?kO ?k1 ?k2 ?k3 ?k4 ?k5 ?kK ?kp ?kd ?ku ?_; (case kO => assumption); (case k1 => k_asm); (case k2 => k_asm); (case k3 => k_asm); (case k4 => k_asm); (case k5 => k_asm); (case kK => first | exact rfl | assumption); (case kp => exact sum_nn (by assumption) _); (case kd => ktr_room); (case ku => ktr_units); (intro t9 h9 tk9 F9 N9; (try dsimp only); (try k_fold)))))
local macro_rules | `(tactic| walk_at "call builtin:len") => `(tactic| (k_here; (with_reducible show wpAny _ _ (call (Value.builtin "len") [Value.ref _]) _ _ _); k_dflt (refine' my_len ?k1 ?k2 ?k3 ?k4 ?_; (case k1 => k_asm); (case k2 => first | assumption | exact List.mem_append_left _ (by assumption)); (case k3 => assumption); (case k4 => assumption); k_whole)))
local macro_rules | `(tactic| walk_at "subscriptTail") => `(tactic| (k_here; (with_reducible show wpAny _ _ (subscriptTail _ _ (Value.ref _) (Value.int _ _)) _ _ _); k_dflt (refine' my_item ?k1 ?k2 ?k3 ?k4 ?k5 ?k6 ?_ ?k7 ?k8; (case k1 => k_asm); (case k2 => first | assumption | exact List.mem_append_left _ (by assumption)); (case k3 => assumption); (case k4 => assumption); (case k5 => omega); (case k6 => omega); (case k7 => with_unfolding_all rfl); (case k8 => (intro _; with_unfolding_all rfl)); k_whole; intro t9)))
local macro_rules | `(tactic| walk_at "pyIter ref") => `(tactic| k_extra "pyIter ref")
local macro_rules | `(tactic| walk_at "call builtin:str.strip") => `(tactic| (k_here; (with_reducible show wpAny _ _ (call (Value.builtin "str.strip") [Value.str _ _]) _ _ _); (refine KXw.strip (by assumption) (by (rw [PySem.sizeLine_eq]; omega)) ?_; intro _ _)))
local macro_rules | `(tactic| walk_at "call builtin:str.rstrip") => `(tactic| (k_here; (with_reducible show wpAny _ _ (call (Value.builtin "str.rstrip") [Value.str _ _]) _ _ _); (refine KXw.rstrip (by assumption) (by (rw [PySem.sizeLine_eq]; omega)) ?_; intro _ _)))
local macro_rules | `(tactic| walk_at "call builtin:str.split") => `(tactic| (k_here; (with_reducible show wpAny _ _ (call (Value.builtin "str.split") _) _ _ _); (refine my_split (by k_asm) (by k_asm) (by decide) (by (rw [PySem.sizeLine_eq]; omega)) (by assumption) ?_; intro D' l' h' k' e' a' F' N' l1; (try k_lt l1); (kspl_open e'); (simp only [strValues, List.map_cons, List.map_nil] at N' a'))))
local macro_rules | `(tactic| walk_at "pyIter ref") => `(tactic| k_dflt (k_extra "pyIter ref"))
local macro_rules | `(tactic| walk_at "InvEndN") => `(tactic| k_dflt kst_close)
local macro_rules | `(tactic| walk_at "eval Call") => `(tactic| (k_here; (with_reducible show wpAny _ _ (eval (Expr.Call (Expr.Name (Str.ofString "_law_multiplied") _) _ _ _) _) _ _ _); k_dflt (refine Call_ ?_)))
local macro_rules | `(tactic| walk_at "call builtin:chr") => `(tactic| (k_here; refine my_chr ?_))
local macro_rules | `(tactic| walk_at "CompSrc") => `(tactic| (k_here; (try k_fmods); k_dflt ((refine LCg.CompSrc.ledger (by rfl) (by k_asm) (by k_asm) (by k_mem) (by kcf_size) ?_; intro g'; (refine' kct_list letterOf (by first | assumption | l_ints) (fun k' t' I' oI' C' oC' D' m' ys' h' tk' E' hk' hC' hx' F' N' off' ne' => ?_) ?_); (all_goals (try (simp only [LCg.Off3, and_true] at off'))); (all_goals (try ((show KPfMark → _); intro hMark'))); kcf_last))))
local macro_rules | `(tactic| walk_at "KCtEl") => `(tactic| exact kct_el rfl (by with_unfolding_all rfl) (by with_unfolding_all rfl))
local macro_rules | `(tactic| walk_at "binaryOp Add str str") => `(tactic| (k_here; (refine add_str (hsz := ?kz) ?_; (case kz => ((simp only [Str.length_append, whiteS_length, len_apage, len_zip, len_of, len_nt, len_n, len_sn, len_nn, PySem.sizeLine_eq]); omega)); intro _ _)))
local macro_rules | `(tactic| walk_at "call ref") => `(tactic| (k_here; (with_reducible show wpAny _ _ (call (Value.ref 42) [Value.int _ _]) _ _ _); k_dflt (refine' mul_use ?kO ?k1 ?k2 ?k3 ?k4 ?k5 ?kK ?kp ?kd ?ku ?_; (case kO => assumption); (case k1 => k_asm); (case k2 => k_asm); (case k3 => k_asm); (case k4 => k_asm); (case k5 => k_asm); (case kK => first | exact rfl | assumption); (case kd => ktr_room); (case ku => ktr_units); (case kp => first | assumption | omega); (intro t9 h9 tk9 F9 N9 hnn9; (try dsimp only); (try k_fold)))))
local macro_rules | `(tactic| walk_at "call ref") => `(tactic| (k_here; (with_reducible show wpAny _ _ (call (Value.ref 49) [Value.int _ _]) _ _ _); k_dflt (refine' sq_use ?kO ?k1 ?k2 ?k3 ?k4 ?k5 ?kK ?kp ?kd ?ku ?_; (case kO => assumption); (case k1 => k_asm); (case k2 => k_asm); (case k3 => k_asm); (case k4 => k_asm); (case k5 => k_asm); (case kK => first | exact rfl | assumption); (case kd => ktr_room); (case ku => ktr_units); (case kp => first | assumption | omega); (intro t9 h9 tk9 F9 N9 hnn9; (try dsimp only); (try k_fold)))))
local macro_rules | `(tactic| walk_at "call ref") => `(tactic| (k_here; (with_reducible show wpAny _ _ (call (Value.ref 35) [Value.str _ _]) _ _ _); k_dflt (refine' sum_use ?kO ?k1 ?k2 ?k3 ?k4 ?k5 ?kK ?kd ?ku ?_; (case kO => assumption); (case k1 => k_asm); (case k2 => k_asm); (case k3 => k_asm); (case k4 => k_asm); (case k5 => k_asm); (case kK => first | exact rfl | assumption); (case kd => ktr_room); (case ku => ktr_units); (intro t9 h9 tk9 F9 N9; (try dsimp only); (try k_fold)))))
local macro_rules | `(tactic| walk_at "call ref") => `(tactic| (k_here; (with_reducible show wpAny _ _ (call (Value.ref 56) [Value.ref _, Value.int _ _]) _ _ _); k_dflt (refine' white_use ?kO ?k1 ?k2 ?k3 ?k4 ?k5 ?kK ?kd ?ku ?km ?ki ?kf ?_; (case kO => assumption); (case k1 => k_asm); (case k2 => k_asm); (case k3 => k_asm); (case k4 => k_asm); (case k5 => k_asm); (case kK => first | exact rfl | assumption); (case kd => ktr_room); (case ku => ktr_units); (case km => k_mem); (case ki => assumption); (case kf => first | exact flipZ_nn _ _ _ | decide); (intro t9 h9 tk9 F9 N9; (try dsimp only); (try k_fold)))))
local macro_rules | `(tactic| walk_at "call ref") => `(tactic| (k_here; (with_reducible show wpAny _ _ (call (Value.ref 21) [Value.str (_ ++ Str.ofString "zip") _]) _ _ _); k_dflt (refine' last_use ?kO ?k1 ?k2 ?k3 ?k4 ?k5 ?kK ?kd ?ku ?kL ?_; (case kO => assumption); (case k1 => k_asm); (case k2 => k_asm); (case k3 => k_asm); (case k4 => k_asm); (case k5 => k_asm); (case kK => first | exact rfl | assumption); (case kd => ktr_room); (case ku => ktr_units); (case kL => assumption); (intro D9 t9 u9 c9 h9 tk9 F9 N9 l9; (try k_lt l9); (try dsimp only); (try k_fold)))))
local macro_rules | `(tactic| walk_at "call ref") => `(tactic| (k_here; (with_reducible show wpAny _ _ (call (Value.ref 21) [Value.str (_ ++ Str.ofString "\n" ++ _) _]) _ _ _); k_dflt (refine' bare_use ?kO ?k1 ?k2 ?k3 ?k4 ?k5 ?kK ?kd ?ku ?kL ?_; (case kO => assumption); (case k1 => k_asm); (case k2 => k_asm); (case k3 => k_asm); (case k4 => k_asm); (case k5 => k_asm); (case kK => first | exact rfl | assumption); (case kd => ktr_room); (case ku => ktr_units); (case kL => assumption); (intro D9 t9 u9 c9 h9 tk9 F9 N9 l9; (try k_lt l9); (try dsimp only); (try k_fold)))))
local macro_rules | `(tactic| walk_at "call ref") => `(tactic| (k_here; (with_reducible show wpAny _ _ (call (Value.ref 21) [Value.str (_ ++ Str.ofString "\n\n" ++ _) _]) _ _ _); k_dflt (refine' empty_use ?kO ?k1 ?k2 ?k3 ?k4 ?k5 ?kK ?kd ?ku ?kL ?_; (case kO => assumption); (case k1 => k_asm); (case k2 => k_asm); (case k3 => k_asm); (case k4 => k_asm); (case k5 => k_asm); (case kK => first | exact rfl | assumption); (case kd => ktr_room); (case ku => ktr_units); (case kL => assumption); (intro D9 t9 u9 c9 h9 tk9 F9 N9 l9; (try k_lt l9); (try dsimp only); (try k_fold)))))
local macro_rules | `(tactic| walk_at "call ref") => `(tactic| (k_here; (with_reducible show wpAny _ _ (call (Value.ref 21) [Value.str (Str.ofString "\n\t" ++ _ ++ _ ++ _ ++ _ ++ _ ++ _) _]) _ _ _); k_dflt (refine' page_use ?kO ?k1 ?k2 ?k3 ?k4 ?k5 ?kK ?kd ?ku ?kL ?kW ?_; (case kO => assumption); (case k1 => k_asm); (case k2 => k_asm); (case k3 => k_asm); (case k4 => k_asm); (case k5 => k_asm); (case kK => first | exact rfl | assumption); (case kd => ktr_room); (case ku => ktr_units); (case kL => assumption); (case kW => exact whiteS_white _ _); (intro D9 t9 u9 c9 h9 tk9 F9 N9 l9; (try k_lt l9); (try dsimp only); (try k_fold)))))
local macro_rules | `(tactic| walk_at "compareOp NotEq ref ref") => `(tactic| (k_here; (with_reducible show wpAny _ _ (compareOp CmpOp.NotEq (Value.ref _) (Value.ref _)) _ _ _); k_dflt (refine' my_ne ?k1 ?k2 ?k3 ?k4 ?k5 ?k6 ?_; (case k1 => k_asm); (case k2 => k_mem); (case k3 => k_mem); (case k4 => (repeat' (with_reducible (first | apply strOk_app | exact letters_ok (by assumption) | exact ok_apage | exact ok_of | exact ok_zip | exact ok_n | exact ok_e)))); (case k5 => (repeat' (with_reducible (first | apply strOk_app | exact letters_ok (by assumption) | exact ok_apage | exact ok_of | exact ok_zip | exact ok_n | exact ok_e)))); (case k6 => ke_room); k_whole)))
theorem law_holds : PySem.Challenge.rw_mq0045_01.Holds := by
  w_on
  o_law
  k_head
  (case hw => w_witness2)
  have hMulOK : MulOK Mine.law_holds.heap_39 := by as_aux_lemma =>
    k_with_none
    constructor
    intro prog p loose w mean mg mb v t news dp un gd cn cs a ccd cl outer A₀ base h₀ L m s Q E B F X N T hk hv hdp hun hret
    refine wpAny_call ?_
    k_dflt cell_enter
    k_steps
    · exact cb_retI (Q := Q) hret (mulZ_odd hv (by assumption)) (by k_asm) (by k_asm)
    · exact cb_retI (Q := Q) hret (mulZ_even hv (by assumption)) (by k_asm) (by k_asm)
  have hGenOK : GenOK Mine.law_holds.heap_39 := by as_aux_lemma =>
    k_with_none
    constructor
    intro prog p loose w mean mg mb v t news dp un gd cn cs a ccd cl outer A₀ base h₀ L m s Q E B F X N T hk hv hdp hun hret
    refine wpAny_call ?_
    k_dflt cell_enter
    k_with "state" => first | exact gen_start hv | exact gen_odd (by assumption) (by assumption) | exact gen_even (by assumption) (by assumption)
    k_with "pyIter ref" => k_state_short (fun pre c => c = ((iterN mulN pre.length v.toNat : Nat) : Int)) "crc"
    k_steps
    exact cb_retI (Q := Q) hret (gen_end (by assumption)) (by k_asm) (by k_asm)
  have hSqOK : SqOK Mine.law_holds.heap_39 := by as_aux_lemma =>
    k_with_none
    constructor
    intro prog p loose w mean mg mb v t news dp un gd cn cs a ccd cl outer A₀ base h₀ L m s Q E B F X N T hk hv hdp hun hret
    refine wpAny_call ?_
    k_dflt cell_enter
    k_with "state" => first | exact sq_start | exact sq_set hv (by assumption) (by assumption) (by assumption) | exact sq_not hv (by assumption) (by assumption) (by assumption)
    k_with "pyIter ref" => k_state (fun pre c => c = ((sqN v.toNat pre.length : Nat) : Int)) "made"
    k_steps
    exact cb_retI (Q := Q) hret (sq_end (by assumption)) (by k_asm) (by k_asm)
  have hSumOK : SumOK Mine.law_holds.heap_39 := by as_aux_lemma =>
    k_with_none
    constructor
    intro prog p loose w mean mg mb x t news dp un gd cn cs a ccd cl outer A₀ base h₀ L m s Q E B F X N T hk hdp hun hret
    refine wpAny_call ?_
    k_dflt cell_enter
    k_with "state" => first | exact sum_start | exact sum_turn (by assumption)
    k_with "pyIter str" => k_state (fun pre c => c = ((sumL pre : Nat) : Int)) "state"
    k_steps
    exact cb_retI (Q := Q) hret (sum_end (by assumption)) (by k_asm) (by k_asm)
  have hWhiteOK : WhiteOK Mine.law_holds.heap_39 := by as_aux_lemma =>
    k_with_none
    constructor
    intro prog p loose w mean mg mb f t l vs ns nn news dp un gd cn cs a ccd cl outer A₀ base h₀ L m s Q E B F X N T hk hdp hun hm hi hlen hf hret
    refine wpAny_call ?_
    k_dflt cell_enter
    k_with "state" => first
      | exact white_start _ _
      | exact white_cr (by first | assumption | exact ⟨by assumption, by assumption⟩) (tab_ge (by assumption) (by assumption)) (flip_t hf (by assumption) (by assumption) (by assumption))
      | exact white_tab (by first | assumption | exact ⟨by assumption, by assumption⟩) (tab_ge (by assumption) (by assumption)) (flip_f hf (by assumption) (by assumption) (by assumption))
      | exact white_cr (by first | assumption | exact ⟨by assumption, by assumption⟩) (tab_ne (by assumption) (by assumption) (by assumption)) (flip_t hf (by assumption) (by assumption) (by assumption))
      | exact white_tab (by first | assumption | exact ⟨by assumption, by assumption⟩) (tab_eq (by assumption) (by assumption) (by assumption)) (flip_t hf (by assumption) (by assumption) (by assumption))
      | exact white_tab (by first | assumption | exact ⟨by assumption, by assumption⟩) (tab_ne (by assumption) (by assumption) (by assumption)) (flip_f hf (by assumption) (by assumption) (by assumption))
      | exact white_cr (by first | assumption | exact ⟨by assumption, by assumption⟩) (tab_eq (by assumption) (by assumption) (by assumption)) (flip_f hf (by assumption) (by assumption) (by assumption))
    k_with "pyIter ref" => k_state (fun pre row => row = whiteS ns f.toNat pre.length ∧ row.length = pre.length) "row"
    k_steps
    exact cb_retS (Q := Q) hret (white_end (by assumption)) (by k_asm) (by k_asm)
  have hSplit1OK : Split1OK Mine.law_holds.heap_39 := by as_aux_lemma =>
    k_with_none
    constructor
    intro prog p loose w mean mg mb x y l0 t news dp un gd cn cs a ccd cl outer A₀ base h₀ L m s Q E B F X N T hk hdp hun hx hy hstrip hsplit hret
    refine wpAny_call ?_
    k_dflt cell_enter
    k_steps
    exact hret _ _ _ _ _ _ (by k_asm) (cb_drop (by assumption) (by (intro p hp; simp only [List.mem_cons] at hp ⊢; rcases hp with h | h; exact Or.inl h; (repeat (first | exact h | apply Or.inr))))) (by (intro p hp; exact kst_ltOf (And.right (by assumption)) p hp))
  have hSplit4OK : Split4OK Mine.law_holds.heap_39 := by as_aux_lemma =>
    k_with_none
    constructor
    intro prog p loose w mean mg mb x y l0 l1 l2 l3 t news dp un gd cn cs a ccd cl outer A₀ base h₀ L m s Q E B F X N T hk hdp hun hx hy hstrip hsplit hl0 hl1 hl2 hl3 hr hret
    refine wpAny_call ?_
    k_dflt cell_enter
    k_steps
    exact hret _ _ _ _ _ _ (by k_asm) (cb_drop (by assumption) (by (intro p hp; simp only [List.mem_cons] at hp ⊢; rcases hp with h | h; exact Or.inl h; (repeat (first | exact h | apply Or.inr))))) (by (intro p hp; first | exact kst_ltOf (And.right (by assumption)) p hp | exact kst_ltOf (And.right (And.right (by assumption))) p hp))
  have hSplit5OK : Split5OK Mine.law_holds.heap_39 := by as_aux_lemma =>
    k_with_none
    constructor
    intro prog p loose w mean mg mb x y l0 l1 l2 l3 l4 t news dp un gd cn cs a ccd cl outer A₀ base h₀ L m s Q E B F X N T hk hdp hun hx hy hstrip hsplit hl0 hl1 hl2 hl3 hl4 hr hret
    refine wpAny_call ?_
    k_dflt cell_enter
    k_steps
    exact hret _ _ _ _ _ _ (by k_asm) (cb_drop (by assumption) (by (intro p hp; simp only [List.mem_cons] at hp ⊢; rcases hp with h | h; exact Or.inl h; (repeat (first | exact h | apply Or.inr))))) (by (intro p hp; first | exact kst_ltOf (And.right (by assumption)) p hp | exact kst_ltOf (And.right (And.right (by assumption))) p hp))
  k_with_none
  w_strict (k_go0; (all_goals try k_fold))
  k_with "state" => first | exact bnd_start | exact bnd_turn (by assumption)
  k_with "pyIter ref" => k_of "n" => k_state (fun pre m f => Bnd m f) "many" "few"
  repeat' ((fail_if_success (with_reducible show wpAny _ _ (exec (Stmt.If _ _ _ _) _) _ _ _)); (first | (k_unfold; (try dsimp only)) | (k_end; kc_close) | walk1 | (dsimp only; walk1) | (leave1; walk_say "STEP leave1"; (try dsimp only)) | fail "no step"))
  rename Bnd _ _ => hB
  refine with_bnd hB fun many few0 e1 e2 => ?_
  subst e1
  subst e2
  refine few_join hB (by k_asm) (by k_asm) ?_ ?_
  · k_steps
    · exact few_set (bnd_zero hB) (by k_asm) (by k_asm)
    · exact few_old hB (by rfl) (by k_asm) (by k_asm)
  · intro few tFew h' tk' hF F' N'
    try dsimp only
    try k_fold
    k_with "state" => first | exact flip_start hF | exact flip_set hF (by assumption) (by assumption) (by assumption) | exact flip_not hF (by assumption) (by assumption) (by assumption)
    k_with "pyIter ref" => k_of "k" => k_state_short (fun pre c => c = flipZ many few pre.length) "flips"
    repeat' ((fail_if_success (with_reducible show wpAny _ _ (call (Value.builtin "str.join") _) _ _ _)); (first | (k_unfold; (try dsimp only)) | (k_end; kc_close) | walk1 | (dsimp only; walk1) | (leave1; walk_say "STEP leave1"; (try dsimp only)) | fail "no step"))
    rename _ = flipZ _ _ _ => hfl
    subst hfl
    refine my_join (by is_list) (by assumption) ?_
    rename CarriedAll _ _ => hCar
    clear hCar
    intro letters tL kL hL
    have hL1 := hL.1
    try dsimp only
    try k_fold
    repeat' ((fail_if_success (with_reducible show wpAny _ _ (execs (Stmt.Assign [Expr.Name (Str.ofString "told") _] _ _ :: _) _) _ _ _)); (first | (k_unfold; (try dsimp only)) | (k_end; kc_close) | walk1 | (dsimp only; walk1) | (leave1; walk_say "STEP leave1"; (try dsimp only)) | fail "no step"))
    dsimp only
    k_with_none
    k_with "state" => first | exact rev_start | exact rev_turn hF (by assumption) (by assumption) | exact told_start few | exact told_turn (by assumption)
    k_with "pyIter ref" => k_of "k" => k_state (fun pre c => c = ((revN few.toNat pre.length : Nat) : Int)) "told"
    repeat' ((fail_if_success (with_reducible show wpAny _ _ (call (Value.ref 49) _) _ _ _)); (first | (k_unfold; (try dsimp only)) | (k_end; kc_close) | walk1 | (dsimp only; walk1) | (leave1; walk_say "STEP leave1"; (try dsimp only)) | fail "no step"))
    rename _ = Nat.cast (revN _ _) => hrv
    subst hrv
    repeat' ((fail_if_success (with_reducible show wpAny _ _ (call (Value.builtin "len") _) _ _ _)); (first | (k_unfold; (try dsimp only)) | (k_end; kc_close) | walk1 | (dsimp only; walk1) | (leave1; walk_say "STEP leave1"; (try dsimp only)) | fail "no step"))
    refine my_lenS hL ?_
    intro tN kN
    k_with "pyIter ref" => k_of "_" => k_state (fun pre c => c = ((iterN mulN pre.length (cubeZ few).toNat : Nat) : Int)) "told"
    try dsimp only
    try k_fold
    repeat' ((fail_if_success (with_reducible show wpAny _ _ (binaryOp Operator.BitXor (Value.int (sumZ _) _) (Value.int (sumZ _) _)) _ _ _)); (first | (k_unfold; (try dsimp only)) | (k_end; kc_close) | walk1 | (dsimp only; walk1) | (leave1; walk_say "STEP leave1"; (try dsimp only)) | fail "no step"))
    rename _ = Nat.cast (iterN _ _ _) => hT
    refine my_xor hF hT ?_
    have hz := hT ▸ law_zero hF _
    k_steps
    all_goals trace_state
    all_goals walk_report
end Mine
theorem PySem.Challenge.cw_mq0045_01_holds : PySem.Challenge.rw_mq0045_01.Holds :=
  Mine.law_holds
