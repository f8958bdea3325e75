import PyProof.Rows.All
import Wide.All
import OpenK.AllK
import Wide.FinOn
import Lean
import PySem.Challenge.RW_aw0020_01
open PySem PySem.W PyProof.Rows PySem.Calls
set_option Elab.async false
set_option maxRecDepth 100000
set_option maxHeartbeats 8000000
set_option rowWalk.seconds 0
namespace Mine
section
/- the program's objects behind its top, as a constant (hd.heap_1): the head itself is proved once, at the end -/
local macro_rules | `(tactic| o_head $_h) => `(tactic| assumption)
theorem hd (h : PySem.Challenge.rw_aw0020_01.row.Holds) : PySem.Challenge.rw_aw0020_01.row.Holds := by k_head
end
local macro_rules | `(tactic| k_all) => `(tactic| assumption)
/- one step of the walk -/
local macro_rules | `(tactic| walk_at "mine.step") => `(tactic| focus (first | (k_unfold; (try dsimp only)) | (k_end; wrow_close) | walk1 | (dsimp only; walk1) | (leave1; try dsimp only) | fail "no step"))
section PM
/-- the octets of a number, the lowest first -/
def octs (k : Nat) (N : Int) : List Int := (List.range k).map fun j => Int.fmod (Int.fdiv N (256 ^ j)) 256
/-- the bit of a number at a place -/
def bitOf (N : Int) (p : Nat) : Int := Int.fmod (Int.fdiv N (2 ^ p)) 2
theorem octs_length (k : Nat) (N : Int) : (octs k N).length = k := by simp [octs]
theorem pow256_pos (i : Nat) : (0 : Int) < 256 ^ i := Int.pow_pos (by decide)
theorem pow2_pos (i : Nat) : (0 : Int) < 2 ^ i := Int.pow_pos (by decide)
theorem oct_e (N : Int) (i : Nat) : Int.fmod (Int.fdiv N (256 ^ i)) 256 = N / 256 ^ i % 256 := by
  rw [Int.fdiv_eq_ediv_of_nonneg _ (Int.le_of_lt (pow256_pos i)), Int.fmod_eq_emod_of_nonneg _ (by decide)]
theorem bit_e (N : Int) (p : Nat) : bitOf N p = N / 2 ^ p % 2 := by
  unfold bitOf
  rw [Int.fdiv_eq_ediv_of_nonneg _ (Int.le_of_lt (pow2_pos p)), Int.fmod_eq_emod_of_nonneg _ (by decide)]
theorem octs_getElem? {k : Nat} {N : Int} {i : Nat} (h : i < k) : (octs k N)[i]? = some (N / 256 ^ i % 256) := by
  simp [octs, h, oct_e]
theorem octs_getD {k : Nat} {N : Int} {i : Nat} (h : i < k) : (octs k N).getD i 0 = N / 256 ^ i % 256 := by
  rw [List.getD_eq_getElem?_getD, octs_getElem? h]; rfl
theorem bit_cases (N : Int) (p : Nat) : bitOf N p = 0 ∨ bitOf N p = 1 := by
  rw [bit_e]; omega
theorem pow_split (p : Nat) : (2 : Int) ^ p = 2 ^ (p % 8) * 256 ^ (p / 8) := by
  have e : (256 : Int) = 2 ^ 8 := by decide
  rw [e, ← Int.pow_mul, ← Int.pow_add]
  congr 1; omega
/-- a bit read in its octet -/
theorem bit_of_oct (N : Int) (p : Nat) : N / 256 ^ (p / 8) % 256 / 2 ^ (p % 8) % 2 = bitOf N p := by
  rw [bit_e, pow_split p, Int.mul_comm (2 ^ (p % 8)), ← Int.ediv_ediv_of_nonneg (Int.le_of_lt (pow256_pos _))]
  generalize N / 256 ^ (p / 8) = m
  have hj : p % 8 < 8 := Nat.mod_lt _ (by decide)
  generalize p % 8 = j at *
  have hP : (2 : Int) ^ j ≠ 0 := Int.ne_of_gt (pow2_pos j)
  have hR : (256 : Int) = 2 ^ j * (2 * 2 ^ (7 - j)) := by
    have e : (2 : Int) ^ j * (2 * 2 ^ (7 - j)) = 2 ^ (j + (1 + (7 - j))) := by rw [Int.pow_add, Int.pow_add, Int.pow_one]
    have e2 : j + (1 + (7 - j)) = 8 := by omega
    rw [e, e2]; decide
  have h : m % 256 = m + 2 ^ j * (-(2 * (2 ^ (7 - j) * (m / 256)))) := by
    have h1 := Int.emod_def m 256
    have h2 : (256 : Int) * (m / 256) = 2 ^ j * (2 * (2 ^ (7 - j) * (m / 256))) := by
      rw [← Int.mul_assoc 2, ← Int.mul_assoc (2 ^ j), ← hR]
    rw [h1, h2, Int.mul_neg]
    omega
  rw [h, Int.add_mul_ediv_left _ _ hP]
  generalize 2 ^ (7 - j) * (m / 256) = c
  omega
/-- one octet changed by one bit -/
theorem oct_step (N d : Int) (p i : Nat) (h0 : 0 ≤ N / 256 ^ (p / 8) % 256 + d * 2 ^ (p % 8)) (h1 : N / 256 ^ (p / 8) % 256 + d * 2 ^ (p % 8) < 256) :
    (N + d * 2 ^ p) / 256 ^ i % 256 = if i = p / 8 then N / 256 ^ (p / 8) % 256 + d * 2 ^ (p % 8) else N / 256 ^ i % 256 := by
  have e : d * 2 ^ p = d * 2 ^ (p % 8) * 256 ^ (p / 8) := by rw [pow_split p, Int.mul_assoc]
  rw [e]
  generalize p / 8 = q at *
  generalize d * 2 ^ (p % 8) = y at *
  have hq : (N + y * 256 ^ q) / 256 ^ q = N / 256 ^ q + y := Int.add_mul_ediv_right _ _ (Int.ne_of_gt (pow256_pos q))
  rcases Nat.lt_trichotomy i q with h | rfl | h
  · rw [if_neg (by omega)]
    have e2 : (256 : Int) ^ q = 256 * 256 ^ (q - i - 1) * 256 ^ i := by
      have : (256 : Int) * 256 ^ (q - i - 1) * 256 ^ i = 256 ^ (1 + (q - i - 1) + i) := by rw [Int.pow_add, Int.pow_add, Int.pow_one]
      rw [this]; congr 1; omega
    rw [e2, ← Int.mul_assoc, Int.add_mul_ediv_right _ _ (Int.ne_of_gt (pow256_pos i)), ← Int.mul_assoc, Int.mul_comm y 256, Int.mul_assoc, Int.add_mul_emod_self_left]
  · rw [if_pos rfl, hq]
    omega
  · rw [if_neg (by omega)]
    have e3 : (256 : Int) ^ i = 256 ^ q * (256 * 256 ^ (i - q - 1)) := by
      have : (256 : Int) ^ q * (256 * 256 ^ (i - q - 1)) = 256 ^ (q + (1 + (i - q - 1))) := by rw [Int.pow_add, Int.pow_add, Int.pow_one]
      rw [this]; congr 1; omega
    have p1 : (0 : Int) ≤ 256 ^ q := Int.le_of_lt (pow256_pos q)
    rw [e3, ← Int.ediv_ediv_of_nonneg p1, ← Int.ediv_ediv_of_nonneg p1, hq, ← Int.ediv_ediv_of_nonneg (by decide), ← Int.ediv_ediv_of_nonneg (by decide)]
    have : (N / 256 ^ q + y) / 256 = N / 256 ^ q / 256 := by omega
    rw [this]
theorem octs_step {k : Nat} (N d : Int) (p : Nat) (_hp : p / 8 < k) (h0 : 0 ≤ N / 256 ^ (p / 8) % 256 + d * 2 ^ (p % 8)) (h1 : N / 256 ^ (p / 8) % 256 + d * 2 ^ (p % 8) < 256) :
    (octs k N).set (p / 8) (N / 256 ^ (p / 8) % 256 + d * 2 ^ (p % 8)) = octs k (N + d * 2 ^ p) := by
  apply List.ext_getElem?
  intro i
  by_cases hi : i < k
  · rw [octs_getElem? hi, oct_step N d p i h0 h1, List.getElem?_set]
    by_cases e : p / 8 = i
    · rw [if_pos e, if_pos (by rw [octs_length]; omega), if_pos e.symm]
    · rw [if_neg e, if_neg (fun x => e x.symm), octs_getElem? hi]
  · rw [List.getElem?_eq_none (by rw [List.length_set, octs_length]; omega), List.getElem?_eq_none (by rw [octs_length]; omega)]
/-- a bit put at a place below K keeps a number below 2 ^ K -/
theorem put_boundK {x v : Int} {j K : Nat} (h0 : 0 ≤ x) (h1 : x < 2 ^ K) (hj : j < K) (hv : v = 0 ∨ v = 1) : 0 ≤ x + (v - x / 2 ^ j % 2) * 2 ^ j ∧ x + (v - x / 2 ^ j % 2) * 2 ^ j < 2 ^ K := by
  have hP : (0 : Int) < 2 ^ j := pow2_pos j
  have hR : (2 : Int) ^ K = 2 ^ j * (2 * 2 ^ (K - 1 - j)) := by
    have e : (2 : Int) ^ j * (2 * 2 ^ (K - 1 - j)) = 2 ^ (j + (1 + (K - 1 - j))) := by rw [Int.pow_add, Int.pow_add, Int.pow_one]
    have e2 : j + (1 + (K - 1 - j)) = K := by omega
    rw [e, e2]
  have hN := Int.mul_ediv_add_emod x (2 ^ j)
  have hm0 := Int.emod_nonneg x (Int.ne_of_gt hP)
  have hm1 := Int.emod_lt_of_pos x hP
  have hq0 : 0 ≤ x / 2 ^ j := Int.ediv_nonneg h0 (Int.le_of_lt hP)
  have hq1 : x / 2 ^ j < 2 * 2 ^ (K - 1 - j) := by
    apply Int.ediv_lt_of_lt_mul hP
    rw [Int.mul_comm, ← hR]; exact h1
  rw [hR]
  generalize (2 : Int) ^ j = P at *
  generalize (2 : Int) ^ (K - 1 - j) = R at *
  generalize x / P = q at *
  generalize x % P = r at *
  have hq' : 0 ≤ q + (v - q % 2) ∧ q + (v - q % 2) ≤ 2 * R - 1 := by rcases hv with rfl | rfl <;> omega
  have e : x + (v - q % 2) * P = P * (q + (v - q % 2)) + r := by
    rw [Int.mul_add, Int.mul_comm P (v - q % 2)]; omega
  rw [e]
  have b0 : 0 ≤ P * (q + (v - q % 2)) := Int.mul_nonneg (Int.le_of_lt hP) hq'.1
  have b1 : P * (q + (v - q % 2)) ≤ P * (2 * R - 1) := Int.mul_le_mul_of_nonneg_left hq'.2 (Int.le_of_lt hP)
  rw [Int.mul_sub, Int.mul_one] at b1
  omega
theorem set_bound (N : Int) (p : Nat) (v : Int) (hv : v = 0 ∨ v = 1) :
    0 ≤ N / 256 ^ (p / 8) % 256 + (v - bitOf N p) * 2 ^ (p % 8) ∧ N / 256 ^ (p / 8) % 256 + (v - bitOf N p) * 2 ^ (p % 8) < 256 := by
  rw [← bit_of_oct]
  exact put_boundK (K := 8) (Int.emod_nonneg _ (by decide)) (Int.emod_lt_of_pos _ (by decide)) (Nat.mod_lt _ (by decide)) hv
/-- what the octets are when the bit at a place is set to v -/
theorem octs_put {k : Nat} (N : Int) (p : Nat) (v : Int) (hv : v = 0 ∨ v = 1) (hp : p / 8 < k) :
    (octs k N).set (p / 8) (N / 256 ^ (p / 8) % 256 + (v - bitOf N p) * 2 ^ (p % 8)) = octs k (N + (v - bitOf N p) * 2 ^ p) :=
  octs_step N _ p hp (set_bound N p v hv).1 (set_bound N p v hv).2
theorem and_pow (B : Int) (j : Nat) : Builtin.bitAnd B (1 * 2 ^ j) = B / 2 ^ j % 2 * 2 ^ j := by
  rw [Int.one_mul]; exact kbt_bit B j
theorem or_oct (N : Int) (p : Nat) : Builtin.bitOr (N / 256 ^ (p / 8) % 256) (1 * 2 ^ (p % 8)) = N / 256 ^ (p / 8) % 256 + (1 - bitOf N p) * 2 ^ (p % 8) := by
  rw [bitOr_and, and_pow, bit_of_oct, Int.sub_mul]; omega
theorem clear_oct (N : Int) (p : Nat) : Builtin.bitAnd (N / 256 ^ (p / 8) % 256) (Builtin.bitNot (1 * 2 ^ (p % 8))) = N / 256 ^ (p / 8) % 256 + (0 - bitOf N p) * 2 ^ (p % 8) := by
  rw [bitAnd_not, and_pow, bit_of_oct, Int.sub_mul]; omega
theorem octs_zero (k : Nat) : octs k 0 = List.replicate k 0 := by
  apply List.ext_getElem?
  intro i
  by_cases hi : i < k
  · rw [octs_getElem? hi, List.getElem?_replicate, if_pos hi]; simp
  · rw [List.getElem?_eq_none (by rw [octs_length]; omega), List.getElem?_eq_none (by rw [List.length_replicate]; omega)]
theorem place_facts {place : Int} (h0 : 0 ≤ place) : (Int.fdiv place 8).toNat = place.toNat / 8 ∧ (Int.fmod place 8).toNat = place.toNat % 8 := by
  rw [Int.fdiv_eq_ediv_of_nonneg _ (by decide), Int.fmod_eq_emod_of_nonneg _ (by decide)]
  omega
theorem set_fact {k : Nat} {N place sz : Int} (h0 : ¬ place < 0) (h1 : ¬ sz ≤ place) (h2 : sz ≤ 8 * k) :
    (octs k N).set (Int.fdiv place 8).toNat (Builtin.bitOr ((octs k N).getD (Int.fdiv place 8).toNat 0) (1 * 2 ^ (Int.fmod place 8).toNat)) = octs k (N + (1 - bitOf N place.toNat) * 2 ^ place.toNat) := by
  obtain ⟨e1, e2⟩ := place_facts (Int.not_lt.mp h0)
  have hp : place.toNat / 8 < k := by omega
  rw [e1, e2, octs_getD hp, or_oct]
  exact octs_put N place.toNat 1 (.inr rfl) hp
theorem clear_fact {k : Nat} {N place sz : Int} (h0 : ¬ place < 0) (h1 : ¬ sz ≤ place) (h2 : sz ≤ 8 * k) :
    (octs k N).set (Int.fdiv place 8).toNat (Builtin.bitAnd ((octs k N).getD (Int.fdiv place 8).toNat 0) (Builtin.bitNot (1 * 2 ^ (Int.fmod place 8).toNat))) = octs k (N + (0 - bitOf N place.toNat) * 2 ^ place.toNat) := by
  obtain ⟨e1, e2⟩ := place_facts (Int.not_lt.mp h0)
  have hp : place.toNat / 8 < k := by omega
  rw [e1, e2, octs_getD hp, clear_oct]
  exact octs_put N place.toNat 0 (.inl rfl) hp
theorem chk {k : Nat} {N place sz : Int} (h0 : ¬ place < 0) (h1 : ¬ sz ≤ place) (h2 : sz ≤ 8 * k) :
    Builtin.bitAnd ((octs k N).getD (Int.fdiv place 8).toNat 0) (1 * 2 ^ (Int.fmod place 8).toNat) = 0 ↔ bitOf N place.toNat = 0 := by
  obtain ⟨e1, e2⟩ := place_facts (Int.not_lt.mp h0)
  have hp : place.toNat / 8 < k := by omega
  rw [e1, e2, octs_getD hp, and_pow, bit_of_oct]
  have := pow2_pos (place.toNat % 8)
  constructor
  · intro h
    rcases Int.mul_eq_zero.mp h with h | h
    · exact h
    · omega
  · intro h; rw [h, Int.zero_mul]
theorem chk0 {k : Nat} {N place sz : Int} (h0 : ¬ place < 0) (h1 : ¬ sz ≤ place) (h2 : sz ≤ 8 * k)
    (h : Builtin.bitAnd ((octs k N).getD (Int.fdiv place 8).toNat 0) (1 * 2 ^ (Int.fmod place 8).toNat) = 0) : bitOf N place.toNat = 0 := (chk h0 h1 h2).mp h
theorem chk1 {k : Nat} {N place sz : Int} (h0 : ¬ place < 0) (h1 : ¬ sz ≤ place) (h2 : sz ≤ 8 * k)
    (h : Builtin.bitAnd ((octs k N).getD (Int.fdiv place 8).toNat 0) (1 * 2 ^ (Int.fmod place 8).toNat) ≠ 0) : bitOf N place.toNat = 1 :=
  (bit_cases N place.toNat).resolve_left fun x => h ((chk h0 h1 h2).mpr x)
/-- what a deed upon a row that stands for N answers (v), and the number behind it (N') -/
def DoneIs (deed place value sz N : Int) (v : Value) (N' : Int) : Prop :=
  (deed = 7 ∧ (∃ t, v = .str (Str.ofString "done") t) ∧ N' = 0) ∨
  (deed = 3 ∧ (value < 0 ∨ 1 < value) ∧ (∃ t, v = .str (Str.ofString "value") t) ∧ N' = N) ∨
  (deed ≠ 7 ∧ ¬ (deed = 3 ∧ (value < 0 ∨ 1 < value)) ∧ (place < 0 ∨ sz ≤ place) ∧ (∃ t, v = .str (Str.ofString "index") t) ∧ N' = N) ∨
  (deed = 6 ∧ ¬ place < 0 ∧ ¬ sz ≤ place ∧ (∃ c, v = .bool c ∧ bitOf N place.toNat = if c then 1 else 0) ∧ N' = N) ∨
  ((deed = 4 ∨ deed = 5) ∧ ¬ place < 0 ∧ ¬ sz ≤ place ∧ (∃ t, v = .int (bitOf N place.toNat) t) ∧ N' = N) ∨
  (deed ≤ 3 ∧ ¬ (deed = 3 ∧ (value < 0 ∨ 1 < value)) ∧ ¬ place < 0 ∧ ¬ sz ≤ place ∧ (∃ t, v = .str (Str.ofString "done") t) ∧
    N' = N + ((if deed = 3 then value else if deed = 2 then 0 else 1) - bitOf N place.toNat) * 2 ^ place.toNat)
theorem meant1 {deed value : Int} (h : deed < 2 ∨ (deed = 3 ∧ value = 1)) : (if deed = 3 then value else if deed = 2 then 0 else 1) = 1 := by
  split <;> (try split) <;> omega
theorem meant0 {deed value : Int} (h : deed = 2 ∨ (deed = 3 ∧ value = 0)) : (if deed = 3 then value else if deed = 2 then 0 else 1) = 0 := by
  split <;> (try split) <;> omega

end PM
section PM2
theorem put_bound {N v : Int} {p : Nat} (h0 : 0 ≤ N) (h1 : N < 1099511627776) (hp : p < 40) (hv : v = 0 ∨ v = 1) :
    0 ≤ N + (v - bitOf N p) * 2 ^ p ∧ N + (v - bitOf N p) * 2 ^ p < 1099511627776 := by
  rw [bit_e]
  exact put_boundK (K := 40) h0 h1 hp hv
theorem set_self {vn : List Value} {nn : List Int} {i : Nat} {N : Int} (h : IntsAre vn nn) (hi : i < nn.length) (hN : nn.getD i 0 = N) : ∃ t, vn = vn.set i (.int N t) := by
  have e : nn[i]? = some N := by
    rw [List.getD_eq_getElem?_getD, List.getElem?_eq_getElem hi] at hN
    rw [List.getElem?_eq_getElem hi]
    exact congrArg some hN
  obtain ⟨t, ht⟩ := h.get i N e
  refine ⟨t, ?_⟩
  have hi' : i < vn.length := by rw [h.length]; exact hi
  apply List.ext_getElem?
  intro j
  rw [List.getElem?_set]
  by_cases hj : i = j
  · subst hj; rw [if_pos rfl, if_pos hi', ht]
  · rw [if_neg hj]
theorem menu_is {deed value : Int} (h0 : 0 ≤ deed) (h1 : ¬ 3 < deed) (h3 : deed ≠ 3) : (if deed = 3 then value else if deed = 2 then 0 else 1) = (List.getD [1, 1, 0] deed.toNat 0 : Int) := by
  have : deed = 0 ∨ deed = 1 ∨ deed = 2 := by omega
  rcases this with rfl | rfl | rfl <;> rfl
theorem menu_bit {deed : Int} (h0 : 0 ≤ deed) (h1 : ¬ 3 < deed) (h3 : deed ≠ 3) : (List.getD [1, 1, 0] deed.toNat 0 : Int) = 0 ∨ (List.getD [1, 1, 0] deed.toNat 0 : Int) = 1 := by
  have : deed = 0 ∨ deed = 1 ∨ deed = 2 := by omega
  rcases this with rfl | rfl | rfl <;> decide
theorem yt_ne {yt : Bool} {X : Int} (h4 : X = if yt = true then 1 else 0) (ha : (yt != (X == 1)) = true) : False := by
  subst h4; cases yt <;> simp at ha
theorem ne6 {deed : Int} (h : deed ≠ 6) (ha : (false != (deed == 6)) = true) : False := by
  rw [beq_false_of_ne h] at ha; cases ha

end PM2
section PB0
section
variable {prog : Program} {w : World} {A₀ A : Around} {s : Shared} {base h₀ : Heap} {L : Addr} {m mg mb : Str → Option Value} {env : Env} {news : List (Addr × Obj)} {K : Frag} {p : Program} {loose : List Str} {mean : ExcName → Option Value}
  {R : Result → Shared → Prop} {name qual : Str} {params : Arguments} {body : List Stmt} {scope : Scope} {dV kV doc pm cdv ct oc : Value} {an od : Option Addr} {osl : Array (Option Value)} {f : Addr} {args : Args} {binds : List (Str × Value)}
/-- entering a def that catches, from a frame of any kind (with cells too) -/
theorem enter_try (B : Below A₀ base [] h₀) (F : Fr h₀ L s.heap m) (X₀ : K.In h₀) (N : News h₀ L s.heap news) (T : Top p loose mean mg mb h₀) (hA : A.frames = some [env]) (hf : env.frame = some L) (hke : env.scope.kind = .function)
    (ho : K.lookup f = some ⟨oc, od, .func (fnOf name qual params body scope dV kV doc pm an cdv ct), osl⟩) (hcd : codeIn K cdv qual = true) (hroom : A.depth < recursionLimit)
    (hbind : BindsTo s (fnOf name qual params body scope dV kV doc pm an cdv ct) args binds) (hloc : ∀ y ∈ binds, scope.names.lookup y.1 = some .local)
    (h : ∀ g L' h₁, Fr h₀ L g m → Fr g L' h₁ (fun y => binds.reverse.lookup y) → News g L' h₁ news → Below A base [env] g → K.In g → Top p loose mean mg mb g → KtsDicts ([env].filterMap (·.frame)) g →
      wpAny (model prog w) (A.deeper (envOf qual scope L' f cdv)) (execs body (envOf qual scope L' f cdv))
        (fun fl s' => LeaveS0 ([env].filterMap (·.frame)) h₀ L m g R (match fl with | .ret v => v | _ => .none) s')
        (fun e s' => wpAny (model prog w) (A.deeper (envOf qual scope L' f cdv)) (leaving (envOf qual scope L' f cdv) e) (fun _ s'' => R (.error e) s'') (fun e' s'' => R (.error e') s'') s')
        { s with heap := h₁, toks := s.toks + binds.length })
    (hco : scope.isCoroutine = false) (hgen : scope.isGenerator = false) (hk : scope.kind = .function)
    (hcell : ∀ x ∈ scope.names, x.2 ≠ .cell) : codeAny (model prog w) A (.call (.ref f) args) R s := by
  have X := X₀.keeps F.keep
  obtain ⟨FG, BG, st, _⟩ := groundX (R := R) B F N hA hf hke
  have fs : ∀ b, b ∈ [env].filterMap (·.frame) → b = L := by
    intro b hb
    obtain ⟨e, he, q⟩ := List.mem_filterMap.mp hb
    rw [List.mem_singleton.mp he, hf] at q
    exact (Option.some.inj q).symm
  refine codeAny_call_def (fd := fnOf name qual params body scope dV kV doc pm an cdv ct) (body := body) (binds := binds) hroom (X _ _ ho) rfl (T.nolimit.keeps F.keep) (codeRec_of X hcd) rfl hbind hcell hloc (fun h₁ hns hk₁ => ?_) hco hgen hk
  obtain ⟨oL, es, ep, hLg, hLd, hLk, hLf⟩ := id FG.ns
  refine wpAny_mono (h _ s.heap.objs.size h₁ FG ⟨hns, fun b o e => hk₁ b o (of_hideAll _ e), Nat.le_of_eq (hideAll_size _ _)⟩
    (fun q hq => ⟨hk₁ _ _ (N q hq).1, Nat.ne_of_lt (Heap.lt_size (N q hq).1), hideAll_none _ (List.mem_map_of_mem hq)⟩) BG (X₀.keeps st) (T.keeps st)
    (fun b hb => by rw [fs b hb]; exact ⟨oL, es, ep, hLg, hLd⟩)) (fun fl s' hl => ?_) fun _ _ y => y
  obtain ⟨g', L', m', news', T', F', N', k⟩ := hl
  obtain ⟨sl, hs⟩ := T'.up hLg
  have nL : h₀.get? L = none := kts_self F
  refine k ⟨⟨_, es, ep, F'.keep _ _ hs, hLd, hLk, hLf⟩, fun b o e => F'.keep b o (T'.other b o (st b o e) fun hb => ?_), F.above⟩ fun q hq => ⟨(N' q hq).1, fun z => ?_, ?_⟩
  · rw [fs b hb, nL] at e; cases e
  · have := (N' q hq).2.2; rw [z, hs] at this; cases this
  · cases z : h₀.get? q.1 with
    | none => rfl
    | some o =>
      obtain ⟨sl', hs'⟩ := T'.up (st _ _ z)
      have := (N' q hq).2.2; rw [hs'] at this; cases this
end
theorem idx_len {i : Int} (h1 : -590295810358705651712 ≤ i) (h2 : i < 590295810358705651712) : (Str.ofString (toString i)).length ≤ 24 := by
  have := @int_text_length_le10 i 21 (by omega) (by omega)
  have e := PySem.ofString_length (toString i)
  omega
theorem idx_fits {i : Int} (h : (Str.ofString (toString i)).length ≤ 24) : (Str.empty ++ Str.ofString "Bitarray index outside of range; index " ++ Str.ofString (toString i) ++ Str.ofString " was provided").length ≤ sizeLine := by
  have h1 : (Str.ofString "Bitarray index outside of range; index ").length = 39 := by decide
  have h2 : (Str.ofString " was provided").length = 13 := by decide
  have h3 : (Str.empty).length = 0 := by decide
  simp only [Str.length_append, h1, h2, h3, PySem.sizeLine_eq]
  omega
abbrev rowD (t1 t2 t3 u1 u3 : Tok) (hs1 hs2 hs3 : Int) (k sz : Int) (b : Addr) : Obj := dictOf [⟨hs1, .str (Str.ofString "_size_bytes") t1, .int k u1⟩, ⟨hs2, .str (Str.ofString "_bitarray") t2, .ref b⟩, ⟨hs3, .str (Str.ofString "_size") t3, .int sz u3⟩] 3

end PB0
section PC3
theorem set_zero {bs : List Int} {n : Nat} (h : n < bs.length) : List.set (List.replicate n 0 ++ List.drop n bs) n 0 = List.replicate (n + 1) 0 ++ List.drop (n + 1) bs := by
  rw [List.set_append_right _ _ (by simp), List.length_replicate, Nat.sub_self, List.drop_eq_getElem_cons h, List.set_cons_zero, List.replicate_succ', List.append_assoc]
  rfl
theorem clear_spec : ∀ {w : World} {p : Program} {loose : List Str} {mean : ExcName → Option Value} {mg mb : Str → Option Value} {A A₀ : Around} {base h₀ : Heap} {env : Env} {outer : List Env} {L : Addr} {m : Str → Option Value} {s : Shared} {R : Result → Shared → Prop}
   {x dx b : Addr} {sz k : Int} {t1 t2 t3 u1 u3 : Tok} {hs1 hs2 hs3 : Int} {vs : List Value} {bs : List Int} {nn : Nat} {others : List (Addr × Obj)},
   Below A₀ base outer h₀ → Fr h₀ L s.heap m → (hd.heap_1 w.params).In h₀ → 
   News h₀ L s.heap ((x, instObj 126 dx) :: (dx, dictOf [⟨hs1, .str (Str.ofString "_size_bytes") t1, .int k u1⟩, ⟨hs2, .str (Str.ofString "_bitarray") t2, .ref b⟩, ⟨hs3, .str (Str.ofString "_size") t3, .int sz u3⟩] 3) :: (b, W.listOf vs.toArray nn) :: others) →
   Top p loose mean mg mb h₀ → A.frames = some (env :: outer) → env.frame = some L → env.scope.kind = .function → A.depth < recursionLimit → A.handled = none →
   IntsAre vs bs → (bs.length : Int) = k → k ≤ 5 → (∀ q ∈ others, q.1 ≠ b) → x ≠ b → dx ≠ b →
   (∀ h' tk own vs', Fr h₀ L h' m → IntsAre vs' (List.replicate bs.length 0) → News h₀ L h' (own ++ (x, instObj 126 dx) :: (dx, dictOf [⟨hs1, .str (Str.ofString "_size_bytes") t1, .int k u1⟩, ⟨hs2, .str (Str.ofString "_bitarray") t2, .ref b⟩, ⟨hs3, .str (Str.ofString "_size") t3, .int sz u3⟩] 3) :: (b, W.listOf vs'.toArray nn) :: others) →
      R (.ok (.ret .none)) { s with heap := h', toks := tk }) →
   codeAny (model PySem.Challenge.rw_aw0020_01.row.prog w) A (.call (.ref 109) ⟨[.ref x], []⟩) R s := by
  k_fill
  w_top off
  intro w p loose mean mg mb A A₀ base h₀ env outer L m s R x dx b sz k t1 t2 t3 u1 u3 hs1 hs2 hs3 vs bs nn others B F X N T hA hf hke hroom hhd hi hlen hk5 hob hxb hdb h
  refine' code_def (binds := [(Str.ofString "self", .ref x)]) B F X N T hA hf hke ?k6 ?k7 hroom ?k9 ?kB ?_ ?c2 ?c3 ?c4 ?c5
  case k6 => k_is
  case k7 => k_is
  case k9 => exact BindsTo.of_eq rfl
  case c5 => decide
  case kB => exact locs rfl
  case c2 => exact rfl
  case c3 => exact rfl
  case c4 => exact rfl
  intro g' L' h' FG' F' N' B' X' T'
  (try dsimp only)
  (try k_fold)
  iterate 12 (try (walk_at "mine.step"))
  rename IsRange _ _ _ _ _ _ _ _ => R9
  rename Fr _ _ _ _ => F9
  rename News _ _ _ _ => N9
  refine kst_range (σ := List Value × List Int) (n := bs.length) (fun c => (x, instObj 126 dx) :: (dx, dictOf [⟨hs1, .str (Str.ofString "_size_bytes") t1, .int k u1⟩, ⟨hs2, .str (Str.ofString "_bitarray") t2, .ref b⟩, ⟨hs3, .str (Str.ofString "_size") t3, .int sz u3⟩] 3) :: (b, W.listOf c.1.toArray nn) :: others) (fun _ => []) (fun c => IntsAre c.1 c.2) [] (fun pre c => c.2 = List.replicate pre.length 0 ++ bs.drop pre.length) (vs, bs) ?hh R9 ?hs ?hn F9 N9 hi (fun _ h => nomatch h) (by simp) ?turn ?done
  case hh => exact hhd
  case hs =>
    have hk6 : k = 0 ∨ k = 1 ∨ k = 2 ∨ k = 3 ∨ k = 4 ∨ k = 5 := by omega
    rcases hk6 with e | e | e | e | e | e <;> rw [e] <;> decide +kernel
  case hn =>
    rw [rangeSize_one]
    split <;> omega
  case turn =>
    dsimp only
    intro c pre k' t u h2 tk own hk1 hk2 hoff hfacts hP F2 N2
    dsimp only [kstB, List.cons_append] at F2 N2
    have hc2 : c.2.length = bs.length := by rw [hP, List.length_append, List.length_replicate, List.length_drop]; omega
    have hoo : ∀ q ∈ others ++ own, q.1 ≠ b := by
      intro q hq
      rcases List.mem_append.mp hq with h1 | h1
      · exact hob q h1
      · exact hoff q h1 b (by simp)
    iterate 8 (try (walk_at "mine.step"))
    rename IntsAre (List.set _ _ _) _ => I9
    rename Fr _ _ _ _ => F9
    rename News _ _ _ _ => N9
    iterate 1 (try (walk_at "mine.step"))
    refine kst_end (c := (c.1.set k'.toNat _, c.2.set k'.toNat 0)) F9 N9 ?e1 ?e2 rfl I9 (fun _ h => nomatch h) ?e3 ?e4
    case e1 => intro q hq; simp only [List.mem_cons, List.mem_append] at hq ⊢; rcases hq with h | h | h | h <;> simp [h]
    case e2 => intro q hq; simp only [List.mem_cons, List.mem_append]; exact .inr (.inr (.inr (.inr hq)))
    case e3 => intro z hz _ _; simp [hz]
    case e4 => 
      dsimp only
      have e1 : k'.toNat = pre.length := by omega
      rw [hP, e1, List.length_append, List.length_singleton]
      exact set_zero hk2
  case done =>
    intro c u h2 tk hfacts hP F2 N2
    dsimp only at F2 N2 ⊢
    iterate 3 (try (walk_at "mine.step"))
    rename Fr h₀ _ _ _ => F9
    rename News h₀ _ _ _ => N9
    rw [hP, rangeKs_length, List.drop_length, List.append_nil] at hfacts
    exact h _ _ [] _ F9 hfacts N9

end PC3
section PC2
local macro_rules | `(tactic| walk_at "joinParts") => `(tactic| ((refine joinParts_nilE ?_); (refine joinParts_nil ?_ (idx_fits (by assumption)))))
local macro_rules | `(tactic| walk_at "call ref") => `(tactic| (
  k_here
  k_dflt (show wpAny _ _ (call (Value.ref 109) [Value.ref _]) _ _ _)
  k_dflt (
    refine wpAny_call ?_
    refine' clear_spec ?kB ?kF ?kX ?kN ?kT ?kA ?kf ?kk ?kr ?kh ?ki ?kl ?k5 ?ko ?kx ?kd ?_
    (case kB | kF | kX | kN | kT => k_asm)
    (case kA | kf | kk | kh => exact rfl)
    (case kr => k_room)
    (case ki | kl | ko | kx | kd => assumption)
    (case k5 => omega)
    intro h9 tk9 own9 vs9 F9 I9 N9
    rw [octs_length, ← octs_zero] at I9
    replace N9 := kst_newsOf N9 (fun q hq => List.mem_append_right own9 hq)
    clear own9)))
theorem done_spec : ∀ {w : World} {p : Program} {loose : List Str} {mean : ExcName → Option Value} {mg mb : Str → Option Value} {h₀ : Heap} {env : Env} {L : Addr} {m : Str → Option Value} {s : Shared} {R : Result → Shared → Prop}
   {x dx b : Addr} {deed place value sz : Int} {k : Nat} {td tp tv t1 t2 t3 u1 u3 : Tok} {hs1 hs2 hs3 : Int} {vs : List Value} {N₀ : Int} {nn : Nat} {others : List (Addr × Obj)},
   Below callerA h₀ [] h₀ → Fr h₀ L s.heap m → (hd.heap_1 w.params).In h₀ → 
   News h₀ L s.heap ((x, instObj 126 dx) :: (dx, dictOf [⟨hs1, .str (Str.ofString "_size_bytes") t1, .int (k : Int) u1⟩, ⟨hs2, .str (Str.ofString "_bitarray") t2, .ref b⟩, ⟨hs3, .str (Str.ofString "_size") t3, .int sz u3⟩] 3) :: (b, W.listOf vs.toArray nn) :: others) →
   Top p loose mean mg mb h₀ → env.frame = some L → env.scope.kind = .function →
   IntsAre vs (octs k N₀) → 0 ≤ deed → deed ≤ 7 → -1 ≤ value → value ≤ 2 → -590295810358705651712 ≤ place → place < 590295810358705651712 → sz ≤ 40 → 8 * (k : Int) < sz + 8 → sz ≤ 8 * k →
   (∀ q ∈ others, q.1 ≠ b) → x ≠ b → dx ≠ b →
   (∀ h' tk v vs' N', DoneIs deed place value sz N₀ v N' → Fr h₀ L h' m → IntsAre vs' (octs k N') → News h₀ L h' ((x, instObj 126 dx) :: (dx, dictOf [⟨hs1, .str (Str.ofString "_size_bytes") t1, .int (k : Int) u1⟩, ⟨hs2, .str (Str.ofString "_bitarray") t2, .ref b⟩, ⟨hs3, .str (Str.ofString "_size") t3, .int sz u3⟩] 3) :: (b, W.listOf vs'.toArray nn) :: others) →
      R (.ok (.ret v)) { s with heap := h', toks := tk }) →
   codeAny (model PySem.Challenge.rw_aw0020_01.row.prog w) (callerA.deeper env) (.call (.ref 137) ⟨[.ref x, .int deed td, .int place tp, .int value tv], []⟩) R s := by
  k_fill
  w_top off
  intro w p loose mean mg mb h₀ env L m s R x dx b deed place value sz k td tp tv t1 t2 t3 u1 u3 hs1 hs2 hs3 vs N₀ nn others B F X N T hf hke hi a1 a2 a3 a4 a5 a6 a8 a9 a10 hob hxb hdb h
  refine' enter_try (binds := [(Str.ofString "row", .ref x), (Str.ofString "deed", .int deed td), (Str.ofString "place", .int place tp), (Str.ofString "value", .int value tv)]) B F X N T ?kA hf hke ?k6 ?k7 ?k8 ?k9 ?kB ?_ ?c2 ?c3 ?c4 ?c5
  case kA => exact rfl
  case k6 => k_is
  case k7 => k_is
  case k8 => k_room
  case k9 => exact BindsTo.of_eq rfl
  case c5 => decide
  case kB => exact locs rfl
  case c2 => exact rfl
  case c3 => exact rfl
  case c4 => exact rfl
  intro g' L' h' FG' F' N' B' X' T' D'
  have hpl := idx_len a5 a6
  have hkl : ((octs k N₀).length : Int) = k := by rw [octs_length]
  (try dsimp only)
  (try k_fold)
  k_steps
  all_goals (rename Fr h₀ _ _ _ => F9; rename News h₀ _ _ _ => N9)
  all_goals first
    | exact h _ _ _ _ N₀ (.inr (.inl ⟨by omega, by omega, ⟨_, rfl⟩, rfl⟩)) F9 hi N9
    | exact h _ _ _ _ N₀ (.inr (.inr (.inl ⟨by omega, by omega, by omega, ⟨_, rfl⟩, rfl⟩))) F9 hi N9
    | exact h _ _ _ _ N₀ (.inr (.inr (.inr (.inl ⟨by omega, by assumption, by assumption, ⟨_, rfl, chk0 (by assumption) (by assumption) a10 (by assumption)⟩, rfl⟩)))) F9 hi N9
    | exact h _ _ _ _ N₀ (.inr (.inr (.inr (.inl ⟨by omega, by assumption, by assumption, ⟨_, rfl, chk1 (by assumption) (by assumption) a10 (by assumption)⟩, rfl⟩)))) F9 hi N9
    | exact h _ _ _ _ N₀ (.inr (.inr (.inr (.inr (.inl ⟨by omega, by assumption, by assumption, ⟨_, by rw [chk0 (by assumption) (by assumption) a10 (by assumption)]⟩, rfl⟩))))) F9 hi N9
    | exact h _ _ _ _ N₀ (.inr (.inr (.inr (.inr (.inl ⟨by omega, by assumption, by assumption, ⟨_, by rw [chk1 (by assumption) (by assumption) a10 (by assumption)]⟩, rfl⟩))))) F9 hi N9
    | (rename IntsAre (List.set _ _ _) _ => I9
       rw [set_fact (by assumption) (by assumption) a10] at I9
       exact h _ _ _ _ _ (.inr (.inr (.inr (.inr (.inr ⟨by omega, by omega, by assumption, by assumption, ⟨_, rfl⟩, by rw [meant1 (by omega)]⟩))))) F9 I9 N9)
    | (rename IntsAre (List.set _ _ _) _ => I9
       rw [clear_fact (by assumption) (by assumption) a10] at I9
       exact h _ _ _ _ _ (.inr (.inr (.inr (.inr (.inr ⟨by omega, by omega, by assumption, by assumption, ⟨_, rfl⟩, by rw [meant0 (by omega)]⟩))))) F9 I9 N9)
    | (rename IntsAre _ (octs _ 0) => I9
       exact h _ _ _ _ 0 (.inl ⟨by omega, ⟨_, rfl⟩, rfl⟩) F9 I9 N9)

end PC2
section PT0
def lawDef : Stmt := match PySem.Challenge.pw_aw0020_01.main.body with | [_,_,_,_,_,_,s] => s | _ => .Pass default
def lawBody : List Stmt := match lawDef with | .FunctionDef _ _ b _ _ _ _ _ _ _ => b | _ => []
def lawScope : Scope := match lawDef with | .FunctionDef _ _ _ _ _ _ sc _ _ _ => sc | _ => default
def turnBody : List Stmt := match lawBody with | [_, _, _, _, .For _ _ b _ _, _, _] => b | _ => []
def endBody : List Stmt := match lawBody with | [_, _, _, _, _, .For _ _ b _ _, _] => b | _ => []
def turnRest : List Stmt := turnBody.drop 6
def law1 : List Stmt := lawBody.drop 1
def law4 : List Stmt := lawBody.drop 4
def law5 : List Stmt := lawBody.drop 5
def law6 : List Stmt := lawBody.drop 6
abbrev cl4 (c1 c2 c3 c4 : Addr) : List (Str × Addr) := [(Str.ofString "n", c4), (Str.ofString "row", c3), (Str.ofString "number", c2), (Str.ofString "size", c1)]
/-- the contract of _law_done at any ledger that holds the row -/
theorem done_U {w : World} {p : Program} {loose : List Str} {mean : ExcName → Option Value} {mg mb : Str → Option Value} {h₀ : Heap} {env : Env} {L : Addr} {m : Str → Option Value} {s : Shared} {R : Result → Shared → Prop}
   {x dx b : Addr} {deed place value sz : Int} {k : Nat} {td tp tv t1 t2 t3 u1 u3 : Tok} {hs1 hs2 hs3 : Int} {vs : List Value} {N₀ : Int} {nn : Nat} {news : List (Addr × Obj)} {g : Obj → List (Addr × Obj)}
   (B : Below callerA h₀ [] h₀) (F : Fr h₀ L s.heap m) (X : (hd.heap_1 w.params).In h₀) (N : News h₀ L s.heap news) (T : Top p loose mean mg mb h₀) (hf : env.frame = some L) (hke : env.scope.kind = .function)
   (hx : (x, instObj 126 dx) ∈ news) (hdx : (dx, rowD t1 t2 t3 u1 u3 hs1 hs2 hs3 k sz b) ∈ news) (U : UpdF b (W.listOf vs.toArray nn) news g)
   (hi : IntsAre vs (octs k N₀)) (a1 : 0 ≤ deed) (a2 : deed ≤ 7) (a3 : -1 ≤ value) (a4 : value ≤ 2) (a5 : -590295810358705651712 ≤ place) (a6 : place < 590295810358705651712) (a7 : sz ≤ 40) (a8 : 8 * (k : Int) < sz + 8) (a9 : sz ≤ 8 * k)
   (h : ∀ h' tk v vs' N', DoneIs deed place value sz N₀ v N' → Fr h₀ L h' m → IntsAre vs' (octs k N') → News h₀ L h' (g (W.listOf vs'.toArray nn)) → R (.ok (.ret v)) { s with heap := h', toks := tk }) :
   codeAny (model PySem.Challenge.rw_aw0020_01.row.prog w) (callerA.deeper env) (.call (.ref 137) ⟨[.ref x, .int deed td, .int place tp, .int value tv], []⟩) R s := by
  obtain ⟨pre, post, rfl, hg, h1, h2⟩ := U.split
  have ne : ∀ {c o}, (c, o) ∈ pre ++ (b, W.listOf vs.toArray nn) :: post → o ≠ W.listOf vs.toArray nn → c ≠ b := by
    intro c o hm ho e
    rcases List.mem_append.mp hm with q | q
    · exact h1 _ q e
    · rcases List.mem_cons.mp q with q | q
      · cases q; exact ho rfl
      · exact h2 _ q e
  refine done_spec (t1 := t1) (t2 := t2) (t3 := t3) (u1 := u1) (u3 := u3) (hs1 := hs1) (hs2 := hs2) (hs3 := hs3) (nn := nn) (others := pre ++ post) B F X ?_ T hf hke hi a1 a2 a3 a4 a5 a6 a7 a8 a9 ?_ (ne hx ?_) (ne hdx ?_) ?_
  · refine kst_newsOf N ?_
    intro q hq
    simp only [List.mem_cons, List.mem_append] at hq hx hdx ⊢
    rcases hq with rfl | rfl | rfl | hq | hq
    · exact hx
    · exact hdx
    · exact .inr (.inl rfl)
    · exact .inl hq
    · exact .inr (.inr hq)
  · intro q hq
    rcases List.mem_append.mp hq with hq | hq
    · exact h1 q hq
    · exact h2 q hq
  · intro e; injection e with e1; cases e1
  · intro e; injection e with e1; simp at e1
  · intro h' tk v vs' N' d F' I' N''
    refine h h' tk v vs' N' d F' I' ?_
    rw [hg]
    refine kst_newsOf N'' ?_
    intro q hq
    simp only [List.mem_cons, List.mem_append] at hq ⊢
    rcases hq with hq | rfl | hq
    · exact .inr (.inr (.inr (.inl hq)))
    · exact .inr (.inr (.inl rfl))
    · exact .inr (.inr (.inr (.inr hq)))
abbrev lawEnv (L fa : Addr) (cd : Value) (c1 c2 c3 c4 : Addr) : Env := envX (Str.ofString "law") lawScope L fa cd (cl4 c1 c2 c3 c4)
abbrev lawMap (lc ls lr ln : Addr) (hd : Int) (th : Tok) (u : Str → Option Value) : Str → Option Value := fun y =>
  if y = Str.ofString "numbers" then some (.ref ln) else if y = Str.ofString "rows" then some (.ref lr) else if y = Str.ofString "sizes" then some (.ref ls) else if y = Str.ofString "head" then some (.int hd th) else if y = Str.ofString "script" then some (.ref lc) else u y
theorem lawMap_of {lc ls lr ln : Addr} {hd : Int} {th : Tok} {m : Str → Option Value} (h1 : m (Str.ofString "numbers") = some (.ref ln)) (h2 : m (Str.ofString "rows") = some (.ref lr)) (h3 : m (Str.ofString "sizes") = some (.ref ls))
    (h4 : m (Str.ofString "head") = some (.int hd th)) (h5 : m (Str.ofString "script") = some (.ref lc)) : m = lawMap lc ls lr ln hd th m := by
  funext y
  unfold lawMap
  split
  · rename_i e; rw [e, h1]
  · split
    · rename_i e; rw [e, h2]
    · split
      · rename_i e; rw [e, h3]
      · split
        · rename_i e; rw [e, h4]
        · split
          · rename_i e; rw [e, h5]
          · rfl
theorem fr_law {h₀ h : Heap} {L lc ls lr ln : Addr} {hd : Int} {th : Tok} {m : Str → Option Value} (F : Fr h₀ L h m) (h1 : m (Str.ofString "numbers") = some (.ref ln)) (h2 : m (Str.ofString "rows") = some (.ref lr)) (h3 : m (Str.ofString "sizes") = some (.ref ls))
    (h4 : m (Str.ofString "head") = some (.int hd th)) (h5 : m (Str.ofString "script") = some (.ref lc)) : Fr h₀ L h (lawMap lc ls lr ln hd th m) := by
  have e := lawMap_of h1 h2 h3 h4 h5
  exact (congrArg (Fr h₀ L h) e).mp F
abbrev turnMap (lc ls lr ln : Addr) (head wh deed value place : Int) (th tw td tv tp : Tok) (u : Str → Option Value) : Str → Option Value := fun y =>
  if y = Str.ofString "place" then some (.int place tp) else if y = Str.ofString "value" then some (.int value tv) else if y = Str.ofString "deed" then some (.int deed td) else if y = Str.ofString "which" then some (.int wh tw) else lawMap lc ls lr ln head th u y
theorem fr_turn {h₀ h : Heap} {L lc ls lr ln : Addr} {hd wh deed value place : Int} {th tw td tv tp : Tok} {m : Str → Option Value} (F : Fr h₀ L h m) (h1 : m (Str.ofString "numbers") = some (.ref ln)) (h2 : m (Str.ofString "rows") = some (.ref lr)) (h3 : m (Str.ofString "sizes") = some (.ref ls))
    (h4 : m (Str.ofString "head") = some (.int hd th)) (h5 : m (Str.ofString "script") = some (.ref lc)) (h6 : m (Str.ofString "place") = some (.int place tp)) (h7 : m (Str.ofString "value") = some (.int value tv))
    (h8 : m (Str.ofString "deed") = some (.int deed td)) (h9 : m (Str.ofString "which") = some (.int wh tw)) : Fr h₀ L h (turnMap lc ls lr ln hd wh deed value place th tw td tv tp m) := by
  have e : m = turnMap lc ls lr ln hd wh deed value place th tw td tv tp m := by
    funext y
    unfold turnMap
    split
    · rename_i e; rw [e, h6]
    · split
      · rename_i e; rw [e, h7]
      · split
        · rename_i e; rw [e, h8]
        · split
          · rename_i e; rw [e, h9]
          · exact congrFun (lawMap_of h1 h2 h3 h4 h5) y
  exact (congrArg (Fr h₀ L h) e).mp F

end PT0
section PTB
local macro_rules | `(tactic| walk_at "call ref") => `(tactic| (
  k_here
  k_dflt (show wpAny _ _ (call (Value.ref 137) [Value.ref _, Value.int _ _, Value.int _ _, Value.int _ _]) _ _ _)
  k_dflt (
    refine wpAny_call ?_
    refine' done_U ?kB ?kF ?kX ?kN ?kT ?kf ?kk ?hx ?hd ?hU ?hi ?a1 ?a2 ?a3 ?a4 ?a5 ?a6 ?a7 ?a8 ?a9 ?_
    (case kB | kF | kX | kN | kT => k_asm)
    (case kf | kk => exact rfl)
    (case hx | hd => k_mem)
    (case hU => k_updF)
    (case hi => assumption)
    (case a1 | a2 | a3 | a4 | a5 | a6 | a7 | a8 | a9 => omega)
    intro h9 tk9 v9 vs9 n9 dIs F9 I9 N9
    (try dsimp only at N9 ⊢)
    (rcases dIs with ⟨y1, ⟨yt, yv⟩, yn⟩ | ⟨y1, y2, ⟨yt, yv⟩, yn⟩ | ⟨y1, y2, y3, ⟨yt, yv⟩, yn⟩ | ⟨y1, y2, y3, ⟨yt, yv, y4⟩, yn⟩ | ⟨y1, y2, y3, ⟨yt, yv⟩, yn⟩ | ⟨y1, y2, y3, y4, ⟨yt, yv⟩, yn⟩)
    all_goals subst yv
    all_goals rw [yn] at I9
    all_goals (try (exfalso; omega)))))
theorem turn_B : ∀ {w : World} {p : Program} {loose : List Str} {mean : ExcName → Option Value} {mg mb : Str → Option Value} {h₀ : Heap} {L fa : Addr} {cd : Value} {s : Shared} {Q : Flow → Shared → Prop} {E : Value → Shared → Prop} {u : Str → Option Value}
   {lc ls lr ln c1 c2 c3 c4 x d b : Nat} {o1 o3 : Obj} {head wh deed value place sz N : Int} {k : Nat} {th tw td tv tp tz t1 t2 t3 u1 u3 : Tok} {g1 g2 g3 : Int} {vs vn : List Value} {nn : List Int} {nl nb : Nat} {rest : List (Addr × Obj)},
   Below callerA h₀ [] h₀ → Fr h₀ L s.heap (fun y => if y = Str.ofString "place" then some (.int place tp) else if y = Str.ofString "value" then some (.int value tv) else if y = Str.ofString "deed" then some (.int deed td) else if y = Str.ofString "which" then some (.int wh tw) else lawMap lc ls lr ln head th u y) → (hd.heap_1 w.params).In h₀ →
   News h₀ L s.heap ((c3, o3) :: (c1, o1) :: (ln, W.listOf vn.toArray nl) :: (d, rowD t1 t2 t3 u1 u3 g1 g2 g3 k sz b) :: (x, instObj 126 d) :: (b, W.listOf vs.toArray nb) :: rest) →
   Top p loose mean mg mb h₀ →
   o1.data = .cell (some (.int sz tz)) → o3.data = .cell (some (.ref x)) →
   c1 ≠ ln → c3 ≠ ln → d ≠ ln → x ≠ ln → b ≠ ln → c1 ≠ b → c3 ≠ b → d ≠ b → x ≠ b →
   (∀ q ∈ rest, q.1 ≠ ln) → (∀ q ∈ rest, q.1 ≠ b) →
   0 ≤ wh → wh < 2 → 0 ≤ deed → deed ≤ 7 → -1 ≤ value → value ≤ 2 → -590295810358705651712 ≤ place → place < 590295810358705651712 →
   1 ≤ sz → sz ≤ 40 → 8 * (k : Int) < sz + 8 → sz ≤ 8 * k →
   IntsAre vs (octs k N) → IntsAre vn nn → nn.length = 2 → nn.getD wh.toNat 0 = N → 0 ≤ N → N < 1099511627776 →
   (∀ h' tk u' N' tn' vs', IntsAre vs' (octs k N') → 0 ≤ N' → N' < 1099511627776 →
     Fr h₀ L h' (lawMap lc ls lr ln head th u') →
     News h₀ L h' ((c3, o3) :: (c1, o1) :: (ln, W.listOf (vn.set wh.toNat (.int N' tn')).toArray nl) :: (d, rowD t1 t2 t3 u1 u3 g1 g2 g3 k sz b) :: (x, instObj 126 d) :: (b, W.listOf vs'.toArray nb) :: rest) →
     Q .next { s with heap := h', toks := tk }) →
   wpAny (model PySem.Challenge.rw_aw0020_01.row.prog w) (callerA.deeper (lawEnv L fa cd c1 c2 c3 c4)) (execs turnRest (lawEnv L fa cd c1 c2 c3 c4)) Q E s := by
  k_fill
  w_top off
  intro w p loose mean mg mb h₀ L fa cd s Q E u lc ls lr ln c1 c2 c3 c4 x d b o1 o3 head wh deed value place sz N k th tw td tv tp tz t1 t2 t3 u1 u3 g1 g2 g3 vs vn nn nl nb rest
    B F X N₁ T e1 e3 z1 z2 z3 z4 z5 z6 z7 z8 z9 r1 r2 wh0 wh1 d0 d1 v0 v1 p0 p1 s1 s2 s3 s4 hi hvn hn2 hN N0 N1 h
  unfold turnRest turnBody lawEnv lawScope lawBody lawDef PySem.Challenge.pw_aw0020_01
  dsimp only [List.drop]
  have hX : Int.fmod (Int.fdiv (List.getD nn wh.toNat 0) (2 ^ place.toNat)) 2 = bitOf N place.toNat := by unfold bitOf; rw [hN]
  obtain ⟨t9, hself⟩ := set_self hvn (i := wh.toNat) (by omega) hN
  have hb := bit_cases N place.toNat
  by_cases hin : 0 ≤ place ∧ place < sz
  · obtain ⟨i1, i2⟩ := hin
    have i3 : place.toNat < 40 := by omega
    iterate 28 (walk_at "mine.step")
    rw [hX]
    k_steps
    all_goals first
      | (exfalso; first | omega | exact ne6 (by assumption) (by assumption) | exact yt_ne (by assumption) (by assumption) | (rename bitOf _ _ ≠ bitOf _ _ => hne; exact hne rfl))
      | (rename Fr h₀ _ _ _ => F8
         rename News h₀ _ _ _ => N8
         rename IntsAre _ (octs k _) => I8
         replace F8 := fr_law (lc := lc) (ls := ls) (lr := lr) (ln := ln) (hd := head) (th := th) F8 rfl rfl rfl rfl rfl
         first
           | exact h _ _ _ 0 _ _ I8 (by decide) (by decide) F8 N8
           | (rw [hself] at N8; exact h _ _ _ N _ _ I8 N0 N1 F8 N8)
           | (rw [if_pos (by assumption)] at I8; rw [hN] at N8; exact h _ _ _ _ _ _ I8 (put_bound N0 N1 i3 (by omega)).1 (put_bound N0 N1 i3 (by omega)).2 F8 N8)
           | (rw [menu_is (deed := deed) (value := value) (by omega) (by omega) (by omega)] at I8; rw [hN] at N8; exact h _ _ _ _ _ _ I8 (put_bound N0 N1 i3 (menu_bit (deed := deed) (by omega) (by omega) (by omega))).1 (put_bound N0 N1 i3 (menu_bit (deed := deed) (by omega) (by omega) (by omega))).2 F8 (kst_newsOf N8 fun q hq => .tail _ hq)))
  · have hout : place < 0 ∨ sz ≤ place := by omega
    clear hX
    rcases hout with i1 | i1
    all_goals (
      k_steps
      all_goals first
        | (exfalso; first | omega | exact ne6 (by assumption) (by assumption))
        | (rename Fr h₀ _ _ _ => F8
           rename News h₀ _ _ _ => N8
           rename IntsAre _ (octs k _) => I8
           replace F8 := fr_law (lc := lc) (ls := ls) (lr := lr) (ln := ln) (hd := head) (th := th) F8 rfl rfl rfl rfl rfl
           first
             | exact h _ _ _ 0 _ _ I8 (by decide) (by decide) F8 N8
             | (rw [hself] at N8; exact h _ _ _ N _ _ I8 N0 N1 F8 N8)))

end PTB
section PT1
theorem all_ne7 {a b c d e f g n : Nat} {oa ob oc od oe og of' : Obj} {rest : List (Addr × Obj)} (h : a ≠ n ∧ b ≠ n ∧ c ≠ n ∧ d ≠ n ∧ e ≠ n ∧ f ≠ n ∧ g ≠ n) (hr : ∀ q ∈ rest, q.1 ≠ n) :
    ∀ q ∈ ((a, oa) :: (b, ob) :: (c, oc) :: (d, od) :: (e, oe) :: (f, of') :: (g, og) :: rest : List (Addr × Obj)), q.1 ≠ n := by
  intro q hq
  simp only [List.mem_cons] at hq
  rcases hq with rfl | rfl | rfl | rfl | rfl | rfl | rfl | hq
  · exact h.1
  · exact h.2.1
  · exact h.2.2.1
  · exact h.2.2.2.1
  · exact h.2.2.2.2.1
  · exact h.2.2.2.2.2.1
  · exact h.2.2.2.2.2.2
  · exact hr q hq
theorem adr_ne {c1 c2 c3 c4 ls lr ln d0 x0 b0 d1 x1 b1 : Nat} (l1 : c1 < c2) (l2 : c2 < c3) (l3 : c3 < c4) (l4 : c4 < ls) (l5 : ls < d0) (m4 : lr ≠ ln) (m5 : lr ≠ b0) (m6 : lr ≠ b1) (l7 : d0 < x0) (l8 : x0 < b0) (l9 : b0 < d1) (l10 : d1 < x1) (l11 : x1 < b1) (l12 : b1 < ln) :
    (c4 ≠ ln ∧ c2 ≠ ln ∧ ls ≠ ln ∧ lr ≠ ln ∧ d1 ≠ ln ∧ x1 ≠ ln ∧ b1 ≠ ln) ∧ (c4 ≠ b0 ∧ c2 ≠ b0 ∧ ls ≠ b0 ∧ lr ≠ b0 ∧ d1 ≠ b0 ∧ x1 ≠ b0 ∧ b1 ≠ b0) ∧
    (c4 ≠ ln ∧ c2 ≠ ln ∧ ls ≠ ln ∧ lr ≠ ln ∧ d0 ≠ ln ∧ x0 ≠ ln ∧ b0 ≠ ln) ∧ (c4 ≠ b1 ∧ c2 ≠ b1 ∧ ls ≠ b1 ∧ lr ≠ b1 ∧ d0 ≠ b1 ∧ x0 ≠ b1 ∧ b0 ≠ b1) := by
  have tr : ∀ {a b c : Nat}, a < b → b < c → a < c := fun p q => Nat.lt_trans p q
  have ne : ∀ {a b : Nat}, a < b → a ≠ b := fun p => Nat.ne_of_lt p
  have k1 := tr l11 l12
  have k2 := tr l10 k1
  have k3 := tr l9 k2
  have k4 := tr l8 k3
  have k5 := tr l7 k4
  have k6 := tr l5 k5
  have k7 := tr l4 k6
  have k8 := tr l3 k7
  have k9 := tr l2 k8
  have k10 := tr l1 k9
  have j1 := tr l10 l11
  have j2 := tr l9 j1
  have j3 := tr l8 j2
  have j4 := tr l7 j3
  have j5 := tr l5 j4
  have j6 := tr l4 j5
  have j7 := tr l3 j6
  have j8 := tr l2 j7
  have j9 := tr l1 j8
  have i1 := tr l7 l8
  have i2 := tr l5 i1
  have i3 := tr l4 i2
  have i4 := tr l3 i3
  have i5 := tr l2 i4
  have i6 := tr l1 i5
  exact ⟨⟨ne k7, ne k9, ne k6, m4, ne k2, ne k1, ne l12⟩, ⟨ne i3, ne i5, ne i2, m5, (ne l9).symm, (ne (tr l9 l10)).symm, (ne j2).symm⟩, ⟨ne k7, ne k9, ne k6, m4, ne k5, ne k4, ne k3⟩, ⟨ne j6, ne j8, ne j5, m6, ne j4, ne j3, ne j2⟩⟩
theorem adr_ne2 {c1 c2 c3 c4 ls lr ln d0 x0 b0 d1 x1 b1 : Nat} (l1 : c1 < c2) (l2 : c2 < c3) (l3 : c3 < c4) (l4 : c4 < ls) (l5 : ls < d0) (m4 : lr ≠ ln) (m5 : lr ≠ b0) (m6 : lr ≠ b1) (l7 : d0 < x0) (l8 : x0 < b0) (l9 : b0 < d1) (l10 : d1 < x1) (l11 : x1 < b1) (l12 : b1 < ln) :
    (c1 ≠ ln ∧ c3 ≠ ln ∧ d0 ≠ ln ∧ x0 ≠ ln ∧ b0 ≠ ln ∧ d1 ≠ ln ∧ x1 ≠ ln ∧ b1 ≠ ln) ∧ (c1 ≠ b0 ∧ c3 ≠ b0 ∧ d0 ≠ b0 ∧ x0 ≠ b0) ∧ (c1 ≠ b1 ∧ c3 ≠ b1 ∧ d1 ≠ b1 ∧ x1 ≠ b1) := by
  have tr : ∀ {a b c : Nat}, a < b → b < c → a < c := fun p q => Nat.lt_trans p q
  have ne : ∀ {a b : Nat}, a < b → a ≠ b := fun p => Nat.ne_of_lt p
  have k1 := tr l11 l12
  have k2 := tr l10 k1
  have k3 := tr l9 k2
  have k4 := tr l8 k3
  have k5 := tr l7 k4
  have k6 := tr l5 k5
  have k7 := tr l4 k6
  have k8 := tr l3 k7
  have k9 := tr l2 k8
  have k10 := tr l1 k9
  have j1 := tr l10 l11
  have j2 := tr l9 j1
  have j3 := tr l8 j2
  have j4 := tr l7 j3
  have j5 := tr l5 j4
  have j6 := tr l4 j5
  have j7 := tr l3 j6
  have j8 := tr l2 j7
  have j9 := tr l1 j8
  have i1 := tr l7 l8
  have i2 := tr l5 i1
  have i3 := tr l4 i2
  have i4 := tr l3 i3
  have i5 := tr l2 i4
  have i6 := tr l1 i5
  exact ⟨⟨ne k10, ne k8, ne k5, ne k4, ne k3, ne k2, ne k1, ne l12⟩, ⟨ne i6, ne i4, ne i1, ne l8⟩, ⟨ne j9, ne j7, ne j1, ne l11⟩⟩
theorem val_b {v : Int} (h0 : 0 ≤ v) (h1 : v < 4) : -1 ≤ v - 1 ∧ v - 1 ≤ 2 := by omega
theorem place_b {v s : Int} (h0 : 0 ≤ v) (h1 : v < s + 2) (h2 : s ≤ 40) : -590295810358705651712 ≤ v - 1 ∧ v - 1 < 590295810358705651712 := by omega
theorem turn_spec : ∀ {w : World} {p : Program} {loose : List Str} {mean : ExcName → Option Value} {mg mb : Str → Option Value} {h₀ : Heap} {L fa : Addr} {cd : Value} {s : Shared} {Q : Flow → Shared → Prop} {E : Value → Shared → Prop} {u : Str → Option Value}
   {lc ls lr ln c1 c2 c3 c4 x0 d0 b0 x1 d1 b1 : Nat} {o1 o2 o3 o4 : Obj} {w1 w2 w3 w4 : Option Value} {head number s0 s1 N0 N1 : Int} {k0 k1 : Nat} {th tn ts0 ts1 tn0 tn1 t01 t02 t03 u01 u03 t11 t12 t13 u11 u13 : Tok} {g01 g02 g03 g11 g12 g13 : Int} {vs0 vs1 : List Value} {ns nr nn n0 n1 : Nat} {rest : List (Addr × Obj)} {pos : Pos},
   Below callerA h₀ [] h₀ → Fr h₀ L s.heap (lawMap lc ls lr ln head th u) → (hd.heap_1 w.params).In h₀ →
   News h₀ L s.heap ((c4, o4) :: (c3, o3) :: (c2, o2) :: (c1, o1) :: (ls, W.listOf #[.int s0 ts0, .int s1 ts1] ns) :: (lr, W.listOf #[.ref x0, .ref x1] nr) :: (ln, W.listOf #[.int N0 tn0, .int N1 tn1] nn) ::
     (d0, rowD t01 t02 t03 u01 u03 g01 g02 g03 k0 s0 b0) :: (x0, instObj 126 d0) :: (b0, W.listOf vs0.toArray n0) :: (d1, rowD t11 t12 t13 u11 u13 g11 g12 g13 k1 s1 b1) :: (x1, instObj 126 d1) :: (b1, W.listOf vs1.toArray n1) :: rest) →
   Top p loose mean mg mb h₀ →
   o1.data = .cell w1 → o2.data = .cell w2 → o3.data = .cell w3 → o4.data = .cell w4 →
   c1 < c2 → c2 < c3 → c3 < c4 → c4 < ls → ls < d0 → lr ≠ c1 → lr ≠ c2 → lr ≠ c3 → lr ≠ ln → lr ≠ b0 → lr ≠ b1 → d0 < x0 → x0 < b0 → b0 < d1 → d1 < x1 → x1 < b1 → b1 < ln →
   (∀ q ∈ rest, q.1 ≠ c1) → (∀ q ∈ rest, q.1 ≠ c2) → (∀ q ∈ rest, q.1 ≠ c3) → (∀ q ∈ rest, q.1 ≠ ln) → (∀ q ∈ rest, q.1 ≠ b0) → (∀ q ∈ rest, q.1 ≠ b1) →
   1 ≤ s0 → s0 ≤ 40 → 8 * (k0 : Int) < s0 + 8 → s0 ≤ 8 * k0 → 1 ≤ s1 → s1 ≤ 40 → 8 * (k1 : Int) < s1 + 8 → s1 ≤ 8 * k1 →
   IntsAre vs0 (octs k0 N0) → IntsAre vs1 (octs k1 N1) → 0 ≤ N0 → N0 < 1099511627776 → 0 ≤ N1 → N1 < 1099511627776 →
   (∀ h' tk u' o1' o2' o3' w1' w2' w3' N0' N1' tn0' tn1' vs0' vs1' nn', o1'.data = .cell w1' → o2'.data = .cell w2' → o3'.data = .cell w3' →
     IntsAre vs0' (octs k0 N0') → IntsAre vs1' (octs k1 N1') → 0 ≤ N0' → N0' < 1099511627776 → 0 ≤ N1' → N1' < 1099511627776 →
     Fr h₀ L h' (lawMap lc ls lr ln head th u') →
     News h₀ L h' ((c4, o4) :: (c3, o3') :: (c2, o2') :: (c1, o1') :: (ls, W.listOf #[.int s0 ts0, .int s1 ts1] ns) :: (lr, W.listOf #[.ref x0, .ref x1] nr) :: (ln, W.listOf #[.int N0' tn0', .int N1' tn1'] nn') ::
     (d0, rowD t01 t02 t03 u01 u03 g01 g02 g03 k0 s0 b0) :: (x0, instObj 126 d0) :: (b0, W.listOf vs0'.toArray n0) :: (d1, rowD t11 t12 t13 u11 u13 g11 g12 g13 k1 s1 b1) :: (x1, instObj 126 d1) :: (b1, W.listOf vs1'.toArray n1) :: rest) →
     Q .next { s with heap := h', toks := tk }) →
   wpAny (model PySem.Challenge.rw_aw0020_01.row.prog w) (callerA.deeper (lawEnv L fa cd c1 c2 c3 c4)) (assign (.Name (Str.ofString "number") pos) (lawEnv L fa cd c1 c2 c3 c4) (.int number tn))
     (fun _ s₂ => wpAny (model PySem.Challenge.rw_aw0020_01.row.prog w) (callerA.deeper (lawEnv L fa cd c1 c2 c3 c4)) (execs turnBody (lawEnv L fa cd c1 c2 c3 c4)) Q E s₂) E s := by
  k_fill
  w_top off
  intro w p loose mean mg mb h₀ L fa cd s Q E u lc ls lr ln c1 c2 c3 c4 x0 d0 b0 x1 d1 b1 o1 o2 o3 o4 w1 w2 w3 w4 head number s0 s1 N0 N1 k0 k1 th tn ts0 ts1 tn0 tn1 t01 t02 t03 u01 u03 t11 t12 t13 u11 u13 g01 g02 g03 g11 g12 g13 vs0 vs1 ns nr nn n0 n1 rest pos
    B F X N T e1 e2 e3 e4 l1 l2 l3 l4 l5 m1 m2 m3 m4 m5 m6 l7 l8 l9 l10 l11 l12 r1 r2 r3 r4 r5 r6 p1 p2 p3 p4 q1 q2 q3 q4 i0 i1 y1 y2 y3 y4 h
  have hw : Int.fmod (Int.fdiv number 8) 2 = 0 ∨ Int.fmod (Int.fdiv number 8) 2 = 1 := by
    have := Int.fmod_nonneg_of_pos (Int.fdiv number 8) (b := 2) (by decide)
    have := Int.fmod_lt_of_pos (Int.fdiv number 8) (b := 2) (by decide)
    omega
  have hd0 := Int.fmod_nonneg_of_pos number (b := 8) (by decide)
  have hd1 := Int.fmod_lt_of_pos number (b := 8) (by decide)
  have hv0 := Int.fmod_nonneg_of_pos (Int.fdiv number 16) (b := 4) (by decide)
  have hv1 := Int.fmod_lt_of_pos (Int.fdiv number 16) (b := 4) (by decide)
  have hp0 := Int.fmod_nonneg_of_pos (Int.fdiv (Int.fdiv number 16) 4) (b := s0 + 2) (by omega)
  have hp1 := Int.fmod_lt_of_pos (Int.fdiv (Int.fdiv number 16) 4) (b := s0 + 2) (by omega)
  have hq0 := Int.fmod_nonneg_of_pos (Int.fdiv (Int.fdiv number 16) 4) (b := s1 + 2) (by omega)
  have hq1 := Int.fmod_lt_of_pos (Int.fdiv (Int.fdiv number 16) 4) (b := s1 + 2) (by omega)
  have e69 : (2 : Int) ^ Int.toNat 69 = 590295810358705651712 := by decide +kernel
  have e70 : (2 : Int) ^ Int.toNat 70 = 1180591620717411303424 := by decide +kernel
  have hz0 : 0 ≤ Int.fmod (Int.fdiv (Int.fdiv number 16) 28) (2 ^ Int.toNat 70) := Int.fmod_nonneg_of_pos _ (by rw [e70]; decide)
  have hz1 : Int.fmod (Int.fdiv (Int.fdiv number 16) 28) (2 ^ Int.toNat 70) < 1180591620717411303424 := by
    have := Int.fmod_lt_of_pos (Int.fdiv (Int.fdiv number 16) 28) (b := 2 ^ Int.toNat 70) (by rw [e70]; decide)
    rw [e70] at this ⊢
    exact this
  clear e70
  have et : turnBody = turnBody.take 6 ++ turnRest := (List.take_append_drop 6 turnBody).symm
  rw [et]
  unfold turnBody lawEnv lawScope lawBody lawDef PySem.Challenge.pw_aw0020_01
  dsimp only [List.take, List.cons_append, List.nil_append]
  iterate 11 (walk_at "mine.step")
  rcases hw with hw | hw
  · rw [hw]
    iterate 15 (walk_at "mine.step")
    rw [show List.getD [s0, s1] (Int.toNat 0) 0 = s0 from rfl]
    iterate 61 (walk_at "mine.step")
    iterate 1 (try (walk_at "mine.step"))
    iterate 11 (walk_at "mine.step")
    iterate 1 (try (walk_at "mine.step"))
    iterate 21 (walk_at "mine.step")
    rotate_left
    iterate 2 (walk_at "mine.step")
    rotate_right
    · rename Fr h₀ _ _ _ => F9
      replace F9 := fr_turn (lc := lc) (ls := ls) (lr := lr) (ln := ln) (hd := head) (th := th) F9 rfl rfl rfl rfl rfl rfl rfl rfl rfl
      rename News h₀ _ _ _ => N9
      refine' turn_B (L := L) (d := d0) (x := x0) (b := b0) (c1 := c1) (c3 := c3) (ln := ln) (rest := (c4, _) :: (c2, _) :: (ls, _) :: (lr, _) :: (d1, _) :: (x1, _) :: (b1, _) :: rest) (vn := [_, _]) (nn := [N0, N1]) ?Bp0a ?Fp0a ?Xp0a ?Np0a ?Tp0a ?e1p0a ?e3p0a ?z1p0a ?z2p0a ?z3p0a ?z4p0a ?z5p0a ?z6p0a ?z7p0a ?z8p0a ?z9p0a ?r1p0a ?r2p0a ?wh0p0a ?wh1p0a ?d0p0a ?d1p0a ?v0p0a ?v1p0a ?p0p0a ?p1p0a ?s1p0a ?s2p0a ?s3p0a ?s4p0a ?hip0a ?hvnp0a ?hn2p0a ?hNp0a ?N0p0a ?N1p0a ?hp0a
      case Fp0a => exact F9
      case Np0a => exact kst_newsOf N9 (by kst_allIn)
      case Bp0a => exact B
      case Xp0a => exact X
      case Tp0a => exact T
      case e1p0a => assumption
      case e3p0a => assumption
      case r1p0a => exact all_ne7 (adr_ne l1 l2 l3 l4 l5 m4 m5 m6 l7 l8 l9 l10 l11 l12).1 r4
      case r2p0a => exact all_ne7 (adr_ne l1 l2 l3 l4 l5 m4 m5 m6 l7 l8 l9 l10 l11 l12).2.1 r5
      case hip0a => assumption
      case hvnp0a => exact .cons _ _ (.cons _ _ .nil)
      case hn2p0a => rfl
      case hNp0a => rfl
      case N0p0a => assumption
      case N1p0a => assumption
      case hp0a =>
        intro h' tk u' N' tn' vs' I' b8 b9 F' N8
        rw [show List.set [Value.int N0 tn0, Value.int N1 tn1] (Int.toNat 0) (Value.int N' tn') = [Value.int N' tn', Value.int N1 tn1] from rfl] at N8
        refine' h _ _ _ _ _ _ _ _ _ N' N1 tn' tn1 vs' vs1 nn ?ap0a ?bp0a ?cp0a I' i1 b8 b9 y3 y4 F' (kst_newsOf N8 ?np0a)
        case np0a => kst_allIn
        case ap0a => assumption
        case bp0a => assumption
        case cp0a => assumption
      all_goals first
        | with_reducible assumption
        | decide
        | exact (adr_ne2 l1 l2 l3 l4 l5 m4 m5 m6 l7 l8 l9 l10 l11 l12).1.1
        | exact (adr_ne2 l1 l2 l3 l4 l5 m4 m5 m6 l7 l8 l9 l10 l11 l12).1.2.1
        | exact (adr_ne2 l1 l2 l3 l4 l5 m4 m5 m6 l7 l8 l9 l10 l11 l12).1.2.2.1
        | exact (adr_ne2 l1 l2 l3 l4 l5 m4 m5 m6 l7 l8 l9 l10 l11 l12).1.2.2.2.1
        | exact (adr_ne2 l1 l2 l3 l4 l5 m4 m5 m6 l7 l8 l9 l10 l11 l12).1.2.2.2.2.1
        | exact (adr_ne2 l1 l2 l3 l4 l5 m4 m5 m6 l7 l8 l9 l10 l11 l12).2.1.1
        | exact (adr_ne2 l1 l2 l3 l4 l5 m4 m5 m6 l7 l8 l9 l10 l11 l12).2.1.2.1
        | exact (adr_ne2 l1 l2 l3 l4 l5 m4 m5 m6 l7 l8 l9 l10 l11 l12).2.1.2.2.1
        | exact (adr_ne2 l1 l2 l3 l4 l5 m4 m5 m6 l7 l8 l9 l10 l11 l12).2.1.2.2.2
        | exact Int.le_of_lt_add_one hd1
        | exact (val_b hv0 hv1).1
        | exact (val_b hv0 hv1).2
        | exact (place_b hp0 hp1 p2).1
        | exact (place_b hp0 hp1 p2).2
        | omega
        | (rw [e69]; omega)
    · rename Fr h₀ _ _ _ => F9
      replace F9 := fr_turn (lc := lc) (ls := ls) (lr := lr) (ln := ln) (hd := head) (th := th) F9 rfl rfl rfl rfl rfl rfl rfl rfl rfl
      rename News h₀ _ _ _ => N9
      refine' turn_B (L := L) (d := d0) (x := x0) (b := b0) (c1 := c1) (c3 := c3) (ln := ln) (rest := (c4, _) :: (c2, _) :: (ls, _) :: (lr, _) :: (d1, _) :: (x1, _) :: (b1, _) :: rest) (vn := [_, _]) (nn := [N0, N1]) ?Bp0b ?Fp0b ?Xp0b ?Np0b ?Tp0b ?e1p0b ?e3p0b ?z1p0b ?z2p0b ?z3p0b ?z4p0b ?z5p0b ?z6p0b ?z7p0b ?z8p0b ?z9p0b ?r1p0b ?r2p0b ?wh0p0b ?wh1p0b ?d0p0b ?d1p0b ?v0p0b ?v1p0b ?p0p0b ?p1p0b ?s1p0b ?s2p0b ?s3p0b ?s4p0b ?hip0b ?hvnp0b ?hn2p0b ?hNp0b ?N0p0b ?N1p0b ?hp0b
      case Fp0b => exact F9
      case Np0b => exact kst_newsOf N9 (by kst_allIn)
      case Bp0b => exact B
      case Xp0b => exact X
      case Tp0b => exact T
      case e1p0b => assumption
      case e3p0b => assumption
      case r1p0b => exact all_ne7 (adr_ne l1 l2 l3 l4 l5 m4 m5 m6 l7 l8 l9 l10 l11 l12).1 r4
      case r2p0b => exact all_ne7 (adr_ne l1 l2 l3 l4 l5 m4 m5 m6 l7 l8 l9 l10 l11 l12).2.1 r5
      case hip0b => assumption
      case hvnp0b => exact .cons _ _ (.cons _ _ .nil)
      case hn2p0b => rfl
      case hNp0b => rfl
      case N0p0b => assumption
      case N1p0b => assumption
      case hp0b =>
        intro h' tk u' N' tn' vs' I' b8 b9 F' N8
        rw [show List.set [Value.int N0 tn0, Value.int N1 tn1] (Int.toNat 0) (Value.int N' tn') = [Value.int N' tn', Value.int N1 tn1] from rfl] at N8
        refine' h _ _ _ _ _ _ _ _ _ N' N1 tn' tn1 vs' vs1 nn ?ap0b ?bp0b ?cp0b I' i1 b8 b9 y3 y4 F' (kst_newsOf N8 ?np0b)
        case np0b => kst_allIn
        case ap0b => assumption
        case bp0b => assumption
        case cp0b => assumption
      all_goals first
        | with_reducible assumption
        | decide
        | exact (adr_ne2 l1 l2 l3 l4 l5 m4 m5 m6 l7 l8 l9 l10 l11 l12).1.1
        | exact (adr_ne2 l1 l2 l3 l4 l5 m4 m5 m6 l7 l8 l9 l10 l11 l12).1.2.1
        | exact (adr_ne2 l1 l2 l3 l4 l5 m4 m5 m6 l7 l8 l9 l10 l11 l12).1.2.2.1
        | exact (adr_ne2 l1 l2 l3 l4 l5 m4 m5 m6 l7 l8 l9 l10 l11 l12).1.2.2.2.1
        | exact (adr_ne2 l1 l2 l3 l4 l5 m4 m5 m6 l7 l8 l9 l10 l11 l12).1.2.2.2.2.1
        | exact (adr_ne2 l1 l2 l3 l4 l5 m4 m5 m6 l7 l8 l9 l10 l11 l12).2.1.1
        | exact (adr_ne2 l1 l2 l3 l4 l5 m4 m5 m6 l7 l8 l9 l10 l11 l12).2.1.2.1
        | exact (adr_ne2 l1 l2 l3 l4 l5 m4 m5 m6 l7 l8 l9 l10 l11 l12).2.1.2.2.1
        | exact (adr_ne2 l1 l2 l3 l4 l5 m4 m5 m6 l7 l8 l9 l10 l11 l12).2.1.2.2.2
        | exact Int.le_of_lt_add_one hd1
        | exact (val_b hv0 hv1).1
        | exact (val_b hv0 hv1).2
        | exact (place_b hp0 hp1 p2).1
        | exact (place_b hp0 hp1 p2).2
        | omega
        | (rw [e69]; omega)
  · rw [hw]
    iterate 15 (walk_at "mine.step")
    rw [show List.getD [s0, s1] (Int.toNat 1) 0 = s1 from rfl]
    iterate 61 (walk_at "mine.step")
    iterate 1 (try (walk_at "mine.step"))
    iterate 11 (walk_at "mine.step")
    iterate 1 (try (walk_at "mine.step"))
    iterate 21 (walk_at "mine.step")
    rotate_left
    iterate 2 (walk_at "mine.step")
    rotate_right
    · rename Fr h₀ _ _ _ => F9
      replace F9 := fr_turn (lc := lc) (ls := ls) (lr := lr) (ln := ln) (hd := head) (th := th) F9 rfl rfl rfl rfl rfl rfl rfl rfl rfl
      rename News h₀ _ _ _ => N9
      refine' turn_B (L := L) (d := d1) (x := x1) (b := b1) (c1 := c1) (c3 := c3) (ln := ln) (rest := (c4, _) :: (c2, _) :: (ls, _) :: (lr, _) :: (d0, _) :: (x0, _) :: (b0, _) :: rest) (vn := [_, _]) (nn := [N0, N1]) ?Bp1a ?Fp1a ?Xp1a ?Np1a ?Tp1a ?e1p1a ?e3p1a ?z1p1a ?z2p1a ?z3p1a ?z4p1a ?z5p1a ?z6p1a ?z7p1a ?z8p1a ?z9p1a ?r1p1a ?r2p1a ?wh0p1a ?wh1p1a ?d0p1a ?d1p1a ?v0p1a ?v1p1a ?p0p1a ?p1p1a ?s1p1a ?s2p1a ?s3p1a ?s4p1a ?hip1a ?hvnp1a ?hn2p1a ?hNp1a ?N0p1a ?N1p1a ?hp1a
      case Fp1a => exact F9
      case Np1a => exact kst_newsOf N9 (by kst_allIn)
      case Bp1a => exact B
      case Xp1a => exact X
      case Tp1a => exact T
      case e1p1a => assumption
      case e3p1a => assumption
      case r1p1a => exact all_ne7 (adr_ne l1 l2 l3 l4 l5 m4 m5 m6 l7 l8 l9 l10 l11 l12).2.2.1 r4
      case r2p1a => exact all_ne7 (adr_ne l1 l2 l3 l4 l5 m4 m5 m6 l7 l8 l9 l10 l11 l12).2.2.2 r6
      case hip1a => assumption
      case hvnp1a => exact .cons _ _ (.cons _ _ .nil)
      case hn2p1a => rfl
      case hNp1a => rfl
      case N0p1a => assumption
      case N1p1a => assumption
      case hp1a =>
        intro h' tk u' N' tn' vs' I' b8 b9 F' N8
        rw [show List.set [Value.int N0 tn0, Value.int N1 tn1] (Int.toNat 1) (Value.int N' tn') = [Value.int N0 tn0, Value.int N' tn'] from rfl] at N8
        refine' h _ _ _ _ _ _ _ _ _ N0 N' tn0 tn' vs0 vs' nn ?ap1a ?bp1a ?cp1a i0 I' y1 y2 b8 b9 F' (kst_newsOf N8 ?np1a)
        case np1a => kst_allIn
        case ap1a => assumption
        case bp1a => assumption
        case cp1a => assumption
      all_goals first
        | with_reducible assumption
        | decide
        | exact (adr_ne2 l1 l2 l3 l4 l5 m4 m5 m6 l7 l8 l9 l10 l11 l12).1.1
        | exact (adr_ne2 l1 l2 l3 l4 l5 m4 m5 m6 l7 l8 l9 l10 l11 l12).1.2.1
        | exact (adr_ne2 l1 l2 l3 l4 l5 m4 m5 m6 l7 l8 l9 l10 l11 l12).1.2.2.2.2.2.1
        | exact (adr_ne2 l1 l2 l3 l4 l5 m4 m5 m6 l7 l8 l9 l10 l11 l12).1.2.2.2.2.2.2.1
        | exact (adr_ne2 l1 l2 l3 l4 l5 m4 m5 m6 l7 l8 l9 l10 l11 l12).1.2.2.2.2.2.2.2
        | exact (adr_ne2 l1 l2 l3 l4 l5 m4 m5 m6 l7 l8 l9 l10 l11 l12).2.2.1
        | exact (adr_ne2 l1 l2 l3 l4 l5 m4 m5 m6 l7 l8 l9 l10 l11 l12).2.2.2.1
        | exact (adr_ne2 l1 l2 l3 l4 l5 m4 m5 m6 l7 l8 l9 l10 l11 l12).2.2.2.2.1
        | exact (adr_ne2 l1 l2 l3 l4 l5 m4 m5 m6 l7 l8 l9 l10 l11 l12).2.2.2.2.2
        | exact Int.le_of_lt_add_one hd1
        | exact (val_b hv0 hv1).1
        | exact (val_b hv0 hv1).2
        | exact (place_b hq0 hq1 q2).1
        | exact (place_b hq0 hq1 q2).2
        | omega
        | (rw [e69]; omega)
    · rename Fr h₀ _ _ _ => F9
      replace F9 := fr_turn (lc := lc) (ls := ls) (lr := lr) (ln := ln) (hd := head) (th := th) F9 rfl rfl rfl rfl rfl rfl rfl rfl rfl
      rename News h₀ _ _ _ => N9
      refine' turn_B (L := L) (d := d1) (x := x1) (b := b1) (c1 := c1) (c3 := c3) (ln := ln) (rest := (c4, _) :: (c2, _) :: (ls, _) :: (lr, _) :: (d0, _) :: (x0, _) :: (b0, _) :: rest) (vn := [_, _]) (nn := [N0, N1]) ?Bp1b ?Fp1b ?Xp1b ?Np1b ?Tp1b ?e1p1b ?e3p1b ?z1p1b ?z2p1b ?z3p1b ?z4p1b ?z5p1b ?z6p1b ?z7p1b ?z8p1b ?z9p1b ?r1p1b ?r2p1b ?wh0p1b ?wh1p1b ?d0p1b ?d1p1b ?v0p1b ?v1p1b ?p0p1b ?p1p1b ?s1p1b ?s2p1b ?s3p1b ?s4p1b ?hip1b ?hvnp1b ?hn2p1b ?hNp1b ?N0p1b ?N1p1b ?hp1b
      case Fp1b => exact F9
      case Np1b => exact kst_newsOf N9 (by kst_allIn)
      case Bp1b => exact B
      case Xp1b => exact X
      case Tp1b => exact T
      case e1p1b => assumption
      case e3p1b => assumption
      case r1p1b => exact all_ne7 (adr_ne l1 l2 l3 l4 l5 m4 m5 m6 l7 l8 l9 l10 l11 l12).2.2.1 r4
      case r2p1b => exact all_ne7 (adr_ne l1 l2 l3 l4 l5 m4 m5 m6 l7 l8 l9 l10 l11 l12).2.2.2 r6
      case hip1b => assumption
      case hvnp1b => exact .cons _ _ (.cons _ _ .nil)
      case hn2p1b => rfl
      case hNp1b => rfl
      case N0p1b => assumption
      case N1p1b => assumption
      case hp1b =>
        intro h' tk u' N' tn' vs' I' b8 b9 F' N8
        rw [show List.set [Value.int N0 tn0, Value.int N1 tn1] (Int.toNat 1) (Value.int N' tn') = [Value.int N0 tn0, Value.int N' tn'] from rfl] at N8
        refine' h _ _ _ _ _ _ _ _ _ N0 N' tn0 tn' vs0 vs' nn ?ap1b ?bp1b ?cp1b i0 I' y1 y2 b8 b9 F' (kst_newsOf N8 ?np1b)
        case np1b => kst_allIn
        case ap1b => assumption
        case bp1b => assumption
        case cp1b => assumption
      all_goals first
        | with_reducible assumption
        | decide
        | exact (adr_ne2 l1 l2 l3 l4 l5 m4 m5 m6 l7 l8 l9 l10 l11 l12).1.1
        | exact (adr_ne2 l1 l2 l3 l4 l5 m4 m5 m6 l7 l8 l9 l10 l11 l12).1.2.1
        | exact (adr_ne2 l1 l2 l3 l4 l5 m4 m5 m6 l7 l8 l9 l10 l11 l12).1.2.2.2.2.2.1
        | exact (adr_ne2 l1 l2 l3 l4 l5 m4 m5 m6 l7 l8 l9 l10 l11 l12).1.2.2.2.2.2.2.1
        | exact (adr_ne2 l1 l2 l3 l4 l5 m4 m5 m6 l7 l8 l9 l10 l11 l12).1.2.2.2.2.2.2.2
        | exact (adr_ne2 l1 l2 l3 l4 l5 m4 m5 m6 l7 l8 l9 l10 l11 l12).2.2.1
        | exact (adr_ne2 l1 l2 l3 l4 l5 m4 m5 m6 l7 l8 l9 l10 l11 l12).2.2.2.1
        | exact (adr_ne2 l1 l2 l3 l4 l5 m4 m5 m6 l7 l8 l9 l10 l11 l12).2.2.2.2.1
        | exact (adr_ne2 l1 l2 l3 l4 l5 m4 m5 m6 l7 l8 l9 l10 l11 l12).2.2.2.2.2
        | exact Int.le_of_lt_add_one hd1
        | exact (val_b hv0 hv1).1
        | exact (val_b hv0 hv1).2
        | exact (place_b hq0 hq1 q2).1
        | exact (place_b hq0 hq1 q2).2
        | omega
        | (rw [e69]; omega)

end PT1
section PLP
section
variable {prog : Program} {w : World} {A : Around} {E : Value → Shared → Prop} {s : Shared} {env : Env} {h₀ : Heap} {x : Str} {px : Pos} {body : List Stmt} {Q : Flow → Shared → Prop}
/-- a loop over a made list of ints, its target any name (a cell too): an invariant over the frame's map and the ledger -/
theorem turns_list {l : Addr} {vs : List Value} {ns : List Int} {nl : Nat} {m₀ : Str → Option Value} {news : List (Addr × Obj)} {adr : List Addr} (J : (Str → Option Value) → List (Addr × Obj) → Prop)
    (hh : A.handled = none) (hol : s.heap.get? l = some (W.listOf vs.toArray nl)) (hlL : env.locals ≠ l) (hi : IntsAre vs ns) (F : Fr h₀ env.locals s.heap m₀) (N : News h₀ env.locals s.heap news)
    (hadr : news.map (·.1) = adr) (hla : l ∉ adr) (hj : J m₀ news)
    (turn : ∀ n t m₁ news₁ h tk own, n ∈ ns → news₁.map (·.1) = adr → (∀ q ∈ own, q.1 ∉ adr) → J m₁ news₁ → Fr h₀ env.locals h m₁ → News h₀ env.locals h (news₁ ++ own) →
      wpAny (model prog w) A (assign (.Name x px) env (.int n t)) (fun _ s₃ => wpAny (model prog w) A (execs body env)
        (fun f s₂ => f = .next ∧ ∃ h' tk' m' news', s₂ = { s with heap := h', toks := tk' } ∧ news'.map (·.1) = adr ∧ J m' news' ∧ Fr h₀ env.locals h' m' ∧ News h₀ env.locals h' (news' ++ own)) E s₃) E { s with heap := h, toks := tk })
    (done : ∀ m' news' h' tk', news'.map (·.1) = adr → J m' news' → Fr h₀ env.locals h' m' → News h₀ env.locals h' news' → Q .next { s with heap := h', toks := tk' }) :
    wpAny (model prog w) A (pyIter (.ref l)) (fun it s₂ => TurnsAt prog w A h₀ env (.Name x px) body Q E it s₂) E s := by
  have hls : s.heap.IsList l vs.toArray := ⟨_, hol, rfl, nl, rfl⟩
  have hne : l ≠ s.heap.objs.size := Nat.ne_of_lt (Heap.lt_size hol)
  have old : ∀ b ∈ adr, b ≠ s.heap.objs.size := by
    intro b hb
    rw [← hadr] at hb
    obtain ⟨q, hq, rfl⟩ := List.mem_map.mp hb
    exact Nat.ne_of_lt (Heap.lt_size (N q hq).1)
  refine wpAny_pyIter_list hls ?_
  have W := Walks.list (prog := prog) (w := w) hh s.heap.objs.size l hne vs.toArray
  refine ⟨_, _, _, _, _, _, _, m₀, news, (fun _ m nx => nx.map (·.1) = adr ∧ J m nx), rfl, KTurns.ofWalks W ?go, ?lf, ?wr, ?nw, ⟨⟨_, Heap.get?_push_size _ rfl, rfl, rfl⟩, hls.at fun o e => Heap.get?_push_of_some _ e⟩, F.push _, (fun p hp => ⟨Heap.get?_push_of_some _ (N p hp).1, (N p hp).2⟩), ⟨hadr, hj⟩, ?step, ?done⟩
  case go => intro i v s' Q' E' _ hq; exact wpAny_pure hq
  case lf =>
    intro hm
    rcases List.mem_cons.mp hm with e | hm
    · exact absurd F.ns.lt (e ▸ Nat.lt_irrefl _)
    · exact hlL (List.mem_singleton.mp hm)
  case wr =>
    intro b hb
    rw [List.mem_singleton.mp hb]
    exact next_is_new F
  case nw =>
    intro p hp hI
    exact old p.1 (hadr ▸ List.mem_map_of_mem hp) (List.mem_singleton.mp hI)
  case step =>
    intro i v m₁ news₁ h₁ tk₁ own hin hP hJ hnw hown hget hfp _ F₁ N₁
    have hsz : vs.toArray.size = ns.length := by simp [hi.length]
    have hlt : i < ns.length := by rw [← hsz]; exact hin
    obtain ⟨t, hx⟩ := hi.get i ns[i] (by simp [hlt])
    have hv : v = .int ns[i] t := by
      have hP' : vs[i]? = some v := by simpa using hP
      rw [hx] at hP'; exact (Option.some.inj hP').symm
    subst hv
    have hoff : ∀ q ∈ own, q.1 ∉ adr := by
      intro q hq hb
      rcases List.mem_cons.mp (hown q hq) with e | e
      · exact old _ hb e
      · exact hla (List.mem_singleton.mp e ▸ hb)
    have N₂ : News h₀ env.locals h₁ (news₁ ++ own) := fun p hp => N₁ p (List.mem_append.mpr (List.mem_append.mp hp).symm)
    refine wpAny_mono (turn ns[i] t m₁ news₁ h₁ tk₁ own (List.getElem_mem hlt) hJ.1 hoff hJ.2 F₁ N₂) (fun _ s₃ h3 => wpAny_mono h3 (fun f s₂ p => ?_) fun _ _ e => e) fun _ _ e => e
    obtain ⟨rfl, h', tk', m', news', rfl, ha', hJ', F', N'⟩ := p
    exact ⟨rfl, h', tk', m', news', rfl, F', fun p hp => N' p (List.mem_append.mpr (List.mem_append.mp hp).symm), fun p hp hI => old p.1 (ha' ▸ List.mem_map_of_mem hp) (List.mem_singleton.mp hI), ha', hJ'⟩
  case done =>
    intro h' tk m' news' F' N' _ hJ
    exact done m' news' h' tk hJ.1 hJ.2 F' N'
end

end PLP
section PLO
theorem loop_spec : ∀ {w : World} {p : Program} {loose : List Str} {mean : ExcName → Option Value} {mg mb : Str → Option Value} {h₀ : Heap} {L fa : Addr} {cd : Value} {s : Shared} {Q : Flow → Shared → Prop} {u : Str → Option Value}
   {lc ls lr ln c1 c2 c3 c4 x0 d0 b0 x1 d1 b1 : Nat} {o1 o2 o3 o4 : Obj} {w1 w2 w3 w4 : Option Value} {head s0 s1 : Int} {k0 k1 : Nat} {th ts0 ts1 tn0 tn1 t01 t02 t03 u01 u03 t11 t12 t13 u11 u13 : Tok} {g01 g02 g03 g11 g12 g13 : Int} {vs0 vs1 : List Value} {ns nr nn n0 n1 : Nat} {vs : List Value} {is : List Int},
   Below callerA h₀ [] h₀ → Fr h₀ L s.heap (lawMap lc ls lr ln head th u) → (hd.heap_1 w.params).In h₀ →
   News h₀ L s.heap [(c4, o4), (c3, o3), (c2, o2), (c1, o1), (ls, W.listOf #[.int s0 ts0, .int s1 ts1] ns), (lr, W.listOf #[.ref x0, .ref x1] nr), (ln, W.listOf #[.int 0 tn0, .int 0 tn1] nn),
       (d0, rowD t01 t02 t03 u01 u03 g01 g02 g03 k0 s0 b0), (x0, instObj 126 d0), (b0, W.listOf vs0.toArray n0), (d1, rowD t11 t12 t13 u11 u13 g11 g12 g13 k1 s1 b1), (x1, instObj 126 d1), (b1, W.listOf vs1.toArray n1)] →
   Top p loose mean mg mb h₀ → h₀.IsList lc vs.toArray → IntsAre vs is → is.length ≤ 63 →
   o1.data = .cell w1 → o2.data = .cell w2 → o3.data = .cell w3 → o4.data = .cell w4 →
   c1 < c2 → c2 < c3 → c3 < c4 → c4 < ls → ls < d0 → lr ≠ c1 → lr ≠ c2 → lr ≠ c3 → lr ≠ ln → lr ≠ b0 → lr ≠ b1 → d0 < x0 → x0 < b0 → b0 < d1 → d1 < x1 → x1 < b1 → b1 < ln →
   1 ≤ s0 → s0 ≤ 40 → 8 * (k0 : Int) < s0 + 8 → s0 ≤ 8 * k0 → 1 ≤ s1 → s1 ≤ 40 → 8 * (k1 : Int) < s1 + 8 → s1 ≤ 8 * k1 →
   IntsAre vs0 (octs k0 0) → IntsAre vs1 (octs k1 0) →
   (∀ h' tk u' o1' o2' o3' w1' w2' w3' N0' N1' tn0' tn1' vs0' vs1' nn', o1'.data = .cell w1' → o2'.data = .cell w2' → o3'.data = .cell w3' →
     IntsAre vs0' (octs k0 N0') → IntsAre vs1' (octs k1 N1') → 0 ≤ N0' → N0' < 1099511627776 → 0 ≤ N1' → N1' < 1099511627776 →
     Fr h₀ L h' (lawMap lc ls lr ln head th u') →
     News h₀ L h' [(c4, o4), (c3, o3'), (c2, o2'), (c1, o1'), (ls, W.listOf #[.int s0 ts0, .int s1 ts1] ns), (lr, W.listOf #[.ref x0, .ref x1] nr), (ln, W.listOf #[.int N0' tn0', .int N1' tn1'] nn'),
       (d0, rowD t01 t02 t03 u01 u03 g01 g02 g03 k0 s0 b0), (x0, instObj 126 d0), (b0, W.listOf vs0'.toArray n0), (d1, rowD t11 t12 t13 u11 u13 g11 g12 g13 k1 s1 b1), (x1, instObj 126 d1), (b1, W.listOf vs1'.toArray n1)] →
     wpAny (model PySem.Challenge.rw_aw0020_01.row.prog w) (callerA.deeper (lawEnv L fa cd c1 c2 c3 c4)) (execs law5 (lawEnv L fa cd c1 c2 c3 c4)) Q (fun _ _ => False) { s with heap := h', toks := tk }) →
   wpAny (model PySem.Challenge.rw_aw0020_01.row.prog w) (callerA.deeper (lawEnv L fa cd c1 c2 c3 c4)) (execs law4 (lawEnv L fa cd c1 c2 c3 c4)) Q (fun _ _ => False) s := by
  k_fill
  w_top off
  intro w p loose mean mg mb h₀ L fa cd s Q u lc ls lr ln c1 c2 c3 c4 x0 d0 b0 x1 d1 b1 o1 o2 o3 o4 w1 w2 w3 w4 head s0 s1 k0 k1 th ts0 ts1 tn0 tn1 t01 t02 t03 u01 u03 t11 t12 t13 u11 u13 g01 g02 g03 g11 g12 g13 vs0 vs1 ns nr nn n0 n1 vs is
    B F X N T hl hi hlen e1 e2 e3 e4 l1 l2 l3 l4 l5 m1 m2 m3 m4 m5 m6 l7 l8 l9 l10 l11 l12 p1 p2 p3 p4 q1 q2 q3 q4 i0 i1 hC
  have et : law4 = law4.take 1 ++ law5 := by
    have e : law5 = law4.drop 1 := by show lawBody.drop 5 = (lawBody.drop 4).drop 1; rw [List.drop_drop]
    rw [e]; exact (List.take_append_drop 1 law4).symm
  rw [et]
  unfold law4 lawEnv lawScope lawBody lawDef PySem.Challenge.pw_aw0020_01
  dsimp only [List.take, List.drop, List.cons_append, List.nil_append]
  iterate 1 (walk_at "mine.step")
  with_unfolding_all refine' For_turns F ?_
  iterate 22 (walk_at "mine.step")
  rename IntsAre _ (_ ++ [64, 72, 163, 70]) => I9
  rename Fr h₀ _ _ _ => F9
  rename News h₀ _ _ _ => N9
  refine turns_list (adr := [c4, c3, c2, c1, ls, lr, ln, d0, x0, b0, d1, x1, b1]) (news := [(c4, o4), (c3, o3), (c2, o2), (c1, o1), (ls, W.listOf #[.int s0 ts0, .int s1 ts1] ns), (lr, W.listOf #[.ref x0, .ref x1] nr), (ln, W.listOf #[.int 0 tn0, .int 0 tn1] nn), (d0, rowD t01 t02 t03 u01 u03 g01 g02 g03 k0 s0 b0), (x0, instObj 126 d0), (b0, W.listOf vs0.toArray n0), (d1, rowD t11 t12 t13 u11 u13 g11 g12 g13 k1 s1 b1), (x1, instObj 126 d1), (b1, W.listOf vs1.toArray n1)])
    (fun m nx => m = lawMap lc ls lr ln head th m ∧ ∃ o1' o2' o3' w1' w2' w3' N0' N1' tn0' tn1' vs0' vs1' nn',
      nx = [(c4, o4), (c3, o3'), (c2, o2'), (c1, o1'), (ls, W.listOf #[.int s0 ts0, .int s1 ts1] ns), (lr, W.listOf #[.ref x0, .ref x1] nr), (ln, W.listOf #[.int N0' tn0', .int N1' tn1'] nn'), (d0, rowD t01 t02 t03 u01 u03 g01 g02 g03 k0 s0 b0), (x0, instObj 126 d0), (b0, W.listOf vs0'.toArray n0), (d1, rowD t11 t12 t13 u11 u13 g11 g12 g13 k1 s1 b1), (x1, instObj 126 d1), (b1, W.listOf vs1'.toArray n1)] ∧
      o1'.data = .cell w1' ∧ o2'.data = .cell w2' ∧ o3'.data = .cell w3' ∧ IntsAre vs0' (octs k0 N0') ∧ IntsAre vs1' (octs k1 N1') ∧ 0 ≤ N0' ∧ N0' < 1099511627776 ∧ 0 ≤ N1' ∧ N1' < 1099511627776)
    rfl (N9 _ (.head _)).1 (Ne.symm (N9 _ (.head _)).2.1) I9 F9 (kst_newsOf N9 (by kst_allIn)) rfl ?hla ?hj ?turn ?done
  case hla =>
    simp only [List.mem_cons, List.not_mem_nil, or_false]
    intro hm
    rcases hm with e | e | e | e | e | e | e | e | e | e | e | e | e <;> (have e' : @Eq Nat _ _ := e; omega)
  case hj => exact ⟨lawMap_of rfl rfl rfl rfl rfl, o1, o2, o3, w1, w2, w3, 0, 0, tn0, tn1, vs0, vs1, nn, rfl, e1, e2, e3, i0, i1, by decide, by decide, by decide, by decide⟩
  case turn =>
    rintro n t m₁ news₁ h tk own hn ha hoff ⟨hm, o1', o2', o3', w1', w2', w3', N0', N1', tn0', tn1', vs0', vs1', nn', rfl, f1, f2, f3, f4, f5, f6, f7, f8, f9⟩ F₁ N₁
    have F₂ := (congrArg (Fr h₀ L h) hm).mp F₁
    refine turn_spec (rest := own) B F₂ X N₁ T f1 f2 f3 e4 l1 l2 l3 l4 l5 m1 m2 m3 m4 m5 m6 l7 l8 l9 l10 l11 l12 ?_ ?_ ?_ ?_ ?_ ?_ p1 p2 p3 p4 q1 q2 q3 q4 f4 f5 f6 f7 f8 f9 ?_
    · intro q hq e; exact hoff q hq (by rw [e]; simp)
    · intro q hq e; exact hoff q hq (by rw [e]; simp)
    · intro q hq e; exact hoff q hq (by rw [e]; simp)
    · intro q hq e; exact hoff q hq (by rw [e]; simp)
    · intro q hq e; exact hoff q hq (by rw [e]; simp)
    · intro q hq e; exact hoff q hq (by rw [e]; simp)
    · intro h' tk' u' o1'' o2'' o3'' w1'' w2'' w3'' N0'' N1'' tn0'' tn1'' vs0'' vs1'' nn'' f1' f2' f3' f4' f5' f6' f7' f8' f9' F' N'
      exact ⟨rfl, h', tk', _, _, rfl, rfl, ⟨lawMap_of rfl rfl rfl rfl rfl, o1'', o2'', o3'', w1'', w2'', w3'', N0'', N1'', tn0'', tn1'', vs0'', vs1'', nn'', rfl, f1', f2', f3', f4', f5', f6', f7', f8', f9'⟩, F', N'⟩
  case done =>
    rintro m' news' h' tk' ha ⟨hm, o1', o2', o3', w1', w2', w3', N0', N1', tn0', tn1', vs0', vs1', nn', rfl, f1, f2, f3, f4, f5, f6, f7, f8, f9⟩ F' N'
    exact hC h' tk' m' o1' o2' o3' w1' w2' w3' N0' N1' tn0' tn1' vs0' vs1' nn' f1 f2 f3 f4 f5 f6 f7 f8 f9 ((congrArg (Fr h₀ L h') hm).mp F') N'

end PLO
section PMK
theorem of_allLt {d : Addr} : ∀ {l : List (Addr × Obj)}, AllLt d l → ∀ p ∈ l, p.1 < d
  | [], _, _, h => nomatch h
  | _ :: _, x, p, h => by
    rcases List.mem_cons.mp h with rfl | h
    · exact x.1
    · exact of_allLt x.2 p h
theorem allLt_ne {d : Addr} {l : List (Addr × Obj)} (x : AllLt d l) : ∀ p ∈ l, p.1 ≠ d := fun p hp => Nat.ne_of_lt (of_allLt x p hp)
theorem zeros_is {k : Nat} : List.flatten (List.replicate k [(0 : Int)]) = octs k 0 := by
  rw [octs_zero]
  induction k with
  | zero => rfl
  | succ k ih => rw [List.replicate_succ, List.flatten_cons, ih, List.replicate_succ]; rfl
theorem bytes_of {sz : Int} (h0 : 1 ≤ sz) : 8 * (((-Int.fdiv (-sz) 8).toNat : Nat) : Int) < sz + 8 ∧ sz ≤ 8 * (((-Int.fdiv (-sz) 8).toNat : Nat) : Int) ∧ (((-Int.fdiv (-sz) 8).toNat : Nat) : Int) = -Int.fdiv (-sz) 8 := by
  rw [Int.fdiv_eq_ediv_of_nonneg _ (by decide)]
  omega
local macro_rules | `(tactic| k_all) => `(tactic| exact allLt_ne (by assumption))
theorem make_spec : ∀ {w : World} {p : Program} {loose : List Str} {mean : ExcName → Option Value} {mg mb : Str → Option Value} {A₀ : Around} {base h₀ : Heap} {env : Env} {L : Addr} {m : Str → Option Value} {s : Shared} {Q : Value → Shared → Prop} {E : Value → Shared → Prop}
   {sz : Int} {t : Tok} {news : List (Addr × Obj)},
   Below A₀ base [] h₀ → Fr h₀ L s.heap m → (hd.heap_1 w.params).In h₀ → News h₀ L s.heap news → Top p loose mean mg mb h₀ → env.frame = some L → env.scope.kind = .function →
   1 ≤ sz → sz ≤ 40 →
   (∀ (h' : Heap) (tk : Nat) (x d b : Nat) (k : Nat) (t1 t2 t3 u1 u3 : Tok) (vs : List Value) (nb : Nat), (∀ q ∈ news, q.1 < d) → d < x → x < b → 8 * (k : Int) < sz + 8 → sz ≤ 8 * k → IntsAre vs (octs k 0) → Fr h₀ L h' m →
     News h₀ L h' ((b, W.listOf vs.toArray nb) :: (x, instObj 126 d) :: (d, rowD t1 t2 t3 u1 u3 (PyData.keyHash w.params (Str.ofString "_size_bytes")) (PyData.keyHash w.params (Str.ofString "_bitarray")) (PyData.keyHash w.params (Str.ofString "_size")) k sz b) :: news) →
     Q (.ref x) { s with heap := h', toks := tk }) →
   wpAny (model PySem.Challenge.rw_aw0020_01.row.prog w) (callerA.deeper env) (call (.ref 126) [.int sz t] []) Q E s := by
  k_fill
  w_top off
  intro w p loose mean mg mb A₀ base h₀ env L m s Q E sz t news B F X N T hf hke hs0 hs1 h
  refine call_cls (fI := 36) F X N (by k_is) (by k_is) (by k_is) fun x d h1 F1 N1 l1 l2 => ?_
  have l1' := allLt_of l1
  replace l2 := ltN l2
  refine' code_def (binds := [(Str.ofString "self", .ref x), (Str.ofString "size", .int sz t)]) B F1 X N1 T ?kA hf hke ?k6 ?k7 ?k8 ?k9 ?kB ?_ ?c2 ?c3 ?c4 ?c5
  case kA => exact rfl
  case k6 => k_is
  case k7 => k_is
  case k8 => k_room
  case k9 => exact BindsTo.of_eq rfl
  case c5 => decide
  case kB => exact locs rfl
  case c2 => exact rfl
  case c3 => exact rfl
  case c4 => exact rfl
  intro g' L' h' FG' F' N' B' X' T'
  (try dsimp only)
  (try k_fold)
  obtain ⟨k, hk, hb1, hb2⟩ : ∃ k : Nat, -Int.fdiv (-sz) 8 = (k : Int) ∧ 8 * (k : Int) < sz + 8 ∧ sz ≤ 8 * k := by
    obtain ⟨hb1, hb2, hb3⟩ := bytes_of hs0
    exact ⟨_, hb3.symm, hb1, hb2⟩
  iterate 38 (walk_at "mine.step")
  rw [hk]
  k_steps
  rename Fr h₀ _ _ _ => F8
  rename News h₀ _ _ _ => N8
  rename IntsAre (List.flatten _) _ => I8
  rw [zeros_is, Int.toNat_natCast] at I8
  rename x < _ ∧ d < _ ∧ AllLt _ news => lx
  rename _ < _ ∧ x < _ ∧ d < _ ∧ AllLt _ news => ly
  refine' h _ _ x d _ k _ _ _ _ _ _ _ l1 l2 ?lb hb1 hb2 I8 F8 (kst_newsOf N8 ?n)
  case n => kst_allIn
  case lb => exact ly.2.1

end PMK
section PPB
theorem comp_grow3 {h₀ : Heap} {L : Addr} {I C D a b c : Nat} {m : Str → Option Value} {s₁ : Shared} {oI oC oD pa pb pc : Obj} {S : List (Addr × Obj) → Prop} {rest : Value → List (Addr × Obj) → Prop} {y : Value} {h' : Heap} {tk : Nat} {old : List (Addr × Obj)}
    (F : Fr h₀ L h' m) (N : News h₀ L h' ((a, pa) :: (b, pb) :: (c, pc) :: (I, oI) :: (C, oC) :: (D, oD) :: old)) (hI : I < c) (hC : C < c) (hD : D < c) (cb : c < b) (ba : b < a) (off : LCg.Off3 I C D old)
    (hS : S ((a, pa) :: (b, pb) :: (c, pc) :: old)) (r : rest y ((a, pa) :: (b, pb) :: (c, pc) :: old)) :
    LCg.CompEnd h₀ L m s₁ I oI C oC D oD S rest y { s₁ with heap := h', toks := tk } := by
  have up : ∀ {x y z : Nat}, x < y → y < z → x < z := fun p q => Nat.lt_trans p q
  refine LCg.CompEnd.intro F N ((a, pa) :: (b, pb) :: (c, pc) :: old) (fun p hp => ?_) ⟨⟨Nat.ne_of_gt (up hI (up cb ba)), Nat.ne_of_gt (up hC (up cb ba)), Nat.ne_of_gt (up hD (up cb ba))⟩, ⟨Nat.ne_of_gt (up hI cb), Nat.ne_of_gt (up hC cb), Nat.ne_of_gt (up hD cb)⟩, ⟨Nat.ne_of_gt hI, Nat.ne_of_gt hC, Nat.ne_of_gt hD⟩, off⟩ hS r
  simp only [List.mem_cons] at hp ⊢
  rcases hp with hp | hp | hp | hp | hp | hp | hp
  · exact .inr (.inr (.inr (.inl hp)))
  · exact .inr (.inr (.inr (.inr (.inl hp))))
  · exact .inr (.inr (.inr (.inr (.inr (.inl hp)))))
  · exact .inl hp
  · exact .inr (.inl hp)
  · exact .inr (.inr (.inl hp))
  · exact .inr (.inr (.inr (.inr (.inr (.inr hp)))))
theorem pro_B : ∀ {w : World} {p : Program} {loose : List Str} {mean : ExcName → Option Value} {mg mb : Str → Option Value} {h₀ : Heap} {L fa : Addr} {cd : Value} {s : Shared} {Q : Flow → Shared → Prop} {E : Value → Shared → Prop}
   {lc c1 c2 c3 c4 : Nat} {o1 o2 o3 o4 : Obj} {w1 w2 w3 w4 : Option Value} {head : Int} {th : Tok},
   Below callerA h₀ [] h₀ → Fr h₀ L s.heap (fun y => if y = Str.ofString "head" then some (.int head th) else if y = Str.ofString "script" then some (.ref lc) else none) → (hd.heap_1 w.params).In h₀ → 
   News h₀ L s.heap [(c4, o4), (c3, o3), (c2, o2), (c1, o1)] → o1.data = .cell w1 → o2.data = .cell w2 → o3.data = .cell w3 → o4.data = .cell w4 →
   c1 < c2 → c2 < c3 → c3 < c4 →
   Top p loose mean mg mb h₀ →
   (∀ (h' : Heap) (tk : Nat) (u : Str → Option Value) (ls lr ln x0 d0 b0 x1 d1 b1 : Nat) (s0 s1 : Int) (k0 k1 : Nat) (ts0 ts1 tn0 tn1 t01 t02 t03 u01 u03 t11 t12 t13 u11 u13 : Tok) (g01 g02 g03 g11 g12 g13 : Int) (vs0 vs1 : List Value) (ns nr nn n0 n1 : Nat),
     c4 < ls → ls < d0 → lr ≠ c1 → lr ≠ c2 → lr ≠ c3 → lr ≠ ln → lr ≠ b0 → lr ≠ b1 → d0 < x0 → x0 < b0 → b0 < d1 → d1 < x1 → x1 < b1 → b1 < ln →
     1 ≤ s0 → s0 ≤ 40 → 8 * (k0 : Int) < s0 + 8 → s0 ≤ 8 * k0 → 1 ≤ s1 → s1 ≤ 40 → 8 * (k1 : Int) < s1 + 8 → s1 ≤ 8 * k1 →
     IntsAre vs0 (octs k0 0) → IntsAre vs1 (octs k1 0) →
     Fr h₀ L h' (lawMap lc ls lr ln head th u) →
     News h₀ L h' [(c4, o4), (c3, o3), (c2, o2), (c1, o1), (ls, W.listOf #[.int s0 ts0, .int s1 ts1] ns), (lr, W.listOf #[.ref x0, .ref x1] nr), (ln, W.listOf #[.int 0 tn0, .int 0 tn1] nn),
       (d0, rowD t01 t02 t03 u01 u03 g01 g02 g03 k0 s0 b0), (x0, instObj 126 d0), (b0, W.listOf vs0.toArray n0), (d1, rowD t11 t12 t13 u11 u13 g11 g12 g13 k1 s1 b1), (x1, instObj 126 d1), (b1, W.listOf vs1.toArray n1)] →
     wpAny (model PySem.Challenge.rw_aw0020_01.row.prog w) (callerA.deeper (lawEnv L fa cd c1 c2 c3 c4)) (execs law4 (lawEnv L fa cd c1 c2 c3 c4)) Q E { s with heap := h', toks := tk }) →
   wpAny (model PySem.Challenge.rw_aw0020_01.row.prog w) (callerA.deeper (lawEnv L fa cd c1 c2 c3 c4)) (execs law1 (lawEnv L fa cd c1 c2 c3 c4)) Q E s := by
  k_fill
  w_top off
  intro w p loose mean mg mb h₀ L fa cd s Q E lc c1 c2 c3 c4 o1 o2 o3 o4 w1 w2 w3 w4 head th B F X N d1 d2 d3 d4 l1 l2 l3 T hC
  have ha0 := Int.fmod_nonneg_of_pos (head + 8) (b := 40) (by decide)
  have ha1 := Int.fmod_lt_of_pos (head + 8) (b := 40) (by decide)
  have hb0 := Int.fmod_nonneg_of_pos (Int.fdiv head 40 + 2) (b := 40) (by decide)
  have hb1 := Int.fmod_lt_of_pos (Int.fdiv head 40 + 2) (b := 40) (by decide)
  obtain ⟨s0, e0, p0, p1⟩ : ∃ s0, 1 + Int.fmod (head + 8) 40 = s0 ∧ 1 ≤ s0 ∧ s0 ≤ 40 := ⟨_, rfl, by omega, by omega⟩
  obtain ⟨s1, e1, q0, q1⟩ : ∃ s1, 1 + Int.fmod (Int.fdiv head 40 + 2) 40 = s1 ∧ 1 ≤ s1 ∧ s1 ≤ 40 := ⟨_, rfl, by omega, by omega⟩
  clear ha0 ha1 hb0 hb1
  have et : law1 = law1.take 3 ++ law4 := by
    have e : law4 = law1.drop 3 := by show lawBody.drop 4 = (lawBody.drop 1).drop 3; rw [List.drop_drop]
    rw [e]; exact (List.take_append_drop 3 law1).symm
  rw [et]
  unfold law1 lawEnv lawScope lawBody lawDef PySem.Challenge.pw_aw0020_01
  dsimp only [List.take, List.drop, List.cons_append, List.nil_append]
  iterate 29 (walk_at "mine.step")
  rw [e0, e1]
  iterate 4 (walk_at "mine.step")
  (k_dflt (refine LCg.Assign_ListComp_U (F₀ := by k_asm) (by rfl) (by with_unfolding_all rfl) (by with_unfolding_all rfl) (by decide) (by rfl) (by decide) (by rfl) (by rfl) (by rfl) ?_))
  iterate 1 (walk_at "mine.step")
  k_dflt (refine LCg.CompSrc.ledger (by rfl) (by k_asm) (by k_asm) (by k_mem) (by first | size_fits | exact Nat.le_of_ble_eq_true rfl) ?_; intro g'; lcg_lit)
  iterate 9 (walk_at "mine.step")
  k_dflt (refine' make_spec ?kBa ?kF ?kX ?kN ?kT ?kf ?kk ?a1 ?a2 ?_)
  case kBa => k_asm
  case kF => k_asm
  case kX => k_asm
  case kN => k_asm
  case kT => k_asm
  case kf => exact rfl
  case kk => exact rfl
  case a1 => omega
  case a2 => omega
  intro h9 tk9 x9 d9 b9 k9 t91 t92 t93 u91 u93 vs9 nb9 l9 l8 l7 ba9 bb9 I9 F9 N9
  k_lt l9
  (try dsimp only)
  (try k_sweep)
  k_dflt (refine' comp_grow3 ?cgF ?cgN ?cgI ?cgC ?cgD ?cgb ?cga ?cgo ?cgs ?_)
  case cgF => k_asm
  case cgN => k_asm
  case cgI => exact l9.1
  case cgC => exact l9.2.1
  case cgD => exact l9.2.2.1
  case cgb => assumption
  case cga => assumption
  case cgo => k_dflt (first | assumption | (simp only [LCg.Off3, and_true]; assumption))
  case cgs => exact Or.inr ⟨_, by k_mem, rfl, _, rfl⟩
  iterate 9 (walk_at "mine.step")
  k_dflt (refine' make_spec ?kBb ?kF ?kX ?kN ?kT ?kf ?kk ?a1 ?a2 ?_)
  case kBb => k_asm
  case kF => k_asm
  case kX => k_asm
  case kN => k_asm
  case kT => k_asm
  case kf => exact rfl
  case kk => exact rfl
  case a1 => omega
  case a2 => omega
  intro h9 tk9 x9 d9 b9 k9 t91 t92 t93 u91 u93 vs9 nb9 l9 l8 l7 ba9 bb9 I9 F9 N9
  k_lt l9
  (try dsimp only)
  (try k_sweep)
  k_dflt (refine' comp_grow3 ?cgF ?cgN ?cgI ?cgC ?cgD ?cgb ?cga ?cgo ?cgs ?_)
  case cgF => k_asm
  case cgN => k_asm
  case cgI => exact l9.1
  case cgC => exact l9.2.1
  case cgD => exact l9.2.2.1
  case cgb => assumption
  case cga => assumption
  case cgo => k_dflt (first | assumption | (simp only [LCg.Off3, and_true]; assumption))
  case cgs => exact Or.inr ⟨_, by k_mem, rfl, _, rfl⟩
  iterate 12 (walk_at "mine.step")
  rename Fr h₀ _ _ _ => FZ
  replace FZ := fr_law (lc := lc) (hd := head) (th := th) FZ rfl rfl rfl rfl rfl
  rename News h₀ _ _ _ => NZ
  rename _ < _ ∧ _ < _ ∧ _ < _ ∧ _ < _ ∧ _ < _ ∧ _ < _ ∧ _ < _ ∧ _ < _ ∧ c4 < _ ∧ c3 < _ ∧ c2 < _ ∧ c1 < _ => lZ
  rename _ ≠ _ ∧ _ ≠ _ ∧ _ ≠ _ ∧ _ ≠ _ ∧ _ ≠ _ ∧ _ ≠ _ ∧ _ ≠ _ ∧ c4 ≠ _ ∧ c3 ≠ _ ∧ c2 ≠ _ ∧ c1 ≠ _ => oZ
  rename _ < _ ∧ _ < _ ∧ _ < _ ∧ _ < _ ∧ _ < _ ∧ _ < _ ∧ _ < _ ∧ c4 < _ ∧ c3 < _ ∧ c2 < _ ∧ c1 < _ => lY
  rename _ < _ ∧ _ < _ ∧ _ < _ ∧ _ < _ ∧ c4 < _ ∧ c3 < _ ∧ c2 < _ ∧ c1 < _ => lX
  rename c4 < _ ∧ c3 < _ ∧ c2 < _ ∧ c1 < _ => lW
  refine' hC _ _ _ _ _ _ _ _ _ _ _ _ s0 s1 _ _ _ _ _ _ _ _ _ _ _ _ _ _ _ _ _ _ _ _ _ _ _ _ _ _ _ _ _ ?a1 ?a2 ?a3 ?a4 ?a5 ?a6 ?a7 ?a8 ?a9 ?a10 ?a11 ?a12 ?a13 ?a14 ?p1 ?p2 ?p3 ?p4 ?q1 ?q2 ?q3 ?q4 ?i0 ?i1 ?F ?N
  case F => exact FZ
  case N => exact kst_newsOf NZ (by kst_allIn)
  case p3 => assumption
  case p4 => assumption
  case q3 => assumption
  case q4 => assumption
  case i0 => assumption
  case i1 => assumption
  all_goals first
    | assumption
    | exact lW.1
    | exact lX.2.2.2.1
    | exact lY.2.2.2.1
    | exact lZ.2.1
    | exact Nat.ne_of_lt lZ.1
    | exact oZ.1.symm
    | exact oZ.2.2.2.1.symm
    | exact oZ.2.2.2.2.2.2.2.2.1.symm
    | exact oZ.2.2.2.2.2.2.2.2.2.1.symm
    | exact oZ.2.2.2.2.2.2.2.2.2.2.symm

end PPB
section PPA
theorem pro_A : ∀ {w : World} {p : Program} {loose : List Str} {mean : ExcName → Option Value} {mg mb : Str → Option Value} {h₀ : Heap} {L fa : Addr} {cd : Value} {s : Shared} {Q : Flow → Shared → Prop} {E : Value → Shared → Prop}
   {lc c1 c2 c3 c4 : Nat} {o1 o2 o3 o4 : Obj} {vs : List Value} {ns : List Int},
   Below callerA h₀ [] h₀ → Fr h₀ L s.heap (fun y => if y = Str.ofString "script" then some (.ref lc) else none) → (hd.heap_1 w.params).In h₀ →
   News h₀ L s.heap [(c4, o4), (c3, o3), (c2, o2), (c1, o1)] → o1.data = .cell none → o2.data = .cell none → o3.data = .cell none → o4.data = .cell none →
   c1 < c2 → c2 < c3 → c3 < c4 →
   Top p loose mean mg mb h₀ →
   h₀.IsList lc vs.toArray → IntsAre vs ns → ns.length ≤ 63 →
   (∀ (h' : Heap) (tk : Nat) (head : Int) (th : Tok), Fr h₀ L h' (fun y => if y = Str.ofString "head" then some (.int head th) else if y = Str.ofString "script" then some (.ref lc) else none) →
     News h₀ L h' [(c4, o4), (c3, o3), (c2, o2), (c1, o1)] →
     wpAny (model PySem.Challenge.rw_aw0020_01.row.prog w) (callerA.deeper (lawEnv L fa cd c1 c2 c3 c4)) (execs law1 (lawEnv L fa cd c1 c2 c3 c4)) Q E { s with heap := h', toks := tk }) →
   wpAny (model PySem.Challenge.rw_aw0020_01.row.prog w) (callerA.deeper (lawEnv L fa cd c1 c2 c3 c4)) (execs lawBody (lawEnv L fa cd c1 c2 c3 c4)) Q E s := by
  k_fill
  w_top off
  intro w p loose mean mg mb h₀ L fa cd s Q E lc c1 c2 c3 c4 o1 o2 o3 o4 vs ns B F X N d1 d2 d3 d4 l1 l2 l3 T hl hi hlen hQ
  have et : lawBody = lawBody.take 1 ++ law1 := (List.take_append_drop 1 lawBody).symm
  rw [et]
  unfold lawEnv lawScope lawBody lawDef PySem.Challenge.pw_aw0020_01
  dsimp only [List.take, List.drop, List.cons_append, List.nil_append]
  iterate 12 (walk_at "mine.step")
  · rename Fr h₀ L _ _ => F9
    rename News h₀ L _ _ => N9
    exact hQ _ _ _ _ F9 N9
  · iterate 2 (try (walk_at "mine.step"))
    rename Fr h₀ L _ _ => F9
    rename News h₀ L _ _ => N9
    exact hQ _ _ _ _ F9 N9

end PPA
section PCP
abbrev rowE (t1 t2 t3 u1 u3 : Tok) (hs1 hs2 hs3 : Int) (k sz : Int) (b : Addr) : Obj := dictOf [⟨hs1, .str (Str.ofString "_size_bytes") t1, .int k u1⟩, ⟨hs2, .str (Str.ofString "_bitarray") t2, .ref b⟩, ⟨hs3, .str (Str.ofString "_size") t3, .int sz u3⟩] 3
theorem hide_in {K : Frag} {h : Heap} {as : List Addr} (X : K.In h) (hn : ∀ a ∈ as, K.lookup a = none) : K.In (hideAll h as) := by
  intro a o e
  refine hideAll_get _ (X a o e) fun hm => ?_
  rw [hn a hm] at e; cases e
/-- check_bit at a place of the row, whatever the stack: the bit, and the heap only grows -/
theorem check_pure : ∀ {w : World} {A : Around} {s : Shared} {R : Result → Shared → Prop} {x d b : Nat} {i sz N : Int} {k : Nat} {t t1 t2 t3 u1 u3 : Tok} {g1 g2 g3 : Int} {vs : List Value} {nb : Nat},
   (hd.heap_1 w.params).In s.heap → s.heap.NoLimit → A.depth < recursionLimit →
   s.heap.get? x = some (instObj 126 d) → s.heap.get? d = some (rowE t1 t2 t3 u1 u3 g1 g2 g3 k sz b) → s.heap.get? b = some (W.listOf vs.toArray nb) →
   List.lookup x (hd.heap_1 w.params) = none → List.lookup d (hd.heap_1 w.params) = none → List.lookup b (hd.heap_1 w.params) = none →
   IntsAre vs (octs k N) → 0 ≤ i → i < sz → sz ≤ 8 * (k : Int) → sz ≤ 40 →
   (∀ s' t', Keeps s s' → R (.ok (.ret (.int (bitOf N i.toNat) t'))) s') →
   codeAny (model PySem.Challenge.rw_aw0020_01.row.prog w) A (.call (.ref 81) ⟨[.ref x, .int i t], []⟩) R s := by
  k_fill
  w_top off
  intro w A s R x d b i sz N k t t1 t2 t3 u1 u3 g1 g2 g3 vs nb X hlim hroom hx hd' hb nx nd nb' hi h0 h1 h2 h40 h
  have XG : (hd.heap_1 w.params).In (hideAll s.heap [x, d, b]) := hide_in X (by
    intro a ha
    simp only [List.mem_cons, List.not_mem_nil, or_false] at ha
    rcases ha with rfl | rfl | rfl <;> assumption)
  refine codeAny_call_def (binds := [(Str.ofString "self", .ref x), (Str.ofString "idx", .int i t)]) hroom (X 81 _ (by k_is)) rfl hlim (codeRec_of X (by k_is)) rfl (BindsTo.of_eq rfl) (by decide) (locs rfl) (fun h₁ hns hk => ?_)
  have F : Fr (hideAll s.heap [x, d, b]) s.heap.objs.size h₁ (fun y => List.lookup y [(Str.ofString "self", .ref x), (Str.ofString "idx", .int i t)].reverse) :=
    ⟨hns, fun c o e => hk c o (of_hideAll _ e), Nat.le_of_eq (hideAll_size _ _)⟩
  have N' : News (hideAll s.heap [x, d, b]) s.heap.objs.size h₁ [(x, instObj 126 d), (d, rowE t1 t2 t3 u1 u3 g1 g2 g3 k sz b), (b, W.listOf vs.toArray nb)] := by
    intro p hp
    simp only [List.mem_cons, List.not_mem_nil, or_false] at hp
    rcases hp with rfl | rfl | rfl
    · exact ⟨hk _ _ hx, Nat.ne_of_lt (Heap.lt_size hx), hideAll_none _ (by simp)⟩
    · exact ⟨hk _ _ hd', Nat.ne_of_lt (Heap.lt_size hd'), hideAll_none _ (by simp)⟩
    · exact ⟨hk _ _ hb, Nat.ne_of_lt (Heap.lt_size hb), hideAll_none _ (by simp)⟩
  have hkl : ((octs k N).length : Int) = k := by rw [octs_length]
  (try dsimp only)
  k_steps
  · have e0 := chk0 (N := N) (place := i) (by omega) (by omega) h2 (by assumption)
    rw [e0] at h
    exact h _ _ ⟨_, _, rfl, hk⟩
  · have e1 := chk1 (N := N) (place := i) (by omega) (by omega) h2 (by assumption)
    rw [e1] at h
    exact h _ _ ⟨_, _, rfl, hk⟩

end PCP
section PGR
theorem genCode_found {M : Model} {A : Around} {E : Value → Shared → Prop} {s : Shared} {env : Env} {c P : Addr} {ps : Array Value} {pos : Pos} {qualname : Str} {scope : Scope} {c' : Value} {Q : Value → Shared → Prop}
    (hc : env.code = .ref c) (hok : s.heap.IsCode c P ps) (hf : codeAmong pos ps.toList = some c') (h : Q c' s) : wpAny M A (genexprCode env pos qualname scope) Q E s := by
  obtain ⟨o, vs, file, tf, flags, tg, inF, text, tt, op, ho, hd, h11, h2, h7, h9, h10, hop, hpd, htr, hne⟩ := id hok
  unfold genexprCode codeAt
  rw [hc, if_neg (show ¬ ((Value.ref c == Value.none) = true) from Bool.false_ne_true)]
  refine wpAny_bind (wpAny_fieldsOf ho hd ?_)
  rw [h11]
  refine wpAny_bind (wpAny_fieldsOf hop hpd ?_)
  rw [hf]
  exact wpAny_pure h
/-- the inner code of a generator expression, at the first evaluation as at a later one -/
theorem genCode_any {M : Model} {A : Around} {E : Value → Shared → Prop} {s : Shared} {env : Env} {c P : Addr} {ps : Array Value} {pos : Pos} {qualname : Str} {scope : Scope} {Q : Value → Shared → Prop}
    (hc : env.code = .ref c) (hok : s.heap.IsCode c P ps) (htab : s.heap.TableAt c P ps)
    (h : ∀ c' h' tk ps', Heap.ExtBut P s.heap h' → s.heap.objs.size ≤ h'.objs.size → h'.IsCode c P ps' → h'.TableAt c P ps' → Q c' { s with heap := h', toks := tk }) :
    wpAny M A (genexprCode env pos qualname scope) Q E s := by
  cases hf : codeAmong pos ps.toList with
  | some c' => exact genCode_found hc hok hf (h c' s.heap s.toks ps (fun _ _ _ e => e) (Nat.le_refl _) hok htab)
  | none =>
    exact wpAny_genexprCodeX hc hok htab hf fun c' h' tk hx h1 h2 hok' _ htab' _ => h _ h' tk _ hx (Nat.le_trans h1 (Nat.le_of_lt h2)) hok' htab'
theorem Walks.inRange {prog : Program} {w : World} {A : Around} {I : Addr} {fp wr : List Addr} {n : Nat} {P : Nat → Value → Prop} {St : Nat → Heap → Prop} (W : PySem.Walks prog w A I fp wr n P St) :
    PySem.Walks prog w A I fp wr n (fun i v => i < n ∧ P i v) St where
  sub := W.sub
  frame := W.frame
  item := fun i s Q E hi st hQ => W.item i s Q E hi st fun v h' tk hp => hQ v h' tk ⟨hi, hp⟩
  done := W.done
  self := W.self
section
variable {prog : Program} {w : World} {A : Around} {E : Value → Shared → Prop} {s : Shared}
/-- a generator expression over range(n), at its first evaluation as at a later one -/
theorem gen_range {env : Env} {elt iter : Expr} {x : Str} {px : Pos} {scope : Scope} {cl : List (Str × Addr)} {pos : Pos} {Q : Value → Shared → Prop}
    {c P : Addr} {ps : Array Value}
    (hcode : env.code = .ref c)
    (hh : A.handled = none) (hco : scope.isCoroutine = false) (hclos : closureFor scope env = pure cl) (hcell : ∀ y ∈ scope.names, y.2 ≠ .cell) (h0 : scope.names.lookup (".0" : Str) = some NameKind.local)
    (hx : scope.names.lookup x = some .local) (hkind : scope.kind = .function) (hroom : A.depth < recursionLimit)
    (h : wpAny (model prog w) A (eval iter env) (fun xv s₁ => ∃ r n t u v K F mg bm ob, xv = .ref r ∧ IsRange s₁.heap r 0 ((n : Nat) : Int) 1 t u v ∧ Builtin.Range.small 0 ((n : Nat) : Int) 1 = true ∧ s₁.heap.NoLimit ∧
        s₁.heap.IsCode c P ps ∧ s₁.heap.TableAt c P ps ∧ BMod s₁.heap env.globals mg bm ob ∧ K < s₁.heap.objs.size ∧
        (∀ (code : Value) (C : Addr) (href : Heap), s₁.heap.objs.size < C → (∀ b o, b ≠ P → s₁.heap.get? b = some o → href.get? b = some o) →
          QuietGenD prog w (genEnv scope cl C code builtinsNs env) x [] elt (List.range C) [s₁.heap.objs.size] (fun i y => i < n ∧ ∃ t, y = .int (0 + i * 1) t) (fun _ => true) F href (A.depth + 1) (A.units + 8)) ∧
        (∀ (a : Addr) (s₅ : Shared) (ps' : Array Value), s₅.os = s₁.os → (AllBare s₁.gens → AllBare s₅.gens) → (∀ b o, b ≠ P → s₁.heap.get? b = some o → s₅.heap.get? b = some o) →
          s₅.heap.IsCode c P ps' → s₅.heap.TableAt c P ps' → Gen prog w A K a n (fun j y => j < n ∧ F j y) s₅ → Q (.ref a) s₅)) E s)
    (hs : ∀ x, genFold iter env x = pure x) :
    wpAny (model prog w) A (eval (.GeneratorExp elt [⟨.Name x px, iter, [], 0⟩] scope pos) env) Q E s := by
  refine wpAny_GeneratorExp_walksQD hh hco hclos hcell h0 hx hkind hroom (wpAny_mono h (fun xv s₁ h₁' => ?_) fun _ _ e => e) hs
  obtain ⟨r, n, t, u, v, K, F, mg, bm, ob, rfl, hr, hsm, hlim, hcd, htab, M, hK, hq, hQ⟩ := h₁'
  refine wpAny_pyIter_range hr hsm ⟨hlim.push _, ?_⟩
  have hsz : Builtin.Range.rangeSize 0 ((n : Nat) : Int) 1 = ((n : Nat) : Int) := by rw [rangeSize_one]; split <;> omega
  rw [hsz]
  refine genCode_any hcode (hcd.keeps fun _ _ e => Heap.get?_push_of_some _ e) (htab.keeps fun _ _ e => Heap.get?_push_of_some _ e) fun c' h₃ tk₃ ps' hx₃ hge hcode₃ htab₃ => ?_
  have hcP : cStatics ≠ P := fun e => by
    obtain ⟨_, hns, _⟩ := hlim
    obtain ⟨o, es, ep, ho, hd, _⟩ := hns
    rw [e, htab.2] at ho; cases ho; cases hd
  have hPlt : P < s₁.heap.objs.size := Heap.lt_size htab.2
  have htab' := htab.keeps (fun b o e => Heap.get?_push_of_some (h := s₁.heap) { cls := .type "range_iterator", data := .fields #[rawInt 0, rawInt ((n : Nat) : Int), rawInt 1] } e)
  have hl₃ : h₃.NoLimit := (hlim.push _).extBut hx₃ hcP
  have M₃ : BMod h₃ env.globals mg bm ob := (M.keeps fun _ _ e => Heap.get?_push_of_some _ e).extBut htab' hx₃
  have hge' : s₁.heap.objs.size < h₃.objs.size := by
    have := hge
    simp only [Heap.size_push] at this
    omega
  refine wpAny_builtinsFor M₃.ns M₃.name M₃.ne M₃.obj M₃.cls M₃.dict M₃.data ?_
  refine ⟨s₁.heap.objs.size, [s₁.heap.objs.size], [s₁.heap.objs.size], n, _, _, fun _ => true, F, rfl, fun A' hA => Walks.inRange (PySem.Walks.range hA _ 0 1 n), ?_, ?_, hl₃, ?_, ?_, ?_⟩
  · have hr0 : IsRangeIter (s₁.heap.push { cls := .type "range_iterator", data := .fields #[rawInt 0, rawInt ((n : Nat) : Int), rawInt 1] }) s₁.heap.objs.size (0 + ((0 : Nat) : Int) * 1) (((n : Nat) : Int) - ((0 : Nat) : Int)) 1 := by
      have := Heap.get?_push_size s₁.heap (o := { cls := .type "range_iterator", data := .fields #[rawInt 0, rawInt ((n : Nat) : Int), rawInt 1] }) rfl
      simpa [IsRangeIter] using this
    exact hx₃ _ _ (Nat.ne_of_gt hPlt) hr0
  · intro b hb
    rcases List.mem_cons.mp hb with rfl | hb
    · exact hge'
    · cases hb
  · intro hm
    have hc : cStatics < s₁.heap.objs.size := let ⟨_, hn, _⟩ := hlim; hn.lt
    rcases List.mem_cons.mp hm with e | hb
    · exact absurd (e ▸ hc) (Nat.lt_irrefl _)
    · cases hb
  · intro href hhref
    refine hq _ _ href hge' fun b o hb e => hhref b o (hx₃ b o hb (Heap.get?_push_of_some _ e))
  · intro a h₅ tk gs hgb hag hsz₅ hk₅ W hat
    have hp : passing (fun _ => true) n 0 = List.range n := by unfold passing; rw [List.drop_zero]; exact List.filter_eq_self.mpr (fun _ _ => rfl)
    have hlen : (passing (fun _ => true) n 0).length = n := by rw [hp, List.length_range]
    have hF : (fun j y => ∃ i, (passing (fun _ => true) n 0)[j]? = some i ∧ F i y) = fun j y => j < n ∧ F j y := by
      funext j y
      apply propext
      rw [hp]
      constructor
      · rintro ⟨i, e, hf⟩
        obtain ⟨hj, e⟩ := List.getElem?_eq_some_iff.mp e
        rw [List.getElem_range] at e
        subst e
        exact ⟨by simpa using hj, hf⟩
      · rintro ⟨hj, hf⟩
        exact ⟨j, by simp [hj], hf⟩
    rw [hlen, hF] at W
    have kp : ∀ b o, b ≠ P → s₁.heap.get? b = some o → h₅.get? b = some o := fun b o hb e => hk₅ b o (hx₃ b o hb (Heap.get?_push_of_some _ e))
    refine hQ a _ ps' rfl (fun G => G.push hgb) kp (hcode₃.keeps hk₅) (htab₃.keeps hk₅) ⟨_, _, _, _, W, hat, (fun i s' st => st.1.typeIs), List.mem_cons_self, ?_, ?_⟩
    · intro b hb
      show b < h₅.objs.size
      rw [hsz₅]
      rcases List.mem_cons.mp hb with rfl | hb
      · exact Nat.lt_succ_self _
      · rcases List.mem_cons.mp hb with rfl | hb
        · exact Nat.lt_succ_of_lt hag
        · exact Nat.lt_succ_of_lt (Nat.lt_trans (List.mem_range.mp hb) hag)
    · intro b hb
      rcases List.mem_cons.mp hb with rfl | hb
      · exact Nat.lt_trans hK hge'
      · rcases List.mem_cons.mp hb with rfl | hb
        · exact hK
        · cases hb
end

end PGR
section PEL
theorem methodCall_own {prog : Program} {w : World} {A : Around} {E : Value → Shared → Prop} {s : Shared} {env : Env} {o : Expr} {name : Str} {apos pos : Pos} {args : List Expr} {Q : Value → Shared → Prop}
    (hbase : attributeBase o name env (eval o env) = eval o env)
    (hfew : ((backTo pos (starEach args env)).all (fun x => !x.1) && (backToKw pos (keywordEach [] env)).all (fun x => x.1.isSome)
      && decide (args.length + ([] : List Keyword).length + (if ([] : List Keyword).isEmpty then 0 else 1) < 30)) = true)
    (hline : (apos.endLine == pos.line) = true)
    (h : wpAny (model prog w) A (eval o env) (fun ov s₁ => ∀ pl, wpAny (model prog w) A (getMethod ov name pl) (fun fx s₂ => wpAny (model prog w) A (callWith pos fx.1 fx.2 (backTo pos (starEach args env)) []) Q E s₂) E s₁) E s) :
    wpAny (model prog w) A (eval (.Call (.Attribute o name apos) args [] pos) env) Q E s := by
  rw [arm_eval_Call, hbase]
  refine wpAny_bind (wpAny_mono h (fun ov s₁ h₁ => ?_) fun _ _ e => e)
  refine wpAny_bind (wpAny_standAt ?_)
  have hform : methodCallForm (args.length + ([] : List Keyword).length) (backTo pos (starEach args env)) (backToKw pos (keywordEach [] env)) = true := hfew
  have hpos : methodCallPos true o env apos pos = pure pos := by unfold methodCallPos; simp [hline]
  unfold methodCall
  rw [hform]
  refine wpAny_bind (wpAny_holding (wpAny_mono (h₁ _) (fun fx s₂ h₂ => ?_) fun _ _ e => e))
  exact wpAny_bind (wpAny_of_eq hpos h₂)
theorem elt_check : ∀ {w : World} {A : Around} {E : Value → Shared → Prop} {Q : Value → Shared → Prop} {s : Shared} {x d b cA : Nat} {i sz N : Int} {k : Nat} {t t1 t2 t3 u1 u3 : Tok} {g1 g2 g3 : Int} {vs : List Value} {nb : Nat} {cenv : Env} {m : Str → Option Value} {p1 p2 p3 p4 : Pos},
   (hd.heap_1 w.params).In s.heap → s.heap.NoLimit → A.depth < recursionLimit →
   s.heap.get? x = some (instObj 126 d) → s.heap.get? d = some (rowE t1 t2 t3 u1 u3 g1 g2 g3 k sz b) → s.heap.get? b = some (W.listOf vs.toArray nb) →
   List.lookup x (hd.heap_1 w.params) = none → List.lookup d (hd.heap_1 w.params) = none → List.lookup b (hd.heap_1 w.params) = none →
   IntsAre vs (octs k N) → 0 ≤ i → i < sz → sz ≤ 8 * (k : Int) → sz ≤ 40 →
   s.heap.IsCell cA (some (.ref x)) → s.heap.Ns cenv.locals m → m (Str.ofString "x") = some (.int i t) → cenv.scope.kind = .function → cenv.kindOf (Str.ofString "self") = some .free → cenv.kindOf (Str.ofString "x") = some .local →
   cenv.cells.lookup (Str.ofString "self") = some cA →
   (p2.endLine == p4.line) = true →
   (∀ s' t', Keeps s s' → Q (.int (bitOf N i.toNat) t') s') →
   wpAny (model PySem.Challenge.rw_aw0020_01.row.prog w) A (eval (.Call (.Attribute (.Name (Str.ofString "self") p1) (Str.ofString "check_bit") p2) [.Name (Str.ofString "x") p3] [] p4) cenv) Q E s := by
  k_fill
  w_top off
  intro w A E Q s x d b cA i sz N k t t1 t2 t3 u1 u3 g1 g2 g3 vs nb cenv m p1 p2 p3 p4 X hlim hroom hx hd' hb nx nd nb' hi h0 h1 h2 h40 hc hns hm hk hself hxl hcl hline h
  refine methodCall_own (by rfl) (by rfl) hline (wpAny_Name (wpAny_loadName_free hk hself hcl hc fun pl => ?_) (by decide))
  have I : InstAt s.heap x (instObj 126 d) 126 (some (rowE t1 t2 t3 u1 u3 g1 g2 g3 k sz b)) := ⟨hx, rfl, rfl, hd'⟩
  have hg : plainGet (hd.heap_1 w.params) 126 (Str.ofString "check_bit") = true := by k_is
  have hf : findIn (hd.heap_1 w.params) (.ref 126) (Str.ofString "check_bit") = some (some (.ref 81)) := by k_is
  have ht : isFn (hd.heap_1 w.params) (.ref 81) = true := by k_is
  refine method_fn X I (plainGet_of hg).1 (plainGet_of hg).2 hf (beq_iff_eq.mp ht) (by rfl) ?_
  have hkp : keepIn (hd.heap_1 w.params) (.ref 81) = true := by k_is
  refine callWith_K X hkp ?_
  refine spliced_more (wpAny_Name (wpAny_loadName_local hk hxl hns hm ?_) (by decide)) (by rfl)
  refine spliced_none ?_
  refine ⟨X, wpAny_call ?_⟩
  exact check_pure X hlim hroom hx hd' hb nx nd nb' hi h0 h1 h2 h40 fun s' t' kp => h s' t' kp

end PEL
section PES
theorem elt_str : ∀ {w : World} {A : Around} {E : Value → Shared → Prop} {Q : Value → Shared → Prop} {s : Shared} {x d b cA : Nat} {i sz N : Int} {k : Nat} {t t1 t2 t3 u1 u3 : Tok} {g1 g2 g3 : Int} {vs : List Value} {nb : Nat} {cenv : Env} {m mg mb : Str → Option Value} {p1 p2 p3 p4 p5 p6 : Pos},
   (hd.heap_1 w.params).In s.heap → s.heap.NoLimit → A.depth < recursionLimit →
   s.heap.get? x = some (instObj 126 d) → s.heap.get? d = some (rowE t1 t2 t3 u1 u3 g1 g2 g3 k sz b) → s.heap.get? b = some (W.listOf vs.toArray nb) →
   List.lookup x (hd.heap_1 w.params) = none → List.lookup d (hd.heap_1 w.params) = none → List.lookup b (hd.heap_1 w.params) = none →
   IntsAre vs (octs k N) → 0 ≤ i → i < sz → sz ≤ 8 * (k : Int) → sz ≤ 40 →
   s.heap.IsCell cA (some (.ref x)) → s.heap.Ns cenv.locals m → m (Str.ofString "x") = some (.int i t) → cenv.scope.kind = .function → cenv.kindOf (Str.ofString "self") = some .free → cenv.kindOf (Str.ofString "x") = some .local →
   cenv.cells.lookup (Str.ofString "self") = some cA →
   (p2.endLine == p4.line) = true →
   cenv.kindOf (Str.ofString "str") = some .globalImplicit → s.heap.Ns cenv.globals mg → mg (Str.ofString "str") = none → s.heap.Ns cenv.builtins mb → mb (Str.ofString "str") = some (.type "str") →
   (∀ s' t', Keeps s s' → Q (.str (if bitOf N i.toNat = 0 then Str.ofString "0" else Str.ofString "1") t') s') →
   wpAny (model PySem.Challenge.rw_aw0020_01.row.prog w) A (eval (.Call (.Name (Str.ofString "str") p5) [.Call (.Attribute (.Name (Str.ofString "self") p1) (Str.ofString "check_bit") p2) [.Name (Str.ofString "x") p3] [] p4] [] p6) cenv) Q E s := by
  intro w A E Q s x d b cA i sz N k t t1 t2 t3 u1 u3 g1 g2 g3 vs nb cenv m mg mb p1 p2 p3 p4 p5 p6 X hlim hroom hx hd' hb nx nd nb' hi h0 h1 h2 h40 hc hns hm hk hself hxl hcl hline hsk hg hgn hbb hbs h
  refine PyProof.Rows.Call_Name1 (Name_function_global hk hsk (loadGlobal_builtin hg hgn hbb hbs ?_) (by decide)) (by rfl)
  refine PySem.callWith_type1 ?_
  refine elt_check X hlim hroom hx hd' hb nx nd nb' hi h0 h1 h2 h40 hc hns hm hk hself hxl hcl hline fun s' t' kp => ?_
  obtain ⟨h', tk, rfl, kp⟩ := kp
  rcases bit_cases N i.toNat with e | e
  · rw [e] at h ⊢
    refine PySem.P.str_of_int (by decide) ?_
    exact h _ _ ⟨h', _, rfl, kp⟩
  · rw [e] at h ⊢
    refine PySem.P.str_of_int (by decide) ?_
    exact h _ _ ⟨h', _, rfl, kp⟩

end PES
section PAS
abbrev tblOf (ps : Array Value) : Obj := { cls := .none, data := .fields ps }
theorem as_string_spec : ∀ {w : World} {p : Program} {loose : List Str} {mean : ExcName → Option Value} {mg mb : Str → Option Value} {h₀ : Heap} {env : Env} {L : Addr} {m : Str → Option Value} {s : Shared} {R : Result → Shared → Prop}
   {x d b : Nat} {sz N : Int} {k : Nat} {t1 t2 t3 u1 u3 : Tok} {g1 g2 g3 : Int} {vs : List Value} {nb : Nat} {ps : Array Value} {others : List (Addr × Obj)},
   Below callerA h₀ [] h₀ → Fr h₀ L s.heap m → (hd.heap_1 w.params).In h₀ →
   News h₀ L s.heap ((x, instObj 126 d) :: (d, rowD t1 t2 t3 u1 u3 g1 g2 g3 k sz b) :: (b, W.listOf vs.toArray nb) :: (111, tblOf ps) :: others) →
   Top p loose mean mg mb h₀ → env.frame = some L → env.scope.kind = .function →
   IntsAre vs (octs k N) → 1 ≤ sz → sz ≤ 40 → sz ≤ 8 * (k : Int) → TriplesOk ps.toList → AllBare s.gens → (∀ q ∈ others, q.1 ≠ 111) → x ≠ 111 → d ≠ 111 → b ≠ 111 →
   (∀ s' t' ps', s'.os = s.os → AllBare s'.gens → TriplesOk ps'.toList → Fr h₀ L s'.heap m → News h₀ L s'.heap ((x, instObj 126 d) :: (d, rowD t1 t2 t3 u1 u3 g1 g2 g3 k sz b) :: (b, W.listOf vs.toArray nb) :: (111, tblOf ps') :: others) →
      R (.ok (.ret (.str (Txt.join (Str.ofString "") ((List.range sz.toNat).map fun j => if bitOf N j = 0 then Str.ofString "0" else Str.ofString "1")) t'))) s') →
   codeAny (model PySem.Challenge.rw_aw0020_01.row.prog w) (callerA.deeper env) (.call (.ref 116) ⟨[.ref x], []⟩) R s := by
  k_fill
  w_top off
  intro w p loose mean mg mb h₀ env L m s R x d b sz N k t1 t2 t3 u1 u3 g1 g2 g3 vs nb ps others B F X N₁ T hf hke hi p1 p2 p4 htr hG ho9 n1 n2 n3 h
  refine' code_defC (binds := [(Str.ofString "self", .ref x)]) B F X N₁ T ?kA hf hke ?k6 ?k7 ?k8 ?k9 ?kB ?kD ?_ ?c2 ?c3 ?c4
  case kA => exact rfl
  case k6 => k_is
  case k7 => k_is
  case k8 => k_room
  case k9 => exact BindsTo.of_eq rfl
  case kB => exact rfl
  case kD => decide +kernel
  case c2 => exact rfl
  case c3 => exact rfl
  case c4 => exact rfl
  intro g' L' h' tk' cells' FG' F' N' Y' B' X' T' l1
  k_lt l1
  k_cells Y'
  (try simp only [List.cons_append, List.nil_append] at N')
  (try dsimp only)
  (try k_fold)
  iterate 7 (walk_at "mine.step")
  refine gen_range (c := 115) (P := 111) (ps := ps) (cl := [(Str.ofString "self", L' + 1)]) rfl rfl rfl (by with_unfolding_all rfl) (by decide) (by rfl) (by rfl) (by rfl) (by k_room) ?_ (fun _ => by rfl)
  iterate 9 (try (walk_at "mine.step"))
  rename Obj.data _ = Data.cell _ => dd
  rename Obj => o7
  rename IsRange _ _ _ _ _ _ _ _ => R9
  rename Fr g' _ _ _ => F9
  rename News g' _ _ _ => N9
  have hsm : Builtin.Range.small 0 ((sz.toNat : Nat) : Int) 1 = true := small_one (by omega) (by omega) (by omega) (by omega)
  have hsz : ((sz.toNat : Nat) : Int) = sz := by omega
  have hc115 := X' 115 _ (by k_is)
  obtain ⟨bm, ob, MM⟩ := bmod_of_top T
  have e111 := (N9 (111, tblOf ps) (by simp)).1
  have ec := N9.get (List.mem_cons_self ..)
  have hk0 : ∀ q o, h₀.get? q = some o → _ := fun q o e => F9.keep q o (FG'.keep q o e)
  have ec115 := F9.keep _ _ hc115
  have htab : Heap.TableAt _ 115 111 ps := ⟨⟨_, _, ec115, rfl, rfl, rfl⟩, e111⟩
  have hcd : Heap.IsCode _ 115 111 ps := ⟨_, _, _, _, _, _, _, _, _, _, ec115, rfl, rfl, rfl, rfl, rfl, rfl, e111, rfl, htr, by decide⟩
  have hLs := Heap.lt_size ec
  refine ⟨_, sz.toNat, _, _, _, _ - 1, fun i y => ∃ t, y = .str (if bitOf N i = 0 then Str.ofString "0" else Str.ofString "1") t, _, bm, ob, rfl, hsz.symm ▸ R9, hsm, (T.nolimit.keeps FG'.keep).keeps F9.keep, hcd, htab, MM.keeps hk0, Nat.sub_lt (Nat.lt_of_le_of_lt (Nat.zero_le _) hLs) Nat.one_pos, ?_, ?_⟩
  · intro code C href hC hhref
    refine ⟨fun A' E' i v s₂ m₂ _ _ _ _ _ _ _ => ?_, fun A' E' i v s₂ m₂ hA hD hU hP _ hn hm hk => ?_⟩
    · exact wpAny_pure ⟨rfl, _, _, rfl, fun _ _ e => e⟩
    · have n111 := (N9 (111, tblOf ps) (by simp)).2.2
      have up : ∀ q o, q ≠ 111 → _ = some o → s₂.heap.get? q = some o := fun q o hq e => hk q (List.mem_range.mpr (Nat.lt_trans (Heap.lt_size e) hC)) (fun hm' => absurd (List.mem_singleton.mp hm') (Nat.ne_of_lt (Heap.lt_size e))) o (hhref q o hq e)
      have upg : ∀ q o, g'.get? q = some o → s₂.heap.get? q = some o := fun q o e => up q o (fun hq => by rw [hq, n111] at e; cases e) (F9.keep q o e)
      have hnone : ∀ q, g'.get? q = none → List.lookup q (hd.heap_1 w.params) = none := fun q e => by
        cases e2 : List.lookup q (hd.heap_1 w.params) with
        | none => rfl
        | some o => rw [X' q o e2] at e; cases e
      have mx := N9 (x, instObj 126 d) (by simp)
      have md := N9 (d, _) (List.mem_cons_of_mem _ (List.mem_cons_of_mem _ (List.mem_cons_self ..)))
      have mb' := N9 (b, _) (List.mem_cons_of_mem _ (List.mem_cons_of_mem _ (List.mem_cons_of_mem _ (List.mem_cons_self ..))))
      obtain ⟨hi', t, rfl⟩ := hP
      have hti : (0 + (i : Int) * 1).toNat = i := by omega
      refine elt_str (i := 0 + (i : Int) * 1) (cA := L' + 1) (X'.keeps upg) (T.nolimit.keeps fun q o e => upg q o (FG'.keep q o e)) (Nat.lt_of_le_of_lt hD (show callerA.depth + 1 + 1 + 1 < recursionLimit by decide)) (up _ _ n1 mx.1) (up _ _ n2 md.1) (up _ _ n3 mb'.1)
        (hnone _ mx.2.2) (hnone _ md.2.2) (hnone _ mb'.2.2) hi (by omega) (by omega) p4 p2 ⟨_, up _ _ (Nat.ne_of_gt (Nat.lt_succ_of_lt l1.2.2.2.1)) ec, dd⟩ hn hm (by rfl) (by rfl) (by rfl) (by rfl) (by rfl) (by rfl)
        (T.g.keeps fun q o e => upg q o (FG'.keep q o e)) (mg_none_of X T.g (by k_is)) (T.b.keeps fun q o e => upg q o (FG'.keep q o e)) ((T.builtins _ (by decide)).trans (by rfl)) fun s' t' kp => ⟨⟨t', by rw [hti]⟩, kp⟩
  · intro a s₅ ps' hos hgens hkp hcd' htab' X5
    have n111 := (N9 (111, tblOf ps) (by simp)).2.2
    have F5 : Fr g' L' s₅.heap _ := ⟨F9.ns.at' fun o e => hkp _ o (Nat.ne_of_gt l1.2.2.2.1) e, fun q o e => hkp q o (fun hq => by rw [hq, n111] at e; cases e) (F9.keep q o e), F9.above⟩
    refine spliced_none ?_
    refine join_rowsK F5 (hgens hG) X5 (Nat.le_sub_one_of_lt (Nat.lt_trans (Nat.lt_succ_self _) hLs)) (fun j => if bitOf N j = 0 then Str.ofString "0" else Str.ofString "1") (fun j v hv => hv.2) ?ok (fun s' t' F6 G6 os6 kp6 => ?_) ?hsz
    case ok =>
      have hj := joinOk_few (sep := Str.ofString "") (as := List.range sz.toNat) (pz := fun _ => true) (f := fun j => if bitOf N j = 0 then Str.ofString "0" else Str.ofString "1") (by rw [List.length_range]; omega) (fun a => by split <;> decide) (by decide)
      rwa [List.filter_eq_self.mpr (fun _ _ => rfl)] at hj
    case hsz => exact Nat.le_trans (show sz.toNat ≤ 40 by omega) (by decide)
    have kpa : ∀ q o, q ≠ 111 → _ = some o → s'.heap.get? q = some o := fun q o hq e => kp6 q o (Nat.le_sub_one_of_lt (Heap.lt_size e)) (hkp q o hq e)
    have N7 : News g' L' s'.heap ((L' + 1, o7) :: (x, instObj 126 d) :: (d, rowD t1 t2 t3 u1 u3 g1 g2 g3 k sz b) :: (b, W.listOf vs.toArray nb) :: (111, tblOf ps') :: others) := by
      intro q hq
      rcases List.mem_cons.mp hq with rfl | hq
      · exact ⟨kpa _ _ (Nat.ne_of_gt (Nat.lt_succ_of_lt l1.2.2.2.1)) (N9 _ (by simp)).1, (N9 _ (List.mem_cons_self ..)).2⟩
      rcases List.mem_cons.mp hq with rfl | hq
      · exact ⟨kpa _ _ n1 (N9 _ (by simp)).1, (N9 _ (by simp) : _).2⟩
      rcases List.mem_cons.mp hq with rfl | hq
      · exact ⟨kpa _ _ n2 (N9 _ (by simp)).1, (N9 (d, _) (List.mem_cons_of_mem _ (List.mem_cons_of_mem _ (List.mem_cons_self ..)))).2⟩
      rcases List.mem_cons.mp hq with rfl | hq
      · exact ⟨kpa _ _ n3 (N9 _ (by simp)).1, (N9 (b, _) (List.mem_cons_of_mem _ (List.mem_cons_of_mem _ (List.mem_cons_of_mem _ (List.mem_cons_self ..))))).2⟩
      rcases List.mem_cons.mp hq with rfl | hq
      · exact ⟨kp6 _ _ (Nat.le_sub_one_of_lt (Heap.lt_size e111)) htab'.2, (N9 (111, tblOf ps) (by simp)).2⟩
      · have hq9 := N9 q (List.mem_cons_of_mem _ (List.mem_cons_of_mem _ (List.mem_cons_of_mem _ (List.mem_cons_of_mem _ (List.mem_cons_of_mem _ hq)))))
        exact ⟨kpa _ _ (ho9 q hq) hq9.1, hq9.2⟩
    have htr' : TriplesOk ps'.toList := by
      obtain ⟨o1, v1, _, _, _, _, _, _, _, op, ho, hd1, h11, _, _, _, _, hop, hpd, htr', _⟩ := hcd'
      rw [htab'.2] at hop; cases hop; cases hpd; exact htr'
    clear N9 F9 R9 X5 kp6 kpa hkp
    iterate 10 (try (walk_at "mine.step"))
    rename Fr h₀ L s'.heap m => kF7
    rename News h₀ L s'.heap _ => kN7
    exact h _ _ ps' (os6.trans hos) G6 htr' kF7 (fun q hq => kN7 q (List.mem_cons_of_mem _ hq))

end PAS
section PNB
theorem preSum_bits (N : Int) : ∀ n : Nat, 0 ≤ preSum (fun j => bitOf N j) n ∧ preSum (fun j => bitOf N j) n ≤ (n : Int)
  | 0 => ⟨Int.le_refl _, Int.le_refl _⟩
  | n + 1 => by
    obtain ⟨a, b⟩ := preSum_bits N n
    have e : preSum (fun j => bitOf N j) (n + 1) = preSum (fun j => bitOf N j) n + bitOf N n := rfl
    rw [e]
    rcases bit_cases N n with q | q <;> rw [q] <;> constructor <;> omega
theorem num_bits_spec : ∀ {w : World} {p : Program} {loose : List Str} {mean : ExcName → Option Value} {mg mb : Str → Option Value} {h₀ : Heap} {env : Env} {L : Addr} {m : Str → Option Value} {s : Shared} {R : Result → Shared → Prop}
   {x d b : Nat} {sz N : Int} {k : Nat} {t1 t2 t3 u1 u3 : Tok} {g1 g2 g3 : Int} {vs : List Value} {nb : Nat} {ps : Array Value} {others : List (Addr × Obj)},
   Below callerA h₀ [] h₀ → Fr h₀ L s.heap m → (hd.heap_1 w.params).In h₀ →
   News h₀ L s.heap ((x, instObj 126 d) :: (d, rowD t1 t2 t3 u1 u3 g1 g2 g3 k sz b) :: (b, W.listOf vs.toArray nb) :: (118, tblOf ps) :: others) →
   Top p loose mean mg mb h₀ → env.frame = some L → env.scope.kind = .function →
   IntsAre vs (octs k N) → 1 ≤ sz → sz ≤ 40 → sz ≤ 8 * (k : Int) → TriplesOk ps.toList → AllBare s.gens → (∀ q ∈ others, q.1 ≠ 118) → x ≠ 118 → d ≠ 118 → b ≠ 118 →
   (∀ s' t' ps', s'.os = s.os → AllBare s'.gens → TriplesOk ps'.toList → Fr h₀ L s'.heap m → News h₀ L s'.heap ((x, instObj 126 d) :: (d, rowD t1 t2 t3 u1 u3 g1 g2 g3 k sz b) :: (b, W.listOf vs.toArray nb) :: (118, tblOf ps') :: others) →
      R (.ok (.ret (.int (preSum (fun j => bitOf N j) sz.toNat) t'))) s') →
   codeAny (model PySem.Challenge.rw_aw0020_01.row.prog w) (callerA.deeper env) (.call (.ref 123) ⟨[.ref x], []⟩) R s := by
  k_fill
  w_top off
  intro w p loose mean mg mb h₀ env L m s R x d b sz N k t1 t2 t3 u1 u3 g1 g2 g3 vs nb ps others B F X N₁ T hf hke hi p1 p2 p4 htr hG ho9 n1 n2 n3 h
  refine' code_defC (binds := [(Str.ofString "self", .ref x)]) B F X N₁ T ?kA hf hke ?k6 ?k7 ?k8 ?k9 ?kB ?kD ?_ ?c2 ?c3 ?c4
  case kA => exact rfl
  case k6 => k_is
  case k7 => k_is
  case k8 => k_room
  case k9 => exact BindsTo.of_eq rfl
  case kB => exact rfl
  case kD => decide +kernel
  case c2 => exact rfl
  case c3 => exact rfl
  case c4 => exact rfl
  intro g' L' h' tk' cells' FG' F' N' Y' B' X' T' l1
  k_lt l1
  k_cells Y'
  (try simp only [List.cons_append, List.nil_append] at N')
  (try dsimp only)
  (try k_fold)
  iterate 6 (walk_at "mine.step")
  refine gen_range (c := 122) (P := 118) (ps := ps) (cl := [(Str.ofString "self", L' + 1)]) rfl rfl rfl (by with_unfolding_all rfl) (by decide) (by rfl) (by rfl) (by rfl) (by k_room) ?_ (fun _ => by rfl)
  iterate 9 (try (walk_at "mine.step"))
  rename Obj.data _ = Data.cell _ => dd
  rename Obj => o7
  rename IsRange _ _ _ _ _ _ _ _ => R9
  rename Fr g' _ _ _ => F9
  rename News g' _ _ _ => N9
  have hsm : Builtin.Range.small 0 ((sz.toNat : Nat) : Int) 1 = true := small_one (by omega) (by omega) (by omega) (by omega)
  have hsz : ((sz.toNat : Nat) : Int) = sz := by omega
  have hc122 := X' 122 _ (by k_is)
  obtain ⟨bm, ob, MM⟩ := bmod_of_top T
  have e118 := (N9 (118, tblOf ps) (by simp)).1
  have ec := N9.get (List.mem_cons_self ..)
  have hk0 : ∀ q o, h₀.get? q = some o → _ := fun q o e => F9.keep q o (FG'.keep q o e)
  have ec122 := F9.keep _ _ hc122
  have htab : Heap.TableAt _ 122 118 ps := ⟨⟨_, _, ec122, rfl, rfl, rfl⟩, e118⟩
  have hcd : Heap.IsCode _ 122 118 ps := ⟨_, _, _, _, _, _, _, _, _, _, ec122, rfl, rfl, rfl, rfl, rfl, rfl, e118, rfl, htr, by decide⟩
  have hLs := Heap.lt_size ec
  refine ⟨_, sz.toNat, _, _, _, _ - 1, fun i y => ∃ t, y = .int (bitOf N i) t, _, bm, ob, rfl, hsz.symm ▸ R9, hsm, (T.nolimit.keeps FG'.keep).keeps F9.keep, hcd, htab, MM.keeps hk0, Nat.sub_lt (Nat.lt_of_le_of_lt (Nat.zero_le _) hLs) Nat.one_pos, ?_, ?_⟩
  · intro code C href hC hhref
    refine ⟨fun A' E' i v s₂ m₂ _ _ _ _ _ _ _ => ?_, fun A' E' i v s₂ m₂ hA hD hU hP _ hn hm hk => ?_⟩
    · exact wpAny_pure ⟨rfl, _, _, rfl, fun _ _ e => e⟩
    · have n118 := (N9 (118, tblOf ps) (by simp)).2.2
      have up : ∀ q o, q ≠ 118 → _ = some o → s₂.heap.get? q = some o := fun q o hq e => hk q (List.mem_range.mpr (Nat.lt_trans (Heap.lt_size e) hC)) (fun hm' => absurd (List.mem_singleton.mp hm') (Nat.ne_of_lt (Heap.lt_size e))) o (hhref q o hq e)
      have upg : ∀ q o, g'.get? q = some o → s₂.heap.get? q = some o := fun q o e => up q o (fun hq => by rw [hq, n118] at e; cases e) (F9.keep q o e)
      have hnone : ∀ q, g'.get? q = none → List.lookup q (hd.heap_1 w.params) = none := fun q e => by
        cases e2 : List.lookup q (hd.heap_1 w.params) with
        | none => rfl
        | some o => rw [X' q o e2] at e; cases e
      have mx := N9 (x, instObj 126 d) (by simp)
      have md := N9 (d, _) (List.mem_cons_of_mem _ (List.mem_cons_of_mem _ (List.mem_cons_self ..)))
      have mb' := N9 (b, _) (List.mem_cons_of_mem _ (List.mem_cons_of_mem _ (List.mem_cons_of_mem _ (List.mem_cons_self ..))))
      obtain ⟨hi', t, rfl⟩ := hP
      have hti : (0 + (i : Int) * 1).toNat = i := by omega
      refine elt_check (i := 0 + (i : Int) * 1) (cA := L' + 1) (X'.keeps upg) (T.nolimit.keeps fun q o e => upg q o (FG'.keep q o e)) (Nat.lt_of_le_of_lt hD (show callerA.depth + 1 + 1 + 1 < recursionLimit by decide)) (up _ _ n1 mx.1) (up _ _ n2 md.1) (up _ _ n3 mb'.1)
        (hnone _ mx.2.2) (hnone _ md.2.2) (hnone _ mb'.2.2) hi (by omega) (by omega) p4 p2 ⟨_, up _ _ (Nat.ne_of_gt (Nat.lt_succ_of_lt l1.2.2.2.1)) ec, dd⟩ hn hm (by rfl) (by rfl) (by rfl) (by rfl) (by rfl) fun s' t' kp => ⟨⟨t', by rw [hti]⟩, kp⟩
  · intro a s₅ ps' hos hgens hkp hcd' htab' X5
    have n118 := (N9 (118, tblOf ps) (by simp)).2.2
    have F5 : Fr g' L' s₅.heap _ := ⟨F9.ns.at' fun o e => hkp _ o (Nat.ne_of_gt l1.2.2.2.1) e, fun q o e => hkp q o (fun hq => by rw [hq, n118] at e; cases e) (F9.keep q o e), F9.above⟩
    refine spliced_none ?_
    refine sum_rowsK F5 (hgens hG) X5 (Nat.le_sub_one_of_lt (Nat.lt_trans (Nat.lt_succ_self _) hLs)) (fun j => bitOf N j) (fun j v hv => hv.2) ?fit (fun s' t' F6 G6 os6 kp6 => ?_)
    case fit =>
      intro j hj
      obtain ⟨a1, a2⟩ := preSum_bits N (j + 1)
      refine ⟨?_, ?_⟩
      · show InLong (bitOf N j)
        unfold InLong
        rcases bit_cases N j with q | q <;> rw [q] <;> decide
      · unfold InLong
        constructor <;> omega
    have kpa : ∀ q o, q ≠ 118 → _ = some o → s'.heap.get? q = some o := fun q o hq e => kp6 q o (Nat.le_sub_one_of_lt (Heap.lt_size e)) (hkp q o hq e)
    have N7 : News g' L' s'.heap ((L' + 1, o7) :: (x, instObj 126 d) :: (d, rowD t1 t2 t3 u1 u3 g1 g2 g3 k sz b) :: (b, W.listOf vs.toArray nb) :: (118, tblOf ps') :: others) := by
      intro q hq
      rcases List.mem_cons.mp hq with rfl | hq
      · exact ⟨kpa _ _ (Nat.ne_of_gt (Nat.lt_succ_of_lt l1.2.2.2.1)) (N9 _ (by simp)).1, (N9 _ (List.mem_cons_self ..)).2⟩
      rcases List.mem_cons.mp hq with rfl | hq
      · exact ⟨kpa _ _ n1 (N9 _ (by simp)).1, (N9 _ (by simp) : _).2⟩
      rcases List.mem_cons.mp hq with rfl | hq
      · exact ⟨kpa _ _ n2 (N9 _ (by simp)).1, (N9 (d, _) (List.mem_cons_of_mem _ (List.mem_cons_of_mem _ (List.mem_cons_self ..)))).2⟩
      rcases List.mem_cons.mp hq with rfl | hq
      · exact ⟨kpa _ _ n3 (N9 _ (by simp)).1, (N9 (b, _) (List.mem_cons_of_mem _ (List.mem_cons_of_mem _ (List.mem_cons_of_mem _ (List.mem_cons_self ..))))).2⟩
      rcases List.mem_cons.mp hq with rfl | hq
      · exact ⟨kp6 _ _ (Nat.le_sub_one_of_lt (Heap.lt_size e118)) htab'.2, (N9 (118, tblOf ps) (by simp)).2⟩
      · have hq9 := N9 q (List.mem_cons_of_mem _ (List.mem_cons_of_mem _ (List.mem_cons_of_mem _ (List.mem_cons_of_mem _ (List.mem_cons_of_mem _ hq)))))
        exact ⟨kpa _ _ (ho9 q hq) hq9.1, hq9.2⟩
    have htr' : TriplesOk ps'.toList := by
      obtain ⟨o1, v1, _, _, _, _, _, _, _, op, ho, hd1, h11, _, _, _, _, hop, hpd, htr', _⟩ := hcd'
      rw [htab'.2] at hop; cases hop; cases hpd; exact htr'
    clear N9 F9 R9 X5 kp6 kpa hkp
    iterate 10 (try (walk_at "mine.step"))
    rename Fr h₀ L s'.heap m => kF7
    rename News h₀ L s'.heap _ => kN7
    exact h _ _ ps' (os6.trans hos) G6 htr' kF7 (fun q hq => kN7 q (List.mem_cons_of_mem _ hq))

end PNB
section PUW
theorem as_string_U {w : World} {p : Program} {loose : List Str} {mean : ExcName → Option Value} {mg mb : Str → Option Value} {h₀ : Heap} {env : Env} {L : Addr} {m : Str → Option Value} {s : Shared} {R : Result → Shared → Prop}
   {x d b : Nat} {sz N : Int} {k : Nat} {t1 t2 t3 u1 u3 : Tok} {g1 g2 g3 : Int} {vs : List Value} {nb : Nat} {ps : Array Value} {all : List (Addr × Obj)} {g : Obj → List (Addr × Obj)}
   (B : Below callerA h₀ [] h₀) (F : Fr h₀ L s.heap m) (X : (hd.heap_1 w.params).In h₀) (N₁ : News h₀ L s.heap all)
   (mx : (x, instObj 126 d) ∈ all) (md : (d, rowD t1 t2 t3 u1 u3 g1 g2 g3 k sz b) ∈ all) (mb' : (b, W.listOf vs.toArray nb) ∈ all) (U : UpdF 111 (tblOf ps) all g)
   (T : Top p loose mean mg mb h₀) (hf : env.frame = some L) (hke : env.scope.kind = .function)
   (hi : IntsAre vs (octs k N)) (p1 : 1 ≤ sz) (p2 : sz ≤ 40) (p4 : sz ≤ 8 * (k : Int)) (htr : TriplesOk ps.toList) (hG : AllBare s.gens) (n1 : x ≠ 111) (n2 : d ≠ 111) (n3 : b ≠ 111)
   (h : ∀ s' t' ps', s'.os = s.os → AllBare s'.gens → TriplesOk ps'.toList → Fr h₀ L s'.heap m → News h₀ L s'.heap (g (tblOf ps')) →
      R (.ok (.ret (.str (Txt.join (Str.ofString "") ((List.range sz.toNat).map fun j => if bitOf N j = 0 then Str.ofString "0" else Str.ofString "1")) t'))) s') :
   codeAny (model PySem.Challenge.rw_aw0020_01.row.prog w) (callerA.deeper env) (.call (.ref 116) ⟨[.ref x], []⟩) R s := by
  obtain ⟨own, rest, rfl, hg, h1, h2⟩ := U.split
  refine as_string_spec (others := own ++ rest) (t1 := t1) (t2 := t2) (t3 := t3) (u1 := u1) (u3 := u3) (g1 := g1) (g2 := g2) (g3 := g3) (nb := nb) B F X (fun q hq => ?_) T hf hke hi p1 p2 p4 htr hG (fun q hq => ?_) n1 n2 n3 fun s' t' ps' a1 a2 a3 a4 a5 => h s' t' ps' a1 a2 a3 a4 (hg _ ▸ fun q hq => a5 q ?_)
  · simp only [List.mem_cons, List.mem_append] at hq
    rcases hq with rfl | rfl | rfl | rfl | hq | hq
    · exact N₁ _ mx
    · exact N₁ _ md
    · exact N₁ _ mb'
    · exact N₁ _ (by simp)
    · exact N₁ _ (by simp [hq])
    · exact N₁ _ (by simp [hq])
  · exact (List.mem_append.mp hq).elim (h1 q) (h2 q)
  · simp only [List.mem_cons, List.mem_append] at hq ⊢
    rcases hq with hq | rfl | hq
    · exact .inr (.inr (.inr (.inr (.inl hq))))
    · exact .inr (.inr (.inr (.inl rfl)))
    · exact .inr (.inr (.inr (.inr (.inr hq))))
theorem num_bits_U {w : World} {p : Program} {loose : List Str} {mean : ExcName → Option Value} {mg mb : Str → Option Value} {h₀ : Heap} {env : Env} {L : Addr} {m : Str → Option Value} {s : Shared} {R : Result → Shared → Prop}
   {x d b : Nat} {sz N : Int} {k : Nat} {t1 t2 t3 u1 u3 : Tok} {g1 g2 g3 : Int} {vs : List Value} {nb : Nat} {ps : Array Value} {all : List (Addr × Obj)} {g : Obj → List (Addr × Obj)}
   (B : Below callerA h₀ [] h₀) (F : Fr h₀ L s.heap m) (X : (hd.heap_1 w.params).In h₀) (N₁ : News h₀ L s.heap all)
   (mx : (x, instObj 126 d) ∈ all) (md : (d, rowD t1 t2 t3 u1 u3 g1 g2 g3 k sz b) ∈ all) (mb' : (b, W.listOf vs.toArray nb) ∈ all) (U : UpdF 118 (tblOf ps) all g)
   (T : Top p loose mean mg mb h₀) (hf : env.frame = some L) (hke : env.scope.kind = .function)
   (hi : IntsAre vs (octs k N)) (p1 : 1 ≤ sz) (p2 : sz ≤ 40) (p4 : sz ≤ 8 * (k : Int)) (htr : TriplesOk ps.toList) (hG : AllBare s.gens) (n1 : x ≠ 118) (n2 : d ≠ 118) (n3 : b ≠ 118)
   (h : ∀ s' t' ps', s'.os = s.os → AllBare s'.gens → TriplesOk ps'.toList → Fr h₀ L s'.heap m → News h₀ L s'.heap (g (tblOf ps')) →
      R (.ok (.ret (.int (preSum (fun j => bitOf N j) sz.toNat) t'))) s') :
   codeAny (model PySem.Challenge.rw_aw0020_01.row.prog w) (callerA.deeper env) (.call (.ref 123) ⟨[.ref x], []⟩) R s := by
  obtain ⟨own, rest, rfl, hg, h1, h2⟩ := U.split
  refine num_bits_spec (others := own ++ rest) (t1 := t1) (t2 := t2) (t3 := t3) (u1 := u1) (u3 := u3) (g1 := g1) (g2 := g2) (g3 := g3) (nb := nb) B F X (fun q hq => ?_) T hf hke hi p1 p2 p4 htr hG (fun q hq => ?_) n1 n2 n3 fun s' t' ps' a1 a2 a3 a4 a5 => h s' t' ps' a1 a2 a3 a4 (hg _ ▸ fun q hq => a5 q ?_)
  · simp only [List.mem_cons, List.mem_append] at hq
    rcases hq with rfl | rfl | rfl | rfl | hq | hq
    · exact N₁ _ mx
    · exact N₁ _ md
    · exact N₁ _ mb'
    · exact N₁ _ (by simp)
    · exact N₁ _ (by simp [hq])
    · exact N₁ _ (by simp [hq])
  · exact (List.mem_append.mp hq).elim (h1 q) (h2 q)
  · simp only [List.mem_cons, List.mem_append] at hq ⊢
    rcases hq with hq | rfl | hq
    · exact .inr (.inr (.inr (.inr (.inl hq))))
    · exact .inr (.inr (.inr (.inl rfl)))
    · exact .inr (.inr (.inr (.inr (.inr hq))))

end PUW
section PE0
def end1 : List Stmt := endBody.drop 1
def end2 : List Stmt := endBody.drop 2
def end3 : List Stmt := endBody.drop 3
def end4 : List Stmt := endBody.drop 4
def end5 : List Stmt := endBody.drop 5
def end6 : List Stmt := endBody.drop 6
def end7 : List Stmt := endBody.drop 7
abbrev endMap (lc ls lr ln lb : Addr) (hd : Int) (th : Tok) (u : Str → Option Value) : Str → Option Value := fun y =>
  if y = Str.ofString "bits" then some (.ref lb) else lawMap lc ls lr ln hd th u y
theorem endMap_of {lc ls lr ln lb : Addr} {hd : Int} {th : Tok} {m : Str → Option Value} (h0 : m (Str.ofString "bits") = some (.ref lb)) (h1 : m (Str.ofString "numbers") = some (.ref ln)) (h2 : m (Str.ofString "rows") = some (.ref lr)) (h3 : m (Str.ofString "sizes") = some (.ref ls))
    (h4 : m (Str.ofString "head") = some (.int hd th)) (h5 : m (Str.ofString "script") = some (.ref lc)) : m = endMap lc ls lr ln lb hd th m := by
  funext y
  unfold endMap
  split
  · rename_i e; rw [e, h0]
  · exact congrFun (lawMap_of h1 h2 h3 h4 h5) y
theorem fr_end {h₀ h : Heap} {L lc ls lr ln lb : Addr} {hd : Int} {th : Tok} {m : Str → Option Value} (F : Fr h₀ L h m) (h0 : m (Str.ofString "bits") = some (.ref lb)) (h1 : m (Str.ofString "numbers") = some (.ref ln)) (h2 : m (Str.ofString "rows") = some (.ref lr)) (h3 : m (Str.ofString "sizes") = some (.ref ls))
    (h4 : m (Str.ofString "head") = some (.int hd th)) (h5 : m (Str.ofString "script") = some (.ref lc)) : Fr h₀ L h (endMap lc ls lr ln lb hd th m) :=
  (congrArg (Fr h₀ L h) (endMap_of h0 h1 h2 h3 h4 h5)).mp F
theorem end_split : endBody = endBody.take 1 ++ end1 := (List.take_append_drop 1 endBody).symm
theorem end_split1 : end1 = end1.take 1 ++ end2 := by
  have e : end2 = end1.drop 1 := by show endBody.drop 2 = (endBody.drop 1).drop 1; rw [List.drop_drop]
  rw [e]; exact (List.take_append_drop 1 end1).symm
theorem end_split2 : end2 = end2.take 1 ++ end3 := by
  have e : end3 = end2.drop 1 := by show endBody.drop 3 = (endBody.drop 2).drop 1; rw [List.drop_drop]
  rw [e]; exact (List.take_append_drop 1 end2).symm
theorem end_split3 : end3 = end3.take 1 ++ end4 := by
  have e : end4 = end3.drop 1 := by show endBody.drop 4 = (endBody.drop 3).drop 1; rw [List.drop_drop]
  rw [e]; exact (List.take_append_drop 1 end3).symm
theorem end_split4 : end4 = end4.take 1 ++ end5 := by
  have e : end5 = end4.drop 1 := by show endBody.drop 5 = (endBody.drop 4).drop 1; rw [List.drop_drop]
  rw [e]; exact (List.take_append_drop 1 end4).symm
theorem end_split5 : end5 = end5.take 1 ++ end6 := by
  have e : end6 = end5.drop 1 := by show endBody.drop 6 = (endBody.drop 5).drop 1; rw [List.drop_drop]
  rw [e]; exact (List.take_append_drop 1 end5).symm
theorem end_split6 : end6 = end6.take 1 ++ end7 := by
  have e : end7 = end6.drop 1 := by show endBody.drop 7 = (endBody.drop 6).drop 1; rw [List.drop_drop]
  rw [e]; exact (List.take_append_drop 1 end6).symm
/-- the bits of a number, the lowest first -/
def bits (n : Nat) (N : Int) : List Int := (List.range n).map fun j => bitOf N j
theorem bits_length (n : Nat) (N : Int) : (bits n N).length = n := by simp [bits]
theorem mem_bits {n : Nat} {N k : Int} (h : k ∈ bits n N) : k = 0 ∨ k = 1 := by
  obtain ⟨j, _, rfl⟩ := List.mem_map.mp h
  exact bit_cases N j
theorem bits_of_range (n : Nat) (N : Int) : (rangeKs 0 n).map (fun k' => Int.fmod (Int.fdiv N (2 ^ Int.toNat k')) 2) = bits n N := by
  unfold rangeKs bits bitOf
  rw [List.map_map]
  apply List.map_congr_left
  intro j _
  have e : (0 + (j : Int)).toNat = j := by omega
  simp only [Function.comp, e]
theorem octs_of_range (n : Nat) (N : Int) : (rangeKs 0 n).map (fun k' => Int.fmod (Int.fdiv N (256 ^ Int.toNat k')) 256) = octs n N := by
  unfold rangeKs octs
  rw [List.map_map]
  apply List.map_congr_left
  intro j _
  have e : (0 + (j : Int)).toNat = j := by omega
  simp only [Function.comp, e]
theorem oct_pow_ne (m : Nat) : (256 : Int) ^ m ≠ 0 := Int.ne_of_gt (pow256_pos m)
theorem oct_pow_py {m : Nat} (h : m ≤ 1000) : ((256 : Int) ^ m).natAbs.log2 < 9000 := by
  rw [Int.natAbs_pow]
  have e : (256 : Int).natAbs = 2 ^ 8 := by decide
  rw [e, ← Nat.pow_mul, Nat.log2_two_pow]
  omega
theorem join_bits {prog : Program} {w : World} {A : Around} {E : Value → Shared → Prop} {s : Shared} {D : Addr} {t : Tok} {ys : List Value} {n : Nat} {N : Int} {Q : Value → Shared → Prop}
    (hl : s.heap.IsList D ys.toArray) (hc : CarriedAll ys ((bits n N).map fun a => PyData.str (if a = 0 then Str.ofString "0" else Str.ofString "1"))) (hn : n ≤ 1048576)
    (h : ∀ t' k, Q (.str (Txt.join (Str.ofString "") ((List.range n).map fun j => if bitOf N j = 0 then Str.ofString "0" else Str.ofString "1")) t') { s with toks := k }) :
    wpAny (model prog w) A (call (.builtin "str.join") [.str (Str.ofString "") t, .ref D]) Q E s := by
  refine KT.join_1 (l := bits n N) hl hc (fun a _ => by split <;> rfl) (by rw [bits_length]; exact hn) fun t' k _ => ?_
  have e : (bits n N).map (fun a => if a = 0 then Str.ofString "0" else Str.ofString "1") = (List.range n).map fun j => if bitOf N j = 0 then Str.ofString "0" else Str.ofString "1" := by
    unfold bits; rw [List.map_map]; rfl
  rw [e]
  exact h t' k
theorem sum_bits (N : Int) : ∀ n : Nat, (bits n N).sum = preSum (fun j => bitOf N j) n
  | 0 => rfl
  | n + 1 => by
    have ih := sum_bits N n
    unfold bits at ih ⊢
    rw [List.range_succ, List.map_append, List.sum_append, ih]
    show preSum (fun j => bitOf N j) n + (bitOf N n + 0) = preSum (fun j => bitOf N j) n + bitOf N n
    rw [Int.add_zero]
theorem item_0 : (if (0 : Int) = 0 then Str.ofString "0" else Str.ofString "1") = Txt.item (Str.ofString "01") 0 := by kernel_rfl
theorem item_1 : (if (1 : Int) = 0 then Str.ofString "0" else Str.ofString "1") = Txt.item (Str.ofString "01") 1 := by kernel_rfl
theorem bit_mul_ok (N : Int) (p : Nat) (y : Int) : IntMulOk (bitOf N p) y := .of_left (by rcases bit_cases N p with e | e <;> rw [e] <;> decide)
theorem emod_succ (N : Int) (n : Nat) : N % 2 ^ (n + 1) = N % 2 ^ n + bitOf N n * 2 ^ n := by
  rw [bit_e, Int.pow_succ]
  have hP := pow2_pos n
  generalize (2 : Int) ^ n = P at *
  rw [Int.emod_def N (P * 2), ← Int.ediv_ediv_of_nonneg (Int.le_of_lt hP), Int.emod_def N P, Int.emod_def (N / P) 2]
  generalize N / P = b
  generalize b / 2 = c
  rw [Int.sub_mul, Int.mul_comm P b, Int.mul_assoc P 2 c, Int.mul_comm P (2 * c)]
  omega
theorem sum_places (N : Int) : ∀ n : Nat, ((List.range n).map fun j => bitOf N j * 2 ^ j).sum = N % 2 ^ n
  | 0 => by simp
  | n + 1 => by
    rw [List.range_succ, List.map_append, List.sum_append, sum_places N n, emod_succ]
    show N % 2 ^ n + (bitOf N n * 2 ^ n + 0) = _
    rw [Int.add_zero]
theorem bit_shift (N : Int) (q j : Nat) : bitOf (N.fdiv (2 ^ q)) j = bitOf N (q + j) := by
  have h := Int.le_of_lt (pow2_pos q)
  rw [bit_e, bit_e, Int.fdiv_eq_ediv_of_nonneg _ h, Int.ediv_ediv_of_nonneg h, Int.pow_add]
theorem low_law {N n : Int} (_h : 0 ≤ n) : Builtin.bitAnd N (2 ^ Int.toNat n - 1) = List.sum (List.map (fun k' => bitOf N (Int.toNat k') * 2 ^ Int.toNat k') (rangeKs 0 (Int.toNat (n - 0)))) := by
  rw [kbt_mask, Int.sub_zero, ← sum_places N]
  unfold rangeKs
  rw [List.map_map]
  congr 1
  apply List.map_congr_left
  intro j _
  have e : (0 + (j : Int)).toNat = j := by omega
  simp only [Function.comp, e]
theorem high_law {N sz n : Int} (_h : 0 ≤ n) (h2 : n ≤ sz) : Builtin.bitAnd (1 * 2 ^ Int.toNat n - 1) (Int.fdiv N (2 ^ Int.toNat (sz - n))) = List.sum (List.map (fun k' => bitOf N (Int.toNat (sz - n + k')) * 2 ^ Int.toNat k') (rangeKs 0 (Int.toNat (n - 0)))) := by
  rw [Int.one_mul, kbt_mask', Int.sub_zero, ← sum_places]
  unfold rangeKs
  rw [List.map_map]
  congr 1
  apply List.map_congr_left
  intro j _
  have e : (0 + (j : Int)).toNat = j := by omega
  have e2 : (sz - n + (0 + (j : Int))).toNat = (sz - n).toNat + j := by omega
  simp only [Function.comp, e, e2, bit_shift]
theorem comp_same {h₀ : Heap} {L I C D : Addr} {m : Str → Option Value} {s₁ : Shared} {oI oC oD : Obj} {S : List (Addr × Obj) → Prop} {rest : Value → List (Addr × Obj) → Prop} {y : Value} {h' : Heap} {tk : Nat} {news' : List (Addr × Obj)}
    (F : Fr h₀ L h' m) (N : News h₀ L h' ((I, oI) :: (C, oC) :: (D, oD) :: news')) (off : LCg.Off3 I C D news') (hS : S news') (r : rest y news') :
    LCg.CompEnd h₀ L m s₁ I oI C oC D oD S rest y { s₁ with heap := h', toks := tk } := LCg.CompEnd.intro F N news' (fun _ hp => hp) off hS r

end PE0
section PGI
/-- row[place] at a place of the row, whatever the stack: the bit, and the heap only grows -/
theorem item_pure : ∀ {w : World} {A : Around} {s : Shared} {R : Result → Shared → Prop} {x d b : Nat} {i sz N : Int} {k : Nat} {t t1 t2 t3 u1 u3 : Tok} {g1 g2 g3 : Int} {vs : List Value} {nb : Nat},
   (hd.heap_1 w.params).In s.heap → s.heap.NoLimit → A.depth + 1 < recursionLimit →
   s.heap.get? x = some (instObj 126 d) → s.heap.get? d = some (rowE t1 t2 t3 u1 u3 g1 g2 g3 k sz b) → s.heap.get? b = some (W.listOf vs.toArray nb) →
   List.lookup x (hd.heap_1 w.params) = none → List.lookup d (hd.heap_1 w.params) = none → List.lookup b (hd.heap_1 w.params) = none →
   IntsAre vs (octs k N) → 0 ≤ i → i < sz → sz ≤ 8 * (k : Int) → sz ≤ 40 →
   (∀ s' t', Keeps s s' → R (.ok (.ret (.int (bitOf N i.toNat) t'))) s') →
   codeAny (model PySem.Challenge.rw_aw0020_01.row.prog w) A (.call (.ref 67) ⟨[.ref x, .int i t], []⟩) R s := by
  k_fill
  w_top off
  intro w A s R x d b i sz N k t t1 t2 t3 u1 u3 g1 g2 g3 vs nb X hlim hroom hx hd' hb nx nd nb' hi h0 h1 h2 h40 h
  have XG : (hd.heap_1 w.params).In (hideAll s.heap [x, d, b]) := hide_in X (by
    intro a ha
    simp only [List.mem_cons, List.not_mem_nil, or_false] at ha
    rcases ha with rfl | rfl | rfl <;> assumption)
  refine codeAny_call_def (binds := [(Str.ofString "self", .ref x), (Str.ofString "key", .int i t)]) (Nat.lt_trans (Nat.lt_succ_self _) hroom) (X 67 _ (by k_is)) rfl hlim (codeRec_of X (by k_is)) rfl (BindsTo.of_eq rfl) (by decide) (locs rfl) (fun h₁ hns hk => ?_)
  have F : Fr (hideAll s.heap [x, d, b]) s.heap.objs.size h₁ (fun y => List.lookup y [(Str.ofString "self", .ref x), (Str.ofString "key", .int i t)].reverse) :=
    ⟨hns, fun c o e => hk c o (of_hideAll _ e), Nat.le_of_eq (hideAll_size _ _)⟩
  have N' : News (hideAll s.heap [x, d, b]) s.heap.objs.size h₁ [(x, instObj 126 d), (d, rowE t1 t2 t3 u1 u3 g1 g2 g3 k sz b), (b, W.listOf vs.toArray nb)] := by
    intro p hp
    simp only [List.mem_cons, List.not_mem_nil, or_false] at hp
    rcases hp with rfl | rfl | rfl
    · exact ⟨hk _ _ hx, Nat.ne_of_lt (Heap.lt_size hx), hideAll_none _ (by simp)⟩
    · exact ⟨hk _ _ hd', Nat.ne_of_lt (Heap.lt_size hd'), hideAll_none _ (by simp)⟩
    · exact ⟨hk _ _ hb, Nat.ne_of_lt (Heap.lt_size hb), hideAll_none _ (by simp)⟩
  (try dsimp only)
  iterate 10 (walk_at "mine.step")
  refine wpAny_call (check_pure (X.keeps hk) (hlim.keeps hk) hroom (hk _ _ hx) (hk _ _ hd') (hk _ _ hb) nx nd nb' hi h0 h1 h2 h40 fun s' t' kp => ?_)
  obtain ⟨h', tk', rfl, kp'⟩ := kp
  exact h _ _ ⟨_, _, rfl, fun c o e => kp' c o (hk c o e)⟩
theorem item_U {w : World} {A : Around} {p : Program} {loose : List Str} {mean : ExcName → Option Value} {mg mb : Str → Option Value} {h₀ : Heap} {L : Addr} {m : Str → Option Value} {s : Shared} {R : Result → Shared → Prop}
   {x d b : Nat} {i sz N : Int} {k : Nat} {t t1 t2 t3 u1 u3 : Tok} {g1 g2 g3 : Int} {vs : List Value} {nb : Nat} {all : List (Addr × Obj)}
   (F : Fr h₀ L s.heap m) (X : (hd.heap_1 w.params).In h₀) (N₁ : News h₀ L s.heap all) (T : Top p loose mean mg mb h₀) (hroom : A.depth + 1 < recursionLimit)
   (mx : (x, instObj 126 d) ∈ all) (md : (d, rowE t1 t2 t3 u1 u3 g1 g2 g3 k sz b) ∈ all) (mb' : (b, W.listOf vs.toArray nb) ∈ all)
   (hi : IntsAre vs (octs k N)) (h0 : 0 ≤ i) (h1 : i < sz) (h2 : sz ≤ 8 * (k : Int)) (h40 : sz ≤ 40)
   (h : ∀ h' tk t', Fr h₀ L h' m → News h₀ L h' all → R (.ok (.ret (.int (bitOf N i.toNat) t'))) { s with heap := h', toks := tk }) :
   codeAny (model PySem.Challenge.rw_aw0020_01.row.prog w) A (.call (.ref 67) ⟨[.ref x, .int i t], []⟩) R s := by
  have hnone : ∀ q, h₀.get? q = none → List.lookup q (hd.heap_1 w.params) = none := fun q e => by
    cases e2 : List.lookup q (hd.heap_1 w.params) with
    | none => rfl
    | some o => rw [X q o e2] at e; cases e
  refine item_pure (X.keeps F.keep) (T.nolimit.keeps F.keep) hroom (N₁ _ mx).1 (N₁ _ md).1 (N₁ _ mb').1 (hnone _ (N₁ _ mx).2.2) (hnone _ (N₁ _ md).2.2) (hnone _ (N₁ _ mb').2.2) hi h0 h1 h2 h40 fun s' t' kp => ?_
  obtain ⟨h', tk', rfl, kp'⟩ := kp
  exact h _ _ _ (F.keeps kp') (N₁.grown kp')

end PGI
section PS0
theorem seg0 : ∀ {w : World} {p : Program} {loose : List Str} {mean : ExcName → Option Value} {mg mb : Str → Option Value} {h₀ : Heap} {L fa : Addr} {cd : Value} {s : Shared} {Q : Flow → Shared → Prop} {u : Str → Option Value}
   {lc ls lr ln c1 c2 c3 c4 x d b : Nat} {o1 o2 o3 o4 : Obj} {w4 : Option Value} {head sz N : Int} {k : Nat} {th tz tN t1 t2 t3 u1 u3 : Tok} {g1 g2 g3 : Int} {vs : List Value} {nb : Nat} {q1 q2 : Array Value} {rest : List (Addr × Obj)} {tl : List Stmt},
   Below callerA h₀ [] h₀ →
   Fr h₀ L s.heap (lawMap lc ls lr ln head th u) →
   (hd.heap_1 w.params).In h₀ →
   News h₀ L s.heap ((c4, o4) :: (c3, o3) :: (c2, o2) :: (c1, o1) :: (d, rowD t1 t2 t3 u1 u3 g1 g2 g3 k sz b) :: (x, instObj 126 d) :: (b, W.listOf vs.toArray nb) :: (111, tblOf q1) :: (118, tblOf q2) :: rest) →
   Top p loose mean mg mb h₀ →
   o1.data = .cell (some (.int sz tz)) →
   o2.data = .cell (some (.int N tN)) →
   o3.data = .cell (some (.ref x)) →
   o4.data = .cell w4 →
   c1 ≠ c4 →
   c2 ≠ c4 →
   c3 ≠ c4 →
   d ≠ c4 →
   x ≠ c4 →
   b ≠ c4 →
   (∀ q ∈ rest, q.1 ≠ c4) →
   (∀ q ∈ rest, q.1 ≠ 111) →
   (∀ q ∈ rest, q.1 ≠ 118) →
   TriplesOk q1.toList →
   TriplesOk q2.toList →
   AllBare s.gens →
   x ≠ 111 →
   d ≠ 111 →
   b ≠ 111 →
   x ≠ 118 →
   d ≠ 118 →
   b ≠ 118 →
   c1 ≠ 111 →
   c2 ≠ 111 →
   c3 ≠ 111 →
   c4 ≠ 111 →
   c1 ≠ 118 →
   c2 ≠ 118 →
   c3 ≠ 118 →
   c4 ≠ 118 →
   1 ≤ sz →
   sz ≤ 40 →
   8 * (k : Int) < sz + 8 →
   sz ≤ 8 * k →
   IntsAre vs (octs k N) →
   (∀ h' tk u' lb nB bs, lb ≠ c4 → lb ≠ 111 → lb ≠ 118 → IntsAre bs (bits sz.toNat N) → Fr h₀ L h' (endMap lc ls lr ln lb head th u') → News h₀ L h' ((c4, o4) :: (c3, o3) :: (c2, o2) :: (c1, o1) :: (lb, W.listOf bs.toArray nB) :: (d, rowD t1 t2 t3 u1 u3 g1 g2 g3 k sz b) :: (x, instObj 126 d) :: (b, W.listOf vs.toArray nb) :: (111, tblOf q1) :: (118, tblOf q2) :: rest) → wpAny (model PySem.Challenge.rw_aw0020_01.row.prog w) (callerA.deeper (lawEnv L fa cd c1 c2 c3 c4)) (execs tl (lawEnv L fa cd c1 c2 c3 c4)) Q (fun _ _ => False) { s with heap := h', toks := tk }) →
   wpAny (model PySem.Challenge.rw_aw0020_01.row.prog w) (callerA.deeper (lawEnv L fa cd c1 c2 c3 c4)) (execs (endBody.take 1 ++ tl) (lawEnv L fa cd c1 c2 c3 c4)) Q (fun _ _ => False) s := by
  k_fill
  w_top off
  intro w p loose mean mg mb h₀ L fa cd s Q u lc ls lr ln c1 c2 c3 c4 x d b o1 o2 o3 o4 w4 head sz N k th tz tN t1 t2 t3 u1 u3 g1 g2 g3 vs nb q1 q2 rest tl B F X N₁ T e1 e2 e3 e4 z1 z2 z3 z4 z5 z6 z7 za zb zc zd ze zf zg zh zi zj zk zl zm zn zo zp zq zr zs p1 p2 p3 p4 hi hC
  have hsz0 : ((Int.toNat (sz - 0) : Nat) : Int) = sz := by rw [Int.sub_zero]; exact Int.toNat_of_nonneg (by omega)
  have hk0 : ((Int.toNat ((k : Int) - 0) : Nat) : Int) = k := by rw [Int.sub_zero]; exact Int.toNat_of_nonneg (by omega)
  have hvs : vs.toArray.size ≤ sizeLine := by rw [List.size_toArray, hi.length, octs_length, PySem.sizeLine_eq]; omega
  unfold endBody lawEnv lawScope lawBody lawDef PySem.Challenge.pw_aw0020_01
  dsimp only [List.take, List.drop, List.cons_append, List.nil_append]
  iterate 25 (walk_at "mine.step")
  rename Fr h₀ _ _ (fun z => if z = "bits" then _ else _) => F9
  rename News h₀ _ _ ((_, LCg.lst _) :: _) => N9
  rename IntsAre _ (List.map _ _) => I9
  rename c4 ≠ _ ∧ _ => O9
  rw [bits_of_range, Int.sub_zero] at I9
  exact hC _ _ _ _ _ _ O9.1.symm O9.2.2.2.2.2.2.2.1.symm O9.2.2.2.2.2.2.2.2.1.symm I9 (fr_end F9 rfl rfl rfl rfl rfl rfl) (kst_newsOf N9 (by kst_allIn))

end PS0
section PS1
theorem seg1 : ∀ {w : World} {p : Program} {loose : List Str} {mean : ExcName → Option Value} {mg mb : Str → Option Value} {h₀ : Heap} {L fa : Addr} {cd : Value} {s : Shared} {Q : Flow → Shared → Prop} {u : Str → Option Value}
   {lc ls lr ln c1 c2 c3 c4 x d b : Nat} {o1 o2 o3 o4 : Obj} {w4 : Option Value} {head sz N : Int} {k : Nat} {th tz tN t1 t2 t3 u1 u3 : Tok} {g1 g2 g3 : Int} {vs : List Value} {nb : Nat} {q1 q2 : Array Value} {rest : List (Addr × Obj)} {tl : List Stmt} {lb nB : Nat} {bs : List Value},
   Below callerA h₀ [] h₀ →
   Fr h₀ L s.heap (endMap lc ls lr ln lb head th u) →
   (hd.heap_1 w.params).In h₀ →
   News h₀ L s.heap ((c4, o4) :: (c3, o3) :: (c2, o2) :: (c1, o1) :: (lb, W.listOf bs.toArray nB) :: (d, rowD t1 t2 t3 u1 u3 g1 g2 g3 k sz b) :: (x, instObj 126 d) :: (b, W.listOf vs.toArray nb) :: (111, tblOf q1) :: (118, tblOf q2) :: rest) →
   Top p loose mean mg mb h₀ →
   o1.data = .cell (some (.int sz tz)) →
   o2.data = .cell (some (.int N tN)) →
   o3.data = .cell (some (.ref x)) →
   o4.data = .cell w4 →
   c1 ≠ c4 →
   c2 ≠ c4 →
   c3 ≠ c4 →
   d ≠ c4 →
   x ≠ c4 →
   b ≠ c4 →
   (∀ q ∈ rest, q.1 ≠ c4) →
   (∀ q ∈ rest, q.1 ≠ 111) →
   (∀ q ∈ rest, q.1 ≠ 118) →
   TriplesOk q1.toList →
   TriplesOk q2.toList →
   AllBare s.gens →
   x ≠ 111 →
   d ≠ 111 →
   b ≠ 111 →
   x ≠ 118 →
   d ≠ 118 →
   b ≠ 118 →
   c1 ≠ 111 →
   c2 ≠ 111 →
   c3 ≠ 111 →
   c4 ≠ 111 →
   c1 ≠ 118 →
   c2 ≠ 118 →
   c3 ≠ 118 →
   c4 ≠ 118 →
   1 ≤ sz →
   sz ≤ 40 →
   8 * (k : Int) < sz + 8 →
   sz ≤ 8 * k →
   IntsAre vs (octs k N) →
   lb ≠ c4 →
   lb ≠ 111 →
   lb ≠ 118 →
   IntsAre bs (bits sz.toNat N) →
   (∀ h' tk, Fr h₀ L h' (endMap lc ls lr ln lb head th u) → News h₀ L h' ((c4, o4) :: (c3, o3) :: (c2, o2) :: (c1, o1) :: (lb, W.listOf bs.toArray nB) :: (d, rowD t1 t2 t3 u1 u3 g1 g2 g3 k sz b) :: (x, instObj 126 d) :: (b, W.listOf vs.toArray nb) :: (111, tblOf q1) :: (118, tblOf q2) :: rest) → wpAny (model PySem.Challenge.rw_aw0020_01.row.prog w) (callerA.deeper (lawEnv L fa cd c1 c2 c3 c4)) (execs tl (lawEnv L fa cd c1 c2 c3 c4)) Q (fun _ _ => False) { s with heap := h', toks := tk }) →
   wpAny (model PySem.Challenge.rw_aw0020_01.row.prog w) (callerA.deeper (lawEnv L fa cd c1 c2 c3 c4)) (execs (end1.take 1 ++ tl) (lawEnv L fa cd c1 c2 c3 c4)) Q (fun _ _ => False) s := by
  k_fill
  w_top off
  intro w p loose mean mg mb h₀ L fa cd s Q u lc ls lr ln c1 c2 c3 c4 x d b o1 o2 o3 o4 w4 head sz N k th tz tN t1 t2 t3 u1 u3 g1 g2 g3 vs nb q1 q2 rest tl lb nB bs B F X N₁ T e1 e2 e3 e4 z1 z2 z3 z4 z5 z6 z7 za zb zc zd ze zf zg zh zi zj zk zl zm zn zo zp zq zr zs p1 p2 p3 p4 hi y4 y5 y6 hb hC
  have hsz0 : ((Int.toNat (sz - 0) : Nat) : Int) = sz := by rw [Int.sub_zero]; exact Int.toNat_of_nonneg (by omega)
  have hk0 : ((Int.toNat ((k : Int) - 0) : Nat) : Int) = k := by rw [Int.sub_zero]; exact Int.toNat_of_nonneg (by omega)
  have hvs : vs.toArray.size ≤ sizeLine := by rw [List.size_toArray, hi.length, octs_length, PySem.sizeLine_eq]; omega
  unfold end1 endBody lawEnv lawScope lawBody lawDef PySem.Challenge.pw_aw0020_01
  dsimp only [List.take, List.drop, List.cons_append, List.nil_append]
  k_steps
  · exact absurd rfl ‹sz ≠ sz›
  rename Fr h₀ L _ _ => F9
  rename News h₀ L _ _ => N9
  exact hC _ _ F9 (kst_newsOf N9 (by kst_allIn))

end PS1
section PS2
theorem seg2 : ∀ {w : World} {p : Program} {loose : List Str} {mean : ExcName → Option Value} {mg mb : Str → Option Value} {h₀ : Heap} {L fa : Addr} {cd : Value} {s : Shared} {Q : Flow → Shared → Prop} {u : Str → Option Value}
   {lc ls lr ln c1 c2 c3 c4 x d b : Nat} {o1 o2 o3 o4 : Obj} {w4 : Option Value} {head sz N : Int} {k : Nat} {th tz tN t1 t2 t3 u1 u3 : Tok} {g1 g2 g3 : Int} {vs : List Value} {nb : Nat} {q1 q2 : Array Value} {rest : List (Addr × Obj)} {tl : List Stmt} {lb nB : Nat} {bs : List Value},
   Below callerA h₀ [] h₀ →
   Fr h₀ L s.heap (endMap lc ls lr ln lb head th u) →
   (hd.heap_1 w.params).In h₀ →
   News h₀ L s.heap ((c4, o4) :: (c3, o3) :: (c2, o2) :: (c1, o1) :: (lb, W.listOf bs.toArray nB) :: (d, rowD t1 t2 t3 u1 u3 g1 g2 g3 k sz b) :: (x, instObj 126 d) :: (b, W.listOf vs.toArray nb) :: (111, tblOf q1) :: (118, tblOf q2) :: rest) →
   Top p loose mean mg mb h₀ →
   o1.data = .cell (some (.int sz tz)) →
   o2.data = .cell (some (.int N tN)) →
   o3.data = .cell (some (.ref x)) →
   o4.data = .cell w4 →
   c1 ≠ c4 →
   c2 ≠ c4 →
   c3 ≠ c4 →
   d ≠ c4 →
   x ≠ c4 →
   b ≠ c4 →
   (∀ q ∈ rest, q.1 ≠ c4) →
   (∀ q ∈ rest, q.1 ≠ 111) →
   (∀ q ∈ rest, q.1 ≠ 118) →
   TriplesOk q1.toList →
   TriplesOk q2.toList →
   AllBare s.gens →
   x ≠ 111 →
   d ≠ 111 →
   b ≠ 111 →
   x ≠ 118 →
   d ≠ 118 →
   b ≠ 118 →
   c1 ≠ 111 →
   c2 ≠ 111 →
   c3 ≠ 111 →
   c4 ≠ 111 →
   c1 ≠ 118 →
   c2 ≠ 118 →
   c3 ≠ 118 →
   c4 ≠ 118 →
   1 ≤ sz →
   sz ≤ 40 →
   8 * (k : Int) < sz + 8 →
   sz ≤ 8 * k →
   IntsAre vs (octs k N) →
   lb ≠ c4 →
   lb ≠ 111 →
   lb ≠ 118 →
   IntsAre bs (bits sz.toNat N) →
   (∀ h' tk, Fr h₀ L h' (endMap lc ls lr ln lb head th u) → News h₀ L h' ((c4, o4) :: (c3, o3) :: (c2, o2) :: (c1, o1) :: (lb, W.listOf bs.toArray nB) :: (d, rowD t1 t2 t3 u1 u3 g1 g2 g3 k sz b) :: (x, instObj 126 d) :: (b, W.listOf vs.toArray nb) :: (111, tblOf q1) :: (118, tblOf q2) :: rest) → wpAny (model PySem.Challenge.rw_aw0020_01.row.prog w) (callerA.deeper (lawEnv L fa cd c1 c2 c3 c4)) (execs tl (lawEnv L fa cd c1 c2 c3 c4)) Q (fun _ _ => False) { s with heap := h', toks := tk }) →
   wpAny (model PySem.Challenge.rw_aw0020_01.row.prog w) (callerA.deeper (lawEnv L fa cd c1 c2 c3 c4)) (execs (end2.take 1 ++ tl) (lawEnv L fa cd c1 c2 c3 c4)) Q (fun _ _ => False) s := by
  k_fill
  w_top off
  intro w p loose mean mg mb h₀ L fa cd s Q u lc ls lr ln c1 c2 c3 c4 x d b o1 o2 o3 o4 w4 head sz N k th tz tN t1 t2 t3 u1 u3 g1 g2 g3 vs nb q1 q2 rest tl lb nB bs B F X N₁ T e1 e2 e3 e4 z1 z2 z3 z4 z5 z6 z7 za zb zc zd ze zf zg zh zi zj zk zl zm zn zo zp zq zr zs p1 p2 p3 p4 hi y4 y5 y6 hb hC
  have hsz0 : ((Int.toNat (sz - 0) : Nat) : Int) = sz := by rw [Int.sub_zero]; exact Int.toNat_of_nonneg (by omega)
  have hk0 : ((Int.toNat ((k : Int) - 0) : Nat) : Int) = k := by rw [Int.sub_zero]; exact Int.toNat_of_nonneg (by omega)
  have hvs : vs.toArray.size ≤ sizeLine := by rw [List.size_toArray, hi.length, octs_length, PySem.sizeLine_eq]; omega
  unfold end2 endBody lawEnv lawScope lawBody lawDef PySem.Challenge.pw_aw0020_01
  dsimp only [List.take, List.drop, List.cons_append, List.nil_append]
  iterate 18 (walk_at "mine.step")
  k_dflt (refine' list_copyK ?lk1 ?lk2 ?lk3 ?_ ?lkz)
  case lk1 => k_asm
  case lk2 => k_asm
  case lk3 => k_dflt (exact News.isList (by k_asm) (by k_mem))
  case lkz => assumption
  intro D9 c9 h9 F9 N9 l9
  (try k_lt l9)
  (try k_sweep)
  k_dflt (refine LCg.ListComp_U (F₀ := by k_asm) (by with_unfolding_all rfl) (by decide) (by rfl) (by decide) (by rfl) ?_)
  iterate 16 (walk_at "mine.step")
  iterate 1 (walk_at "mine.step")
  iterate 7 (walk_at "mine.step")
  k_dflt (refine floordiv_int (oct_pow_ne _) ?_ (Or.inl (PyProof.noPylong_of_log2 (oct_pow_py (by omega)))))
  k_steps
  rotate_left
  · exfalso
    rename ¬ octs k N = _ => hn
    apply hn
    rw [octs_of_range, Int.sub_zero, Int.toNat_natCast]
  rename Fr h₀ L _ _ => F9
  rename News h₀ L _ _ => N9
  exact hC _ _ F9 (kst_newsOf N9 (by kst_allIn))

end PS2
section PS3
theorem seg3 : ∀ {w : World} {p : Program} {loose : List Str} {mean : ExcName → Option Value} {mg mb : Str → Option Value} {h₀ : Heap} {L fa : Addr} {cd : Value} {s : Shared} {Q : Flow → Shared → Prop} {u : Str → Option Value}
   {lc ls lr ln c1 c2 c3 c4 x d b : Nat} {o1 o2 o3 o4 : Obj} {w4 : Option Value} {head sz N : Int} {k : Nat} {th tz tN t1 t2 t3 u1 u3 : Tok} {g1 g2 g3 : Int} {vs : List Value} {nb : Nat} {q1 q2 : Array Value} {rest : List (Addr × Obj)} {tl : List Stmt} {lb nB : Nat} {bs : List Value},
   Below callerA h₀ [] h₀ →
   Fr h₀ L s.heap (endMap lc ls lr ln lb head th u) →
   (hd.heap_1 w.params).In h₀ →
   News h₀ L s.heap ((c4, o4) :: (c3, o3) :: (c2, o2) :: (c1, o1) :: (lb, W.listOf bs.toArray nB) :: (d, rowD t1 t2 t3 u1 u3 g1 g2 g3 k sz b) :: (x, instObj 126 d) :: (b, W.listOf vs.toArray nb) :: (111, tblOf q1) :: (118, tblOf q2) :: rest) →
   Top p loose mean mg mb h₀ →
   o1.data = .cell (some (.int sz tz)) →
   o2.data = .cell (some (.int N tN)) →
   o3.data = .cell (some (.ref x)) →
   o4.data = .cell w4 →
   c1 ≠ c4 →
   c2 ≠ c4 →
   c3 ≠ c4 →
   d ≠ c4 →
   x ≠ c4 →
   b ≠ c4 →
   (∀ q ∈ rest, q.1 ≠ c4) →
   (∀ q ∈ rest, q.1 ≠ 111) →
   (∀ q ∈ rest, q.1 ≠ 118) →
   TriplesOk q1.toList →
   TriplesOk q2.toList →
   AllBare s.gens →
   x ≠ 111 →
   d ≠ 111 →
   b ≠ 111 →
   x ≠ 118 →
   d ≠ 118 →
   b ≠ 118 →
   c1 ≠ 111 →
   c2 ≠ 111 →
   c3 ≠ 111 →
   c4 ≠ 111 →
   c1 ≠ 118 →
   c2 ≠ 118 →
   c3 ≠ 118 →
   c4 ≠ 118 →
   1 ≤ sz →
   sz ≤ 40 →
   8 * (k : Int) < sz + 8 →
   sz ≤ 8 * k →
   IntsAre vs (octs k N) →
   lb ≠ c4 →
   lb ≠ 111 →
   lb ≠ 118 →
   IntsAre bs (bits sz.toNat N) →
   (∀ s' q1' q2', s'.os = s.os → AllBare s'.gens → TriplesOk q1'.toList → TriplesOk q2'.toList → Fr h₀ L s'.heap (endMap lc ls lr ln lb head th u) → News h₀ L s'.heap ((c4, o4) :: (c3, o3) :: (c2, o2) :: (c1, o1) :: (lb, W.listOf bs.toArray nB) :: (d, rowD t1 t2 t3 u1 u3 g1 g2 g3 k sz b) :: (x, instObj 126 d) :: (b, W.listOf vs.toArray nb) :: (111, tblOf q1') :: (118, tblOf q2') :: rest) → wpAny (model PySem.Challenge.rw_aw0020_01.row.prog w) (callerA.deeper (lawEnv L fa cd c1 c2 c3 c4)) (execs tl (lawEnv L fa cd c1 c2 c3 c4)) Q (fun _ _ => False) s') →
   wpAny (model PySem.Challenge.rw_aw0020_01.row.prog w) (callerA.deeper (lawEnv L fa cd c1 c2 c3 c4)) (execs (end3.take 1 ++ tl) (lawEnv L fa cd c1 c2 c3 c4)) Q (fun _ _ => False) s := by
  k_fill
  w_top off
  intro w p loose mean mg mb h₀ L fa cd s Q u lc ls lr ln c1 c2 c3 c4 x d b o1 o2 o3 o4 w4 head sz N k th tz tN t1 t2 t3 u1 u3 g1 g2 g3 vs nb q1 q2 rest tl lb nB bs B F X N₁ T e1 e2 e3 e4 z1 z2 z3 z4 z5 z6 z7 za zb zc zd ze zf zg zh zi zj zk zl zm zn zo zp zq zr zs p1 p2 p3 p4 hi y4 y5 y6 hb hC
  have hsz0 : ((Int.toNat (sz - 0) : Nat) : Int) = sz := by rw [Int.sub_zero]; exact Int.toNat_of_nonneg (by omega)
  have hk0 : ((Int.toNat ((k : Int) - 0) : Nat) : Int) = k := by rw [Int.sub_zero]; exact Int.toNat_of_nonneg (by omega)
  have hvs : vs.toArray.size ≤ sizeLine := by rw [List.size_toArray, hi.length, octs_length, PySem.sizeLine_eq]; omega
  unfold end3 endBody lawEnv lawScope lawBody lawDef PySem.Challenge.pw_aw0020_01
  dsimp only [List.take, List.drop, List.cons_append, List.nil_append]
  have hbz : bs.toArray.size ≤ sizeLine := by rw [List.size_toArray, hb.length, bits_length, PySem.sizeLine_eq]; omega
  iterate 8 (walk_at "mine.step")
  k_dflt (refine wpAny_call ?_)
  k_dflt (refine' as_string_U ?kB8 ?kF ?kX ?kN ?mx ?md ?mb ?kU ?kT ?kf ?kk ?hi ?a1 ?a2 ?a3 ?tr ?kG ?n1 ?n2 ?n3 ?_)
  case kB8 => k_asm
  case kF => k_asm
  case kX => k_asm
  case kN => k_asm
  case mx => k_mem
  case md => k_mem
  case mb => k_mem
  case kU => k_updF
  case kT => k_asm
  case kf => exact rfl
  case kk => exact rfl
  case hi => assumption
  case a1 => assumption
  case a2 => assumption
  case a3 => assumption
  case tr => assumption
  case kG => assumption
  case n1 => assumption
  case n2 => assumption
  case n3 => assumption
  intro s8 t8 r8 os8 G8 tr8 F8 N8
  (try dsimp only at N8 ⊢)
  iterate 5 (walk_at "mine.step")
  k_dflt (refine LCg.ListComp_U (F₀ := by k_asm) (by with_unfolding_all rfl) (by decide) (by rfl) (by decide) (by rfl) ?_)
  iterate 1 (walk_at "mine.step")
  k_dflt (refine LCg.CompSrc.ledger (by rfl) (by k_asm) (by k_asm) (by k_mem) (by size_fits) ?_)
  intro g9
  refine' kct_list (fun j => if j = 0 then Str.ofString "0" else Str.ofString "1") (by assumption) (fun kk tt I9 oI9 C9 oC9 D9 m9 ys9 h9 tk9 E9 hk9 hC9 hx9 F9 N9 off9 ne9 mark9 => ?_) ?_
  · obtain e9 | e9 := mem_bits hk9 <;> subst e9
    all_goals
      iterate 4 (walk_at "mine.step")
      k_dflt (refine' comp_same ?ceF ?ceN ?ceOff ?ceS ?_)
      case ceF => k_asm
      case ceN => k_asm
      case ceOff => assumption
      case ceS => exact Or.inr ⟨_, by k_mem, rfl, _, rfl⟩
      k_dflt (first | exact kct_el item_0 rfl rfl | exact kct_el item_1 rfl rfl)
  iterate 3 (walk_at "mine.step")
  k_dflt (refine join_bits (News.isList (by k_asm) (by k_mem)) (by assumption) (by omega) ?_)
  intro tj9 kj9
  iterate 3 (walk_at "mine.step")
  · exfalso
    rename (_ != _) = true => hne
    simp at hne
  iterate 6 (walk_at "mine.step")
  k_dflt (refine wpAny_call ?_)
  k_dflt (refine' num_bits_U ?kB7 ?kF ?kX ?kN ?mx ?md ?mb ?kU ?kT ?kf ?kk ?hi ?a1 ?a2 ?a3 ?tr ?kG ?n1 ?n2 ?n3 ?_)
  case kB7 => k_asm
  case kF => k_asm
  case kX => k_asm
  case kN => k_asm
  case mx => k_mem
  case md => k_mem
  case mb => k_mem
  case kU => k_updF
  case kT => k_asm
  case kf => exact rfl
  case kk => exact rfl
  case hi => assumption
  case a1 => assumption
  case a2 => assumption
  case a3 => assumption
  case tr => assumption
  case kG => assumption
  case n1 => assumption
  case n2 => assumption
  case n3 => assumption
  intro s7 t7 r7 os7 G7 tr7 F7 N7
  (try dsimp only at N7 ⊢)
  k_steps
  · exfalso
    rename preSum _ _ ≠ _ => hne
    exact hne (sum_bits _ _).symm
  rename Fr h₀ L _ _ => FZ
  rename News h₀ L _ _ => NZ
  refine hC _ _ _ ?os ?G ?t1 ?t2 FZ (kst_newsOf NZ (by kst_allIn))
  case os => exact os7.trans os8
  case t1 => assumption
  case t2 => assumption
  case G => assumption

end PS3
section PS4
theorem seg4 : ∀ {w : World} {p : Program} {loose : List Str} {mean : ExcName → Option Value} {mg mb : Str → Option Value} {h₀ : Heap} {L fa : Addr} {cd : Value} {s : Shared} {Q : Flow → Shared → Prop} {u : Str → Option Value}
   {lc ls lr ln c1 c2 c3 c4 x d b : Nat} {o1 o2 o3 o4 : Obj} {w4 : Option Value} {head sz N : Int} {k : Nat} {th tz tN t1 t2 t3 u1 u3 : Tok} {g1 g2 g3 : Int} {vs : List Value} {nb : Nat} {q1 q2 : Array Value} {rest : List (Addr × Obj)} {tl : List Stmt} {lb nB : Nat} {bs : List Value},
   Below callerA h₀ [] h₀ →
   Fr h₀ L s.heap (endMap lc ls lr ln lb head th u) →
   (hd.heap_1 w.params).In h₀ →
   News h₀ L s.heap ((c4, o4) :: (c3, o3) :: (c2, o2) :: (c1, o1) :: (lb, W.listOf bs.toArray nB) :: (d, rowD t1 t2 t3 u1 u3 g1 g2 g3 k sz b) :: (x, instObj 126 d) :: (b, W.listOf vs.toArray nb) :: (111, tblOf q1) :: (118, tblOf q2) :: rest) →
   Top p loose mean mg mb h₀ →
   o1.data = .cell (some (.int sz tz)) →
   o2.data = .cell (some (.int N tN)) →
   o3.data = .cell (some (.ref x)) →
   o4.data = .cell w4 →
   c1 ≠ c4 →
   c2 ≠ c4 →
   c3 ≠ c4 →
   d ≠ c4 →
   x ≠ c4 →
   b ≠ c4 →
   (∀ q ∈ rest, q.1 ≠ c4) →
   (∀ q ∈ rest, q.1 ≠ 111) →
   (∀ q ∈ rest, q.1 ≠ 118) →
   TriplesOk q1.toList →
   TriplesOk q2.toList →
   AllBare s.gens →
   x ≠ 111 →
   d ≠ 111 →
   b ≠ 111 →
   x ≠ 118 →
   d ≠ 118 →
   b ≠ 118 →
   c1 ≠ 111 →
   c2 ≠ 111 →
   c3 ≠ 111 →
   c4 ≠ 111 →
   c1 ≠ 118 →
   c2 ≠ 118 →
   c3 ≠ 118 →
   c4 ≠ 118 →
   1 ≤ sz →
   sz ≤ 40 →
   8 * (k : Int) < sz + 8 →
   sz ≤ 8 * k →
   IntsAre vs (octs k N) →
   lb ≠ c4 →
   lb ≠ 111 →
   lb ≠ 118 →
   IntsAre bs (bits sz.toNat N) →
   (∀ h' tk, Fr h₀ L h' (endMap lc ls lr ln lb head th u) → News h₀ L h' ((c4, o4) :: (c3, o3) :: (c2, o2) :: (c1, o1) :: (lb, W.listOf bs.toArray nB) :: (d, rowD t1 t2 t3 u1 u3 g1 g2 g3 k sz b) :: (x, instObj 126 d) :: (b, W.listOf vs.toArray nb) :: (111, tblOf q1) :: (118, tblOf q2) :: rest) → wpAny (model PySem.Challenge.rw_aw0020_01.row.prog w) (callerA.deeper (lawEnv L fa cd c1 c2 c3 c4)) (execs tl (lawEnv L fa cd c1 c2 c3 c4)) Q (fun _ _ => False) { s with heap := h', toks := tk }) →
   wpAny (model PySem.Challenge.rw_aw0020_01.row.prog w) (callerA.deeper (lawEnv L fa cd c1 c2 c3 c4)) (execs (end4.take 1 ++ tl) (lawEnv L fa cd c1 c2 c3 c4)) Q (fun _ _ => False) s := by
  k_fill
  w_top off
  intro w p loose mean mg mb h₀ L fa cd s Q u lc ls lr ln c1 c2 c3 c4 x d b o1 o2 o3 o4 w4 head sz N k th tz tN t1 t2 t3 u1 u3 g1 g2 g3 vs nb q1 q2 rest tl lb nB bs B F X N₁ T e1 e2 e3 e4 z1 z2 z3 z4 z5 z6 z7 za zb zc zd ze zf zg zh zi zj zk zl zm zn zo zp zq zr zs p1 p2 p3 p4 hi y4 y5 y6 hb hC
  have hsz0 : ((Int.toNat (sz - 0) : Nat) : Int) = sz := by rw [Int.sub_zero]; exact Int.toNat_of_nonneg (by omega)
  have hk0 : ((Int.toNat ((k : Int) - 0) : Nat) : Int) = k := by rw [Int.sub_zero]; exact Int.toNat_of_nonneg (by omega)
  have hvs : vs.toArray.size ≤ sizeLine := by rw [List.size_toArray, hi.length, octs_length, PySem.sizeLine_eq]; omega
  unfold end4 endBody lawEnv lawScope lawBody lawDef PySem.Challenge.pw_aw0020_01
  dsimp only [List.take, List.drop, List.cons_append, List.nil_append]
  iterate 3 (walk_at "mine.step")
  k_dflt (refine LCg.ListComp_U (F₀ := by k_asm) (by with_unfolding_all rfl) (by decide) (by rfl) (by decide) (by rfl) ?_)
  iterate 7 (walk_at "mine.step")
  iterate 1 (walk_at "mine.step")
  iterate 4 (walk_at "mine.step")
  k_dflt (refine wpAny_call ?_)
  k_dflt (refine' item_U ?giF ?giX ?giN ?giT ?giR ?gix ?gid ?gib ?gii ?gi0 ?gi1 ?gi2 ?gi4 ?_)
  case giF => k_asm
  case giX => k_asm
  case giN => k_asm
  case giT => k_asm
  case giR => k_room
  case gix => k_mem
  case gid => k_mem
  case gib => k_mem
  case gii => assumption
  case gi0 => omega
  case gi1 => omega
  case gi2 => assumption
  case gi4 => assumption
  intro h9 tk9 t9 F9 N9
  (try dsimp only)
  k_steps
  rotate_left
  · exfalso
    rename ¬ List.map _ _ = bits _ _ => hn
    rw [Int.sub_zero] at hn
    exact hn (bits_of_range _ _)
  rename Fr h₀ L _ _ => F9
  rename News h₀ L _ _ => N9
  exact hC _ _ F9 (kst_newsOf N9 (by kst_allIn))

end PS4
section PS5
theorem seg5 : ∀ {w : World} {p : Program} {loose : List Str} {mean : ExcName → Option Value} {mg mb : Str → Option Value} {h₀ : Heap} {L fa : Addr} {cd : Value} {s : Shared} {Q : Flow → Shared → Prop} {u : Str → Option Value}
   {lc ls lr ln c1 c2 c3 c4 x d b : Nat} {o1 o2 o3 o4 : Obj} {w4 : Option Value} {head sz N : Int} {k : Nat} {th tz tN t1 t2 t3 u1 u3 : Tok} {g1 g2 g3 : Int} {vs : List Value} {nb : Nat} {q1 q2 : Array Value} {rest : List (Addr × Obj)} {tl : List Stmt} {lb nB : Nat} {bs : List Value},
   Below callerA h₀ [] h₀ →
   Fr h₀ L s.heap (endMap lc ls lr ln lb head th u) →
   (hd.heap_1 w.params).In h₀ →
   News h₀ L s.heap ((c4, o4) :: (c3, o3) :: (c2, o2) :: (c1, o1) :: (lb, W.listOf bs.toArray nB) :: (d, rowD t1 t2 t3 u1 u3 g1 g2 g3 k sz b) :: (x, instObj 126 d) :: (b, W.listOf vs.toArray nb) :: (111, tblOf q1) :: (118, tblOf q2) :: rest) →
   Top p loose mean mg mb h₀ →
   o1.data = .cell (some (.int sz tz)) →
   o2.data = .cell (some (.int N tN)) →
   o3.data = .cell (some (.ref x)) →
   o4.data = .cell w4 →
   c1 ≠ c4 →
   c2 ≠ c4 →
   c3 ≠ c4 →
   d ≠ c4 →
   x ≠ c4 →
   b ≠ c4 →
   (∀ q ∈ rest, q.1 ≠ c4) →
   (∀ q ∈ rest, q.1 ≠ 111) →
   (∀ q ∈ rest, q.1 ≠ 118) →
   TriplesOk q1.toList →
   TriplesOk q2.toList →
   AllBare s.gens →
   x ≠ 111 →
   d ≠ 111 →
   b ≠ 111 →
   x ≠ 118 →
   d ≠ 118 →
   b ≠ 118 →
   c1 ≠ 111 →
   c2 ≠ 111 →
   c3 ≠ 111 →
   c4 ≠ 111 →
   c1 ≠ 118 →
   c2 ≠ 118 →
   c3 ≠ 118 →
   c4 ≠ 118 →
   1 ≤ sz →
   sz ≤ 40 →
   8 * (k : Int) < sz + 8 →
   sz ≤ 8 * k →
   IntsAre vs (octs k N) →
   lb ≠ c4 →
   lb ≠ 111 →
   lb ≠ 118 →
   IntsAre bs (bits sz.toNat N) →
   (∀ h' tk o4' n tn, o4'.data = .cell (some (.int n tn)) → 0 ≤ n → n ≤ sz → Fr h₀ L h' (endMap lc ls lr ln lb head th u) → News h₀ L h' ((c4, o4') :: (c3, o3) :: (c2, o2) :: (c1, o1) :: (lb, W.listOf bs.toArray nB) :: (d, rowD t1 t2 t3 u1 u3 g1 g2 g3 k sz b) :: (x, instObj 126 d) :: (b, W.listOf vs.toArray nb) :: (111, tblOf q1) :: (118, tblOf q2) :: rest) → wpAny (model PySem.Challenge.rw_aw0020_01.row.prog w) (callerA.deeper (lawEnv L fa cd c1 c2 c3 c4)) (execs tl (lawEnv L fa cd c1 c2 c3 c4)) Q (fun _ _ => False) { s with heap := h', toks := tk }) →
   wpAny (model PySem.Challenge.rw_aw0020_01.row.prog w) (callerA.deeper (lawEnv L fa cd c1 c2 c3 c4)) (execs (end5.take 1 ++ tl) (lawEnv L fa cd c1 c2 c3 c4)) Q (fun _ _ => False) s := by
  k_fill
  w_top off
  intro w p loose mean mg mb h₀ L fa cd s Q u lc ls lr ln c1 c2 c3 c4 x d b o1 o2 o3 o4 w4 head sz N k th tz tN t1 t2 t3 u1 u3 g1 g2 g3 vs nb q1 q2 rest tl lb nB bs B F X N₁ T e1 e2 e3 e4 z1 z2 z3 z4 z5 z6 z7 za zb zc zd ze zf zg zh zi zj zk zl zm zn zo zp zq zr zs p1 p2 p3 p4 hi y4 y5 y6 hb hC
  have hsz0 : ((Int.toNat (sz - 0) : Nat) : Int) = sz := by rw [Int.sub_zero]; exact Int.toNat_of_nonneg (by omega)
  have hk0 : ((Int.toNat ((k : Int) - 0) : Nat) : Int) = k := by rw [Int.sub_zero]; exact Int.toNat_of_nonneg (by omega)
  have hvs : vs.toArray.size ≤ sizeLine := by rw [List.size_toArray, hi.length, octs_length, PySem.sizeLine_eq]; omega
  unfold end5 endBody lawEnv lawScope lawBody lawDef PySem.Challenge.pw_aw0020_01
  dsimp only [List.take, List.drop, List.cons_append, List.nil_append]
  have hn0 := Int.fmod_nonneg_of_pos (1 + Int.fdiv head 1600) (b := sz + 1) (by omega)
  have hn1 := Int.fmod_lt_of_pos (1 + Int.fdiv head 1600) (b := sz + 1) (by omega)
  k_steps
  rename Obj.data _ = Data.cell (some (Value.int (Int.fmod _ _) _)) => d9
  rename Fr h₀ L _ _ => F9
  rename News h₀ L _ _ => N9
  exact hC _ _ _ _ _ d9 hn0 (Int.le_of_lt_add_one hn1) F9 (kst_newsOf N9 (by kst_allIn))

end PS5
section PS6
theorem seg6 : ∀ {w : World} {p : Program} {loose : List Str} {mean : ExcName → Option Value} {mg mb : Str → Option Value} {h₀ : Heap} {L fa : Addr} {cd : Value} {s : Shared} {Q : Flow → Shared → Prop} {u : Str → Option Value}
   {lc ls lr ln c1 c2 c3 c4 x d b : Nat} {o1 o2 o3 o4 : Obj} {head sz N : Int} {k : Nat} {th tz tN t1 t2 t3 u1 u3 : Tok} {g1 g2 g3 : Int} {vs : List Value} {nb : Nat} {q1 q2 : Array Value} {rest : List (Addr × Obj)} {tl : List Stmt} {lb nB : Nat} {bs : List Value} {n : Int} {tn : Tok},
   Below callerA h₀ [] h₀ →
   Fr h₀ L s.heap (endMap lc ls lr ln lb head th u) →
   (hd.heap_1 w.params).In h₀ →
   News h₀ L s.heap ((c4, o4) :: (c3, o3) :: (c2, o2) :: (c1, o1) :: (lb, W.listOf bs.toArray nB) :: (d, rowD t1 t2 t3 u1 u3 g1 g2 g3 k sz b) :: (x, instObj 126 d) :: (b, W.listOf vs.toArray nb) :: (111, tblOf q1) :: (118, tblOf q2) :: rest) →
   Top p loose mean mg mb h₀ →
   o1.data = .cell (some (.int sz tz)) →
   o2.data = .cell (some (.int N tN)) →
   o3.data = .cell (some (.ref x)) →
   c1 ≠ c4 →
   c2 ≠ c4 →
   c3 ≠ c4 →
   d ≠ c4 →
   x ≠ c4 →
   b ≠ c4 →
   (∀ q ∈ rest, q.1 ≠ c4) →
   (∀ q ∈ rest, q.1 ≠ 111) →
   (∀ q ∈ rest, q.1 ≠ 118) →
   TriplesOk q1.toList →
   TriplesOk q2.toList →
   AllBare s.gens →
   x ≠ 111 →
   d ≠ 111 →
   b ≠ 111 →
   x ≠ 118 →
   d ≠ 118 →
   b ≠ 118 →
   c1 ≠ 111 →
   c2 ≠ 111 →
   c3 ≠ 111 →
   c4 ≠ 111 →
   c1 ≠ 118 →
   c2 ≠ 118 →
   c3 ≠ 118 →
   c4 ≠ 118 →
   1 ≤ sz →
   sz ≤ 40 →
   8 * (k : Int) < sz + 8 →
   sz ≤ 8 * k →
   IntsAre vs (octs k N) →
   lb ≠ c4 →
   lb ≠ 111 →
   lb ≠ 118 →
   IntsAre bs (bits sz.toNat N) →
   o4.data = .cell (some (.int n tn)) →
   0 ≤ n →
   n ≤ sz →
   (∀ h' tk, Fr h₀ L h' (endMap lc ls lr ln lb head th u) → News h₀ L h' ((c4, o4) :: (c3, o3) :: (c2, o2) :: (c1, o1) :: (lb, W.listOf bs.toArray nB) :: (d, rowD t1 t2 t3 u1 u3 g1 g2 g3 k sz b) :: (x, instObj 126 d) :: (b, W.listOf vs.toArray nb) :: (111, tblOf q1) :: (118, tblOf q2) :: rest) → wpAny (model PySem.Challenge.rw_aw0020_01.row.prog w) (callerA.deeper (lawEnv L fa cd c1 c2 c3 c4)) (execs tl (lawEnv L fa cd c1 c2 c3 c4)) Q (fun _ _ => False) { s with heap := h', toks := tk }) →
   wpAny (model PySem.Challenge.rw_aw0020_01.row.prog w) (callerA.deeper (lawEnv L fa cd c1 c2 c3 c4)) (execs (end6.take 1 ++ tl) (lawEnv L fa cd c1 c2 c3 c4)) Q (fun _ _ => False) s := by
  k_fill
  w_top off
  intro w p loose mean mg mb h₀ L fa cd s Q u lc ls lr ln c1 c2 c3 c4 x d b o1 o2 o3 o4 head sz N k th tz tN t1 t2 t3 u1 u3 g1 g2 g3 vs nb q1 q2 rest tl lb nB bs n tn B F X N₁ T e1 e2 e3 z1 z2 z3 z4 z5 z6 z7 za zb zc zd ze zf zg zh zi zj zk zl zm zn zo zp zq zr zs p1 p2 p3 p4 hi y4 y5 y6 hb v0 v1 v2 hC
  have hsz0 : ((Int.toNat (sz - 0) : Nat) : Int) = sz := by rw [Int.sub_zero]; exact Int.toNat_of_nonneg (by omega)
  have hk0 : ((Int.toNat ((k : Int) - 0) : Nat) : Int) = k := by rw [Int.sub_zero]; exact Int.toNat_of_nonneg (by omega)
  have hvs : vs.toArray.size ≤ sizeLine := by rw [List.size_toArray, hi.length, octs_length, PySem.sizeLine_eq]; omega
  unfold end6 endBody lawEnv lawScope lawBody lawDef PySem.Challenge.pw_aw0020_01
  dsimp only [List.take, List.drop, List.cons_append, List.nil_append]
  have hnz : ((Int.toNat (n - 0) : Nat) : Int) = n := by rw [Int.sub_zero]; exact Int.toNat_of_nonneg v1
  iterate 39 (walk_at "mine.step")
  k_dflt (refine LCg.ListComp_U (F₀ := by k_asm) (by with_unfolding_all rfl) (by decide) (by rfl) (by decide) (by rfl) ?_)
  iterate 7 (walk_at "mine.step")
  iterate 1 (walk_at "mine.step")
  iterate 5 (walk_at "mine.step")
  k_dflt (refine wpAny_call ?_)
  k_dflt (refine' item_U ?giF ?giX ?giN ?giT ?giR ?gix ?gid ?gib ?gii ?gi0 ?gi1 ?gi2 ?gi4 ?_)
  case giF => k_asm
  case giX => k_asm
  case giN => k_asm
  case giT => k_asm
  case giR => k_room
  case gix => k_mem
  case gid => k_mem
  case gib => k_mem
  case gii => assumption
  case gi0 => omega
  case gi1 => omega
  case gi2 => assumption
  case gi4 => assumption
  intro h9 tk9 t9 F9 N9
  (try dsimp only)
  iterate 4 (walk_at "mine.step")
  k_dflt (refine mul_int ?_ (bit_mul_ok _ _ _))
  k_steps
  · exfalso
    rename Builtin.bitAnd _ _ ≠ _ => hn
    exact hn (low_law v1)
  rename Fr h₀ L _ _ => F9
  rename News h₀ L _ _ => N9
  exact hC _ _ F9 (kst_newsOf N9 (by kst_allIn))

end PS6
section PS7
theorem seg7 : ∀ {w : World} {p : Program} {loose : List Str} {mean : ExcName → Option Value} {mg mb : Str → Option Value} {h₀ : Heap} {L fa : Addr} {cd : Value} {s : Shared} {Q : Flow → Shared → Prop} {u : Str → Option Value}
   {lc ls lr ln c1 c2 c3 c4 x d b : Nat} {o1 o2 o3 o4 : Obj} {head sz N : Int} {k : Nat} {th tz tN t1 t2 t3 u1 u3 : Tok} {g1 g2 g3 : Int} {vs : List Value} {nb : Nat} {q1 q2 : Array Value} {rest : List (Addr × Obj)} {tl : List Stmt} {lb nB : Nat} {bs : List Value} {n : Int} {tn : Tok},
   Below callerA h₀ [] h₀ →
   Fr h₀ L s.heap (endMap lc ls lr ln lb head th u) →
   (hd.heap_1 w.params).In h₀ →
   News h₀ L s.heap ((c4, o4) :: (c3, o3) :: (c2, o2) :: (c1, o1) :: (lb, W.listOf bs.toArray nB) :: (d, rowD t1 t2 t3 u1 u3 g1 g2 g3 k sz b) :: (x, instObj 126 d) :: (b, W.listOf vs.toArray nb) :: (111, tblOf q1) :: (118, tblOf q2) :: rest) →
   Top p loose mean mg mb h₀ →
   o1.data = .cell (some (.int sz tz)) →
   o2.data = .cell (some (.int N tN)) →
   o3.data = .cell (some (.ref x)) →
   c1 ≠ c4 →
   c2 ≠ c4 →
   c3 ≠ c4 →
   d ≠ c4 →
   x ≠ c4 →
   b ≠ c4 →
   (∀ q ∈ rest, q.1 ≠ c4) →
   (∀ q ∈ rest, q.1 ≠ 111) →
   (∀ q ∈ rest, q.1 ≠ 118) →
   TriplesOk q1.toList →
   TriplesOk q2.toList →
   AllBare s.gens →
   x ≠ 111 →
   d ≠ 111 →
   b ≠ 111 →
   x ≠ 118 →
   d ≠ 118 →
   b ≠ 118 →
   c1 ≠ 111 →
   c2 ≠ 111 →
   c3 ≠ 111 →
   c4 ≠ 111 →
   c1 ≠ 118 →
   c2 ≠ 118 →
   c3 ≠ 118 →
   c4 ≠ 118 →
   1 ≤ sz →
   sz ≤ 40 →
   8 * (k : Int) < sz + 8 →
   sz ≤ 8 * k →
   IntsAre vs (octs k N) →
   lb ≠ c4 →
   lb ≠ 111 →
   lb ≠ 118 →
   IntsAre bs (bits sz.toNat N) →
   o4.data = .cell (some (.int n tn)) →
   0 ≤ n →
   n ≤ sz →
   (∀ h' tk, Fr h₀ L h' (endMap lc ls lr ln lb head th u) → News h₀ L h' ((c4, o4) :: (c3, o3) :: (c2, o2) :: (c1, o1) :: (lb, W.listOf bs.toArray nB) :: (d, rowD t1 t2 t3 u1 u3 g1 g2 g3 k sz b) :: (x, instObj 126 d) :: (b, W.listOf vs.toArray nb) :: (111, tblOf q1) :: (118, tblOf q2) :: rest) → wpAny (model PySem.Challenge.rw_aw0020_01.row.prog w) (callerA.deeper (lawEnv L fa cd c1 c2 c3 c4)) (execs tl (lawEnv L fa cd c1 c2 c3 c4)) Q (fun _ _ => False) { s with heap := h', toks := tk }) →
   wpAny (model PySem.Challenge.rw_aw0020_01.row.prog w) (callerA.deeper (lawEnv L fa cd c1 c2 c3 c4)) (execs (end7.take 1 ++ tl) (lawEnv L fa cd c1 c2 c3 c4)) Q (fun _ _ => False) s := by
  k_fill
  w_top off
  intro w p loose mean mg mb h₀ L fa cd s Q u lc ls lr ln c1 c2 c3 c4 x d b o1 o2 o3 o4 head sz N k th tz tN t1 t2 t3 u1 u3 g1 g2 g3 vs nb q1 q2 rest tl lb nB bs n tn B F X N₁ T e1 e2 e3 z1 z2 z3 z4 z5 z6 z7 za zb zc zd ze zf zg zh zi zj zk zl zm zn zo zp zq zr zs p1 p2 p3 p4 hi y4 y5 y6 hb v0 v1 v2 hC
  have hsz0 : ((Int.toNat (sz - 0) : Nat) : Int) = sz := by rw [Int.sub_zero]; exact Int.toNat_of_nonneg (by omega)
  have hk0 : ((Int.toNat ((k : Int) - 0) : Nat) : Int) = k := by rw [Int.sub_zero]; exact Int.toNat_of_nonneg (by omega)
  have hvs : vs.toArray.size ≤ sizeLine := by rw [List.size_toArray, hi.length, octs_length, PySem.sizeLine_eq]; omega
  unfold end7 endBody lawEnv lawScope lawBody lawDef PySem.Challenge.pw_aw0020_01
  dsimp only [List.take, List.drop, List.cons_append, List.nil_append]
  have hnz : ((Int.toNat (n - 0) : Nat) : Int) = n := by rw [Int.sub_zero]; exact Int.toNat_of_nonneg v1
  iterate 48 (walk_at "mine.step")
  k_dflt (refine LCg.ListComp_U (F₀ := by k_asm) (by with_unfolding_all rfl) (by decide) (by rfl) (by decide) (by rfl) ?_)
  iterate 7 (walk_at "mine.step")
  iterate 1 (walk_at "mine.step")
  iterate 11 (walk_at "mine.step")
  k_dflt (refine wpAny_call ?_)
  k_dflt (refine' item_U ?giF ?giX ?giN ?giT ?giR ?gix ?gid ?gib ?gii ?gi0 ?gi1 ?gi2 ?gi4 ?_)
  case giF => k_asm
  case giX => k_asm
  case giN => k_asm
  case giT => k_asm
  case giR => k_room
  case gix => k_mem
  case gid => k_mem
  case gib => k_mem
  case gii => assumption
  case gi0 => omega
  case gi1 => omega
  case gi2 => assumption
  case gi4 => assumption
  intro h9 tk9 t9 F9 N9
  (try dsimp only)
  iterate 4 (walk_at "mine.step")
  k_dflt (refine mul_int ?_ (bit_mul_ok _ _ _))
  k_steps
  · exfalso
    rename Builtin.bitAnd _ _ ≠ _ => hn
    exact hn (high_law v1 v2)
  rename Fr h₀ L _ _ => F9
  rename News h₀ L _ _ => N9
  exact hC _ _ F9 (kst_newsOf N9 (by kst_allIn))

end PS7
section PET
theorem end_turn : ∀ {w : World} {p : Program} {loose : List Str} {mean : ExcName → Option Value} {mg mb : Str → Option Value} {h₀ : Heap} {L fa : Addr} {cd : Value} {s : Shared} {Q : Flow → Shared → Prop} {u : Str → Option Value}
   {lc ls lr ln c1 c2 c3 c4 x d b : Nat} {o1 o2 o3 o4 : Obj} {w4 : Option Value} {head sz N : Int} {k : Nat} {th tz tN t1 t2 t3 u1 u3 : Tok} {g1 g2 g3 : Int} {vs : List Value} {nb : Nat} {q1 q2 : Array Value} {rest : List (Addr × Obj)},
   Below callerA h₀ [] h₀ →
   Fr h₀ L s.heap (lawMap lc ls lr ln head th u) →
   (hd.heap_1 w.params).In h₀ →
   News h₀ L s.heap ((c4, o4) :: (c3, o3) :: (c2, o2) :: (c1, o1) :: (d, rowD t1 t2 t3 u1 u3 g1 g2 g3 k sz b) :: (x, instObj 126 d) :: (b, W.listOf vs.toArray nb) :: (111, tblOf q1) :: (118, tblOf q2) :: rest) →
   Top p loose mean mg mb h₀ →
   o1.data = .cell (some (.int sz tz)) →
   o2.data = .cell (some (.int N tN)) →
   o3.data = .cell (some (.ref x)) →
   o4.data = .cell w4 →
   c1 ≠ c4 →
   c2 ≠ c4 →
   c3 ≠ c4 →
   d ≠ c4 →
   x ≠ c4 →
   b ≠ c4 →
   (∀ q ∈ rest, q.1 ≠ c4) →
   (∀ q ∈ rest, q.1 ≠ 111) →
   (∀ q ∈ rest, q.1 ≠ 118) →
   TriplesOk q1.toList →
   TriplesOk q2.toList →
   AllBare s.gens →
   x ≠ 111 →
   d ≠ 111 →
   b ≠ 111 →
   x ≠ 118 →
   d ≠ 118 →
   b ≠ 118 →
   c1 ≠ 111 →
   c2 ≠ 111 →
   c3 ≠ 111 →
   c4 ≠ 111 →
   c1 ≠ 118 →
   c2 ≠ 118 →
   c3 ≠ 118 →
   c4 ≠ 118 →
   1 ≤ sz →
   sz ≤ 40 →
   8 * (k : Int) < sz + 8 →
   sz ≤ 8 * k →
   IntsAre vs (octs k N) →
   (∀ s' u' o4' w4' q1' q2', s'.os = s.os → AllBare s'.gens → TriplesOk q1'.toList → TriplesOk q2'.toList → o4'.data = .cell w4' → Fr h₀ L s'.heap (lawMap lc ls lr ln head th u') → News h₀ L s'.heap ((c4, o4') :: (c3, o3) :: (c2, o2) :: (c1, o1) :: (d, rowD t1 t2 t3 u1 u3 g1 g2 g3 k sz b) :: (x, instObj 126 d) :: (b, W.listOf vs.toArray nb) :: (111, tblOf q1') :: (118, tblOf q2') :: rest) → Q .next s') →
   wpAny (model PySem.Challenge.rw_aw0020_01.row.prog w) (callerA.deeper (lawEnv L fa cd c1 c2 c3 c4)) (execs endBody (lawEnv L fa cd c1 c2 c3 c4)) Q (fun _ _ => False) s := by
  intro w p loose mean mg mb h₀ L fa cd s Q u lc ls lr ln c1 c2 c3 c4 x d b o1 o2 o3 o4 w4 head sz N k th tz tN t1 t2 t3 u1 u3 g1 g2 g3 vs nb q1 q2 rest B F X N₁ T e1 e2 e3 e4 z1 z2 z3 z4 z5 z6 z7 za zb zc zd ze zf zg zh zi zj zk zl zm zn zo zp zq zr zs p1 p2 p3 p4 hi hC
  rw [end_split]
  refine seg0 B F X N₁ T e1 e2 e3 e4 z1 z2 z3 z4 z5 z6 z7 za zb zc zd ze zf zg zh zi zj zk zl zm zn zo zp zq zr zs p1 p2 p3 p4 hi fun h1 tk1 v1' lb nB bs y4 y5 y6 hb F1 N1 => ?_
  rw [end_split1]
  refine seg1 B F1 X N1 T e1 e2 e3 e4 z1 z2 z3 z4 z5 z6 z7 za zb zc zd ze zf zg zh zi zj zk zl zm zn zo zp zq zr zs p1 p2 p3 p4 hi y4 y5 y6 hb fun h2 tk2 F2 N2 => ?_
  rw [end_split2]
  refine seg2 B F2 X N2 T e1 e2 e3 e4 z1 z2 z3 z4 z5 z6 z7 za zb zc zd ze zf zg zh zi zj zk zl zm zn zo zp zq zr zs p1 p2 p3 p4 hi y4 y5 y6 hb fun h3 tk3 F3 N3 => ?_
  rw [end_split3]
  refine seg3 B F3 X N3 T e1 e2 e3 e4 z1 z2 z3 z4 z5 z6 z7 za zb zc zd ze zf zg zh zi zj zk zl zm zn zo zp zq zr zs p1 p2 p3 p4 hi y4 y5 y6 hb fun s4 r1 r2 os4 G4 tr1 tr2 F4 N4 => ?_
  rw [end_split4]
  refine seg4 B F4 X N4 T e1 e2 e3 e4 z1 z2 z3 z4 z5 z6 z7 za zb tr1 tr2 G4 zf zg zh zi zj zk zl zm zn zo zp zq zr zs p1 p2 p3 p4 hi y4 y5 y6 hb fun h5 tk5 F5 N5 => ?_
  rw [end_split5]
  refine seg5 B F5 X N5 T e1 e2 e3 e4 z1 z2 z3 z4 z5 z6 z7 za zb tr1 tr2 G4 zf zg zh zi zj zk zl zm zn zo zp zq zr zs p1 p2 p3 p4 hi y4 y5 y6 hb fun h6 tk6 o4' n tn v0 v1 v2 F6 N6 => ?_
  rw [end_split6]
  refine seg6 B F6 X N6 T e1 e2 e3 z1 z2 z3 z4 z5 z6 z7 za zb tr1 tr2 G4 zf zg zh zi zj zk zl zm zn zo zp zq zr zs p1 p2 p3 p4 hi y4 y5 y6 hb v0 v1 v2 fun h7 tk7 F7 N7 => ?_
  have e7 : end7 = end7.take 1 ++ [] := rfl
  rw [e7]
  refine seg7 B F7 X N7 T e1 e2 e3 z1 z2 z3 z4 z5 z6 z7 za zb tr1 tr2 G4 zf zg zh zi zj zk zl zm zn zo zp zq zr zs p1 p2 p3 p4 hi y4 y5 y6 hb v0 v1 v2 fun h8 tk8 F8 N8 => wpAny_execs_nil ?_
  refine hC _ _ o4' _ r1 r2 os4 G4 tr1 tr2 v0 (fr_law F8 rfl rfl rfl rfl rfl) (kst_newsOf N8 (by kst_allIn))

end PET
section PZT
def zipTarget : Expr := match lawBody with | [_, _, _, _, _, .For t _ _ _ _, _] => t | _ => default
abbrev triObj (a b c : Value) : Obj := { cls := .type "tuple", data := .seq #[a, b, c] }
/-- the targets of the second loop take a row, its size and its number -/
theorem zip_assign : ∀ {w : World} {p : Program} {loose : List Str} {mean : ExcName → Option Value} {mg mb : Str → Option Value} {h₀ : Heap} {L fa : Addr} {cd : Value} {s : Shared} {Q : Unit → Shared → Prop} {m : Str → Option Value}
   {c1 c2 c3 c4 x T : Nat} {o1 o2 o3 o4 : Obj} {w1 w2 w3 : Option Value} {sz N : Int} {tz tN : Tok} {rest : List (Addr × Obj)},
   Below callerA h₀ [] h₀ → Fr h₀ L s.heap m → (hd.heap_1 w.params).In h₀ →
   News h₀ L s.heap ((c4, o4) :: (c3, o3) :: (c2, o2) :: (c1, o1) :: (T, triObj (.ref x) (.int sz tz) (.int N tN)) :: rest) →
   Top p loose mean mg mb h₀ → o1.data = .cell w1 → o2.data = .cell w2 → o3.data = .cell w3 →
   c1 ≠ c2 → c1 ≠ c3 → c1 ≠ c4 → c2 ≠ c3 → c2 ≠ c4 → c3 ≠ c4 → T ≠ c1 → T ≠ c2 → T ≠ c3 → (∀ q ∈ rest, q.1 ≠ c1) → (∀ q ∈ rest, q.1 ≠ c2) → (∀ q ∈ rest, q.1 ≠ c3) →
   (∀ h' tk o1' o2' o3', o1'.data = .cell (some (.int sz tz)) → o2'.data = .cell (some (.int N tN)) → o3'.data = .cell (some (.ref x)) → Fr h₀ L h' m →
     News h₀ L h' ((c4, o4) :: (c3, o3') :: (c2, o2') :: (c1, o1') :: (T, triObj (.ref x) (.int sz tz) (.int N tN)) :: rest) → Q () { s with heap := h', toks := tk }) →
   wpAny (model PySem.Challenge.rw_aw0020_01.row.prog w) (callerA.deeper (lawEnv L fa cd c1 c2 c3 c4)) (assign zipTarget (lawEnv L fa cd c1 c2 c3 c4) (.ref T)) Q (fun _ _ => False) s := by
  k_fill
  w_top off
  intro w p loose mean mg mb h₀ L fa cd s Q m c1 c2 c3 c4 x T o1 o2 o3 o4 w1 w2 w3 sz N tz tN rest B F X N₁ Tp e1 e2 e3 y1 y2 y3 y4 y5 y6 z1 z2 z3 r1 r2 r3 hC
  unfold zipTarget lawEnv lawScope lawBody lawDef PySem.Challenge.pw_aw0020_01
  dsimp only
  k_steps
  rename Obj.data _ = Data.cell (some (Value.ref x)) => dr
  rename Obj.data _ = Data.cell (some (Value.int sz tz)) => ds
  rename Obj.data _ = Data.cell (some (Value.int N tN)) => dn
  rename Fr h₀ L _ _ => F9
  rename News h₀ L _ _ => N9
  exact hC _ _ _ _ _ ds dn dr F9 (kst_newsOf N9 (by kst_allIn))

end PZT
section PZU
def isCell (o : Obj) : Bool := match o.data with | .cell _ => true | _ => false
def isTbl (o : Obj) : Bool := match o.data with | .fields _ => (match o.cls with | .none => true | _ => false) | _ => false
theorem isCell_of {o : Obj} {w : Option Value} (h : o.data = .cell w) : isCell o = true := by unfold isCell; rw [h]
theorem notTbl_of {o : Obj} {w : Option Value} (h : o.data = .cell w) : isTbl o = false := by unfold isTbl; rw [h]
theorem ne_of_kind (P : Obj → Bool) {h₀ h : Heap} {L : Addr} {news : List (Addr × Obj)} {a b : Nat} {o o' : Obj} (N : News h₀ L h news) (ha : (a, o) ∈ news) (hb : (b, o') ∈ news) (h1 : P o = true) (h2 : P o' = false) : b ≠ a := by
  intro e
  subst e
  have q1 := (N _ ha).1
  have q2 := (N _ hb).1
  dsimp only at q1 q2
  rw [q1] at q2
  cases q2
  rw [h1] at h2
  cases h2
theorem zip_turn : ∀ {w : World} {p : Program} {loose : List Str} {mean : ExcName → Option Value} {mg mb : Str → Option Value} {h₀ : Heap} {L fa : Addr} {cd : Value} {s : Shared} {Q : Flow → Shared → Prop} {u : Str → Option Value}
   {lc ls lr ln c1 c2 c3 c4 x d b T : Nat} {o1 o2 o3 o4 : Obj} {w1 w2 w3 w4 : Option Value} {head sz N : Int} {k : Nat} {th tz tN t1 t2 t3 u1 u3 : Tok} {g1 g2 g3 : Int} {vs : List Value} {nb : Nat} {q1 q2 : Array Value} {rest : List (Addr × Obj)},
   Below callerA h₀ [] h₀ →
   Fr h₀ L s.heap (lawMap lc ls lr ln head th u) →
   (hd.heap_1 w.params).In h₀ →
   News h₀ L s.heap ((c4, o4) :: (c3, o3) :: (c2, o2) :: (c1, o1) :: (T, triObj (.ref x) (.int sz tz) (.int N tN)) :: (d, rowD t1 t2 t3 u1 u3 g1 g2 g3 k sz b) :: (x, instObj 126 d) :: (b, W.listOf vs.toArray nb) :: (111, tblOf q1) :: (118, tblOf q2) :: rest) →
   Top p loose mean mg mb h₀ →
   o1.data = .cell w1 →
   o2.data = .cell w2 →
   o3.data = .cell w3 →
   o4.data = .cell w4 →
   c1 < c2 →
   c2 < c3 →
   c3 < c4 →
   TriplesOk q1.toList →
   TriplesOk q2.toList →
   AllBare s.gens →
   (∀ q ∈ rest, isCell q.2 = false) →
   (∀ q ∈ rest, isTbl q.2 = false) →
   1 ≤ sz →
   sz ≤ 40 →
   8 * (k : Int) < sz + 8 →
   sz ≤ 8 * k →
   IntsAre vs (octs k N) →
   (∀ s' u' o1' o2' o3' o4' w1' w2' w3' w4' q1' q2', s'.os = s.os → AllBare s'.gens → o1'.data = .cell w1' → o2'.data = .cell w2' → o3'.data = .cell w3' → o4'.data = .cell w4' → TriplesOk q1'.toList → TriplesOk q2'.toList → Fr h₀ L s'.heap (lawMap lc ls lr ln head th u') → News h₀ L s'.heap ((c4, o4') :: (c3, o3') :: (c2, o2') :: (c1, o1') :: (T, triObj (.ref x) (.int sz tz) (.int N tN)) :: (d, rowD t1 t2 t3 u1 u3 g1 g2 g3 k sz b) :: (x, instObj 126 d) :: (b, W.listOf vs.toArray nb) :: (111, tblOf q1') :: (118, tblOf q2') :: rest) → Q .next s') →
   wpAny (model PySem.Challenge.rw_aw0020_01.row.prog w) (callerA.deeper (lawEnv L fa cd c1 c2 c3 c4)) (assign zipTarget (lawEnv L fa cd c1 c2 c3 c4) (.ref T)) (fun _ s₃ => wpAny (model PySem.Challenge.rw_aw0020_01.row.prog w) (callerA.deeper (lawEnv L fa cd c1 c2 c3 c4)) (execs endBody (lawEnv L fa cd c1 c2 c3 c4)) Q (fun _ _ => False) s₃) (fun _ _ => False) s := by
  intro w p loose mean mg mb h₀ L fa cd s Q u lc ls lr ln c1 c2 c3 c4 x d b T o1 o2 o3 o4 w1 w2 w3 w4 head sz N k th tz tN t1 t2 t3 u1 u3 g1 g2 g3 vs nb q1 q2 rest B F X N₁ Tp e1 e2 e3 e4 l1 l2 l3 f1 f2 f3 hcl htb p1 p2 p3 p4 hi hC
  have mc4 : (c4, o4) ∈ (c4, o4) :: (c3, o3) :: (c2, o2) :: (c1, o1) :: (T, triObj (.ref x) (.int sz tz) (.int N tN)) :: (d, rowD t1 t2 t3 u1 u3 g1 g2 g3 k sz b) :: (x, instObj 126 d) :: (b, W.listOf vs.toArray nb) :: (111, tblOf q1) :: (118, tblOf q2) :: rest := List.mem_cons_self ..
  have mc3 : (c3, o3) ∈ (c4, o4) :: (c3, o3) :: (c2, o2) :: (c1, o1) :: (T, triObj (.ref x) (.int sz tz) (.int N tN)) :: (d, rowD t1 t2 t3 u1 u3 g1 g2 g3 k sz b) :: (x, instObj 126 d) :: (b, W.listOf vs.toArray nb) :: (111, tblOf q1) :: (118, tblOf q2) :: rest := List.mem_cons_of_mem _ (List.mem_cons_self ..)
  have mc2 : (c2, o2) ∈ (c4, o4) :: (c3, o3) :: (c2, o2) :: (c1, o1) :: (T, triObj (.ref x) (.int sz tz) (.int N tN)) :: (d, rowD t1 t2 t3 u1 u3 g1 g2 g3 k sz b) :: (x, instObj 126 d) :: (b, W.listOf vs.toArray nb) :: (111, tblOf q1) :: (118, tblOf q2) :: rest := List.mem_cons_of_mem _ (List.mem_cons_of_mem _ (List.mem_cons_self ..))
  have mc1 : (c1, o1) ∈ (c4, o4) :: (c3, o3) :: (c2, o2) :: (c1, o1) :: (T, triObj (.ref x) (.int sz tz) (.int N tN)) :: (d, rowD t1 t2 t3 u1 u3 g1 g2 g3 k sz b) :: (x, instObj 126 d) :: (b, W.listOf vs.toArray nb) :: (111, tblOf q1) :: (118, tblOf q2) :: rest := List.mem_cons_of_mem _ (List.mem_cons_of_mem _ (List.mem_cons_of_mem _ (List.mem_cons_self ..)))
  have mT : (T, triObj (.ref x) (.int sz tz) (.int N tN)) ∈ (c4, o4) :: (c3, o3) :: (c2, o2) :: (c1, o1) :: (T, triObj (.ref x) (.int sz tz) (.int N tN)) :: (d, rowD t1 t2 t3 u1 u3 g1 g2 g3 k sz b) :: (x, instObj 126 d) :: (b, W.listOf vs.toArray nb) :: (111, tblOf q1) :: (118, tblOf q2) :: rest := List.mem_cons_of_mem _ (List.mem_cons_of_mem _ (List.mem_cons_of_mem _ (List.mem_cons_of_mem _ (List.mem_cons_self ..))))
  have md : (d, rowD t1 t2 t3 u1 u3 g1 g2 g3 k sz b) ∈ (c4, o4) :: (c3, o3) :: (c2, o2) :: (c1, o1) :: (T, triObj (.ref x) (.int sz tz) (.int N tN)) :: (d, rowD t1 t2 t3 u1 u3 g1 g2 g3 k sz b) :: (x, instObj 126 d) :: (b, W.listOf vs.toArray nb) :: (111, tblOf q1) :: (118, tblOf q2) :: rest := List.mem_cons_of_mem _ (List.mem_cons_of_mem _ (List.mem_cons_of_mem _ (List.mem_cons_of_mem _ (List.mem_cons_of_mem _ (List.mem_cons_self ..)))))
  have mx : (x, instObj 126 d) ∈ (c4, o4) :: (c3, o3) :: (c2, o2) :: (c1, o1) :: (T, triObj (.ref x) (.int sz tz) (.int N tN)) :: (d, rowD t1 t2 t3 u1 u3 g1 g2 g3 k sz b) :: (x, instObj 126 d) :: (b, W.listOf vs.toArray nb) :: (111, tblOf q1) :: (118, tblOf q2) :: rest := List.mem_cons_of_mem _ (List.mem_cons_of_mem _ (List.mem_cons_of_mem _ (List.mem_cons_of_mem _ (List.mem_cons_of_mem _ (List.mem_cons_of_mem _ (List.mem_cons_self ..))))))
  have mb : (b, W.listOf vs.toArray nb) ∈ (c4, o4) :: (c3, o3) :: (c2, o2) :: (c1, o1) :: (T, triObj (.ref x) (.int sz tz) (.int N tN)) :: (d, rowD t1 t2 t3 u1 u3 g1 g2 g3 k sz b) :: (x, instObj 126 d) :: (b, W.listOf vs.toArray nb) :: (111, tblOf q1) :: (118, tblOf q2) :: rest := List.mem_cons_of_mem _ (List.mem_cons_of_mem _ (List.mem_cons_of_mem _ (List.mem_cons_of_mem _ (List.mem_cons_of_mem _ (List.mem_cons_of_mem _ (List.mem_cons_of_mem _ (List.mem_cons_self ..)))))))
  have m111 : ((111 : Nat), tblOf q1) ∈ (c4, o4) :: (c3, o3) :: (c2, o2) :: (c1, o1) :: (T, triObj (.ref x) (.int sz tz) (.int N tN)) :: (d, rowD t1 t2 t3 u1 u3 g1 g2 g3 k sz b) :: (x, instObj 126 d) :: (b, W.listOf vs.toArray nb) :: (111, tblOf q1) :: (118, tblOf q2) :: rest := List.mem_cons_of_mem _ (List.mem_cons_of_mem _ (List.mem_cons_of_mem _ (List.mem_cons_of_mem _ (List.mem_cons_of_mem _ (List.mem_cons_of_mem _ (List.mem_cons_of_mem _ (List.mem_cons_of_mem _ (List.mem_cons_self ..))))))))
  have m118 : ((118 : Nat), tblOf q2) ∈ (c4, o4) :: (c3, o3) :: (c2, o2) :: (c1, o1) :: (T, triObj (.ref x) (.int sz tz) (.int N tN)) :: (d, rowD t1 t2 t3 u1 u3 g1 g2 g3 k sz b) :: (x, instObj 126 d) :: (b, W.listOf vs.toArray nb) :: (111, tblOf q1) :: (118, tblOf q2) :: rest := List.mem_cons_of_mem _ (List.mem_cons_of_mem _ (List.mem_cons_of_mem _ (List.mem_cons_of_mem _ (List.mem_cons_of_mem _ (List.mem_cons_of_mem _ (List.mem_cons_of_mem _ (List.mem_cons_of_mem _ (List.mem_cons_of_mem _ (List.mem_cons_self ..)))))))))
  have mr : ∀ q ∈ rest, q ∈ (c4, o4) :: (c3, o3) :: (c2, o2) :: (c1, o1) :: (T, triObj (.ref x) (.int sz tz) (.int N tN)) :: (d, rowD t1 t2 t3 u1 u3 g1 g2 g3 k sz b) :: (x, instObj 126 d) :: (b, W.listOf vs.toArray nb) :: (111, tblOf q1) :: (118, tblOf q2) :: rest := fun q hq => List.mem_cons_of_mem _ (List.mem_cons_of_mem _ (List.mem_cons_of_mem _ (List.mem_cons_of_mem _ (List.mem_cons_of_mem _ (List.mem_cons_of_mem _ (List.mem_cons_of_mem _ (List.mem_cons_of_mem _ (List.mem_cons_of_mem _ (List.mem_cons_of_mem _ (hq))))))))))
  refine zip_assign B F X N₁ Tp e1 e2 e3 (Nat.ne_of_lt l1) (Nat.ne_of_lt (Nat.lt_trans l1 l2)) (Nat.ne_of_lt (Nat.lt_trans l1 (Nat.lt_trans l2 l3))) (Nat.ne_of_lt l2) (Nat.ne_of_lt (Nat.lt_trans l2 l3)) (Nat.ne_of_lt l3) (ne_of_kind isCell N₁ mc1 mT (isCell_of e1) rfl) (ne_of_kind isCell N₁ mc2 mT (isCell_of e2) rfl) (ne_of_kind isCell N₁ mc3 mT (isCell_of e3) rfl)
    (fun q hq => by
    simp only [List.mem_cons] at hq
    rcases hq with rfl | rfl | rfl | rfl | rfl | hq
    · exact (ne_of_kind isCell N₁ mc1 md (isCell_of e1) rfl)
    · exact (ne_of_kind isCell N₁ mc1 mx (isCell_of e1) rfl)
    · exact (ne_of_kind isCell N₁ mc1 mb (isCell_of e1) rfl)
    · exact (ne_of_kind isCell N₁ mc1 m111 (isCell_of e1) rfl)
    · exact (ne_of_kind isCell N₁ mc1 m118 (isCell_of e1) rfl)
    · exact (fun q hq => ne_of_kind isCell N₁ mc1 (mr q hq) (isCell_of e1) (hcl q hq)) q hq)
    (fun q hq => by
    simp only [List.mem_cons] at hq
    rcases hq with rfl | rfl | rfl | rfl | rfl | hq
    · exact (ne_of_kind isCell N₁ mc2 md (isCell_of e2) rfl)
    · exact (ne_of_kind isCell N₁ mc2 mx (isCell_of e2) rfl)
    · exact (ne_of_kind isCell N₁ mc2 mb (isCell_of e2) rfl)
    · exact (ne_of_kind isCell N₁ mc2 m111 (isCell_of e2) rfl)
    · exact (ne_of_kind isCell N₁ mc2 m118 (isCell_of e2) rfl)
    · exact (fun q hq => ne_of_kind isCell N₁ mc2 (mr q hq) (isCell_of e2) (hcl q hq)) q hq)
    (fun q hq => by
    simp only [List.mem_cons] at hq
    rcases hq with rfl | rfl | rfl | rfl | rfl | hq
    · exact (ne_of_kind isCell N₁ mc3 md (isCell_of e3) rfl)
    · exact (ne_of_kind isCell N₁ mc3 mx (isCell_of e3) rfl)
    · exact (ne_of_kind isCell N₁ mc3 mb (isCell_of e3) rfl)
    · exact (ne_of_kind isCell N₁ mc3 m111 (isCell_of e3) rfl)
    · exact (ne_of_kind isCell N₁ mc3 m118 (isCell_of e3) rfl)
    · exact (fun q hq => ne_of_kind isCell N₁ mc3 (mr q hq) (isCell_of e3) (hcl q hq)) q hq)
    fun h3 tk3 p1' p2' p3' g1' g2' g3' F3 N3 => ?_
  refine end_turn (rest := (T, triObj (.ref x) (.int sz tz) (.int N tN)) :: rest) B F3 X (kst_newsOf N3 (by kst_allIn)) Tp g1' g2' g3' e4
    (Nat.ne_of_lt (Nat.lt_trans l1 (Nat.lt_trans l2 l3))) (Nat.ne_of_lt (Nat.lt_trans l2 l3)) (Nat.ne_of_lt l3) (ne_of_kind isCell N₁ mc4 md (isCell_of e4) rfl) (ne_of_kind isCell N₁ mc4 mx (isCell_of e4) rfl) (ne_of_kind isCell N₁ mc4 mb (isCell_of e4) rfl)
    (fun q hq => (List.mem_cons.mp hq).elim (fun e => e ▸ (ne_of_kind isCell N₁ mc4 mT (isCell_of e4) rfl)) ((fun q hq => ne_of_kind isCell N₁ mc4 (mr q hq) (isCell_of e4) (hcl q hq)) q))
    (fun q hq => (List.mem_cons.mp hq).elim (fun e => e ▸ (ne_of_kind isTbl N₁ m111 mT rfl rfl)) ((fun q hq => ne_of_kind isTbl N₁ m111 (mr q hq) rfl (htb q hq)) q))
    (fun q hq => (List.mem_cons.mp hq).elim (fun e => e ▸ (ne_of_kind isTbl N₁ m118 mT rfl rfl)) ((fun q hq => ne_of_kind isTbl N₁ m118 (mr q hq) rfl (htb q hq)) q))
    f1 f2 f3 (ne_of_kind isTbl N₁ m111 mx rfl rfl) (ne_of_kind isTbl N₁ m111 md rfl rfl) (ne_of_kind isTbl N₁ m111 mb rfl rfl) (ne_of_kind isTbl N₁ m118 mx rfl rfl) (ne_of_kind isTbl N₁ m118 md rfl rfl) (ne_of_kind isTbl N₁ m118 mb rfl rfl) (ne_of_kind isTbl N₁ m111 mc1 rfl (notTbl_of e1)) (ne_of_kind isTbl N₁ m111 mc2 rfl (notTbl_of e2)) (ne_of_kind isTbl N₁ m111 mc3 rfl (notTbl_of e3)) (ne_of_kind isTbl N₁ m111 mc4 rfl (notTbl_of e4)) (ne_of_kind isTbl N₁ m118 mc1 rfl (notTbl_of e1)) (ne_of_kind isTbl N₁ m118 mc2 rfl (notTbl_of e2)) (ne_of_kind isTbl N₁ m118 mc3 rfl (notTbl_of e3)) (ne_of_kind isTbl N₁ m118 mc4 rfl (notTbl_of e4))
    p1 p2 p3 p4 hi ?_
  intro s' u' o4' w4' q1' q2' hos hG t1' t2' d4 F5 N5
  exact hC s' u' _ _ _ o4' _ _ _ w4' q1' q2' hos hG g1' g2' g3' d4 t1' t2' F5 (kst_newsOf N5 (by kst_allIn))

end PZU
section PZ3
abbrev IsTri (h : Heap) (T : Addr) (a b c : Value) : Prop := h.get? T = some { cls := .type "tuple", data := .seq #[a, b, c] }
theorem typeCall_zip3 (a b c : Value) : checkTypeCall "zip" ⟨[a, b, c], []⟩ = pure () := by kernel_rfl
theorem newCall_zip3 (a b c : Value) : checkBuiltinCall "zip.__new__" ⟨[.type "zip", a, b, c], []⟩ = pure () := by kernel_rfl
theorem args_object_init4 (a b c d : Value) : argsOk "object.__init__" ⟨[a, b, c, d], []⟩ := by
  unfold argsOk; rw [signature?_of (id := "object.__init__") (n := ['_', '_', 't', 'i', 'n', 'i', '_', '_']) (o := ['t', 'c', 'e', 'j', 'b', 'o']) (by kernel_rfl) F.owner_object]; kernel_rfl
theorem nAdd (n : Nat) {i j : Nat} (h : i < j) : n + i ≠ n + j := fun e => Nat.ne_of_lt h (Nat.add_left_cancel e)
theorem lAdd {l n k : Nat} (h : l < n) : l ≠ n + k := Nat.ne_of_lt (Nat.lt_of_lt_of_le h (Nat.le_add_right n k))
theorem n0Add (n j : Nat) : n ≠ n + (j + 1) := Nat.ne_of_lt (Nat.lt_add_of_pos_right (Nat.succ_pos j))
/-- a zip of three lists made at n: iterators n, n+1, n+2, its tuples n+3, n+4, itself n+5 -/
structure Zip3 (h : Heap) (n l1 l2 l3 : Nat) (k : Nat) (f0 : Value) (xs ys zs : Array Value) : Prop where
  z : IsZip h (n + 5) (n + 3) (n + 4) f0
  ti : IsTri h (n + 3) (.ref n) (.ref (n + 1)) (.ref (n + 2))
  to : ∃ a b c, IsTri h (n + 4) a b c
  i1 : h.IsListIter n l1 k
  i2 : h.IsListIter (n + 1) l2 k
  i3 : h.IsListIter (n + 2) l3 k
  a1 : h.IsList l1 xs
  a2 : h.IsList l2 ys
  a3 : h.IsList l3 zs
section
variable {prog : Program} {w : World} {A : Around} {E : Value → Shared → Prop} {s : Shared}
theorem updateTri {T : Addr} {a b c x : Value} {k : Nat} {Q : Unit → Shared → Prop} (hT : IsTri s.heap T a b c)
    (h : ∀ h', h'.get? T = some { cls := .type "tuple", data := .seq ((#[a, b, c] : Array Value).setIfInBounds k x) } → Heap.SameBut T s.heap h' → Q () { s with heap := h' }) :
    wpAny (model prog w) A (updateSeq T (·.setIfInBounds k x)) Q E s := by
  refine wpAny_updateSeq hT rfl (h _ ?_ (Heap.SameBut.update ..))
  rw [Heap.get?_update_self _ hT rfl]
  simp [Obj.mapSeq]
theorem zip3_item {n l1 l2 l3 k : Nat} {xs ys zs : Array Value} {x y v : Value} {Q : Value → Shared → Prop}
    (Z : Zip3 s.heap n l1 l2 l3 k .none xs ys zs) (b1 : l1 < n) (b2 : l2 < n) (b3 : l3 < n) (hx : xs[k]? = some x) (hy : ys[k]? = some y) (hv : zs[k]? = some v)
    (hQ : ∀ h', Zip3 h' n l1 l2 l3 (k + 1) (rawInt s.heap.objs.size) xs ys zs → IsTri h' s.heap.objs.size x y v → h'.objs.size = s.heap.objs.size + 1 →
      (∀ (c : Nat) o, c ≠ n → c ≠ n + 1 → c ≠ n + 2 → c ≠ n + 4 → c ≠ n + 5 → s.heap.get? c = some o → h'.get? c = some o) → Q (.ref s.heap.objs.size) { s with heap := h' }) :
    wpAny (model prog w) A (Builtin.«zip.__next__» ⟨[.ref (n + 5)], []⟩) (fun fin s' => ∃ v, fin = .done (.ret v) ∧ Q v s') E s := by
  obtain ⟨hz, hTI, ⟨a, b, c, hTO⟩, h1, h2, h3, hl1, hl2, hl3⟩ := Z
  show wpAny _ _ (field (.ref (n + 5)) 2 >>= _) _ _ _
  refine wpAny_bind (wpAny_field hz rfl (x := .bool false) rfl ?_)
  show wpAny _ _ (field (.ref (n + 5)) 3 >>= _) _ _ _
  refine wpAny_bind (wpAny_field hz rfl (x := .ref (n + 3)) rfl ?_)
  refine wpAny_bind (wpAny_seqItems hTI rfl ?_)
  show wpAny _ _ (Builtin.SmallTypes.ownedTupleIsFree (.ref (n + 5)) >>= _) _ _ _
  refine wpAny_bind ?_
  unfold Builtin.SmallTypes.ownedTupleIsFree
  refine wpAny_bind (wpAny_field hz rfl (x := .none) rfl (wpAny_pure ?_))
  simp only [if_true]
  refine wpAny_bind (wpAny_rule ?_)
  refine wpAny_bind (wpAny_field hz rfl (x := .ref (n + 4)) rfl ?_)
  refine wpAny_bind (wpAny_setField_rec hz (by simp) fun g₁ hz₁ hs₁ => ?_)
  replace hz₁ : IsZip g₁ (n + 5) (n + 3) (n + 4) .ellipsis := hz₁
  refine wpAny_bind ?_
  simp only [List.zipIdx_cons, List.zipIdx_nil, List.forIn_cons, List.forIn_nil]
  have ne : ∀ {p q : Nat}, p < q → @Ne Nat p q := fun e => Nat.ne_of_lt e
  have en : ∀ {p q : Nat}, q < p → @Ne Nat p q := fun e => Nat.ne_of_gt e
  -- the first
  refine wpAny_bind (wpAny_bind (wpAny_onRaise ?_))
  show wpAny _ _ (Builtin.SmallTypes.nextOf (.ref n) >>= _) _ _ _
  refine wpAny_bind (wpAny_nextOf_list_item (h1.extBut hs₁.extBut (by first | exact lAdd b1 | exact lAdd b2 | exact lAdd b3 | exact Nat.ne_of_lt b1 | exact Nat.ne_of_lt b2 | exact Nat.ne_of_lt b3 | exact n0Add n _ | exact nAdd n (by decide))) (hl1.extBut hs₁.extBut (by first | exact lAdd b1 | exact lAdd b2 | exact lAdd b3 | exact Nat.ne_of_lt b1 | exact Nat.ne_of_lt b2 | exact Nat.ne_of_lt b3 | exact n0Add n _ | exact nAdd n (by decide))) hx fun g₂ h1₂ hs₂ => wpAny_pure ?_)
  have hTO₂ : IsTri g₂ (n + 4) a b c := hs₂.extBut _ _ (Ne.symm (by first | exact lAdd b1 | exact lAdd b2 | exact lAdd b3 | exact Nat.ne_of_lt b1 | exact Nat.ne_of_lt b2 | exact Nat.ne_of_lt b3 | exact n0Add n _ | exact nAdd n (by decide))) (hs₁.extBut _ _ (by first | exact lAdd b1 | exact lAdd b2 | exact lAdd b3 | exact Nat.ne_of_lt b1 | exact Nat.ne_of_lt b2 | exact Nat.ne_of_lt b3 | exact n0Add n _ | exact nAdd n (by decide)) hTO)
  refine wpAny_bind (wpAny_seqItems hTO₂ rfl ?_)
  refine wpAny_bind (updateTri hTO₂ fun g₃ hTO₃ hs₃ => ?_)
  replace hTO₃ : IsTri g₃ (n + 4) x b c := hTO₃
  refine wpAny_bind (wpAny_letGo (wpAny_pure ?_))
  -- the second
  refine wpAny_bind (wpAny_bind (wpAny_onRaise ?_))
  show wpAny _ _ (Builtin.SmallTypes.nextOf (.ref (n + 1)) >>= _) _ _ _
  refine wpAny_bind (wpAny_nextOf_list_item (((h2.extBut hs₁.extBut (by first | exact lAdd b1 | exact lAdd b2 | exact lAdd b3 | exact Nat.ne_of_lt b1 | exact Nat.ne_of_lt b2 | exact Nat.ne_of_lt b3 | exact n0Add n _ | exact nAdd n (by decide))).extBut hs₂.extBut (Ne.symm (by first | exact lAdd b1 | exact lAdd b2 | exact lAdd b3 | exact Nat.ne_of_lt b1 | exact Nat.ne_of_lt b2 | exact Nat.ne_of_lt b3 | exact n0Add n _ | exact nAdd n (by decide)))).extBut hs₃.extBut (by first | exact lAdd b1 | exact lAdd b2 | exact lAdd b3 | exact Nat.ne_of_lt b1 | exact Nat.ne_of_lt b2 | exact Nat.ne_of_lt b3 | exact n0Add n _ | exact nAdd n (by decide)))
    (((hl2.extBut hs₁.extBut (by first | exact lAdd b1 | exact lAdd b2 | exact lAdd b3 | exact Nat.ne_of_lt b1 | exact Nat.ne_of_lt b2 | exact Nat.ne_of_lt b3 | exact n0Add n _ | exact nAdd n (by decide))).extBut hs₂.extBut (by first | exact lAdd b1 | exact lAdd b2 | exact lAdd b3 | exact Nat.ne_of_lt b1 | exact Nat.ne_of_lt b2 | exact Nat.ne_of_lt b3 | exact n0Add n _ | exact nAdd n (by decide))).extBut hs₃.extBut (by first | exact lAdd b1 | exact lAdd b2 | exact lAdd b3 | exact Nat.ne_of_lt b1 | exact Nat.ne_of_lt b2 | exact Nat.ne_of_lt b3 | exact n0Add n _ | exact nAdd n (by decide))) hy fun g₄ h2₄ hs₄ => wpAny_pure ?_)
  have hTO₄ : IsTri g₄ (n + 4) x b c := hs₄.extBut _ _ (Ne.symm (by first | exact lAdd b1 | exact lAdd b2 | exact lAdd b3 | exact Nat.ne_of_lt b1 | exact Nat.ne_of_lt b2 | exact Nat.ne_of_lt b3 | exact n0Add n _ | exact nAdd n (by decide))) hTO₃
  refine wpAny_bind (wpAny_seqItems hTO₄ rfl ?_)
  refine wpAny_bind (updateTri hTO₄ fun g₅ hTO₅ hs₅ => ?_)
  replace hTO₅ : IsTri g₅ (n + 4) x y c := hTO₅
  refine wpAny_bind (wpAny_letGo (wpAny_pure ?_))
  -- the third
  refine wpAny_bind (wpAny_bind (wpAny_onRaise ?_))
  show wpAny _ _ (Builtin.SmallTypes.nextOf (.ref (n + 2)) >>= _) _ _ _
  refine wpAny_bind (wpAny_nextOf_list_item (((((h3.extBut hs₁.extBut (by first | exact lAdd b1 | exact lAdd b2 | exact lAdd b3 | exact Nat.ne_of_lt b1 | exact Nat.ne_of_lt b2 | exact Nat.ne_of_lt b3 | exact n0Add n _ | exact nAdd n (by decide))).extBut hs₂.extBut (Ne.symm (by first | exact lAdd b1 | exact lAdd b2 | exact lAdd b3 | exact Nat.ne_of_lt b1 | exact Nat.ne_of_lt b2 | exact Nat.ne_of_lt b3 | exact n0Add n _ | exact nAdd n (by decide)))).extBut hs₃.extBut (by first | exact lAdd b1 | exact lAdd b2 | exact lAdd b3 | exact Nat.ne_of_lt b1 | exact Nat.ne_of_lt b2 | exact Nat.ne_of_lt b3 | exact n0Add n _ | exact nAdd n (by decide))).extBut hs₄.extBut (Ne.symm (by first | exact lAdd b1 | exact lAdd b2 | exact lAdd b3 | exact Nat.ne_of_lt b1 | exact Nat.ne_of_lt b2 | exact Nat.ne_of_lt b3 | exact n0Add n _ | exact nAdd n (by decide)))).extBut hs₅.extBut (by first | exact lAdd b1 | exact lAdd b2 | exact lAdd b3 | exact Nat.ne_of_lt b1 | exact Nat.ne_of_lt b2 | exact Nat.ne_of_lt b3 | exact n0Add n _ | exact nAdd n (by decide)))
    (((((hl3.extBut hs₁.extBut (by first | exact lAdd b1 | exact lAdd b2 | exact lAdd b3 | exact Nat.ne_of_lt b1 | exact Nat.ne_of_lt b2 | exact Nat.ne_of_lt b3 | exact n0Add n _ | exact nAdd n (by decide))).extBut hs₂.extBut (by first | exact lAdd b1 | exact lAdd b2 | exact lAdd b3 | exact Nat.ne_of_lt b1 | exact Nat.ne_of_lt b2 | exact Nat.ne_of_lt b3 | exact n0Add n _ | exact nAdd n (by decide))).extBut hs₃.extBut (by first | exact lAdd b1 | exact lAdd b2 | exact lAdd b3 | exact Nat.ne_of_lt b1 | exact Nat.ne_of_lt b2 | exact Nat.ne_of_lt b3 | exact n0Add n _ | exact nAdd n (by decide))).extBut hs₄.extBut (by first | exact lAdd b1 | exact lAdd b2 | exact lAdd b3 | exact Nat.ne_of_lt b1 | exact Nat.ne_of_lt b2 | exact Nat.ne_of_lt b3 | exact n0Add n _ | exact nAdd n (by decide))).extBut hs₅.extBut (by first | exact lAdd b1 | exact lAdd b2 | exact lAdd b3 | exact Nat.ne_of_lt b1 | exact Nat.ne_of_lt b2 | exact Nat.ne_of_lt b3 | exact n0Add n _ | exact nAdd n (by decide))) hv fun g₆ h3₆ hs₆ => wpAny_pure ?_)
  have hTO₆ : IsTri g₆ (n + 4) x y c := hs₆.extBut _ _ (Ne.symm (by first | exact lAdd b1 | exact lAdd b2 | exact lAdd b3 | exact Nat.ne_of_lt b1 | exact Nat.ne_of_lt b2 | exact Nat.ne_of_lt b3 | exact n0Add n _ | exact nAdd n (by decide))) hTO₅
  refine wpAny_bind (wpAny_seqItems hTO₆ rfl ?_)
  refine wpAny_bind (updateTri hTO₆ fun g₇ hTO₇ hs₇ => ?_)
  replace hTO₇ : IsTri g₇ (n + 4) x y v := hTO₇
  refine wpAny_bind (wpAny_letGo (wpAny_pure (wpAny_pure ?_)))
  refine wpAny_bind (wpAny_seqItems hTO₇ rfl ?_)
  refine wpAny_bind (wpAny_newTuple ?_)
  have hsz : g₇.objs.size = s.heap.objs.size := by rw [hs₇.1, hs₆.1, hs₅.1, hs₄.1, hs₃.1, hs₂.1, hs₁.1]
  have up7 : ∀ (c : Nat) o, c ≠ n → c ≠ n + 1 → c ≠ n + 2 → c ≠ n + 4 → c ≠ n + 5 → s.heap.get? c = some o → g₇.get? c = some o := fun c o c0 c1 c2 c4 c5 e =>
    hs₇.extBut _ _ c4 (hs₆.extBut _ _ c2 (hs₅.extBut _ _ c4 (hs₄.extBut _ _ c1 (hs₃.extBut _ _ c4 (hs₂.extBut _ _ c0 (hs₁.extBut _ _ c5 e))))))
  have hz₇ : IsZip g₇ (n + 5) (n + 3) (n + 4) .ellipsis :=
    hs₇.extBut _ _ (Ne.symm (by first | exact lAdd b1 | exact lAdd b2 | exact lAdd b3 | exact Nat.ne_of_lt b1 | exact Nat.ne_of_lt b2 | exact Nat.ne_of_lt b3 | exact n0Add n _ | exact nAdd n (by decide))) (hs₆.extBut _ _ (Ne.symm (by first | exact lAdd b1 | exact lAdd b2 | exact lAdd b3 | exact Nat.ne_of_lt b1 | exact Nat.ne_of_lt b2 | exact Nat.ne_of_lt b3 | exact n0Add n _ | exact nAdd n (by decide))) (hs₅.extBut _ _ (Ne.symm (by first | exact lAdd b1 | exact lAdd b2 | exact lAdd b3 | exact Nat.ne_of_lt b1 | exact Nat.ne_of_lt b2 | exact Nat.ne_of_lt b3 | exact n0Add n _ | exact nAdd n (by decide))) (hs₄.extBut _ _ (Ne.symm (by first | exact lAdd b1 | exact lAdd b2 | exact lAdd b3 | exact Nat.ne_of_lt b1 | exact Nat.ne_of_lt b2 | exact Nat.ne_of_lt b3 | exact n0Add n _ | exact nAdd n (by decide))) (hs₃.extBut _ _ (Ne.symm (by first | exact lAdd b1 | exact lAdd b2 | exact lAdd b3 | exact Nat.ne_of_lt b1 | exact Nat.ne_of_lt b2 | exact Nat.ne_of_lt b3 | exact n0Add n _ | exact nAdd n (by decide))) (hs₂.extBut _ _ (Ne.symm (by first | exact lAdd b1 | exact lAdd b2 | exact lAdd b3 | exact Nat.ne_of_lt b1 | exact Nat.ne_of_lt b2 | exact Nat.ne_of_lt b3 | exact n0Add n _ | exact nAdd n (by decide))) hz₁)))))
  have h1₇ : g₇.IsListIter n l1 (k + 1) := ((((h1₂.extBut hs₃.extBut (by first | exact lAdd b1 | exact lAdd b2 | exact lAdd b3 | exact Nat.ne_of_lt b1 | exact Nat.ne_of_lt b2 | exact Nat.ne_of_lt b3 | exact n0Add n _ | exact nAdd n (by decide))).extBut hs₄.extBut (by first | exact lAdd b1 | exact lAdd b2 | exact lAdd b3 | exact Nat.ne_of_lt b1 | exact Nat.ne_of_lt b2 | exact Nat.ne_of_lt b3 | exact n0Add n _ | exact nAdd n (by decide))).extBut hs₅.extBut (by first | exact lAdd b1 | exact lAdd b2 | exact lAdd b3 | exact Nat.ne_of_lt b1 | exact Nat.ne_of_lt b2 | exact Nat.ne_of_lt b3 | exact n0Add n _ | exact nAdd n (by decide))).extBut hs₆.extBut (by first | exact lAdd b1 | exact lAdd b2 | exact lAdd b3 | exact Nat.ne_of_lt b1 | exact Nat.ne_of_lt b2 | exact Nat.ne_of_lt b3 | exact n0Add n _ | exact nAdd n (by decide))).extBut hs₇.extBut (by first | exact lAdd b1 | exact lAdd b2 | exact lAdd b3 | exact Nat.ne_of_lt b1 | exact Nat.ne_of_lt b2 | exact Nat.ne_of_lt b3 | exact n0Add n _ | exact nAdd n (by decide))
  have h2₇ : g₇.IsListIter (n + 1) l2 (k + 1) := ((h2₄.extBut hs₅.extBut (by first | exact lAdd b1 | exact lAdd b2 | exact lAdd b3 | exact Nat.ne_of_lt b1 | exact Nat.ne_of_lt b2 | exact Nat.ne_of_lt b3 | exact n0Add n _ | exact nAdd n (by decide))).extBut hs₆.extBut (by first | exact lAdd b1 | exact lAdd b2 | exact lAdd b3 | exact Nat.ne_of_lt b1 | exact Nat.ne_of_lt b2 | exact Nat.ne_of_lt b3 | exact n0Add n _ | exact nAdd n (by decide))).extBut hs₇.extBut (by first | exact lAdd b1 | exact lAdd b2 | exact lAdd b3 | exact Nat.ne_of_lt b1 | exact Nat.ne_of_lt b2 | exact Nat.ne_of_lt b3 | exact n0Add n _ | exact nAdd n (by decide))
  have h3₇ : g₇.IsListIter (n + 2) l3 (k + 1) := h3₆.extBut hs₇.extBut (by first | exact lAdd b1 | exact lAdd b2 | exact lAdd b3 | exact Nat.ne_of_lt b1 | exact Nat.ne_of_lt b2 | exact Nat.ne_of_lt b3 | exact n0Add n _ | exact nAdd n (by decide))
  have hzlt : n + 5 < g₇.objs.size := Heap.lt_size hz₇
  show wpAny _ _ (Builtin.SmallTypes.ownedTupleHandOut (.ref (n + 5)) (.ref g₇.objs.size) >>= _) _ _ _
  refine wpAny_bind ?_
  unfold Builtin.SmallTypes.ownedTupleHandOut
  have hz₈ : IsZip (g₇.push { cls := .type "tuple", data := .seq #[x, y, v] }) (n + 5) (n + 3) (n + 4) .ellipsis := Heap.get?_push_of_some _ hz₇
  refine wpAny_bind (wpAny_setField_rec hz₈ (by simp) fun g₉ hz₉ hs₉ => ?_)
  replace hz₉ : IsZip g₉ (n + 5) (n + 3) (n + 4) (rawInt g₇.objs.size) := hz₉
  refine wpAny_setField_rec hz₉ (by simp) fun g' hz' hs' => ?_
  replace hz' : IsZip g' (n + 5) (n + 3) (n + 4) (rawInt g₇.objs.size) := hz'
  have up : ∀ (c : Nat) o, c ≠ n + 5 → g₇.get? c = some o → g'.get? c = some o := fun c o c1 e => hs'.extBut _ _ c1 (hs₉.extBut _ _ c1 (Heap.get?_push_of_some _ e))
  have hT' : IsTri g' g₇.objs.size x y v := hs'.extBut _ _ (Nat.ne_of_gt hzlt) (hs₉.extBut _ _ (Nat.ne_of_gt hzlt) (Heap.get?_push_size _ rfl))
  have hz8 : g'.objs.size = g₇.objs.size + 1 := by rw [hs'.1, hs₉.1, Heap.size_push]
  rw [hsz] at hz' hT' hz8
  refine wpAny_pure ⟨_, rfl, ?_⟩
  show Q (.ref g₇.objs.size) _
  rw [hsz]
  refine hQ g' ⟨hz', up _ _ (by first | exact lAdd b1 | exact lAdd b2 | exact lAdd b3 | exact Nat.ne_of_lt b1 | exact Nat.ne_of_lt b2 | exact Nat.ne_of_lt b3 | exact n0Add n _ | exact nAdd n (by decide)) (up7 _ _ (Ne.symm (by first | exact lAdd b1 | exact lAdd b2 | exact lAdd b3 | exact Nat.ne_of_lt b1 | exact Nat.ne_of_lt b2 | exact Nat.ne_of_lt b3 | exact n0Add n _ | exact nAdd n (by decide))) (Ne.symm (by first | exact lAdd b1 | exact lAdd b2 | exact lAdd b3 | exact Nat.ne_of_lt b1 | exact Nat.ne_of_lt b2 | exact Nat.ne_of_lt b3 | exact n0Add n _ | exact nAdd n (by decide))) (Ne.symm (by first | exact lAdd b1 | exact lAdd b2 | exact lAdd b3 | exact Nat.ne_of_lt b1 | exact Nat.ne_of_lt b2 | exact Nat.ne_of_lt b3 | exact n0Add n _ | exact nAdd n (by decide))) (by first | exact lAdd b1 | exact lAdd b2 | exact lAdd b3 | exact Nat.ne_of_lt b1 | exact Nat.ne_of_lt b2 | exact Nat.ne_of_lt b3 | exact n0Add n _ | exact nAdd n (by decide)) (by first | exact lAdd b1 | exact lAdd b2 | exact lAdd b3 | exact Nat.ne_of_lt b1 | exact Nat.ne_of_lt b2 | exact Nat.ne_of_lt b3 | exact n0Add n _ | exact nAdd n (by decide)) hTI), ⟨_, _, _, up _ _ (by first | exact lAdd b1 | exact lAdd b2 | exact lAdd b3 | exact Nat.ne_of_lt b1 | exact Nat.ne_of_lt b2 | exact Nat.ne_of_lt b3 | exact n0Add n _ | exact nAdd n (by decide)) hTO₇⟩,
    h1₇.at fun o e => up _ o (by first | exact lAdd b1 | exact lAdd b2 | exact lAdd b3 | exact Nat.ne_of_lt b1 | exact Nat.ne_of_lt b2 | exact Nat.ne_of_lt b3 | exact n0Add n _ | exact nAdd n (by decide)) e, h2₇.at fun o e => up _ o (by first | exact lAdd b1 | exact lAdd b2 | exact lAdd b3 | exact Nat.ne_of_lt b1 | exact Nat.ne_of_lt b2 | exact Nat.ne_of_lt b3 | exact n0Add n _ | exact nAdd n (by decide)) e, h3₇.at fun o e => up _ o (by first | exact lAdd b1 | exact lAdd b2 | exact lAdd b3 | exact Nat.ne_of_lt b1 | exact Nat.ne_of_lt b2 | exact Nat.ne_of_lt b3 | exact n0Add n _ | exact nAdd n (by decide)) e,
    hl1.at fun o e => up _ o (by first | exact lAdd b1 | exact lAdd b2 | exact lAdd b3 | exact Nat.ne_of_lt b1 | exact Nat.ne_of_lt b2 | exact Nat.ne_of_lt b3 | exact n0Add n _ | exact nAdd n (by decide)) (up7 _ o (by first | exact lAdd b1 | exact lAdd b2 | exact lAdd b3 | exact Nat.ne_of_lt b1 | exact Nat.ne_of_lt b2 | exact Nat.ne_of_lt b3 | exact n0Add n _ | exact nAdd n (by decide)) (by first | exact lAdd b1 | exact lAdd b2 | exact lAdd b3 | exact Nat.ne_of_lt b1 | exact Nat.ne_of_lt b2 | exact Nat.ne_of_lt b3 | exact n0Add n _ | exact nAdd n (by decide)) (by first | exact lAdd b1 | exact lAdd b2 | exact lAdd b3 | exact Nat.ne_of_lt b1 | exact Nat.ne_of_lt b2 | exact Nat.ne_of_lt b3 | exact n0Add n _ | exact nAdd n (by decide)) (by first | exact lAdd b1 | exact lAdd b2 | exact lAdd b3 | exact Nat.ne_of_lt b1 | exact Nat.ne_of_lt b2 | exact Nat.ne_of_lt b3 | exact n0Add n _ | exact nAdd n (by decide)) (by first | exact lAdd b1 | exact lAdd b2 | exact lAdd b3 | exact Nat.ne_of_lt b1 | exact Nat.ne_of_lt b2 | exact Nat.ne_of_lt b3 | exact n0Add n _ | exact nAdd n (by decide)) e),
    hl2.at fun o e => up _ o (by first | exact lAdd b1 | exact lAdd b2 | exact lAdd b3 | exact Nat.ne_of_lt b1 | exact Nat.ne_of_lt b2 | exact Nat.ne_of_lt b3 | exact n0Add n _ | exact nAdd n (by decide)) (up7 _ o (by first | exact lAdd b1 | exact lAdd b2 | exact lAdd b3 | exact Nat.ne_of_lt b1 | exact Nat.ne_of_lt b2 | exact Nat.ne_of_lt b3 | exact n0Add n _ | exact nAdd n (by decide)) (by first | exact lAdd b1 | exact lAdd b2 | exact lAdd b3 | exact Nat.ne_of_lt b1 | exact Nat.ne_of_lt b2 | exact Nat.ne_of_lt b3 | exact n0Add n _ | exact nAdd n (by decide)) (by first | exact lAdd b1 | exact lAdd b2 | exact lAdd b3 | exact Nat.ne_of_lt b1 | exact Nat.ne_of_lt b2 | exact Nat.ne_of_lt b3 | exact n0Add n _ | exact nAdd n (by decide)) (by first | exact lAdd b1 | exact lAdd b2 | exact lAdd b3 | exact Nat.ne_of_lt b1 | exact Nat.ne_of_lt b2 | exact Nat.ne_of_lt b3 | exact n0Add n _ | exact nAdd n (by decide)) (by first | exact lAdd b1 | exact lAdd b2 | exact lAdd b3 | exact Nat.ne_of_lt b1 | exact Nat.ne_of_lt b2 | exact Nat.ne_of_lt b3 | exact n0Add n _ | exact nAdd n (by decide)) e),
    hl3.at fun o e => up _ o (by first | exact lAdd b1 | exact lAdd b2 | exact lAdd b3 | exact Nat.ne_of_lt b1 | exact Nat.ne_of_lt b2 | exact Nat.ne_of_lt b3 | exact n0Add n _ | exact nAdd n (by decide)) (up7 _ o (by first | exact lAdd b1 | exact lAdd b2 | exact lAdd b3 | exact Nat.ne_of_lt b1 | exact Nat.ne_of_lt b2 | exact Nat.ne_of_lt b3 | exact n0Add n _ | exact nAdd n (by decide)) (by first | exact lAdd b1 | exact lAdd b2 | exact lAdd b3 | exact Nat.ne_of_lt b1 | exact Nat.ne_of_lt b2 | exact Nat.ne_of_lt b3 | exact n0Add n _ | exact nAdd n (by decide)) (by first | exact lAdd b1 | exact lAdd b2 | exact lAdd b3 | exact Nat.ne_of_lt b1 | exact Nat.ne_of_lt b2 | exact Nat.ne_of_lt b3 | exact n0Add n _ | exact nAdd n (by decide)) (by first | exact lAdd b1 | exact lAdd b2 | exact lAdd b3 | exact Nat.ne_of_lt b1 | exact Nat.ne_of_lt b2 | exact Nat.ne_of_lt b3 | exact n0Add n _ | exact nAdd n (by decide)) (by first | exact lAdd b1 | exact lAdd b2 | exact lAdd b3 | exact Nat.ne_of_lt b1 | exact Nat.ne_of_lt b2 | exact Nat.ne_of_lt b3 | exact n0Add n _ | exact nAdd n (by decide)) e)⟩ hT' hz8
    fun c o c0 c1 c2 c4 c5 e => up c o c5 (up7 c o c0 c1 c2 c4 c5 e)
/-- the end: the first list is through -/
theorem zip3_end {n l1 l2 l3 k : Nat} {xs ys zs : Array Value} {Q : Fin → Shared → Prop} (hh : A.handled = none)
    (Z : Zip3 s.heap n l1 l2 l3 k .none xs ys zs) (b1 : l1 < n) (hend : xs[k]? = none)
    (hE : ∀ h' e, (∀ (c : Nat) o, c ≠ n → c ≠ n + 1 → c ≠ n + 2 → c ≠ n + 4 → c ≠ n + 5 → s.heap.get? c = some o → h'.get? c = some o) → (∃ o, h'.get? e = some o ∧ o.cls = .type "StopIteration") → E (.ref e) { s with heap := h' }) :
    wpAny (model prog w) A (Builtin.«zip.__next__» ⟨[.ref (n + 5)], []⟩) Q E s := by
  obtain ⟨hz, hTI, ⟨a, b, c, hTO⟩, h1, h2, h3, hl1, hl2, hl3⟩ := Z
  show wpAny _ _ (field (.ref (n + 5)) 2 >>= _) _ _ _
  refine wpAny_bind (wpAny_field hz rfl (x := .bool false) rfl ?_)
  show wpAny _ _ (field (.ref (n + 5)) 3 >>= _) _ _ _
  refine wpAny_bind (wpAny_field hz rfl (x := .ref (n + 3)) rfl ?_)
  refine wpAny_bind (wpAny_seqItems hTI rfl ?_)
  show wpAny _ _ (Builtin.SmallTypes.ownedTupleIsFree (.ref (n + 5)) >>= _) _ _ _
  refine wpAny_bind ?_
  unfold Builtin.SmallTypes.ownedTupleIsFree
  refine wpAny_bind (wpAny_field hz rfl (x := .none) rfl (wpAny_pure ?_))
  simp only [if_true]
  refine wpAny_bind (wpAny_rule ?_)
  refine wpAny_bind (wpAny_field hz rfl (x := .ref (n + 4)) rfl ?_)
  refine wpAny_bind (wpAny_setField_rec hz (by simp) fun g₁ hz₁ hs₁ => ?_)
  replace hz₁ : IsZip g₁ (n + 5) (n + 3) (n + 4) .ellipsis := hz₁
  refine wpAny_bind ?_
  simp only [List.zipIdx_cons, List.zipIdx_nil, List.forIn_cons, List.forIn_nil]
  refine wpAny_bind (wpAny_bind (wpAny_onRaise ?_))
  show wpAny _ _ (Builtin.SmallTypes.nextOf (.ref n) >>= _) _ _ _
  have ne : ∀ {p q : Nat}, p < q → @Ne Nat p q := fun e => Nat.ne_of_lt e
  refine wpAny_bind (wpAny_nextOf_list_end hh (h1.extBut hs₁.extBut (by first | exact lAdd b1 | exact lAdd b2 | exact lAdd b3 | exact Nat.ne_of_lt b1 | exact Nat.ne_of_lt b2 | exact Nat.ne_of_lt b3 | exact n0Add n _ | exact nAdd n (by decide))) (hl1.extBut hs₁.extBut (by first | exact lAdd b1 | exact lAdd b2 | exact lAdd b3 | exact Nat.ne_of_lt b1 | exact Nat.ne_of_lt b2 | exact Nat.ne_of_lt b3 | exact n0Add n _ | exact nAdd n (by decide))) hend fun g₂ e hs₂ he => ?_)
  obtain ⟨oe, hoe, hce⟩ := he
  have hz₂ : IsZip g₂ (n + 5) (n + 3) (n + 4) .ellipsis := hs₂ _ _ (Nat.ne_of_gt (by omega : n < n + 5)) hz₁
  have hez : e ≠ n + 5 := fun x => by subst x; rw [hz₂] at hoe; cases hoe; simp at hce
  refine wpAny_setField_rec hz₂ (by simp) fun g₃ _ hs₃ => hE g₃ e (fun c o c0 _ _ _ c5 x => hs₃.extBut _ _ c5 (hs₂ _ _ c0 (hs₁.extBut _ _ c5 x))) ⟨oe, hs₃.extBut _ _ hez hoe, hce⟩
theorem next3_item {n l1 l2 l3 k : Nat} {xs ys zs : Array Value} {x y v : Value} {Q : Option Value → Shared → Prop}
    (Z : Zip3 s.heap n l1 l2 l3 k .none xs ys zs) (b1 : l1 < n) (b2 : l2 < n) (b3 : l3 < n) (hx : xs[k]? = some x) (hy : ys[k]? = some y) (hv : zs[k]? = some v)
    (hQ : ∀ h', Zip3 h' n l1 l2 l3 (k + 1) (rawInt s.heap.objs.size) xs ys zs → IsTri h' s.heap.objs.size x y v → h'.objs.size = s.heap.objs.size + 1 →
      (∀ (c : Nat) o, c ≠ n → c ≠ n + 1 → c ≠ n + 2 → c ≠ n + 4 → c ≠ n + 5 → s.heap.get? c = some o → h'.get? c = some o) → Q (some (.ref s.heap.objs.size)) { s with heap := h' }) :
    wpAny (model prog w) A (pyNext (.ref (n + 5))) Q E s := by
  have hT : s.TypeIs (.ref (n + 5)) "zip" := ⟨_, Z.z, rfl⟩
  unfold pyNext
  exact wpAny_bind (wpAny_attempt (wpAny_callSpecial?_slot (name := Str.ofString "__next__") hT F.slot_zip_next
    (wpAny_call_entry F.slot_zip_next hT F.entry_zip_next
      (zip3_item Z b1 b2 b3 hx hy hv fun h' a1 a2 a3 a4 => wpAny_pure (hQ h' a1 a2 a3 a4)) (F.args_zip_next_1 _))))
theorem next3_end {n l1 l2 l3 k : Nat} {xs ys zs : Array Value} {Q : Option Value → Shared → Prop} (hh : A.handled = none)
    (Z : Zip3 s.heap n l1 l2 l3 k .none xs ys zs) (b1 : l1 < n) (hend : xs[k]? = none)
    (hQ : ∀ h', (∀ (c : Nat) o, c ≠ n → c ≠ n + 1 → c ≠ n + 2 → c ≠ n + 4 → c ≠ n + 5 → s.heap.get? c = some o → h'.get? c = some o) → Q none { s with heap := h' }) :
    wpAny (model prog w) A (pyNext (.ref (n + 5))) Q E s := by
  have hT : s.TypeIs (.ref (n + 5)) "zip" := ⟨_, Z.z, rfl⟩
  unfold pyNext
  refine wpAny_bind (wpAny_attempt (wpAny_callSpecial?_slot (name := Str.ofString "__next__") hT F.slot_zip_next
    (wpAny_call_entry F.slot_zip_next hT F.entry_zip_next (zip3_end hh Z b1 hend fun h' e hk he => ?_) (F.args_zip_next_1 _))))
  obtain ⟨o, ho, hc⟩ := he
  refine wpAny_bind (wpAny_isInstance (T := "StopIteration") (b := true) ⟨o, ho, hc⟩ isSubtype_stop ?_)
  exact wpAny_pure (hQ _ hk)
end
abbrev zp1 (h : Heap) (l1 : Addr) : Heap := h.push { cls := .type "list_iterator", data := .fields #[.ref l1, .int 0 0] }
abbrev zp2 (h : Heap) (l1 l2 : Addr) : Heap := (zp1 h l1).push { cls := .type "list_iterator", data := .fields #[.ref l2, .int 0 0] }
abbrev zp3 (h : Heap) (l1 l2 l3 : Addr) : Heap := (zp2 h l1 l2).push { cls := .type "list_iterator", data := .fields #[.ref l3, .int 0 0] }
abbrev zp4 (h : Heap) (l1 l2 l3 : Addr) : Heap := (zp3 h l1 l2 l3).push { cls := .type "tuple", data := .seq #[.ref h.objs.size, .ref (zp1 h l1).objs.size, .ref (zp2 h l1 l2).objs.size] }
abbrev zp5 (h : Heap) (l1 l2 l3 : Addr) : Heap := (zp4 h l1 l2 l3).push { cls := .type "tuple", data := .seq #[.none, .none, .none] }
abbrev zp6 (h : Heap) (l1 l2 l3 : Addr) : Heap := (zp5 h l1 l2 l3).push { cls := .type "zip", data := .fields #[.none, .bool false, .bool false, .ref (zp3 h l1 l2 l3).objs.size, .ref (zp4 h l1 l2 l3).objs.size] }
theorem meets_zip3_new (l1 l2 l3 : Addr) (xs ys zs : Array Value) :
    Meets (Builtin.«zip.__new__» ⟨[.type "zip", .ref l1, .ref l2, .ref l3], []⟩) (fun _ R s => s.heap.IsList l1 xs ∧ s.heap.IsList l2 ys ∧ s.heap.IsList l3 zs ∧
      R (.ok (.ret (.ref (zp5 s.heap l1 l2 l3).objs.size))) { s with heap := zp6 s.heap l1 l2 l3 }) :=
  .of_wp fun prog w A R s h => by
    obtain ⟨hp, g, d, tk, os⟩ := s; obtain ⟨hl1, hl2, hl3, h⟩ := h
    have hsub := sub_zip
    have hL1 : Heap.IsList (Shared.heap ⟨hp, g, d, tk, os⟩) l1 xs := hl1
    have hL2 : Heap.IsList (Shared.heap ⟨zp1 hp l1, g, d, tk, os⟩) l2 ys := Heap.IsList.push hl2 _
    have hL3 : Heap.IsList (Shared.heap ⟨zp2 hp l1 l2, g, d, tk, os⟩) l3 zs := Heap.IsList.push (Heap.IsList.push hl3 _) _
    wp_walk using wpAny_pyIter_list hL1, wpAny_pyIter_list hL2, wpAny_pyIter_list hL3
    exact ⟨_, rfl, h⟩
section
variable {prog : Program} {w : World} {A : Around} {E : Value → Shared → Prop} {s : Shared}
theorem call_zip3 {l1 l2 l3 : Nat} {xs ys zs : Array Value} {Q : Value → Shared → Prop} (hl1 : s.heap.IsList l1 xs) (hl2 : s.heap.IsList l2 ys) (hl3 : s.heap.IsList l3 zs)
    (h : ∀ h', Zip3 h' s.heap.objs.size l1 l2 l3 0 .none xs ys zs → h'.objs.size = s.heap.objs.size + 6 → (∀ c o, s.heap.get? c = some o → h'.get? c = some o) → Q (.ref (s.heap.objs.size + 5)) { s with heap := h' }) :
    wpAny (model prog w) A (call (.type "zip") [.ref l1, .ref l2, .ref l3]) Q E s := by
  refine callType_new F.called_zip (by decide) (typeCall_zip3 _ _ _) (newCall_zip3 _ _ _) (fun obj => args_object_init4 obj _ _ _) F.entry_zip_new
    (meets_zip3_new l1 l2 l3 xs ys zs) ⟨hl1, hl2, hl3, ?_⟩
  have z1 : (zp1 s.heap l1).objs.size = s.heap.objs.size + 1 := Heap.size_push ..
  have z2 : (zp2 s.heap l1 l2).objs.size = s.heap.objs.size + 2 := by rw [Heap.size_push, z1]
  have z3 : (zp3 s.heap l1 l2 l3).objs.size = s.heap.objs.size + 3 := by rw [Heap.size_push, z2]
  have z4 : (zp4 s.heap l1 l2 l3).objs.size = s.heap.objs.size + 4 := by rw [Heap.size_push, z3]
  have z5 : (zp5 s.heap l1 l2 l3).objs.size = s.heap.objs.size + 5 := by rw [Heap.size_push, z4]
  have z6 : (zp6 s.heap l1 l2 l3).objs.size = s.heap.objs.size + 6 := by rw [Heap.size_push, z5]
  have g6 : (zp6 s.heap l1 l2 l3).get? (zp5 s.heap l1 l2 l3).objs.size = some _ := Heap.get?_push_size _ rfl
  have g5 : (zp6 s.heap l1 l2 l3).get? (zp4 s.heap l1 l2 l3).objs.size = some _ := Heap.get?_push_of_some _ (Heap.get?_push_size _ rfl)
  have g4 : (zp6 s.heap l1 l2 l3).get? (zp3 s.heap l1 l2 l3).objs.size = some _ := Heap.get?_push_of_some _ (Heap.get?_push_of_some _ (Heap.get?_push_size _ rfl))
  have g3 : (zp6 s.heap l1 l2 l3).get? (zp2 s.heap l1 l2).objs.size = some _ := Heap.get?_push_of_some _ (Heap.get?_push_of_some _ (Heap.get?_push_of_some _ (Heap.get?_push_size _ rfl)))
  have g2 : (zp6 s.heap l1 l2 l3).get? (zp1 s.heap l1).objs.size = some _ := Heap.get?_push_of_some _ (Heap.get?_push_of_some _ (Heap.get?_push_of_some _ (Heap.get?_push_of_some _ (Heap.get?_push_size _ rfl))))
  have g1 : (zp6 s.heap l1 l2 l3).get? s.heap.objs.size = some _ := Heap.get?_push_of_some _ (Heap.get?_push_of_some _ (Heap.get?_push_of_some _ (Heap.get?_push_of_some _ (Heap.get?_push_of_some _ (Heap.get?_push_size _ rfl)))))
  have up : ∀ c o, s.heap.get? c = some o → (zp6 s.heap l1 l2 l3).get? c = some o := fun c o x =>
    Heap.get?_push_of_some _ (Heap.get?_push_of_some _ (Heap.get?_push_of_some _ (Heap.get?_push_of_some _ (Heap.get?_push_of_some _ (Heap.get?_push_of_some _ x)))))
  show _ ∧ _
  rw [z3, z4, z5] at g6
  rw [z1, z2, z3] at g4
  rw [z4] at g5
  rw [z2] at g3
  rw [z1] at g2
  rw [z5]
  exact ⟨⟨_, g6, rfl⟩, h _ ⟨g6, g4, ⟨_, _, _, g5⟩, ⟨_, g1, rfl, rfl⟩, ⟨_, g2, rfl, rfl⟩, ⟨_, g3, rfl, rfl⟩, hl1.at fun o e => up _ o e, hl2.at fun o e => up _ o e, hl3.at fun o e => up _ o e⟩ z6 up⟩
theorem Zip3.keeps {h h' : Heap} {n l1 l2 l3 k : Nat} {f0 : Value} {xs ys zs : Array Value} (Z : Zip3 h n l1 l2 l3 k f0 xs ys zs) (up : ∀ (c : Nat) o, c ≠ n + 5 → h.get? c = some o → h'.get? c = some o)
    (hz : IsZip h' (n + 5) (n + 3) (n + 4) .none) (b1 : l1 < n) (b2 : l2 < n) (b3 : l3 < n) : Zip3 h' n l1 l2 l3 k .none xs ys zs := by
  have ne : ∀ {p q : Nat}, p < q → @Ne Nat p q := fun e => Nat.ne_of_lt e
  obtain ⟨_, hTI, ⟨a, b, c, hTO⟩, h1, h2, h3, hl1, hl2, hl3⟩ := Z
  exact ⟨hz, up _ _ (by first | exact lAdd b1 | exact lAdd b2 | exact lAdd b3 | exact Nat.ne_of_lt b1 | exact Nat.ne_of_lt b2 | exact Nat.ne_of_lt b3 | exact n0Add n _ | exact nAdd n (by decide)) hTI, ⟨a, b, c, up _ _ (by first | exact lAdd b1 | exact lAdd b2 | exact lAdd b3 | exact Nat.ne_of_lt b1 | exact Nat.ne_of_lt b2 | exact Nat.ne_of_lt b3 | exact n0Add n _ | exact nAdd n (by decide)) hTO⟩, h1.at fun o e => up _ o (by first | exact lAdd b1 | exact lAdd b2 | exact lAdd b3 | exact Nat.ne_of_lt b1 | exact Nat.ne_of_lt b2 | exact Nat.ne_of_lt b3 | exact n0Add n _ | exact nAdd n (by decide)) e, h2.at fun o e => up _ o (by first | exact lAdd b1 | exact lAdd b2 | exact lAdd b3 | exact Nat.ne_of_lt b1 | exact Nat.ne_of_lt b2 | exact Nat.ne_of_lt b3 | exact n0Add n _ | exact nAdd n (by decide)) e, h3.at fun o e => up _ o (by first | exact lAdd b1 | exact lAdd b2 | exact lAdd b3 | exact Nat.ne_of_lt b1 | exact Nat.ne_of_lt b2 | exact Nat.ne_of_lt b3 | exact n0Add n _ | exact nAdd n (by decide)) e,
    hl1.at fun o e => up _ o (by first | exact lAdd b1 | exact lAdd b2 | exact lAdd b3 | exact Nat.ne_of_lt b1 | exact Nat.ne_of_lt b2 | exact Nat.ne_of_lt b3 | exact n0Add n _ | exact nAdd n (by decide)) e, hl2.at fun o e => up _ o (by first | exact lAdd b1 | exact lAdd b2 | exact lAdd b3 | exact Nat.ne_of_lt b1 | exact Nat.ne_of_lt b2 | exact Nat.ne_of_lt b3 | exact n0Add n _ | exact nAdd n (by decide)) e, hl3.at fun o e => up _ o (by first | exact lAdd b1 | exact lAdd b2 | exact lAdd b3 | exact Nat.ne_of_lt b1 | exact Nat.ne_of_lt b2 | exact Nat.ne_of_lt b3 | exact n0Add n _ | exact nAdd n (by decide)) e⟩
/-- a for over zip of three lists of two items each; what holds between the turns is said of the whole state -/
theorem for_zip3 {env : Env} {elts : List Expr} {x1} {pos : Pos} {body : List Stmt} {n l1 l2 l3 : Nat} {xs ys zs : Array Value} {x y v : Nat → Value} {R : Result → Shared → Prop} (K : Nat → Shared → Prop)
    (hh : A.handled = none) (b1 : l1 < n) (b2 : l2 < n) (b3 : l3 < n) (hsz : xs.size = 2)
    (hx : ∀ i, i < 2 → xs[i]? = some (x i)) (hy : ∀ i, i < 2 → ys[i]? = some (y i)) (hv : ∀ i, i < 2 → zs[i]? = some (v i))
    (hK : ∀ i s, K i s → Zip3 s.heap n l1 l2 l3 i .none xs ys zs)
    (turn : ∀ i s h' T, i < 2 → K i s → Zip3 h' n l1 l2 l3 (i + 1) .none xs ys zs → T = s.heap.objs.size → IsTri h' T (x i) (y i) (v i) →
      (∀ (c : Nat) o, c ≠ n → c ≠ n + 1 → c ≠ n + 2 → c ≠ n + 4 → c ≠ n + 5 → s.heap.get? c = some o → h'.get? c = some o) →
      wpAny (model prog w) A (assign (.Tuple elts x1 pos) env (.ref T)) (fun _ s₃ => wpAny (model prog w) A (execs body env) (fun f s₄ => f = .next ∧ K (i + 1) s₄) (fun _ _ => False) s₃) (fun _ _ => False) { s with heap := h' })
    (done : ∀ s h', K 2 s → (∀ (c : Nat) o, c ≠ n → c ≠ n + 1 → c ≠ n + 2 → c ≠ n + 4 → c ≠ n + 5 → s.heap.get? c = some o → h'.get? c = some o) → R (.ok .next) { s with heap := h' })
    (h : K 0 s) : codeAny (model prog w) A (.forLoop (.Tuple elts x1 pos) (.ref (n + 5)) body [] env) R s := by
  refine codeAny_forLoop_any (fun m s' => ∃ i, i ≤ 2 ∧ m = 2 - i ∧ K i s') ?_ 2 ⟨0, by decide, rfl, h⟩
  rintro m s' ⟨i, hi, rfl, hKi⟩
  by_cases hlt : i < 2
  · refine next3_item (hK i s' hKi) b1 b2 b3 (hx i hlt) (hy i hlt) (hv i hlt) fun g Z hT hs up => ?_
    refine wpAny_letOwnedTupleGo_zip Z.z fun g' hz' hs' => ?_
    have up' : ∀ (c : Nat) o, c ≠ n + 5 → g.get? c = some o → g'.get? c = some o := fun c o c5 e => hs'.extBut c o c5 e
    have hTlt : n + 5 < s'.heap.objs.size := Heap.lt_size (hK i s' hKi).z
    refine wpAny_mono (turn i s' g' _ hlt hKi (Z.keeps up' hz' b1 b2 b3) rfl (up' _ _ (Nat.ne_of_gt hTlt) hT) fun c o c0 c1 c2 c4 c5 e => up' c o c5 (up c o c0 c1 c2 c4 c5 e))
      (fun _ s₂ h₂ => wpAny_mono h₂ (fun f s₃ h₃ => ?_) fun _ _ e => e.elim) fun _ _ e => e.elim
    obtain ⟨rfl, hK'⟩ := h₃
    exact ⟨_, by omega, i + 1, hlt, rfl, hK'⟩
  · have hi2 : i = 2 := by omega
    subst hi2
    exact next3_end hh (hK 2 s' hKi) b1 (Array.getElem?_eq_none (by omega)) fun g up => wpAny_execs_nil (done s' g hKi up)
end

end PZ3
section PZL
def zipIter : Expr := match lawBody with | [_, _, _, _, _, .For _ i _ _ _, _] => i | _ => default
def zipPos : Pos := match lawBody with | [_, _, _, _, _, .For _ _ _ _ p, _] => p | _ => default
theorem law5_split : law5 = .For zipTarget zipIter endBody [] zipPos :: law6 := by rfl
abbrev zipObj (n : Nat) : Obj := { cls := .type "zip", dict := none, data := .fields #[.none, .bool false, .bool false, .ref (n + 3), .ref (n + 4)], slots := #[] }
theorem iter_cell {o : Obj} {l : Addr} {i : Nat} (h : o.cls = .type "list_iterator" ∧ o.data = .fields #[.ref l, .int (i : Int) 0]) : isCell o = false := by unfold isCell; rw [h.2]
theorem iter_tbl {o : Obj} {l : Addr} {i : Nat} (h : o.cls = .type "list_iterator" ∧ o.data = .fields #[.ref l, .int (i : Int) 0]) : isTbl o = false := by unfold isTbl; rw [h.2, h.1]
theorem zip_loop : ∀ {w : World} {p : Program} {loose : List Str} {mean : ExcName → Option Value} {mg mb : Str → Option Value} {h₀ : Heap} {L fa : Addr} {cd : Value} {s : Shared} {Q : Flow → Shared → Prop} {u : Str → Option Value}
   {lc ls lr ln c1 c2 c3 c4 x0 d0 b0 x1 d1 b1 : Nat} {o1 o2 o3 o4 : Obj} {w1 w2 w3 w4 : Option Value} {head s0 s1 N0 N1 : Int} {k0 k1 : Nat} {th ts0 ts1 tn0 tn1 t01 t02 t03 u01 u03 t11 t12 t13 u11 u13 : Tok} {g01 g02 g03 g11 g12 g13 : Int} {vs0 vs1 : List Value} {ns nr nn n0 n1 : Nat} {q1 q2 : Array Value},
   Below callerA h₀ [] h₀ →
   Fr h₀ L s.heap (lawMap lc ls lr ln head th u) →
   (hd.heap_1 w.params).In h₀ →
   News h₀ L s.heap [(c4, o4), (c3, o3), (c2, o2), (c1, o1), (ls, W.listOf #[.int s0 ts0, .int s1 ts1] ns), (lr, W.listOf #[.ref x0, .ref x1] nr), (ln, W.listOf #[.int N0 tn0, .int N1 tn1] nn), (d0, rowD t01 t02 t03 u01 u03 g01 g02 g03 k0 s0 b0), (x0, instObj 126 d0), (b0, W.listOf vs0.toArray n0), (d1, rowD t11 t12 t13 u11 u13 g11 g12 g13 k1 s1 b1), (x1, instObj 126 d1), (b1, W.listOf vs1.toArray n1), (111, tblOf q1), (118, tblOf q2)] →
   Top p loose mean mg mb h₀ →
   o1.data = .cell w1 →
   o2.data = .cell w2 →
   o3.data = .cell w3 →
   o4.data = .cell w4 →
   c1 < c2 →
   c2 < c3 →
   c3 < c4 →
   TriplesOk q1.toList →
   TriplesOk q2.toList →
   AllBare s.gens →
   1 ≤ s0 →
   s0 ≤ 40 →
   8 * (k0 : Int) < s0 + 8 →
   s0 ≤ 8 * k0 →
   1 ≤ s1 →
   s1 ≤ 40 →
   8 * (k1 : Int) < s1 + 8 →
   s1 ≤ 8 * k1 →
   IntsAre vs0 (octs k0 N0) →
   IntsAre vs1 (octs k1 N1) →
   (∀ s' u' o1' o2' o3' o4' w1' w2' w3' w4' q1' q2', s'.os = s.os → AllBare s'.gens → o1'.data = .cell w1' → o2'.data = .cell w2' → o3'.data = .cell w3' → o4'.data = .cell w4' → TriplesOk q1'.toList → TriplesOk q2'.toList → Fr h₀ L s'.heap (lawMap lc ls lr ln head th u') → News h₀ L s'.heap [(c4, o4'), (c3, o3'), (c2, o2'), (c1, o1'), (ls, W.listOf #[.int s0 ts0, .int s1 ts1] ns), (lr, W.listOf #[.ref x0, .ref x1] nr), (ln, W.listOf #[.int N0 tn0, .int N1 tn1] nn), (d0, rowD t01 t02 t03 u01 u03 g01 g02 g03 k0 s0 b0), (x0, instObj 126 d0), (b0, W.listOf vs0.toArray n0), (d1, rowD t11 t12 t13 u11 u13 g11 g12 g13 k1 s1 b1), (x1, instObj 126 d1), (b1, W.listOf vs1.toArray n1), (111, tblOf q1'), (118, tblOf q2')] → wpAny (model PySem.Challenge.rw_aw0020_01.row.prog w) (callerA.deeper (lawEnv L fa cd c1 c2 c3 c4)) (execs law6 (lawEnv L fa cd c1 c2 c3 c4)) Q (fun _ _ => False) s') →
   wpAny (model PySem.Challenge.rw_aw0020_01.row.prog w) (callerA.deeper (lawEnv L fa cd c1 c2 c3 c4)) (execs law5 (lawEnv L fa cd c1 c2 c3 c4)) Q (fun _ _ => False) s := by
  k_fill
  w_top off
  intro w p loose mean mg mb h₀ L fa cd s Q u lc ls lr ln c1 c2 c3 c4 x0 d0 b0 x1 d1 b1 o1 o2 o3 o4 w1 w2 w3 w4 head s0 s1 N0 N1 k0 k1 th ts0 ts1 tn0 tn1 t01 t02 t03 u01 u03 t11 t12 t13 u11 u13 g01 g02 g03 g11 g12 g13 vs0 vs1 ns nr nn n0 n1 q1 q2 B F X N T e1 e2 e3 e4 l1 l2 l3 f1 f2 f3 pa pb pc pd qa qb qc qd ia ib hC
  rw [law5_split]
  unfold zipIter lawEnv lawScope lawBody lawDef PySem.Challenge.pw_aw0020_01
  dsimp only
  iterate 1 (walk_at "mine.step")
  refine wpAny_For ?_ (by intro _; rfl)
  iterate 10 (walk_at "mine.step")
  refine call_zip3 (News.isList (by k_asm) (by k_mem)) (News.isList (by k_asm) (by k_mem)) (News.isList (by k_asm) (by k_mem)) fun h1 Z1 hsz1 up1 => ?_
  refine wpAny_pyIter_zip Z1.z ?_
  (try dsimp only at Z1 hsz1 up1 ⊢)
  have hLlt : L < s.heap.objs.size := F.ns.lt
  have hlt : ∀ q ∈ [(c4, o4), (c3, o3), (c2, o2), (c1, o1), (ls, W.listOf #[.int s0 ts0, .int s1 ts1] ns), (lr, W.listOf #[.ref x0, .ref x1] nr), (ln, W.listOf #[.int N0 tn0, .int N1 tn1] nn), (d0, rowD t01 t02 t03 u01 u03 g01 g02 g03 k0 s0 b0), (x0, instObj 126 d0), (b0, W.listOf vs0.toArray n0), (d1, rowD t11 t12 t13 u11 u13 g11 g12 g13 k1 s1 b1), (x1, instObj 126 d1), (b1, W.listOf vs1.toArray n1), (111, tblOf q1), (118, tblOf q2)], q.1 < s.heap.objs.size := fun q hq => Heap.lt_size (N q hq).1
  have hb0 : ∀ (b : Nat) o, h₀.get? b = some o → b < s.heap.objs.size := fun b o e => Heap.lt_size (F.keep b o e)
  generalize s.heap.objs.size = n9 at *
  have off : ∀ c : Nat, c < n9 → c ≠ n9 ∧ c ≠ n9 + 1 ∧ c ≠ n9 + 2 ∧ c ≠ n9 + 4 ∧ c ≠ n9 + 5 := fun c hc => by omega
  have none9 : ∀ c : Nat, n9 ≤ c → h₀.get? c = none := fun c hc => by
    cases e : h₀.get? c with
    | none => rfl
    | some o => exact absurd (hb0 c o e) (Nat.not_lt.mpr hc)
  have bl1 : lr < n9 := hlt (lr, _) (by k_mem)
  have bl2 : ls < n9 := hlt (ls, _) (by k_mem)
  have bl3 : ln < n9 := hlt (ln, _) (by k_mem)
  have adr : ∀ {o1' o2' o3' o4' q1' q2'}, ∀ q ∈ ([(c4, o4'), (c3, o3'), (c2, o2'), (c1, o1'), (ls, W.listOf #[.int s0 ts0, .int s1 ts1] ns), (lr, W.listOf #[.ref x0, .ref x1] nr), (ln, W.listOf #[.int N0 tn0, .int N1 tn1] nn), (d0, rowD t01 t02 t03 u01 u03 g01 g02 g03 k0 s0 b0), (x0, instObj 126 d0), (b0, W.listOf vs0.toArray n0), (d1, rowD t11 t12 t13 u11 u13 g11 g12 g13 k1 s1 b1), (x1, instObj 126 d1), (b1, W.listOf vs1.toArray n1), (111, tblOf q1'), (118, tblOf q2')] : List (Addr × Obj)), q.1 < n9 := by
    intro o1' o2' o3' o4' q1' q2' q hq
    simp only [List.mem_cons, List.not_mem_nil, or_false] at hq
    rcases hq with rfl | rfl | rfl | rfl | rfl | rfl | rfl | rfl | rfl | rfl | rfl | rfl | rfl | rfl | rfl
    · exact hlt (c4, o4) (by k_mem)
    · exact hlt (c3, o3) (by k_mem)
    · exact hlt (c2, o2) (by k_mem)
    · exact hlt (c1, o1) (by k_mem)
    · exact hlt (ls, _) (by k_mem)
    · exact hlt (lr, _) (by k_mem)
    · exact hlt (ln, _) (by k_mem)
    · exact hlt (d0, _) (by k_mem)
    · exact hlt (x0, _) (by k_mem)
    · exact hlt (b0, _) (by k_mem)
    · exact hlt (d1, _) (by k_mem)
    · exact hlt (x1, _) (by k_mem)
    · exact hlt (b1, _) (by k_mem)
    · exact hlt (111, tblOf q1) (by k_mem)
    · exact hlt (118, tblOf q2) (by k_mem)
  have move : ∀ {g g' : Heap} {m o1' o2' o3' o4' q1' q2'}, Fr h₀ L g m → News h₀ L g [(c4, o4'), (c3, o3'), (c2, o2'), (c1, o1'), (ls, W.listOf #[.int s0 ts0, .int s1 ts1] ns), (lr, W.listOf #[.ref x0, .ref x1] nr), (ln, W.listOf #[.int N0 tn0, .int N1 tn1] nn), (d0, rowD t01 t02 t03 u01 u03 g01 g02 g03 k0 s0 b0), (x0, instObj 126 d0), (b0, W.listOf vs0.toArray n0), (d1, rowD t11 t12 t13 u11 u13 g11 g12 g13 k1 s1 b1), (x1, instObj 126 d1), (b1, W.listOf vs1.toArray n1), (111, tblOf q1'), (118, tblOf q2')] → (∀ (c : Nat) o, c ≠ n9 → c ≠ n9 + 1 → c ≠ n9 + 2 → c ≠ n9 + 4 → c ≠ n9 + 5 → g.get? c = some o → g'.get? c = some o) →
      Fr h₀ L g' m ∧ News h₀ L g' [(c4, o4'), (c3, o3'), (c2, o2'), (c1, o1'), (ls, W.listOf #[.int s0 ts0, .int s1 ts1] ns), (lr, W.listOf #[.ref x0, .ref x1] nr), (ln, W.listOf #[.int N0 tn0, .int N1 tn1] nn), (d0, rowD t01 t02 t03 u01 u03 g01 g02 g03 k0 s0 b0), (x0, instObj 126 d0), (b0, W.listOf vs0.toArray n0), (d1, rowD t11 t12 t13 u11 u13 g11 g12 g13 k1 s1 b1), (x1, instObj 126 d1), (b1, W.listOf vs1.toArray n1), (111, tblOf q1'), (118, tblOf q2')] := by
    intro g g' m o1' o2' o3' o4' q1' q2' F1 N1 up
    have up' : ∀ (c : Nat) o, c < n9 → g.get? c = some o → g'.get? c = some o := fun c o hc e => by
      obtain ⟨a1, a2, a3, a4, a5⟩ := off c hc
      exact up c o a1 a2 a3 a4 a5 e
    exact ⟨⟨F1.ns.at' fun o e => up' L o hLlt e, fun b o e => up' b o (hb0 b o e) (F1.keep b o e), F1.above⟩, fun q hq => ⟨up' _ _ (adr q hq) (N1 q hq).1, (N1 q hq).2⟩⟩
  refine for_zip3 (x := fun i => if i = 0 then .ref x0 else .ref x1) (y := fun i => if i = 0 then .int s0 ts0 else .int s1 ts1) (v := fun i => if i = 0 then .int N0 tn0 else .int N1 tn1)
    (fun i s9 => s9.os = s.os ∧ AllBare s9.gens ∧ (∃ u' o1' o2' o3' o4' w1' w2' w3' w4' q1' q2', o1'.data = .cell w1' ∧ o2'.data = .cell w2' ∧ o3'.data = .cell w3' ∧ o4'.data = .cell w4' ∧ TriplesOk q1'.toList ∧ TriplesOk q2'.toList ∧ Fr h₀ L s9.heap (lawMap lc ls lr ln head th u') ∧ News h₀ L s9.heap [(c4, o4'), (c3, o3'), (c2, o2'), (c1, o1'), (ls, W.listOf #[.int s0 ts0, .int s1 ts1] ns), (lr, W.listOf #[.ref x0, .ref x1] nr), (ln, W.listOf #[.int N0 tn0, .int N1 tn1] nn), (d0, rowD t01 t02 t03 u01 u03 g01 g02 g03 k0 s0 b0), (x0, instObj 126 d0), (b0, W.listOf vs0.toArray n0), (d1, rowD t11 t12 t13 u11 u13 g11 g12 g13 k1 s1 b1), (x1, instObj 126 d1), (b1, W.listOf vs1.toArray n1), (111, tblOf q1'), (118, tblOf q2')]) ∧ Zip3 s9.heap n9 lr ls ln i .none #[.ref x0, .ref x1] #[.int s0 ts0, .int s1 ts1] #[.int N0 tn0, .int N1 tn1]) rfl bl1 bl2 bl3 rfl ?hx ?hy ?hv (fun i s9 hK => hK.2.2.2) ?turn ?done ?start
  case hx => intro i hi; have : i = 0 ∨ i = 1 := by omega
             rcases this with rfl | rfl <;> rfl
  case hy => intro i hi; have : i = 0 ∨ i = 1 := by omega
             rcases this with rfl | rfl <;> rfl
  case hv => intro i hi; have : i = 0 ∨ i = 1 := by omega
             rcases this with rfl | rfl <;> rfl
  case start =>
    exact ⟨rfl, f3, ⟨u, o1, o2, o3, o4, w1, w2, w3, w4, q1, q2, e1, e2, e3, e4, f1, f2, F.keeps up1, N.grown up1⟩, Z1⟩
  case done =>
    rintro s9 h9 ⟨hos, hG, ⟨u', o1', o2', o3', o4', w1', w2', w3', w4', q1', q2', d1', d2', d3', d4', r1', r2', FF1, NN1⟩, _⟩ up
    obtain ⟨F9, N9⟩ := move FF1 NN1 up
    exact hC { s9 with heap := h9 } u' o1' o2' o3' o4' w1' w2' w3' w4' q1' q2' hos hG d1' d2' d3' d4' r1' r2' F9 N9
  case turn =>
    rintro i s9 h9 T9 hi ⟨hos, hG, ⟨u', o1', o2', o3', o4', w1', w2', w3', w4', q1', q2', d1', d2', d3', d4', r1', r2', FF1, NN1⟩, Z0⟩ Z hT9 hT up
    obtain ⟨F9, N9⟩ := move FF1 NN1 up
    obtain ⟨hz, hti, ⟨ta, tb, tc, hto⟩, ⟨y1, hy1, z1⟩, ⟨y2, hy2, z2⟩, ⟨y3, hy3, z3⟩, _, _, _⟩ := Z
    have cy1 := iter_cell z1
    have cy2 := iter_cell z2
    have cy3 := iter_cell z3
    have ty1 := iter_tbl z1
    have ty2 := iter_tbl z2
    have ty3 := iter_tbl z3
    have hT0 : n9 ≤ T9 := by
      have h1 : n9 + 5 < s9.heap.objs.size := Heap.lt_size Z0.z
      rw [hT9]; omega
    have hLn : ∀ c : Nat, n9 ≤ c → c ≠ L := fun c hc => Nat.ne_of_gt (Nat.lt_of_lt_of_le hLlt hc)
    have NZ : News h₀ L h9 [(n9, y1), (n9 + 1, y2), (n9 + 2, y3), (n9 + 3, triObj (.ref n9) (.ref (n9 + 1)) (.ref (n9 + 2))), (n9 + 4, triObj ta tb tc), (n9 + 5, zipObj n9)] := by
      intro q hq
      simp only [List.mem_cons, List.not_mem_nil, or_false] at hq
      rcases hq with rfl | rfl | rfl | rfl | rfl | rfl
      · exact ⟨hy1, hLn _ (by omega), none9 _ (by omega)⟩
      · exact ⟨hy2, hLn _ (by omega), none9 _ (by omega)⟩
      · exact ⟨hy3, hLn _ (by omega), none9 _ (by omega)⟩
      · exact ⟨hti, hLn _ (by omega), none9 _ (by omega)⟩
      · exact ⟨hto, hLn _ (by omega), none9 _ (by omega)⟩
      · exact ⟨hz, hLn _ (by omega), none9 _ (by omega)⟩
    have hi2 : i = 0 ∨ i = 1 := by omega
    rcases hi2 with rfl | rfl
    · have NT : News h₀ L h9 [(T9, triObj (.ref x0) (.int s0 ts0) (.int N0 tn0))] := fun q hq => by
        rw [List.mem_singleton.mp hq]; exact ⟨hT, hLn _ hT0, none9 _ hT0⟩
      replace N9 := (N9.append NZ).append NT
      simp only [List.cons_append, List.nil_append] at N9
      have rcl : ∀ q ∈ ([(ls, W.listOf #[.int s0 ts0, .int s1 ts1] ns), (lr, W.listOf #[.ref x0, .ref x1] nr), (ln, W.listOf #[.int N0 tn0, .int N1 tn1] nn), (d1, rowD t11 t12 t13 u11 u13 g11 g12 g13 k1 s1 b1), (x1, instObj 126 d1), (b1, W.listOf vs1.toArray n1), (n9, y1), (n9 + 1, y2), (n9 + 2, y3), (n9 + 3, triObj (.ref n9) (.ref (n9 + 1)) (.ref (n9 + 2))), (n9 + 4, triObj ta tb tc), (n9 + 5, zipObj n9)] : List (Addr × Obj)), isCell q.2 = false := by
        intro q hq
        simp only [List.mem_cons, List.not_mem_nil, or_false] at hq
        rcases hq with rfl | rfl | rfl | rfl | rfl | rfl | rfl | rfl | rfl | rfl | rfl | rfl <;> first | rfl | exact cy1 | exact cy2 | exact cy3
      have rtb : ∀ q ∈ ([(ls, W.listOf #[.int s0 ts0, .int s1 ts1] ns), (lr, W.listOf #[.ref x0, .ref x1] nr), (ln, W.listOf #[.int N0 tn0, .int N1 tn1] nn), (d1, rowD t11 t12 t13 u11 u13 g11 g12 g13 k1 s1 b1), (x1, instObj 126 d1), (b1, W.listOf vs1.toArray n1), (n9, y1), (n9 + 1, y2), (n9 + 2, y3), (n9 + 3, triObj (.ref n9) (.ref (n9 + 1)) (.ref (n9 + 2))), (n9 + 4, triObj ta tb tc), (n9 + 5, zipObj n9)] : List (Addr × Obj)), isTbl q.2 = false := by
        intro q hq
        simp only [List.mem_cons, List.not_mem_nil, or_false] at hq
        rcases hq with rfl | rfl | rfl | rfl | rfl | rfl | rfl | rfl | rfl | rfl | rfl | rfl <;> first | rfl | exact ty1 | exact ty2 | exact ty3
      refine zip_turn (s := { s9 with heap := h9 }) (rest := [(ls, W.listOf #[.int s0 ts0, .int s1 ts1] ns), (lr, W.listOf #[.ref x0, .ref x1] nr), (ln, W.listOf #[.int N0 tn0, .int N1 tn1] nn), (d1, rowD t11 t12 t13 u11 u13 g11 g12 g13 k1 s1 b1), (x1, instObj 126 d1), (b1, W.listOf vs1.toArray n1), (n9, y1), (n9 + 1, y2), (n9 + 2, y3), (n9 + 3, triObj (.ref n9) (.ref (n9 + 1)) (.ref (n9 + 2))), (n9 + 4, triObj ta tb tc), (n9 + 5, zipObj n9)]) B F9 X (kst_newsOf N9 (by kst_allIn)) T d1' d2' d3' d4' l1 l2 l3 r1' r2' hG rcl rtb pa pb pc pd ia ?_
      intro s5 u5 v1 v2 v3 v4 w5 w6 w7 w8 q5 q6 os5 G5 dd1 dd2 dd3 dd4 tr5 tr6 F5 N5
      have up5 : ∀ (c : Nat) oc, (c, oc) ∈ ([(ls, W.listOf #[.int s0 ts0, .int s1 ts1] ns), (lr, W.listOf #[.ref x0, .ref x1] nr), (ln, W.listOf #[.int N0 tn0, .int N1 tn1] nn), (d1, rowD t11 t12 t13 u11 u13 g11 g12 g13 k1 s1 b1), (x1, instObj 126 d1), (b1, W.listOf vs1.toArray n1), (n9, y1), (n9 + 1, y2), (n9 + 2, y3), (n9 + 3, triObj (.ref n9) (.ref (n9 + 1)) (.ref (n9 + 2))), (n9 + 4, triObj ta tb tc), (n9 + 5, zipObj n9)] : List (Addr × Obj)) → s5.heap.get? c = some oc := fun c oc hm => (N5 _ (List.mem_cons_of_mem _ (List.mem_cons_of_mem _ (List.mem_cons_of_mem _ (List.mem_cons_of_mem _ (List.mem_cons_of_mem _ (List.mem_cons_of_mem _ (List.mem_cons_of_mem _ (List.mem_cons_of_mem _ (List.mem_cons_of_mem _ (List.mem_cons_of_mem _ (hm)))))))))))).1
      refine ⟨rfl, os5.trans hos, G5, ⟨u5, v1, v2, v3, v4, w5, w6, w7, w8, q5, q6, dd1, dd2, dd3, dd4, tr5, tr6, F5, kst_newsOf N5 (by kst_allIn)⟩, ?_⟩
      exact ⟨up5 _ _ (by k_mem), up5 _ _ (by k_mem), ⟨ta, tb, tc, up5 _ _ (by k_mem)⟩, ⟨y1, up5 _ _ (by k_mem), z1⟩, ⟨y2, up5 _ _ (by k_mem), z2⟩, ⟨y3, up5 _ _ (by k_mem), z3⟩,
        ⟨_, up5 _ _ (by k_mem), rfl, nr, rfl⟩, ⟨_, up5 _ _ (by k_mem), rfl, ns, rfl⟩, ⟨_, up5 _ _ (by k_mem), rfl, nn, rfl⟩⟩
    · have NT : News h₀ L h9 [(T9, triObj (.ref x1) (.int s1 ts1) (.int N1 tn1))] := fun q hq => by
        rw [List.mem_singleton.mp hq]; exact ⟨hT, hLn _ hT0, none9 _ hT0⟩
      replace N9 := (N9.append NZ).append NT
      simp only [List.cons_append, List.nil_append] at N9
      have rcl : ∀ q ∈ ([(ls, W.listOf #[.int s0 ts0, .int s1 ts1] ns), (lr, W.listOf #[.ref x0, .ref x1] nr), (ln, W.listOf #[.int N0 tn0, .int N1 tn1] nn), (d0, rowD t01 t02 t03 u01 u03 g01 g02 g03 k0 s0 b0), (x0, instObj 126 d0), (b0, W.listOf vs0.toArray n0), (n9, y1), (n9 + 1, y2), (n9 + 2, y3), (n9 + 3, triObj (.ref n9) (.ref (n9 + 1)) (.ref (n9 + 2))), (n9 + 4, triObj ta tb tc), (n9 + 5, zipObj n9)] : List (Addr × Obj)), isCell q.2 = false := by
        intro q hq
        simp only [List.mem_cons, List.not_mem_nil, or_false] at hq
        rcases hq with rfl | rfl | rfl | rfl | rfl | rfl | rfl | rfl | rfl | rfl | rfl | rfl <;> first | rfl | exact cy1 | exact cy2 | exact cy3
      have rtb : ∀ q ∈ ([(ls, W.listOf #[.int s0 ts0, .int s1 ts1] ns), (lr, W.listOf #[.ref x0, .ref x1] nr), (ln, W.listOf #[.int N0 tn0, .int N1 tn1] nn), (d0, rowD t01 t02 t03 u01 u03 g01 g02 g03 k0 s0 b0), (x0, instObj 126 d0), (b0, W.listOf vs0.toArray n0), (n9, y1), (n9 + 1, y2), (n9 + 2, y3), (n9 + 3, triObj (.ref n9) (.ref (n9 + 1)) (.ref (n9 + 2))), (n9 + 4, triObj ta tb tc), (n9 + 5, zipObj n9)] : List (Addr × Obj)), isTbl q.2 = false := by
        intro q hq
        simp only [List.mem_cons, List.not_mem_nil, or_false] at hq
        rcases hq with rfl | rfl | rfl | rfl | rfl | rfl | rfl | rfl | rfl | rfl | rfl | rfl <;> first | rfl | exact ty1 | exact ty2 | exact ty3
      refine zip_turn (s := { s9 with heap := h9 }) (rest := [(ls, W.listOf #[.int s0 ts0, .int s1 ts1] ns), (lr, W.listOf #[.ref x0, .ref x1] nr), (ln, W.listOf #[.int N0 tn0, .int N1 tn1] nn), (d0, rowD t01 t02 t03 u01 u03 g01 g02 g03 k0 s0 b0), (x0, instObj 126 d0), (b0, W.listOf vs0.toArray n0), (n9, y1), (n9 + 1, y2), (n9 + 2, y3), (n9 + 3, triObj (.ref n9) (.ref (n9 + 1)) (.ref (n9 + 2))), (n9 + 4, triObj ta tb tc), (n9 + 5, zipObj n9)]) B F9 X (kst_newsOf N9 (by kst_allIn)) T d1' d2' d3' d4' l1 l2 l3 r1' r2' hG rcl rtb qa qb qc qd ib ?_
      intro s5 u5 v1 v2 v3 v4 w5 w6 w7 w8 q5 q6 os5 G5 dd1 dd2 dd3 dd4 tr5 tr6 F5 N5
      have up5 : ∀ (c : Nat) oc, (c, oc) ∈ ([(ls, W.listOf #[.int s0 ts0, .int s1 ts1] ns), (lr, W.listOf #[.ref x0, .ref x1] nr), (ln, W.listOf #[.int N0 tn0, .int N1 tn1] nn), (d0, rowD t01 t02 t03 u01 u03 g01 g02 g03 k0 s0 b0), (x0, instObj 126 d0), (b0, W.listOf vs0.toArray n0), (n9, y1), (n9 + 1, y2), (n9 + 2, y3), (n9 + 3, triObj (.ref n9) (.ref (n9 + 1)) (.ref (n9 + 2))), (n9 + 4, triObj ta tb tc), (n9 + 5, zipObj n9)] : List (Addr × Obj)) → s5.heap.get? c = some oc := fun c oc hm => (N5 _ (List.mem_cons_of_mem _ (List.mem_cons_of_mem _ (List.mem_cons_of_mem _ (List.mem_cons_of_mem _ (List.mem_cons_of_mem _ (List.mem_cons_of_mem _ (List.mem_cons_of_mem _ (List.mem_cons_of_mem _ (List.mem_cons_of_mem _ (List.mem_cons_of_mem _ (hm)))))))))))).1
      refine ⟨rfl, os5.trans hos, G5, ⟨u5, v1, v2, v3, v4, w5, w6, w7, w8, q5, q6, dd1, dd2, dd3, dd4, tr5, tr6, F5, kst_newsOf N5 (by kst_allIn)⟩, ?_⟩
      exact ⟨up5 _ _ (by k_mem), up5 _ _ (by k_mem), ⟨ta, tb, tc, up5 _ _ (by k_mem)⟩, ⟨y1, up5 _ _ (by k_mem), z1⟩, ⟨y2, up5 _ _ (by k_mem), z2⟩, ⟨y3, up5 _ _ (by k_mem), z3⟩,
        ⟨_, up5 _ _ (by k_mem), rfl, nr, rfl⟩, ⟨_, up5 _ _ (by k_mem), rfl, ns, rfl⟩, ⟨_, up5 _ _ (by k_mem), rfl, nn, rfl⟩⟩

end PZL
section PFT
theorem slot_ty_format : Slot "type" "__format__" "object.__format__" :=
  .of (owner := "object") (n := "__format__") (by rw [typeLookup_type, builtinLookup_eq_fast]; kernel_rfl) (by decide +kernel) (by decide +kernel) (by decide +kernel)
    (by first | exact .inl (by decide +kernel) | exact .inr (by decide +kernel)) (by rw [isSubtype_type]; kernel_rfl)
theorem slot_ty_str : Slot "type" "__str__" "object.__str__" :=
  .of (owner := "object") (n := "__str__") (by rw [typeLookup_type, builtinLookup_eq_fast]; kernel_rfl) (by decide +kernel) (by decide +kernel) (by decide +kernel)
    (by first | exact .inl (by decide +kernel) | exact .inr (by decide +kernel)) (by rw [isSubtype_type]; kernel_rfl)
theorem slot_ty_repr : Slot "type" "__repr__" "type.__repr__" :=
  .of (owner := "type") (n := "__repr__") (by rw [typeLookup_type, builtinLookup_eq_fast]; kernel_rfl) (by decide +kernel) (by decide +kernel) (by decide +kernel)
    (by first | exact .inl (by decide +kernel) | exact .inr (by decide +kernel)) (by rw [isSubtype_type]; kernel_rfl)
theorem entry_ty_repr : entryFor table "type.__repr__" = some Builtin.«type.__repr__» := entryFor_of_tree (by kernel_rfl)
theorem owner_ty : Manifest.owners.lookup (String.ofList ['e', 'p', 'y', 't'].reverse) = some Manifest.sig_type := by kernel_rfl
theorem args_ty_repr (a : Value) : argsOk "type.__repr__" ⟨[a], []⟩ := by
  unfold argsOk; rw [signature?_of (id := "type.__repr__") (n := ['_', '_', 'r', 'p', 'e', 'r', '_', '_']) (o := ['e', 'p', 'y', 't']) (by kernel_rfl) owner_ty]; kernel_rfl
theorem gives_str_repr : Gives (Builtin.«type.__repr__» ⟨[.type "str"], []⟩) (.str (Str.ofString "<class 'str'>")) := .of_eq rfl
theorem gives_nt_repr : Gives (Builtin.«type.__repr__» ⟨[.type "NoneType"], []⟩) (.str (Str.ofString "<class 'NoneType'>")) := .of_eq rfl
theorem meta_s (s' : Shared) : s'.TypeIs (.type "str") "type" := by show typeOf _ = _; kernel_rfl
theorem meta_n (s' : Shared) : s'.TypeIs (.type "NoneType") "type" := by show typeOf _ = _; kernel_rfl
theorem format_str_type (u : Tok) : Gives (Builtin.«object.__format__» ⟨[.type "str", .str Str.empty u], []⟩) (.str (Str.ofString "<class 'str'>")) := by
  show Gives (do let _shown ← typeNameOf (.str Str.empty u); (do ret (← pyStrObj (.type "str")))) _
  exact gives_after_typeNameOf (T := "str") (fun s => typeIs_str s _ _) (by decide) fun _ =>
    gives_ret_pyStrObj (fun _ _ e => nomatch e) meta_s slot_ty_str slot_ty_repr entry_ty_repr (args_ty_repr _) gives_str_repr
theorem format_nt_type (u : Tok) : Gives (Builtin.«object.__format__» ⟨[.type "NoneType", .str Str.empty u], []⟩) (.str (Str.ofString "<class 'NoneType'>")) := by
  show Gives (do let _shown ← typeNameOf (.str Str.empty u); (do ret (← pyStrObj (.type "NoneType")))) _
  exact gives_after_typeNameOf (T := "str") (fun s => typeIs_str s _ _) (by decide) fun _ =>
    gives_ret_pyStrObj (fun _ _ e => nomatch e) meta_n slot_ty_str slot_ty_repr entry_ty_repr (args_ty_repr _) gives_nt_repr
section
variable {prog : Program} {w : World} {A : Around} {E : Value → Shared → Prop} {s : Shared}
theorem field_str_type {Q : Value → Shared → Prop} (h : Q (.str (Str.ofString "<class 'str'>") (s.toks + 1)) { s with toks := s.toks + 1 + 1 }) : wpAny (model prog w) A (formatField (.type "str") Str.empty) Q E s :=
  wpAny_formatField_gives (fun _ _ e => nomatch e) meta_s slot_ty_format F.entry_object_format F.args_object_format_2 format_str_type h (by decide)
theorem field_nt_type {Q : Value → Shared → Prop} (h : Q (.str (Str.ofString "<class 'NoneType'>") (s.toks + 1)) { s with toks := s.toks + 1 + 1 }) : wpAny (model prog w) A (formatField (.type "NoneType") Str.empty) Q E s :=
  wpAny_formatField_gives (fun _ _ e => nomatch e) meta_n slot_ty_format F.entry_object_format F.args_object_format_2 format_nt_type h (by decide)
end

end PFT
section PR1
theorem neg_len {i : Int} (h1 : -9 ≤ i) (h2 : i ≤ 0) : (Str.ofString (toString i)).length ≤ 24 := by
  have := @int_text_length_le10 i 21 (by omega) (by omega)
  have e := PySem.ofString_length (toString i)
  omega
theorem neg_fits {i : Int} (h : (Str.ofString (toString i)).length ≤ 24) : (Str.empty ++ Str.ofString "Bitarray size must be larger than 1; " ++ Str.ofString (toString i) ++ Str.ofString " was provided").length ≤ sizeLine := by
  have h1 : (Str.ofString "Bitarray size must be larger than 1; ").length = 37 := by decide
  have h2 : (Str.ofString " was provided").length = 13 := by decide
  have h3 : (Str.empty).length = 0 := by decide
  simp only [Str.length_append, h1, h2, h3, PySem.sizeLine_eq]
  omega
theorem refused_int : ∀ {w : World} {p : Program} {loose : List Str} {mean : ExcName → Option Value} {mg mb : Str → Option Value} {h₀ : Heap} {env : Env} {L : Addr} {m : Str → Option Value} {s : Shared} {R : Result → Shared → Prop} {i : Int} {t : Tok} {news : List (Addr × Obj)},
   Below callerA h₀ [] h₀ → Fr h₀ L s.heap m → (hd.heap_1 w.params).In h₀ → News h₀ L s.heap news → Top p loose mean mg mb h₀ → env.frame = some L → env.scope.kind = .function → -9 ≤ i → i ≤ 0 →
   (∀ h' tk t', Fr h₀ L h' m → News h₀ L h' news → R (.ok (.ret (.str (Str.ofString "value") t'))) { s with heap := h', toks := tk }) →
   codeAny (model PySem.Challenge.rw_aw0020_01.row.prog w) (callerA.deeper env) (.call (.ref 144) ⟨[.int i t], []⟩) R s := by
  k_fill
  w_top off
  intro w p loose mean mg mb h₀ env L m s R i t news B F X N T hf hke a1 a2 h
  refine' enter_try (binds := [(Str.ofString "size", .int i t)]) B F X N T ?kA hf hke ?k6 ?k7 ?k8 ?k9 ?kB ?_ ?c2 ?c3 ?c4 ?c5
  case kA => exact rfl
  case k6 => k_is
  case k7 => k_is
  case k8 => k_room
  case k9 => exact BindsTo.of_eq rfl
  case c5 => decide
  case kB => exact locs rfl
  case c2 => exact rfl
  case c3 => exact rfl
  case c4 => exact rfl
  intro g' L' h' FG' F' N' B' X' T' D'
  have hpl := neg_len a1 a2
  (try dsimp only)
  (try k_fold)
  iterate 57 (walk_at "mine.step")
  refine joinParts_nilE ?_
  refine joinParts_nil ?_ (neg_fits (by assumption))
  iterate 4 (walk_at "mine.step")
  k_dflt (dsimp only [InitBack])
  k_steps
  rename Fr h₀ _ _ _ => F9
  rename News h₀ _ _ _ => N9
  exact h _ _ _ F9 (kst_newsOf N9 (by kst_allIn))

end PR1
section PR2
theorem refused_str : ∀ {w : World} {p : Program} {loose : List Str} {mean : ExcName → Option Value} {mg mb : Str → Option Value} {h₀ : Heap} {env : Env} {L : Addr} {m : Str → Option Value} {s : Shared} {R : Result → Shared → Prop} {t : Tok} {news : List (Addr × Obj)},
   Below callerA h₀ [] h₀ → Fr h₀ L s.heap m → (hd.heap_1 w.params).In h₀ → News h₀ L s.heap news → Top p loose mean mg mb h₀ → env.frame = some L → env.scope.kind = .function →
   (∀ h' tk t', Fr h₀ L h' m → News h₀ L h' news → R (.ok (.ret (.str (Str.ofString "kind") t'))) { s with heap := h', toks := tk }) →
   codeAny (model PySem.Challenge.rw_aw0020_01.row.prog w) (callerA.deeper env) (.call (.ref 144) ⟨[.str (Str.ofString "8") t], []⟩) R s := by
  k_fill
  w_top off
  intro w p loose mean mg mb h₀ env L m s R t news B F X N T hf hke  h
  refine' enter_try (binds := [(Str.ofString "size", .str (Str.ofString "8") t)]) B F X N T ?kA hf hke ?k6 ?k7 ?k8 ?k9 ?kB ?_ ?c2 ?c3 ?c4 ?c5
  case kA => exact rfl
  case k6 => k_is
  case k7 => k_is
  case k8 => k_room
  case k9 => exact BindsTo.of_eq rfl
  case c5 => decide
  case kB => exact locs rfl
  case c2 => exact rfl
  case c3 => exact rfl
  case c4 => exact rfl
  intro g' L' h' FG' F' N' B' X' T' D'
  (try dsimp only)
  (try k_fold)
  iterate 49 (walk_at "mine.step")
  k_dflt (refine field_str_type ?_)
  iterate 9 (walk_at "mine.step")
  k_dflt (dsimp only [InitBack])
  k_steps
  rename Fr h₀ _ _ _ => F9
  rename News h₀ _ _ _ => N9
  exact h _ _ _ F9 (kst_newsOf N9 (by kst_allIn))

end PR2
section PR3
theorem refused_none : ∀ {w : World} {p : Program} {loose : List Str} {mean : ExcName → Option Value} {mg mb : Str → Option Value} {h₀ : Heap} {env : Env} {L : Addr} {m : Str → Option Value} {s : Shared} {R : Result → Shared → Prop}  {news : List (Addr × Obj)},
   Below callerA h₀ [] h₀ → Fr h₀ L s.heap m → (hd.heap_1 w.params).In h₀ → News h₀ L s.heap news → Top p loose mean mg mb h₀ → env.frame = some L → env.scope.kind = .function →
   (∀ h' tk t', Fr h₀ L h' m → News h₀ L h' news → R (.ok (.ret (.str (Str.ofString "kind") t'))) { s with heap := h', toks := tk }) →
   codeAny (model PySem.Challenge.rw_aw0020_01.row.prog w) (callerA.deeper env) (.call (.ref 144) ⟨[.none], []⟩) R s := by
  k_fill
  w_top off
  intro w p loose mean mg mb h₀ env L m s R  news B F X N T hf hke  h
  refine' enter_try (binds := [(Str.ofString "size", .none)]) B F X N T ?kA hf hke ?k6 ?k7 ?k8 ?k9 ?kB ?_ ?c2 ?c3 ?c4 ?c5
  case kA => exact rfl
  case k6 => k_is
  case k7 => k_is
  case k8 => k_room
  case k9 => exact BindsTo.of_eq rfl
  case c5 => decide
  case kB => exact locs rfl
  case c2 => exact rfl
  case c3 => exact rfl
  case c4 => exact rfl
  intro g' L' h' FG' F' N' B' X' T' D'
  (try dsimp only)
  (try k_fold)
  iterate 49 (walk_at "mine.step")
  k_dflt (refine field_nt_type ?_)
  iterate 9 (walk_at "mine.step")
  k_dflt (dsimp only [InitBack])
  k_steps
  rename Fr h₀ _ _ _ => F9
  rename News h₀ _ _ _ => N9
  exact h _ _ _ F9 (kst_newsOf N9 (by kst_allIn))

end PR3
section PLL
/-- the law's last line -/
theorem last_line : ∀ {w : World} {p : Program} {loose : List Str} {mean : ExcName → Option Value} {mg mb : Str → Option Value} {h₀ : Heap} {L fa : Addr} {cd : Value} {s : Shared} {Q : Flow → Shared → Prop} {u : Str → Option Value}
   {lc ls lr ln c1 c2 c3 c4 : Nat} {head : Int} {th : Tok} {news : List (Addr × Obj)},
   Below callerA h₀ [] h₀ → Fr h₀ L s.heap (lawMap lc ls lr ln head th u) → (hd.heap_1 w.params).In h₀ → News h₀ L s.heap news → Top p loose mean mg mb h₀ →
   (∀ h' tk, Fr h₀ L h' (lawMap lc ls lr ln head th u) → News h₀ L h' news → Q (.ret (.bool true)) { s with heap := h', toks := tk }) →
   wpAny (model PySem.Challenge.rw_aw0020_01.row.prog w) (callerA.deeper (lawEnv L fa cd c1 c2 c3 c4)) (execs law6 (lawEnv L fa cd c1 c2 c3 c4)) Q (fun _ _ => False) s := by
  k_fill
  w_top off
  intro w p loose mean mg mb h₀ L fa cd s Q u lc ls lr ln c1 c2 c3 c4 head th news B F X N₁ T hC
  have hn0 := Int.fmod_nonneg_of_pos head (b := 9) (by decide)
  have hn1 := Int.fmod_lt_of_pos head (b := 9) (by decide)
  unfold law6 lawEnv lawScope lawBody lawDef PySem.Challenge.pw_aw0020_01
  dsimp only [List.take, List.drop, List.cons_append, List.nil_append]
  iterate 3 (walk_at "mine.step")
  k_dflt (refine LCg.ListComp_U (F₀ := by k_asm) (by with_unfolding_all rfl) (by decide) (by rfl) (by decide) (by rfl) ?_)
  iterate 19 (walk_at "mine.step")
  k_dflt (refine LCg.CompSrc.ledger (by rfl) (by k_asm) (by k_asm) (by k_mem) (by first | size_fits | exact Nat.le_of_ble_eq_true rfl) ?_)
  intro g9
  k_dflt lcg_lit
  iterate 9 (walk_at "mine.step")
  k_dflt (refine wpAny_call ?_)
  k_dflt (refine' refused_int ?kB0 ?kF ?kX ?kN ?kT ?kf ?kk ?a1 ?a2 ?_)
  case kB0 => k_asm
  case kF => k_asm
  case kX => k_asm
  case kN => k_asm
  case kT => k_asm
  case kf => exact rfl
  case kk => exact rfl
  case a1 => omega
  case a2 => omega
  intro h9 tk9 t9 F9 N9
  (try dsimp only)
  iterate 1 (walk_at "mine.step")
  k_dflt (refine' comp_same ?ceF ?ceN ?ceOff ?ceS ?_)
  case ceF => k_asm
  case ceN => k_asm
  case ceOff => k_dflt (first | assumption | (simp only [LCg.Off3, and_true]; assumption))
  case ceS => exact Or.inr ⟨_, by k_mem, rfl, _, rfl⟩
  iterate 9 (walk_at "mine.step")
  k_dflt (refine wpAny_call ?_)
  k_dflt (refine' refused_int ?kB1 ?kF ?kX ?kN ?kT ?kf ?kk ?a1 ?a2 ?_)
  case kB1 => k_asm
  case kF => k_asm
  case kX => k_asm
  case kN => k_asm
  case kT => k_asm
  case kf => exact rfl
  case kk => exact rfl
  case a1 => omega
  case a2 => omega
  intro h9 tk9 t9 F9 N9
  (try dsimp only)
  iterate 1 (walk_at "mine.step")
  k_dflt (refine' comp_same ?ceF ?ceN ?ceOff ?ceS ?_)
  case ceF => k_asm
  case ceN => k_asm
  case ceOff => k_dflt (first | assumption | (simp only [LCg.Off3, and_true]; assumption))
  case ceS => exact Or.inr ⟨_, by k_mem, rfl, _, rfl⟩
  iterate 9 (walk_at "mine.step")
  k_dflt (refine wpAny_call ?_)
  k_dflt (refine' refused_str ?kB2 ?kF ?kX ?kN ?kT ?kf ?kk ?_)
  case kB2 => k_asm
  case kF => k_asm
  case kX => k_asm
  case kN => k_asm
  case kT => k_asm
  case kf => exact rfl
  case kk => exact rfl
  intro h9 tk9 t9 F9 N9
  (try dsimp only)
  iterate 1 (walk_at "mine.step")
  k_dflt (refine' comp_same ?ceF ?ceN ?ceOff ?ceS ?_)
  case ceF => k_asm
  case ceN => k_asm
  case ceOff => k_dflt (first | assumption | (simp only [LCg.Off3, and_true]; assumption))
  case ceS => exact Or.inr ⟨_, by k_mem, rfl, _, rfl⟩
  iterate 9 (walk_at "mine.step")
  k_dflt (refine wpAny_call ?_)
  k_dflt (refine' refused_none ?kB3 ?kF ?kX ?kN ?kT ?kf ?kk ?_)
  case kB3 => k_asm
  case kF => k_asm
  case kX => k_asm
  case kN => k_asm
  case kT => k_asm
  case kf => exact rfl
  case kk => exact rfl
  intro h9 tk9 t9 F9 N9
  (try dsimp only)
  iterate 1 (walk_at "mine.step")
  k_dflt (refine' comp_same ?ceF ?ceN ?ceOff ?ceS ?_)
  case ceF => k_asm
  case ceN => k_asm
  case ceOff => k_dflt (first | assumption | (simp only [LCg.Off3, and_true]; assumption))
  case ceS => exact Or.inr ⟨_, by k_mem, rfl, _, rfl⟩
  k_steps
  rename Fr h₀ _ _ _ => FZ
  rename News h₀ _ _ _ => NZ
  exact hC _ _ FZ (kst_newsOf NZ (by kst_allIn))

end PLL
section PLW
abbrev tabs2 : List (Addr × Addr) := [(115, 111), (122, 118)]
theorem no_tabs (P : Params) : noTabs (hd.heap_1 P) = true := by rfl
/-- the whole body of the law -/
theorem law_walk {w : World} {p : Program} {loose : List Str} {mean : ExcName → Option Value} {mg mb : Str → Option Value} {h₀ : Heap} {L fa : Addr} {cd : Value} {s : Shared} {Q : Flow → Shared → Prop}
   {lc c1 c2 c3 c4 : Nat} {o1 o2 o3 o4 : Obj} {vs : List Value} {is : List Int}
   (B : Below callerA h₀ [] h₀) (F : Fr h₀ L s.heap (fun y => if y = Str.ofString "script" then some (.ref lc) else none)) (X : (hd.heap_1 w.params).In h₀) (HT : TabsAt tabs2 h₀)
   (N : News h₀ L s.heap [(c4, o4), (c3, o3), (c2, o2), (c1, o1)]) (e1 : o1.data = .cell none) (e2 : o2.data = .cell none) (e3 : o3.data = .cell none) (e4 : o4.data = .cell none)
   (l1 : c1 < c2) (l2 : c2 < c3) (l3 : c3 < c4) (T : Top p loose mean mg mb h₀) (hl : h₀.IsList lc vs.toArray) (hi : IntsAre vs is) (hlen : is.length ≤ 63) (hg : AllBare s.gens)
   (hQ : ∀ s', s'.os = s.os → AllBare s'.gens → (∀ b o, b ∉ tabs2.map (·.2) → h₀.get? b = some o → s'.heap.get? b = some o) → (∃ ps, s'.heap.get? 111 = some (tblOf ps)) → (∃ ps, s'.heap.get? 118 = some (tblOf ps)) → Q (.ret (.bool true)) s') :
   wpAny (model PySem.Challenge.rw_aw0020_01.row.prog w) (callerA.deeper (lawEnv L fa cd c1 c2 c3 c4)) (execs lawBody (lawEnv L fa cd c1 c2 c3 c4)) Q (fun _ _ => False) s := by
  refine pro_A B F X N e1 e2 e3 e4 l1 l2 l3 T hl hi hlen fun h1 tk1 head th F1 N1 => ?_
  refine pro_B (s := { s with heap := h1, toks := tk1 }) B F1 X N1 e1 e2 e3 e4 l1 l2 l3 T ?_
  intro h2 tk2 u ls lr ln x0 d0 b0 x1 d1 b1 s0 s1 k0 k1 ts0 ts1 tn0 tn1 t01 t02 t03 u01 u03 t11 t12 t13 u11 u13 g01 g02 g03 g11 g12 g13 vs0 vs1 ns nr nn n0 n1
    a1 a2 a3 a4 a5 a6 a7 a8 a9 a10 a11 a12 a13 a14 p1 p2 p3 p4 q1 q2 q3 q4 i0 i1 F2 N2
  refine loop_spec (s := { s with heap := h2, toks := tk2 }) B F2 X N2 T hl hi hlen e1 e2 e3 e4 l1 l2 l3 a1 a2 a3 a4 a5 a6 a7 a8 a9 a10 a11 a12 a13 a14 p1 p2 p3 p4 q1 q2 q3 q4 i0 i1 ?_
  intro h3 tk3 u3' o1' o2' o3' w1' w2' w3' N0' N1' tn0' tn1' vs0' vs1' nn' f1 f2 f3 j0 j1 _ _ _ _ F3 N3
  have F4 := ghost_fr HT F3
  have N4 := ghost_news HT F3 N3
  have X4 : (hd.heap_1 w.params).In (ghostOf h₀ tabs2) := ghost_K HT X (no_tabs _)
  have T4 := ghost_top HT T
  have B4 := ghost_below (h₁ := h₀) (tabs := tabs2) HT
  refine zip_loop (s := { s with heap := h3, toks := tk3 }) (q1 := #[]) (q2 := #[]) B4 F4 X4 N4 T4 f1 f2 f3 e4 l1 l2 l3 ?t1 ?t2 hg p1 p2 p3 p4 q1 q2 q3 q4 j0 j1 ?_
  case t1 => exact trivial
  case t2 => exact trivial
  intro s5 u5 v1 v2 v3 v4 w5 w6 w7 w8 r1 r2 os5 G5 _ _ _ _ _ _ F5 N5
  refine last_line B4 F5 X4 N5 T4 fun h6 tk6 F6 N6 => ?_
  exact hQ _ os5 G5 (fun b o hb e => F6.keep b o (ghost_ne e hb)) ⟨_, (N6 (111, tblOf r1) (by k_mem)).1⟩ ⟨_, (N6 (118, tblOf r2) (by k_mem)).1⟩

end PLW
end Mine
theorem PySem.Challenge.cw_aw0020_01_holds : PySem.Challenge.rw_aw0020_01.Holds := by
  w_on
  o_law
  o_head (kmHook Mine.hd.heap_1 [2, 3, 15, 16, 18, 19, 21, 22, 30, 32, 33, 35, 36, 37, 39, 40, 42, 43, 44, 45, 47, 48, 50, 51, 52, 53, 55, 56, 58, 59, 60, 61, 63, 64, 66, 67, 68, 70, 71, 73, 74, 75, 77, 78, 80, 81, 82, 84, 85, 87, 88, 89, 91, 92, 94, 95, 96, 98, 99, 101, 102, 103, 105, 106, 108, 109, 110, 112, 113, 115, 116, 117, 119, 120, 122, 123, 124, 125, 126, 127, 128, 131, 133, 134, 136, 137, 138, 140, 141, 143, 144, 145, 148, 149] (fun _ => by kernel_rfl) [111, 118])
  (case hw => w_witness2)
  k_fill
  intro w s₀ s₁ mg mb G Y fa o pm cd doc dV kV ho hd hcd hD hmg hg args vals as hpre hlay hrd hwl hlo
  have KX := km_in_of Y
  have hT8 := km_tabs_of Y
  have HT : TabsAt Mine.tabs2 s₁.heap := List.forall_mem_cons.mpr ⟨⟨codeHd_of_K (c := 115) (P := 111) KX (by kernel_rfl), hT8 111 (by k_mem)⟩, List.forall_mem_cons.mpr ⟨⟨codeHd_of_K (c := 122) (P := 118) KX (by kernel_rfl), hT8 118 (by k_mem)⟩, fun _ h => nomatch h⟩⟩
  refine Ground.open G ?_
  intro T B D TE TW
  try (refine guard_noD D (by decide +kernel) ?_; clear D)
  have TA := at_of_top T
  clear hmg
  wrow_args hpre hlay hrd hwl hlo
  all_goals (
    first | refine callC_kw (enter_call ?_) | refine enter_call ?_ | refine callC_kw (enter_callW ?_) | refine enter_callW ?_ | w_how
    w_top on
    have K0 := below_caller (Top.heap T)
    w_call any ho hd hcd hD T F
    clear hd TA
    k_drop
    skip)
  rename News _ _ _ _ => N0
  rename Heap.IsList _ _ _ => hL
  rename IntsAre _ _ => hI
  refine' wpAny_mono (Mine.law_walk K0 ?kF KX HT N0 ?d1 ?d2 ?d3 ?d4 ?l1 ?l2 ?l3 T hL hI ?hlen (AllBare.of_eq hg) ?post) (fun _ _ h => h) (fun _ _ h => h.elim)
  case kF => with_unfolding_all exact F
  case hlen => omega
  case d1 => with_unfolding_all assumption
  case d2 => with_unfolding_all assumption
  case d3 => with_unfolding_all assumption
  case d4 => with_unfolding_all assumption
  case l1 => exact Nat.lt_succ_self _
  case l2 => exact Nat.lt_succ_self _
  case l3 => exact Nat.lt_succ_self _
  case post =>
    intro s' hos hG hk h111 h118
    have keep : ∀ b o, b ∉ Mine.tabs2.map (·.2) → s₁.heap.get? b = some o → s'.heap.get? b = some o := hk
    have grown : ∀ b o, b ∈ Mine.tabs2.map (·.2) → s₁.heap.get? b = some o → isCodeTable s₁.heap b ∧ o = tabObj #[] ∧ ∃ ps, s'.heap.get? b = some (tabObj ps) := fun b o hb e => by
      obtain ⟨q, hq, rfl⟩ := List.mem_map.mp hb
      have e2 := (HT q hq).2
      rw [e] at e2
      refine ⟨((HT q hq).1.tab (HT q hq).2).isCodeTable, Option.some.inj e2, ?_⟩
      rcases List.mem_cons.mp hq with rfl | hq
      · exact h111
      · rw [List.mem_singleton.mp hq]; exact h118
    refine ⟨.inl ⟨_, _, [], rfl, raisesW_false (by wrow_none_raised), ReadsW.bool _, postW_of (by wrow_shape) (by wtm_val) (by str_meet; first | done | w_fin), fun _ => ⟨List.nodup_nil, fun _ h => nomatch h⟩⟩, ⟨fun b o e => ?_, fun b o e => ?_⟩, hos, hG⟩
    · by_cases hb : b ∈ Mine.tabs2.map (·.2)
      · obtain ⟨ht, rfl, ps, hP⟩ := grown b o hb e
        exact .inr (.inl ⟨ht, rfl, #[], ps, rfl, by rw [Array.empty_append]; exact hP⟩)
      · exact .inl (keep b o hb e)
    · by_cases hb : b ∈ Mine.tabs2.map (·.2)
      · obtain ⟨_, _, ps, hP⟩ := grown b o hb e
        exact ⟨_, hP⟩
      · exact ⟨o, keep b o hb e⟩
