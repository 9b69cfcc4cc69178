import PyProof.Rows.All
import Wide.All
import OpenK.AllK
import Wide.FinOn
import PySem.Challenge.RW_bq0021_02
open PySem PySem.W PyProof.Rows
set_option Elab.async false
set_option maxRecDepth 100000
namespace Mine
/-- the number of bits -/
def digN (n : Nat) : Nat := if n = 0 then 0 else n.log2 + 1
def dig (d : Int) : Int := (digN d.toNat : Nat)
/-- the ones, by a fuel that suffices -/
def onesF : Nat → Nat → Nat
  | 0, _ => 0
  | f + 1, n => n % 2 + onesF f (n / 2)
def onesN (n : Nat) : Nat := onesF (digN n) n
def ones (w : Int) : Int := (onesN w.toNat : Nat)

theorem digN_half (n : Nat) (h : n ≠ 0) : digN n = digN (n / 2) + 1 := by
  unfold digN
  rw [if_neg h]
  by_cases h2 : n / 2 = 0
  · rw [if_pos h2]
    have : n = 1 := by omega
    subst this
    decide
  · rw [if_neg h2]
    rw [Nat.log2_def n, if_pos (by omega)]

theorem onesN_half (n : Nat) (h : n ≠ 0) : onesN n = n % 2 + onesN (n / 2) := by
  unfold onesN
  rw [digN_half n h]
  rfl

theorem two_toNat : (2 : Int) ^ Int.toNat 1 = 2 := by decide
theorem dig_step {d : Int} (h : d ≠ 0) (h0 : 0 ≤ d) : dig d = dig (d.fdiv 2) + 1 ∧ 0 ≤ d.fdiv 2 ∧ (d.fdiv 2).toNat < d.toNat := by
  rw [Int.fdiv_eq_ediv_of_nonneg _ (by decide)]
  have e : (d / 2).toNat = d.toNat / 2 := by omega
  unfold dig
  rw [digN_half d.toNat (by omega), e]
  omega
theorem ones_step {w : Int} (h : 0 < w) : ones w = w.fmod 2 + ones (w.fdiv 2) ∧ (w.fdiv 2).toNat < w.toNat := by
  rw [Int.fdiv_eq_ediv_of_nonneg _ (by decide), Int.fmod_eq_emod_of_nonneg _ (by decide)]
  have e : (w / 2).toNat = w.toNat / 2 := by omega
  unfold ones
  rw [onesN_half w.toNat (by omega), e]
  omega
theorem ones_le {w : Int} (h : w ≤ 0) : ones w = 0 := by
  have e : w.toNat = 0 := by omega
  unfold ones
  rw [e]
  rfl
theorem dig_zero : dig 0 = 0 := rfl
theorem dig_facts (d : Int) : 0 ≤ dig d ∧ (d = 7973 → dig d = 13) ∧ (0 ≤ d ∧ d < 262144 → dig d ≤ 18) := by
  refine ⟨Int.natCast_nonneg _, fun e => by subst e; decide, fun ⟨h0, h1⟩ => ?_⟩
  unfold dig digN
  split
  · decide
  · rename_i hn
    have := (Nat.log2_lt hn).mpr (show d.toNat < 2 ^ 18 by omega)
    omega

/-- one turn of the remainder -/
def stepB (d : Int) : Int := PySem.Builtin.bitXor d (7973 * 2 ^ (dig d - dig 7973).toNat)
def restB : Nat → Int → Int
  | 0, d => d
  | n + 1, d => if 0 ≤ dig d - dig 7973 then restB n (stepB d) else d
def bch (v : Int) : Int := if 7 ≤ v ∧ v ≤ 40 then PySem.Builtin.bitOr (v * 4096) (restB 7 (v * 4096)) else 31892
/-- what the remainder's loop visits -/
def Seen (v d : Int) : Prop := ∃ k : Nat, k < 8 ∧ d = restB k (v * 4096)
theorem seen_all : ∀ i < 34, ∀ k < 8, 0 ≤ restB k ((7 + (i : Nat) : Int) * 4096) ∧ restB k ((7 + (i : Nat) : Int) * 4096) < 262144 ∧
    (0 ≤ dig (restB k ((7 + (i : Nat) : Int) * 4096)) - dig 7973 → k + 1 < 8 ∧ stepB (restB k ((7 + (i : Nat) : Int) * 4096)) = restB (k + 1) ((7 + (i : Nat) : Int) * 4096) ∧
      (stepB (restB k ((7 + (i : Nat) : Int) * 4096))).toNat < (restB k ((7 + (i : Nat) : Int) * 4096)).toNat) ∧
    (¬ 0 ≤ dig (restB k ((7 + (i : Nat) : Int) * 4096)) - dig 7973 → restB k ((7 + (i : Nat) : Int) * 4096) = restB 7 ((7 + (i : Nat) : Int) * 4096)) := by decide +kernel
theorem of_v {v : Int} (h1 : 7 ≤ v) (h2 : v ≤ 40) : ∃ i : Nat, i < 34 ∧ v = 7 + (i : Nat) := ⟨(v - 7).toNat, by omega, by omega⟩
theorem seen_start (v : Int) : Seen v (v * 4096) := ⟨0, by decide, rfl⟩
theorem seen_bound {v d : Int} (h1 : 7 ≤ v) (h2 : v ≤ 40) (h : Seen v d) : 0 ≤ d ∧ d < 262144 := by
  obtain ⟨i, hi, rfl⟩ := of_v h1 h2
  obtain ⟨k, hk, rfl⟩ := h
  have := seen_all i hi k hk
  exact ⟨this.1, this.2.1⟩
theorem seen_turn {v d : Int} (h1 : 7 ≤ v) (h2 : v ≤ 40) (h : Seen v d) (ht : 0 ≤ dig d - dig 7973) : Seen v (stepB d) ∧ (stepB d).toNat < d.toNat := by
  obtain ⟨i, hi, rfl⟩ := of_v h1 h2
  obtain ⟨k, hk, rfl⟩ := h
  obtain ⟨a, b, c⟩ := (seen_all i hi k hk).2.2.1 ht
  exact ⟨⟨k + 1, a, b⟩, c⟩
theorem seen_end {v d : Int} (h1 : 7 ≤ v) (h2 : v ≤ 40) (h : Seen v d) (ht : ¬ 0 ≤ dig d - dig 7973) : PySem.Builtin.bitOr (v * 4096) d = bch v := by
  obtain ⟨i, hi, rfl⟩ := of_v h1 h2
  obtain ⟨k, hk, rfl⟩ := h
  unfold bch
  rw [if_pos ⟨h1, h2⟩, (seen_all i hi k hk).2.2.2 ht]
/-- one place up, round -/
def rot (t : Int) : Int := (t * 2).fmod 8388608 + t.fdiv 4194304
def rotN : Nat → Int → Int
  | 0, t => t
  | n + 1, t => rot (rotN n t)
theorem bch_facts (v : Int) : 0 ≤ bch v ∧ bch v < 262144 ∧ (ones (bch v) = 8 ∨ ones (bch v) = 12 ∨ ones (bch v) = 16) := by
  have key : ∀ i < 34, 0 ≤ bch (7 + (i : Nat)) ∧ bch (7 + (i : Nat)) < 262144 ∧ (ones (bch (7 + (i : Nat))) = 8 ∨ ones (bch (7 + (i : Nat))) = 12 ∨ ones (bch (7 + (i : Nat))) = 16) := by decide +kernel
  by_cases h : 7 ≤ v ∧ v ≤ 40
  · obtain ⟨i, hi, rfl⟩ := of_v h.1 h.2
    exact key i hi
  · rw [show bch v = 31892 from if_neg h]
    decide +kernel
theorem xor_and (a : Nat) : ∀ b : Nat, a + b = (a ^^^ b) + 2 * (a &&& b) := by
  induction a using Nat.strongRecOn with
  | ind a ih =>
    intro b
    by_cases h : a = 0
    · subst h; simp
    · have i := ih (a / 2) (by omega) (b / 2)
      have h1 : (a ^^^ b) / 2 = (a / 2) ^^^ (b / 2) := Nat.xor_div_two
      have h2 : (a &&& b) / 2 = (a / 2) &&& (b / 2) := Nat.and_div_two
      have h3 := @Nat.xor_mod_two_eq_one a b
      have h4 := @Nat.and_mod_two_eq_one a b
      omega
theorem xor_nat (a b : Nat) : PySem.Builtin.bitXor (a : Int) (b : Int) = ((a ^^^ b : Nat) : Int) := by
  have h : PySem.Builtin.bitAnd (a : Int) (b : Int) = ((a &&& b : Nat) : Int) := by
    rw [PyProof.Rows.bitAnd_pp (Int.natCast_nonneg _) (Int.natCast_nonneg _)]
    simp
  have := xor_and a b
  rw [PyProof.Rows.bitXor_and, h]
  omega
theorem onesN_all (n : Nat) : onesN n = n % 2 + onesN (n / 2) := by
  by_cases h : n = 0
  · subst h; rfl
  · exact onesN_half n h
def tab (n : Nat) : Nat := Nat.land (Nat.shiftRight 0x8776766576656554766565546554544376656554655454436554544354434332766565546554544365545443544343326554544354434332544343324332322176656554655454436554544354434332655454435443433254434332433232216554544354434332544343324332322154434332433232214332322132212110 (Nat.mul 4 n)) 15
theorem tab_ones : ∀ n < 256, tab n = onesN n := by decide +kernel
theorem ones_byte (n : Nat) : onesN n = tab (n % 256) + onesN (n / 256) := by
  rw [tab_ones _ (by omega)]
  have e : ∀ m : Nat, onesN m = m % 2 + m / 2 % 2 + m / 4 % 2 + m / 8 % 2 + m / 16 % 2 + m / 32 % 2 + m / 64 % 2 + m / 128 % 2 + onesN (m / 256) := by
    intro m
    rw [onesN_all m, onesN_all (m / 2), onesN_all (m / 2 / 2), onesN_all (m / 2 / 2 / 2), onesN_all (m / 2 / 2 / 2 / 2), onesN_all (m / 2 / 2 / 2 / 2 / 2), onesN_all (m / 2 / 2 / 2 / 2 / 2 / 2), onesN_all (m / 2 / 2 / 2 / 2 / 2 / 2 / 2)]
    simp only [Nat.div_div_eq_div_mul, Nat.reduceMul]
    omega
  have z : onesN (n % 256 / 256) = 0 := by
    rw [show n % 256 / 256 = 0 by omega]; rfl
  rw [e n, e (n % 256), z]
  omega
def cnt (n : Nat) : Nat := Nat.add (tab (Nat.mod n 256)) (Nat.add (tab (Nat.mod (Nat.div n 256) 256)) (tab (Nat.div n 65536)))
theorem ones_cnt {n : Nat} (h : n < 16777216) : ones (n : Int) = (cnt n : Nat) := by
  have e : onesN n = cnt n := by
    show onesN n = tab (n % 256) + (tab (n / 256 % 256) + tab (n / 65536))
    rw [ones_byte n, ones_byte (n / 256), ones_byte (n / 256 / 256), Nat.div_div_eq_div_mul, Nat.div_div_eq_div_mul]
    rw [show n / (256 * (256 * 256)) = 0 by omega, show onesN 0 = 0 from rfl, show n / (256 * 256) % 256 = n / 65536 by omega]
    rfl
  unfold ones
  rw [Int.toNat_natCast, e]
def rotM (t : Nat) : Nat := Nat.add (Nat.mod (Nat.mul t 2) 8388608) (Nat.div t 4194304)
theorem rotM_eq (t : Nat) : rotM t = t * 2 % 8388608 + t / 4194304 := rfl
theorem rot_nat (t : Nat) : rot (t : Int) = (rotM t : Nat) := by
  unfold rot
  rw [rotM_eq, Int.fmod_eq_emod_of_nonneg _ (by decide), Int.fdiv_eq_ediv_of_nonneg _ (by decide)]
  omega
theorem rotM_lt {t : Nat} (h : t < 8388608) : rotM t < 8388608 := by
  rw [rotM_eq]; omega
def good (n : Nat) : Bool := (Nat.beq n 0).or ((Nat.beq n 8).or ((Nat.beq n 12).or (Nat.beq n 16)))
def goodAll (n : Nat) : Nat → Nat → Bool :=
  Nat.rec (fun _ _ => true) (fun _ ih a b => (good (cnt (Nat.xor a b))).and (ih a (rotM b))) n
def lits : List Nat := [31892, 34236, 39577, 42195, 48118, 51042, 55367, 58893, 63784, 68472, 70749, 76311, 79154, 84390, 87683, 92361, 96236, 102084, 102881, 110507, 110734, 117786, 119615, 126325, 127568, 133589, 136944, 141498, 145311, 150283, 152622, 158308, 161089, 167017]
set_option maxRecDepth 100000
theorem bch_lit : ∀ i < 34, bch (7 + (i : Nat)) = (lits.getD i 0 : Nat) := by decide +kernel
theorem lits_lt : ∀ a ∈ lits, a < 8388608 := by decide +kernel
theorem lits_mem : ∀ i < 34, lits.getD i 0 ∈ lits := by decide +kernel
theorem pairs : (lits.all fun a => lits.all fun b => goodAll 24 a b) = true := by decide +kernel
/-- the distance is 0, 8, 12 or 16 -/
def Far (a b : Int) : Prop := ones (PySem.Builtin.bitXor a b) = 0 ∨ ones (PySem.Builtin.bitXor a b) = 8 ∨ ones (PySem.Builtin.bitXor a b) = 12 ∨ ones (PySem.Builtin.bitXor a b) = 16
theorem good_iff {n : Nat} (h : good n = true) : n = 0 ∨ n = 8 ∨ n = 12 ∨ n = 16 := by
  unfold good at h
  simp only [Bool.or_eq_true] at h
  exact h.imp Nat.eq_of_beq_eq_true (Or.imp Nat.eq_of_beq_eq_true (Or.imp Nat.eq_of_beq_eq_true Nat.eq_of_beq_eq_true))
theorem goodAll_succ (n a b : Nat) : goodAll (n + 1) a b = ((good (cnt (Nat.xor a b))).and (goodAll n a (rotM b))) := rfl
theorem far_rot (a : Nat) (ha : a < 8388608) : ∀ (n b : Nat), b < 8388608 → goodAll n a b = true → ∀ k < n, Far a (rotN k b) ∧ ∃ c : Nat, c < 8388608 ∧ rotN k b = c := by
  have key : ∀ (k n b : Nat), k < n → b < 8388608 → goodAll n a b = true → ∃ c : Nat, c < 8388608 ∧ rotN k b = c ∧ goodAll (n - k) a c = true := by
    intro k
    induction k with
    | zero => intro n b _ hb h; exact ⟨b, hb, rfl, h⟩
    | succ k ih =>
      intro n b hk hb h
      obtain ⟨c, hc, e, hg⟩ := ih n b (by omega) hb h
      have en : n - k = (n - (k + 1)) + 1 := by omega
      rw [en, goodAll_succ, Bool.and_eq_true] at hg
      refine ⟨rotM c, rotM_lt hc, ?_, hg.2⟩
      show rot (rotN k b) = _
      rw [e, rot_nat]
  intro n b hb h k hk
  obtain ⟨c, hc, e, hg⟩ := key k n b hk hb h
  have en : n - k = (n - (k + 1)) + 1 := by omega
  rw [en, goodAll_succ, Bool.and_eq_true] at hg
  refine ⟨?_, c, hc, e⟩
  have hx : a ^^^ c < 16777216 := Nat.lt_trans (Nat.xor_lt_two_pow (n := 23) ha hc) (by decide)
  have := good_iff hg.1
  unfold Far
  rw [e, xor_nat, ones_cnt hx]
  show _ ∨ _
  change cnt (a ^^^ c) = 0 ∨ cnt (a ^^^ c) = 8 ∨ cnt (a ^^^ c) = 12 ∨ cnt (a ^^^ c) = 16 at this
  omega
theorem far_all (a b : Int) {k : Nat} (hk : k < 24) : Far (bch (7 + a.fmod 34)) (rotN k (bch (7 + b.fmod 34))) := by
  have f : ∀ c : Int, ∃ i : Nat, i < 34 ∧ 7 + c.fmod 34 = 7 + (i : Nat) := by
    intro c
    rw [Int.fmod_eq_emod_of_nonneg _ (by decide)]
    exact ⟨(c % 34).toNat, by omega, by omega⟩
  obtain ⟨i, hi, ei⟩ := f a
  obtain ⟨j, hj, ej⟩ := f b
  rw [ei, ej, bch_lit i hi, bch_lit j hj]
  have hg := List.all_eq_true.mp (List.all_eq_true.mp pairs _ (lits_mem i hi)) _ (lits_mem j hj)
  exact (far_rot _ (lits_lt _ (lits_mem i hi)) 24 _ (lits_lt _ (lits_mem j hj)) hg k hk).1
theorem st_start (a b : Int) : bch (7 + b.fmod 34) = rotN ([] : List Int).length (bch (7 + b.fmod 34)) ∧ (ones (PySem.Builtin.bitXor (bch (7 + a.fmod 34)) (bch (7 + b.fmod 34))) = 0 ∨ ones (PySem.Builtin.bitXor (bch (7 + a.fmod 34)) (bch (7 + b.fmod 34))) = 8 ∨ ones (PySem.Builtin.bitXor (bch (7 + a.fmod 34)) (bch (7 + b.fmod 34))) = 12 ∨ ones (PySem.Builtin.bitXor (bch (7 + a.fmod 34)) (bch (7 + b.fmod 34))) = 16) := ⟨rfl, far_all a b (k := 0) (by decide)⟩
theorem st_turn {a b k two : Int} {pre : List Int} (h : two = rotN pre.length (bch (7 + b.fmod 34))) (hl : pre.length < 23) :
    (two * 2).fmod 8388608 + two.fdiv 4194304 = rotN (pre ++ [k]).length (bch (7 + b.fmod 34)) ∧ (ones (PySem.Builtin.bitXor (bch (7 + a.fmod 34)) ((two * 2).fmod 8388608 + two.fdiv 4194304)) = 0 ∨ ones (PySem.Builtin.bitXor (bch (7 + a.fmod 34)) ((two * 2).fmod 8388608 + two.fdiv 4194304)) = 8 ∨ ones (PySem.Builtin.bitXor (bch (7 + a.fmod 34)) ((two * 2).fmod 8388608 + two.fdiv 4194304)) = 12 ∨ ones (PySem.Builtin.bitXor (bch (7 + a.fmod 34)) ((two * 2).fmod 8388608 + two.fdiv 4194304)) = 16) := by
  have e : (two * 2).fmod 8388608 + two.fdiv 4194304 = rotN (pre ++ [k]).length (bch (7 + b.fmod 34)) := by
    rw [List.length_append, List.length_singleton, h]
    rfl
  refine ⟨e, ?_⟩
  rw [e]
  exact far_all a b (by rw [List.length_append, List.length_singleton]; omega)
theorem dig_state {d0 digit d : Int} (h0 : 0 ≤ d) (h : digit + dig d = dig d0) (hd : d ≠ 0) : 0 ≤ d.fdiv (2 ^ Int.toNat 1) ∧ digit + 1 + dig (d.fdiv (2 ^ Int.toNat 1)) = dig d0 := by
  rw [two_toNat]
  have := dig_step hd h0
  omega
theorem dig_less {d : Int} (h0 : 0 ≤ d) (hd : d ≠ 0) : (d.fdiv (2 ^ Int.toNat 1)).toNat < d.toNat := by
  rw [two_toNat]
  exact (dig_step hd h0).2.2
theorem dig_end {d0 digit d : Int} (h : digit + dig d = dig d0) (hd : ¬ d ≠ 0) : digit = dig d0 := by
  have e : d = 0 := by omega
  subst e
  rw [dig_zero] at h
  omega
theorem dig_end' {d0 digit d : Int} (h : digit + dig d = dig d0) (hd : d = 0) : digit = dig d0 := dig_end h (fun n => n hd)
theorem seen_start' (v : Int) : Seen v (v * 2 ^ Int.toNat 12) := seen_start v
theorem seen_turn' {v d : Int} (hv : 7 ≤ v ∧ v ≤ 40) (h : Seen v d) (ht : 0 ≤ dig d - dig 7973) : Seen v (PySem.Builtin.bitXor d (7973 * 2 ^ (dig d - dig 7973).toNat)) := (seen_turn hv.1 hv.2 h ht).1
theorem seen_less {v d : Int} (hv : 7 ≤ v ∧ v ≤ 40) (h : Seen v d) (ht : 0 ≤ dig d - dig 7973) : (PySem.Builtin.bitXor d (7973 * 2 ^ (dig d - dig 7973).toNat)).toNat < d.toNat := (seen_turn hv.1 hv.2 h ht).2
theorem seen_end' {v d : Int} (hv : 7 ≤ v ∧ v ≤ 40) (h : Seen v d) (ht : ¬ 0 ≤ dig d - dig 7973) : PySem.Builtin.bitOr (v * 2 ^ Int.toNat 12) d = bch v := seen_end hv.1 hv.2 h ht
theorem seen_b {v d : Int} (hv : 7 ≤ v ∧ v ≤ 40) (h : Seen v d) : 0 ≤ d ∧ d < 262144 := seen_bound hv.1 hv.2 h
theorem ones_state {w0 c w : Int} (h : c + ones w = ones w0) (hw : 0 < w) : c + w.fmod 2 + ones (w.fdiv 2) = ones w0 := by
  have := ones_step hw
  omega
theorem ones_end {w0 c w : Int} (h : c + ones w = ones w0) (hw : ¬ 0 < w) : c = ones w0 := by
  rw [ones_le (show w ≤ 0 by omega)] at h
  omega

/-- what a call of the def at f with one int hands back; k frames of room -/
def Told (prog : Program) (w : World) (K : Frag) (p : Program) (loose : List Str) (mean : ExcName → Option Value) (mg mb : Str → Option Value) (f : Addr) (k : Nat) (pre : Int → Prop) (g : Int → Int) : Prop :=
  ∀ (news : List (Addr × Obj)) (v : Int) (t : Tok) (dp un : Nat) (gd : Option (List Code)) (cn : Str) (cs : Scope) (a : Addr) (ccd : Value) (cl : List (Str × Addr)) (outer : List Env) (A₀ : Around) (base h₀ : Heap) (L : Addr) (m : Str → Option Value) (s : Shared) (Q E : Value → Shared → Prop),
    Below A₀ base outer h₀ → Fr h₀ L s.heap m → K.In h₀ → News h₀ L s.heap news → Top p loose mean mg mb h₀ → cs.kind = .function →
    pre v → dp + k < recursionLimit → un + 8 * k < cLine → CbRet h₀ L m news s Q (fun t => Value.int (g v) t) →
      wpAny (model prog w) (ktrTop dp un gd cn cs L a ccd cl outer) (call (.ref f) [Value.int v t]) Q E s
/-- a def's value first, the walk behind it -/
theorem told_first {view : Program} {loose : List Str} {XP : (Str → Option Value) → Heap → Prop} {heap : Params → Frag} {as : List Addr} {e : ∀ P, as = (heap P).map (·.1)} {r : RowW} {d : DefRec} {kwd : List (Str × Expr)} {run : Value → List Value → Sem Value}
    (f : Addr) (k : Nat) (pre : Int → Prop) (g : Int → Int)
    (c : ∀ w mean mg mb, CbC f 0 (Told r.prog w (heap w.params) view (looseW view loose) mean mg mb f k pre g))
    (h : (∀ w mean mg mb, CbC f 0 (Told r.prog w (heap w.params) view (looseW view loose) mean mg mb f k pre g)) → WalkO view loose XP (kHook heap as e).says r d kwd run) :
    WalkO view loose XP (kHook heap as e).says r d kwd run := h c
theorem told_here {prog view : Program} {loose : List Str} {heap : Params → Frag} {w : World} {mean : ExcName → Option Value} {mg mb : Str → Option Value} {h : Heap} {f : Addr} {k : Nat} {pre : Int → Prop} {g : Int → Int}
    (t : ∀ w mean mg mb, CbC f 0 (Told prog w (heap w.params) view loose mean mg mb f k pre g)) (_ : (heap w.params).In h) (_ : Top view loose mean mg mb h) :
    CbC f 0 (Told prog w (heap w.params) view loose mean mg mb f k pre g) := t w mean mg mb
end Mine

local macro_rules | `(tactic| walk_at "exec For Name BinOp cons nil") => `(tactic| (k_here; (rename Fr _ _ _ _ => lF'); (with_unfolding_all refine' For_invVF lF' ?k1 ?k2 ?_; (case k1 => exact rfl); (case k2 => exact rfl); k_whole)))
local macro_rules | `(tactic| walk_at "subscriptTail Name Slice ref ref") => `(tactic| (k_here; k_dflt (refine' kmk_slice_ints ?F ?N ?l ?p ?q ?i ?m ?c ?_ ?s ?t ?z; (case F => k_asm); (case N => k_asm); (case l => kmk_list); (case p => kmk_part); (case q => kmk_part); (case i => l_ints); (case m => first | exact kmk_from (by l_ints) (Int.natCast_nonneg _) | kmk_nums); (case c => kmk_len); (case s => with_unfolding_all rfl); (case t => kmk_pure); (case z => kmk_size)); intro D' ws' h' F' N' l1 hI' hC' hL'; (try simp only [Int.reduceNeg, Int.neg_neg, Int.reduceToNat] at hI' hC' hL'); (try k_lt l1); (try k_sweep)))
local macro_rules | `(tactic| walk_at "pyIter ref") => `(tactic| k_extra "pyIter ref")
local macro_rules | `(tactic| walk_at "call ref cons nil") => `(tactic| k_extra "call ref")
set_option maxHeartbeats 16000000 in
theorem PySem.Challenge.cw_bq0021_02_holds : PySem.Challenge.rw_bq0021_02.Holds := by
  w_on
  o_law
  k_head
  (case hw => w_witness2)
  refine Mine.told_first 28 1 (fun d => 0 ≤ d) Mine.dig ?cd fun td => Mine.told_first 35 1 (fun _ => True) Mine.ones ?co fun to => Mine.told_first 21 2 (fun v => 7 ≤ v ∧ v ≤ 40) Mine.bch ?cb fun tb => ?_
  case cd =>
    intro w mean mg mb
    k_with_none
    k_with "state" => exact Mine.dig_state (by assumption) (by assumption) (by assumption)
    k_with "measure" => exact Mine.dig_less (by assumption) (by assumption)
    k_with "tree" => exact Mine.dig_end' (by assumption) (by assumption)
    k_with "exec While Compare cons nil" => k_while_given ["data!"] (fun d0 script digit d => 0 ≤ d ∧ digit + Mine.dig d = Mine.dig d0) (fun _ _ _ d => d.toNat) "digit" "data"
    unfold CbC Mine.Told
    dsimp only [CbRet]
    intros
    rename_i hret
    have cbI : CbIn 28 := CbIn.mk
    refine wpAny_call ?_
    k_dflt cell_enter
    k_steps
    all_goals cb_end hret
  case co =>
    intro w mean mg mb
    k_with_none
    k_with "state" => exact Mine.ones_state (by assumption) (by assumption)
    k_with "measure" => exact (Mine.ones_step (by assumption)).2
    k_with "tree" => exact Mine.ones_end (by assumption) (by assumption)
    k_with "exec While Compare cons nil" => k_while_given ["word!"] (fun w0 script c w => c + Mine.ones w = Mine.ones w0) (fun _ _ _ w => w.toNat) "count" "word"
    unfold CbC Mine.Told
    dsimp only [CbRet]
    intros
    rename_i hret
    have cbI : CbIn 35 := CbIn.mk
    refine wpAny_call ?_
    k_dflt cell_enter
    k_steps
    all_goals cb_end hret
  case cb =>
    intro w mean mg mb
    k_with_none
    k_with "state" => exact ⟨Mine.seen_start' _, Mine.seen_b (by assumption) (Mine.seen_start' _)⟩
    k_with "state" => exact ⟨Mine.seen_turn' (by assumption) (by assumption) (by assumption), Mine.seen_b (by assumption) (Mine.seen_turn' (by assumption) (by assumption) (by assumption))⟩
    k_with "measure" => exact Mine.seen_less (by assumption) (by assumption) (by assumption)
    k_with "tree" => exact Mine.seen_end' (by assumption) (by assumption) (by assumption)
    k_with "exec While Compare cons nil" => k_while_given ["data"] (fun v script d => Mine.Seen v d ∧ 0 ≤ d ∧ d < 262144) (fun _ _ d => d.toNat) "d"
    k_with "call ref" => k_call_by "BCH_digit" Mine.dig (fun d => 0 ≤ d)
    k_with "fact BCH_digit" => exact Mine.dig_facts
    have cd := td w mean mg mb
    unfold CbC Mine.Told
    unfold Mine.Told at cd
    clear td to
    dsimp only [CbRet]
    intros
    rename_i hret
    have cbI : CbIn 21 := CbIn.mk
    refine wpAny_call ?_
    k_dflt cell_enter
    k_steps
    all_goals cb_end hret
  k_with_none
  k_with "pyIter ref" => (k_of "cell" => k_search (fun _ => True))
  k_with "pyIter ref" => (k_of "turn" => k_state_given ["one", "two!"] (fun one t0 pre two => two = Mine.rotN pre.length t0 ∧ (Mine.ones (PySem.Builtin.bitXor one two) = 0 ∨ Mine.ones (PySem.Builtin.bitXor one two) = 8 ∨ Mine.ones (PySem.Builtin.bitXor one two) = 12 ∨ Mine.ones (PySem.Builtin.bitXor one two) = 16)) "two")
  k_with "state" => k_dflt exact Mine.st_start _ _
  k_with "state" => k_dflt exact Mine.st_turn (by assumption) (by assumption)
  k_with "call ref" => k_call_by "_law_ones" Mine.ones
  k_with "call ref" => k_call_by "BCH_type_number" Mine.bch (fun v => 7 ≤ v ∧ v ≤ 40)
  k_with "fact BCH_type_number" => exact Mine.bch_facts
  w_strict (
    k_go0
    have c1 := Mine.told_here to (by assumption) (by assumption)
    have c2 := Mine.told_here tb (by assumption) (by assumption)
    unfold Mine.Told at c1 c2
    clear td to tb
    (all_goals try k_fold)
    k_steps
    all_goals w_report)
