import PyProof.Rows.All
import Wide.All
import OpenK.AllK
import Wide.FinOn
import PySem.Challenge.RW_bq0021_01
set_option Elab.async false
set_option maxRecDepth 100000
section
namespace Mine
/-- the number of bits -/
def digN (n : Nat) : Nat := if n = 0 then 0 else n.log2 + 1
def dig (d : Int) : Int := (digN d.toNat : Nat)
/-- the ones, by a fuel that suffices -/
def onesF : Nat → Nat → Nat
  | 0, _ => 0
  | f + 1, n => n % 2 + onesF f (n / 2)
def onesN (n : Nat) : Nat := onesF (digN n) n
def ones (w : Int) : Int := (onesN w.toNat : Nat)

theorem digN_half (n : Nat) (h : n ≠ 0) : digN n = digN (n / 2) + 1 := by
  unfold digN
  rw [if_neg h]
  by_cases h2 : n / 2 = 0
  · rw [if_pos h2]
    have : n = 1 := by omega
    subst this
    decide
  · rw [if_neg h2]
    rw [Nat.log2_def n, if_pos (by omega)]

theorem onesN_half (n : Nat) (h : n ≠ 0) : onesN n = n % 2 + onesN (n / 2) := by
  unfold onesN
  rw [digN_half n h]
  rfl

theorem two_toNat : (2 : Int) ^ Int.toNat 1 = 2 := by decide
theorem dig_step {d : Int} (h : d ≠ 0) (h0 : 0 ≤ d) : dig d = dig (d.fdiv 2) + 1 ∧ 0 ≤ d.fdiv 2 ∧ (d.fdiv 2).toNat < d.toNat := by
  rw [Int.fdiv_eq_ediv_of_nonneg _ (by decide)]
  have e : (d / 2).toNat = d.toNat / 2 := by omega
  unfold dig
  rw [digN_half d.toNat (by omega), e]
  omega
theorem ones_step {w : Int} (h : 0 < w) : ones w = w.fmod 2 + ones (w.fdiv 2) ∧ (w.fdiv 2).toNat < w.toNat := by
  rw [Int.fdiv_eq_ediv_of_nonneg _ (by decide), Int.fmod_eq_emod_of_nonneg _ (by decide)]
  have e : (w / 2).toNat = w.toNat / 2 := by omega
  unfold ones
  rw [onesN_half w.toNat (by omega), e]
  omega
theorem ones_le {w : Int} (h : w ≤ 0) : ones w = 0 := by
  have e : w.toNat = 0 := by omega
  unfold ones
  rw [e]
  rfl
theorem dig_zero : dig 0 = 0 := rfl
theorem dig_facts (d : Int) : 0 ≤ dig d ∧ (d = 7973 → dig d = 13) ∧ (0 ≤ d ∧ d < 262144 → dig d ≤ 18) := by
  refine ⟨Int.natCast_nonneg _, fun e => by subst e; decide, fun ⟨h0, h1⟩ => ?_⟩
  unfold dig digN
  split
  · decide
  · rename_i hn
    have := (Nat.log2_lt hn).mpr (show d.toNat < 2 ^ 18 by omega)
    omega

/-- one turn of the remainder -/
def stepB (d : Int) : Int := PySem.Builtin.bitXor d (7973 * 2 ^ (dig d - dig 7973).toNat)
def restB : Nat → Int → Int
  | 0, d => d
  | n + 1, d => if 0 ≤ dig d - dig 7973 then restB n (stepB d) else d
def bch (v : Int) : Int := if 7 ≤ v ∧ v ≤ 40 then PySem.Builtin.bitOr (v * 4096) (restB 7 (v * 4096)) else 31892
/-- what the remainder's loop visits -/
def Seen (v d : Int) : Prop := ∃ k : Nat, k < 8 ∧ d = restB k (v * 4096)
theorem seen_all : ∀ i < 34, ∀ k < 8, 0 ≤ restB k ((7 + (i : Nat) : Int) * 4096) ∧ restB k ((7 + (i : Nat) : Int) * 4096) < 262144 ∧
    (0 ≤ dig (restB k ((7 + (i : Nat) : Int) * 4096)) - dig 7973 → k + 1 < 8 ∧ stepB (restB k ((7 + (i : Nat) : Int) * 4096)) = restB (k + 1) ((7 + (i : Nat) : Int) * 4096) ∧
      (stepB (restB k ((7 + (i : Nat) : Int) * 4096))).toNat < (restB k ((7 + (i : Nat) : Int) * 4096)).toNat) ∧
    (¬ 0 ≤ dig (restB k ((7 + (i : Nat) : Int) * 4096)) - dig 7973 → restB k ((7 + (i : Nat) : Int) * 4096) = restB 7 ((7 + (i : Nat) : Int) * 4096)) := by decide +kernel
theorem of_v {v : Int} (h1 : 7 ≤ v) (h2 : v ≤ 40) : ∃ i : Nat, i < 34 ∧ v = 7 + (i : Nat) := ⟨(v - 7).toNat, by omega, by omega⟩
theorem seen_start (v : Int) : Seen v (v * 4096) := ⟨0, by decide, rfl⟩
theorem seen_bound {v d : Int} (h1 : 7 ≤ v) (h2 : v ≤ 40) (h : Seen v d) : 0 ≤ d ∧ d < 262144 := by
  obtain ⟨i, hi, rfl⟩ := of_v h1 h2
  obtain ⟨k, hk, rfl⟩ := h
  have := seen_all i hi k hk
  exact ⟨this.1, this.2.1⟩
theorem seen_turn {v d : Int} (h1 : 7 ≤ v) (h2 : v ≤ 40) (h : Seen v d) (ht : 0 ≤ dig d - dig 7973) : Seen v (stepB d) ∧ (stepB d).toNat < d.toNat := by
  obtain ⟨i, hi, rfl⟩ := of_v h1 h2
  obtain ⟨k, hk, rfl⟩ := h
  obtain ⟨a, b, c⟩ := (seen_all i hi k hk).2.2.1 ht
  exact ⟨⟨k + 1, a, b⟩, c⟩
theorem seen_end {v d : Int} (h1 : 7 ≤ v) (h2 : v ≤ 40) (h : Seen v d) (ht : ¬ 0 ≤ dig d - dig 7973) : PySem.Builtin.bitOr (v * 4096) d = bch v := by
  obtain ⟨i, hi, rfl⟩ := of_v h1 h2
  obtain ⟨k, hk, rfl⟩ := h
  unfold bch
  rw [if_pos ⟨h1, h2⟩, (seen_all i hi k hk).2.2.2 ht]
theorem bch_facts (v : Int) : 0 ≤ bch v ∧ bch v < 262144 ∧ (ones (bch v) = 8 ∨ ones (bch v) = 12 ∨ ones (bch v) = 16) := by
  have key : ∀ i < 34, 0 ≤ bch (7 + (i : Nat)) ∧ bch (7 + (i : Nat)) < 262144 ∧ (ones (bch (7 + (i : Nat))) = 8 ∨ ones (bch (7 + (i : Nat))) = 12 ∨ ones (bch (7 + (i : Nat))) = 16) := by decide +kernel
  by_cases h : 7 ≤ v ∧ v ≤ 40
  · obtain ⟨i, hi, rfl⟩ := of_v h.1 h.2
    exact key i hi
  · rw [show bch v = 31892 from if_neg h]
    decide +kernel
theorem xor_and (a : Nat) : ∀ b : Nat, a + b = (a ^^^ b) + 2 * (a &&& b) := by
  induction a using Nat.strongRecOn with
  | ind a ih =>
    intro b
    by_cases h : a = 0
    · subst h; simp
    · have i := ih (a / 2) (by omega) (b / 2)
      have h1 : (a ^^^ b) / 2 = (a / 2) ^^^ (b / 2) := Nat.xor_div_two
      have h2 : (a &&& b) / 2 = (a / 2) &&& (b / 2) := Nat.and_div_two
      have h3 := @Nat.xor_mod_two_eq_one a b
      have h4 := @Nat.and_mod_two_eq_one a b
      omega
theorem xor_nat (a b : Nat) : PySem.Builtin.bitXor (a : Int) (b : Int) = ((a ^^^ b : Nat) : Int) := by
  have h : PySem.Builtin.bitAnd (a : Int) (b : Int) = ((a &&& b : Nat) : Int) := by
    rw [PyProof.Rows.bitAnd_pp (Int.natCast_nonneg _) (Int.natCast_nonneg _)]
    simp
  have := xor_and a b
  rw [PyProof.Rows.bitXor_and, h]
  omega
theorem onesN_all (n : Nat) : onesN n = n % 2 + onesN (n / 2) := by
  by_cases h : n = 0
  · subst h; rfl
  · exact onesN_half n h
def tab (n : Nat) : Nat := Nat.land (Nat.shiftRight 0x8776766576656554766565546554544376656554655454436554544354434332766565546554544365545443544343326554544354434332544343324332322176656554655454436554544354434332655454435443433254434332433232216554544354434332544343324332322154434332433232214332322132212110 (Nat.mul 4 n)) 15
theorem tab_ones : ∀ n < 256, tab n = onesN n := by decide +kernel
theorem ones_byte (n : Nat) : onesN n = tab (n % 256) + onesN (n / 256) := by
  rw [tab_ones _ (by omega)]
  have e : ∀ m : Nat, onesN m = m % 2 + m / 2 % 2 + m / 4 % 2 + m / 8 % 2 + m / 16 % 2 + m / 32 % 2 + m / 64 % 2 + m / 128 % 2 + onesN (m / 256) := by
    intro m
    rw [onesN_all m, onesN_all (m / 2), onesN_all (m / 2 / 2), onesN_all (m / 2 / 2 / 2), onesN_all (m / 2 / 2 / 2 / 2), onesN_all (m / 2 / 2 / 2 / 2 / 2), onesN_all (m / 2 / 2 / 2 / 2 / 2 / 2), onesN_all (m / 2 / 2 / 2 / 2 / 2 / 2 / 2)]
    simp only [Nat.div_div_eq_div_mul, Nat.reduceMul]
    omega
  have z : onesN (n % 256 / 256) = 0 := by
    rw [show n % 256 / 256 = 0 by omega]; rfl
  rw [e n, e (n % 256), z]
  omega
def cnt (n : Nat) : Nat := Nat.add (tab (Nat.mod n 256)) (Nat.add (tab (Nat.mod (Nat.div n 256) 256)) (tab (Nat.div n 65536)))
theorem ones_cnt {n : Nat} (h : n < 16777216) : ones (n : Int) = (cnt n : Nat) := by
  have e : onesN n = cnt n := by
    show onesN n = tab (n % 256) + (tab (n / 256 % 256) + tab (n / 65536))
    rw [ones_byte n, ones_byte (n / 256), ones_byte (n / 256 / 256), Nat.div_div_eq_div_mul, Nat.div_div_eq_div_mul]
    rw [show n / (256 * (256 * 256)) = 0 by omega, show onesN 0 = 0 from rfl, show n / (256 * 256) % 256 = n / 65536 by omega]
    rfl
  unfold ones
  rw [Int.toNat_natCast, e]

/-- one place turned -/
def flip (w p : Int) : Int := PySem.Builtin.bitXor w (2 ^ p.toNat)
/-- one turn of the law's remainder -/
def restStep (w k : Int) : Int := if (w.fdiv (2 ^ k.toNat)).fmod 2 = 1 then PySem.Builtin.bitXor w (2787 * 2 ^ (k - 11).toNat) else w
def downs : List Int := [22, 21, 20, 19, 18, 17, 16, 15, 14, 13, 12, 11]
def rest (w : Int) : Int := downs.foldl restStep w
/-- what is handed back where the trap catches -/
def fixed (w r mark single t : Int) : Int :=
  PySem.Builtin.bitXor (PySem.Builtin.bitXor w ((PySem.Builtin.bitXor (PySem.Builtin.bitXor r mark) single * 2 ^ (23 - t).toNat).fmod 8388608)) ((PySem.Builtin.bitXor (PySem.Builtin.bitXor r mark) single * 2 ^ (23 - t).toNat).fdiv 8388608)
def stepR (r : Int) : Int := if 2047 < r * 2 then PySem.Builtin.bitXor (r * 2) 2787 else r * 2
def readFrom : Nat → Int → Int → Int → Int
  | 0, _, _, w => w
  | n + 1, t, r, w => if ones (PySem.Builtin.bitXor r 0) ≤ 3 then fixed w r 0 0 t
    else if ones (PySem.Builtin.bitXor r (rest 65536)) ≤ 2 then fixed w r (rest 65536) 65536 t
    else if ones (PySem.Builtin.bitXor r (rest 131072)) ≤ 2 then fixed w r (rest 131072) 131072 t
    else readFrom n (t + 1) (stepR r) w
def read (w : Int) : Int := readFrom 23 0 (rest w) w
end Mine
end
section
namespace Mine
/-- one turn of the remainder, over the naturals -/
def stepM (w k : Nat) : Nat := if w.testBit k = true then w ^^^ (2787 * 2 ^ (k - 11)) else w
def downsM : List Nat := [22, 21, 20, 19, 18, 17, 16, 15, 14, 13, 12, 11]
def restM (w : Nat) : Nat := downsM.foldl stepM w
theorem stepM_xor (a b k : Nat) : stepM (a ^^^ b) k = stepM a k ^^^ stepM b k := by
  unfold stepM
  rw [Nat.testBit_xor]
  generalize 2787 * 2 ^ (k - 11) = c
  cases a.testBit k <;> cases b.testBit k
  · rfl
  · show (a ^^^ b) ^^^ c = a ^^^ (b ^^^ c)
    rw [Nat.xor_assoc]
  · show (a ^^^ b) ^^^ c = (a ^^^ c) ^^^ b
    rw [Nat.xor_assoc, Nat.xor_comm b c, ← Nat.xor_assoc]
  · show a ^^^ b = (a ^^^ c) ^^^ (b ^^^ c)
    rw [Nat.xor_comm b c, Nat.xor_assoc, ← Nat.xor_assoc c c b, Nat.xor_self, Nat.zero_xor]
theorem fold_xor : ∀ (ks : List Nat) (a b : Nat), ks.foldl stepM (a ^^^ b) = ks.foldl stepM a ^^^ ks.foldl stepM b
  | [], _, _ => rfl
  | k :: r, a, b => by
    rw [List.foldl_cons, List.foldl_cons, List.foldl_cons, stepM_xor, fold_xor r]
theorem restM_xor (a b : Nat) : restM (a ^^^ b) = restM a ^^^ restM b := fold_xor downsM a b
theorem step_nat (w k : Nat) (hk : 11 ≤ k) : restStep (w : Int) (k : Int) = (stepM w k : Nat) := by
  unfold restStep stepM
  have h1 : ((w : Int).fdiv (2 ^ (k : Int).toNat)).fmod 2 = ((w / 2 ^ k % 2 : Nat) : Int) := by
    rw [Int.toNat_natCast, Int.fdiv_eq_ediv_of_nonneg _ (Int.le_of_lt (PySem.W.kbt_pos k)), Int.fmod_eq_emod_of_nonneg _ (by decide), ← PySem.W.kbt_cast]
    rfl
  have h2 : (w.testBit k = true) ↔ w / 2 ^ k % 2 = 1 := by
    rw [Nat.testBit_eq_decide_div_mod_eq, decide_eq_true_eq]
  have h3 : (2787 * 2 ^ ((k : Int) - 11).toNat : Int) = ((2787 * 2 ^ (k - 11) : Nat) : Int) := by
    rw [show ((k : Int) - 11).toNat = k - 11 by omega, Int.natCast_mul, PySem.W.kbt_cast]
    rfl
  by_cases h : w / 2 ^ k % 2 = 1
  · rw [if_pos (by rw [h1, h]; rfl), if_pos (h2.mpr h), h3, xor_nat]
  · rw [if_neg (by rw [h1]; omega), if_neg (fun q => h (h2.mp q))]
theorem rest_nat (w : Nat) : rest (w : Int) = (restM w : Nat) := by
  have key : ∀ (ks : List Nat) (w : Nat), (∀ k ∈ ks, 11 ≤ k) → (ks.map fun (k : Nat) => (k : Int)).foldl restStep (w : Int) = (ks.foldl stepM w : Nat) := by
    intro ks
    induction ks with
    | nil => intro w _; rfl
    | cons k r ih =>
      intro w h
      rw [List.map_cons, List.foldl_cons, List.foldl_cons, step_nat w k (h k (List.mem_cons_self ..)), ih _ fun j hj => h j (List.mem_cons_of_mem _ hj)]
  exact key downsM w (by decide)
def stepRM (r : Nat) : Nat := cond (Nat.blt 2047 (Nat.mul r 2)) (Nat.xor (Nat.mul r 2) 2787) (Nat.mul r 2)
theorem stepR_nat (r : Nat) : stepR (r : Int) = (stepRM r : Nat) := by
  unfold stepR stepRM
  by_cases h : 2047 < r * 2
  · rw [if_pos (by omega), show Nat.blt 2047 (Nat.mul r 2) = true from Nat.ble_eq_true_of_le h]
    exact xor_nat (r * 2) 2787
  · rw [if_neg (by omega)]
    have : Nat.blt 2047 (Nat.mul r 2) = false := by
      cases e : Nat.blt 2047 (Nat.mul r 2) with
      | false => rfl
      | true => exact absurd (Nat.le_of_ble_eq_true e) h
    rw [this]
    rfl
theorem stepRM_lt : ∀ r < 2048, stepRM r < 2048 := by decide +kernel
/-- the places to turn back -/
def patM (r mark single t : Nat) : Nat :=
  Nat.xor (Nat.mod (Nat.mul (Nat.xor (Nat.xor r mark) single) (Nat.pow 2 (Nat.sub 23 t))) 8388608) (Nat.div (Nat.mul (Nat.xor (Nat.xor r mark) single) (Nat.pow 2 (Nat.sub 23 t))) 8388608)
theorem fixed_nat (w r mark single t : Nat) (ht : t ≤ 23) : fixed (w : Int) r mark single t = ((w ^^^ patM r mark single t : Nat) : Int) := by
  unfold fixed
  rw [xor_nat, xor_nat]
  have e : (((r ^^^ mark) ^^^ single : Nat) : Int) * 2 ^ (23 - (t : Int)).toNat = ((((r ^^^ mark) ^^^ single) * 2 ^ (23 - t) : Nat) : Int) := by
    rw [show (23 - (t : Int)).toNat = 23 - t by omega, Int.natCast_mul, PySem.W.kbt_cast]
  rw [e, Int.fmod_eq_emod_of_nonneg _ (by decide), Int.fdiv_eq_ediv_of_nonneg _ (by decide)]
  have e1 : ((((r ^^^ mark) ^^^ single) * 2 ^ (23 - t) : Nat) : Int) % 8388608 = ((((r ^^^ mark) ^^^ single) * 2 ^ (23 - t) % 8388608 : Nat) : Int) := rfl
  have e2 : ((((r ^^^ mark) ^^^ single) * 2 ^ (23 - t) : Nat) : Int) / 8388608 = ((((r ^^^ mark) ^^^ single) * 2 ^ (23 - t) / 8388608 : Nat) : Int) := rfl
  rw [e1, e2, xor_nat, xor_nat, Nat.xor_assoc]
  rfl
/-- the ones of a number below 65536 -/
def cntS (n : Nat) : Nat := Nat.add (tab (Nat.mod n 256)) (tab (Nat.div n 256))
theorem cntS_eq {n : Nat} (h : n < 65536) : cntS n = cnt n := by
  show tab (n % 256) + tab (n / 256) = tab (n % 256) + (tab (n / 256 % 256) + tab (n / 65536))
  rw [show n / 65536 = 0 by omega, show n / 256 % 256 = n / 256 by omega, show tab 0 = 0 from by decide +kernel]
  rfl
def findM (n : Nat) : Nat → Nat → Nat :=
  Nat.rec (fun _ _ => 0) (fun _ ih t r =>
    cond (Nat.ble (cntS r) 3) (patM r 0 0 t) (cond (Nat.ble (cntS (Nat.xor r 411)) 2) (patM r 411 65536 t) (cond (Nat.ble (cntS (Nat.xor r 822)) 2) (patM r 822 131072 t) (ih (Nat.succ t) (stepRM r))))) n
theorem findM_succ (n t r : Nat) : findM (n + 1) t r = cond (Nat.ble (cntS r) 3) (patM r 0 0 t) (cond (Nat.ble (cntS (Nat.xor r 411)) 2) (patM r 411 65536 t) (cond (Nat.ble (cntS (Nat.xor r 822)) 2) (patM r 822 131072 t) (findM n (t + 1) (stepRM r)))) := rfl
theorem rest_one : rest 65536 = ((411 : Nat) : Int) := by decide +kernel
theorem rest_two : rest 131072 = ((822 : Nat) : Int) := by decide +kernel
theorem ones_le_iff {x m : Nat} (h : x < 65536) : (ones (x : Int) ≤ (m : Int)) ↔ Nat.ble (cntS x) m = true := by
  rw [ones_cnt (by omega), cntS_eq h, Nat.ble_eq]
  omega
theorem read_nat : ∀ (n t r w : Nat), r < 2048 → t + n ≤ 23 → readFrom n (t : Int) (r : Int) (w : Int) = ((w ^^^ findM n t r : Nat) : Int)
  | 0, t, r, w, _, _ => by
    show (w : Int) = _
    show (w : Int) = ((w ^^^ 0 : Nat) : Int)
    rw [Nat.xor_zero]
  | n + 1, t, r, w, hr, ht => by
    have x1 : r ^^^ 411 < 65536 := Nat.lt_trans (Nat.xor_lt_two_pow (n := 11) hr (by decide)) (by decide)
    have x2 : r ^^^ 822 < 65536 := Nat.lt_trans (Nat.xor_lt_two_pow (n := 11) hr (by decide)) (by decide)
    have ih := read_nat n (t + 1) (stepRM r) w (stepRM_lt r hr) (by omega)
    have e0 : PySem.Builtin.bitXor (r : Int) 0 = (r : Nat) := by
      have := xor_nat r 0
      rw [Nat.xor_zero] at this
      exact this
    show (if ones (PySem.Builtin.bitXor (r : Int) 0) ≤ 3 then fixed w r 0 0 t
      else if ones (PySem.Builtin.bitXor (r : Int) (rest 65536)) ≤ 2 then fixed w r (rest 65536) 65536 t
      else if ones (PySem.Builtin.bitXor (r : Int) (rest 131072)) ≤ 2 then fixed w r (rest 131072) 131072 t
      else readFrom n ((t : Int) + 1) (stepR r) w) = _
    rw [findM_succ, rest_one, rest_two, e0, xor_nat, xor_nat, stepR_nat]
    have c1 := ones_le_iff (x := r) (m := 3) (by omega)
    have c2 := ones_le_iff (m := 2) x1
    have c3 := ones_le_iff (m := 2) x2
    have f1 := fixed_nat w r 0 0 t (by omega)
    have f2 := fixed_nat w r 411 65536 t (by omega)
    have f3 := fixed_nat w r 822 131072 t (by omega)
    by_cases h1 : ones (r : Int) ≤ 3
    · rw [if_pos h1, c1.mp h1]
      exact f1
    · have g1 : Nat.ble (cntS r) 3 = false := by
        cases e : Nat.ble (cntS r) 3 with
        | false => rfl
        | true => exact absurd (c1.mpr e) h1
      rw [if_neg h1, g1]
      by_cases h2 : ones ((r ^^^ 411 : Nat) : Int) ≤ 2
      · have g2 : Nat.ble (cntS (Nat.xor r 411)) 2 = true := c2.mp h2
        rw [if_pos h2, g2]
        exact f2
      · have g2 : Nat.ble (cntS (Nat.xor r 411)) 2 = false := by
          cases e : Nat.ble (cntS (Nat.xor r 411)) 2 with
          | false => rfl
          | true => exact absurd (c2.mpr e) h2
        rw [if_neg h2, g2]
        by_cases h3 : ones ((r ^^^ 822 : Nat) : Int) ≤ 2
        · have g3 : Nat.ble (cntS (Nat.xor r 822)) 2 = true := c3.mp h3
          rw [if_pos h3, g3]
          exact f3
        · have g3 : Nat.ble (cntS (Nat.xor r 822)) 2 = false := by
            cases e : Nat.ble (cntS (Nat.xor r 822)) 2 with
            | false => rfl
            | true => exact absurd (c3.mpr e) h3
          rw [if_neg h3, g3]
          exact ih
/-- the remainders of the single places -/
def synd (p : Nat) : Nat := [1, 2, 4, 8, 16, 32, 64, 128, 256, 512, 1024, 739, 1478, 367, 734, 1468, 411, 822].getD p 0
theorem synd_eq : ∀ p < 18, restM (2 ^ p) = synd p := by decide +kernel
def good3 (s e : Nat) : Bool := Nat.beq (findM 23 0 s) e
def good4 (s : Nat) : Bool := (Nat.beq (Nat.mod (cnt (findM 23 0 s)) 2) 1).and (Nat.blt (findM 23 0 s) 16777216)
def all1 : Bool := (List.range 18).all fun a => good3 (synd a) (Nat.pow 2 a)
def all2 : Bool := (List.range 18).all fun a => (List.range a).all fun b => good3 (Nat.xor (synd b) (synd a)) (Nat.xor (Nat.pow 2 b) (Nat.pow 2 a))
def all3 : Bool := (List.range 18).all fun a => (List.range a).all fun b => (List.range b).all fun c => good3 (Nat.xor (Nat.xor (synd c) (synd b)) (synd a)) (Nat.xor (Nat.xor (Nat.pow 2 c) (Nat.pow 2 b)) (Nat.pow 2 a))
def slice4 (a : Nat) : Bool := (List.range a).all fun b => (List.range b).all fun c => (List.range c).all fun d => good4 (Nat.xor (Nat.xor (Nat.xor (synd d) (synd c)) (synd b)) (synd a))
end Mine
end
section
namespace Mine
theorem is1 : all1 = true := by decide +kernel
theorem is2 : all2 = true := by decide +kernel
theorem is3 : all3 = true := by decide +kernel
theorem four0 : slice4 0 = true := by decide +kernel
theorem four1 : slice4 1 = true := by decide +kernel
theorem four2 : slice4 2 = true := by decide +kernel
theorem four3 : slice4 3 = true := by decide +kernel
theorem four4 : slice4 4 = true := by decide +kernel
theorem four5 : slice4 5 = true := by decide +kernel
theorem four6 : slice4 6 = true := by decide +kernel
theorem four7 : slice4 7 = true := by decide +kernel
theorem four8 : slice4 8 = true := by decide +kernel
theorem four9 : slice4 9 = true := by decide +kernel
theorem four10 : slice4 10 = true := by decide +kernel
theorem four11 : slice4 11 = true := by decide +kernel
theorem four12 : slice4 12 = true := by decide +kernel
theorem four13 : slice4 13 = true := by decide +kernel
theorem four14 : slice4 14 = true := by decide +kernel
theorem four15 : slice4 15 = true := by decide +kernel
theorem four16 : slice4 16 = true := by decide +kernel
theorem four17 : slice4 17 = true := by decide +kernel
theorem is4 : ∀ a, a < 18 → slice4 a = true
  | 0, _ => four0
  | 1, _ => four1
  | 2, _ => four2
  | 3, _ => four3
  | 4, _ => four4
  | 5, _ => four5
  | 6, _ => four6
  | 7, _ => four7
  | 8, _ => four8
  | 9, _ => four9
  | 10, _ => four10
  | 11, _ => four11
  | 12, _ => four12
  | 13, _ => four13
  | 14, _ => four14
  | 15, _ => four15
  | 16, _ => four16
  | 17, _ => four17
  | _ + 18, h => absurd h (by omega)
end Mine
end
section
open PySem PyProof.Rows
namespace Mine
/-- places rise, below eight -/
def rise : List Nat → Bool
  | [] => true
  | a :: r => (match r with | [] => true | b :: _ => Nat.blt a b).and ((Nat.blt a 8).and (rise r))
/-- a set's table of eight places, none resized, none left -/
def tbl (led : Bool) (ps : List Nat) : SetTable := { mask := 7, place := ps.toArray, dummies := #[], finger := 0, led, moves := 0, plain := true }
theorem tbl_fresh (led : Bool) : SetTable.fresh 0 0 led = tbl led [] := rfl
def insP (ps : List Nat) (p j : Nat) : List Nat := ps.take p ++ j :: ps.drop p
def addOk (led : Bool) (ps : List Nat) (h : Nat) : Bool := match (tbl led ps).freeSlot ((h : Nat) : Int) with
  | some (j, false) => rise (insP ps (SetTable.below ps.toArray j) j)
  | _ => false
def addOks (ps : List Nat) : Bool := (List.range 18).all fun h => (addOk true ps h).and (addOk false ps h)
theorem adds0 : addOks [] = true := by decide +kernel
theorem adds1 : ∀ a < 8, addOks [a] = true := by decide +kernel
theorem adds2 : ∀ b < 8, ∀ a < b, addOks [a, b] = true := by decide +kernel
theorem three0 : ∀ b < 0, ∀ a < b, addOks [a, b, 0] = true := by decide +kernel
theorem three1 : ∀ b < 1, ∀ a < b, addOks [a, b, 1] = true := by decide +kernel
theorem three2 : ∀ b < 2, ∀ a < b, addOks [a, b, 2] = true := by decide +kernel
theorem three3 : ∀ b < 3, ∀ a < b, addOks [a, b, 3] = true := by decide +kernel
theorem three4 : ∀ b < 4, ∀ a < b, addOks [a, b, 4] = true := by decide +kernel
theorem three5 : ∀ b < 5, ∀ a < b, addOks [a, b, 5] = true := by decide +kernel
theorem three6 : ∀ b < 6, ∀ a < b, addOks [a, b, 6] = true := by decide +kernel
theorem three7 : ∀ b < 7, ∀ a < b, addOks [a, b, 7] = true := by decide +kernel
theorem adds3 : ∀ c, c < 8 → ∀ b < c, ∀ a < b, addOks [a, b, c] = true
  | 0, _ => three0
  | 1, _ => three1
  | 2, _ => three2
  | 3, _ => three3
  | 4, _ => three4
  | 5, _ => three5
  | 6, _ => three6
  | 7, _ => three7
  | _ + 8, h => absurd h (by omega)
def startAt (ps : List Nat) (i : Nat) : Nat := if i = 0 then 0 else ps.getD (i - 1) 0 + 1
def runOk (ps : List Nat) : Bool := (List.range (ps.length + 1)).all fun i => Nat.beq (SetTable.below ps.toArray (startAt ps i)) i
theorem runs0 : runOk [] = true := by decide +kernel
theorem runs1 : ∀ a < 8, runOk [a] = true := by decide +kernel
theorem runs2 : ∀ b < 8, ∀ a < b, runOk [a, b] = true := by decide +kernel
theorem runs3 : ∀ c < 8, ∀ b < c, ∀ a < b, runOk [a, b, c] = true := by decide +kernel
theorem runs4 : ∀ d < 8, ∀ c < d, ∀ b < c, ∀ a < b, runOk [a, b, c, d] = true := by decide +kernel
theorem blt_lt {a b : Nat} (h : Nat.blt a b = true) : a < b := Nat.le_of_ble_eq_true h
theorem rise_adds {ps : List Nat} (h : rise ps = true) (hl : ps.length ≤ 3) : addOks ps = true := by
  match ps, h, hl with
  | [], _, _ => exact adds0
  | [a], h, _ =>
    simp only [rise, Bool.and_eq_true] at h
    exact adds1 a (blt_lt h.2.1)
  | [a, b], h, _ =>
    simp only [rise, Bool.and_eq_true] at h
    exact adds2 b (blt_lt h.2.2.2.1) a (blt_lt h.1)
  | [a, b, c], h, _ =>
    simp only [rise, Bool.and_eq_true] at h
    exact adds3 c (blt_lt h.2.2.2.2.2.1) b (blt_lt h.2.2.1) a (blt_lt h.1)
  | _ :: _ :: _ :: _ :: _, _, hl => simp only [List.length_cons] at hl; omega
theorem rise_runs {ps : List Nat} (h : rise ps = true) (hl : ps.length ≤ 4) {i : Nat} (hi : i ≤ ps.length) : SetTable.below ps.toArray (startAt ps i) = i := by
  have key : runOk ps = true := by
    match ps, h, hl with
    | [], _, _ => exact runs0
    | [a], h, _ =>
      simp only [rise, Bool.and_eq_true] at h
      exact runs1 a (blt_lt h.2.1)
    | [a, b], h, _ =>
      simp only [rise, Bool.and_eq_true] at h
      exact runs2 b (blt_lt h.2.2.2.1) a (blt_lt h.1)
    | [a, b, c], h, _ =>
      simp only [rise, Bool.and_eq_true] at h
      exact runs3 c (blt_lt h.2.2.2.2.2.1) b (blt_lt h.2.2.1) a (blt_lt h.1)
    | [a, b, c, d], h, _ =>
      simp only [rise, Bool.and_eq_true] at h
      exact runs4 d (blt_lt h.2.2.2.2.2.2.2.1) c (blt_lt h.2.2.2.2.1) b (blt_lt h.2.2.1) a (blt_lt h.1)
    | _ :: _ :: _ :: _ :: _ :: _, _, hl => simp only [List.length_cons] at hl; omega
  exact Nat.eq_of_beq_eq_true (List.all_eq_true.mp key i (List.mem_range.mpr (by omega)))
theorem insert_toList {α : Type} (xs : Array α) (p : Nat) (x : α) : (SetTable.insertAt xs p x).toList = xs.toList.take p ++ x :: xs.toList.drop p := by
  unfold SetTable.insertAt
  rw [Array.toList_append, Array.toList_push, Array.toList_extract, Array.toList_extract]
  have e : List.take (xs.size - p) (List.drop p xs.toList) = List.drop p xs.toList := List.take_of_length_le (by rw [List.length_drop, Array.length_toList]; exact Nat.le_refl _)
  simp [e]
theorem tbl_put (led : Bool) (ps : List Nat) (j : Nat) : (tbl led ps).put j = (tbl led (insP ps (SetTable.below ps.toArray j) j), SetTable.below ps.toArray j) := by
  have e : SetTable.insertAt ps.toArray (SetTable.below ps.toArray j) j = (insP ps (SetTable.below ps.toArray j) j).toArray := by
    apply Array.toList_inj.mp
    rw [insert_toList]
    rfl
  unfold SetTable.put tbl
  dsimp only
  rw [e]
  rfl
theorem add_facts (led : Bool) {ps : List Nat} (h : rise ps = true) (hl : ps.length ≤ 3) {k : Nat} (hk : k < 18) :
    ∃ j, (tbl led ps).freeSlot ((k : Nat) : Int) = some (j, false) ∧ rise (insP ps (SetTable.below ps.toArray j) j) = true := by
  have h1 := List.all_eq_true.mp (rise_adds h hl) k (List.mem_range.mpr hk)
  rw [Bool.and_eq_true] at h1
  have h2 : addOk led ps k = true := by
    cases led
    · exact h1.2
    · exact h1.1
  unfold addOk at h2
  split at h2
  · rename_i j e
    exact ⟨j, e, h2⟩
  · exact Bool.noConfusion h2
theorem tbl_full (led : Bool) {ps : List Nat} (hl : ps.length ≤ 4) : (tbl led ps).tooFull = false := by
  unfold SetTable.tooFull SetTable.fill tbl
  simp
  omega
theorem hash_small {k : Int} (h0 : 0 ≤ k) (h1 : k < 18) : hashInt k = k := by
  have key : ∀ i < 18, hashInt ((i : Nat) : Int) = ((i : Nat) : Int) := by decide +kernel
  have := key k.toNat (by omega)
  rwa [Int.toNat_of_nonneg h0] at this

/-- an entry of a set of ints -/
def ent (p : Int × Tok) : Int × Value := (hashInt p.1, .int p.1 p.2)
/-- the set's object: its entries are those of l, its table one of ours -/
def SetO (led : Bool) (l : List (Int × Tok)) (o : Obj) : Prop :=
  ∃ es ep ps, o = { cls := .type "set", dict := none, data := .set es ep (tbl led ps), slots := #[] } ∧ es.toList = l.map ent ∧ ps.length = l.length ∧ rise ps = true
theorem ent_insert {es : Array (Int × Value)} {l : List (Int × Tok)} (h : es.toList = l.map ent) (p : Nat) (q : Int × Tok) : ∃ l' : List (Int × Tok), (SetTable.insertAt es p (ent q)).toList = l'.map ent ∧ l'.Perm (q :: l) := by
  refine ⟨l.take p ++ q :: l.drop p, ?_, ?_⟩
  · rw [insert_toList, h, List.map_append, List.map_cons, List.map_take, List.map_drop]
  · have := List.perm_middle (a := q) (l₁ := l.take p) (l₂ := l.drop p)
    rwa [List.take_append_drop] at this
theorem tbl_fits {led : Bool} {m : List Nat} {n : Nat} (h : m.length = n) (hn : n ≤ 7) : (tbl led m).fits n = true := by
  unfold SetTable.fits SetTable.fill tbl
  simp [h, hn]
section
variable {prog : Program} {w : World}
theorem ent_elems (l : List (Int × Tok)) : ElemsOf (intKind prog w) (l.map ent) := by
  intro e he
  obtain ⟨p, _, rfl⟩ := List.mem_map.mp he
  exact ⟨⟨p.1, by show Value.isInt p.1 (.int p.1 p.2) = true; simp [Value.isInt], rfl⟩, rfl⟩
theorem setO_objOf {led : Bool} {l : List (Int × Tok)} {o : Obj} (h : SetO led l o) (h4 : l.length ≤ 4) : o.SetObjOf (intKind prog w) (fun k => l.any fun p => p.1 == k) l.length := by
  obtain ⟨es, ep, m, rfl, he, hp, hm⟩ := h
  have hs : es.size = l.length := by rw [← Array.length_toList, he, List.length_map]
  refine ⟨⟨rfl, rfl, rfl⟩, es, ep, tbl led m, rfl, ?_, ?_, hs, ?_⟩
  · rw [he]; exact ent_elems l
  · intro k
    rw [List.any_eq_true, he]
    constructor
    · rintro ⟨p, hp, e⟩
      exact ⟨ent p, List.mem_map_of_mem hp, by show Value.isInt k (.int p.1 p.2) = true; simpa [Value.isInt] using e⟩
    · rintro ⟨e, he, hk⟩
      obtain ⟨p, hp, rfl⟩ := List.mem_map.mp he
      exact ⟨p, hp, by have hk' : Value.isInt k (.int p.1 p.2) = true := hk; simpa [Value.isInt] using hk'⟩
  · rw [hs]; exact tbl_fits hp (by omega)
end
end Mine
end
section
open PySem PyProof.Rows
namespace Mine
section
variable {prog : Program} {w : World} {A : Around} {E : Value → Shared → Prop} {s : Shared}
/-- at most four small ints, none twice -/
def Smalls (l : List (Int × Tok)) : Prop := (l.map Prod.fst).Nodup ∧ ∀ p ∈ l, 0 ≤ p.1 ∧ p.1 < 18

theorem setO_get {led : Bool} {l : List (Int × Tok)} {o : Obj} {h : Heap} {a : Addr} (hS : SetO led l o) (ho : h.get? a = some o) {es' : Array (Int × Value)} {t' : SetTable} :
    ∃ ep : Nat, (h.update a (Obj.putSet es' t')).get? a = some { cls := .type "set", dict := none, data := .set es' (ep + 1) t', slots := #[] } := by
  obtain ⟨es, ep, ps, rfl, -, -, -⟩ := hS
  have := Heap.get?_update_self (Obj.putSet es' t') ho (by rfl)
  exact ⟨ep, this⟩

theorem add_new {a : Addr} {led : Bool} {l : List (Int × Tok)} {o : Obj} {k : Int} {tk : Tok} {Q : Bool → Shared → Prop} (ho : s.heap.get? a = some o) (hS : SetO led l o) (hl : l.length ≤ 3) (h0 : 0 ≤ k) (h1 : k < 18)
    (hn : k ∉ l.map Prod.fst) (h : ∀ h' o' l', Heap.SameBut a s.heap h' → h'.get? a = some o' → SetO led l' o' → l'.Perm ((k, tk) :: l) → Q true { s with heap := h' }) :
    wpAny (model prog w) A (setAddHashed a (.int k tk) (hashInt k)) Q E s := by
  obtain ⟨es, ep, ps, rfl, he, hp, hr⟩ := id hS
  have hsz : es.size = l.length := by rw [← Array.length_toList, he, List.length_map]
  have hel : ElemsOf (intKind prog w) es.toList := by rw [he]; exact ent_elems l
  have hf : (tbl led ps).fits es.size = true := by rw [hsz]; exact tbl_fits hp (by omega)
  have hb : es.size < scanBound := by rw [hsz]; unfold scanBound; omega
  have hkey : (intKind prog w).is k (.int k tk) = true := intKind_is _ _ _ _
  unfold setAddHashed setAddHashedIn
  refine wpAny_holding (wpAny_bind (wpAny_setState_of ho rfl hf ?_))
  dsimp only
  rw [byScan_of rfl hb hel]
  simp only [↓reduceIte]
  unfold setAddByScan
  refine wpAny_bind ?_
  refine wpAny_bind (wpAny_rule ?_)
  refine wpAny_bind (wpAny_setScan_of hkey ho rfl hf hel ?_)
  have hnone : List.findIdx? (fun e => (intKind prog w).is k e.2) es.toList = none := by
    rw [List.findIdx?_eq_none_iff, he]
    intro e he'
    obtain ⟨p, hp', rfl⟩ := List.mem_map.mp he'
    show Value.isInt k (.int p.1 p.2) = false
    have : p.1 ≠ k := fun e => hn (e ▸ List.mem_map_of_mem hp')
    simpa [Value.isInt] using this
  rw [hnone]
  dsimp only
  obtain ⟨j, hj, hj2⟩ := add_facts led hr (by omega) (k := k.toNat) (by omega)
  rw [Int.toNat_of_nonneg h0] at hj
  obtain ⟨l', hl', hperm⟩ := ent_insert he (SetTable.below ps.toArray j) (k, tk)
  have hlen' : l'.length = l.length + 1 := by rw [hperm.length_eq, List.length_cons]
  have hsz' : (SetTable.insertAt es (SetTable.below ps.toArray j) (ent (k, tk))).size = l.length + 1 := by
    rw [← Array.length_toList, hl', List.length_map, hlen']
  have hplen : (insP ps (SetTable.below ps.toArray j) j).length = l.length + 1 := by
    unfold insP
    rw [List.length_append, List.length_cons, List.length_take, List.length_drop, ← hp]
    omega
  have hfit' : (tbl led (insP ps (SetTable.below ps.toArray j) j)).fits (SetTable.insertAt es (SetTable.below ps.toArray j) (ent (k, tk))).size = true := by
    rw [hsz']; exact tbl_fits hplen (by omega)
  have hlay : layNew (tbl led ps) es (hashInt k) (.int k tk) = (SetTable.insertAt es (SetTable.below ps.toArray j) (ent (k, tk)), tbl led (insP ps (SetTable.below ps.toArray j) j), false, false) := by
    unfold layNew
    rw [hash_small h0 h1, hj]
    dsimp only
    rw [tbl_put]
    dsimp only
    have e : ent (k, tk) = (k, Value.int k tk) := by unfold ent; rw [hash_small h0 h1]
    rw [e] at hfit' ⊢
    unfold SetTable.orStandIn
    rw [if_pos hfit', hfit']
    rfl
  rw [hlay]
  dsimp only
  refine wpAny_bind (wpAny_pure ?_)
  have hpl : ∀ q : List Nat, (tbl led q).plain = true := fun _ => rfl
  rw [if_pos (hpl _)]
  refine wpAny_bind ?_
  rw [hashByValue_scannable 8 rfl]
  refine wpAny_pure ?_
  dsimp only [plainKind]
  simp only [↓reduceIte]
  refine wpAny_bind (wpAny_storeSet_of ho rfl ?_ (by rw [hsz', sizeLine_eq]; omega))
  rw [tbl_full led (by rw [hplen]; omega)]
  simp only [Bool.and_false, Bool.false_eq_true, if_false]
  obtain ⟨ep', hg⟩ := setO_get hS ho (es' := SetTable.insertAt es (SetTable.below ps.toArray j) (ent (k, tk))) (t' := tbl led (insP ps (SetTable.below ps.toArray j) j))
  exact wpAny_pure (wpAny_pure (h _ _ l' (Heap.SameBut.update ..) hg ⟨_, _, _, rfl, hl', by rw [hplen, hlen'], hj2⟩ hperm))

theorem add_old {a : Addr} {led : Bool} {l : List (Int × Tok)} {o : Obj} {k : Int} {tk : Tok} {Q : Bool → Shared → Prop} (ho : s.heap.get? a = some o) (hS : SetO led l o) (hl : l.length ≤ 4)
    (hn : k ∈ l.map Prod.fst) (h : Q false s) :
    wpAny (model prog w) A (setAddHashed a (.int k tk) (hashInt k)) Q E s := by
  obtain ⟨es, ep, ps, rfl, he, hp, hr⟩ := id hS
  have hsz : es.size = l.length := by rw [← Array.length_toList, he, List.length_map]
  have hel : ElemsOf (intKind prog w) es.toList := by rw [he]; exact ent_elems l
  have hf : (tbl led ps).fits es.size = true := by rw [hsz]; exact tbl_fits hp (by omega)
  have hb : es.size < scanBound := by rw [hsz]; unfold scanBound; omega
  have hkey : (intKind prog w).is k (.int k tk) = true := intKind_is _ _ _ _
  unfold setAddHashed setAddHashedIn
  refine wpAny_holding (wpAny_bind (wpAny_setState_of ho rfl hf ?_))
  dsimp only
  rw [byScan_of rfl hb hel]
  simp only [↓reduceIte]
  unfold setAddByScan
  refine wpAny_bind ?_
  refine wpAny_bind (wpAny_rule ?_)
  refine wpAny_bind (wpAny_setScan_of hkey ho rfl hf hel ?_)
  cases hr : List.findIdx? (fun e => (intKind prog w).is k e.2) es.toList with
  | some j => exact wpAny_pure (wpAny_pure h)
  | none =>
    exfalso
    rw [List.findIdx?_eq_none_iff, he] at hr
    obtain ⟨p, hp', e⟩ := List.mem_map.mp hn
    have := hr (ent p) (List.mem_map_of_mem hp')
    have e2 : Value.isInt k (.int p.1 p.2) = false := this
    simp [Value.isInt, e] at e2
end
end Mine
end
section
open PySem PyProof.Rows
namespace Mine
/-- are sets walked by their table (not by the world's own order) -/
def ledOf (w : World) : Bool := !(w.params.followText "set-order")
/-- what we know of the ints in a set made of ns -/
def From (l : List (Int × Tok)) (ns : List Int) : Prop := (l.map Prod.fst).Nodup ∧ ∀ x ∈ l.map Prod.fst, x ∈ ns
section
variable {prog : Program} {w : World} {A : Around} {R : Result → Shared → Prop} {I : Addr} {fp wr : List Addr} {G : Array GenState → Array GenState → Prop} {n : Nat} {P : Nat → Value → Prop} {St : Nat → Shared → Prop}
theorem set_loop (W : WalksS prog w A.in1 I fp wr G n P St) (S : Addr) (hSf : S ∉ fp) (led : Bool) (ns : List Int) (h4 : n ≤ 4)
    (hval : ∀ i v, i < n → P i v → ∃ x t, v = .int x t ∧ x ∈ ns ∧ 0 ≤ x ∧ x < 18) :
    ∀ (k i : Nat) (s : Shared) (l : List (Int × Tok)) (o : Obj), n - i = k → i ≤ n → St i s → s.heap.get? S = some o → SetO led l o → From l ns → l.length ≤ i →
      (∀ s' l' o', Moved (S :: wr) G s s' → s'.heap.get? S = some o' → SetO led l' o' → From l' ns → l'.length ≤ n → R (.ok (.ret .none)) s') →
      codeAny (model prog w) A (.builtin "set.update.loop" ⟨[.ref S, .ref I], []⟩) R s := by
  have hSw : S ∉ wr := fun h => hSf (W.sub _ h)
  have hsub : ∀ b ∈ wr, b ∈ S :: wr := fun b hb => List.mem_cons_of_mem _ hb
  intro k
  induction k with
  | zero =>
    intro i s l o hk hi hst ho hS hl hle hR
    have hin : i = n := by omega
    subst hin
    refine codeAny_builtin PyProof.Rows.F.entry_set_update_loop ?_
    rw [Around.under_plainId PyProof.Rows.F.plain_set_update_loop _]
    show wpAny _ A.in1 (pyNext (.ref I) >>= _) _ _ s
    refine wpAny_bind (W.done s _ _ hst fun s' hm => ?_)
    show wpAny _ A.in1 (ret Value.none) _ _ s'
    exact wpAny_pure (hR s' l o (hm.mono hsub) (hm.heap S _ hSw ho) hS hl hle)
  | succ k ih =>
    intro i s l o hk hi hst ho hS hl hle hR
    have hlt : i < n := by omega
    refine codeAny_builtin PyProof.Rows.F.entry_set_update_loop ?_
    rw [Around.under_plainId PyProof.Rows.F.plain_set_update_loop _]
    show wpAny _ A.in1 (pyNext (.ref I) >>= _) _ _ s
    refine wpAny_bind (W.item i s _ _ hlt hst fun v s' hP hst' hm => ?_)
    obtain ⟨x, t, rfl, hx, hx0, hx1⟩ := hval i v hlt hP
    have ho' : s'.heap.get? S = some o := hm.heap S _ hSw ho
    show wpAny _ A.in1 (holding [Value.int x t] (setAdd S (.int x t)) >>= _) _ _ s'
    refine wpAny_bind (wpAny_holding ?_)
    unfold setAdd
    refine wpAny_holding ?_
    refine wpAny_bind ((intKind prog w).pyHash (k := x) (intKind_is _ _ _ _) ?_)
    show wpAny _ A.in1 (setAddHashed S (.int x t) (hashInt x)) _ _ { s' with toks := s'.toks + 1 }
    by_cases hn : x ∈ l.map Prod.fst
    · refine add_old (s := { s' with toks := s'.toks + 1 }) ho' hS (by omega) hn ?_
      refine wpAny_pure ⟨plainId_quiet PyProof.Rows.F.plain_set_update_loop _, ih (i + 1) _ l o (by omega) hlt (W.frame _ s' s'.heap _ hst' (Nat.le_succ _) fun b hb o e => e) ho' hS hl (by omega) fun s'' l' o' hm'' h1 h2 h3 h5 => ?_⟩
      exact hR s'' l' o' (Moved.trans W.gtrans ((hm.mono hsub).then_heap (Nat.le_succ _) fun b o hb e => e) hm'') h1 h2 h3 h5
    · refine add_new (s := { s' with toks := s'.toks + 1 }) ho' hS (by omega) hx0 hx1 hn fun h' o₂ l₂ hsb ho₂ hS₂ hp => ?_
      have hl₂ : From l₂ ns := by
        have hp' := hp.map Prod.fst
        refine ⟨hp'.nodup_iff.mpr (List.nodup_cons.mpr ⟨hn, hl.1⟩), fun y hy => ?_⟩
        rcases List.mem_cons.mp (hp'.mem_iff.mp hy) with e | hy
        · rw [e]; exact hx
        · exact hl.2 y hy
      have hle₂ : l₂.length ≤ i + 1 := by rw [hp.length_eq, List.length_cons]; omega
      refine wpAny_pure ⟨plainId_quiet PyProof.Rows.F.plain_set_update_loop _, ih (i + 1) _ l₂ o₂ (by omega) hlt (W.frame _ s' _ _ hst' (Nat.le_succ _) fun b hb o e => ?_) ho₂ hS₂ hl₂ hle₂ fun s'' l' o' hm'' h1 h2 h3 h5 => ?_⟩
      · rw [hsb.2 b (fun h : b = S => hSf (by rw [← h]; exact hb))]; exact e
      · refine hR s'' l' o' (Moved.trans W.gtrans ((hm.mono hsub).then_heap (Nat.le_succ _) fun b o hb e => ?_) hm'') h1 h2 h3 h5
        rw [hsb.2 b (fun h : b = S => hb (by rw [h]; exact List.mem_cons_self))]; exact e
end
section
variable {prog : Program} {w : World} {A : Around} {E : Value → Shared → Prop} {s : Shared}
theorem set_made (a : Value) {Q₁ : Value → Shared → Prop}
    (h : Q₁ (.ref s.heap.objs.size) { s with heap := s.heap.push { cls := .type "set", dict := none, data := .set #[] 0 (.fresh 0 0 (ledOf w)) } }) :
    codeAny (model prog w) A (.call (.builtin "set.__new__") ⟨[.type "set", a], []⟩) (wants Q₁ E) s := by
  refine codeAny_of_tree ?_
  show wpAny _ A.in1 (do checkBuiltinCall "set.__new__" ⟨[.type "set", a], []⟩; again (.builtin "set.__new__" ⟨[.type "set", a], []⟩)) _ _ s
  refine wpAny_bind (wpAny_of_eq (PySem.F.newCall_set_1 a) (wpAny_pure ⟨plainId_quiet PySem.F.plain_set_new _, codeAny_builtin PySem.F.entry_set_new ?_⟩))
  rw [Around.under_plainId PySem.F.plain_set_new _]
  unfold Builtin.«set.__new__» Builtin.Frozenset.newClass
  have hsub := sub_set_self
  obtain ⟨hp, g, d, tk, os⟩ := s
  dsimp only
  wp_walk
  refine wpAny_askSetting (wpAny_pure ?_)
  dsimp only
  simp only [newObj]
  refine wpAny_bind (wpAny_alloc (wpAny_pure ?_))
  exact wpAny_pure h
end
end Mine
end
section
open PySem PyProof.Rows
namespace Mine
section
variable {prog : Program} {w : World} {A : Around} {E : Value → Shared → Prop} {s : Shared}
set_option maxHeartbeats 3200000 in
theorem call_set {l : Addr} {vs : List Value} {ns : List Int} {Q : Value → Shared → Prop}
    (hh : A.handled = none) (hl : s.heap.IsList l vs.toArray) (hi : IntsAre vs ns) (h4 : ns.length ≤ 4) (hsm : ∀ x ∈ ns, 0 ≤ x ∧ x < 18)
    (h : ∀ (h' : Heap) (tk : Nat) (l' : List (Int × Tok)) (o : Obj), h'.get? s.heap.objs.size = some o → SetO (ledOf w) l' o → From l' ns → l'.length ≤ ns.length →
      (∀ b o, b < s.heap.objs.size → s.heap.get? b = some o → h'.get? b = some o) → Q (.ref s.heap.objs.size) { s with heap := h', toks := tk }) :
    wpAny (model prog w) A (call (.type "set") [.ref l]) Q E s := by
  obtain ⟨c, tl, hmro⟩ := PySem.F.called_set.mro
  have hmade := PySem.F.called_set.made
  have hsub := PySem.F.called_set.sub
  refine wpAny_call (codeAny_of_tree ?_)
  show wpAny _ _ (callAny (.type "set") _) _ _ _
  refine wpAny_pure ⟨Code.quiet_builtin _ (by decide +kernel), codeAny_builtin PySem.F.entry_type_call ?_⟩
  rw [Around.under_plain (weight_type_call_type "set" [.ref l] []) rfl]
  have h1 := PySem.F.called_set.notType
  have h2 := PySem.F.called_set.canCreate
  have hct := PySem.F.typeCall_set_1 (.ref l)
  repeat (any_goals (first | assumption | wp_step))
  refine codeAny_mono (set_made (.ref l) (E := E) (Q₁ := fun obj s₁ => obj = .ref s.heap.objs.size ∧ s₁ = { s with heap := s.heap.push { cls := .type "set", dict := none, data := .set #[] 0 (.fresh 0 0 (ledOf w)) } }) ⟨rfl, rfl⟩) fun r s₁ hr => ?_
  cases r with
  | error e => exact hr
  | ok fl =>
    cases fl with
    | ret obj =>
      obtain ⟨rfl, rfl⟩ := hr
      have hS : (s.heap.push { cls := .type "set", dict := none, data := .set #[] 0 (.fresh 0 0 (ledOf w)) }).get? s.heap.objs.size = some { cls := .type "set", dict := none, data := .set #[] 0 (.fresh 0 0 (ledOf w)) } := Heap.get?_push_size _ rfl
      have hT : Shared.TypeIs { s with heap := s.heap.push { cls := .type "set", dict := none, data := .set #[] 0 (.fresh 0 0 (ledOf w)) } } (.ref s.heap.objs.size) "set" := ⟨_, hS, rfl⟩
      have hli := PySem.F.called_set.init.lookup
      have hbi := PySem.F.called_set.init.bind (.ref s.heap.objs.size)
      repeat (any_goals (first | assumption | wp_step))
      refine codeAny_mono (codeAny_call_builtin (R := wants (fun r s₂ => r = .none ∧ ∃ h' tk l' o, s₂ = { s with heap := h', toks := tk } ∧ h'.get? s.heap.objs.size = some o ∧ SetO (ledOf w) l' o ∧ From l' ns ∧ l'.length ≤ ns.length ∧
          (∀ b o, b < s.heap.objs.size → s.heap.get? b = some o → h'.get? b = some o)) E) PySem.F.called_set.init.plain PySem.F.entry_set_init (check_set_init_1 hT ?_)) fun r₂ s₂ hr₂ => ?_
      · obtain ⟨ol, hol, hcl, nl, hdl⟩ := hl
        obtain ⟨ocls, odict, odata, oslots⟩ := ol
        simp only at hcl hdl
        subst hcl; subst hdl
        have hol' : (s.heap.push { cls := .type "set", dict := none, data := .set #[] 0 (.fresh 0 0 (ledOf w)) }).get? l = some { cls := .type "list", dict := odict, data := .seq vs.toArray nl, slots := oslots } := Heap.get?_push_of_some _ hol
        have hsls := PySem.F.sub_list_set
        have hslf := PySem.F.sub_list_frozenset
        have hne : (Value.type "list" == Value.type "dict") = false := by decide
        have hl1 : (s.heap.push { cls := .type "set", dict := none, data := .set #[] 0 (.fresh 0 0 (ledOf w)) }).IsList l vs.toArray := ⟨_, hol', rfl, nl, rfl⟩
        unfold Builtin.«set.__init__» noKeywords Builtin.Frozenset.updateFrom
        generalize hPI : pyIter = PI
        wp_walk
        subst hPI
        refine wpAny_pyIter_list hl1 ?_
        refine wpAny_bind (wpAny_runValue ?_)
        have hlS : l < s.heap.objs.size := Heap.lt_size hol
        have hh3 : A.in1.in1.in1.handled = none := by simp [hh]
        have hneI : l ≠ (s.heap.push { cls := .type "set", dict := none, data := .set #[] 0 (.fresh 0 0 (ledOf w)) }).objs.size := by
          rw [Heap.size_push]; exact Nat.ne_of_lt (Nat.lt_succ_of_lt hlS)
        have hSf : s.heap.objs.size ∉ [(s.heap.push { cls := .type "set", dict := none, data := .set #[] 0 (.fresh 0 0 (ledOf w)) }).objs.size, l] := by
          rw [Heap.size_push]; simp only [List.mem_cons, List.mem_singleton, List.not_mem_nil, or_false, not_or]
          exact ⟨Nat.ne_of_lt (Nat.lt_succ_self _), Nat.ne_of_gt hlS⟩
        have hlen : vs.length = ns.length := IntsAre.length hi
        have hsz : vs.toArray.size = ns.length := by rw [List.size_toArray, hlen]
        have hval : ∀ (i : Nat) (v : Value), i < vs.toArray.size → vs.toArray[i]? = some v → ∃ x t, v = .int x t ∧ x ∈ ns ∧ 0 ≤ x ∧ x < 18 := fun i v hlt hv => by
          obtain ⟨t, e⟩ := PyProof.Rows.IntsAre.int_at hi i v (by simpa using hv)
          have hx : ns.getD i 0 ∈ ns := by
            have : i < ns.length := by omega
            simp [this]
          exact ⟨_, t, e, hx, hsm _ hx⟩
        refine set_loop ((Walks.list hh3 _ l hneI vs.toArray).toS) s.heap.objs.size hSf (ledOf w) ns (by omega) hval (vs.toArray.size - 0) 0 _ [] _ (by omega) (Nat.zero_le _)
          ⟨⟨_, Heap.get?_push_size _ rfl, rfl, rfl⟩, (hl1.push _)⟩ (Heap.get?_push_of_some _ hS) ⟨#[], 0, [], by rw [tbl_fresh], rfl, rfl, rfl⟩ ⟨List.nodup_nil, fun x hx => nomatch hx⟩ (Nat.zero_le _) ?hR
        case hR =>
          intro s' l' o' hm ho' hS' hF hle
          obtain ⟨h', g', d', tk', os'⟩ := s'
          have eg : g' = s.gens := hm.gens
          have ed : d' = s.drawn := hm.drawn
          have eo : os' = s.os := hm.os
          subst eg; subst ed; subst eo
          show wpAny _ _ _ _ _ _
          refine wpAny_pure ?_
          show wpAny _ _ (ret Value.none) _ _ _
          refine wpAny_pure ⟨rfl, h', tk', l', o', rfl, ho', hS', hF, by omega, fun b o hb e => ?_⟩
          have hb1 : b ≠ s.heap.objs.size := Nat.ne_of_lt hb
          have hb2 : b ≠ (s.heap.push { cls := .type "set", dict := none, data := .set #[] 0 (.fresh 0 0 (ledOf w)) }).objs.size := by
            rw [Heap.size_push]; exact Nat.ne_of_lt (Nat.lt_succ_of_lt hb)
          exact hm.heap b o (by simp only [List.mem_cons, List.mem_singleton, List.not_mem_nil, or_false, not_or]; exact ⟨hb1, hb2⟩) (Heap.get?_push_of_some _ (Heap.get?_push_of_some _ e))
      · cases r₂ with
        | error e => exact hr₂
        | ok fl₂ =>
          cases fl₂ with
          | ret r =>
            obtain ⟨rfl, h', tk, l', o', rfl, ho', hS', hF, hle, hk'⟩ := hr₂
            repeat (any_goals (first | assumption | wp_step))
            exact h _ _ _ _ ho' hS' hF hle hk'
          | _ => exact hr₂.elim
    | _ => exact hr.elim

theorem set_N {h₀ : Heap} {L : Addr} {m : Str → Option Value} {news : List (Addr × Obj)} {l : Addr} {vs : List Value} {ns : List Int} {Q : Value → Shared → Prop} (F : Fr h₀ L s.heap m) (N : News h₀ L s.heap news)
    (hh : A.handled = none) (hl : s.heap.IsList l vs.toArray) (hi : IntsAre vs ns) (h4 : ns.length ≤ 4) (hsm : ∀ x ∈ ns, 0 ≤ x ∧ x < 18)
    (h : ∀ (D : Addr) (h' : Heap) (tk : Nat) (l' : List (Int × Tok)) (o : Obj), Fr h₀ L h' m → News h₀ L h' ((D, o) :: news) → (∀ p ∈ news, p.1 < D) → SetO (ledOf w) l' o → From l' ns → l'.length ≤ ns.length → Q (.ref D) { s with heap := h', toks := tk }) :
    wpAny (model prog w) A (call (.type "set") [.ref l]) Q E s := by
  refine call_set hh hl hi h4 hsm fun h' tk l' o ho hS hF hle hk => ?_
  obtain ⟨oL, _, _, hL, _⟩ := F.ns
  have hLlt : L < s.heap.objs.size := Heap.lt_size hL
  refine h _ h' tk l' o ⟨F.ns.at' fun o' e => hk L o' hLlt e, fun b o' e => hk b o' (Heap.lt_size (F.keep b o' e)) (F.keep b o' e), F.above⟩ (fun p hp => ?_) (fun p hp => Heap.lt_size (N p hp).1) hS hF hle
  rcases List.mem_cons.mp hp with rfl | hp
  · refine ⟨ho, Nat.ne_of_gt hLlt, ?_⟩
    cases hq : h₀.get? s.heap.objs.size with
    | none => rfl
    | some o' => exact absurd (Heap.lt_size (F.keep _ _ hq)) (Nat.lt_irrefl _)
  · exact ⟨hk _ _ (Heap.lt_size (N p hp).1) (N p hp).1, (N p hp).2.1, (N p hp).2.2⟩
end
end Mine
end
section
open PySem PyProof.Rows
namespace Mine
theorem owner_si : Manifest.owners.lookup (String.ofList ['r', 'o', 't', 'a', 'r', 'e', 't', 'i', '_', 't', 'e', 's'].reverse) = some Manifest.sig_set_iterator := by kernel_rfl
theorem slot_si_next : Slot "set_iterator" "__next__" "set_iterator.__next__" :=
  .of (owner := "set_iterator") (n := "__next__") (by rw [typeLookup_type, builtinLookup_eq_fast]; kernel_rfl) (by decide +kernel) (by decide +kernel) (by decide +kernel)
    (by first | exact .inl (by decide +kernel) | exact .inr (by decide +kernel)) (by rw [isSubtype_type]; kernel_rfl)
theorem entry_si_next : entryFor table "set_iterator.__next__" = some Builtin.«set_iterator.__next__» := entryFor_of_tree (by kernel_rfl)
theorem args_si_next (a : Value) : argsOk "set_iterator.__next__" ⟨[a], []⟩ := by
  unfold argsOk; rw [signature?_of (id := "set_iterator.__next__") (n := ['_', '_', 't', 'x', 'e', 'n', '_', '_']) (o := ['r', 'o', 't', 'a', 'r', 'e', 't', 'i', '_', 't', 'e', 's']) (by kernel_rfl) owner_si]; kernel_rfl
theorem entry_set_iter : entryFor table "set.__iter__" = some Builtin.«frozenset.__iter__» :=
  entryFor_alias (id' := "frozenset.__iter__") (by kernel_rfl) rfl (by decide +kernel) (by kernel_rfl)

/-- the order in which a set of ours is walked -/
def walkOf (w : World) (a : Addr) (ep : Nat) (es : Array (Int × Value)) : Array (Int × Value) := if ledOf w then es else pickOrder (w.params.setOrder a ep) es
theorem erase_perm {α : Type} : ∀ (l : List α) (i : Nat) (h : i < l.length), (l[i] :: l.eraseIdx i).Perm l
  | a :: r, 0, _ => List.Perm.refl _
  | a :: r, i + 1, h => by
    have h' : i < r.length := by simpa using h
    show (r[i] :: a :: r.eraseIdx i).Perm (a :: r)
    exact (List.Perm.swap _ _ _).trans ((erase_perm r i h').cons a)
theorem pick_perm {α : Type} (next : Nat → Nat) : ∀ (f k : Nat) (l : List α) (out : Array α), f = l.length → (pickOrder.go next f k l out).toList.Perm (out.toList ++ l) := by
  intro f
  induction f with
  | zero =>
    intro k l out hf
    have : l = [] := List.eq_nil_of_length_eq_zero hf.symm
    subst this
    unfold pickOrder.go
    rw [List.append_nil]
  | succ f ih =>
    intro k l out hf
    have hlt : next k % l.length < l.length := Nat.mod_lt _ (by omega)
    unfold pickOrder.go
    rw [List.getElem?_eq_getElem hlt]
    dsimp only
    refine (ih (k + 1) _ _ (by rw [List.length_eraseIdx, if_pos hlt]; omega)).trans ?_
    rw [Array.toList_push, List.append_assoc]
    refine List.Perm.append_left _ ?_
    exact erase_perm l _ hlt
theorem walk_perm (w : World) (a : Addr) (ep : Nat) (es : Array (Int × Value)) : (walkOf w a ep es).toList.Perm es.toList := by
  unfold walkOf
  split
  · exact List.Perm.refl _
  · have := pick_perm (w.params.setOrder a ep) es.size 0 es.toList #[] (by simp)
    simpa [pickOrder] using this
def slotAt (w : World) (ps : List Nat) (i : Nat) : Nat := if ledOf w then startAt ps i else 0

section
variable {prog : Program} {w : World} {A : Around} {E : Value → Shared → Prop} {s : Shared}
theorem byText_of (h : ledOf w = false) : w.params.followText "set-order" = true := by
  unfold ledOf at h
  cases e : w.params.followText "set-order" with
  | true => rfl
  | false => rw [e] at h; exact Bool.noConfusion h
theorem byTable_of (h : ledOf w = true) : w.params.followText "set-order" = false := by
  unfold ledOf at h
  cases e : w.params.followText "set-order" with
  | false => rfl
  | true => rw [e] at h; exact Bool.noConfusion h
theorem wp_byText {Q : Bool → Shared → Prop} (h : Q (!ledOf w) s) : wpAny (model prog w) A setsByText Q E s := by
  unfold setsByText
  refine wpAny_bind (wpAny_askSetting (wpAny_pure ?_))
  have : (!ledOf w) = w.params.followText "set-order" := by unfold ledOf; rw [Bool.not_not]
  rw [this] at h
  exact h

theorem next_at {a : Addr} {es : Array (Int × Value)} {ep : Nat} {ps : List Nat} {i : Nat} {Q : Option (Value × Nat) → Shared → Prop}
    (ho : s.heap.get? a = some { cls := .type "set", dict := none, data := .set es ep (tbl (ledOf w) ps), slots := #[] }) (hp : ps.length = es.size) (hr : rise ps = true) (h4 : es.size ≤ 4) (hi : i ≤ es.size)
    (h : Q ((walkOf w a ep es)[i]?.map fun e => (e.2, slotAt w ps (i + 1))) s) : wpAny (model prog w) A (setNext a (slotAt w ps i) i ep) Q E s := by
  have hf : (tbl (ledOf w) ps).fits es.size = true := tbl_fits hp (by omega)
  unfold setNext
  refine wpAny_bind (wpAny_setState_of ho rfl hf ?_)
  dsimp only
  refine wpAny_bind (wp_byText ?_)
  cases hled : ledOf w with
  | false =>
    simp only [Bool.not_false, if_true]
    rw [if_neg (by simp)]
    refine wpAny_bind ?_
    unfold setWalk
    refine wpAny_bind (wpAny_setState_of ho rfl hf ?_)
    dsimp only
    refine wpAny_bind (wp_byText ?_)
    rw [hled]
    simp only [Bool.not_false, if_true]
    refine wpAny_bind (wpAny_askSetting (wpAny_pure ?_))
    refine wpAny_pure ?_
    unfold walkOf slotAt at h
    simp only [hled, Bool.false_eq_true, if_false] at h
    unfold slotAt
    simp only [hled, Bool.false_eq_true, if_false]
    exact h
  | true =>
    simp only [Bool.not_true, Bool.false_eq_true, if_false]
    split
    · rename_i hd
      exact absurd hd Bool.false_ne_true
    · refine wpAny_bind (wpAny_of_eq (a := ()) (by rfl) ?_)
      have e : SetTable.below (tbl true ps).place (slotAt w ps i) = i := by
        unfold slotAt
        rw [if_pos hled]
        exact rise_runs hr (by omega) (by omega)
      rw [e]
      unfold walkOf at h
      rw [if_pos hled] at h
      have hpl : (tbl true ps).place[i]? = ps[i]? := by
        unfold tbl
        simp
      rw [hpl]
      by_cases hlt : i < es.size
      · have h1 : es[i]? = some es[i] := Array.getElem?_eq_getElem hlt
        have h2 : ps[i]? = some ps[i] := List.getElem?_eq_getElem (by omega)
        rw [h1] at h
        rw [h1, h2]
        have h3 : slotAt w ps (i + 1) = ps[i] + 1 := by
          unfold slotAt startAt
          rw [if_pos hled, if_neg (by omega)]
          simp [show i < ps.length by omega]
        rw [h3] at h
        exact wpAny_pure h
      · have h1 : es[i]? = none := Array.getElem?_eq_none (by omega)
        rw [h1] at h
        rw [h1]
        exact wpAny_pure h
end
end Mine
end
section
open PySem PyProof.Rows
namespace Mine
theorem slot_si_iter : Slot "set_iterator" "__iter__" "set_iterator.__iter__" :=
  .of (owner := "set_iterator") (n := "__iter__") (by rw [typeLookup_type, builtinLookup_eq_fast]; kernel_rfl) (by decide +kernel) (by decide +kernel) (by decide +kernel)
    (by first | exact .inl (by decide +kernel) | exact .inr (by decide +kernel)) (by rw [isSubtype_type]; kernel_rfl)
theorem entry_si_iter : entryFor table "set_iterator.__iter__" = some Builtin.«dict_keyiterator.__iter__» :=
  entryFor_alias (id' := "dict_keyiterator.__iter__") (by kernel_rfl) rfl (by decide +kernel) (by kernel_rfl)
theorem args_si_iter (a : Value) : argsOk "set_iterator.__iter__" ⟨[a], []⟩ := by
  unfold argsOk; rw [signature?_of (id := "set_iterator.__iter__") (n := ['_', '_', 'r', 'e', 't', 'i', '_', '_']) (o := ['r', 'o', 't', 'a', 'r', 'e', 't', 'i', '_', 't', 'e', 's']) (by kernel_rfl) owner_si]; kernel_rfl
/-- the iterator, at its i-th step -/
def ItAt (w : World) (h : Heap) (I a : Addr) (n ep : Nat) (ps : List Nat) (i : Nat) : Prop :=
  ∃ o, h.get? I = some o ∧ o.cls = .type "set_iterator" ∧ o.data = .fields #[.int (slotAt w ps i : Nat) 0, .int (i : Nat) 0, .ref a, .int (n : Nat) 0, .int (ep : Nat) 0]
def setObj (w : World) (es : Array (Int × Value)) (ep : Nat) (ps : List Nat) : Obj := { cls := .type "set", dict := none, data := .set es ep (tbl (ledOf w) ps), slots := #[] }
section
variable {prog : Program} {w : World} {A : Around} {E : Value → Shared → Prop} {s : Shared}
theorem ItAt.typeIs {I a : Addr} {n ep : Nat} {ps : List Nat} {i : Nat} (h : ItAt w s.heap I a n ep ps i) : s.TypeIs (.ref I) "set_iterator" := let ⟨o, ho, hc, _⟩ := h; ⟨o, ho, hc⟩
theorem walk_size (w : World) (a : Addr) (ep : Nat) (es : Array (Int × Value)) : (walkOf w a ep es).size = es.size := by
  rw [← Array.length_toList, (walk_perm w a ep es).length_eq, Array.length_toList]

theorem si_item {I a : Addr} {es : Array (Int × Value)} {ep : Nat} {ps : List Nat} {i : Nat} {Q : Option Value → Shared → Prop}
    (hit : ItAt w s.heap I a es.size ep ps i) (ho : s.heap.get? a = some (setObj w es ep ps)) (hp : ps.length = es.size) (hr : rise ps = true) (h4 : es.size ≤ 4) (hi : i < es.size)
    (hQ : ∀ h' v, (walkOf w a ep es)[i]?.map (·.2) = some v → ItAt w h' I a es.size ep ps (i + 1) → (∀ b o, b ∉ [I] → s.heap.get? b = some o → h'.get? b = some o) → Q (some v) { s with heap := h' }) :
    wpAny (model prog w) A (pyNext (.ref I)) Q E s := by
  obtain ⟨oi, hoi, hc, hd⟩ := id hit
  have hf : (tbl (ledOf w) ps).fits es.size = true := tbl_fits hp (by omega)
  unfold pyNext
  refine wpAny_bind (wpAny_attempt (wpAny_callSpecial?_slot (name := Str.ofString "__next__") hit.typeIs slot_si_next
    (wpAny_call_entry slot_si_next hit.typeIs entry_si_next ?_ (args_si_next _))))
  show wpAny _ _ (fieldsOf (.ref I) >>= _) _ _ s
  refine wpAny_bind (wpAny_fieldsOf hoi hd ?_)
  show wpAny _ _ (setEntries a >>= _) _ _ s
  refine wpAny_bind (wpAny_setEntries_of ho rfl hf ?_)
  rw [if_neg (by simp)]
  show wpAny _ _ (setNext a (Int.toNat (slotAt w ps i : Nat)) (Int.toNat (i : Nat)) (Int.toNat (ep : Nat)) >>= _) _ _ s
  simp only [Int.toNat_natCast]
  refine wpAny_bind (next_at ho hp hr h4 (by omega) ?_)
  have hlt : i < (walkOf w a ep es).size := by rw [walk_size]; exact hi
  rw [Array.getElem?_eq_getElem hlt]
  dsimp only [Option.map]
  refine wpAny_bind (wpAny_setField hoi hd (by simp) ?_)
  have ho1 := Heap.get?_update_self (Obj.mapFields (·.setIfInBounds 0 (rawInt (slotAt w ps (i + 1) : Nat)))) hoi (Obj.isFreed_of_fields (Obj.data_mapFields hd _))
  have hd1 := Obj.data_mapFields hd (·.setIfInBounds 0 (rawInt (slotAt w ps (i + 1) : Nat)))
  refine wpAny_bind (wpAny_setField ho1 hd1 (by simp) ?_)
  refine wpAny_pure ⟨_, rfl, wpAny_pure (hQ _ _ ?_ ?_ ?_)⟩
  · rw [Array.getElem?_eq_getElem hlt]; rfl
  · refine ⟨_, Heap.get?_update_self _ ho1 (Obj.isFreed_of_fields (Obj.data_mapFields hd1 _)), ?_, ?_⟩
    · rw [Obj.cls_mapFields, Obj.cls_mapFields]; exact hc
    · rw [Obj.data_mapFields hd1]
      simp [rawInt]
  · intro b o hb e
    have hb' : b ≠ I := fun h => hb (by simp [h])
    exact (Heap.get?_update_other _ _ (Ne.symm hb')).trans ((Heap.get?_update_other _ _ (Ne.symm hb')).trans e)

theorem si_done {I a : Addr} {es : Array (Int × Value)} {ep : Nat} {ps : List Nat} {Q : Option Value → Shared → Prop} (hh : A.handled = none)
    (hit : ItAt w s.heap I a es.size ep ps es.size) (ho : s.heap.get? a = some (setObj w es ep ps)) (hp : ps.length = es.size) (hr : rise ps = true) (h4 : es.size ≤ 4)
    (hQ : ∀ h', (∀ b o, b ∉ [I] → s.heap.get? b = some o → h'.get? b = some o) → Q none { s with heap := h' }) :
    wpAny (model prog w) A (pyNext (.ref I)) Q E s := by
  obtain ⟨oi, hoi, hc, hd⟩ := id hit
  have hf : (tbl (ledOf w) ps).fits es.size = true := tbl_fits hp (by omega)
  unfold pyNext
  refine wpAny_bind (wpAny_attempt (wpAny_callSpecial?_slot (name := Str.ofString "__next__") hit.typeIs slot_si_next
    (wpAny_call_entry slot_si_next hit.typeIs entry_si_next ?_ (args_si_next _))))
  show wpAny _ _ (fieldsOf (.ref I) >>= _) _ _ s
  refine wpAny_bind (wpAny_fieldsOf hoi hd ?_)
  show wpAny _ _ (setEntries a >>= _) _ _ s
  refine wpAny_bind (wpAny_setEntries_of ho rfl hf ?_)
  rw [if_neg (by simp)]
  show wpAny _ _ (setNext a (Int.toNat (slotAt w ps es.size : Nat)) (Int.toNat (es.size : Nat)) (Int.toNat (ep : Nat)) >>= _) _ _ s
  simp only [Int.toNat_natCast]
  refine wpAny_bind (next_at ho hp hr h4 (Nat.le_refl _) ?_)
  rw [Array.getElem?_eq_none (by rw [walk_size]; exact Nat.le_refl _)]
  dsimp only [Option.map]
  refine wpAny_bind (wpAny_setField hoi hd (by simp) ?_)
  show wpAny _ _ (newExc (.type "StopIteration") [] >>= _) _ _ _
  refine wpAny_bind ?_
  simp only [newExc, newTuple]
  refine wpAny_bind (wpAny_newObj_type ?_ (by size_fits))
  refine wpAny_bind (m := firstArgMember _ _) (wpAny_of_eq (a := Value.none) (by first | rfl | (simp only [firstArgMember]; rfl)) ?_)
  refine wpAny_newObj_type ?_ (by size_fits)
  simp only [raiseNew]
  refine wpAny_bind (wpAny_handled ?_)
  rw [show A.in1.handled = none from hh]
  refine wpAny_bind (wpAny_pure (wpAny_throw ?_))
  refine wpAny_bind (wpAny_isInstance (T := "StopIteration") (b := true) ⟨_, Heap.get?_push_size _ rfl, rfl⟩ isSubtype_stop ?_)
  refine wpAny_pure (hQ _ fun b o hb e => ?_)
  have hb' : b ≠ I := fun h => hb (by simp [h])
  exact (((Heap.SameBut.update ..).extBut.push _).push _) b o hb' e

theorem si_self {I a : Addr} {n ep : Nat} {ps : List Nat} {i : Nat} {Q : Value → Shared → Prop} (hit : ItAt w s.heap I a n ep ps i) (h : Q (.ref I) s) :
    wpAny (model prog w) A (pyIter (.ref I)) Q E s := by
  refine wpAny_pyIter_slot hit.typeIs slot_si_iter (wpAny_call_entry slot_si_iter hit.typeIs entry_si_iter ?_ (args_si_iter _))
  show wpAny _ _ (ret (.ref I)) _ _ s
  exact wpAny_pure ⟨_, rfl, "set_iterator", _, hit.typeIs, slot_si_next.lookup, h⟩

theorem si_walks (hh : A.handled = none) (I a : Addr) (hne : a ≠ I) {es : Array (Int × Value)} {ep : Nat} {ps : List Nat} (hp : ps.length = es.size) (hr : rise ps = true) (h4 : es.size ≤ 4) :
    Walks prog w A I [I, a] [I] es.size (fun i v => (walkOf w a ep es)[i]?.map (·.2) = some v) (fun i h => ItAt w h I a es.size ep ps i ∧ h.get? a = some (setObj w es ep ps)) where
  sub := fun b hb => by simp at hb; simp [hb]
  frame := fun _ _ _ st hk => ⟨let ⟨o, ho, r⟩ := st.1; ⟨o, hk I (by simp) o ho, r⟩, hk a (by simp) _ st.2⟩
  item := fun i s Q E hi st hQ => by
    refine si_item st.1 st.2 hp hr h4 hi fun h' v hv hit hk => ?_
    exact hQ v h' s.toks hv ⟨hit, hk a _ (by simp [hne]) st.2⟩ hk
  done := fun s Q E st hQ => si_done hh st.1 st.2 hp hr h4 fun h' hk => hQ h' s.toks hk
  self := fun _ _ _ _ st hQ => si_self st.1 hQ
end
end Mine
end
section
open PySem PyProof.Rows
namespace Mine
theorem len_of_set : typeLookup (.type "set") "__len__" = pure (some (.builtin "set.__len__")) := PySem.F.slot_set_len.lookup
section
variable {prog : Program} {w : World} {A : Around} {E : Value → Shared → Prop} {s : Shared}
theorem wp_pos {M : Model} {α : Type} {c : Prop} [Decidable c] {t e : Sem α} {Q : α → Shared → Prop} (hc : c) (h : wpAny M A t Q E s) : wpAny M A (if c then t else e) Q E s := by
  rw [if_pos hc]; exact h
theorem not_drawn {a : Addr} {es : Array (Int × Value)} {ep : Nat} {ps : List Nat} {Q : Bool → Shared → Prop} (ho : s.heap.get? a = some (setObj w es ep ps)) (hf : (tbl (ledOf w) ps).fits es.size = true) (h : Q false s) :
    wpAny (model prog w) A (setDrawn a) Q E s := by
  unfold setDrawn
  refine wpAny_bind (wpAny_setState_of ho rfl hf ?_)
  dsimp only
  refine wpAny_bind (wp_byText ?_)
  refine wpAny_pure ?_
  cases ledOf w
  · exact h
  · exact h
theorem set_iter {a : Addr} {es : Array (Int × Value)} {ep : Nat} {ps : List Nat} {Q : Value → Shared → Prop} (ho : s.heap.get? a = some (setObj w es ep ps)) (hp : ps.length = es.size) (h4 : es.size ≤ 4)
    (hQ : ∀ h', ItAt w h' s.heap.objs.size a es.size ep ps 0 → (∀ b o, s.heap.get? b = some o → h'.get? b = some o) → Q (.ref s.heap.objs.size) { s with heap := h' }) :
    wpAny (model prog w) A (pyIter (.ref a)) Q E s := by
  have hT : s.TypeIs (.ref a) "set" := ⟨_, ho, rfl⟩
  have hf : (tbl (ledOf w) ps).fits es.size = true := tbl_fits hp (by omega)
  refine wpAny_pyIter_slot hT PySem.F.slot_set_iter (wpAny_call_entry PySem.F.slot_set_iter hT entry_set_iter ?_ (PySem.F.args_set_iter_1 _))
  unfold Builtin.«frozenset.__iter__»
  refine wpAny_bind (wpAny_of_eq (a := a) (by rfl) ?_)
  unfold Builtin.Frozenset.sizeOf
  refine wpAny_bind (wpAny_bind (wpAny_setEntries_of ho rfl hf (wpAny_pure ?_)))
  refine wpAny_bind (m := setDrawn a) (not_drawn ho hf ?_)
  simp only [Bool.false_eq_true, if_false]
  refine wpAny_bind (wpAny_pure ?_)
  refine wpAny_bind (wpAny_setEpoch_of ho rfl hf ?_)
  have h0 : slotAt w ps 0 = 0 := by unfold slotAt startAt; simp
  have hit : ItAt w (s.heap.push { cls := .type "set_iterator", data := .fields #[.int 0 0, .int 0 0, .ref a, .int (es.size : Nat) 0, .int (ep : Nat) 0] }) s.heap.objs.size a es.size ep ps 0 :=
    ⟨_, Heap.get?_push_size _ rfl, rfl, by rw [h0]; rfl⟩
  refine wpAny_bind (wpAny_newObj_type ?_ (by size_fits))
  exact wpAny_pure ⟨_, rfl, "set_iterator", _, hit.typeIs (s := { s with heap := _ }), slot_si_next.lookup, hQ _ hit fun b o e => Heap.get?_push_of_some _ e⟩

theorem set_collect {a : Addr} {es : Array (Int × Value)} {ep : Nat} {ps : List Nat} {Q : List Value → Shared → Prop} (hh : A.handled = none) (ho : s.heap.get? a = some (setObj w es ep ps)) (hp : ps.length = es.size) (hr : rise ps = true) (h4 : es.size ≤ 4)
    (hQ : ∀ h' tk, (∀ b o, s.heap.get? b = some o → h'.get? b = some o) → s.heap.objs.size ≤ h'.objs.size → Q ((walkOf w a ep es).toList.map (·.2)) { s with heap := h', toks := tk }) :
    wpAny (model prog w) A (collect (.ref a)) Q E s := by
  have ha : a < s.heap.objs.size := Heap.lt_size ho
  unfold collect
  refine wpAny_bind (wpAny_runValue (codeAny_builtin PySem.F.entry_proto_collect ?_))
  rw [Around.under_plainId PySem.F.plain_proto_collect _]
  show wpAny _ A.in1 (newList [] >>= fun l => again (.builtin "list.__iadd__" ⟨[l, .ref a], []⟩)) _ _ s
  refine wpAny_bind (wpAny_newObj_type ?_)
  refine wpAny_pure ⟨plainId_quiet PySem.F.plain_list_iadd _, codeAny_builtin PySem.F.entry_list_iadd ?_⟩
  rw [Around.under_plainId PySem.F.plain_list_iadd _]
  show wpAny _ A.in1 (Builtin.List.listExtendWith (.ref s.heap.objs.size) (.ref a) (.ref s.heap.objs.size)) _ _ _
  unfold Builtin.List.listExtendWith
  have ho1 : (s.heap.push { cls := .type "list", data := .seq ([] : List Value).toArray }).get? a = some (setObj w es ep ps) := Heap.get?_push_of_some _ ho
  have hT : ∀ {h : Heap}, h.get? a = some (setObj w es ep ps) → Shared.TypeIs { s with heap := h } (.ref a) "set" := fun e => ⟨_, e, rfl⟩
  refine wpAny_bind (wpAny_typeOf (hT ho1) ?_)
  have h1 : Builtin.List.listSameRef (.ref s.heap.objs.size) (.ref a) = false := by simp [Builtin.List.listSameRef, Nat.ne_of_gt ha]
  rw [if_neg (by rw [h1]; decide)]
  refine wpAny_bind (set_iter (s := { s with heap := _ }) ho1 hp h4 fun h2 hit hk2 => ?_)
  have hsz1 : (s.heap.push { cls := .type "list", data := .seq ([] : List Value).toArray }).objs.size = s.heap.objs.size + 1 := Heap.size_push ..
  have ho2 : h2.get? a = some (setObj w es ep ps) := hk2 _ _ ho1
  have hS2 : h2.get? s.heap.objs.size = some { cls := .type "list", data := .seq ([] : List Value).toArray } := hk2 _ _ (Heap.get?_push_size _ rfl)
  refine wpAny_bind (wpAny_holding ?_)
  unfold Builtin.List.listLengthHint
  refine wpAny_bind (wpAny_specialOf (hT ho2) len_of_set ?_)
  generalize hid : ("set.__len__" : String) = id0
  wp_delta
  rw [show splitId id0 = some ("set", "__len__") from by subst hid; decide +kernel]
  subst hid
  refine wpAny_bind (wpAny_isInstance (b := true) (hT ho2) sub_set_self ?_)
  rw [if_neg (by decide)]
  refine wp_pos (by decide +kernel) ?_
  refine wpAny_bind (wpAny_typeOf (hT ho2) ?_)
  refine wpAny_pure ?_
  refine wp_pos (by decide +kernel) ?_
  refine wpAny_bind (wpAny_rule ?_)
  refine wpAny_bind ?_
  show wpAny _ A.in1 (updateSeq s.heap.objs.size (·.push .none) >>= fun _ => updateSeq s.heap.objs.size (·.pop)) _ _ _
  refine wpAny_bind (wpAny_updateSeq hS2 rfl ?_)
  have hS3 := Heap.get?_update_self (Obj.mapSeq (·.push Value.none)) hS2 rfl
  refine wpAny_updateSeq hS3 rfl ?_
  have hS4 := Heap.get?_update_self (Obj.mapSeq (·.pop)) hS3 rfl
  have oth : ∀ b o, b ≠ s.heap.objs.size → h2.get? b = some o →
      ((h2.update s.heap.objs.size (Obj.mapSeq (·.push Value.none))).update s.heap.objs.size (Obj.mapSeq (·.pop))).get? b = some o :=
    fun b o hb e => (Heap.get?_update_other _ _ (Ne.symm hb)).trans ((Heap.get?_update_other _ _ (Ne.symm hb)).trans e)
  have hIeq : (s.heap.push { cls := .type "list", data := .seq ([] : List Value).toArray }).objs.size = s.heap.objs.size + 1 := hsz1
  have hne : a ≠ (s.heap.push { cls := .type "list", data := .seq ([] : List Value).toArray }).objs.size := by rw [hIeq]; exact Nat.ne_of_lt (Nat.lt_succ_of_lt ha)
  have hIS : (s.heap.push { cls := .type "list", data := .seq ([] : List Value).toArray }).objs.size ≠ s.heap.objs.size := by rw [hIeq]; exact Nat.ne_of_gt (Nat.lt_succ_self _)
  have hSf : s.heap.objs.size ∉ [(s.heap.push { cls := .type "list", data := .seq ([] : List Value).toArray }).objs.size, a] := by
    simp only [List.mem_cons, List.not_mem_nil, or_false, not_or]
    exact ⟨Ne.symm hIS, Nat.ne_of_gt ha⟩
  have hh3 : A.in1.handled = none := by simp [hh]
  refine wpAny_pure ⟨plainId_quiet PySem.F.plain_extend_loop _, codeAny_extend_loopS (si_walks hh3 _ a hne hp hr h4).toS (by rw [sizeLine_eq]; omega) _ hSf _ es.size 0 _ _ _ rfl (Nat.zero_le _)
    ⟨let ⟨o, ho', r⟩ := hit; ⟨o, oth _ _ hIS ho', r⟩, oth _ _ (Nat.ne_of_lt ha) ho2⟩ hS4 (ItemsOf.nil _) fun s' acc' c' hm hS' hacc => ?_⟩
  show wpAny _ A (load s.heap.objs.size >>= _) _ _ s'
  refine wpAny_bind (wpAny_load hS' ?_)
  have hacc' : acc'.toList = (walkOf w a ep es).toList.map (·.2) := by
    apply List.ext_getElem?
    intro j
    rw [List.getElem?_map, Array.getElem?_toList, Array.getElem?_toList]
    by_cases hj : j < acc'.size
    · rw [Array.getElem?_eq_getElem hj]
      exact (hacc.2 j _ (Array.getElem?_eq_getElem hj)).symm
    · rw [Array.getElem?_eq_none (by omega), Array.getElem?_eq_none (by rw [walk_size]; have := hacc.1; omega)]
      rfl
  obtain ⟨h', g', d', tk', os'⟩ := s'
  have eg : g' = s.gens := hm.gens
  have ed : d' = s.drawn := hm.drawn
  have eo : os' = s.os := hm.os
  subst eg; subst ed; subst eo
  refine wpAny_pure ?_
  rw [hacc']
  refine hQ h' tk' (fun b o e => ?_) (Nat.le_of_lt (Heap.lt_size hS'))
  have hb : b < s.heap.objs.size := Heap.lt_size e
  exact hm.heap b o (by simp only [List.mem_cons, List.not_mem_nil, or_false, not_or]; rw [hIeq]; exact ⟨Nat.ne_of_lt hb, Nat.ne_of_lt (Nat.lt_succ_of_lt hb)⟩) (oth b o (Nat.ne_of_lt hb) (hk2 _ _ (Heap.get?_push_of_some _ e)))
end
end Mine
end
section
open PySem PyProof.Rows
namespace Mine
theorem perm_map {α β : Type} (f : α → β) : ∀ {xs ys : List β}, xs.Perm ys → ∀ l : List α, ys = l.map f → ∃ l' : List α, xs = l'.map f ∧ l'.Perm l := by
  intro xs ys h
  induction h with
  | nil =>
    intro l e
    exact ⟨[], rfl, by rw [List.map_eq_nil_iff.mp e.symm]⟩
  | cons x _ ih =>
    intro l e
    match l, e with
    | a :: r, e =>
      rw [List.map_cons, List.cons.injEq] at e
      obtain ⟨l', e1, hp⟩ := ih r e.2
      exact ⟨a :: l', by rw [List.map_cons, e.1, e1], hp.cons a⟩
  | swap x y r =>
    intro l e
    match l, e with
    | a :: b :: t, e =>
      rw [List.map_cons, List.map_cons, List.cons.injEq, List.cons.injEq] at e
      exact ⟨b :: a :: t, by rw [List.map_cons, List.map_cons, e.1, e.2.1, e.2.2], List.Perm.swap _ _ _⟩
  | trans _ _ ih1 ih2 =>
    intro l e
    obtain ⟨l2, e2, h2⟩ := ih2 l e
    obtain ⟨l1, e1, h1⟩ := ih1 l2 e2
    exact ⟨l1, e1, h1.trans h2⟩
theorem ints_ent : ∀ l : List (Int × Tok), IntsAre ((l.map ent).map (·.2)) (l.map Prod.fst)
  | [] => .nil
  | p :: r => .cons p.1 p.2 (ints_ent r)
section
variable {prog : Program} {w : World} {A : Around} {E : Value → Shared → Prop} {s : Shared}
theorem sorted_set {a : Addr} {o : Obj} {l : List (Int × Tok)} {Q : Value → Shared → Prop} (hh : A.handled = none) (ho : s.heap.get? a = some o) (hS : SetO (ledOf w) l o) (h4 : l.length ≤ 4)
    (h : ∀ (D : Addr) (h' : Heap) (tk : Nat) (vs' : List Value) (ns' : List Int) (e : Nat), h'.get? D = some (seqObj "list" vs'.toArray e) → s.heap.objs.size ≤ D → (∀ b o, s.heap.get? b = some o → h'.get? b = some o) →
      IntsAre vs' ns' → ns'.Perm (l.map Prod.fst) → ns'.Pairwise (· ≤ ·) → Q (.ref D) { s with heap := h', toks := tk }) :
    wpAny (model prog w) A (call (.builtin "sorted") [.ref a]) Q E s := by
  obtain ⟨es, ep, ps, rfl, he, hp, hr⟩ := hS
  have hsz : es.size = l.length := by rw [← Array.length_toList, he, List.length_map]
  refine Calls.call_function_entry kind_sorted plain_sorted entry_sorted (args_sorted1 _) ?_
  unfold Builtin.«sorted»
  refine wpAny_bind (m := checkCount "sorted" 1 1 _) (wpAny_pure ?_)
  have hh1 : A.in1.handled = none := by simp [hh]
  refine wpAny_bind (set_collect (w := w) hh1 ho (by rw [hp, hsz]) hr (by omega) fun h1 tk1 hk1 hsz1 => ?_)
  obtain ⟨l', e1, hperm⟩ := perm_map ent (walk_perm w a ep es) l he
  rw [e1]
  have hI := ints_ent l'
  have hlen : ((l'.map ent).map (·.2)).length ≤ 4 := by rw [List.length_map, List.length_map, hperm.length_eq]; exact h4
  refine wpAny_bind (wpAny_newList ?_)
  have hoL : (h1.push (seqObj "list" ((l'.map ent).map (·.2)).toArray 0)).get? h1.objs.size = some (seqObj "list" ((l'.map ent).map (·.2)).toArray 0) := Heap.get?_push_size _ rfl
  show wpAny _ _ _ _ _ { s with heap := h1.push (seqObj "list" ((l'.map ent).map (·.2)).toArray 0), toks := tk1 }
  refine wpAny_bind (wpAny_holding (wpAny_call_entry slot_list_sort ⟨_, hoL, rfl⟩ entry_list_sort (list_sort_tree hoL hI (by omega) fun out ns' a1 a2 a3 => ⟨_, rfl, ?_⟩) (args_list_sort _)))
  obtain ⟨e, hout⟩ := sortedHeap_at (out := out) hoL
  refine wpAny_pure ⟨_, rfl, h _ _ _ out.toList ns' e (by simpa using hout) hsz1 (fun b o hb => ?_) a1 (a2.trans (hperm.map _)) a3⟩
  have hb1 := hk1 b o hb
  have hlt : b < h1.objs.size := Heap.lt_size hb1
  rw [sortedHeap_old (Nat.ne_of_lt hlt) (by rw [size_push']; exact Nat.lt_succ_of_lt hlt)]
  exact Heap.get?_push_of_some _ hb1

theorem sortedSet_N {h₀ : Heap} {L : Addr} {m : Str → Option Value} {news : List (Addr × Obj)} {a : Addr} {o : Obj} {l : List (Int × Tok)} {Q : Value → Shared → Prop}
    (F : Fr h₀ L s.heap m) (N : News h₀ L s.heap news) (hm : (a, o) ∈ news) (hh : A.handled = none) (hS : SetO (ledOf w) l o) (h4 : l.length ≤ 4)
    (h : ∀ (D : Addr) (h' : Heap) (tk : Nat) (vs' : List Value) (ns' : List Int) (e : Nat), Fr h₀ L h' m → News h₀ L h' ((D, PySem.W.listOf vs'.toArray e) :: news) → (∀ p ∈ news, p.1 < D) →
      IntsAre vs' ns' → ns'.Perm (l.map Prod.fst) → ns'.Pairwise (· ≤ ·) → Q (.ref D) { s with heap := h', toks := tk }) :
    wpAny (model prog w) A (call (.builtin "sorted") [.ref a]) Q E s := by
  refine sorted_set hh (N _ hm).1 hS h4 fun D h' tk vs' ns' e hD hle hk a1 a2 a3 => ?_
  exact h D h' tk vs' ns' e (F.kept hk) (N.kept_cons F hk hle hD) (fun p hp => Nat.lt_of_lt_of_le (Heap.lt_size (N p hp).1) hle) a1 a2 a3
end
end Mine
end
section
open PySem PyProof.Rows
namespace Mine
/-- what a set of ours holds -/
def Got (l : List (Int × Tok)) : Prop := (l.map Prod.fst).Nodup ∧ (∀ x ∈ l.map Prod.fst, 0 ≤ x ∧ x < 18) ∧ l.length ≤ 4
def AllSmall (ns : List Int) : Prop := ∀ x ∈ ns, 0 ≤ x ∧ x < 18
/-- what a sorted list of such places is -/
def Flips (ns : List Int) (n : Nat) : Prop := ns.Pairwise (· < ·) ∧ AllSmall ns ∧ ns.length = n
theorem small_at {ns : List Int} {n : Nat} {x : Int} (h : Flips ns n) (hx : x ∈ ns) : 0 ≤ x ∧ x < 18 := h.2.1 x hx
theorem comp_small (c : Int) (ks : List Int) : ∀ x ∈ ks.map (fun k' => if ¬ (18 : Int) ^ k'.toNat = 0 then (c.fdiv (18 ^ k'.toNat) + 5 * k').fmod 18 else k'), 0 ≤ x ∧ x < 18 := by
  intro x hx
  obtain ⟨k, _, rfl⟩ := List.mem_map.mp hx
  have h : ¬ (18 : Int) ^ k.toNat = 0 := Int.ne_of_gt (pow_pos_of (by decide) _)
  rw [if_pos h, Int.fmod_eq_emod_of_nonneg _ (by decide)]
  omega
theorem comp_len (c e : Int) : (((PySem.W.rangeKs 0 (e.fmod 5 - 0).toNat).map (fun k' => if ¬ (18 : Int) ^ k'.toNat = 0 then (c.fdiv (18 ^ k'.toNat) + 5 * k').fmod 18 else k'))).length ≤ 4 := by
  rw [List.length_map, PySem.W.rangeKs_length, Int.fmod_eq_emod_of_nonneg _ (by decide)]
  omega
section
variable {prog : Program} {w : World} {A : Around} {E : Value → Shared → Prop} {s : Shared}
theorem setM {h₀ : Heap} {L : Addr} {m : Str → Option Value} {news : List (Addr × Obj)} {l : Addr} {vs : List Value} {ns : List Int} {Q : Value → Shared → Prop} (F : Fr h₀ L s.heap m) (N : News h₀ L s.heap news)
    (hh : A.handled = none) (hl : s.heap.IsList l vs.toArray) (hi : IntsAre vs ns) (h4 : ns.length ≤ 4) (hsm : ∀ x ∈ ns, 0 ≤ x ∧ x < 18)
    (h : ∀ (D : Addr) (h' : Heap) (tk : Nat) (l' : List (Int × Tok)) (o : Obj), Fr h₀ L h' m → News h₀ L h' ((D, o) :: news) → (∀ p ∈ news, p.1 < D) → SetO (ledOf w) l' o → Got l' → Q (.ref D) { s with heap := h', toks := tk }) :
    wpAny (model prog w) A (call (.type "set") [.ref l]) Q E s :=
  set_N F N hh hl hi h4 hsm fun D h' tk l' o F' N' hlt hS hF hle => h D h' tk l' o F' N' hlt hS ⟨hF.1, fun x hx => hsm x (hF.2 x hx), Nat.le_trans hle h4⟩
theorem sortedM {h₀ : Heap} {L : Addr} {m : Str → Option Value} {news : List (Addr × Obj)} {a : Addr} {o : Obj} {l : List (Int × Tok)} {Q : Value → Shared → Prop}
    (F : Fr h₀ L s.heap m) (N : News h₀ L s.heap news) (hm : (a, o) ∈ news) (hh : A.handled = none) (hS : SetO (ledOf w) l o) (hG : Got l)
    (h : ∀ (D : Addr) (h' : Heap) (tk : Nat) (vs' : List Value) (ns' : List Int) (e : Nat), Fr h₀ L h' m → News h₀ L h' ((D, PySem.W.listOf vs'.toArray e) :: news) → (∀ p ∈ news, p.1 < D) →
      IntsAre vs' ns' → Flips ns' l.length → Q (.ref D) { s with heap := h', toks := tk }) :
    wpAny (model prog w) A (call (.builtin "sorted") [.ref a]) Q E s :=
  sortedSet_N F N hm hh hS hG.2.2 fun D h' tk vs' ns' e F' N' hlt a1 a2 a3 => h D h' tk vs' ns' e F' N' hlt a1
    ⟨(a3.and (a2.nodup_iff.mpr hG.1)).imp (fun q => Int.lt_iff_le_and_ne.mpr q), fun x hx => hG.2.1 x (a2.mem_iff.mp hx), by rw [a2.length_eq, List.length_map]⟩
theorem lenM {h₀ : Heap} {L : Addr} {news : List (Addr × Obj)} {a : Addr} {o : Obj} {l : List (Int × Tok)} {Q : Value → Shared → Prop}
    (N : News h₀ L s.heap news) (hm : (a, o) ∈ news) (hS : SetO (ledOf w) l o) (hG : Got l) (h : Q (.int (l.length : Nat) (s.toks + 1)) { s with toks := s.toks + 1 + 1 }) :
    wpAny (model prog w) A (call (.builtin "len") [.ref a]) Q E s := by
  obtain ⟨es, ep, ps, rfl, he, hp, hr⟩ := hS
  have h1 := hG.2.2
  have hsz : es.size = l.length := by rw [← Array.length_toList, he, List.length_map]
  rw [← hsz] at h
  exact call_len_set (N _ hm).1 ⟨rfl, rfl, rfl⟩ rfl (tbl_fits (by rw [hp, hsz]) (by omega)) (by omega) h
end
end Mine
end
section
namespace Mine
def litsB : List Nat := [31892, 34236, 39577, 42195, 48118, 51042, 55367, 58893, 63784, 68472, 70749, 76311, 79154, 84390, 87683, 92361, 96236, 102084, 102881, 110507, 110734, 117786, 119615, 126325, 127568, 133589, 136944, 141498, 145311, 150283, 152622, 158308, 161089, 167017]
theorem bch_litB : ∀ i < 34, bch (7 + (i : Nat)) = (litsB.getD i 0 : Nat) := by decide +kernel
theorem lit_rest : ∀ c ∈ litsB, restM c = 0 ∧ onesN c % 2 = 0 ∧ c < 8388608 := by decide +kernel
theorem lit_mem : ∀ i < 34, litsB.getD i 0 ∈ litsB := by decide +kernel
theorem lit_ver : ∀ i < 34, litsB.getD i 0 / 4096 = 7 + i := by decide +kernel
theorem bch_word (a : Int) : ∃ c : Nat, bch (7 + a.fmod 34) = (c : Int) ∧ restM c = 0 ∧ onesN c % 2 = 0 ∧ c < 8388608 ∧ ((c : Int)).fdiv 4096 = 7 + a.fmod 34 := by
  rw [Int.fmod_eq_emod_of_nonneg _ (by decide)]
  obtain ⟨i, hi, e⟩ : ∃ i : Nat, i < 34 ∧ 7 + a % 34 = 7 + (i : Nat) := ⟨(a % 34).toNat, by omega, by omega⟩
  rw [e]
  have h := lit_rest _ (lit_mem i hi)
  refine ⟨_, bch_litB i hi, h.1, h.2.1, h.2.2, ?_⟩
  rw [Int.fdiv_eq_ediv_of_nonneg _ (by decide)]
  have := lit_ver i hi
  omega
theorem synd_lt : ∀ p < 18, synd p < 2048 := by decide +kernel
theorem read_of {c e s : Nat} (hc : restM c = 0) (he : restM e = s) (hs : s < 2048) : read ((c ^^^ e : Nat) : Int) = ((c ^^^ e ^^^ findM 23 0 s : Nat) : Int) := by
  have h : restM (c ^^^ e) = s := by rw [restM_xor, hc, he, Nat.zero_xor]
  unfold read
  rw [rest_nat, h]
  exact read_nat 23 0 s (c ^^^ e) hs (by omega)
theorem back {c e : Nat} : c ^^^ e ^^^ e = c := by rw [Nat.xor_assoc, Nat.xor_self, Nat.xor_zero]
theorem flip_nat (x p : Nat) : flip (x : Int) (p : Int) = ((x ^^^ 2 ^ p : Nat) : Int) := by
  unfold flip
  rw [Int.toNat_natCast, ← PySem.W.kbt_cast, xor_nat]
theorem onesN_xor (a : Nat) : ∀ b, onesN (a ^^^ b) % 2 = (onesN a + onesN b) % 2 := by
  induction a using Nat.strongRecOn with
  | ind a ih =>
    intro b
    by_cases h : a = 0
    · subst h
      rw [Nat.zero_xor, show onesN 0 = 0 from rfl, Nat.zero_add]
    · have i := ih (a / 2) (by omega) (b / 2)
      have h1 : (a ^^^ b) / 2 = (a / 2) ^^^ (b / 2) := Nat.xor_div_two
      have h3 := @Nat.xor_mod_two_eq_one a b
      rw [onesN_all (a ^^^ b), onesN_all a, onesN_all b, h1]
      omega
theorem onesN_pow : ∀ p < 18, onesN (2 ^ p) = 1 := by decide +kernel
theorem pick2 {a b : Nat} (ha : a < 18) (hb : b < a) : findM 23 0 (synd b ^^^ synd a) = 2 ^ b ^^^ 2 ^ a :=
  Nat.eq_of_beq_eq_true (List.all_eq_true.mp (List.all_eq_true.mp is2 a (List.mem_range.mpr ha)) b (List.mem_range.mpr hb))
theorem pick1 {a : Nat} (ha : a < 18) : findM 23 0 (synd a) = 2 ^ a :=
  Nat.eq_of_beq_eq_true (List.all_eq_true.mp is1 a (List.mem_range.mpr ha))
theorem pick3 {a b c : Nat} (ha : a < 18) (hb : b < a) (hc : c < b) : findM 23 0 (synd c ^^^ synd b ^^^ synd a) = 2 ^ c ^^^ 2 ^ b ^^^ 2 ^ a :=
  Nat.eq_of_beq_eq_true (List.all_eq_true.mp (List.all_eq_true.mp (List.all_eq_true.mp is3 a (List.mem_range.mpr ha)) b (List.mem_range.mpr hb)) c (List.mem_range.mpr hc))
theorem pick4 {a b c d : Nat} (ha : a < 18) (hb : b < a) (hc : c < b) (hd : d < c) : onesN (findM 23 0 (synd d ^^^ synd c ^^^ synd b ^^^ synd a)) % 2 = 1 := by
  have h := List.all_eq_true.mp (List.all_eq_true.mp (List.all_eq_true.mp (is4 a ha) b (List.mem_range.mpr hb)) c (List.mem_range.mpr hc)) d (List.mem_range.mpr hd)
  have h' : ((Nat.beq (Nat.mod (cnt (findM 23 0 (synd d ^^^ synd c ^^^ synd b ^^^ synd a))) 2) 1).and (Nat.blt (findM 23 0 (synd d ^^^ synd c ^^^ synd b ^^^ synd a)) 16777216)) = true := h
  rw [Bool.and_eq_true] at h'
  have e := ones_cnt (Nat.le_of_ble_eq_true h'.2)
  unfold ones at e
  rw [Int.toNat_natCast] at e
  have e2 : onesN (findM 23 0 (synd d ^^^ synd c ^^^ synd b ^^^ synd a)) = cnt (findM 23 0 (synd d ^^^ synd c ^^^ synd b ^^^ synd a)) := by omega
  rw [e2]
  exact Nat.eq_of_beq_eq_true h'.1
theorem x11 {a b : Nat} (ha : a < 2048) (hb : b < 2048) : a ^^^ b < 2048 := Nat.xor_lt_two_pow (n := 11) ha hb
/-- what the law's reader tells -/
theorem told {a w : Int} {ns : List Int} {n : Nat} (hF : Flips ns n) (hw : w = List.foldl flip (bch (7 + a.fmod 34)) ns) :
    (n < 4 → read w = bch (7 + a.fmod 34)) ∧ (n = 4 → (ones (read w)).fmod 2 = 1) := by
  obtain ⟨c, hc, h0, h2, hlt, _⟩ := bch_word a
  obtain ⟨hp, hs, rfl⟩ := hF
  rw [hc] at hw ⊢
  have nat : ∀ x ∈ ns, ∃ p : Nat, p < 18 ∧ x = (p : Int) := fun x hx => ⟨x.toNat, by have := hs x hx; omega, by have := hs x hx; omega⟩
  match ns, hp, nat, hw with
  | [], _, _, hw =>
    refine ⟨fun _ => ?_, fun h => absurd h (by decide)⟩
    have := read_of (c := c) (e := 0) (s := 0) h0 (by decide +kernel) (by decide)
    rw [Nat.xor_zero, show findM 23 0 0 = 0 by decide +kernel, Nat.xor_zero] at this
    rw [hw]
    exact this
  | [x], _, nat, hw =>
    refine ⟨fun _ => ?_, fun h => absurd h (by simp)⟩
    obtain ⟨p, hp, rfl⟩ := nat x (by simp)
    simp only [List.foldl_cons, List.foldl_nil, flip_nat] at hw
    rw [hw, read_of h0 (synd_eq p hp) (synd_lt p hp), pick1 hp, back]
  | [x, y], hpw, nat, hw =>
    refine ⟨fun _ => ?_, fun h => absurd h (by simp)⟩
    obtain ⟨p, hp, rfl⟩ := nat x (by simp)
    obtain ⟨q, hq, rfl⟩ := nat y (by simp)
    simp only [List.pairwise_cons, List.mem_cons, List.not_mem_nil, or_false, forall_eq_or_imp, forall_eq] at hpw
    simp only [List.foldl_cons, List.foldl_nil, flip_nat, Nat.xor_assoc] at hw
    have hr : restM (2 ^ p ^^^ 2 ^ q) = synd p ^^^ synd q := by rw [restM_xor, synd_eq p hp, synd_eq q hq]
    rw [hw, read_of h0 hr (x11 (synd_lt p hp) (synd_lt q hq)), pick2 hq (by omega), back]
  | [x, y, z], hpw, nat, hw =>
    refine ⟨fun _ => ?_, fun h => absurd h (by simp)⟩
    obtain ⟨p, hp, rfl⟩ := nat x (by simp)
    obtain ⟨q, hq, rfl⟩ := nat y (by simp)
    obtain ⟨r, hr', rfl⟩ := nat z (by simp)
    simp only [List.pairwise_cons, List.mem_cons, List.not_mem_nil, or_false, forall_eq_or_imp, forall_eq] at hpw
    simp only [List.foldl_cons, List.foldl_nil, flip_nat] at hw
    have hr : restM (2 ^ p ^^^ 2 ^ q ^^^ 2 ^ r) = synd p ^^^ synd q ^^^ synd r := by rw [restM_xor, restM_xor, synd_eq p hp, synd_eq q hq, synd_eq r hr']
    have e : c ^^^ 2 ^ p ^^^ 2 ^ q ^^^ 2 ^ r = c ^^^ (2 ^ p ^^^ 2 ^ q ^^^ 2 ^ r) := by rw [Nat.xor_assoc, Nat.xor_assoc, Nat.xor_assoc]
    rw [hw, e, read_of h0 hr (x11 (x11 (synd_lt p hp) (synd_lt q hq)) (synd_lt r hr')), pick3 hr' (by omega) (by omega), back]
  | [x, y, z, u], hpw, nat, hw =>
    refine ⟨fun h => absurd h (by simp), fun _ => ?_⟩
    obtain ⟨p, hp, rfl⟩ := nat x (by simp)
    obtain ⟨q, hq, rfl⟩ := nat y (by simp)
    obtain ⟨r, hr', rfl⟩ := nat z (by simp)
    obtain ⟨t, ht, rfl⟩ := nat u (by simp)
    simp only [List.pairwise_cons, List.mem_cons, List.not_mem_nil, or_false, forall_eq_or_imp, forall_eq] at hpw
    simp only [List.foldl_cons, List.foldl_nil, flip_nat] at hw
    have hr : restM (2 ^ p ^^^ 2 ^ q ^^^ 2 ^ r ^^^ 2 ^ t) = synd p ^^^ synd q ^^^ synd r ^^^ synd t := by rw [restM_xor, restM_xor, restM_xor, synd_eq p hp, synd_eq q hq, synd_eq r hr', synd_eq t ht]
    have e : c ^^^ 2 ^ p ^^^ 2 ^ q ^^^ 2 ^ r ^^^ 2 ^ t = c ^^^ (2 ^ p ^^^ 2 ^ q ^^^ 2 ^ r ^^^ 2 ^ t) := by simp only [Nat.xor_assoc]
    rw [hw, e, read_of h0 hr (x11 (x11 (x11 (synd_lt p hp) (synd_lt q hq)) (synd_lt r hr')) (synd_lt t ht))]
    have h4 := pick4 ht (show r < t by omega) (show q < r by omega) (show p < q by omega)
    have k1 := onesN_xor (c ^^^ (2 ^ p ^^^ 2 ^ q ^^^ 2 ^ r ^^^ 2 ^ t)) (findM 23 0 (synd p ^^^ synd q ^^^ synd r ^^^ synd t))
    have k2 := onesN_xor c (2 ^ p ^^^ 2 ^ q ^^^ 2 ^ r ^^^ 2 ^ t)
    have k3 := onesN_xor (2 ^ p ^^^ 2 ^ q ^^^ 2 ^ r) (2 ^ t)
    have k4 := onesN_xor (2 ^ p ^^^ 2 ^ q) (2 ^ r)
    have k5 := onesN_xor (2 ^ p) (2 ^ q)
    have o1 := onesN_pow p hp
    have o2 := onesN_pow q hq
    have o3 := onesN_pow r hr'
    have o4 := onesN_pow t ht
    unfold ones
    rw [Int.toNat_natCast, Int.fmod_eq_emod_of_nonneg _ (by decide)]
    omega
  | _ :: _ :: _ :: _ :: _ :: _, _, _, _ =>
    refine ⟨fun h => absurd h (by simp only [List.length_cons]; omega), fun h => absurd h (by simp only [List.length_cons]; omega)⟩
theorem end_right {a w : Int} {ns : List Int} {n : Nat} (hF : Flips ns n) (hw : w = List.foldl flip (bch (7 + a.fmod 34)) ns) (h : (n : Int) < 4) : read w = bch (7 + a.fmod 34) := (told hF hw).1 (by omega)
theorem end_ver {a w : Int} (h : read w = bch (7 + a.fmod 34)) : (read w).fdiv 4096 = 7 + a.fmod 34 := by
  obtain ⟨c, hc, _, _, _, hv⟩ := bch_word a
  rw [h, hc, hv]
theorem end_odd {a w : Int} {ns : List Int} {n : Nat} (hF : Flips ns n) (hw : w = List.foldl flip (bch (7 + a.fmod 34)) ns) (h : (n : Int) = 4) : (ones (read w)).fmod 2 ≠ 0 := by
  rw [(told hF hw).2 (by omega)]
  decide
end Mine
end
section
open PySem PySem.W PySem.Calls PyProof.Rows PyProof.V PySem.Spec
namespace Mine
section
variable {prog : Program} {w : World} {A : Around} {E : Value → Shared → Prop} {s : Shared} {env : Env} {h₀ : Heap} {x : Str} {body : List Stmt} {Q : Flow → Shared → Prop}
/-- a cell's object -/
def IsCell (c : Obj) : Prop := ∃ v₀ : Option Value, c.data = .cell v₀
/-- a loop over a list of ints of the call's own; its turns store into one cell -/
theorem cell_loop {f1 f2 f3 f4 f5 : Addr × Obj} {ca l : Addr} {c₀ : Obj} {vs : List Value} {ns : List Int} {nn : Nat} {m₀ : Str → Option Value} (stored : List Str)
    (hh : A.handled = none) (hl : (l, W.listOf vs.toArray nn) ∈ [f1, f2, f3, f4, f5]) (hi : IntsAre vs ns) (F : Fr h₀ env.locals s.heap m₀) (N : News h₀ env.locals s.heap [f1, f2, f3, f4, f5, (ca, c₀)]) (hc : IsCell c₀)
    (turn : ∀ (c : Obj) (v₀ : Option Value) (pre : List Int) n t (u : Str → Option Value) h tk own, n ∈ ns → OwnOff own [f1.1, f2.1, f3.1, f4.1, f5.1, ca] → c.data = .cell v₀ →
      Fr h₀ env.locals h (fun y => if y = x then some (.int n t) else (if stored.contains y then u y else m₀ y)) → News h₀ env.locals h (f1 :: f2 :: f3 :: f4 :: f5 :: (ca, c) :: own) →
      wpAny (model prog w) A (execs body env) (InvPostN h₀ env.locals (KstS (fun c => [f1, f2, f3, f4, f5, (ca, c)]) (fun _ => []) IsCell x stored m₀ (fun _ _ => True) (pre ++ [n])) own [f1.1, f2.1, f3.1, f4.1, f5.1, ca] { s with heap := h, toks := tk } Q) E { s with heap := h, toks := tk })
    (done : ∀ (c : Obj) (u : Str → Option Value) h tk, Fr h₀ env.locals h (fun y => if y = x then u y else (if stored.contains y then u y else m₀ y)) → News h₀ env.locals h [f1, f2, f3, f4, f5, (ca, c)] → Q .next { s with heap := h, toks := tk }) :
    wpAny (model prog w) A (pyIter (.ref l)) (fun it s₂ => LoopAtV prog w A h₀ env x body Q E it s₂) E s := by
  refine kst_listL (σ := Obj) (nn := nn) (fun c => [f1, f2, f3, f4, f5, (ca, c)]) (fun _ => []) IsCell stored (fun _ _ => True) c₀ hh (fun c => ?_) hi F N hc (List.forall_mem_nil _) True.intro ?_ ?_
  · have h5 : [f1, f2, f3, f4, f5, (ca, c)] = [f1, f2, f3, f4, f5] ++ [(ca, c)] := rfl
    rw [h5]
    exact List.mem_append_left _ hl
  · rintro c pre post n t u h tk own _ hn hoff ⟨v₀, hv⟩ _ F₁ N₁
    exact turn c v₀ pre n t u h tk own hn hoff hv F₁ N₁
  · intro c u h tk _ _ F₁ N₁
    exact done c u h tk F₁ N₁
end
end Mine
end
open PySem PySem.W PyProof.Rows
namespace Mine
def AllUnder (I : Addr) (news : List (Addr × Obj)) : Prop := ∀ p ∈ news, p.1 < I
theorem off_of {I : Addr} {o : Obj} {news : List (Addr × Obj)} (h : AllUnder I news) : ∀ p ∈ news, ∀ q ∈ [(I, o)], p.1 ≠ q.1 := fun p hp q hq => by
  rw [List.mem_singleton.mp hq]
  exact Nat.ne_of_lt (h p hp)
theorem bits_pow {n : Int} (h0 : 0 ≤ n) (h1 : n ≤ 60) : PySem.Builtin.Int.intBits ((2 : Int) ^ n.toNat) ≤ 64 := by
  refine PySem.intBits_le_iff.mpr ?_
  rw [Int.natAbs_pow]
  exact Nat.pow_lt_pow_right (by decide) (by omega)
end Mine
namespace Mine
theorem dig_state {d0 digit d : Int} (h0 : 0 ≤ d) (h : digit + dig d = dig d0) (hd : d ≠ 0) : 0 ≤ d.fdiv (2 ^ Int.toNat 1) ∧ digit + 1 + dig (d.fdiv (2 ^ Int.toNat 1)) = dig d0 := by
  rw [two_toNat]
  have := dig_step hd h0
  omega
theorem dig_less {d : Int} (h0 : 0 ≤ d) (hd : d ≠ 0) : (d.fdiv (2 ^ Int.toNat 1)).toNat < d.toNat := by
  rw [two_toNat]
  exact (dig_step hd h0).2.2
theorem dig_end {d0 digit d : Int} (h : digit + dig d = dig d0) (hd : ¬ d ≠ 0) : digit = dig d0 := by
  have e : d = 0 := by omega
  subst e
  rw [dig_zero] at h
  omega
theorem dig_end' {d0 digit d : Int} (h : digit + dig d = dig d0) (hd : d = 0) : digit = dig d0 := dig_end h (fun n => n hd)
theorem seen_start' (v : Int) : Seen v (v * 2 ^ Int.toNat 12) := seen_start v
theorem seen_turn' {v d : Int} (hv : 7 ≤ v ∧ v ≤ 40) (h : Seen v d) (ht : 0 ≤ dig d - dig 7973) : Seen v (PySem.Builtin.bitXor d (7973 * 2 ^ (dig d - dig 7973).toNat)) := (seen_turn hv.1 hv.2 h ht).1
theorem seen_less {v d : Int} (hv : 7 ≤ v ∧ v ≤ 40) (h : Seen v d) (ht : 0 ≤ dig d - dig 7973) : (PySem.Builtin.bitXor d (7973 * 2 ^ (dig d - dig 7973).toNat)).toNat < d.toNat := (seen_turn hv.1 hv.2 h ht).2
theorem seen_end' {v d : Int} (hv : 7 ≤ v ∧ v ≤ 40) (h : Seen v d) (ht : ¬ 0 ≤ dig d - dig 7973) : PySem.Builtin.bitOr (v * 2 ^ Int.toNat 12) d = bch v := seen_end hv.1 hv.2 h ht
theorem seen_b {v d : Int} (hv : 7 ≤ v ∧ v ≤ 40) (h : Seen v d) : 0 ≤ d ∧ d < 262144 := seen_bound hv.1 hv.2 h
theorem ones_state {w0 c w : Int} (h : c + ones w = ones w0) (hw : 0 < w) : c + w.fmod 2 + ones (w.fdiv 2) = ones w0 := by
  have := ones_step hw
  omega
theorem ones_end {w0 c w : Int} (h : c + ones w = ones w0) (hw : ¬ 0 < w) : c = ones w0 := by
  rw [ones_le (show w ≤ 0 by omega)] at h
  omega
theorem rest_yes {w w0 k : Int} {pre : List Int} (h : w = pre.foldl restStep w0) (c : (w.fdiv (2 ^ k.toNat)).fmod 2 = 1) : PySem.Builtin.bitXor w (2787 * 2 ^ (k - 11).toNat) = (pre ++ [k]).foldl restStep w0 := by
  rw [List.foldl_append, ← h]
  show _ = restStep w k
  unfold restStep
  rw [if_pos c]
theorem rest_no {w w0 k : Int} {pre : List Int} (h : w = pre.foldl restStep w0) (c : (w.fdiv (2 ^ k.toNat)).fmod 2 ≠ 1) : w = (pre ++ [k]).foldl restStep w0 := by
  rw [List.foldl_append, ← h]
  show _ = restStep w k
  unfold restStep
  rw [if_neg c]
theorem rest_done {b w w0 : Int} (hb : b = 10) (h : w = (downKs 22 (22 - b).toNat).foldl restStep w0) : w = rest w0 := by
  subst hb
  exact h
theorem readFrom_at {n : Nat} (hl : n < (23 - 0 : Int).toNat) (r w : Int) : readFrom (23 - n) n r w = if ones (PySem.Builtin.bitXor r 0) ≤ 3 then fixed w r 0 0 n
    else if ones (PySem.Builtin.bitXor r (rest 65536)) ≤ 2 then fixed w r (rest 65536) 65536 n
    else if ones (PySem.Builtin.bitXor r (rest 131072)) ≤ 2 then fixed w r (rest 131072) 131072 n
    else readFrom (23 - (n + 1)) ((n + 1 : Nat) : Int) (stepR r) w := by
  have hl' : n < 23 := hl
  have e : 23 - n = (23 - (n + 1)) + 1 := by omega
  rw [e]
  show (if ones (PySem.Builtin.bitXor r 0) ≤ 3 then fixed w r 0 0 n
    else if ones (PySem.Builtin.bitXor r (rest 65536)) ≤ 2 then fixed w r (rest 65536) 65536 n
    else if ones (PySem.Builtin.bitXor r (rest 131072)) ≤ 2 then fixed w r (rest 131072) 131072 n
    else readFrom (23 - (n + 1)) ((n : Int) + 1) (stepR r) w) = _
  rw [show ((n : Int) + 1) = ((n + 1 : Nat) : Int) by omega]
theorem read_ret1 {w r t : Int} {n : Nat} (hk : t = 0 + (n : Int)) (hl : n < (23 - 0 : Int).toNat) (h : readFrom (23 - n) n r w = read w) (c1 : ones (PySem.Builtin.bitXor r 0) ≤ 3) :
    PySem.Builtin.bitXor (PySem.Builtin.bitXor w ((PySem.Builtin.bitXor (PySem.Builtin.bitXor r 0) 0 * 2 ^ (23 - t).toNat).fmod 8388608)) ((PySem.Builtin.bitXor (PySem.Builtin.bitXor r 0) 0 * 2 ^ (23 - t).toNat).fdiv 8388608) = read w := by
  rw [Int.zero_add] at hk
  subst hk
  rw [← h, readFrom_at hl, if_pos c1]
  rfl
theorem read_ret2 {w r t : Int} {n : Nat} (hk : t = 0 + (n : Int)) (hl : n < (23 - 0 : Int).toNat) (h : readFrom (23 - n) n r w = read w) (c1 : ¬ ones (PySem.Builtin.bitXor r 0) ≤ 3) (c2 : ones (PySem.Builtin.bitXor r (rest 65536)) ≤ 2) :
    PySem.Builtin.bitXor (PySem.Builtin.bitXor w ((PySem.Builtin.bitXor (PySem.Builtin.bitXor r (rest 65536)) 65536 * 2 ^ (23 - t).toNat).fmod 8388608)) ((PySem.Builtin.bitXor (PySem.Builtin.bitXor r (rest 65536)) 65536 * 2 ^ (23 - t).toNat).fdiv 8388608) = read w := by
  rw [Int.zero_add] at hk
  subst hk
  rw [← h, readFrom_at hl, if_neg c1, if_pos c2]
  rfl
theorem read_ret3 {w r t : Int} {n : Nat} (hk : t = 0 + (n : Int)) (hl : n < (23 - 0 : Int).toNat) (h : readFrom (23 - n) n r w = read w) (c1 : ¬ ones (PySem.Builtin.bitXor r 0) ≤ 3) (c2 : ¬ ones (PySem.Builtin.bitXor r (rest 65536)) ≤ 2) (c3 : ones (PySem.Builtin.bitXor r (rest 131072)) ≤ 2) :
    PySem.Builtin.bitXor (PySem.Builtin.bitXor w ((PySem.Builtin.bitXor (PySem.Builtin.bitXor r (rest 131072)) 131072 * 2 ^ (23 - t).toNat).fmod 8388608)) ((PySem.Builtin.bitXor (PySem.Builtin.bitXor r (rest 131072)) 131072 * 2 ^ (23 - t).toNat).fdiv 8388608) = read w := by
  rw [Int.zero_add] at hk
  subst hk
  rw [← h, readFrom_at hl, if_neg c1, if_neg c2, if_pos c3]
  rfl
theorem read_end {w r : Int} (h : readFrom (23 - (rangeKs 0 (23 - 0 : Int).toNat).length) ((rangeKs 0 (23 - 0 : Int).toNat).length : Int) r w = read w) : w = read w := h
theorem read_turn1 {w r k : Int} {pre : List Int} (hl : pre.length < (23 - 0 : Int).toNat) (h : readFrom (23 - pre.length) pre.length r w = read w) (c1 : ¬ ones (PySem.Builtin.bitXor r 0) ≤ 3) (c2 : ¬ ones (PySem.Builtin.bitXor r (rest 65536)) ≤ 2) (c3 : ¬ ones (PySem.Builtin.bitXor r (rest 131072)) ≤ 2) (c4 : 2047 < r * 2) :
    readFrom (23 - (pre ++ [k]).length) ((pre ++ [k]).length : Int) (PySem.Builtin.bitXor (r * 2) 2787) w = read w := by
  rw [← h, readFrom_at hl, if_neg c1, if_neg c2, if_neg c3, List.length_append, List.length_singleton]
  unfold stepR
  rw [if_pos c4]
theorem read_turn2 {w r k : Int} {pre : List Int} (hl : pre.length < (23 - 0 : Int).toNat) (h : readFrom (23 - pre.length) pre.length r w = read w) (c1 : ¬ ones (PySem.Builtin.bitXor r 0) ≤ 3) (c2 : ¬ ones (PySem.Builtin.bitXor r (rest 65536)) ≤ 2) (c3 : ¬ ones (PySem.Builtin.bitXor r (rest 131072)) ≤ 2) (c4 : ¬ 2047 < r * 2) :
    readFrom (23 - (pre ++ [k]).length) ((pre ++ [k]).length : Int) (r * 2) w = read w := by
  rw [← h, readFrom_at hl, if_neg c1, if_neg c2, if_neg c3, List.length_append, List.length_singleton]
  unfold stepR
  rw [if_neg c4]
theorem read_start (w : Int) : readFrom (23 - ([] : List Int).length) (([] : List Int).length : Int) (rest w) w = read w := rfl
theorem flip_start (w : Int) : w = List.foldl flip w [] := rfl
theorem flip_turn {w w0 k : Int} {pre : List Int} (h : w = List.foldl flip w0 pre) : PySem.Builtin.bitXor w (2 ^ k.toNat) = List.foldl flip w0 (pre ++ [k]) := by
  rw [List.foldl_append, ← h]
  rfl

/-- what a call of the def at f with one int hands back; k frames of room -/
def Told (prog : Program) (w : World) (K : Frag) (p : Program) (loose : List Str) (mean : ExcName → Option Value) (mg mb : Str → Option Value) (f : Addr) (k : Nat) (pre : Int → Prop) (g : Int → Int) : Prop :=
  ∀ (news : List (Addr × Obj)) (v : Int) (t : Tok) (dp un : Nat) (gd : Option (List Code)) (cn : Str) (cs : Scope) (a : Addr) (ccd : Value) (cl : List (Str × Addr)) (outer : List Env) (A₀ : Around) (base h₀ : Heap) (L : Addr) (m : Str → Option Value) (s : Shared) (Q E : Value → Shared → Prop),
    Below A₀ base outer h₀ → Fr h₀ L s.heap m → K.In h₀ → News h₀ L s.heap news → Top p loose mean mg mb h₀ → cs.kind = .function →
    pre v → dp + k < recursionLimit → un + 8 * k < cLine → CbRet h₀ L m news s Q (fun t => Value.int (g v) t) →
      wpAny (model prog w) (ktrTop dp un gd cn cs L a ccd cl outer) (call (.ref f) [Value.int v t]) Q E s
/-- a def's value first, the walk behind it -/
theorem told_first {view : Program} {loose : List Str} {XP : (Str → Option Value) → Heap → Prop} {heap : Params → Frag} {as : List Addr} {e : ∀ P, as = (heap P).map (·.1)} {r : RowW} {d : DefRec} {kwd : List (Str × Expr)} {run : Value → List Value → Sem Value}
    (f : Addr) (k : Nat) (pre : Int → Prop) (g : Int → Int)
    (c : ∀ w mean mg mb, CbC f 0 (Told r.prog w (heap w.params) view (looseW view loose) mean mg mb f k pre g))
    (h : (∀ w mean mg mb, CbC f 0 (Told r.prog w (heap w.params) view (looseW view loose) mean mg mb f k pre g)) → WalkO view loose XP (kHook heap as e).says r d kwd run) :
    WalkO view loose XP (kHook heap as e).says r d kwd run := h c
theorem told_here {prog view : Program} {loose : List Str} {heap : Params → Frag} {w : World} {mean : ExcName → Option Value} {mg mb : Str → Option Value} {h : Heap} {f : Addr} {k : Nat} {pre : Int → Prop} {g : Int → Int}
    (t : ∀ w mean mg mb, CbC f 0 (Told prog w (heap w.params) view loose mean mg mb f k pre g)) (_ : (heap w.params).In h) (_ : Top view loose mean mg mb h) :
    CbC f 0 (Told prog w (heap w.params) view loose mean mg mb f k pre g) := t w mean mg mb
end Mine
local macro_rules | `(tactic| walk_at "call ref cons nil") => `(tactic| k_extra "call ref")
local macro_rules | `(tactic| walk_at "pyIter ref") => `(tactic| k_extra "pyIter ref")
local macro_rules | `(tactic| walk_at "exec For Tuple Name cons nil") => `(tactic| (k_here; (rename Fr _ _ _ _ => lF'); (with_unfolding_all refine' For_turns lF' ?_; k_whole)))
local macro_rules | `(tactic| walk_at "binaryOp Mult int int") => `(tactic| (k_here; (refine mul_int ?_ (PySem.IntMulOk.of_right (Mine.bits_pow (by l_bnd) (by l_bnd))))))
local macro_rules | `(tactic| walk_at "pyIter ref") => `(tactic| (k_here; (with_reducible show wpAny _ _ (pyIter (Value.ref _)) (fun it s₂ => TurnsAt _ _ _ _ _ _ _ _ _ it s₂) _ _); (rename Fr _ _ _ _ => lF'); (rename News _ _ _ _ => lN'); (with_unfolding_all refine iter_listTurns (lo := W.listOf #[_, _, _] 0) (vs := [_, _, _]) (by rfl) lF' lN' (by k_memK) (by rfl) (by rfl) ?_); clear lF' lN'; intro i' hI'; (have hU : Mine.AllUnder i' _ := hI'); clear hI'))
local macro_rules | `(tactic| walk_at "UnrEndW") => `(tactic| ((rename Fr _ _ _ _ => fE'); (rename News _ _ _ _ => nE'); (rename Mine.AllUnder _ _ => hU'); k_dflt (refine ⟨_, _, _, _, rfl, fE', (by with_unfolding_all exact nE'), Mine.off_of hU', ⟨(by k_memK), trivial⟩, ?_⟩); clear fE' nE'))
local macro_rules | `(tactic| walk_at "exec For Name BinOp cons nil") => `(tactic| (k_here; (rename Fr _ _ _ _ => lF'); (with_unfolding_all refine' For_invVF lF' ?k1 ?k2 ?_; (case k1 => exact rfl); (case k2 => exact rfl); k_whole)))
local macro_rules | `(tactic| walk_at "subscriptTail Name Slice ref ref") => `(tactic| (k_here; k_dflt (refine' kmk_slice_ints ?F ?N ?l ?p ?q ?i ?m ?c ?_ ?s ?t ?z; (case F => k_asm); (case N => k_asm); (case l => kmk_list); (case p => kmk_part); (case q => kmk_part); (case i => l_ints); (case m => first | exact kmk_from (by l_ints) (Int.natCast_nonneg _) | kmk_nums); (case c => kmk_len); (case s => with_unfolding_all rfl); (case t => kmk_pure); (case z => kmk_size)); intro D' ws' h' F' N' l1 hI' hC' hL'; (try simp only [Int.reduceNeg, Int.neg_neg, Int.reduceToNat] at hI' hC' hL'); (try k_lt l1); (try k_sweep)))
local macro_rules | `(tactic| walk_at "call type:set cons nil") => `(tactic| (k_here; (with_reducible show wpAny _ _ (call (Value.type "set") [Value.ref _]) _ _ _); (refine Mine.setM (by k_asm) (by k_asm) (by with_unfolding_all rfl) (by first | is_list | kso_list) (by l_ints) (Mine.comp_len _ _) (Mine.comp_small _ _) ?_); intro D' h' tk' l' o' F' N' l1 hS' hG'; (try k_lt l1)))
local macro_rules | `(tactic| walk_at "call builtin:sorted cons nil") => `(tactic| (k_here; (with_reducible show wpAny _ _ (call (Value.builtin "sorted") [Value.ref _]) _ _ _); (refine Mine.sortedM (by k_asm) (by k_asm) (by k_memK) (by with_unfolding_all rfl) (by assumption) (by assumption) ?_); intro D' h' tk' v' n' c' F' N' l1 i' hF'; (try k_lt l1)))
local macro_rules | `(tactic| walk_at "call builtin:len cons nil") => `(tactic| (k_here; (with_reducible show wpAny _ _ (call (Value.builtin "len") [Value.ref _]) _ _ _); (refine Mine.lenM (by k_asm) (by k_memK) (by assumption) (by assumption) ?_)))
local macro_rules | `(tactic| walk_at "binaryOp Pow int int") => `(tactic| (k_here; (refine pow_int_small (Mine.small_at (by assumption) (by assumption)).1 (Int.le_trans (Int.le_of_lt (Mine.small_at (by assumption) (by assumption)).2) (by decide)) (by decide) ?_)))
local macro_rules | `(tactic| walk_at "exec For Name Call cons nil") => `(tactic| (k_here; (rename Fr _ _ _ _ => lF'); (with_unfolding_all refine' For_invVF lF' ?k1 ?k2 ?_; (case k1 => exact rfl); (case k2 => exact rfl); k_whole)))
local macro_rules | `(tactic| walk_at "InvEndN") => `(tactic| ((rename News _ _ _ _ => nE'); (with_unfolding_all refine kst_end _ (by assumption) nE' (by kst_in) (by (intro p hp; kst_mem)) (by rfl) (show Mine.IsCell _ from ⟨_, by assumption⟩) (List.forall_mem_nil _) (by kst_same) True.intro)))
set_option maxHeartbeats 40000000 in
theorem PySem.Challenge.cw_bq0021_01_holds : PySem.Challenge.rw_bq0021_01.Holds := by
  w_on
  o_law
  k_head
  (case hw => w_witness2)
  refine Mine.told_first 28 1 (fun d => 0 ≤ d) Mine.dig ?cd fun td => Mine.told_first 42 1 (fun _ => True) Mine.ones ?co fun to => Mine.told_first 21 2 (fun v => 7 ≤ v ∧ v ≤ 40) Mine.bch ?cb fun tb =>
    Mine.told_first 35 1 (fun _ => True) Mine.rest ?cr fun tr => Mine.told_first 49 2 (fun _ => True) Mine.read ?ce fun te => ?_
  case cd =>
    intro w mean mg mb
    k_with_none
    k_with "state" => exact Mine.dig_state (by assumption) (by assumption) (by assumption)
    k_with "measure" => exact Mine.dig_less (by assumption) (by assumption)
    k_with "tree" => exact Mine.dig_end (by assumption) (by assumption)
    k_with "tree" => exact Mine.dig_end' (by assumption) (by assumption)
    k_with "exec While Compare cons nil" => k_while_given ["data!"] (fun d0 script digit d => 0 ≤ d ∧ digit + Mine.dig d = Mine.dig d0) (fun _ _ _ d => d.toNat) "digit" "data"
    unfold CbC Mine.Told
    dsimp only [CbRet]
    intros
    rename_i hret
    have cbI : CbIn 28 := CbIn.mk
    refine wpAny_call ?_
    k_dflt cell_enter
    k_steps
    all_goals cb_end hret
  case co =>
    intro w mean mg mb
    k_with_none
    k_with "state" => exact Mine.ones_state (by assumption) (by assumption)
    k_with "measure" => exact (Mine.ones_step (by assumption)).2
    k_with "tree" => exact Mine.ones_end (by assumption) (by assumption)
    k_with "exec While Compare cons nil" => k_while_given ["word!"] (fun w0 script c w => c + Mine.ones w = Mine.ones w0) (fun _ _ _ w => w.toNat) "count" "word"
    unfold CbC Mine.Told
    dsimp only [CbRet]
    intros
    rename_i hret
    have cbI : CbIn 42 := CbIn.mk
    refine wpAny_call ?_
    k_dflt cell_enter
    k_steps
    all_goals cb_end hret
  case cb =>
    intro w mean mg mb
    k_with_none
    k_with "state" => exact ⟨Mine.seen_start' _, Mine.seen_b (by assumption) (Mine.seen_start' _)⟩
    k_with "state" => exact ⟨Mine.seen_turn' (by assumption) (by assumption) (by assumption), Mine.seen_b (by assumption) (Mine.seen_turn' (by assumption) (by assumption) (by assumption))⟩
    k_with "measure" => exact Mine.seen_less (by assumption) (by assumption) (by assumption)
    k_with "tree" => exact Mine.seen_end' (by assumption) (by assumption) (by assumption)
    k_with "exec While Compare cons nil" => k_while_given ["data"] (fun v script d => Mine.Seen v d ∧ 0 ≤ d ∧ d < 262144) (fun _ _ d => d.toNat) "d"
    k_with "call ref" => k_call_by "BCH_digit" Mine.dig (fun d => 0 ≤ d)
    k_with "fact BCH_digit" => exact Mine.dig_facts
    have cd := td w mean mg mb
    unfold Mine.Told at cd
    clear td to
    unfold CbC Mine.Told
    dsimp only [CbRet]
    intros
    rename_i hret
    have cbI : CbIn 21 := CbIn.mk
    refine wpAny_call ?_
    k_dflt cell_enter
    k_steps
    all_goals cb_end hret
  case cr =>
    intro w mean mg mb
    k_with_none
    k_with "state" => exact Mine.rest_yes (by assumption) (by assumption)
    k_with "state" => exact Mine.rest_no (by assumption) (by assumption)
    k_with "tree" => exact Mine.rest_done (by assumption) (by assumption)
    k_with "pyIter ref" => ((rename IsRange _ _ _ _ _ _ _ _ => rgY); (obtain ⟨bY, hbY⟩ : ∃ b : Int, b = 10 := ⟨10, rfl⟩); (rw [← hbY] at rgY); k_state_given ["word!"] (fun w0 pre w => w = pre.foldl Mine.restStep w0) "word")
    clear td to tb
    unfold CbC Mine.Told
    dsimp only [CbRet]
    intros
    rename_i hret
    have cbI : CbIn 35 := CbIn.mk
    refine wpAny_call ?_
    k_dflt cell_enter
    k_steps
    all_goals cb_end hret
  case ce =>
    intro w mean mg mb
    k_with_none
    k_with "state" => with_reducible exact Mine.read_start _
    k_with "state" => with_reducible exact Mine.read_turn1 (by assumption) (by assumption) (by assumption) (by assumption) (by assumption) (by assumption)
    k_with "state" => with_reducible exact Mine.read_turn2 (by assumption) (by assumption) (by assumption) (by assumption) (by assumption) (by assumption)
    k_with "tree" => with_reducible exact Mine.read_end (by assumption)
    k_with "tree" => with_reducible exact Mine.read_ret3 (by assumption) (by assumption) (by assumption) (by assumption) (by assumption) (by assumption)
    k_with "tree" => with_reducible exact Mine.read_ret2 (by assumption) (by assumption) (by assumption) (by assumption) (by assumption)
    k_with "tree" => with_reducible exact Mine.read_ret1 (by assumption) (by assumption) (by assumption) (by assumption)
    k_with "call ref" => k_call_by "_law_rest" Mine.rest
    k_with "call ref" => k_call_by "_law_ones" Mine.ones
    k_with "pyIter ref" => (k_of "turn" => k_state_given ["word"] (fun w pre r => Mine.readFrom (23 - pre.length) (pre.length : Int) r w = Mine.read w) "rest")
    have c1 := tr w mean mg mb
    have c2 := to w mean mg mb
    unfold Mine.Told at c1 c2
    clear td to tb tr
    unfold CbC Mine.Told
    dsimp only [CbRet]
    intros
    rename_i hret
    have cbI : CbIn 49 := CbIn.mk
    refine wpAny_call ?_
    k_dflt cell_enter
    k_steps
    all_goals cb_end hret
  k_with_none
  k_with "state" => with_reducible exact Mine.flip_start _
  k_with "state" => with_reducible exact Mine.flip_turn (by assumption)
  k_with "end" => exact absurd (by assumption) (Mine.end_odd (by assumption) (by assumption) (by assumption))
  k_with "end" => exact absurd (Mine.end_ver (by assumption)) (by assumption)
  k_with "end" => exact absurd (Mine.end_right (by assumption) (by assumption) (by assumption)) (by assumption)
  k_with "pyIter ref" => (k_of "cell" => ((rename Fr _ _ _ _ => lF'); (rename News _ _ _ _ => lN'); (with_unfolding_all refine Mine.cell_loop [Str.ofString "version", Str.ofString "value", Str.ofString "right", Str.ofString "places", Str.ofString "word", Str.ofString "place", Str.ofString "told"] (by rfl) (by k_mem) (by assumption) lF' lN' ⟨_, by assumption⟩ (fun kC kV kPre kN kT kU kH kTk kOwn kMem kOff kCell kFr kNews => ?_) (fun kC kU kH kTk kFr kNews => ?_)); (all_goals (clear lF' lN')); (all_goals (have kMark : KstMark := kstMark)); (all_goals (try k_fold))))
  k_with "pyIter ref" => (k_of "place" => k_state_given ["word!"] (fun w0 pre w => w = pre.foldl Mine.flip w0) "word")
  k_with "call ref" => k_call_by "_law_ones" Mine.ones
  k_with "call ref" => k_call_by "_law_read" Mine.read
  k_with "call ref" => k_call_by "BCH_type_number" Mine.bch (fun v => 7 ≤ v ∧ v ≤ 40)
  k_with "fact BCH_type_number" => exact Mine.bch_facts
  w_strict (
    k_go0
    have c1 := Mine.told_here to (by assumption) (by assumption)
    have c2 := Mine.told_here tb (by assumption) (by assumption)
    have c3 := Mine.told_here te (by assumption) (by assumption)
    unfold Mine.Told at c1 c2 c3
    clear td to tb tr te
    (all_goals try k_fold)
    k_steps
    all_goals w_report)
