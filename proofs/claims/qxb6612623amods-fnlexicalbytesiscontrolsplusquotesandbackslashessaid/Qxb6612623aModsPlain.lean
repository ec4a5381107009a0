/-
  THE PLAIN ARITHMETIC of the seat's laws: words of eight bytes, byte by byte. No Go in sight.
-/
import Derived.Laws.BitsAllLaws
namespace Go.Proofs.Qxb6612623aMods.Plain

/-- The number whose bytes, the lowest first, are f's values along the list. -/
def V {α : Type} (f : α → Nat) : List α → Nat
  | [] => 0
  | p :: ps => f p + 256 * V f ps

theorem V_congr {α : Type} (f g : α → Nat) (P : List α) (h : ∀ p ∈ P, f p = g p) : V f P = V g P := by
  induction P with
  | nil => rfl
  | cons p ps ih =>
    simp only [V]
    rw [h p (by simp), ih (fun q hq => h q (by simp [hq]))]

theorem V_map {α β : Type} (f : β → Nat) (g : α → β) (P : List α) : V f (P.map g) = V (fun p => f (g p)) P := by
  induction P with
  | nil => rfl
  | cons p ps ih => simp only [List.map_cons, V, ih]

theorem V_lt {α : Type} (f : α → Nat) (P : List α) (h : ∀ p ∈ P, f p < 256) : V f P < 256 ^ P.length := by
  induction P with
  | nil => simp [V]
  | cons p ps ih =>
    have h1 := h p (by simp)
    have h2 := ih (fun q hq => h q (by simp [hq]))
    simp only [V, List.length_cons, Nat.pow_succ]
    omega

theorem step_bits (op : Nat → Nat → Nat) (bop : Bool → Bool → Bool) (ht : ∀ x y i, (op x y).testBit i = bop (x.testBit i) (y.testBit i))
    (hlt : ∀ x y, x < 256 → y < 256 → op x y < 256) (a b x y : Nat) (ha : a < 256) (hb : b < 256) :
    op (a + 256 * x) (b + 256 * y) = op a b + 256 * op x y := by
  apply Nat.eq_of_testBit_eq
  intro i
  rw [ht]
  have e1 : a + 256 * x = 2 ^ 8 * x + a := by omega
  have e2 : b + 256 * y = 2 ^ 8 * y + b := by omega
  have e3 : op a b + 256 * op x y = 2 ^ 8 * op x y + op a b := by omega
  rw [e1, e2, e3, Nat.testBit_two_pow_mul_add x (by simpa using ha), Nat.testBit_two_pow_mul_add y (by simpa using hb), Nat.testBit_two_pow_mul_add _ (by simpa using hlt a b ha hb)]
  split <;> rw [ht]

theorem and_lt (x y : Nat) (hx : x < 256) (_hy : y < 256) : x &&& y < 256 := Nat.lt_of_le_of_lt Nat.and_le_left hx
theorem or_lt (x y : Nat) (hx : x < 256) (hy : y < 256) : x ||| y < 256 := Nat.or_lt_two_pow (n := 8) hx hy
theorem xor_lt (x y : Nat) (hx : x < 256) (hy : y < 256) : x ^^^ y < 256 := Nat.xor_lt_two_pow (n := 8) hx hy

theorem V_and {α : Type} (f g : α → Nat) (P : List α) (hf : ∀ p ∈ P, f p < 256) (hg : ∀ p ∈ P, g p < 256) : V f P &&& V g P = V (fun p => f p &&& g p) P := by
  induction P with
  | nil => simp [V]
  | cons p ps ih =>
    simp only [V]
    rw [step_bits (fun x y => x &&& y) (fun x y => x && y) (fun x y i => Nat.testBit_and x y i) and_lt _ _ _ _ (hf p (by simp)) (hg p (by simp)),
      ih (fun q hq => hf q (by simp [hq])) (fun q hq => hg q (by simp [hq]))]

theorem V_or {α : Type} (f g : α → Nat) (P : List α) (hf : ∀ p ∈ P, f p < 256) (hg : ∀ p ∈ P, g p < 256) : V f P ||| V g P = V (fun p => f p ||| g p) P := by
  induction P with
  | nil => simp [V]
  | cons p ps ih =>
    simp only [V]
    rw [step_bits (fun x y => x ||| y) (fun x y => x || y) (fun x y i => Nat.testBit_or x y i) or_lt _ _ _ _ (hf p (by simp)) (hg p (by simp)),
      ih (fun q hq => hf q (by simp [hq])) (fun q hq => hg q (by simp [hq]))]

theorem V_xor {α : Type} (f g : α → Nat) (P : List α) (hf : ∀ p ∈ P, f p < 256) (hg : ∀ p ∈ P, g p < 256) : V f P ^^^ V g P = V (fun p => f p ^^^ g p) P := by
  induction P with
  | nil => simp [V]
  | cons p ps ih =>
    simp only [V]
    rw [step_bits (fun x y => x ^^^ y) (fun x y => x ^^ y) (fun x y i => Nat.testBit_xor x y i) xor_lt _ _ _ _ (hf p (by simp)) (hg p (by simp)),
      ih (fun q hq => hf q (by simp [hq])) (fun q hq => hg q (by simp [hq]))]

theorem V_add {α : Type} (f g : α → Nat) (P : List α) : V f P + V g P = V (fun p => f p + g p) P := by
  induction P with
  | nil => rfl
  | cons p ps ih => simp only [V]; omega

theorem V_const {α : Type} (c : Nat) (P : List α) (h : P.length = 8) : V (fun _ => c) P = c * 72340172838076673 := by
  match P, h with
  | [_, _, _, _, _, _, _, _], _ => simp only [V]; omega

theorem V_compl {α : Type} (f : α → Nat) (P : List α) (h : P.length = 8) (hf : ∀ p ∈ P, f p < 256) : 18446744073709551615 - V f P = V (fun p => 255 - f p) P := by
  have h1 := V_add f (fun p => 255 - f p) P
  have h2 : V (fun p => f p + (255 - f p)) P = V (fun _ => 255) P := V_congr _ _ P (fun p hp => by have := hf p hp; omega)
  rw [V_const 255 P h] at h2
  omega

theorem V_snoc {α : Type} (f : α → Nat) (P : List α) (p : α) : V f (P ++ [p]) = V f P + 256 ^ P.length * f p := by
  induction P with
  | nil => simp [V]
  | cons q qs ih =>
    simp only [List.cons_append, V, ih, List.length_cons, Nat.pow_succ]
    rw [Nat.mul_add, ← Nat.add_assoc, ← Nat.mul_assoc, Nat.mul_comm 256 (256 ^ qs.length)]

/-- Every word is eight bytes. -/
theorem bytes_of (n : Nat) (a : Nat) (h : a < 256 ^ n) : ∃ l : List Nat, l.length = n ∧ (∀ b ∈ l, b < 256) ∧ V (fun b => b) l = a := by
  induction n generalizing a with
  | zero => exact ⟨[], rfl, by simp, by simp [V]; omega⟩
  | succ n ih =>
    obtain ⟨l, h1, h2, h3⟩ := ih (a / 256) (by rw [Nat.pow_succ] at h; omega)
    refine ⟨(a % 256) :: l, by simp [h1], ?_, ?_⟩
    · intro b hb
      rcases List.mem_cons.1 hb with rfl | hb
      · omega
      · exact h2 b hb
    · simp only [V, h3]; omega

/-- The k-th byte. -/
theorem V_byte (l : List Nat) (h : ∀ b ∈ l, b < 256) (k : Nat) (hk : k < l.length) : V (fun b => b) l / 2 ^ (8 * k) % 256 = l[k] := by
  induction l generalizing k with
  | nil => simp at hk
  | cons b bs ih =>
    have hb := h b (by simp)
    cases k with
    | zero => simp [V]; omega
    | succ k =>
      have h2 := ih (fun q hq => h q (by simp [hq])) k (by simpa using hk)
      have e : 2 ^ (8 * (k + 1)) = 256 * 2 ^ (8 * k) := by rw [Nat.mul_add, Nat.pow_add]; omega
      simp only [V, e, ← Nat.div_div_eq_div_mul, List.getElem_cons_succ]
      rw [show (b + 256 * V (fun b => b) bs) / 256 = V (fun b => b) bs by omega]
      exact h2

/-! ### The program's functions -/
/-- bytesBelow. -/
def bb (a n : Nat) : Nat := (18446744073709551615 ^^^ (((a &&& 9187201950435737471) + (128 - n) * 72340172838076673) ||| a)) &&& 9259542123273814144
/-- eqMask, behind k rounds. -/
def eqm (a c : Nat) : Nat → Nat
  | 0 => 0
  | k + 1 => if a / 2 ^ (8 * k) % 256 = c then eqm a c k ||| 128 * 2 ^ (8 * k) else eqm a c k
/-- byteMask, behind k rounds. -/
def bmk (s : Nat) : Nat → Nat
  | 0 => 0
  | k + 1 => if s / 2 ^ k &&& 1 = 1 then bmk s k ||| 255 * 2 ^ (8 * k) else bmk s k
/-- lexicalBytes. -/
def lex (a : Nat) : Nat := (bb (a ^^^ 2459565876494606882) 1 ||| bb (a ^^^ 6655295901103053916) 1) ||| bb a 32

theorem below_byte : ∀ b < 256, ∀ n < 129, 1 ≤ n → ((b &&& 127) + (128 - n) < 256 ∧ (255 ^^^ (((b &&& 127) + (128 - n)) ||| b)) &&& 128 = if b < n then 128 else 0) := by
  decide +kernel

/-- bytesBelow, byte by byte. -/
theorem bb_V {α : Type} (f : α → Nat) (P : List α) (hl : P.length = 8) (hf : ∀ p ∈ P, f p < 256) (n : Nat) (h1 : 1 ≤ n) (h2 : n ≤ 128) :
    bb (V f P) n = V (fun p => if f p < n then 128 else 0) P := by
  have hb := fun p (hp : p ∈ P) => below_byte (f p) (hf p hp) n (by omega) h1
  have c1 : 9187201950435737471 = V (fun _ : α => 127) P := by rw [V_const 127 P hl]
  have c2 : 9259542123273814144 = V (fun _ : α => 128) P := by rw [V_const 128 P hl]
  have c3 : 18446744073709551615 = V (fun _ : α => 255) P := by rw [V_const 255 P hl]
  unfold bb
  rw [← V_const (128 - n) P hl, c1, c2, c3, V_and _ _ P hf (fun _ _ => by omega), V_add, V_or _ _ P (fun p hp => (hb p hp).1) hf,
    V_xor _ _ P (fun _ _ => by omega) (fun p hp => or_lt _ _ (hb p hp).1 (hf p hp)),
    V_and _ _ P (fun p hp => xor_lt _ _ (by omega) (or_lt _ _ (hb p hp).1 (hf p hp))) (fun _ _ => by omega)]
  exact V_congr _ _ P (fun p hp => (hb p hp).2)

theorem or_high (x y k : Nat) (hx : x < 256 ^ k) : x ||| y * 2 ^ (8 * k) = x + 256 ^ k * y := by
  have e : 256 ^ k = 2 ^ (8 * k) := by rw [Nat.pow_mul]
  rw [e] at hx ⊢
  have := Nat.two_pow_add_eq_or_of_lt hx y
  rw [Nat.or_comm, Nat.mul_comm y, ← this, Nat.add_comm]

theorem eqm_take (l : List Nat) (h : ∀ b ∈ l, b < 256) (c k : Nat) (hk : k ≤ l.length) :
    eqm (V (fun b => b) l) c k = V (fun b => if b = c then 128 else 0) (l.take k) := by
  induction k with
  | zero => simp [eqm, V]
  | succ k ih =>
    have hk' : k < l.length := by omega
    have hlt := V_lt (fun b => if b = c then 128 else 0) (l.take k) (fun p _ => by split <;> omega)
    have hlen : (l.take k).length = k := by simp; omega
    rw [hlen] at hlt
    rw [List.take_succ_eq_append_getElem hk', V_snoc, hlen, ← ih (by omega)]
    rw [← ih (by omega)] at hlt
    simp only [eqm, V_byte l h k hk']
    split
    · rw [or_high _ _ _ hlt]
    · simp

/-- eqMask, byte by byte. -/
theorem eqm_V (l : List Nat) (hl : l.length = 8) (h : ∀ b ∈ l, b < 256) (c : Nat) : eqm (V (fun b => b) l) c 8 = V (fun b => if b = c then 128 else 0) l := by
  rw [eqm_take l h c 8 (by omega), List.take_of_length_le (by omega)]

/-- byteMask: each byte is 0 or 255. -/
theorem bmk_V (s k : Nat) : ∃ ms : List Nat, ms.length = k ∧ (∀ m ∈ ms, m = 0 ∨ m = 255) ∧ bmk s k = V (fun m => m) ms := by
  induction k with
  | zero => exact ⟨[], rfl, by simp, rfl⟩
  | succ k ih =>
    obtain ⟨ms, h1, h2, h3⟩ := ih
    have hlt := V_lt (fun m => m) ms (fun p hp => by rcases h2 p hp with h | h <;> omega)
    rw [h1] at hlt
    by_cases hc : s / 2 ^ k &&& 1 = 1
    · refine ⟨ms ++ [255], by simp [h1], ?_, ?_⟩
      · intro m hm
        simp only [List.mem_append, List.mem_singleton] at hm
        rcases hm with hm | hm
        · exact h2 m hm
        · exact Or.inr hm
      · simp only [bmk, if_pos hc, h3, V_snoc, h1]
        exact or_high _ _ _ hlt
    · refine ⟨ms ++ [0], by simp [h1], ?_, ?_⟩
      · intro m hm
        simp only [List.mem_append, List.mem_singleton] at hm
        rcases hm with hm | hm
        · exact h2 m hm
        · exact Or.inl hm
      · simp only [bmk, if_neg hc, h3, V_snoc, h1]
        omega

theorem word_lt {α : Type} (f : α → Nat) (P : List α) (hl : P.length = 8) (h : ∀ p ∈ P, f p < 256) : V f P < 18446744073709551616 := by
  have := V_lt f P h
  rw [hl] at this
  omega

theorem flag_lt {q : Prop} [Decidable q] : (if q then 128 else 0) < 256 := by split <;> omega

theorem bb_lt (a n : Nat) : bb a n < 18446744073709551616 := by
  unfold bb
  exact Nat.lt_of_le_of_lt Nat.and_le_right (by omega)

theorem eqm_lt (a c k : Nat) (hk : k ≤ 8) : eqm a c k < 256 ^ k := by
  induction k with
  | zero => simp [eqm]
  | succ k ih =>
    have h1 := ih (by omega)
    simp only [eqm]
    split
    · rw [or_high _ _ _ h1, Nat.pow_succ]; omega
    · rw [Nat.pow_succ]; omega

theorem bmk_lt (s k : Nat) (hk : k ≤ 8) : bmk s k < 256 ^ k := by
  induction k with
  | zero => simp [bmk]
  | succ k ih =>
    have h1 := ih (by omega)
    simp only [bmk]
    split
    · rw [or_high _ _ _ h1, Nat.pow_succ]; omega
    · rw [Nat.pow_succ]; omega

/-! ### LAW 1 -/
theorem law1 (a n : Nat) (ha : a < 18446744073709551616) (h1 : 2 ≤ n) (h2 : n ≤ 128) :
    bb a n = bb a (n - 1) ||| eqm a (n - 1) 8 ∧ bb a (n - 1) &&& eqm a (n - 1) 8 = 0 := by
  obtain ⟨l, hl, hb, rfl⟩ := bytes_of 8 a (by omega)
  rw [bb_V _ l hl hb n (by omega) h2, bb_V _ l hl hb (n - 1) (by omega) (by omega), eqm_V l hl hb]
  have z : V (fun _ : Nat => 0) l = 0 := by rw [V_const 0 l hl]
  constructor
  · rw [V_or _ _ l (fun _ _ => flag_lt) (fun _ _ => flag_lt)]
    apply V_congr
    intro p _
    by_cases g1 : p < n - 1
    · rw [if_pos g1, if_pos (show p < n by omega), if_neg (show ¬ p = n - 1 by omega)]; rfl
    · by_cases g2 : p = n - 1
      · rw [if_neg g1, if_pos (show p < n by omega), if_pos g2]; rfl
      · rw [if_neg g1, if_neg (show ¬ p < n by omega), if_neg g2]; rfl
  · rw [V_and _ _ l (fun _ _ => flag_lt) (fun _ _ => flag_lt)]
    refine Eq.trans (V_congr _ (fun _ => 0) l ?_) z
    intro p _
    by_cases g1 : p < n - 1
    · rw [if_pos g1, if_neg (show ¬ p = n - 1 by omega)]; rfl
    · rw [if_neg g1]; simp

theorem law1_one (a : Nat) (ha : a < 18446744073709551616) : bb a 1 = eqm a 0 8 := by
  obtain ⟨l, hl, hb, rfl⟩ := bytes_of 8 a (by omega)
  rw [bb_V _ l hl hb 1 (by omega) (by omega), eqm_V l hl hb]
  apply V_congr
  intro p _
  by_cases g1 : p = 0
  · rw [if_pos g1, if_pos (by omega)]
  · rw [if_neg g1, if_neg (by omega)]

/-! ### LAW 2 -/
theorem law2 (a n s : Nat) (ha : a < 18446744073709551616) (h1 : 1 ≤ n) (h2 : n ≤ 128) :
    bb a n = (bb (a &&& bmk s 8) n &&& bmk s 8) ||| (bb (a &&& (18446744073709551615 - bmk s 8)) n &&& (18446744073709551615 - bmk s 8)) ∧
    bb (a &&& (18446744073709551615 - bmk s 8)) n &&& bmk s 8 = bmk s 8 &&& 9259542123273814144 ∧
    bb (a &&& bmk s 8) n &&& (18446744073709551615 - bmk s 8) = (18446744073709551615 - bmk s 8) &&& 9259542123273814144 := by
  obtain ⟨l, hl, hb, rfl⟩ := bytes_of 8 a (by omega)
  obtain ⟨ms, hm, hmb, hms⟩ := bmk_V s 8
  rw [hms]
  have e1 : V (fun b => b) l = V (fun p : Nat × Nat => p.1) (l.zip ms) := by
    have := V_map (fun b => b) (fun p : Nat × Nat => p.1) (l.zip ms)
    rw [← this, show (fun p : Nat × Nat => p.1) = Prod.fst from rfl, List.map_fst_zip (by omega)]
  have e2 : V (fun m => m) ms = V (fun p : Nat × Nat => p.2) (l.zip ms) := by
    have := V_map (fun b => b) (fun p : Nat × Nat => p.2) (l.zip ms)
    rw [← this, show (fun p : Nat × Nat => p.2) = Prod.snd from rfl, List.map_snd_zip (by omega)]
  have hP : (l.zip ms).length = 8 := by simp [hl, hm]
  have hp1 : ∀ p ∈ l.zip ms, p.1 < 256 := fun p hp => hb p.1 (List.of_mem_zip hp).1
  have hp2 : ∀ p ∈ l.zip ms, p.2 = 0 ∨ p.2 = 255 := fun p hp => hmb p.2 (List.of_mem_zip hp).2
  rw [e1, e2]
  revert hP hp1 hp2
  generalize l.zip ms = P
  intro hP hp1 hp2
  have hp2' : ∀ p ∈ P, p.2 < 256 := fun p hp => by rcases hp2 p hp with h | h <;> omega
  have hq : ∀ p ∈ P, 255 - p.2 < 256 := fun p _ => by omega
  have c2 : 9259542123273814144 = V (fun _ : Nat × Nat => 128) P := by rw [V_const 128 P hP]
  rw [V_compl _ P hP hp2', V_and _ _ P hp1 hp2', V_and _ _ P hp1 hq, c2, bb_V _ P hP hp1 n h1 h2,
    bb_V _ P hP (fun p hp => and_lt _ _ (hp1 p hp) (hp2' p hp)) n h1 h2, bb_V _ P hP (fun p hp => and_lt _ _ (hp1 p hp) (hq p hp)) n h1 h2,
    V_and _ _ P (fun _ _ => flag_lt) hp2', V_and _ _ P (fun _ _ => flag_lt) hq, V_and _ _ P (fun _ _ => flag_lt) hp2', V_and _ _ P (fun _ _ => flag_lt) hq,
    V_and _ _ P hp2' (fun _ _ => by omega), V_and _ _ P hq (fun _ _ => by omega), V_or _ _ P (fun p hp => and_lt _ _ flag_lt (hp2' p hp)) (fun p hp => and_lt _ _ flag_lt (hq p hp))]
  have a255 : ∀ x < 256, x &&& 255 = x := by decide +kernel
  refine ⟨V_congr _ _ P fun p hp => ?_, V_congr _ _ P fun p hp => ?_, V_congr _ _ P fun p hp => ?_⟩
  · rcases hp2 p hp with h | h
    · rw [h, Nat.and_zero, Nat.zero_or, Nat.sub_zero, a255 _ (hp1 p hp), a255 _ flag_lt]
    · rw [h, a255 _ (hp1 p hp), a255 _ flag_lt, Nat.sub_self, Nat.and_zero, Nat.or_zero]
  · rcases hp2 p hp with h | h
    · rw [h, Nat.and_zero, Nat.zero_and]
    · rw [h, Nat.sub_self, Nat.and_zero, if_pos (by omega)]; rfl
  · rcases hp2 p hp with h | h
    · rw [h, Nat.sub_zero, Nat.and_zero, if_pos (by omega)]; rfl
    · rw [h, Nat.sub_self, Nat.and_zero, Nat.zero_and]

/-! ### LAW 3 -/
theorem lex_byte : ∀ b < 256, (((if b ^^^ 34 < 1 then 128 else 0) ||| (if b ^^^ 92 < 1 then 128 else 0)) ||| (if b < 32 then 128 else 0)) < 256 ∧
    (if b < 32 then 128 else 0) &&& (255 - (((if b ^^^ 34 < 1 then 128 else 0) ||| (if b ^^^ 92 < 1 then 128 else 0)) ||| (if b < 32 then 128 else 0))) = 0 ∧
    (((if b ^^^ 34 < 1 then 128 else 0) ||| (if b ^^^ 92 < 1 then 128 else 0)) ||| (if b < 32 then 128 else 0)) &&& (255 - (if b < 32 then 128 else 0)) = ((if b = 34 then 128 else 0) ||| (if b = 92 then 128 else 0)) := by
  decide +kernel

theorem law3 (a : Nat) (ha : a < 18446744073709551616) :
    bb a 32 &&& (18446744073709551615 - lex a) = 0 ∧ lex a &&& (18446744073709551615 - bb a 32) = eqm a 34 8 ||| eqm a 92 8 := by
  obtain ⟨l, hl, hb, rfl⟩ := bytes_of 8 a (by omega)
  have c1 : 2459565876494606882 = V (fun _ : Nat => 34) l := by rw [V_const 34 l hl]
  have c2 : 6655295901103053916 = V (fun _ : Nat => 92) l := by rw [V_const 92 l hl]
  have z : V (fun _ : Nat => 0) l = 0 := by rw [V_const 0 l hl]
  have hB := fun b (h : b ∈ l) => lex_byte b (hb b h)
  unfold lex
  rw [c1, c2, V_xor _ _ l hb (fun _ _ => by omega), V_xor _ _ l hb (fun _ _ => by omega), bb_V _ l hl (fun b h => xor_lt _ _ (hb b h) (by omega)) 1 (by omega) (by omega),
    bb_V _ l hl (fun b h => xor_lt _ _ (hb b h) (by omega)) 1 (by omega) (by omega), bb_V _ l hl hb 32 (by omega) (by omega),
    V_or _ _ l (fun _ _ => flag_lt) (fun _ _ => flag_lt), V_or _ _ l (fun _ _ => or_lt _ _ flag_lt flag_lt) (fun _ _ => flag_lt),
    V_compl _ l hl (fun b h => (hB b h).1), V_compl _ l hl (fun _ _ => flag_lt), eqm_V l hl hb, eqm_V l hl hb,
    V_and _ _ l (fun _ _ => flag_lt) (fun _ _ => by omega), V_and _ _ l (fun b h => (hB b h).1) (fun _ _ => by omega), V_or _ _ l (fun _ _ => flag_lt) (fun _ _ => flag_lt)]
  refine ⟨?_, V_congr _ _ l fun b h => (hB b h).2.2⟩
  refine Eq.trans (V_congr _ (fun _ => 0) l fun b h => (hB b h).2.1) z

theorem lex_lt (a : Nat) : lex a < 18446744073709551616 := by
  unfold lex
  exact Nat.or_lt_two_pow (n := 64) (Nat.or_lt_two_pow (n := 64) (bb_lt _ _) (bb_lt _ _)) (bb_lt _ _)
end Go.Proofs.Qxb6612623aMods.Plain
