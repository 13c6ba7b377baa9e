/- Plain facts: numbers as lists of digits, and the order of lists of digits. No condition. -/
set_option linter.unusedVariables false
namespace Go.Proofs.YtegohkgmamnkdaaGreat.Dig

def val (B : Nat) (l : List Nat) : Nat := l.foldl (fun n d => n * B + d) 0

theorem foldl_val (B : Nat) (l : List Nat) : ∀ n, l.foldl (fun n d => n * B + d) n = n * B ^ l.length + val B l := by
  induction l with
  | nil => intro n; simp [val]
  | cons d l ih =>
    intro n
    have h1 : val B (d :: l) = (0 * B + d) * B ^ l.length + val B l := by
      show l.foldl (fun n d => n * B + d) (0 * B + d) = _
      exact ih _
    rw [h1]
    show l.foldl (fun n d => n * B + d) (n * B + d) = _
    rw [ih]
    simp only [List.length_cons, Nat.pow_succ, Nat.zero_mul, Nat.zero_add, Nat.add_mul]
    rw [Nat.mul_assoc, Nat.mul_comm B]
    omega

theorem val_nil (B : Nat) : val B [] = 0 := rfl
theorem val_cons (B d : Nat) (l : List Nat) : val B (d :: l) = d * B ^ l.length + val B l := by
  show l.foldl (fun n d => n * B + d) (0 * B + d) = _
  rw [foldl_val]
  simp
theorem val_snoc (B d : Nat) (l : List Nat) : val B (l ++ [d]) = val B l * B + d := by
  unfold val
  rw [List.foldl_append]
  rfl

theorem val_lt {B : Nat} {l : List Nat} (h : ∀ d ∈ l, d < B) : val B l < B ^ l.length := by
  induction l with
  | nil => simp [val]
  | cons d l ih =>
    rw [val_cons, List.length_cons, Nat.pow_succ]
    have h1 := ih fun x hx => h x (List.mem_cons_of_mem _ hx)
    have h2 := h d (List.mem_cons_self ..)
    have h3 : (d + 1) * B ^ l.length ≤ B * B ^ l.length := Nat.mul_le_mul_right _ h2
    rw [Nat.add_mul] at h3
    rw [Nat.mul_comm (B ^ l.length) B]
    omega

/-- -1, 0, 1: less, the same, greater. -/
def sgn (a b : Nat) : Int := if a < b then -1 else if b < a then 1 else 0
theorem sgn_add (k a b : Nat) : sgn (k + a) (k + b) = sgn a b := by
  unfold sgn
  simp only [Nat.add_lt_add_iff_left]
def ord : List Nat → List Nat → Int
  | [], [] => 0
  | [], _ :: _ => -1
  | _ :: _, [] => 1
  | a :: x, b :: y => if a < b then -1 else if b < a then 1 else ord x y

theorem ord_val {B : Nat} : ∀ {x y : List Nat}, x.length = y.length → (∀ d ∈ x, d < B) → (∀ d ∈ y, d < B) → ord x y = sgn (val B x) (val B y)
  | [], [], _, _, _ => by simp [ord, sgn, val]
  | [], _ :: _, h, _, _ => by simp at h
  | _ :: _, [], h, _, _ => by simp at h
  | a :: x, b :: y, h, hx, hy => by
    have hl : x.length = y.length := by simpa using h
    have ih := ord_val hl (fun d hd => hx d (List.mem_cons_of_mem _ hd)) (fun d hd => hy d (List.mem_cons_of_mem _ hd))
    have vx := val_lt (l := x) fun d hd => hx d (List.mem_cons_of_mem _ hd)
    have vy := val_lt (l := y) fun d hd => hy d (List.mem_cons_of_mem _ hd)
    rw [val_cons, val_cons, hl]
    rw [hl] at vx
    unfold ord
    by_cases h1 : a < b
    · have h2 : (a + 1) * B ^ y.length ≤ b * B ^ y.length := Nat.mul_le_mul_right _ h1
      rw [Nat.add_mul] at h2
      rw [if_pos h1]; unfold sgn; rw [if_pos (by omega)]
    · by_cases h3 : b < a
      · have h2 : (b + 1) * B ^ y.length ≤ a * B ^ y.length := Nat.mul_le_mul_right _ h3
        rw [Nat.add_mul] at h2
        rw [if_neg h1, if_pos h3]; unfold sgn; rw [if_neg (by omega), if_pos (by omega)]
      · have hab : a = b := by omega
        subst hab
        rw [if_neg h1, if_neg h3, ih]
        exact (sgn_add _ _ _).symm

theorem ord_map {B : Nat} {f : Nat → Nat} (hf : ∀ a b, a < B → b < B → a < b → f a < f b) :
    ∀ {x y : List Nat}, (∀ d ∈ x, d < B) → (∀ d ∈ y, d < B) → ord (x.map f) (y.map f) = ord x y
  | [], [], _, _ => rfl
  | [], _ :: _, _, _ => rfl
  | _ :: _, [], _, _ => rfl
  | a :: x, b :: y, hx, hy => by
    have ih := ord_map hf (x := x) (y := y) (fun d hd => hx d (List.mem_cons_of_mem _ hd)) (fun d hd => hy d (List.mem_cons_of_mem _ hd))
    have ha := hx a (List.mem_cons_self ..)
    have hb := hy b (List.mem_cons_self ..)
    simp only [List.map_cons, ord, ih]
    by_cases h1 : a < b
    · rw [if_pos h1, if_pos (hf a b ha hb h1)]
    · by_cases h2 : b < a
      · have := hf b a hb ha h2
        rw [if_neg h1, if_pos h2, if_neg (by omega), if_pos this]
      · have hab : a = b := by omega
        subst hab
        rw [if_neg h1, if_neg h2, if_neg (by omega), if_neg (by omega)]

theorem ord_self : ∀ x : List Nat, ord x x = 0
  | [] => rfl
  | a :: x => by unfold ord; rw [if_neg (by omega), if_neg (by omega), ord_self x]
theorem ord_eq_zero : ∀ {x y : List Nat}, ord x y = 0 → x = y
  | [], [], _ => rfl
  | [], _ :: _, h => by simp [ord] at h
  | _ :: _, [], h => by simp [ord] at h
  | a :: x, b :: y, h => by
    unfold ord at h
    by_cases h1 : a < b
    · rw [if_pos h1] at h; simp at h
    · by_cases h2 : b < a
      · rw [if_neg h1, if_pos h2] at h; simp at h
      · rw [if_neg h1, if_neg h2] at h
        rw [ord_eq_zero h, show a = b by omega]
theorem ord_three : ∀ x y : List Nat, ord x y = -1 ∨ ord x y = 0 ∨ ord x y = 1
  | [], [] => by simp [ord]
  | [], _ :: _ => by simp [ord]
  | _ :: _, [] => by simp [ord]
  | a :: x, b :: y => by
    unfold ord
    split
    · simp
    · split
      · simp
      · exact ord_three x y
theorem ord_swap : ∀ x y : List Nat, ord y x = - ord x y
  | [], [] => by simp [ord]
  | [], _ :: _ => by simp [ord]
  | _ :: _, [] => by simp [ord]
  | a :: x, b :: y => by
    unfold ord
    by_cases h1 : a < b
    · rw [if_pos h1, if_neg (by omega), if_pos h1]; rfl
    · by_cases h2 : b < a
      · rw [if_pos h2, if_neg h1, if_pos h2]
      · rw [if_neg h1, if_neg h2, if_neg h2, if_neg h1]; exact ord_swap x y

/-- The last m digits of a number, the greatest first. -/
def digs (B : Nat) : Nat → Nat → List Nat
  | 0, _ => []
  | m + 1, n => digs B m (n / B) ++ [n % B]

theorem digs_length (B : Nat) : ∀ m n, (digs B m n).length = m
  | 0, _ => rfl
  | m + 1, n => by simp [digs, digs_length B m]
theorem digs_lt {B : Nat} (hB : 0 < B) : ∀ m n, ∀ d ∈ digs B m n, d < B
  | 0, _ => by simp [digs]
  | m + 1, n => by
    intro d hd
    simp only [digs, List.mem_append, List.mem_singleton] at hd
    rcases hd with hd | rfl
    · exact digs_lt hB m _ d hd
    · exact Nat.mod_lt _ hB
theorem val_digs (B : Nat) : ∀ m n, val B (digs B m n) = n % B ^ m
  | 0, n => by simp [digs, val, Nat.mod_one]
  | m + 1, n => by
    rw [digs, val_snoc, val_digs B m, Nat.pow_succ, Nat.mul_comm (B ^ m) B, Nat.mod_mul]
    rw [Nat.mul_comm B]
    omega
theorem digs_get (B : Nat) : ∀ m n j, j < m → (digs B m n)[j]? = some (n / B ^ (m - 1 - j) % B)
  | 0, _, _, h => by omega
  | m + 1, n, j, h => by
    rw [digs]
    by_cases hj : j < m
    · rw [List.getElem?_append_left (by rw [digs_length]; exact hj), digs_get B m _ j hj, Nat.div_div_eq_div_mul]
      have e : B * B ^ (m - 1 - j) = B ^ (m + 1 - 1 - j) := by
        rw [Nat.mul_comm, ← Nat.pow_succ]; congr 1; omega
      rw [e]
    · have hjm : j = m := by omega
      subst hjm
      rw [List.getElem?_append_right (by rw [digs_length]; omega), digs_length]
      simp

/-- The digits' signs: 0 to 9, a to v. -/
def chr (d : Nat) : Nat := if d < 10 then 48 + d else 87 + d
theorem chr_mono (a b : Nat) (_ha : a < 32) (_hb : b < 32) (h : a < b) : chr a < chr b := by
  unfold chr; split <;> split <;> omega
theorem chr_lt (d : Nat) (h : d < 32) : chr d < 128 := by unfold chr; split <;> omega

/-- The order of the texts of two numbers is the order of the numbers. -/
theorem ord_text {x y : List Nat} (hx : x.length = 20) (hy : y.length = 20) (bx : ∀ d ∈ x, d < 256) (by_ : ∀ d ∈ y, d < 256) :
    ord ((digs 32 32 (val 256 x)).map chr) ((digs 32 32 (val 256 y)).map chr) = ord x y := by
  rw [ord_map (B := 32) chr_mono (digs_lt (by decide) _ _) (digs_lt (by decide) _ _),
    ord_val (B := 32) (by rw [digs_length, digs_length]) (digs_lt (by decide) _ _) (digs_lt (by decide) _ _), val_digs, val_digs,
    ord_val (B := 256) (by omega) bx by_]
  have h1 := val_lt bx
  have h2 := val_lt by_
  rw [hx] at h1
  rw [hy] at h2
  have e : 256 ^ 20 = 32 ^ 32 := by decide
  rw [e] at h1 h2
  rw [Nat.mod_eq_of_lt h1, Nat.mod_eq_of_lt h2]

end Go.Proofs.YtegohkgmamnkdaaGreat.Dig
