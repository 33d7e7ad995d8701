/- The plain side of FnInput: what a character is (RuneAt), what a step tells (Next), and that the answers are always told. No memory here. -/
import Derived.Test.YtojgpdphdhcjiaaDoorNextA
namespace Go.Proofs.YtojgpdphdhcjiaaDoor.InpM
open Go.RowKit Go.Proofs.YtojgpdphdhcjiaaDoorW.PrintWords Go.Proofs.YtojgpdphdhcjiaaDoorW.PrintLast Go.Proofs.YtojgpdphdhcjiaaDoorW.PrintMore
open PFnInput
set_option linter.unusedVariables false
set_option linter.unusedSimpArgs false

/-- A character at place i, as it should be: its number r, its n bytes. -/
def RuneOk (l : List Int) (i r n : Int) : Prop :=
  i < l.length ∧ ((n = 1 ∧ rd l i < 128 ∧ r = rd l i) ∨
    (n = 2 ∧ 192 ≤ rd l i ∧ rd l i < 224 ∧ i + 2 ≤ l.length ∧ r = rd l i % 32 * 64 + rd l (i + 1) % 64) ∨
    (n = 3 ∧ 224 ≤ rd l i ∧ rd l i < 240 ∧ i + 3 ≤ l.length ∧ r = rd l i % 16 * 4096 + rd l (i + 1) % 64 * 64 + rd l (i + 2) % 64) ∨
    (n = 4 ∧ 240 ≤ rd l i ∧ rd l i < 248 ∧ i + 4 ≤ l.length ∧ r = rd l i % 8 * 262144 + rd l (i + 1) % 64 * 4096 + rd l (i + 2) % 64 * 64 + rd l (i + 3) % 64))

theorem wraps_i64 (n : Int) (h₀ : 0 ≤ n) (h₁ : n < 2 ^ 31) : IntKind.i64.wrap n = n := by rw [IntKind.wrap_i64]; omega
theorem w64 (x : Int) (h0 : -1000000000 ≤ x) (h1 : x ≤ 1000000000) : wrap64 x = x := by unfold wrap64; omega
theorem or6 (x y : Int) (h0 : 0 ≤ x) (h1 : x % 64 = 0) (h2 : x < 2147483648) (h3 : 0 ≤ y) (h4 : y < 64) : Go.bits .or .i64 x y = x + y :=
  bits_join .i64 31 (by decide) wraps_i64 6 x y h0 h1 h2 h3 h4 (by omega)

theorem w64b (x : Int) (h0 : -4611686018427387904 ≤ x) (h1 : x ≤ 4611686018427387904) : wrap64 x = x := by unfold wrap64; omega
/-- One round of RuneAt's loop. -/
theorem join (x c : Int) (h0 : 0 ≤ x) (h1 : x < 33554432) (c0 : 0 ≤ c) (c1 : c ≤ 255) :
    Go.bits .or .i64 (wrap64 (x * 64)) (wrap64 (Go.bits .and .u8 c 63)) = x * 64 + c % 64 := by
  rw [u8_and63 c c0 (by omega), w64b (x * 64) (by omega) (by omega), w64 (c % 64) (by omega) (by omega), or6 _ _ (by omega) (by omega) (by omega) (by omega) (by omega)]

/-- The loop's end: what stands behind its test. -/
theorem rune_end (l : List Int) (i n least r j : Int) (m : Nat) (hj : ¬ j < n) : ∃ r' n', spec_RuneAt.l0 (m + 1) l i n least r j = some (r', n') ∧ (r' > 0 → r' = r ∧ n' = n) := by
  simp only [spec_RuneAt.l0]
  rw [if_neg hj]
  repeat' split
  all_goals first
    | exact ⟨0, 0, rfl, fun h => absurd h (by omega)⟩
    | exact ⟨r, n, rfl, fun _ => ⟨rfl, rfl⟩⟩

/-- One round: the byte at i + j is one of a character's later bytes, or none is there. -/
theorem rune_step (l : List Int) (i n least r j : Int) (m : Nat) (hj : j < n) (h0 : 0 ≤ i) (hj0 : 1 ≤ j) (hn : n ≤ 4) (hl : l.length ≤ 1000000) (hi : i + n ≤ l.length) (hb : ∀ j, 0 ≤ rd l j ∧ rd l j ≤ 255) (hr0 : 0 ≤ r) (hr1 : r < 33554432) :
    spec_RuneAt.l0 (m + 1) l i n least r j = some (0, 0) ∨ spec_RuneAt.l0 (m + 1) l i n least r j = spec_RuneAt.l0 m l i n least (r * 64 + rd l (i + j) % 64) (j + 1) := by
  simp only [spec_RuneAt.l0]
  have e : wrap64 (i + j) = i + j := w64 _ (by omega) (by omega)
  have e1 : wrap64 (j + 1) = j + 1 := w64 _ (by omega) (by omega)
  rw [if_pos hj, e, if_pos (by omega), if_pos (by omega), e1, join r _ hr0 hr1 (hb _).1 (hb _).2]
  split
  · exact .inr rfl
  · exact .inl rfl

section
variable (l : List Int) (i : Int) (h0 : 0 ≤ i) (hl : l.length ≤ 1000000) (hi : i < l.length) (hb : ∀ j, 0 ≤ rd l j ∧ rd l j ≤ 255)
include h0 hl hi hb
omit hb in
theorem rune_j3 (n least r : Int) (m : Nat) (hn : n ≠ 0) (hn4 : n ≤ 4) (hn1 : 1 ≤ n) :
    spec_RuneAt.j3 (m + 2) l i n least r = some (0, 0) ∨ (i + n ≤ l.length ∧ spec_RuneAt.j3 (m + 2) l i n least r = spec_RuneAt.l0 m l i n least r 1) := by
  simp only [spec_RuneAt.j3]
  rw [if_neg hn, w64 (i + n) (by omega) (by omega)]
  by_cases c4 : i + n > l.length
  · rw [show decide (i + n > (l.length : Int)) = true from decide_eq_true c4]
    simp only [spec_RuneAt.j4]
    exact .inl (by simp)
  · rw [show decide (i + n > (l.length : Int)) = false from decide_eq_false c4]
    simp only [spec_RuneAt.j4]
    exact .inr ⟨by omega, by simp⟩
omit h0 hl hi hb in
theorem zero_ok : ∃ r n, (some ((0 : Int), (0 : Int))) = some (r, n) ∧ (r > 0 → RuneOk l i r n) := ⟨0, 0, rfl, fun h => absurd h (by omega)⟩
theorem rune2 (x : Int) (m : Nat) (hx : x = rd l i % 32) (c1 : 192 ≤ rd l i) (c2 : rd l i < 224) : ∃ r n, spec_RuneAt.j3 (m + 6) l i 2 128 x = some (r, n) ∧ (r > 0 → RuneOk l i r n) := by
  rcases rune_j3 l i h0 hl hi 2 128 x (m + 4) (by omega) (by omega) (by omega) with h | ⟨hn, h⟩
  · rw [show m + 6 = m + 4 + 2 from rfl, h]; exact zero_ok l i
  rw [show m + 6 = m + 4 + 2 from rfl, h]
  rcases rune_step l i 2 128 x 1 (m + 3) (by omega) h0 (by omega) (by omega) hl hn hb (by omega) (by omega) with h | h
  · rw [h]; exact zero_ok l i
  rw [h]
  obtain ⟨r', n', e, hr⟩ := rune_end l i 2 128 (x * 64 + rd l (i + 1) % 64) (1 + 1) (m + 2) (by omega)
  refine ⟨r', n', e, fun hp => ?_⟩
  obtain ⟨rfl, rfl⟩ := hr hp
  exact ⟨hi, .inr (.inl ⟨rfl, c1, c2, hn, by rw [hx]⟩)⟩
theorem rune3 (x : Int) (m : Nat) (hx : x = rd l i % 16) (c1 : 224 ≤ rd l i) (c2 : rd l i < 240) : ∃ r n, spec_RuneAt.j3 (m + 6) l i 3 2048 x = some (r, n) ∧ (r > 0 → RuneOk l i r n) := by
  rcases rune_j3 l i h0 hl hi 3 2048 x (m + 4) (by omega) (by omega) (by omega) with h | ⟨hn, h⟩
  · rw [show m + 6 = m + 4 + 2 from rfl, h]; exact zero_ok l i
  rw [show m + 6 = m + 4 + 2 from rfl, h]
  have b1 := hb (i + 1)
  rcases rune_step l i 3 2048 x 1 (m + 3) (by omega) h0 (by omega) (by omega) hl hn hb (by omega) (by omega) with h | h
  · rw [h]; exact zero_ok l i
  rw [h]
  rcases rune_step l i 3 2048 (x * 64 + rd l (i + 1) % 64) (1 + 1) (m + 2) (by omega) h0 (by omega) (by omega) hl hn hb (by omega) (by omega) with h | h
  · rw [h]; exact zero_ok l i
  rw [h]
  obtain ⟨r', n', e, hr⟩ := rune_end l i 3 2048 ((x * 64 + rd l (i + 1) % 64) * 64 + rd l (i + (1 + 1)) % 64) (1 + 1 + 1) (m + 1) (by omega)
  refine ⟨r', n', e, fun hp => ?_⟩
  obtain ⟨rfl, rfl⟩ := hr hp
  exact ⟨hi, .inr (.inr (.inl ⟨rfl, c1, c2, hn, by rw [hx, show i + (1 + 1) = i + 2 from by omega]; omega⟩))⟩
theorem rune4 (x : Int) (m : Nat) (hx : x = rd l i % 8) (c1 : 240 ≤ rd l i) (c2 : rd l i < 248) : ∃ r n, spec_RuneAt.j3 (m + 6) l i 4 65536 x = some (r, n) ∧ (r > 0 → RuneOk l i r n) := by
  rcases rune_j3 l i h0 hl hi 4 65536 x (m + 4) (by omega) (by omega) (by omega) with h | ⟨hn, h⟩
  · rw [show m + 6 = m + 4 + 2 from rfl, h]; exact zero_ok l i
  rw [show m + 6 = m + 4 + 2 from rfl, h]
  have b1 := hb (i + 1)
  have b2 := hb (i + (1 + 1))
  rcases rune_step l i 4 65536 x 1 (m + 3) (by omega) h0 (by omega) (by omega) hl hn hb (by omega) (by omega) with h | h
  · rw [h]; exact zero_ok l i
  rw [h]
  rcases rune_step l i 4 65536 (x * 64 + rd l (i + 1) % 64) (1 + 1) (m + 2) (by omega) h0 (by omega) (by omega) hl hn hb (by omega) (by omega) with h | h
  · rw [h]; exact zero_ok l i
  rw [h]
  rcases rune_step l i 4 65536 ((x * 64 + rd l (i + 1) % 64) * 64 + rd l (i + (1 + 1)) % 64) (1 + 1 + 1) (m + 1) (by omega) h0 (by omega) (by omega) hl hn hb (by omega) (by omega) with h | h
  · rw [h]; exact zero_ok l i
  rw [h]
  obtain ⟨r', n', e, hr⟩ := rune_end l i 4 65536 (((x * 64 + rd l (i + 1) % 64) * 64 + rd l (i + (1 + 1)) % 64) * 64 + rd l (i + (1 + 1 + 1)) % 64) (1 + 1 + 1 + 1) m (by omega)
  refine ⟨r', n', e, fun hp => ?_⟩
  obtain ⟨rfl, rfl⟩ := hr hp
  exact ⟨hi, .inr (.inr (.inr ⟨rfl, c1, c2, hn, by rw [hx, show i + (1 + 1) = i + 2 from by omega, show i + (1 + 1 + 1) = i + 3 from by omega]; omega⟩))⟩
end

theorem rune_eval (l : List Int) (i : Int) (h0 : 0 ≤ i) (hl : l.length ≤ 1000000) (hi : i ≤ l.length) (hb : ∀ j, 0 ≤ rd l j ∧ rd l j ≤ 255) (m : Nat) :
    ∃ r n, spec_RuneAt.f (m + 9) l i = some (r, n) ∧ (r > 0 → RuneOk l i r n) := by
  have hc := hb i
  unfold spec_RuneAt.f
  rw [if_neg (by omega)]
  by_cases hlt : i < l.length
  · rw [show decide (i ≥ (l.length : Int)) = false from decide_eq_false (by omega)]
    simp only [spec_RuneAt.j0]
    rw [if_neg (by simp), if_pos h0, if_pos hlt]
    by_cases c1 : rd l i < 128
    · rw [if_pos c1, w64 _ (by omega) (by omega)]
      exact ⟨_, _, rfl, fun _ => ⟨hlt, .inl ⟨rfl, c1, rfl⟩⟩⟩
    rw [if_neg c1]
    by_cases c2 : rd l i ≥ 192
    · rw [if_pos c2]
      by_cases c3 : rd l i < 224
      · rw [show decide (rd l i < 224) = true from decide_eq_true c3]
        simp only [spec_RuneAt.j1]
        rw [if_pos trivial, u8_and31 _ hc.1 (by omega), w64 _ (by omega) (by omega)]
        exact rune2 l i h0 hl hlt hb _ (m + 1) rfl c2 c3
      · rw [show decide (rd l i < 224) = false from decide_eq_false c3]
        simp only [spec_RuneAt.j1]
        rw [if_neg (by simp), if_pos (by omega)]
        by_cases c4 : rd l i < 240
        · rw [show decide (rd l i < 240) = true from decide_eq_true c4]
          simp only [spec_RuneAt.j2]
          rw [if_pos trivial, u8_and15 _ hc.1 (by omega), w64 _ (by omega) (by omega)]
          exact rune3 l i h0 hl hlt hb _ m rfl (by omega) c4
        · rw [show decide (rd l i < 240) = false from decide_eq_false c4]
          simp only [spec_RuneAt.j2]
          rw [if_neg (by simp), if_pos (by omega)]
          by_cases c5 : rd l i < 248
          · rw [if_pos c5, u8_and7 _ hc.1 (by omega), w64 _ (by omega) (by omega)]
            exact rune4 l i h0 hl hlt hb _ m rfl (by omega) c5
          · rw [if_neg c5]
            simp only [spec_RuneAt.j3, spec_RuneAt.j4]
            exact ⟨0, 0, by simp, fun h => absurd h (by omega)⟩
    · rw [if_neg c2]
      simp only [spec_RuneAt.j1]
      rw [if_neg (by simp), if_neg (by omega)]
      simp only [spec_RuneAt.j2]
      rw [if_neg (by simp), if_neg (by omega)]
      simp only [spec_RuneAt.j3, spec_RuneAt.j4]
      exact ⟨0, 0, by simp, fun h => absurd h (by omega)⟩
  · rw [show decide (i ≥ (l.length : Int)) = true from decide_eq_true (by omega)]
    simp only [spec_RuneAt.j0]
    exact ⟨0, 0, by simp, fun h => absurd h (by omega)⟩

/-- What a step does and tells where the reference lets it. -/
def StepOk (l : List Int) (b a kd n b' a' num sz : Int) (txt : ByteArray) : Prop :=
  (kd = 0 ∧ b' = b ∧ a' = a + n ∧ num = 0 ∧ sz = 0 ∧ txt = ⟨#[]⟩ ∧ -1000000 ≤ n ∧ n ≤ 1000000) ∨
  (kd = 1 ∧ b' = b ∧ a' = b + n ∧ num = 0 ∧ sz = 0 ∧ txt = ⟨#[]⟩ ∧ 0 ≤ n ∧ n ≤ 1000000) ∨
  (kd = 2 ∧ b' = a ∧ a' = a ∧ num = 0 ∧ sz = 0 ∧ txt = strOfNums ((l.take a.toNat).drop b.toNat)) ∨
  (kd = 3 ∧ b' = a ∧ a' = a ∧ num = 0 ∧ sz = 0 ∧ txt = ⟨#[]⟩) ∨
  (kd = 4 ∧ b' = b ∧ a' = a ∧ num = rd (l ++ [0]) (a + n) ∧ sz = 0 ∧ txt = ⟨#[]⟩ ∧ 0 ≤ a + n ∧ a + n ≤ l.length) ∨
  (kd = 5 ∧ b' = b ∧ a' = a ∧ num = (if a + n = l.length then 1 else 0) ∧ sz = 0 ∧ txt = ⟨#[]⟩ ∧ 0 ≤ a + n ∧ a + n ≤ l.length) ∨
  (kd = 6 ∧ b' = b ∧ a' = a ∧ num = 0 ∧ sz = 0 ∧ txt = strOfNums ((l.take a.toNat).drop b.toNat)) ∨
  (kd = 7 ∧ b' = b ∧ a' = a ∧ num = a - b ∧ sz = 0 ∧ txt = ⟨#[]⟩) ∨
  (kd = 8 ∧ b' = b ∧ a' = a ∧ num = a ∧ sz = 0 ∧ txt = ⟨#[]⟩) ∨
  (kd = 9 ∧ b' = b ∧ a' = a ∧ RuneOk l a num sz ∧ txt = ⟨#[]⟩) ∨
  (kd = 10 ∧ b' = b ∧ num = 0 ∧ sz = 0 ∧ txt = ⟨#[]⟩ ∧ ∃ r m, RuneOk l a r m ∧ a' = a + m) ∨
  (kd = 11 ∧ b' = 0 ∧ a' = 0 ∧ num = 0 ∧ sz = 0 ∧ txt = ⟨#[]⟩) ∨
  (¬ (0 ≤ kd ∧ kd ≤ 11) ∧ b' = b ∧ a' = a ∧ num = 0 ∧ sz = 0 ∧ txt = ⟨#[]⟩)

/-- Is a place n bytes ahead inside? -/
def insB (l : List Int) (b a n : Int) : Bool := decide (-(l.length : Int) ≤ n) && decide (n ≤ l.length) && decide (b ≤ wrap64 (a + n)) && decide (wrap64 (a + n) ≤ l.length)
theorem next_f (k : Nat) (l : List Int) (b a kd n : Int) (hl : l.length ≤ 1000000) :
    spec_Next.f k l b a kd n = spec_Next.j0 k l (wrap64 (a + n)) (insB l b a n) b a kd n 0 0 ⟨#[]⟩ := by
  unfold spec_Next.f insB
  rw [w64 (-(l.length : Int)) (by omega) (by omega)]
  by_cases h1 : n ≥ -(l.length : Int)
  · rw [if_pos h1, decide_eq_true h1]
    by_cases h2 : n ≤ l.length
    · rw [if_pos h2, decide_eq_true h2]
      by_cases h3 : wrap64 (a + n) ≥ b
      · rw [if_pos h3, decide_eq_true h3]; simp
      · rw [if_neg h3, decide_eq_false h3]; simp
    · rw [if_neg h2, decide_eq_false h2]; simp
  · rw [if_neg h1, decide_eq_false h1]; simp

theorem ins_of {l : List Int} {b a n : Int} (h : insB l b a n = true) (hl : l.length ≤ 1000000) (h0 : 0 ≤ b) (h1 : b ≤ a) (h2 : a ≤ l.length) :
    wrap64 (a + n) = a + n ∧ b ≤ a + n ∧ a + n ≤ l.length ∧ -1000000 ≤ n ∧ n ≤ 1000000 := by
  unfold insB at h
  simp only [Bool.and_eq_true, decide_eq_true_eq] at h
  obtain ⟨⟨⟨h3, h4⟩, h5⟩, h6⟩ := h
  have e : wrap64 (a + n) = a + n := w64 _ (by omega) (by omega)
  rw [e] at h5 h6
  exact ⟨e, h5, h6, by omega, by omega⟩

theorem rd_snoc (l : List Int) (i : Int) (h0 : 0 ≤ i) (h : i < l.length) : rd (l ++ [0]) i = rd l i := by
  unfold rd
  rw [List.getD_eq_getElem?_getD, List.getD_eq_getElem?_getD, List.getElem?_append_left (by omega)]
theorem rd_last (l : List Int) (i : Int) (h : i = l.length) : rd (l ++ [0]) i = 0 := by
  subst h
  unfold rd
  simp [List.getD_eq_getElem?_getD]

theorem next_eval (l : List Int) (b a kd n : Int) (m : Nat) (hl : l.length ≤ 1000000) (h0 : 0 ≤ b) (h1 : b ≤ a) (h2 : a ≤ l.length) (hb : ∀ j, 0 ≤ rd l j ∧ rd l j ≤ 255) (h9 : kd = 9 → n = 0) :
    ∃ b' a' num sz txt ok, spec_Next.f (m + 10) l b a kd n = some (b', a', num, sz, txt, ok) ∧ (ok = true → StepOk l b a kd n b' a' num sz txt ∧ 0 ≤ b' ∧ b' ≤ a' ∧ a' ≤ l.length) := by
  rw [next_f _ _ _ _ _ _ hl]
  simp only [spec_Next.j0]
  by_cases k0 : kd = 0
  · rw [if_pos k0]
    refine ⟨_, _, _, _, _, _, rfl, fun hi => ?_⟩
    obtain ⟨e, h3, h4, h5, h6⟩ := ins_of hi hl h0 h1 h2
    exact ⟨.inl ⟨k0, rfl, e, rfl, rfl, rfl, h5, h6⟩, h0, by omega, by omega⟩
  rw [if_neg k0]
  by_cases k1 : kd = 1
  · rw [if_pos k1]
    by_cases hn : n ≥ 0
    · rw [if_pos hn]
      refine ⟨_, _, _, _, _, _, rfl, fun hi => ?_⟩
      have hi' := of_decide_eq_true hi
      rw [w64 (a - b) (by omega) (by omega)] at hi'
      have e : wrap64 (b + n) = b + n := w64 _ (by omega) (by omega)
      exact ⟨.inr (.inl ⟨k1, rfl, e, rfl, rfl, rfl, hn, by omega⟩), h0, by omega, by omega⟩
    · rw [if_neg hn]
      exact ⟨_, _, _, _, _, _, rfl, fun hi => by cases hi⟩
  rw [if_neg k1]
  by_cases k2 : kd = 2
  · rw [if_pos k2, if_pos h0, if_pos h1, if_pos h2]
    exact ⟨_, _, _, _, _, _, rfl, fun hi => ⟨.inr (.inr (.inl ⟨k2, rfl, rfl, rfl, rfl, rfl⟩)), by omega, by omega, h2⟩⟩
  rw [if_neg k2]
  by_cases k3 : kd = 3
  · rw [if_pos k3]
    exact ⟨_, _, _, _, _, _, rfl, fun hi => ⟨.inr (.inr (.inr (.inl ⟨k3, rfl, rfl, rfl, rfl, rfl⟩))), by omega, by omega, h2⟩⟩
  rw [if_neg k3]
  by_cases k4 : kd = 4
  · rw [if_pos k4]
    by_cases hi : insB l b a n = true
    · obtain ⟨e, h3, h4, h5, h6⟩ := ins_of hi hl h0 h1 h2
      rw [if_pos hi, e]
      by_cases hlt : a + n < l.length
      · rw [if_pos hlt, if_pos (by omega), w64 (rd l (a + n)) (by have := hb (a + n); omega) (by have := hb (a + n); omega)]
        exact ⟨_, _, _, _, _, _, rfl, fun _ => ⟨.inr (.inr (.inr (.inr (.inl ⟨k4, rfl, rfl, (rd_snoc l _ (by omega) hlt).symm, rfl, rfl, by omega, h4⟩)))), h0, h1, h2⟩⟩
      · rw [if_neg hlt]
        exact ⟨_, _, _, _, _, _, rfl, fun _ => ⟨.inr (.inr (.inr (.inr (.inl ⟨k4, rfl, rfl, (rd_last l _ (by omega)).symm, rfl, rfl, by omega, h4⟩)))), h0, h1, h2⟩⟩
    · rw [if_neg hi]
      exact ⟨_, _, _, _, _, _, rfl, fun hi => by cases hi⟩
  rw [if_neg k4]
  by_cases k5 : kd = 5
  · rw [if_pos k5]
    by_cases hi : insB l b a n = true
    · obtain ⟨e, h3, h4, h5, h6⟩ := ins_of hi hl h0 h1 h2
      rw [if_pos hi, e]
      by_cases hlt : a + n = l.length
      · rw [if_pos hlt]
        exact ⟨_, _, _, _, _, _, rfl, fun _ => ⟨.inr (.inr (.inr (.inr (.inr (.inl ⟨k5, rfl, rfl, (if_pos hlt).symm, rfl, rfl, by omega, h4⟩))))), h0, h1, h2⟩⟩
      · rw [if_neg hlt]
        exact ⟨_, _, _, _, _, _, rfl, fun _ => ⟨.inr (.inr (.inr (.inr (.inr (.inl ⟨k5, rfl, rfl, (if_neg hlt).symm, rfl, rfl, by omega, h4⟩))))), h0, h1, h2⟩⟩
    · rw [if_neg hi]
      exact ⟨_, _, _, _, _, _, rfl, fun h => absurd h hi⟩
  rw [if_neg k5]
  by_cases k6 : kd = 6
  · rw [if_pos k6, if_pos h0, if_pos h1, if_pos h2]
    exact ⟨_, _, _, _, _, _, rfl, fun hi => ⟨.inr (.inr (.inr (.inr (.inr (.inr (.inl ⟨k6, rfl, rfl, rfl, rfl, rfl⟩)))))), h0, h1, h2⟩⟩
  rw [if_neg k6]
  by_cases k7 : kd = 7
  · rw [if_pos k7, w64 (a - b) (by omega) (by omega)]
    exact ⟨_, _, _, _, _, _, rfl, fun hi => ⟨.inr (.inr (.inr (.inr (.inr (.inr (.inr (.inl ⟨k7, rfl, rfl, rfl, rfl, rfl⟩))))))), h0, h1, h2⟩⟩
  rw [if_neg k7]
  by_cases k8 : kd = 8
  · rw [if_pos k8]
    exact ⟨_, _, _, _, _, _, rfl, fun hi => ⟨.inr (.inr (.inr (.inr (.inr (.inr (.inr (.inr (.inl ⟨k8, rfl, rfl, rfl, rfl, rfl⟩)))))))), h0, h1, h2⟩⟩
  rw [if_neg k8]
  by_cases k9 : kd = 9
  · rw [if_pos k9]
    obtain rfl := h9 k9
    by_cases hi : insB l b a 0 = true
    · obtain ⟨e, h3, h4, h5, h6⟩ := ins_of hi hl h0 h1 h2
      obtain ⟨r, q, hr, hok⟩ := rune_eval l (a + 0) (by omega) hl (by omega) hb m
      rw [if_pos hi, e, hr]
      simp only [Option.bind_some]
      refine ⟨_, _, _, _, _, _, rfl, fun h => ⟨.inr (.inr (.inr (.inr (.inr (.inr (.inr (.inr (.inr (.inl ⟨k9, rfl, rfl, ?_, rfl⟩))))))))), h0, h1, h2⟩⟩
      have := hok (of_decide_eq_true h)
      rw [Int.add_zero] at this
      exact this
    · rw [if_neg hi]
      exact ⟨_, _, _, _, _, _, rfl, fun hi => by cases hi⟩
  rw [if_neg k9]
  by_cases k10 : kd = 10
  · rw [if_pos k10]
    obtain ⟨r, q, hr, hok⟩ := rune_eval l a (by omega) hl (by omega) hb m
    rw [hr]
    simp only [Option.bind_some]
    refine ⟨_, _, _, _, _, _, rfl, fun h => ?_⟩
    have ho := hok (of_decide_eq_true h)
    have hq : 1 ≤ q ∧ a + q ≤ l.length ∧ q ≤ 4 := by
      obtain ⟨h3, h4⟩ := ho
      rcases h4 with h4 | h4 | h4 | h4 <;> omega
    rw [w64 (a + q) (by omega) (by omega)]
    exact ⟨.inr (.inr (.inr (.inr (.inr (.inr (.inr (.inr (.inr (.inr (.inl ⟨k10, rfl, rfl, rfl, rfl, r, q, ho, rfl⟩)))))))))), h0, by omega, by omega⟩
  rw [if_neg k10]
  by_cases k11 : kd = 11
  · rw [if_pos k11]
    exact ⟨_, _, _, _, _, _, rfl, fun hi => ⟨.inr (.inr (.inr (.inr (.inr (.inr (.inr (.inr (.inr (.inr (.inr (.inl ⟨k11, rfl, rfl, rfl, rfl, rfl⟩))))))))))), by omega, by omega, by omega⟩⟩
  rw [if_neg k11]
  exact ⟨_, _, _, _, _, _, rfl, fun hi => ⟨.inr (.inr (.inr (.inr (.inr (.inr (.inr (.inr (.inr (.inr (.inr (.inr ⟨by omega, rfl, rfl, rfl, rfl, rfl⟩))))))))))), h0, h1, h2⟩⟩
end Go.Proofs.YtojgpdphdhcjiaaDoor.InpM
