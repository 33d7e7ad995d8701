/- Plain: what the small functions that print.sh printed answer; bytes of strings. -/
import Derived.Test.YtojgpdphdhcjiaaDoorPFnEntityEachx1
import Derived.Test.YtojgpdphdhcjiaaDoorEntJ
namespace Go.Proofs.YtojgpdphdhcjiaaDoor.Ent
open Go.RowKit Go.Proofs.YtojgpdphdhcjiaaDoorW.PrintWords Go.Proofs.YtojgpdphdhcjiaaDoorW.PrintLast Go.Proofs.YtojgpdphdhcjiaaDoorW.PrintMore
open PFnEntityEach
set_option linter.unusedVariables false

theorem wrap_id (n : Int) (h : -9000000000000000000 ≤ n ∧ n ≤ 9000000000000000000) : wrap64 n = n := by simp only [wrap64]; omega
/-- A string's bytes as whole numbers. -/
def ba (s : ByteArray) : List Int := s.data.toList.map fun b => (b.toNat : Int)
theorem ba_len (s : ByteArray) : (ba s).length = s.size := by
  unfold ba
  rw [List.length_map, Array.length_toList]
  rfl
theorem ba_rd (s : ByteArray) (i : Nat) (hi : i < s.size) : rd (ba s) i = bt s i := by
  have h1 : i < s.data.toList.length := by rw [Array.length_toList]; exact hi
  simp only [rd, Int.toNat_natCast, bt, dif_pos hi, List.getD_eq_getElem?_getD, ba, List.getElem?_map, List.getElem?_eq_getElem h1, Option.map_some, Option.getD_some]
  rfl
theorem ba_range (s : ByteArray) : ∀ c ∈ ba s, 0 ≤ c ∧ c ≤ 255 := by
  intro c hc
  simp only [ba, List.mem_map] at hc
  obtain ⟨b, _, rfl⟩ := hc
  have := b.toNat_lt
  omega
theorem ba_append (s t : ByteArray) : ba (s ++ t) = ba s ++ ba t := by simp [ba]
theorem str_ba (s : ByteArray) : strOfNums (ba s) = s := by
  have h : ∀ l : List UInt8, (l.map fun b => (b.toNat : Int)).map (fun n => UInt8.ofNat n.toNat) = l := by
    intro l
    rw [List.map_map]
    refine (List.map_congr_left (fun b _ => ?_)).trans (List.map_id l)
    show UInt8.ofNat ((b.toNat : Int).toNat) = b
    rw [Int.toNat_natCast]
    exact UInt8.ofNat_toNat
  rcases s with ⟨⟨l⟩⟩
  simp [strOfNums, ba]
  rw [← List.map_map]
  exact h l

theorem rd_mem {l : List Int} {i : Nat} (hi : i < l.length) : rd l i ∈ l := by
  simp only [rd, Int.toNat_natCast, List.getD_eq_getElem?_getD, List.getElem?_eq_getElem hi, Option.getD_some]
  exact List.getElem_mem hi
theorem mem_rd {l : List Int} {c : Int} (h : c ∈ l) : ∃ i : Nat, i < l.length ∧ rd l i = c := by
  obtain ⟨i, hi, rfl⟩ := List.getElem_of_mem h
  exact ⟨i, hi, by simp only [rd, Int.toNat_natCast, List.getD_eq_getElem?_getD, List.getElem?_eq_getElem hi, Option.getD_some]⟩

/-- spec.BytePlace answers; below nought just where the byte isn't there. -/
theorem place_l0 (l : List Int) (c : Int) (hl : l.length ≤ 9000000000000000) : ∀ (m i : Nat), i + m = l.length → ∃ r : Int, spec_BytePlace.l0 (m + 1) c l (l.length : Int) i = some r ∧ (r < 0 ↔ ∀ j : Nat, i ≤ j → j < l.length → rd l j ≠ c)
  | 0, i, h => by
    refine ⟨-1, ?_, by constructor <;> intros <;> omega⟩
    rw [spec_BytePlace.l0, if_neg (by omega)]
  | m + 1, i, h => by
    obtain ⟨r, hr, hp⟩ := place_l0 l c hl m (i + 1) (by omega)
    by_cases hc : rd l (i : Int) = c
    · refine ⟨i, ?_, ?_⟩
      · rw [spec_BytePlace.l0, if_pos (by omega), if_pos (by omega), if_pos (by omega), if_pos hc]
      · constructor
        · omega
        · intro hall; exact absurd hc (hall i (Nat.le_refl _) (by omega))
    · refine ⟨r, ?_, ?_⟩
      · rw [spec_BytePlace.l0, if_pos (by omega), if_pos (by omega), if_pos (by omega), if_neg hc, wrap_id _ (by omega), show ((i : Int) + 1) = ((i + 1 : Nat) : Int) by omega]
        exact hr
      · rw [hp]
        constructor
        · intro hall j hj hj2
          by_cases he : j = i
          · rw [he]; exact hc
          · exact hall j (by omega) hj2
        · intro hall j hj hj2
          exact hall j (by omega) hj2
theorem place (l : List Int) (c : Int) (hl : l.length ≤ 9000000000000000) : ∃ r : Int, spec_BytePlace.f (l.length + 1) l c = some r ∧ (r < 0 ↔ c ∉ l) := by
  obtain ⟨r, hr, hp⟩ := place_l0 l c hl l.length 0 (by omega)
  refine ⟨r, hr, ?_⟩
  rw [hp]
  constructor
  · intro hall hm
    obtain ⟨i, hi, he⟩ := mem_rd hm
    exact hall i (by omega) hi he
  · intro hm j _ hj he
    exact hm (he ▸ rd_mem hj)
/-- A letter; or behind it a letter, a digit, a stroke. -/
def Tok (i : Nat) (c : Int) : Prop := (97 ≤ c ∧ c ≤ 122) ∨ (i ≠ 0 ∧ (c = 45 ∨ (48 ≤ c ∧ c ≤ 57)))
theorem token_l0 (s : ByteArray) (hl : s.size ≤ 9000000000000000) : ∀ (m i : Nat), i + m = s.size → ∃ r : Bool, spec_IsToken.l0 (m + 1) s (s.size : Int) i = some r ∧ (r = true → (∀ j : Nat, i ≤ j → j < s.size → Tok j (bt s j)) ∧ 1 ≤ s.size ∧ s.size ≤ 20)
  | 0, i, h => by
    rw [spec_IsToken.l0, if_neg (by omega)]
    by_cases h1 : (s.size : Int) ≥ 1
    · rw [if_pos h1]
      exact ⟨_, rfl, fun hr => ⟨fun j hj hj2 => by omega, by omega, by simp at hr; omega⟩⟩
    · rw [if_neg h1]
      exact ⟨_, rfl, fun hr => by cases hr⟩
  | m + 1, i, h => by
    obtain ⟨r, hr, hp⟩ := token_l0 s hl m (i + 1) (by omega)
    have step : spec_IsToken.l0 (m + 1) s (s.size : Int) (wrap64 ((i : Int) + 1)) = some r := by
      rw [wrap_id _ (by omega), show ((i : Int) + 1) = ((i + 1 : Nat) : Int) by omega]
      exact hr
    have fin : Tok i (bt s i) → (r = true → (∀ j : Nat, i ≤ j → j < s.size → Tok j (bt s j)) ∧ 1 ≤ s.size ∧ s.size ≤ 20) := by
      intro ht hrt
      obtain ⟨h1, h2⟩ := hp hrt
      refine ⟨fun j hj hj2 => ?_, h2⟩
      by_cases he : j = i
      · rw [he]; exact ht
      · exact h1 j (by omega) hj2
    rw [spec_IsToken.l0, if_pos (by omega), if_pos (by omega), if_pos (by omega)]
    have no : ∃ r' : Bool, some false = some r' ∧ (r' = true → (∀ j : Nat, i ≤ j → j < s.size → Tok j (bt s j)) ∧ 1 ≤ s.size ∧ s.size ≤ 20) := ⟨false, rfl, fun h => by cases h⟩
    by_cases c1 : bt s i ≥ 97
    · rw [if_pos c1]
      by_cases c2 : bt s i ≤ 122
      · rw [if_pos c2]; exact ⟨r, step, fin (.inl ⟨c1, c2⟩)⟩
      · rw [if_neg c2]
        by_cases c3 : (i : Int) = 0
        · rw [if_pos c3]; exact no
        · rw [if_neg c3]
          by_cases c4 : bt s i = 45
          · omega
          · rw [if_neg c4, if_neg (by omega), if_pos (by omega)]; exact no
    · rw [if_neg c1]
      by_cases c3 : (i : Int) = 0
      · rw [if_pos c3]; exact no
      · rw [if_neg c3]
        by_cases c4 : bt s i = 45
        · rw [if_pos c4]; exact ⟨r, step, fin (.inr ⟨by omega, .inl c4⟩)⟩
        · rw [if_neg c4]
          by_cases c5 : bt s i < 48
          · rw [if_pos c5]; exact no
          · rw [if_neg c5]
            by_cases c6 : bt s i > 57
            · rw [if_pos c6]; exact no
            · rw [if_neg c6]; exact ⟨r, step, fin (.inr ⟨by omega, .inr ⟨by omega, by omega⟩⟩)⟩
theorem token (s : ByteArray) (hl : s.size ≤ 9000000000000000) : ∃ r : Bool, spec_IsToken.f (s.size + 1) s = some r ∧ (r = true → (∀ j : Nat, j < s.size → Tok j (bt s j)) ∧ 1 ≤ s.size ∧ s.size ≤ 20) := by
  obtain ⟨r, hr, hp⟩ := token_l0 s hl s.size 0 (by omega)
  exact ⟨r, hr, fun h => ⟨fun j hj => (hp h).1 j (by omega) hj, (hp h).2⟩⟩
theorem same_l0 (l : List Int) (hl : l.length ≤ 9000000000000000) : ∀ (m i : Nat), i + m = l.length → spec_SameBytes.l0 (m + 1) l l (l.length : Int) i = some true
  | 0, i, h => by rw [spec_SameBytes.l0, if_neg (by omega)]
  | m + 1, i, h => by
    rw [spec_SameBytes.l0, if_pos (by omega), if_pos (by omega), if_pos (by omega), if_pos (by omega), if_pos rfl, wrap_id _ (by omega), show ((i : Int) + 1) = ((i + 1 : Nat) : Int) by omega]
    exact same_l0 l hl m (i + 1) (by omega)
theorem same (l : List Int) (hl : l.length ≤ 9000000000000000) : spec_SameBytes.f (l.length + 1) l l = some true := by
  rw [spec_SameBytes.f, if_pos rfl]
  exact same_l0 l hl l.length 0 (by omega)
theorem few_l0 (l : List (List Int)) (hl : l.length ≤ 9000000000000000) : ∀ (m i : Nat), i + m = l.length → ∃ r : Bool, laws_fewBytes.l0 (m + 1) l (l.length : Int) i = some r ∧ (r = true → ∀ j : Nat, i ≤ j → j < l.length → (rd_L3 l j).length ≤ 300)
  | 0, i, h => by
    rw [laws_fewBytes.l0, if_neg (by omega)]
    exact ⟨true, rfl, fun _ j hj hj2 => by omega⟩
  | m + 1, i, h => by
    obtain ⟨r, hr, hp⟩ := few_l0 l hl m (i + 1) (by omega)
    rw [laws_fewBytes.l0, if_pos (by omega), if_pos (by omega), if_pos (by omega)]
    by_cases c : ((rd_L3 l i).length : Int) > 300
    · rw [if_pos c]; exact ⟨false, rfl, fun h => by cases h⟩
    · rw [if_neg c, wrap_id _ (by omega), show ((i : Int) + 1) = ((i + 1 : Nat) : Int) by omega]
      refine ⟨r, hr, fun h j hj hj2 => ?_⟩
      by_cases he : j = i
      · rw [he]; omega
      · exact hp h j (by omega) hj2
theorem few (l : List (List Int)) (hl : l.length ≤ 9000000000000000) : ∃ r : Bool, laws_fewBytes.f (l.length + 1) l = some r ∧ (r = true → ∀ j : Nat, j < l.length → (rd_L3 l j).length ≤ 300) := by
  obtain ⟨r, hr, hp⟩ := few_l0 l hl l.length 0 (by omega)
  exact ⟨r, hr, fun h j hj => hp h j (by omega) hj⟩
theorem fits1_l0 (l : List (List Int)) (hl : l.length ≤ 9000000000000000) : ∀ (m i : Nat), i + m = l.length → ∃ r : Bool, laws_zzFits1.l0 (m + 1) l (l.length : Int) i = some r ∧ (r = true → ∀ j : Nat, i ≤ j → j < l.length → (rd_L3 l j).length ≤ 2147483647)
  | 0, i, h => by
    rw [laws_zzFits1.l0, if_neg (by omega)]
    exact ⟨true, rfl, fun _ j hj hj2 => by omega⟩
  | m + 1, i, h => by
    obtain ⟨r, hr, hp⟩ := fits1_l0 l hl m (i + 1) (by omega)
    rw [laws_zzFits1.l0, if_pos (by omega), if_pos (by omega), if_pos (by omega)]
    by_cases c : ((rd_L3 l i).length : Int) > 2147483647
    · rw [if_pos c]; exact ⟨false, rfl, fun h => by cases h⟩
    · rw [if_neg c, wrap_id _ (by omega), show ((i : Int) + 1) = ((i + 1 : Nat) : Int) by omega]
      refine ⟨r, hr, fun h j hj hj2 => ?_⟩
      by_cases he : j = i
      · rw [he]; omega
      · exact hp h j (by omega) hj2
theorem fits1 (l : List (List Int)) (hl : l.length ≤ 9000000000000000) : ∃ r : Bool, laws_zzFits1.f (l.length + 1) l = some r ∧ (r = true → l.length ≤ 2147483647 ∧ ∀ j : Nat, j < l.length → (rd_L3 l j).length ≤ 2147483647) := by
  unfold laws_zzFits1.f
  by_cases c : (l.length : Int) > 2147483647
  · rw [if_pos c]; exact ⟨false, rfl, fun h => by cases h⟩
  · rw [if_neg c]
    obtain ⟨r, hr, hp⟩ := fits1_l0 l hl l.length 0 (by omega)
    exact ⟨r, hr, fun h => ⟨by omega, fun j hj => hp h j (by omega) hj⟩⟩
theorem fits2_l0 (l : List S63) (hl : l.length ≤ 9000000000000000) : ∀ (m i : Nat), i + m = l.length → ∃ r : Bool, laws_zzFits2.l0 (m + 1) l (l.length : Int) i = some r ∧ (r = true → ∀ j : Nat, i ≤ j → j < l.length → (rd_T63 l j).f0.size ≤ 2147483647 ∧ (rd_T63 l j).f1.size ≤ 2147483647)
  | 0, i, h => by
    rw [laws_zzFits2.l0, if_neg (by omega)]
    exact ⟨true, rfl, fun _ j hj hj2 => by omega⟩
  | m + 1, i, h => by
    obtain ⟨r, hr, hp⟩ := fits2_l0 l hl m (i + 1) (by omega)
    rw [laws_zzFits2.l0, if_pos (by omega), if_pos (by omega), if_pos (by omega), laws_zzFits3.f]
    by_cases c : ((rd_T63 l i).f0.size : Int) > 2147483647
    · rw [if_pos c]; exact ⟨false, rfl, fun h => by cases h⟩
    · rw [if_neg c]
      by_cases c2 : ((rd_T63 l i).f1.size : Int) > 2147483647
      · rw [if_pos c2]; exact ⟨false, rfl, fun h => by cases h⟩
      · rw [if_neg c2]
        refine ⟨r, ?_, fun h j hj hj2 => ?_⟩
        · rw [Option.bind_some, if_pos rfl, wrap_id _ (by omega), show ((i : Int) + 1) = ((i + 1 : Nat) : Int) by omega]
          exact hr
        · by_cases he : j = i
          · rw [he]; omega
          · exact hp h j (by omega) hj2
theorem fits2 (l : List S63) (hl : l.length ≤ 9000000000000000) : ∃ r : Bool, laws_zzFits2.f (l.length + 1) l = some r ∧ (r = true → l.length ≤ 2147483647 ∧ ∀ j : Nat, j < l.length → (rd_T63 l j).f0.size ≤ 2147483647 ∧ (rd_T63 l j).f1.size ≤ 2147483647) := by
  unfold laws_zzFits2.f
  by_cases c : (l.length : Int) > 2147483647
  · rw [if_pos c]; exact ⟨false, rfl, fun h => by cases h⟩
  · rw [if_neg c]
    obtain ⟨r, hr, hp⟩ := fits2_l0 l hl l.length 0 (by omega)
    exact ⟨r, hr, fun h => ⟨by omega, fun j hj => hp h j (by omega) hj⟩⟩
theorem join3 (a b c : List Int) (h : a.length + b.length + c.length < 140737488355328) : spec_Join.f 4 [a, b, c] = some (a ++ b ++ c) := by
  have e0 : rd_L3 [a, b, c] 0 = a := rfl
  have e1 : rd_L3 [a, b, c] 1 = b := rfl
  have e2 : rd_L3 [a, b, c] 2 = c := rfl
  have w0 : wrap64 ((0 : Int) + 1) = 1 := wrap_id _ (by decide)
  have w1 : wrap64 ((1 : Int) + 1) = 2 := wrap_id _ (by decide)
  have w2 : wrap64 ((2 : Int) + 1) = 3 := wrap_id _ (by decide)
  have l3 : (([a, b, c] : List (List Int)).length : Int) = 3 := rfl
  unfold spec_Join.f
  rw [l3]
  rw [spec_Join.l0, if_pos (by decide), if_pos (by decide), if_pos (by rw [l3]; decide), e0, if_pos (by simp only [List.length_nil]; omega), w0]
  rw [spec_Join.l0, if_pos (by decide), if_pos (by decide), if_pos (by rw [l3]; decide), e1, if_pos (by simp only [List.length_append, List.length_nil]; omega), w1]
  rw [spec_Join.l0, if_pos (by decide), if_pos (by decide), if_pos (by rw [l3]; decide), e2, if_pos (by simp only [List.length_append, List.length_nil]; omega), w2]
  rw [spec_Join.l0, if_neg (by decide)]
  simp
end Go.Proofs.YtojgpdphdhcjiaaDoor.Ent
