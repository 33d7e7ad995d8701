/- copy onto a row known whole: nothing else turns. -/
import Derived.Test.YtojgpdphdhcjiaaDoorEntT
import Derived.Test.YtojgpdphdhcjiaaDoorBrow
import Derived.Laws.CopyOwn
import Derived.Deep.RegionLaw
namespace Go.Proofs.YtojgpdphdhcjiaaDoor.Ent
open Go.RowKit Go.Proofs.YtojgpdphdhcjiaaDoorW.PrintWords Go.Proofs.YtojgpdphdhcjiaaDoorW.PrintLast Go.Proofs.YtojgpdphdhcjiaaDoorW.PrintMore
open PFnEntityEach Go.Lib Brow
set_option linter.unusedVariables false
set_option linter.unusedSimpArgs false

/-- news laid over full from place off on. -/
def over (full : List Int) (off : Nat) (news : List Int) : List Int := full.take off ++ (news ++ full.drop (off + news.length))
theorem over_len {full news : List Int} {off : Nat} (h : off + news.length ≤ full.length) : (over full off news).length = full.length := by
  simp only [over, List.length_append, List.length_take, List.length_drop]; omega
section
variable {P : Program} (w : World)
theorem run_copy_over (dT sT ty E : TypeId) (hu : P.underlying dT = some (.slice E)) (hsz : (P.info? E).map (·.size) = some 1)
    (dp sp : Option Addr) (dLen dCap sLen sCap g off : Nat) (full news : List Int) (hg : Row E w g full) (hn : news.length = Nat.min sLen dLen)
    (hpos : 0 < news.length → dp = some ⟨g, off, none⟩ ∧ ∃ ad, sp = some ad ∧ ∀ (j : Nat) (x : Int), news[j]? = some x → w.cell? (ad.add j) = some (.int .u8 x)) (hfit : off + news.length ≤ full.length) :
    ∃ w', (Builtin.copy_ #[dT, sT] ty #[.slice dp dLen dCap, .slice sp sLen sCap]).run P w = .ok (goInt news.length) w' ∧ Row E w' g (over full off news) ∧ w.grownBy w' (some g) := by
  by_cases h0 : news.length = 0
  · obtain rfl : news = [] := List.eq_nil_of_length_eq_zero h0
    refine ⟨w, run_copy_none w dT sT ty E dp sp dLen dCap sLen sCap hu hsz (by simpa using hn.symm), ?_, World.grownBy.refl w _⟩
    have e : over full off [] = full := by simp [over]
    rw [e]; exact hg
  · obtain ⟨rfl, ad, rfl, hsrc⟩ := hpos (by omega)
    have hl : (nums .u8 news).length = news.length := by simp [nums]
    have hrun := run_copy_row (P := P) w dT sT ty E g off dLen dCap ad sLen sCap (nums .u8 full).toArray E (nums .u8 news) hu hsz hg (by rw [hl]; exact hn)
      (fun j v hj => by
        simp only [nums, List.getElem?_map, Option.map_eq_some_iff] at hj
        obtain ⟨x, hx, rfl⟩ := hj
        exact hsrc j x hx) (by rw [hl]; simpa [nums] using hfit) (fun v hv => by
        simp only [nums, List.mem_map] at hv
        obtain ⟨x, _, rfl⟩ := hv
        rfl)
    rw [hl] at hrun
    refine ⟨_, hrun, ?_, ⟨rfl, rfl, rfl, by simp [World.setRow], fun k _ hk => setRow_other w g k _ (fun e => hk (by rw [e]))⟩⟩
    have h2 := setRow_heap w g _ ((((nums .u8 full).toArray.toList.take off ++ nums .u8 news) ++ (nums .u8 full).toArray.toList.drop (off + (nums .u8 news).length)).toArray) E _ hg
    unfold Row
    rw [hl] at h2
    refine h2.trans ?_
    simp [over, nums, List.map_take, List.map_drop]
theorem wpList_copy_over {ops : Array Oper} {rest : List Oper} {o : Oper} {a : Act} {Q : Exit → Act → World → Prop} (hgd : o.guard = none) (d s : Operand) (dT sT E : TypeId)
    (ho : o.op = .call { callee := .builtin .copy, args := #[d, s], argTypes := #[dT, sT] }) (hu : P.underlying dT = some (.slice E)) (hsz : (P.info? E).map (·.size) = some 1)
    (dp sp : Option Addr) (dLen dCap sLen sCap : Nat) (hd : a.eval d = .slice dp dLen dCap) (hs : a.eval s = .slice sp sLen sCap) (g off : Nat) (full news : List Int) (hg : Row E w g full) (hn : news.length = Nat.min sLen dLen)
    (hpos : 0 < news.length → dp = some ⟨g, off, none⟩ ∧ ∃ ad, sp = some ad ∧ ∀ (j : Nat) (x : Int), news[j]? = some x → w.cell? (ad.add j) = some (.int .u8 x)) (hfit : off + news.length ≤ full.length)
    (h : ∀ w', Aside0 (Row E w' g (over full off news) ∧ w.grownBy w' (some g)) → wpList P ops Q rest (a.put o.dst (goInt news.length)) w') : wpList P ops Q (o :: rest) a w := by
  refine wpList_plain hgd fun K hK => ?_
  obtain ⟨w', hrun, h1, h2⟩ := run_copy_over (P := P) w dT sT o.type E hu hsz dp sp dLen dCap sLen sCap g off full news hg hn hpos hfit
  unfold Oper.wp
  simp [execOp, ho, resolve, invoke, builtin, hd, hs, hrun, Result.andThen]
  exact hK _ _ (h w' ⟨h1, h2⟩)
theorem step_copy_over {ops : Array Oper} {o : Oper} {a : Act} {K : Act → World → Prop} {Q : Exit → Act → World → Prop} {R : Prop} (hgd : o.guard = none) (d s : Operand) (dT sT E : TypeId)
    (ho : o.op = .call { callee := .builtin .copy, args := #[d, s], argTypes := #[dT, sT] }) (hu : P.underlying dT = some (.slice E)) (hsz : (P.info? E).map (·.size) = some 1)
    (dp sp : Option Addr) (dLen dCap sLen sCap : Nat) (hd : a.eval d = .slice dp dLen dCap) (hs : a.eval s = .slice sp sLen sCap) (g off : Nat) (full news : List Int) (hg : Row E w g full) (hn : news.length = Nat.min sLen dLen)
    (hpos : 0 < news.length → dp = some ⟨g, off, none⟩ ∧ ∃ ad, sp = some ad ∧ ∀ (j : Nat) (x : Int), news[j]? = some x → w.cell? (ad.add j) = some (.int .u8 x)) (hfit : off + news.length ≤ full.length)
    (h : ∀ w', Aside0 (Row E w' g (over full off news) ∧ w.grownBy w' (some g)) → K (a.put o.dst (goInt news.length)) w') :
    if Region.wanted o (yielded ops a.tmps) = true then Oper.wp P o a w K Q else R := by
  have hw : Region.wanted o (yielded ops a.tmps) = true := by simp [Region.wanted, hgd]
  rw [if_pos hw]
  obtain ⟨w', hrun, h1, h2⟩ := run_copy_over (P := P) w dT sT o.type E hu hsz dp sp dLen dCap sLen sCap g off full news hg hn hpos hfit
  unfold Oper.wp
  simp [execOp, ho, resolve, invoke, builtin, hd, hs, hrun, Result.andThen]
  exact h w' ⟨h1, h2⟩
end
/-- What the two copies make. -/
theorem over_twice (pre mid v post spare : List Int) (hv : v.length ≤ mid.length) : ∀ full : List Int, full = pre ++ mid ++ post ++ spare →
    (over (over full pre.length v) (pre.length + v.length) post).take (pre.length + v.length + post.length) = pre ++ v ++ post := by
  intro full hf
  have e1 : over full pre.length v = pre ++ (v ++ (mid.drop v.length ++ post ++ spare)) := by
    rw [over, hf]
    rw [show pre ++ mid ++ post ++ spare = pre ++ (mid ++ post ++ spare) by simp, List.take_left, List.drop_append]
    simp [List.drop_append, Nat.sub_eq_zero_of_le hv]
  rw [e1, over, show pre ++ (v ++ (mid.drop v.length ++ post ++ spare)) = (pre ++ v) ++ (mid.drop v.length ++ post ++ spare) by simp, ← List.length_append, List.take_left]
  rw [show pre ++ v ++ (post ++ List.drop ((pre ++ v).length + post.length) (pre ++ v ++ (mid.drop v.length ++ post ++ spare))) = (pre ++ v ++ post) ++ List.drop ((pre ++ v).length + post.length) (pre ++ v ++ (mid.drop v.length ++ post ++ spare)) by simp, ← List.length_append, List.take_left]
/-- Behind the first copy the bytes behind the entity are as they were. -/
theorem over_rest (pre mid v post spare : List Int) (hv : v.length ≤ mid.length) : ∀ full : List Int, full = pre ++ mid ++ post ++ spare → (over full pre.length v).drop (pre.length + mid.length) = post ++ spare := by
  intro full hf
  have e1 : over full pre.length v = pre ++ (v ++ (mid.drop v.length ++ post ++ spare)) := by
    rw [over, hf]
    rw [show pre ++ mid ++ post ++ spare = pre ++ (mid ++ post ++ spare) by simp, List.take_left, List.drop_append]
    simp [List.drop_append, Nat.sub_eq_zero_of_le hv]
  rw [e1, show pre ++ (v ++ (mid.drop v.length ++ post ++ spare)) = (pre ++ v ++ mid.drop v.length) ++ (post ++ spare) by simp]
  have hl : (pre ++ v ++ mid.drop v.length).length = pre.length + mid.length := by simp; omega
  rw [← hl, List.drop_left]
end Go.Proofs.YtojgpdphdhcjiaaDoor.Ent
