/- Rows of bytes of the call's own, known whole: also behind their length, up to their capacity, each cell holds a byte. Cutting them longer, storing into them, and append onto them keep this. -/
import Derived.Test.YtmpgbakkpbmpiaaDoorWMore
import Derived.Below
import Derived.Deep.AppendLies
import Derived.Maps.AppendAt
import Derived.OwnWalk
import Derived.Laws.OwnMore
import Derived.Laws.AppendOwn
namespace Go.Proofs.YtmpgbakkpbmpiaaDoor.Brow
open Go.RowKit Go.Proofs.YtmpgbakkpbmpiaaDoorW.PrintWords Go.Proofs.YtmpgbakkpbmpiaaDoorW.PrintLast Go.Proofs.YtmpgbakkpbmpiaaDoorW.PrintMore

/-- Block g is a row of bytes, 'full'; none is frozen. -/
def Row (E : TypeId) (w : World) (g : Nat) (full : List Int) : Prop := w.heap[g]? = some (.cells (nums .u8 full).toArray E (0, 0))

section
variable {E : TypeId} {w w' : World} {g : Nat} {full : List Int}
theorem Row.lt (h : Row E w g full) : g < w.heap.size := (Array.getElem?_eq_some_iff.1 h).1
theorem Row.cell (h : Row E w g full) (i : Nat) (hi : i < full.length) : w.cell? ⟨g, i, none⟩ = some (.int .u8 (rd full i)) := by
  rw [blk_cell h i]
  simp [nums, rd, List.getD_eq_getElem?_getD, List.getElem?_eq_getElem hi]
theorem Row.frozen (h : Row E w g full) (i : Nat) : w.frozen? ⟨g, i, none⟩ = false := blk_frozen h i
theorem Row.move (h : Row E w g full) (hm : w'.heap[g]? = w.heap[g]?) : Row E w' g full := hm.trans h
theorem Row.below {B : Nat} (h : Row E w g full) (hb : Below B w w') (hg : g < B) : Row E w' g full := h.move (hb.block g hg)
theorem Row.belowAll (h : Row E w g full) (hb : Below w.heap.size w w') : Row E w' g full := h.move (hb.block g h.lt)
theorem Row.alloc (h : Row E w g full) (o : Obj) : Row E (w.alloc o) g full := h.move (Below.heap_alloc w o g h.lt)
theorem Row.drew (h : Row E w g full) : Row E w.drew g full := h
theorem Row.drewN (h : Row E w g full) (n : Nat) : Row E (w.drewN n) g full := h
theorem Row.far (h : Row E w g full) {p : Addr} (hp : g ≠ p.block) (u : Value) : Row E (w.setCell p u) g full := h.move (Below.heap_setCell w p u g hp)
theorem Row.store (h : Row E w g full) (i : Nat) (x : Int) : Row E (w.setCell ⟨g, i, none⟩ (.int .u8 x)) g (full.set i x) := by
  have h2 := blk_set h i (.int .u8 x)
  unfold Row
  rw [h2]
  simp [nums, List.map_set]
theorem Row.grown {row : Option Nat} (h : Row E w g full) (hg : w.grownBy w' row) (hne : some g ≠ row) : Row E w' g full := h.move (hg.block g h.lt hne)
theorem Row.reads (h : Row E w g full) (n : Nat) (hn : n ≤ full.length) (hm : full.length ≤ 9223372036854775807) : Kd.C (Kd.int .u8) w (some ⟨g, 0, none⟩) n (full.take n) := by
  refine ⟨by rw [List.length_take]; omega, by omega, fun _ => ⟨_, rfl, fun j p hj => ⟨[.int .u8 p], rfl, rfl, fun i u hu => ?_⟩⟩⟩
  have hi : i = 0 := by
    rcases Nat.eq_zero_or_pos i with h0 | h0
    · exact h0
    · rw [List.getElem?_eq_none (by simp; omega)] at hu; cases hu
  subst hi
  have hu' : u = .int .u8 p := by simpa using hu.symm
  subst hu'
  have hjl : j < n := by
    have := (List.getElem?_eq_some_iff.1 hj).1
    rw [List.length_take] at this; omega
  rw [List.getElem?_take, if_pos hjl] at hj
  have hjf : j < full.length := by omega
  rw [List.getElem?_eq_getElem hjf] at hj
  have e : (⟨g, 0, none⟩ : Addr).add (j * (Kd.int .u8).sz + 0) = ⟨g, j, none⟩ := by
    have : j * (Kd.int .u8).sz + 0 = j := by show j * 1 + 0 = j; omega
    rw [this]; exact add_plain g j
  rw [e, h.cell j hjf]
  simp only [rd, Int.toNat_natCast, List.getD_eq_getElem?_getD, List.getElem?_eq_getElem hjf, Option.getD_some]
  rw [Option.some.inj hj]
end

/-- A slice value whose first bytes are l, over a row of the call's own (from block 'base' on). -/
def Bs (E : TypeId) (w : World) (base : Nat) (v : Value) (l : List Int) : Prop :=
  ∃ g full, v = .slice (some ⟨g, 0, none⟩) l.length full.length ∧ base ≤ g ∧ Row E w g full ∧ l.length ≤ full.length ∧ full.length ≤ maxLen ∧ full.take l.length = l

section
variable {E : TypeId} {w w' : World} {base : Nat} {v : Value} {l : List Int}
theorem Bs.belowAll (h : Bs E w base v l) (hb : Below w.heap.size w w') : Bs E w' base v l := by
  obtain ⟨g, full, hv, hg, hr, x⟩ := h
  exact ⟨g, full, hv, hg, hr.belowAll hb, x⟩
theorem Bs.mono {base' : Nat} (h : Bs E w base v l) (hb : base' ≤ base) : Bs E w base' v l := by
  obtain ⟨g, full, hv, hg, x⟩ := h
  exact ⟨g, full, hv, Nat.le_trans hb hg, x⟩
theorem Bs.reads (h : Bs E w base v l) : ∃ A c, v = .slice A l.length c ∧ l.length ≤ c ∧ Kd.C (Kd.int .u8) w A l.length l := by
  obtain ⟨g, full, hv, hg, hr, hl, hm, ht⟩ := h
  have := hr.reads l.length hl (by simp only [maxLen] at hm; omega)
  rw [ht] at this
  exact ⟨_, _, hv, hl, this⟩
theorem Bs.lt (h : Bs E w base v l) : ∀ k, v.ownBlock = some k → base ≤ k ∧ k < w.heap.size := by
  obtain ⟨g, full, rfl, hg, hr, x⟩ := h
  intro k hk
  have : g = k := by simpa [Value.ownBlock] using hk
  subst this
  exact ⟨hg, hr.lt⟩
end

section
variable {P : Program} (w : World)
theorem nums_toArray_append (a b : List Int) : (nums .u8 a).toArray ++ (nums .u8 b).toArray = (nums .u8 (a ++ b)).toArray := by
  simp [nums]
theorem zero_nums (k : Nat) : Builtin.zeroCells (Value.int .u8 0).cells k = (nums .u8 (List.replicate k 0)).toArray := by
  apply Array.ext'
  simp only [Builtin.zeroCells, Value.cells, nums, List.map_replicate]
  have e : (fun i : Nat => (#[Value.int .u8 0].toList)[i % 1]?.getD default) = fun _ => Value.int .u8 0 := by
    funext i
    simp [Nat.mod_one]
  simp [Nat.mod_one, List.map_const']

/-- append onto such a row; the source reads anywhere (nil, too). -/
theorem run_append (E : TypeId) (base : Nat) (t ty : TypeId) (ht : P.underlying t = some (.slice E)) (hinfo : (P.info? E).map (fun i => (i.zero, i.size, i.bytes)) = some (some (.int .u8 0), 1, 1))
    (v : Value) (l : List Int) (hv : Bs E w base v l) (A : Option Addr) (c : Nat) (news : List Int) (hn : Kd.C (Kd.int .u8) w A news.length news)
    (hb : l.length + news.length ≤ 140737488355328) (hbase : base ≤ w.heap.size) :
    ∃ v' w', (Builtin.append_ #[t, t] ty #[v, .slice A news.length c]).run P w = .ok v' w' ∧ Bs E w' base v' (l ++ news) ∧ w.grownBy w' v.ownBlock ∧ (v'.ownBlock = v.ownBlock ∨ v'.ownBlock = some w.heap.size) := by
  obtain ⟨i0, hi, hzz⟩ := Option.map_eq_some_iff.1 hinfo
  simp only [Prod.mk.injEq] at hzz
  obtain ⟨hz0, hz1, hz2⟩ := hzz
  obtain ⟨g, full, rfl, hg, hr, hl, hm, htk⟩ := hv
  have hfs : ((nums .u8 full).toArray).size = full.length := by simp [nums]
  cases A with
  | none =>
    have hn0 : news = [] := by
      rcases Nat.eq_zero_or_pos news.length with h0 | h0
      · exact List.eq_nil_of_length_eq_zero h0
      · obtain ⟨ad, h, _⟩ := hn.2.2 h0
        cases h
    subst hn0
    refine ⟨_, w, ?_, ⟨g, full, by simp, hg, hr, by simpa using hl, hm, by simpa using htk⟩, World.grownBy.refl w _, .inl rfl⟩
    simp [Builtin.append_, run_underlying ht, sizeOf, typeInfo, hi, Builtin.lenOf, Builtin.firstCells, hl, storeCells]
  | some ad =>
    have hcells : ∀ j u, (nums .u8 news)[j]? = some u → w.cell? (ad.add j) = some u := by
      intro j u hu
      have hj : j < news.length := by
        have := (List.getElem?_eq_some_iff.1 hu).1
        rwa [nums_length] at this
      obtain ⟨ad', he, hc⟩ := hn.2.2 (by omega)
      injection he with he
      subst he
      obtain ⟨cs, _, hK, hcc⟩ := hc j _ (List.getElem?_eq_getElem hj)
      have hK' : cs = [.int .u8 news[j]] := hK
      subst hK'
      have h0 := hcc 0 _ rfl
      have e : j * (Kd.int .u8).sz + 0 = j := by show j * 1 + 0 = j; omega
      rw [e] at h0
      rw [h0]
      simp only [nums, List.getElem?_map, List.getElem?_eq_getElem hj, Option.map_some] at hu
      exact hu
    have h1 : ∀ u ∈ nums .u8 news, u.oneCell' = true := by
      intro u hu
      simp only [nums, List.mem_map] at hu
      obtain ⟨x, _, rfl⟩ := hu
      rfl
    by_cases hroom : l.length + news.length ≤ full.length
    · have hx := run_append_room (P := P) w t ty E i0 ht hi g l.length full.length _ hr ad news.length c (nums .u8 news) (by rw [nums_length, hz1, Nat.mul_one]) hcells h1 hroom (by rw [hz1, Nat.mul_one, nums_length, hfs]; exact hroom)
      refine ⟨_, _, hx, ⟨g, full.take l.length ++ news ++ full.drop (l.length + news.length), ?_, hg, ?_, ?_, ?_, ?_⟩, ⟨rfl, rfl, rfl, by simp, fun k _ hk => setRow_other w g k _ (fun e => hk (by simp [Value.ownBlock, e]))⟩, .inl rfl⟩
      · simp only [List.length_append, List.length_take, List.length_drop]
        congr 1
        omega
      · have h2 := setRow_heap w g _ ((List.take (l.length * i0.size) (nums .u8 full).toArray.toList ++ nums .u8 news ++ List.drop (l.length * i0.size + (nums .u8 news).length) (nums .u8 full).toArray.toList).toArray) E _ hr
        unfold Row
        rw [h2, hz1, Nat.mul_one, nums_length]
        simp [nums, List.map_take, List.map_drop]
      · simp only [List.length_append, List.length_take, List.length_drop]; omega
      · simp only [List.length_append, List.length_take, List.length_drop]; omega
      · rw [htk, List.length_append, List.take_append_of_le_length (by simp), List.take_of_length_le (by simp)]
    · have holds : ∀ j u, (nums .u8 l)[j]? = some u → w.cell? ((⟨g, 0, none⟩ : Addr).add j) = some u := by
        intro j u hu
        have hj : j < l.length := by
          have := (List.getElem?_eq_some_iff.1 hu).1
          rwa [nums_length] at this
        rw [add_plain, hr.cell j (by omega), ← hu]
        simp only [nums, List.getElem?_map, List.getElem?_eq_getElem hj, Option.map_some, rd, Int.toNat_natCast, List.getD_eq_getElem?_getD, List.getElem?_eq_getElem (show j < full.length by omega), Option.getD_some]
        congr 2
        have : (full.take l.length)[j]? = l[j]? := by rw [htk]
        rw [List.getElem?_take, if_pos hj, List.getElem?_eq_getElem (by omega), List.getElem?_eq_getElem hj] at this
        exact Option.some.inj this
      have hx := run_append_grow (P := P) w t ty E i0 (.int .u8 0) ht hi hz0 ⟨g, 0, none⟩ l.length full.length (nums .u8 l) (by rw [nums_length, hz1, Nat.mul_one]) holds ad news.length c (nums .u8 news) (by rw [nums_length, hz1, Nat.mul_one]) hcells (by omega) (by omega) (growslice_fits (by omega) (by rw [hz2]; omega))
      have hge := grownCap_ge w (l.length + news.length) full.length E
      have hcm := grownCap_le_maxLen w (l.length + news.length) full.length E (by simp only [maxLen]; omega)
      refine ⟨_, _, hx, ⟨w.heap.size, l ++ news ++ List.replicate (grownCap w (l.length + news.length) full.length E - (l.length + news.length)) 0, ?_, hbase, ?_, ?_, ?_, ?_⟩, ⟨rfl, rfl, rfl, by simp, fun k hk _ => Below.heap_alloc w.drew _ k hk⟩, .inr rfl⟩
      · simp only [List.length_append, List.length_replicate]
        congr 1
        omega
      · have h2 := heap_alloc_new w.drew (.cells ((nums .u8 l).toArray ++ (nums .u8 news).toArray ++ Builtin.zeroCells (Value.int .u8 0).cells (grownCap w (l.length + news.length) full.length E - (l.length + news.length))) E)
        unfold Row
        rw [zero_nums, nums_toArray_append, nums_toArray_append] at h2
        rw [zero_nums, nums_toArray_append, nums_toArray_append]
        exact h2
      · simp only [List.length_append, List.length_replicate]; omega
      · simp only [List.length_append, List.length_replicate]; omega
      · rw [List.take_append_of_le_length (by simp), List.take_of_length_le (by simp)]

theorem wp_append {o : Oper} {a : Act} {K : Act → World → Prop} {Q : Exit → Act → World → Prop} (s x : Operand) (t E : TypeId) (base : Nat)
    (ho : o.op = .call { callee := .builtin .append, args := #[s, x], argTypes := #[t, t] })
    (ht : P.underlying t = some (.slice E)) (hinfo : (P.info? E).map (fun i => (i.zero, i.size, i.bytes)) = some (some (.int .u8 0), 1, 1))
    (v : Value) (l : List Int) (hs : a.eval s = v) (hv : Bs E w base v l) (A : Option Addr) (c : Nat) (news : List Int) (hx : a.eval x = .slice A news.length c) (hn : Kd.C (Kd.int .u8) w A news.length news)
    (hb : l.length + news.length ≤ 140737488355328) (hbase : base ≤ w.heap.size)
    (h : ∀ v' w', Bs E w' base v' (l ++ news) → w.grownBy w' v.ownBlock → (v'.ownBlock = v.ownBlock ∨ v'.ownBlock = some w.heap.size) → K (a.put o.dst v') w') : o.wp P a w K Q := by
  obtain ⟨v', w', hr, h2, h3, h4⟩ := run_append (P := P) w E base t o.type ht hinfo v l hv A c news hn hb hbase
  unfold Oper.wp execOp
  simp only [ho, resolve, invoke, builtin, Sem.run_bind, Sem.run_pure, Result.andThen_ok, List.map_toArray, List.map_cons, List.map_nil, hs, hx, hr]
  exact h v' w' h2 h3 h4

theorem wpList_append {ops : Array Oper} {rest : List Oper} {o : Oper} {a : Act} {Q : Exit → Act → World → Prop} (hgd : o.guard = none) (s x : Operand) (t E : TypeId) (base : Nat)
    (ho : o.op = .call { callee := .builtin .append, args := #[s, x], argTypes := #[t, t] })
    (ht : P.underlying t = some (.slice E)) (hinfo : (P.info? E).map (fun i => (i.zero, i.size, i.bytes)) = some (some (.int .u8 0), 1, 1))
    (v : Value) (l : List Int) (hs : a.eval s = v) (hv : Bs E w base v l) (A : Option Addr) (c : Nat) (news : List Int) (hx : a.eval x = .slice A news.length c) (hn : Kd.C (Kd.int .u8) w A news.length news)
    (hb : l.length + news.length ≤ 140737488355328) (hbase : base ≤ w.heap.size)
    (h : ∀ v' w', Bs E w' base v' (l ++ news) → w.grownBy w' v.ownBlock → (v'.ownBlock = v.ownBlock ∨ v'.ownBlock = some w.heap.size) → wpList P ops Q rest (a.put o.dst v') w') : wpList P ops Q (o :: rest) a w :=
  wpList_plain hgd fun _ hK => wp_append w s x t E base ho ht hinfo v l hs hv A c news hx hn hb hbase fun v' w' h2 h3 h4 => hK _ _ (h v' w' h2 h3 h4)
end
end Go.Proofs.YtmpgbakkpbmpiaaDoor.Brow
