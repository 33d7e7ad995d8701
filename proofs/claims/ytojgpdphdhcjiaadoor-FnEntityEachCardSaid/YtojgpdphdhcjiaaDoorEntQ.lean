/- parse.replaceEntities at an entity by its name: the words. -/
import Derived.Test.YtojgpdphdhcjiaaDoorEntC
namespace Go.Proofs.YtojgpdphdhcjiaaDoor.Ent
open Go.RowKit Go.Proofs.YtojgpdphdhcjiaaDoorW.PrintWords Go.Proofs.YtojgpdphdhcjiaaDoorW.PrintLast Go.Proofs.YtojgpdphdhcjiaaDoorW.PrintMore
open PFnEntityEach Go.Lib Brow Go.Maps
set_option linter.unusedVariables false
set_option linter.unusedSimpArgs false

/-- A text with an entity at place i = pre.length. -/
def mid (nm : ByteArray) : List Int := 38 :: (ba nm ++ [59])
theorem mid_len (nm : ByteArray) : (mid nm).length = nm.size + 2 := by simp [mid, ba_len]
theorem mid_rd (pre post spare : List Int) (nm : ByteArray) (t : Nat) (ht : t < nm.size) : rd (pre ++ mid nm ++ post ++ spare) ((pre.length + 1 + t : Nat) : Int) = bt nm t := by
  rw [← ba_rd nm t ht]
  have h : (ba nm).length = nm.size := ba_len nm
  simp only [rd, Int.toNat_natCast, List.getD_eq_getElem?_getD, mid]
  congr 1
  rw [List.append_assoc, List.append_assoc, List.getElem?_append_right (by omega), show pre.length + 1 + t - pre.length = t + 1 by omega, List.cons_append, List.getElem?_cons_succ, List.append_assoc, List.getElem?_append_left (by omega)]
theorem mid_end (pre post spare : List Int) (nm : ByteArray) : rd (pre ++ mid nm ++ post ++ spare) ((pre.length + 1 + nm.size : Nat) : Int) = 59 := by
  have h : (ba nm).length = nm.size := ba_len nm
  simp only [rd, Int.toNat_natCast, List.getD_eq_getElem?_getD, mid]
  rw [List.append_assoc, List.append_assoc, List.getElem?_append_right (by omega), show pre.length + 1 + nm.size - pre.length = nm.size + 1 by omega, List.cons_append, List.getElem?_cons_succ, List.append_assoc, List.getElem?_append_right (by omega), h]
  simp

/-- Bytes in a row's middle. -/
theorem C_cells (w : World) (g o : Nat) (xs : List Int) (hx : xs.length ≤ 9000000000000000) (h : ∀ t : Nat, t < xs.length → w.cell? ⟨g, o + t, none⟩ = some (.int .u8 (rd xs t))) : Kd.C (Kd.int .u8) w (some ⟨g, o, none⟩) xs.length xs := by
  refine ⟨rfl, by omega, fun _ => ⟨_, rfl, fun j p hj => ⟨[.int .u8 p], rfl, rfl, fun i u hu => ?_⟩⟩⟩
  have hi : i = 0 := by
    rcases Nat.eq_zero_or_pos i with h0 | h0
    · exact h0
    · rw [List.getElem?_eq_none (by simp; omega)] at hu; cases hu
  subst hi
  have hu' : u = .int .u8 p := by simpa using hu.symm
  subst hu'
  have hjl : j < xs.length := (List.getElem?_eq_some_iff.1 hj).1
  have e : (⟨g, o, none⟩ : Addr).add (j * (Kd.int .u8).sz + 0) = ⟨g, o + j, none⟩ := by
    have : j * (Kd.int .u8).sz + 0 = j := by show j * 1 + 0 = j; omega
    rw [this]; exact Go.WideShapes.add_plain g o j
  rw [e, h j hjl]
  rw [List.getElem?_eq_getElem hjl] at hj
  simp only [rd, Int.toNat_natCast, List.getD_eq_getElem?_getD, List.getElem?_eq_getElem hjl, Option.getD_some]
  rw [Option.some.inj hj]
theorem conv_len {i j m n : Nat} (hj : j = i + 1 + m) (hm : m = n) : j - (i + 1) = n := by omega
theorem short_max {n : Nat} (h : n ≤ 20) : n ≤ maxLen := by simp only [maxLen]; omega
theorem conv_mid (w : World) (g o n c : Nat) (nm : ByteArray) (hsz : nm.size ≤ 20) (hn : n = nm.size) (h : ∀ t : Nat, t < nm.size → w.cell? ⟨g, o + t, none⟩ = some (.int .u8 (bt nm t))) : (convert 22 9 (.slice (some ⟨g, o, none⟩) n c)).run Tryd.prog w = .ok (.string nm) w := by
  have hl := ba_len nm
  have h2 := C_cells w g o (ba nm) (by omega) (fun t ht => by rw [ba_rd nm t (by omega)]; exact h t (by omega))
  rw [hn, ← hl, Kd.C_string Tryd.underlying22 Tryd.underlying5 Tryd.underlying9 h2, str_ba]
theorem zero22 (w : World) : (zeroValue 22).run Tryd.prog w = .ok (.slice none 0 0) w := by kernel_rfl
theorem law5 : Keyed Tryd.prog 5 := int_keyed Tryd.underlying5
/-- 'v, ok := m[k]' where what stands at the key is known. -/
theorem wpList_lookup_self {P : Program} (w : World) {ops : Array Oper} {rest : List Oper} {o : Oper} {a : Act} {Q : Exit → Act → World → Prop} (hg : o.guard = none) (m x : Operand) (t : TypeId) (hop : o.op = Op.lookup t m x true)
    (k e : TypeId) (K : Keyed P k) (ht : P.underlying t = some (.map k e)) {z : Value} (hz : (zeroValue e).run P w = .ok z w) (b n : Nat) (D : DataW Value)
    (hm : a.eval m = .map (some b)) (hown : w.ownsMap P k Self b n D) (key : Value) (kl : Lit) (hx : a.eval x = key) (hkey : keyOf P k key = some kl) (v : Value) (ok : Bool) (hat : D.atKey kl (.held z) = .held v) (hok : Maps.has D kl = ok)
    (hK : wpList P ops Q rest (a.put o.dst (.tuple #[v, .bool ok])) w) : wpList P ops Q (o :: rest) a w := by
  refine wpList_lookup_own_ok w hg m x t hop k e K ht Self hz (.held z) [] rfl b n D hm hown key kl hx hkey ?_
  intro v' ps hv
  unfold Self at hv
  simp only [Option.some.injEq, Prod.mk.injEq, hat, DataW.held.injEq] at hv
  rw [hv.1, hok]
  exact hK

def rest : Nat → Code → Code
  | 0, c => c
  | k + 1, .seq _ b => rest k b
  | _, c => c
noncomputable def body41 : Code := (Tryd.f41.body).getD .skip
theorem use_k {P : Program} {c : Code} {Q : Exit → Act → World → Prop} {K : Act → World → Prop} {a : Act} {w : World} (h : ∀ a w, Code.wp P c Q a w → K a w) (h2 : Code.wp P c Q a w) : K a w := h a w h2
theorem bodyPost_mono {P : Program} {fn : Func} {R R' : Ending → World → Prop} (h : ∀ e w, R e w → R' e w) (e : Exit) (a : Act) (w : World) (hb : bodyPost P fn R e a w) : bodyPost P fn R' e a w := by
  cases e with
  | normal => obtain ⟨h1, v, h2, h3⟩ := hb; exact ⟨h1, v, h2, h _ _ h3⟩
  | ret => obtain ⟨h1, v, h2, h3⟩ := hb; exact ⟨h1, v, h2, h _ _ h3⟩
  | panic chain => obtain ⟨h1, h2⟩ := hb; exact ⟨h1, h _ _ h2⟩
  | outgrown => exact h _ _ hb
  | _ => exact hb.elim
end Go.Proofs.YtojgpdphdhcjiaaDoor.Ent
