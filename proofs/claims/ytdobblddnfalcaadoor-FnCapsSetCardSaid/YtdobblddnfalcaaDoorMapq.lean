/- Maps with texts as keys: of pointers to blocks, and of truths. General: no function of the program. -/
import Derived.Test.YtdobblddnfalcaaDoorOff
import Derived.Maps.OwnSet
import Derived.Maps.OwnOps
namespace Go.Proofs.YtdobblddnfalcaaDoor.mapq
open Go.RowKit Go.Maps Go.WideMaps Go.Proofs.YtdobblddnfalcaaDoorW.PrintWords Go.Proofs.YtdobblddnfalcaaDoor.off
set_option linter.unusedVariables false
set_option linter.unusedSimpArgs false
def kl (s : ByteArray) : Lit := .string s.data.toList
theorem kl_inj {s t : ByteArray} (h : kl s = kl t) : s = t := by
  unfold kl at h
  injection h with h
  cases s; cases t
  simpa using h
theorem kl_key (s : ByteArray) : WideAt.IsKeyLit (kl s) := trivial
/-- How a pointer to a block reads. -/
def blkD : Option Nat → DataW Unit
  | some b => .lit (.int .i64 (b : Int))
  | none => .lit (.int .i64 (-1))
def RP : Value → Option (DataW Unit × List MemPlace)
  | .pointer (some ⟨b, 0, none⟩) => some (blkD (some b), [])
  | .pointer none => some (blkD none, [])
  | _ => none
def ptrV : Option Nat → Value
  | some b => .pointer (some ⟨b, 0, none⟩)
  | none => .pointer none
theorem RP_mk (o : Option Nat) : RP (ptrV o) = some (blkD o, []) := by cases o <;> rfl
theorem blkD_inj {a b : Option Nat} (h : blkD a = blkD b) : a = b := by
  cases a with
  | none =>
    cases b with
    | none => rfl
    | some b => unfold blkD at h; injection h with h; injection h with h1 h2; omega
  | some a =>
    cases b with
    | none => unfold blkD at h; injection h with h; injection h with h1 h2; omega
    | some b =>
      unfold blkD at h; injection h with h; injection h with h1 h2
      rw [show a = b by omega]
theorem RP_inv {v : Value} {o : Option Nat} {ps : List MemPlace} (h : RP v = some (blkD o, ps)) : v = ptrV o := by
  unfold RP at h
  split at h
  · injection h with h; injection h with h1 h2
    rw [← blkD_inj h1]; rfl
  · injection h with h; injection h with h1 h2
    rw [← blkD_inj h1]; rfl
  · cases h
/-- A map of pointers, told by a function. -/
def MapP (P : Program) (K : TypeId) (w : World) (gm n : Nat) (f : ByteArray → Option Nat) : Prop :=
  ∃ D : DataW Unit, w.ownsMap P K RP gm n D ∧ IsMap D ∧ ∀ s : ByteArray, has D (kl s) = (f s).isSome ∧ D.atKey (kl s) (blkD none) = blkD (f s)
section
variable {P : Program} {K T E : TypeId} {w w' : World} {gm n : Nat} {f : ByteArray → Option Nat}
theorem MapP.lt (h : MapP P K w gm n f) : gm < w.heap.size := by obtain ⟨D, h, _⟩ := h; exact h.lt
theorem MapP.keep (h : MapP P K w gm n f) (hb : w'.heap[gm]? = w.heap[gm]?) : MapP P K w' gm n f := by
  obtain ⟨D, ⟨es, clock, h1, F, h2, h3⟩, h4⟩ := h
  exact ⟨D, ⟨es, clock, hb.trans h1, F, h2, h3⟩, h4⟩
theorem MapP.off {S : Nat → Prop} (h : MapP P K w gm n f) (ho : Off S w w') (hS : ¬ S gm) : MapP P K w' gm n f := h.keep (ho.block gm h.lt hS)
theorem MapP.below {base : Nat} (h : MapP P K w gm n f) (hb : Below base w w') (hg : gm < base) : MapP P K w' gm n f := h.keep (hb.block gm hg)
theorem MapP.new (P : Program) (K : TypeId) (w : World) : MapP P K (w.alloc (.map #[] 0)) w.heap.size 0 (fun _ => none) :=
  ⟨.map [], World.ownsMap_made w P K RP, isMap_empty, fun s => ⟨rfl, rfl⟩⟩
theorem MapP.look (h : MapP P K w gm n f) (hK : P.underlying K = some .string) (ht : P.underlying T = some (.map K E)) (hz : (zeroValue E).run P w = .ok (.pointer none) w) (s : ByteArray) (hs : s.size ≤ maxLen) :
    (Instr.lookup T (.map (some gm)) (.string s) true).run P w = .ok (.tuple #[ptrV (f s), .bool (f s).isSome]) w := by
  obtain ⟨D, ho, _, hf⟩ := h
  obtain ⟨v, ps, hr, hv⟩ := ho.look_ok (string_keyed hK) ht hz (RP_mk none) (keyOf_string_mk hK hs)
  rw [show (Lit.string s.data.toList) = kl s from rfl, (hf s).1] at hr
  rw [show (Lit.string s.data.toList) = kl s from rfl, (hf s).2] at hv
  rw [hr, RP_inv hv]
theorem MapP.look1 (h : MapP P K w gm n f) (hK : P.underlying K = some .string) (ht : P.underlying T = some (.map K E)) (hz : (zeroValue E).run P w = .ok (.pointer none) w) (s : ByteArray) (hs : s.size ≤ maxLen) :
    (Instr.lookup T (.map (some gm)) (.string s) false).run P w = .ok (ptrV (f s)) w := by
  obtain ⟨D, ho, _, hf⟩ := h
  obtain ⟨v, ps, hr, hv⟩ := ho.lookup (string_keyed hK) ht hz (RP_mk none) (keyOf_string_mk hK hs)
  rw [show (Lit.string s.data.toList) = kl s from rfl, (hf s).2] at hv
  rw [hr, RP_inv hv]
def upd (f : ByteArray → Option Nat) (s : ByteArray) (b : Nat) : ByteArray → Option Nat := fun t => if t = s then some b else f t
theorem MapP.store (h : MapP P K w gm n f) (hK : P.underlying K = some .string) (ht : P.underlying T = some (.map K E)) (hn : n < maxLen) (s : ByteArray) (hs : s.size ≤ maxLen) (b : Nat) :
    ∃ w', (Instr.mapUpdate T (.map (some gm)) (.string s) (ptrV (some b))).run P w = .ok () w' ∧ MapP P K w' gm (n + 1) (upd f s b) ∧ Off (In [gm]) w w' := by
  obtain ⟨D, ho, hD, hf⟩ := h
  obtain ⟨w', hr, h1, h2⟩ := ho.update (string_keyed hK) ht hn (keyOf_string_mk hK hs) (RP_mk (some b))
  refine ⟨w', hr, ⟨_, h1, hD.put _ _, fun t => ?_⟩, Off.of_grown h2 (fun k hk => by cases hk; simp [In])⟩
  by_cases e : t = s
  · subst e
    unfold upd
    rw [if_pos rfl]
    exact ⟨has_put_same hD (kl_key t) _, atKey_put_same hD (kl_key t) _ _⟩
  · unfold upd
    rw [if_neg e]
    have hne : kl t ≠ Lit.string s.data.toList := fun h => e (kl_inj h)
    exact ⟨(has_put_other hne _).trans (hf t).1, (atKey_put_other hne _ _).trans (hf t).2⟩
end
/-- A map of truths: the keys that are true. -/
def MapB (P : Program) (K E : TypeId) (w : World) (gm n : Nat) (L : List (List UInt8)) : Prop :=
  ∃ D : DataW Unit, w.ownsMap P K (plainElem P E) gm n D ∧ IsMap D ∧ ∀ s : ByteArray, D.atKey (kl s) (.lit (.bool false)) = .lit (.bool (decide (s.data.toList ∈ L)))
section
variable {P : Program} {K T E : TypeId} {w w' : World} {gm n : Nat} {L : List (List UInt8)}
theorem MapB.new (P : Program) (K E : TypeId) (w : World) : MapB P K E (w.alloc (.map #[] 0)) w.heap.size 0 [] :=
  ⟨.map [], World.ownsMap_made w P K _, isMap_empty, fun s => rfl⟩
theorem plainElem_bool_inv (he : P.underlying E = some .bool) {v : Value} {b : Bool} {ps : List MemPlace} (h : plainElem (H := Unit) P E v = some (.lit (.bool b), ps)) : v = .bool b := by
  unfold plainElem at h
  rw [he] at h
  cases v <;> simp at h
  rw [h.1]
theorem MapB.look (h : MapB P K E w gm n L) (hK : P.underlying K = some .string) (hE : P.underlying E = some .bool) (ht : P.underlying T = some (.map K E)) (hz : (zeroValue E).run P w = .ok (.bool false) w) (s : ByteArray) (hs : s.size ≤ maxLen) :
    (Instr.lookup T (.map (some gm)) (.string s) false).run P w = .ok (.bool (decide (s.data.toList ∈ L))) w := by
  obtain ⟨D, ho, _, hf⟩ := h
  obtain ⟨v, ps, hr, hv⟩ := ho.lookup (string_keyed hK) ht hz (plainElem_bool hE false) (keyOf_string_mk hK hs)
  rw [show (Lit.string s.data.toList) = kl s from rfl, hf s] at hv
  rw [hr, plainElem_bool_inv hE hv]
theorem MapB.store (h : MapB P K E w gm n L) (hK : P.underlying K = some .string) (hE : P.underlying E = some .bool) (ht : P.underlying T = some (.map K E)) (hn : n < maxLen) (s : ByteArray) (hs : s.size ≤ maxLen) :
    ∃ w', (Instr.mapUpdate T (.map (some gm)) (.string s) (.bool true)).run P w = .ok () w' ∧ MapB P K E w' gm (n + 1) (s.data.toList :: L) ∧ Off (In [gm]) w w' := by
  obtain ⟨D, ho, hD, hf⟩ := h
  obtain ⟨w', hr, h1, h2⟩ := ho.update (string_keyed hK) ht hn (keyOf_string_mk hK hs) (plainElem_bool hE true)
  refine ⟨w', hr, ⟨_, h1, hD.put _ _, fun t => ?_⟩, Off.of_grown h2 (fun k hk => by cases hk; simp [In])⟩
  by_cases e : t = s
  · subst e
    rw [show decide (t.data.toList ∈ t.data.toList :: L) = true from decide_eq_true List.mem_cons_self]
    exact atKey_put_same hD (kl_key t) _ _
  · have hne : kl t ≠ Lit.string s.data.toList := fun h => e (kl_inj h)
    have hn2 : t.data.toList ≠ s.data.toList := fun h => hne (congrArg Lit.string h)
    rw [show decide (t.data.toList ∈ s.data.toList :: L) = decide (t.data.toList ∈ L) from decide_eq_decide.2 (by simp only [List.mem_cons, hn2, false_or])]
    exact (atKey_put_other hne _ _).trans (hf t)
end
/-- A store into a map, at the operation, whose run is known. -/
theorem wpList_mapUpdate_run {P : Program} {w : World} {ops : Array Oper} {rest : List Oper} {o : Oper} {a : Act} {Q : Exit → Act → World → Prop}
    (hg : o.guard = none) (m x v : Operand) (t : TypeId) (hop : o.op = Op.mapUpdate t m x v) (mv key val : Value) (hm : a.eval m = mv) (hx : a.eval x = key) (hv : a.eval v = val) {w' : World}
    (hrun : (Instr.mapUpdate t mv key val).run P w = .ok () w') (h : wpList P ops Q rest (a.put o.dst undef) w') : wpList P ops Q (o :: rest) a w := by
  refine wpList_plain hg fun K' hK' => ?_
  unfold Oper.wp
  simp [execOp, hop, hm, hx, hv, hrun, Result.andThen]
  exact hK' _ _ h
end Go.Proofs.YtdobblddnfalcaaDoor.mapq
