/- Capabilities: what the specification's words say of them, plain. -/
import Derived.Test.YtdobblddnfalcaaDoorCapH
import Derived.Test.YtdobblddnfalcaaDoorPFnCapsWrittenx1
namespace Go.Proofs.YtdobblddnfalcaaDoor.cap
open Go.RowKit Go.Proofs.YtdobblddnfalcaaDoorW.PrintWords Go.Proofs.YtdobblddnfalcaaDoorW.PrintLast Go.Proofs.YtdobblddnfalcaaDoorW.PrintMore Go.Proofs.YtdobblddnfalcaaDoor.PFnCapsWritten
set_option linter.unusedVariables false
set_option linter.unusedSimpArgs false
set_option maxHeartbeats 2000000
set_option maxRecDepth 100000
/-- With enough steps something is said, and if it is yes, Q holds. -/
def Says (f : Nat → Option Bool) (Q : Prop) : Prop := ∃ F b, (∀ k, F ≤ k → f k = some b) ∧ (b = true → Q)
theorem Says.const {Q : Prop} (b : Bool) (h : b = true → Q) : Says (fun _ => some b) Q := ⟨0, b, fun _ _ => rfl, h⟩
theorem Says.no {Q : Prop} : Says (fun _ => some false) Q := Says.const false (fun h => by cases h)
theorem Says.step {f g : Nat → Option Bool} {Q : Prop} (h : Says f Q) (e : ∀ k, g (k + 1) = f k) : Says g Q := by
  obtain ⟨F, b, h1, h2⟩ := h
  refine ⟨F + 1, b, fun k hk => ?_, h2⟩
  obtain ⟨k, rfl⟩ : ∃ m, k = m + 1 := ⟨k - 1, by omega⟩
  rw [e k, h1 k (by omega)]
theorem Says.ite {f g : Nat → Option Bool} {Q c : Prop} [Decidable c] (h1 : c → Says f Q) (h2 : ¬ c → Says g Q) : Says (fun k => if c then f k else g k) Q := by
  by_cases h : c
  · obtain ⟨F, b, h3, h4⟩ := h1 h
    exact ⟨F, b, fun k hk => by show (if c then f k else g k) = _; rw [if_pos h]; exact h3 k hk, h4⟩
  · obtain ⟨F, b, h3, h4⟩ := h2 h
    exact ⟨F, b, fun k hk => by show (if c then f k else g k) = _; rw [if_neg h]; exact h3 k hk, h4⟩
theorem Says.bind {f g : Nat → Option Bool} {P Q : Prop} (h1 : Says f P) (h2 : P → Says g Q) : Says (fun k => (f k).bind fun t => if t = true then g k else some false) Q := by
  obtain ⟨F, b, h3, h4⟩ := h1
  cases b with
  | false => exact ⟨F, false, (fun k hk => by show ((f k).bind fun t => if t = true then g k else some false) = _; rw [h3 k hk]; rfl), fun h => by cases h⟩
  | true =>
    obtain ⟨F2, b2, h5, h6⟩ := h2 (h4 rfl)
    exact ⟨F + F2, b2, (fun k hk => by show ((f k).bind fun t => if t = true then g k else some false) = _; rw [h3 k (by omega)]; exact h5 k (by omega)), h6⟩
theorem Says.mono {f : Nat → Option Bool} {P Q : Prop} (h : Says f P) (k : P → Q) : Says f Q := by
  obtain ⟨F, b, h1, h2⟩ := h
  exact ⟨F, b, h1, fun e => k (h2 e)⟩
def okB (c : Int) : Prop := 45 ≤ c ∧ c ≤ 122 ∧ c ≠ 61
structure WordOk (s : ByteArray) : Prop where
  pos : 1 ≤ s.size
  most : s.size ≤ 60
  ok : ∀ i : Nat, i < s.size → okB (bt s (i : Int))
theorem word_l0 (s : ByteArray) (hs : s.size ≤ 2147483647) : ∀ (d i : Nat), i + d = s.size → (∀ j : Nat, j < i → okB (bt s (j : Int))) → Says (fun k => spec_IsWord.l0 k s (s.size : Int) (i : Int)) (WordOk s) := by
  intro d
  induction d with
  | zero =>
    intro i hi hq
    refine Says.step (f := fun _ => if (s.size : Int) ≥ 1 then some (decide ((s.size : Int) ≤ 60)) else some false) ?_ (fun k => by rw [spec_IsWord.l0, if_neg (by omega)])
    refine Says.ite (fun h1 => Says.const _ (fun h2 => ?_)) (fun _ => Says.no)
    have h3 := of_decide_eq_true h2
    exact ⟨by omega, by omega, fun j hj => hq j (by omega)⟩
  | succ d ih =>
    intro i hi hq
    have IH : okB (bt s (i : Int)) → Says (fun k => spec_IsWord.l0 k s (s.size : Int) (wrap64 ((i : Int) + 1))) (WordOk s) := fun h => by
      rw [show wrap64 ((i : Int) + 1) = ((i + 1 : Nat) : Int) by unfold wrap64; omega]
      refine ih (i + 1) (by omega) (fun j hj => ?_)
      by_cases e : j = i
      · subst e; exact h
      · exact hq j (by omega)
    refine Says.step ?_ (fun k => by rw [spec_IsWord.l0, if_pos (by omega), if_pos (by omega), if_pos (by omega)])
    generalize bt s (i : Int) = c at IH
    repeat (first | exact Says.no | exact IH (by unfold okB; omega) | refine Says.ite (fun _ => ?_) (fun _ => ?_))
theorem word_says (s : ByteArray) (hs : s.size ≤ 2147483647) : Says (fun k => spec_IsWord.f k s) (WordOk s) := word_l0 s hs s.size 0 (by omega) (fun j hj => by omega)
def agentN : List UInt8 := [97, 103, 101, 110, 116]
def symrefN : List UInt8 := [115, 121, 109, 114, 101, 102]
def plainL : List (List UInt8) := [[109, 117, 108, 116, 105, 95, 97, 99, 107], [109, 117, 108, 116, 105, 95, 97, 99, 107, 95, 100, 101, 116, 97, 105, 108, 101, 100], [110, 111, 45, 100, 111, 110, 101], [116, 104, 105, 110, 45, 112, 97, 99, 107], [115, 105, 100, 101, 45, 98, 97, 110, 100], [115, 105, 100, 101, 45, 98, 97, 110, 100, 45, 54, 52, 107], [111, 102, 115, 45, 100, 101, 108, 116, 97], [115, 104, 97, 108, 108, 111, 119], [110, 111, 45, 112, 114, 111, 103, 114, 101, 115, 115], [105, 110, 99, 108, 117, 100, 101, 45, 116, 97, 103], [114, 101, 112, 111, 114, 116, 45, 115, 116, 97, 116, 117, 115], [100, 101, 108, 101, 116, 101, 45, 114, 101, 102, 115], [113, 117, 105, 101, 116], [97, 116, 111, 109, 105, 99], [97, 108, 108, 111, 119, 45, 116, 105, 112, 45, 115, 104, 97, 49, 45, 105, 110, 45, 119, 97, 110, 116], [97, 108, 108, 111, 119, 45, 114, 101, 97, 99, 104, 97, 98, 108, 101, 45, 115, 104, 97, 49, 45, 105, 110, 45, 119, 97, 110, 116]]
/-- A good capability. -/
structure Good (n : ByteArray) (vs : List ByteArray) : Prop where
  words : ∀ v ∈ vs, WordOk v
  kind : (n.data.toList = agentN ∧ vs.length = 1) ∨ (n.data.toList = symrefN ∧ 1 ≤ vs.length ∧ vs.length ≤ 60) ∨ (n.data.toList ∈ plainL ∧ vs.length = 0)
theorem rdOf_list (l : List ByteArray) (j : Nat) (hj : j < l.length) : rdOf ByteArray.empty l (j : Int) = l[j] := by
  unfold rdOf
  rw [Int.toNat_natCast, List.getD_eq_getElem?_getD, List.getElem?_eq_getElem hj]
  rfl
theorem plain_l1 (P : List ByteArray) (n : ByteArray) (vs : List ByteArray) (hP : P.length ≤ 1000) (hv : ∀ v ∈ vs, WordOk v) (hin : ∀ p ∈ P, p.data.toList ∈ plainL) : ∀ (d i : Nat), i + d = P.length → Says (fun k => spec_goodCap.l1 k P (P.length : Int) (i : Int) n vs) (Good n vs) := by
  intro d
  induction d with
  | zero =>
    intro i hi
    exact Says.step Says.no (fun k => by rw [spec_goodCap.l1, if_neg (by omega)])
  | succ d ih =>
    intro i hi
    have hlt : i < P.length := by omega
    refine Says.step (f := fun k => if n.toList = P[i].toList then some ((vs.length : Int) == 0) else spec_goodCap.l1 k P (P.length : Int) ((i + 1 : Nat) : Int) n vs) ?_ (fun k => by
      rw [spec_goodCap.l1, if_pos (by omega), if_pos (by omega), if_pos (by omega), rdOf_list P i hlt, show wrap64 ((i : Int) + 1) = ((i + 1 : Nat) : Int) by unfold wrap64; omega])
    refine Says.ite (fun h => Says.const _ (fun h2 => ⟨hv, .inr (.inr ⟨?_, ?_⟩)⟩)) (fun _ => ih (i + 1) (by omega))
    · rw [ByteArray.toList_eq, ByteArray.toList_eq] at h
      rw [h]
      exact hin _ (List.getElem_mem hlt)
    · have := beq_iff_eq.1 h2
      omega
theorem good_l0 (n : ByteArray) (vs : List ByteArray) (hl : vs.length ≤ 2147483647) (hs : ∀ v ∈ vs, v.size ≤ 2147483647) : ∀ (d i : Nat), i + d = vs.length → (∀ j (h : j < vs.length), j < i → WordOk vs[j]) → Says (fun k => spec_goodCap.l0 k vs (vs.length : Int) (i : Int) n vs) (Good n vs) := by
  intro d
  induction d with
  | zero =>
    intro i hi hq
    have hv : ∀ v ∈ vs, WordOk v := fun v hv => by
      obtain ⟨j, hj, rfl⟩ := List.getElem_of_mem hv
      exact hq j hj (by omega)
    refine Says.step ?_ (fun k => by rw [spec_goodCap.l0, if_neg (by omega)])
    refine Says.ite (fun h => Says.const _ (fun h2 => ⟨hv, .inl ⟨by rw [← ByteArray.toList_eq]; exact h, ?_⟩⟩)) (fun _ => ?_)
    · have := beq_iff_eq.1 h2
      omega
    refine Says.ite (fun h => Says.ite (fun h1 => Says.const _ (fun h2 => ⟨hv, .inr (.inl ⟨by rw [← ByteArray.toList_eq]; exact h, by omega, by have := of_decide_eq_true h2; omega⟩)⟩)) (fun _ => Says.no)) (fun _ => ?_)
    obtain ⟨P, hP, hPl, hPin⟩ : ∃ P, spec_plainCaps.f = some P ∧ P.length ≤ 1000 ∧ ∀ p ∈ P, p.data.toList ∈ plainL := ⟨_, rfl, by decide, by
      intro p hp
      have : p.data.toList ∈ List.map (fun q : ByteArray => q.data.toList) _ := List.mem_map.2 ⟨p, hp, rfl⟩
      exact this⟩
    rw [hP]
    exact plain_l1 P n vs hPl hv hPin P.length 0 (by omega)
  | succ d ih =>
    intro i hi hq
    have hlt : i < vs.length := by omega
    refine Says.step ?_ (fun k => by rw [spec_goodCap.l0, if_pos (by omega), if_pos (by omega), if_pos (by omega), rdOf_list vs i hlt, show wrap64 ((i : Int) + 1) = ((i + 1 : Nat) : Int) by unfold wrap64; omega])
    refine Says.bind (word_says vs[i] (hs _ (List.getElem_mem hlt))) (fun h => ih (i + 1) (by omega) (fun j hj hji => ?_))
    by_cases e : j = i
    · subst e; exact h
    · exact hq j hj (by omega)
theorem good_says (n : ByteArray) (vs : List ByteArray) (hl : vs.length ≤ 2147483647) (hs : ∀ v ∈ vs, v.size ≤ 2147483647) : Says (fun k => spec_goodCap.f k n vs) (Good n vs) := good_l0 n vs hl hs vs.length 0 (by omega) (fun j hj h => by omega)
structure Small (x : S30) : Prop where
  name : x.f0.size ≤ 2147483647
  most : x.f1.length ≤ 2147483647
  vals : ∀ v ∈ x.f1, v.size ≤ 2147483647
/-- Good capabilities, no two of one name. -/
structure Goods (l : List S30) : Prop where
  good : ∀ x ∈ l, Good x.f0 x.f1
  nd : (l.map (·.f0)).Nodup
  most : l.length ≤ 60
theorem nodup_snoc {l : List S30} {i : Nat} (hi : i < l.length) (h : ((l.take i).map (·.f0)).Nodup) (hn : ∀ j (hj : j < i), (l[j]'(by omega)).f0 ≠ l[i].f0) : ((l.take (i + 1)).map (·.f0)).Nodup := by
  rw [List.take_succ_eq_append_getElem hi, List.map_append]
  refine List.nodup_append.2 ⟨h, List.nodup_cons.2 ⟨List.not_mem_nil, List.nodup_nil⟩, fun a ha b hb e => ?_⟩
  rw [List.map_singleton, List.mem_singleton] at hb
  obtain ⟨x, hx, rfl⟩ := List.mem_map.1 ha
  obtain ⟨j, hj, rfl⟩ := List.getElem_of_mem hx
  rw [List.length_take] at hj
  rw [List.getElem_take] at e
  exact hn j (by omega) (e.trans hb)
theorem goods_l1 (l : List S30) (hl : l.length ≤ 2147483647) (i : Nat) (hi : i < l.length) (IH : (∀ j (hj : j < i), (l[j]'(by omega)).f0 ≠ l[i].f0) → Says (fun k => spec_GoodCaps.l0 k l l (l.length : Int) (wrap64 ((i : Int) + 1))) (Goods l)) :
    ∀ (d j : Nat), j + d = i → (∀ q (hq : q < j) (hi' : q < i), (l[q]'(by omega)).f0 ≠ l[i].f0) → Says (fun k => spec_GoodCaps.l1 k l l (l.length : Int) (i : Int) (l.take i) ((l.take i).length : Int) (j : Int) l[i].f0 l[i].f1) (Goods l) := by
  have hlen : (l.take i).length = i := by rw [List.length_take]; omega
  rw [hlen]
  intro d
  induction d with
  | zero =>
    intro j hj hq
    refine Says.step (IH (fun q hq' => hq q (by omega) hq')) (fun k => by rw [spec_GoodCaps.l1, if_neg (by omega)])
  | succ d ih =>
    intro j hj hq
    have hlt : j < (l.take i).length := by omega
    refine Says.step (f := fun k => if (l[j]'(by omega)).f0.toList = l[i].f0.toList then some false else spec_GoodCaps.l1 k l l (l.length : Int) (i : Int) (l.take i) (i : Int) ((j + 1 : Nat) : Int) l[i].f0 l[i].f1) ?_ (fun k => by
      rw [spec_GoodCaps.l1, if_pos (by omega), if_pos (by omega), if_pos (by omega), rd_list (l.take i) j hlt, List.getElem_take, show wrap64 ((j : Int) + 1) = ((j + 1 : Nat) : Int) by unfold wrap64; omega])
    refine Says.ite (fun _ => Says.no) (fun h => ih (j + 1) (by omega) (fun q hq1 hq2 => ?_))
    by_cases e : q = j
    · subst e
      intro e2
      exact h (by rw [e2])
    · exact hq q (by omega) hq2
theorem goods_l0 (l : List S30) (hl : l.length ≤ 2147483647) (hs : ∀ x ∈ l, Small x) : ∀ (d i : Nat), i + d = l.length → (∀ j (hj : j < l.length), j < i → Good l[j].f0 l[j].f1) → ((l.take i).map (·.f0)).Nodup → Says (fun k => spec_GoodCaps.l0 k l l (l.length : Int) (i : Int)) (Goods l) := by
  intro d
  induction d with
  | zero =>
    intro i hi hq hn
    refine Says.step (Says.const (decide ((l.length : Int) ≤ 60)) (fun h => ⟨fun x hx => ?_, ?_, by have := of_decide_eq_true h; omega⟩)) (fun k => by rw [spec_GoodCaps.l0, if_neg (by omega)])
    · obtain ⟨j, hj, rfl⟩ := List.getElem_of_mem hx
      exact hq j hj (by omega)
    · rwa [List.take_of_length_le (by omega)] at hn
  | succ d ih =>
    intro i hi hq hn
    have hlt : i < l.length := by omega
    have hsm := hs _ (List.getElem_mem hlt)
    refine Says.step (f := fun k => (spec_goodCap.f k l[i].f0 l[i].f1).bind fun t => if t = true then spec_GoodCaps.l1 k l l (l.length : Int) (i : Int) (l.take i) ((l.take i).length : Int) 0 l[i].f0 l[i].f1 else some false) ?_ (fun k => by
      rw [spec_GoodCaps.l0, if_pos (by omega), if_pos (by omega), if_pos (by omega), rd_list l i hlt]
      simp only [Option.bind_some, Int.toNat_natCast, if_pos (show (i : Int) ≤ (l.length : Int) by omega)])
    refine Says.bind (good_says _ _ hsm.most hsm.vals) (fun hg => ?_)
    refine goods_l1 l hl i hlt (fun hne => ?_) i 0 (by omega) (fun q hq => by omega)
    rw [show wrap64 ((i : Int) + 1) = ((i + 1 : Nat) : Int) by unfold wrap64; omega]
    refine ih (i + 1) (by omega) (fun j hj hji => ?_) (nodup_snoc hlt hn hne)
    by_cases e : j = i
    · subst e; exact hg
    · exact hq j hj (by omega)
theorem goods_says (l : List S30) (hl : l.length ≤ 2147483647) (hs : ∀ x ∈ l, Small x) : Says (fun k => spec_GoodCaps.f k l) (Goods l) := goods_l0 l hl hs l.length 0 (by omega) (fun j hj h => by omega) List.nodup_nil
theorem fits16_l0 (l : List ByteArray) (hl : l.length ≤ 2147483647) : ∀ (d i : Nat), i + d = l.length → (∀ j (hj : j < l.length), j < i → l[j].size ≤ 2147483647) → Says (fun k => laws_zzFits16.l0 k l (l.length : Int) (i : Int)) (∀ v ∈ l, v.size ≤ 2147483647) := by
  intro d
  induction d with
  | zero =>
    intro i hi hq
    refine Says.step (Says.const true (fun _ v hv => ?_)) (fun k => by rw [laws_zzFits16.l0, if_neg (by omega)])
    obtain ⟨j, hj, rfl⟩ := List.getElem_of_mem hv
    exact hq j hj (by omega)
  | succ d ih =>
    intro i hi hq
    have hlt : i < l.length := by omega
    refine Says.step (f := fun k => if (l[i].size : Int) > 2147483647 then some false else laws_zzFits16.l0 k l (l.length : Int) ((i + 1 : Nat) : Int)) ?_ (fun k => by
      rw [laws_zzFits16.l0, if_pos (by omega), if_pos (by omega), if_pos (by omega), rdOf_list l i hlt, show wrap64 ((i : Int) + 1) = ((i + 1 : Nat) : Int) by unfold wrap64; omega])
    refine Says.ite (fun _ => Says.no) (fun h => ih (i + 1) (by omega) (fun j hj hji => ?_))
    by_cases e : j = i
    · subst e; omega
    · exact hq j hj (by omega)
theorem fits30_says (n : ByteArray) (vs : List ByteArray) : Says (fun k => laws_zzFits30.f k n vs) (Small ⟨n, vs⟩) := by
  unfold laws_zzFits30.f laws_zzFits16.f
  refine Says.ite (fun _ => Says.no) (fun h1 => ?_)
  refine Says.bind (P := vs.length ≤ 2147483647 ∧ ∀ v ∈ vs, v.size ≤ 2147483647) ?_ (fun h => Says.const true (fun _ => ⟨by simp only; omega, h.1, h.2⟩))
  refine Says.ite (fun _ => Says.no) (fun h2 => ?_)
  exact (fits16_l0 vs (by omega) vs.length 0 (by omega) (fun j hj h => by omega)).mono (fun h => ⟨by omega, h⟩)
theorem fits29_l0 (l : List S30) (hl : l.length ≤ 2147483647) : ∀ (d i : Nat), i + d = l.length → (∀ j (hj : j < l.length), j < i → Small l[j]) → Says (fun k => laws_zzFits29.l0 k l (l.length : Int) (i : Int)) (∀ x ∈ l, Small x) := by
  intro d
  induction d with
  | zero =>
    intro i hi hq
    refine Says.step (Says.const true (fun _ v hv => ?_)) (fun k => by rw [laws_zzFits29.l0, if_neg (by omega)])
    obtain ⟨j, hj, rfl⟩ := List.getElem_of_mem hv
    exact hq j hj (by omega)
  | succ d ih =>
    intro i hi hq
    have hlt : i < l.length := by omega
    refine Says.step ?_ (fun k => by rw [laws_zzFits29.l0, if_pos (by omega), if_pos (by omega), if_pos (by omega), rd_list l i hlt, show wrap64 ((i : Int) + 1) = ((i + 1 : Nat) : Int) by unfold wrap64; omega])
    refine Says.bind (fits30_says _ _) (fun h => ih (i + 1) (by omega) (fun j hj hji => ?_))
    by_cases e : j = i
    · subst e; exact h
    · exact hq j hj (by omega)
theorem fits_says (l : List S30) : Says (fun k => laws_zzFits29.f k l) (l.length ≤ 2147483647 ∧ ∀ x ∈ l, Small x) := by
  unfold laws_zzFits29.f
  refine Says.ite (fun _ => Says.no) (fun h => ?_)
  exact (fits29_l0 l (by omega) l.length 0 (by omega) (fun j hj h => by omega)).mono (fun h2 => ⟨by omega, h2⟩)
theorem plain_ok : ∀ x ∈ plainL, decide (x ∈ knownL) = true ∧ decide (x ∈ requiresL) = false ∧ x.length ≤ 1000 ∧ 0 < x.length := by decide
theorem Good.args {n : ByteArray} {vs : List ByteArray} (h : Good n vs) : ArgsOk n vs := by
  have hw : ∀ s ∈ vs, s.size ≠ 0 := fun s hs => by have := (h.words s hs).pos; omega
  have hsz : n.size = n.data.toList.length := rfl
  rcases h.kind with ⟨e, h1⟩ | ⟨e, h1, h2⟩ | ⟨e, h1⟩
  · exact ⟨by rw [hsz, e]; decide, by rw [e]; decide, (fun _ e2 => by rw [e2] at h1; cases h1), (fun h3 => by rw [e] at h3; cases h3), (fun _ => by omega), hw, by omega⟩
  · exact ⟨by rw [hsz, e]; decide, by rw [e]; decide, (fun _ e2 => by rw [e2] at h1; simp at h1), (fun h3 => by rw [e] at h3; cases h3), (fun h3 => by rw [e] at h3; cases h3), hw, by omega⟩
  · obtain ⟨k1, k2, k3, k4⟩ := plain_ok _ e
    exact ⟨by rw [hsz]; exact k3, k1, (fun h3 => by rw [k2] at h3; cases h3), (fun _ => List.eq_nil_of_length_eq_zero h1), (fun _ => by omega), hw, by omega⟩
theorem Good.pos {n : ByteArray} {vs : List ByteArray} (h : Good n vs) : 0 < n.size := by
  have hsz : n.size = n.data.toList.length := rfl
  rcases h.kind with ⟨e, h1⟩ | ⟨e, h1, h2⟩ | ⟨e, h1⟩
  · rw [hsz, e]; decide
  · rw [hsz, e]; decide
  · obtain ⟨k1, k2, k3, k4⟩ := plain_ok _ e
    rw [hsz]; exact k4
theorem Goods.caps {l : List S30} (h : Goods l) : ∀ x ∈ l, CapOk x := fun x hx =>
  have ha := (h.good x hx).args
  ⟨ha.size, fun s hs => by have := ((h.good x hx).words s hs).most; omega, ha.most⟩
theorem Goods.full {l : List S30} (h : Goods l) : ∀ s ∈ itemsP l, 0 < s.size := by
  intro s hs
  obtain ⟨x, hx, hs⟩ := List.mem_flatMap.1 hs
  have hp := (h.good x hx).pos
  unfold items at hs
  split at hs
  · rw [List.mem_singleton.1 hs]; exact hp
  · obtain ⟨v, hv', rfl⟩ := List.mem_map.1 hs
    rw [ByteArray.size_append, ByteArray.size_append]
    omega
end Go.Proofs.YtdobblddnfalcaaDoor.cap
