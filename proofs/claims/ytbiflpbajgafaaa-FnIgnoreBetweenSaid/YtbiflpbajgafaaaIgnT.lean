/- Plain: the code's way through names is spec's; what the laws' patterns are made of. -/
import Derived.Test.YtbiflpbajgafaaaIgnS
import Derived.Test.YtbiflpbajgafaaaIgnI
namespace Go.Proofs.Ytbiflpbajgafaaa.ign
open Go.RowKit Go.Proofs.YtbiflpbajgafaaaW.PrintWords Go.Proofs.YtbiflpbajgafaaaW.PrintLast Go.Proofs.YtbiflpbajgafaaaW.PrintMore Go.Proofs.Ytbiflpbajgafaaa.PFnIgnoreRoot
set_option linter.unusedVariables false
set_option linter.unusedSimpArgs false
set_option maxHeartbeats 2000000
set_option maxRecDepth 100000
theorem okI_plain {x : UInt8} (h : okI (x.toNat : Int) = true) : Plain x ∧ x ≠ 47 ∧ x ≠ 33 ∧ x ≠ 32 := by
  rw [okI, decide_eq_true_iff] at h
  refine ⟨⟨?_, ?_, ?_, by omega⟩, ?_, ?_, ?_⟩ <;> (rintro rfl; revert h; decide)
theorem GlobOK.gl {p : ByteArray} (h : GlobOK p) : Gl p := ⟨by have := h.size; omega, fun x hx => (okI_plain (h.chars x hx)).1, h.nodbl, h.ne⟩
theorem PathOK.nm {l : List ByteArray} (h : PathOK l) : ∀ n ∈ l, Nm n := fun n hn => ⟨by have := (h.all n hn).size; omega, fun x hx => ⟨(okI_plain ((h.all n hn).chars x hx)).1.2.2.2, (okI_plain ((h.all n hn).chars x hx)).2.1⟩⟩
/-- Patterns take the front of a path. -/
def zipF : List ByteArray → List ByteArray → Bool
  | [], _ => true
  | _ :: _, [] => false
  | p :: ps, n :: ns => globs p.data.toList n.data.toList && zipF ps ns
theorem zipF_len : ∀ {ps ns : List ByteArray}, zipF ps ns = true → ps.length ≤ ns.length
  | [], _, _ => Nat.zero_le _
  | _ :: _, [], h => by cases h
  | p :: ps, n :: ns, h => by
    rw [zipF, Bool.and_eq_true] at h
    have := zipF_len h.2
    simp only [List.length_cons]
    omega
theorem gmat_zip (tail dir : Bool) : ∀ (ps ns : List ByteArray) (m : Bool), (∀ p ∈ ps, Gl p) → gmat tail dir ps ns m false = (zipF ps ns && ((m || !ps.isEmpty) && !(tail && !dir && (ns.drop ps.length).isEmpty)))
  | [], ns, m, _ => by
    rw [gmat, zipF]
    simp
  | p :: ps, [], m, h => by
    rw [gmat_gl (h p (by simp)), zipF]
    rfl
  | p :: ps, n :: ns, m, h => by
    rw [gmat_gl (h p (by simp)), zipF]
    simp only [Bool.false_eq_true, if_false]
    cases hg : globs p.data.toList n.data.toList with
    | false => simp
    | true =>
      rw [if_pos rfl, gmat_zip tail dir ps ns true (fun q hq => h q (List.mem_cons_of_mem _ hq))]
      simp
/-- spec.FrontIgnored. -/
def frontB (ps : List ByteArray) (folder : Bool) (ns : List ByteArray) (dir : Bool) : Bool := zipF ps ns && (!folder || decide (ps.length < ns.length) || dir)
theorem front_gmat (ps ns : List ByteArray) (folder dir : Bool) (h : ∀ p ∈ ps, Gl p) (hne : ps ≠ []) : gmat folder dir ps ns false false = frontB ps folder ns dir := by
  rw [gmat_zip folder dir ps ns false h]
  unfold frontB
  cases hz : zipF ps ns with
  | false => rfl
  | true =>
    have hl := zipF_len hz
    have he : ps.isEmpty = false := by rw [List.isEmpty_eq_false_iff]; exact hne
    have hd : (ns.drop ps.length).isEmpty = !decide (ps.length < ns.length) := by
      by_cases hlt : ps.length < ns.length
      · rw [decide_eq_true hlt, Bool.not_true, List.isEmpty_eq_false_iff]
        intro h
        have := congrArg List.length h
        rw [List.length_drop, List.length_nil] at this
        omega
      · rw [decide_eq_false hlt, List.drop_of_length_le (by omega)]
        rfl
    rw [he, hd]
    cases folder <;> cases dir <;> cases decide (ps.length < ns.length) <;> rfl
theorem zipF_take (ps ns : List ByteArray) : ∀ i, i < ps.length → i < ns.length → zipF (ps.drop i) (ns.drop i) = (globs (ps[i]!).data.toList (ns[i]!).data.toList && zipF (ps.drop (i + 1)) (ns.drop (i + 1))) := by
  intro i h1 h2
  rw [List.drop_eq_getElem_cons h1, List.drop_eq_getElem_cons h2, zipF, getElem!_pos ps i h1, getElem!_pos ns i h2]
theorem front_l0 (ps ns : List ByteArray) (folder dir : Bool) (hle : ps.length ≤ ns.length) (hl : ns.length ≤ 2147483647) (hs : ∀ n ∈ ns, n.size ≤ 2147483647) : ∀ (d i : Nat), i + d = ps.length →
    Ev (fun k => spec_FrontIgnored.l0 k ps folder ns dir ps (ps.length : Int) (i : Int)) (zipF (ps.drop i) (ns.drop i) && (!folder || decide (ps.length < ns.length) || dir))
  | 0, i, hi => by
    obtain rfl : i = ps.length := by omega
    refine ⟨1, fun k hk => ?_⟩
    obtain ⟨k, rfl⟩ : ∃ m, k = m + 1 := ⟨k - 1, by omega⟩
    show spec_FrontIgnored.l0 (k + 1) _ _ _ _ _ _ _ = _
    rw [spec_FrontIgnored.l0, if_neg (by omega), List.drop_length, zipF]
    cases folder with
    | false => rw [if_neg (by decide)]; rfl
    | true =>
      rw [if_pos rfl]
      by_cases hlt : ps.length < ns.length
      · rw [if_pos (by omega), decide_eq_true hlt]; rfl
      · rw [if_neg (by omega), decide_eq_false hlt]; cases dir <;> rfl
  | d + 1, i, hi => by
    have h1 : i < ps.length := by omega
    have h2 : i < ns.length := by omega
    have hp := rdOf_eq ps i h1
    have hn := rdOf_eq ns i h2
    obtain ⟨K, hK⟩ := globs_ev ps[i] ns[i] (hs _ (List.getElem_mem h2))
    replace hK : ∀ k, K ≤ k → spec_Globs.f k ps[i] ns[i] = some (globs ps[i].data.toList ns[i].data.toList) := hK
    obtain ⟨K2, hK2⟩ := front_l0 ps ns folder dir hle hl hs d (i + 1) (by omega)
    refine ⟨max K K2 + 1, fun k hk => ?_⟩
    obtain ⟨k, rfl⟩ : ∃ m, k = m + 1 := ⟨k - 1, by omega⟩
    show spec_FrontIgnored.l0 (k + 1) _ _ _ _ _ _ _ = _
    rw [spec_FrontIgnored.l0, if_pos (by omega), if_pos (by omega), if_pos (by omega), if_pos (by omega), hp, hn, hK k (by omega), Option.bind_some, zipF_take ps ns i h1 h2, getElem!_pos ps i h1, getElem!_pos ns i h2]
    cases hg : globs ps[i].data.toList ns[i].data.toList with
    | false => rw [if_neg (by decide)]; rfl
    | true =>
      rw [if_pos rfl, w64 (by omega) (by omega), Bool.true_and]
      exact hK2 k (by omega)
theorem front_ev (ps ns : List ByteArray) (folder dir : Bool) (hl : ns.length ≤ 2147483647) (hs : ∀ n ∈ ns, n.size ≤ 2147483647) : Ev (fun k => spec_FrontIgnored.f k ps folder ns dir) (frontB ps folder ns dir) := by
  by_cases h : (ps.length : Int) > (ns.length : Int)
  · refine ⟨0, fun k _ => ?_⟩
    show spec_FrontIgnored.f k _ _ _ _ = _
    unfold spec_FrontIgnored.f
    rw [if_pos h, frontB]
    cases hz : zipF ps ns with
    | false => rfl
    | true => have := zipF_len hz; omega
  · obtain ⟨K, hK⟩ := front_l0 ps ns folder dir (by omega) hl hs ps.length 0 (by omega)
    refine ⟨K, fun k hk => ?_⟩
    show spec_FrontIgnored.f k _ _ _ _ = _
    unfold spec_FrontIgnored.f
    rw [if_neg h]
    exact hK k hk
theorem joinS_mem : ∀ {l : List ByteArray} {x : UInt8}, x ∈ joinS l → x = 47 ∨ ∃ p ∈ l, x ∈ p.data.toList
  | [], x, h => by cases h
  | [a], x, h => .inr ⟨a, by simp, h⟩
  | a :: b :: r, x, h => by
    rw [joinS] at h
    rcases List.mem_append.1 h with h | h
    · exact .inr ⟨a, by simp, h⟩
    · rcases List.mem_cons.1 h with h | h
      · exact .inl h
      · rcases joinS_mem h with h | ⟨p, hp, hx⟩
        · exact .inl h
        · exact .inr ⟨p, List.mem_cons_of_mem _ hp, hx⟩
theorem joinS_fin : ∀ (l : List ByteArray), l ≠ [] → (∀ p, l.getLast? = some p → p.data.toList ≠ [] ∧ ∀ x ∈ p.data.toList, x ≠ 47) → ∃ f z, joinS l = f ++ [z] ∧ z ≠ 47
  | [], h, _ => absurd rfl h
  | [a], _, h => by
    obtain ⟨h1, h2⟩ := h a rfl
    refine ⟨a.data.toList.dropLast, a.data.toList.getLast h1, (List.dropLast_concat_getLast h1).symm, h2 _ (List.getLast_mem h1)⟩
  | a :: b :: r, _, h => by
    obtain ⟨f, z, hf, hz⟩ := joinS_fin (b :: r) (by simp) (fun p hp => h p (by rw [List.getLast?_cons_cons]; exact hp))
    exact ⟨a.data.toList ++ 47 :: f, z, by rw [joinS, hf]; simp, hz⟩
/-- A pattern out of globs. -/
theorem pat_globs {p : ByteArray} {l : List ByteArray} {tail : Bool} (hl : GlobsOK l) (hp : p.data.toList = joinS l ++ (if tail = true then [47] else [])) : Pat p l tail := by
  have hch : ∀ q ∈ l, ∀ x ∈ q.data.toList, x ≠ 47 := fun q hq x hx => (okI_plain ((hl.all q hq).chars x hx)).2.1
  have hne : l ≠ [] := List.length_pos_iff.1 hl.pos
  refine ⟨?_, hp, hch, ?_, ?_, ⟨fun q hq => .inr (.inr (hl.all q hq).gl), ?_, by have := hl.len; omega, ?_, hl.pos⟩⟩
  · have h1 := joinS_le l (fun q hq => (hl.all q hq).size)
    have h2 := hl.len
    rw [← size_list, hp, List.length_append]
    cases tail <;> simp <;> omega
  · intro x hx
    rw [hp] at hx
    rcases List.mem_append.1 hx with h | h
    · rcases joinS_mem h with rfl | ⟨q, hq, hxq⟩
      · exact ⟨by decide, by decide⟩
      · exact (okI_plain ((hl.all q hq).chars x hxq)).2.2
    · cases tail with
      | false => simp at h
      | true =>
        simp at h
        subst h
        exact ⟨by decide, by decide⟩
  · refine joinS_fin l hne (fun q hq => ?_)
    have := List.mem_of_getLast? hq
    exact ⟨(hl.all q this).ne, hch q this⟩
  · intro i hi h
    exact absurd h (fun h => (hl.all _ (List.getElem_mem hi)).gl.2.2.1 0 (by rw [h]; decide) (by simp [h]))
  · intro _
    cases h : l with
    | nil => exact absurd h hne
    | cons a r => exact (hl.all a (by rw [h]; simp)).gl
/-- The same with a slash in front. -/
theorem pat_root {p : ByteArray} {l : List ByteArray} {tail : Bool} (hl : GlobsOK l) (hp : p.data.toList = 47 :: (joinS l ++ (if tail = true then [47] else []))) : Pat p (⟨#[]⟩ :: l) tail := by
  have hch : ∀ q ∈ l, ∀ x ∈ q.data.toList, x ≠ 47 := fun q hq x hx => (okI_plain ((hl.all q hq).chars x hx)).2.1
  have hne : l ≠ [] := List.length_pos_iff.1 hl.pos
  have hj : joinS (⟨#[]⟩ :: l) = 47 :: joinS l := by
    cases h : l with
    | nil => exact absurd h hne
    | cons a r => rfl
  refine ⟨?_, by rw [hp, hj]; rfl, ?_, ?_, ?_, ⟨?_, ?_, by have := hl.len; rw [List.length_cons]; omega, ?_, by simp⟩⟩
  · have h1 := joinS_le l (fun q hq => (hl.all q hq).size)
    have h2 := hl.len
    rw [← size_list, hp, List.length_cons, List.length_append]
    cases tail <;> simp <;> omega
  · intro q hq x hx
    rcases List.mem_cons.1 hq with rfl | hq
    · cases hx
    · exact hch q hq x hx
  · intro x hx
    rw [hp] at hx
    rcases List.mem_cons.1 hx with rfl | hx
    · exact ⟨by decide, by decide⟩
    rcases List.mem_append.1 hx with h | h
    · rcases joinS_mem h with rfl | ⟨q, hq, hxq⟩
      · exact ⟨by decide, by decide⟩
      · exact (okI_plain ((hl.all q hq).chars x hxq)).2.2
    · cases tail with
      | false => simp at h
      | true =>
        simp at h
        subst h
        exact ⟨by decide, by decide⟩
  · refine joinS_fin _ (by simp) (fun q hq => ?_)
    have hm : q ∈ l := by
      cases h : l with
      | nil => exact absurd h hne
      | cons a r =>
        rw [h, List.getLast?_cons_cons] at hq
        exact List.mem_of_getLast? hq
    exact ⟨(hl.all q hm).ne, hch q hm⟩
  · intro q hq
    rcases List.mem_cons.1 hq with rfl | hq
    · exact .inl rfl
    · exact .inr (.inr (hl.all q hq).gl)
  · intro i hi h
    cases i with
    | zero => cases h
    | succ j =>
      have hj2 : j < l.length := by simpa using hi
      rw [List.getElem_cons_succ] at h
      exact absurd h (fun h => (hl.all _ (List.getElem_mem hj2)).gl.2.2.1 0 (by rw [h]; decide) (by simp [h]))
  · intro h
    rw [List.length_cons] at h
    have := hl.pos
    omega
theorem takes_root (l ns : List ByteArray) (tail dir : Bool) (hl : GlobsOK l) : takes (⟨#[]⟩ :: l) ns tail dir = frontB l tail ns dir := by
  have hne : l ≠ [] := List.length_pos_iff.1 hl.pos
  unfold takes
  rw [if_pos (by have := hl.pos; rw [List.length_cons]; omega), gmat_cons, if_pos rfl]
  exact front_gmat l ns tail dir (fun p hp => (hl.all p hp).gl) hne
/-- The pattern of the fixed calls. -/
def pa : ByteArray := ⟨#[97]⟩
def pb : ByteArray := ⟨#[98]⟩
theorem pa_ok : GlobOK pa := ⟨by decide, fun i h => by (have : i + 1 < 1 := h); omega, by decide, by decide⟩
theorem pb_ok : GlobOK pb := ⟨by decide, fun i h => by (have : i + 1 < 1 := h); omega, by decide, by decide⟩
theorem pa_pat : Pat pa [pa] false := pat_globs ⟨fun p hp => by rw [List.mem_singleton.1 hp]; exact pa_ok, by decide, by decide⟩ rfl
theorem pa_takes : takes [pa] [pa] false false = true := by
  unfold takes
  rw [if_neg (by decide), simpleM]
  show (if globs pa.data.toList pa.data.toList = true then _ else _) = _
  rw [if_pos (by decide)]
  rfl
theorem pa_nm : ∀ n ∈ [pa], Nm n := fun n hn => by
  rw [List.mem_singleton.1 hn]
  exact ⟨by decide, by decide⟩
end Go.Proofs.Ytbiflpbajgafaaa.ign
