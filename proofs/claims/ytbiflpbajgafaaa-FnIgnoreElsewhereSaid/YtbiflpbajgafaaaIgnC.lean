/- path.Match on letters, digits, points, stars and question marks: what spec.Globs tells. -/
import Derived.Test.YtbiflpbajgafaaaIgnB
import Derived.Laws.Runes
import Derived.WalkMore
namespace Go.Proofs.Ytbiflpbajgafaaa.ign
open Go.RowKit Go.Proofs.YtbiflpbajgafaaaW.PrintWords Go.Proofs.YtbiflpbajgafaaaW.PrintLast Go.Proofs.YtbiflpbajgafaaaW.PrintMore
set_option linter.unusedVariables false
set_option linter.unusedSimpArgs false
set_option maxHeartbeats 4000000
set_option maxRecDepth 100000
theorem un_sub : ∀ {p : List UInt8} {x : UInt8}, x ∈ un p → x ∈ p
  | p, x, h => (List.dropWhile_sublist _).subset h
theorem ck_sub {p : List UInt8} {x : UInt8} (h : x ∈ ck (un p)) : x ∈ p := un_sub ((List.takeWhile_sublist _).subset h)
theorem rs_sub {p : List UInt8} {x : UInt8} (h : x ∈ rs (un p)) : x ∈ p := un_sub ((List.dropWhile_sublist _).subset h)
theorem parts_len (p : List UInt8) : (ck (un p)).length + (rs (un p)).length ≤ p.length := by
  have h := un_len p
  rw [← split_p (un p), List.length_append] at h
  exact h
theorem rs_lt : ∀ (p : List UInt8), p ≠ [] → (rs (un p)).length < p.length
  | [], h => absurd rfl h
  | x :: q, _ => by
    by_cases hx : x = 42
    · subst hx
      rw [un_star, List.length_cons]
      have := parts_len q
      omega
    · rw [un_other q hx]
      unfold rs
      rw [List.dropWhile_cons, if_pos (by simpa using hx), List.length_cons]
      have := (List.dropWhile_sublist (p := fun x : UInt8 => x != 42) (l := q)).length_le
      omega
theorem gm_trail {k : Nat} {p n : List UInt8} (hp : p ≠ []) (hs : p.head? = some 42) (hc : ck (un p) = []) : gm (k + 1) p n = true := by
  rw [gm, if_neg hp]
  simp only
  rw [if_pos ⟨hs, hc⟩]
theorem gm_go {k : Nat} {p n t : List UInt8} (hp : p ≠ []) (h : ¬ (p.head? = some 42 ∧ ck (un p) = [])) (hm : mch (ck (un p)) n = some t) (ht : t = [] ∨ rs (un p) ≠ []) : gm (k + 1) p n = gm k (rs (un p)) t := by
  rw [gm, if_neg hp]
  simp only
  rw [if_neg h, hm]
  simp only
  rw [if_pos ht]
/-- The chunk does not end the name here. -/
def Not1 (p n : List UInt8) : Prop := mch (ck (un p)) n = none ∨ ∃ t, mch (ck (un p)) n = some t ∧ t ≠ [] ∧ rs (un p) = []
theorem gm_star {k : Nat} {p n : List UInt8} (hp : p ≠ []) (h : ¬ (p.head? = some 42 ∧ ck (un p) = [])) (hm : Not1 p n) (hs : p.head? = some 42) : gm (k + 1) p n = (match find (ck (un p)) (rs (un p)).isEmpty n with | some t => gm k (rs (un p)) t | none => false) := by
  rw [gm, if_neg hp]
  simp only
  rw [if_neg h]
  rcases hm with hm | ⟨t, hm, h1, h2⟩
  · rw [hm]
    simp only
    rw [if_pos hs]
    cases find (ck (un p)) (rs (un p)).isEmpty n <;> rfl
  · rw [hm]
    simp only
    rw [if_neg (fun hh => hh.elim h1 (fun hh => hh h2))]
    simp only
    rw [if_pos hs]
    cases find (ck (un p)) (rs (un p)).isEmpty n <;> rfl
theorem gm_stop {k : Nat} {p n : List UInt8} (hp : p ≠ []) (hm : Not1 p n) (hs : ¬ p.head? = some 42) : gm (k + 1) p n = false := by
  rw [gm, if_neg hp]
  simp only
  rw [if_neg (fun h => hs h.1)]
  rcases hm with hm | ⟨t, hm, h1, h2⟩
  · rw [hm]
    simp only
    rw [if_neg hs]
  · rw [hm]
    simp only
    rw [if_neg (fun hh => hh.elim h1 (fun hh => hh h2))]
    simp only
    rw [if_neg hs]
theorem mch_sub {c s t : List UInt8} (h : mch c s = some t) : ∀ x ∈ t, x ∈ s := by
  obtain ⟨u, hu⟩ := mch_suffix h
  intro x hx
  rw [← hu]
  exact List.mem_append_right _ hx
theorem toList_nil {s : ByteArray} (h : s.data.toList = []) : s.size = 0 := by rw [← size_list, h]; rfl
theorem size_of_len {s : ByteArray} {n : Nat} (h : s.data.toList.length ≤ n) : s.size ≤ n := by rw [← size_list]; exact h
def GlobPost (w : World) (b : Bool) (e : Ending) (w' : World) : Prop := e = .returned (.tuple #[.bool b, .nilIface]) ∧ Drn w w'
/-- scanChunk's answer, with the new lengths. -/
def ScanPost (w : World) (s : ByteArray) (e : Ending) (w' : World) : Prop := ∃ c r : ByteArray, e = .returned (.tuple #[.bool (s.data.toList.head? == some 42), .string c, .string r]) ∧ c.data.toList = ck (un s.data.toList) ∧ r.data.toList = rs (un s.data.toList) ∧ c.size ≤ 1000000 ∧ r.size ≤ 1000000 ∧ (∀ x ∈ c.data.toList, Plain x) ∧ (∀ x ∈ r.data.toList, Plain x) ∧ Drn w w'
theorem scan_say (s : ByteArray) (hp : ∀ x ∈ s.data.toList, Plain x) (hsz : s.size ≤ 1000000) (w : World) :
    Calls Try.prog 46 #[.string s] w (ScanPost w s) := by
  refine (scanChunk_any s hp hsz w).mono ?_
  rintro e w' ⟨c, r, he, h1, h2, hn⟩
  have hl := parts_len s.data.toList
  rw [← h1, ← h2, size_list, size_list, size_list] at hl
  exact ⟨c, r, he, h1, h2, by omega, by omega, fun x hx => hp x (by rw [h1] at hx; exact ck_sub hx), fun x hx => hp x (by rw [h2] at hx; exact rs_sub hx), hn⟩
theorem match_any (p n : ByteArray) (hp : ∀ x ∈ p.data.toList, Plain x) (hn : ∀ x ∈ n.data.toList, x.toNat < 128 ∧ x ≠ 47) (hpz : p.size ≤ 1000000) (hnz : n.size ≤ 1000000) (w : World) :
    Calls Try.prog 45 #[.string p, .string n] w (GlobPost w (globs p.data.toList n.data.toList)) := by
  have HP := Aside0.mk hp
  have HN := Aside0.mk hn
  have HPZ := Aside0.mk hpz
  have HNZ := Aside0.mk hnz
  obtain ⟨b, hb⟩ : ∃ b, globs p.data.toList n.data.toList = b := ⟨_, rfl⟩
  have HG := Aside0.mk ((gm_globs (p.data.toList.length + 1) _ _ (by omega) (fun x hx => (hn x hx).2)).trans hb)
  rw [hb]

  clear hp hn hpz hnz hb
  go_enter Try.func45, Try.ntmps45
  go_wp2_with fail
  go_step3
  go_wp2_with fail
  go_step3
  go_wp2_with fail
  go_loopg [0, 1] (p.data.toList.length + 1) (fun kq v0 v1 w' => ∃ (p' n' : ByteArray), v0 = .string p' ∧ v1 = .string n' ∧ Aside0 (p'.data.toList.length < kq) ∧ Aside0 (p'.size ≤ 1000000) ∧ Aside0 (n'.size ≤ 1000000) ∧ Aside0 (∀ x ∈ p'.data.toList, Plain x) ∧ Aside0 (∀ x ∈ n'.data.toList, x.toNat < 128 ∧ x ≠ 47) ∧ Aside0 (gm kq p'.data.toList n'.data.toList = b) ∧ Aside0 (Drn w w'))
  case atStart => exact ⟨p, n, rfl, rfl, ⟨by omega⟩, HPZ, HNZ, HP, HN, HG, ⟨Drn.refl w⟩⟩
  case round =>
    clear HP HN HPZ HNZ HG
    obtain ⟨p', n', rfl, rfl, HK, HPZ, HNZ, HPL, HNL, HG, HD⟩ := hrel
    have hpz := HPZ.out
    have hnz := HNZ.out
    cases gk with
    | zero => exact absurd HK.out (by omega)
    | succ k1 =>
      by_cases hem : p'.data.toList = []
      · have hz : p'.size = 0 := toList_nil hem
        have c0 : decide ((0 : Int) < (p'.size : Int)) = false := decide_eq_false (by omega)
        have c1 : decide (0 < p'.size) = false := decide_eq_false (by omega)
        have HB := Aside0.mk (show n'.data.toList.isEmpty = b from by
          have := HG.out
          rw [gm, if_pos hem] at this
          exact this)
        clear HG HK HPZ HNZ HPL HNL hem
        by_cases hne : n'.data.toList = []
        · have hnz0 : n'.size = 0 := toList_nil hne
          have z1 : ((n'.size : Int) == 0) = true := by rw [hnz0]; rfl
          have z2 : (n'.size == 0) = true := by rw [hnz0]; rfl
          have hb : b = true := by rw [← HB.out, hne]; rfl
          subst hb
          clear hne HB hnz0
          go_wp2_with fail
          try rw [Exit.noGoto_ret]
          go_ret2
          exact ⟨rfl, HD.out⟩
        · have hn0 : 0 < n'.size := by rw [← size_list]; exact List.length_pos_iff.2 hne
          have z1 : ((n'.size : Int) == 0) = false := by rw [beq_eq_false_iff_ne]; omega
          have z2 : (n'.size == 0) = false := by rw [beq_eq_false_iff_ne]; omega
          have hb : b = false := by rw [← HB.out, List.isEmpty_eq_false_iff]; exact hne
          subst hb
          clear hne HB hn0
          go_wp2_with fail
          try rw [Exit.noGoto_ret]
          go_ret2
          exact ⟨rfl, HD.out⟩
      · have hz : 0 < p'.size := by rw [← size_list]; exact List.length_pos_iff.2 hem
        have c0 : decide ((0 : Int) < (p'.size : Int)) = true := decide_eq_true (by omega)
        have c1 : decide (0 < p'.size) = true := decide_eq_true hz
        have HEM := Aside0.mk hem
        have HSC := Aside0.mk (scan_say p' HPL.out HPZ.out wr)
        unfold ScanPost at HSC
        obtain ⟨st, hst⟩ : ∃ st, (p'.data.toList.head? == some 42) = st := ⟨_, rfl⟩
        rw [hst] at HSC
        have HST := Aside0.mk hst
        clear hem hst
        go_wp2_with fail
        refine HSC.out.mono ?_
        rintro e w2 ⟨c, r, rfl, hc, hr, hcz, hrz, hcp, hrp, hdr⟩
        have HC := Aside0.mk hc
        have HR := Aside0.mk hr
        have HCP := Aside0.mk hcp
        have HRP := Aside0.mk hrp
        have HD2 := Aside0.mk (HD.out.trans hdr)
        have HRL := Aside0.mk (show r.data.toList.length < k1 from by
          have h1 := rs_lt p'.data.toList HEM.out
          have h2 := HK.out
          rw [hr]
          omega)
        clear HSC hc hr hcp hrp hdr HD
        by_cases htr : st = true ∧ c.data.toList = []
        · have HB := Aside0.mk (show b = true from by
            rw [← HG.out]
            exact gm_trail HEM.out (by have := HST.out; rw [htr.1] at this; simpa using this) (by rw [← HC.out]; exact htr.2))
          have hb := HB.out
          obtain ⟨hst1, hc1⟩ := htr
          subst hst1 hb
          have hce : c.toList.isEmpty = true := by rw [ByteArray.toList_eq, hc1]; rfl
          have hce2 : c.toList = [] := by rw [ByteArray.toList_eq, hc1]
          have hce3 : (c.toList == []) = true := by rw [hce2]; rfl
          have hib : (callFunc 47 #[.string n', .int .u8 47]).run Try.prog w2 = .ok (.value (.int .i64 (-1))) w2 := by
            rw [run_callFunc_extern Try.func47 (by kernel_rfl) (by kernel_rfl) (by kernel_rfl) (e := Extern.BytealgIndexByte.indexByte) (by kernel_rfl), run_indexByte_string]
            rw [show firstIdx n' ((47 : Int).toNat.toUInt8) = -1 from firstIdx_none _ _ (fun x hx => (HNL.out x hx).2)]
            rfl
          clear hc1 HB HG HK HPZ HNZ HPL HNL HC HR HCP HRP HRL HEM HST hce2
          go_wp2_with fail
          try rw [Exit.noGoto_ret]
          go_ret2
          exact ⟨rfl, HD2.out⟩
        · have HTR := Aside0.mk htr
          have HMC := Aside0.mk (matchChunk_any c n' (fun x hx => ⟨(HCP.out x hx).1, (HCP.out x hx).2.1⟩) (fun x hx => (HNL.out x hx).1) hcz hnz w2)
          have HGD := Aside0.mk (show ¬ (p'.data.toList.head? = some 42 ∧ ck (un p'.data.toList) = []) from fun hh => htr ⟨by rw [← HST.out]; simpa using hh.1, by rw [HC.out]; exact hh.2⟩)
          rw [HC.out] at HMC
          obtain ⟨res, hres⟩ : ∃ res, mch (ck (un p'.data.toList)) n'.data.toList = res := ⟨_, rfl⟩
          rw [hres] at HMC
          have HRES := Aside0.mk hres
          unfold ChunkPost at HMC
          clear htr hres
          have hguard : (st = true ∧ c.toList.isEmpty = false ∧ (c.toList == []) = false) ∨ st = false := by
            cases hs : st with
            | false => exact .inr rfl
            | true =>
              refine .inl ⟨rfl, ?_, ?_⟩
              · rw [ByteArray.toList_eq, List.isEmpty_eq_false_iff]
                exact fun h => HTR.out ⟨hs, h⟩
              · rw [ByteArray.toList_eq, beq_eq_false_iff_ne]
                exact fun h => HTR.out ⟨hs, h⟩
          have HGU := Aside0.mk hguard
          clear hguard HTR
          by_cases hgo : ∃ t, res = some t ∧ (t = [] ∨ r.data.toList ≠ [])
          · obtain ⟨t, hre, ht⟩ := hgo
            subst hre
            have HB := Aside0.mk (show gm k1 r.data.toList t = b from by
              rw [← HG.out, HR.out]
              exact (gm_go HEM.out HGD.out HRES.out (by rw [← HR.out]; exact ht)).symm)
            have HTS := Aside0.mk (mch_sub HRES.out)
            have HTL := Aside0.mk (show t.length ≤ 1000000 from by have := mch_len HRES.out; rw [size_list] at this; omega)
            clear HG HRES HGD HEM
            rcases HGU.out with ⟨hst1, hq1, hq2⟩ | hst1
            · subst hst1
              go_wp2_with fail
              refine HMC.out.mono ?_
              rintro e w3 ⟨t', ok, rfl, hdr, hok⟩
              have HD3 := Aside0.mk (HD2.out.trans hdr)
              cases ok with
              | false => exact absurd hok (by simp)
              | true =>
                have hok2 : t'.data.toList = t := by
                  rw [if_pos rfl] at hok
                  injection hok with hok
                  exact hok.symm
                subst hok2
                have HNL2 := Aside0.mk (show ∀ x ∈ t'.data.toList, x.toNat < 128 ∧ x ≠ 47 from fun x hx => HNL.out x (HTS.out x hx))
                have HNZ2 := Aside0.mk (size_of_len HTL.out)
                have HRZ2 := Aside0.mk hrz
                have HTQ := Aside0.mk ht
                clear HMC hdr hok ht HTS
                by_cases ht0 : t'.data.toList = []
                · have hs0 := toList_nil ht0
                  have z1 : ((t'.size : Int) == 0) = true := by rw [hs0]; rfl
                  have z2 : (t'.size == 0) = true := by rw [hs0]; rfl
                  clear ht0 hs0
                  go_wp2_with fail
                  go_roundg k1
                  case measure => omega
                  case rel => exact ⟨r, t', rfl, rfl, HRL, HRZ2, HNZ2, HRP, HNL2, HB, HD3⟩
                · have hs0 : 0 < t'.size := by rw [← size_list]; exact List.length_pos_iff.2 ht0
                  have hr0 : 0 < r.size := by rw [← size_list]; exact List.length_pos_iff.2 (HTQ.out.resolve_left ht0)
                  have z1 : ((t'.size : Int) == 0) = false := by rw [beq_eq_false_iff_ne]; omega
                  have z2 : (t'.size == 0) = false := by rw [beq_eq_false_iff_ne]; omega
                  have z3 : decide ((0 : Int) < (r.size : Int)) = true := decide_eq_true (by omega)
                  have z4 : decide (0 < r.size) = true := decide_eq_true hr0
                  clear ht0
                  go_wp2_with fail
                  go_roundg k1
                  case measure => omega
                  case rel => exact ⟨r, t', rfl, rfl, HRL, HRZ2, HNZ2, HRP, HNL2, HB, HD3⟩
            · subst hst1
              go_wp2_with fail
              refine HMC.out.mono ?_
              rintro e w3 ⟨t', ok, rfl, hdr, hok⟩
              have HD3 := Aside0.mk (HD2.out.trans hdr)
              cases ok with
              | false => exact absurd hok (by simp)
              | true =>
                have hok2 : t'.data.toList = t := by
                  rw [if_pos rfl] at hok
                  injection hok with hok
                  exact hok.symm
                subst hok2
                have HNL2 := Aside0.mk (show ∀ x ∈ t'.data.toList, x.toNat < 128 ∧ x ≠ 47 from fun x hx => HNL.out x (HTS.out x hx))
                have HNZ2 := Aside0.mk (size_of_len HTL.out)
                have HRZ2 := Aside0.mk hrz
                have HTQ := Aside0.mk ht
                clear HMC hdr hok ht HTS
                by_cases ht0 : t'.data.toList = []
                · have hs0 := toList_nil ht0
                  have z1 : ((t'.size : Int) == 0) = true := by rw [hs0]; rfl
                  have z2 : (t'.size == 0) = true := by rw [hs0]; rfl
                  clear ht0 hs0
                  go_wp2_with fail
                  go_roundg k1
                  case measure => omega
                  case rel => exact ⟨r, t', rfl, rfl, HRL, HRZ2, HNZ2, HRP, HNL2, HB, HD3⟩
                · have hs0 : 0 < t'.size := by rw [← size_list]; exact List.length_pos_iff.2 ht0
                  have hr0 : 0 < r.size := by rw [← size_list]; exact List.length_pos_iff.2 (HTQ.out.resolve_left ht0)
                  have z1 : ((t'.size : Int) == 0) = false := by rw [beq_eq_false_iff_ne]; omega
                  have z2 : (t'.size == 0) = false := by rw [beq_eq_false_iff_ne]; omega
                  have z3 : decide ((0 : Int) < (r.size : Int)) = true := decide_eq_true (by omega)
                  have z4 : decide (0 < r.size) = true := decide_eq_true hr0
                  clear ht0
                  go_wp2_with fail
                  go_roundg k1
                  case measure => omega
                  case rel => exact ⟨r, t', rfl, rfl, HRL, HRZ2, HNZ2, HRP, HNL2, HB, HD3⟩
          · have HNO := Aside0.mk (show Not1 p'.data.toList n'.data.toList from by
              cases hre : res with
              | none => exact .inl (HRES.out.trans hre)
              | some t =>
                refine .inr ⟨t, HRES.out.trans hre, fun h => hgo ⟨t, hre, .inl h⟩, ?_⟩
                rw [← HR.out]
                by_cases hh : r.data.toList = []
                · exact hh
                · exact absurd ⟨t, hre, .inr hh⟩ hgo)
            have HGO := Aside0.mk hgo
            clear hgo
            rcases HGU.out with ⟨hst1, hq1, hq2⟩ | hst1
            · subst hst1
              have HB := Aside0.mk (show (match find c.data.toList r.data.toList.isEmpty n'.data.toList with | some t => gm k1 r.data.toList t | none => false) = b from by
                rw [← HG.out, HC.out, HR.out]
                exact (gm_star HEM.out HGD.out HNO.out (by have := HST.out; simpa using this)).symm)
              clear HG HNO HGD HEM HST
              go_wp2_with fail
              refine HMC.out.mono ?_
              rintro e w3 ⟨t, ok, rfl, hdr, hok⟩
              have HD3 := Aside0.mk (HD2.out.trans hdr)
              clear HMC hdr HD2
              cases ok with
              | false =>
                clear HRES HGO
                go_wp2_with fail
                go_loopg [1, 11] (n'.data.toList.length + 1) (fun kq v1 v11 w' => ∃ (i : Nat), v1 = .string n' ∧ v11 = .int .i64 (i : Int) ∧ i ≤ n'.data.toList.length ∧ Aside0 (kq + i = n'.data.toList.length + 1) ∧ Aside0 (find c.data.toList r.data.toList.isEmpty n'.data.toList = find c.data.toList r.data.toList.isEmpty (n'.data.toList.drop i)) ∧ Aside0 (Drn w w'))
                case atStart => exact ⟨0, rfl, rfl, Nat.zero_le _, ⟨by omega⟩, ⟨by rw [List.drop_zero]⟩, HD3⟩
                case round =>
                  obtain ⟨i, rfl, rfl, hi, HK4, HF4, HD4⟩ := hrel
                  cases gk with
                  | zero => exact absurd HK4.out (by omega)
                  | succ k4 =>
                    by_cases hlt : i < n'.data.toList.length
                    · have hss : i < n'.size := by rw [← size_list]; exact hlt
                      have d0 : decide ((i : Int) < (n'.size : Int)) = true := decide_eq_true (by omega)
                      have d1 : decide (i < n'.size) = true := decide_eq_true hss
                      have p1 : (0 : Int) ≤ (i : Int) := by omega
                      have w1 : wrap64 ((i : Int) + 1) = (i : Int) + 1 := w64 (by omega) (by omega)
                      obtain ⟨d, hd⟩ : ∃ d, n'.data.toList[i] = d := ⟨_, rfl⟩
                      have hid : ∀ h : i < n'.size, ((n'[i]'h).toNat : Int) = (d.toNat : Int) := fun h => by rw [← hd, at_list n' i h hlt]
                      have hdd := HNL.out d (by rw [← hd]; exact List.getElem_mem hlt)
                      have d3 : ((d.toNat : Int) == 47) = false := by rw [beq_eq_false_iff_ne]; exact plain_ne hdd.2
                      have d2 : (!((d.toNat : Int) == 47)) = true := by rw [d3]; rfl
                      have d4 : ((d.toNat : Int) != 47) = true := by show (!((d.toNat : Int) == 47)) = true; rw [d3]; rfl
                      have p2 : (i : Int) + 1 ≤ (n'.size : Int) := by omega
                      have p3 : i + 1 ≤ n'.size := hss
                      have HF5 := HF4.out
                      rw [List.drop_eq_getElem_cons hlt, find] at HF5
                      obtain ⟨m, hm⟩ : ∃ m, mch c.data.toList (n'.data.toList.drop (i + 1)) = m := ⟨_, rfl⟩
                      rw [hm] at HF5
                      have HF5 := Aside0.mk HF5
                      have HEX := Aside0.mk (show (n'.extract (i + 1) n'.size).data.toList = n'.data.toList.drop (i + 1) from by rw [ext_list, ← size_list, List.take_length])
                      have HMC4 := Aside0.mk (matchChunk_any c (n'.extract (i + 1) n'.size) (fun x hx => ⟨(HCP.out x hx).1, (HCP.out x hx).2.1⟩) (fun x hx => (HNL.out x (by rw [HEX.out] at hx; exact List.mem_of_mem_drop hx)).1) hcz (by rw [ByteArray.size_extract]; omega) wr)
                      rw [HEX.out, hm] at HMC4
                      have HM := Aside0.mk hm
                      unfold ChunkPost at HMC4
                      clear hd hdd hm HF4 HEX
                      go_wp2_with fail
                      refine HMC4.out.mono ?_
                      rintro e w5 ⟨t4, ok4, rfl, hdr4, hok4⟩
                      have HD5 := Aside0.mk (HD4.out.trans hdr4)
                      clear HMC4 hdr4 HD4
                      cases ok4 with
                      | false =>
                        have HF6 := Aside0.mk (show find c.data.toList r.data.toList.isEmpty n'.data.toList = find c.data.toList r.data.toList.isEmpty (n'.data.toList.drop (i + 1)) from by rw [HF5.out, hok4]; rfl)
                        clear hok4 HF5 HM
                        go_wp2_with fail
                        go_roundg k4
                        case measure => omega
                        case rel => exact ⟨i + 1, rfl, by go_num, by omega, ⟨by have := HK4.out; omega⟩, HF6, HD5⟩
                      | true =>
                        rw [if_pos rfl] at hok4
                        by_cases hsk : r.data.toList = [] ∧ t4.data.toList ≠ []
                        · have HF6 := Aside0.mk (show find c.data.toList r.data.toList.isEmpty n'.data.toList = find c.data.toList r.data.toList.isEmpty (n'.data.toList.drop (i + 1)) from by
                            rw [HF5.out, hok4]
                            simp only
                            rw [if_pos ⟨by rw [hsk.1]; rfl, hsk.2⟩])
                          have hr0 := toList_nil hsk.1
                          have t0 : 0 < t4.size := by rw [← size_list]; exact List.length_pos_iff.2 hsk.2
                          have z1 : ((r.size : Int) == 0) = true := by rw [hr0]; rfl
                          have z2 : (r.size == 0) = true := by rw [hr0]; rfl
                          have z3 : decide ((0 : Int) < (t4.size : Int)) = true := decide_eq_true (by omega)
                          have z4 : decide (0 < t4.size) = true := decide_eq_true t0
                          clear hok4 HF5 HM hsk hr0
                          go_wp2_with fail
                          go_roundg k4
                          case measure => omega
                          case rel => exact ⟨i + 1, rfl, by go_num, by omega, ⟨by have := HK4.out; omega⟩, HF6, HD5⟩
                        · have HF6 := Aside0.mk (show find c.data.toList r.data.toList.isEmpty n'.data.toList = some t4.data.toList from by
                            rw [HF5.out, hok4]
                            simp only
                            rw [if_neg (fun hh => hsk ⟨by simpa using hh.1, hh.2⟩)])
                          have HB2 := HB.out
                          rw [HF6.out] at HB2
                          have HB2 := Aside0.mk HB2
                          rw [hok4] at HM
                          have HTS := Aside0.mk (mch_sub HM.out)
                          have HTL := Aside0.mk (show t4.data.toList.length ≤ 1000000 from by have := mch_len HM.out; rw [List.length_drop, size_list] at this; omega)
                          have HNL2 := Aside0.mk (show ∀ x ∈ t4.data.toList, x.toNat < 128 ∧ x ≠ 47 from fun x hx => HNL.out x (List.mem_of_mem_drop (HTS.out x hx)))
                          have HNZ2 := Aside0.mk (size_of_len HTL.out)
                          have HRZ2 := Aside0.mk hrz
                          clear hok4 HF5 HM HF6 HTS HTL
                          by_cases hr0 : r.data.toList = []
                          · have hr1 := toList_nil hr0
                            have ht1 : t4.size = 0 := toList_nil (by
                              by_cases hh : t4.data.toList = []
                              · exact hh
                              · exact absurd ⟨hr0, hh⟩ hsk)
                            have z1 : ((r.size : Int) == 0) = true := by rw [hr1]; rfl
                            have z2 : (r.size == 0) = true := by rw [hr1]; rfl
                            have z3 : decide ((0 : Int) < (t4.size : Int)) = false := decide_eq_false (by omega)
                            have z4 : decide (0 < t4.size) = false := decide_eq_false (by omega)
                            clear hsk hr0 hr1
                            go_wp2_with fail
                            go_roundg k1
                            case measure => omega
                            case rel => exact ⟨r, t4, rfl, rfl, HRL, HRZ2, HNZ2, HRP, HNL2, HB2, HD5⟩
                          · have hr1 : 0 < r.size := by rw [← size_list]; exact List.length_pos_iff.2 hr0
                            have z1 : ((r.size : Int) == 0) = false := by rw [beq_eq_false_iff_ne]; omega
                            have z2 : (r.size == 0) = false := by rw [beq_eq_false_iff_ne]; omega
                            clear hsk hr0
                            go_wp2_with fail
                            go_roundg k1
                            case measure => omega
                            case rel => exact ⟨r, t4, rfl, rfl, HRL, HRZ2, HNZ2, HRP, HNL2, HB2, HD5⟩
                    · have d0 : decide ((i : Int) < (n'.size : Int)) = false := decide_eq_false (by rw [← size_list]; omega)
                      have d1 : decide (i < n'.size) = false := decide_eq_false (by rw [← size_list]; omega)
                      have hb : b = false := by
                        have h1 := HF4.out
                        rw [List.drop_of_length_le (by omega), find] at h1
                        have h2 := HB.out
                        rw [h1] at h2
                        exact h2.symm
                      subst hb
                      clear HF4 HB
                      go_wp2_with fail
                      clear d0 d1
                      go_loopg [0] (r.data.toList.length + 1) (fun kq v0 w' => ∃ (p2 : ByteArray), v0 = .string p2 ∧ Aside0 (p2.data.toList.length < kq) ∧ Aside0 (p2.size ≤ 1000000) ∧ Aside0 (∀ x ∈ p2.data.toList, Plain x) ∧ Aside0 (Drn w w'))
                      case atStart => exact ⟨r, rfl, ⟨by omega⟩, ⟨hrz⟩, HRP, HD4⟩
                      case round =>
                        obtain ⟨p2, rfl, HK5, HPZ5, HPL5, HD5⟩ := hrel
                        cases gk with
                        | zero => exact absurd HK5.out (by omega)
                        | succ k5 =>
                          by_cases hem5 : p2.data.toList = []
                          · have hz5 : p2.size = 0 := toList_nil hem5
                            have c50 : decide ((0 : Int) < (p2.size : Int)) = false := decide_eq_false (by omega)
                            have c51 : decide (0 < p2.size) = false := decide_eq_false (by omega)
                            clear hem5
                            go_wp2_with fail
                            try rw [Exit.noGoto_ret]
                            go_ret2
                            exact ⟨rfl, HD5.out⟩
                          · have hz5 : 0 < p2.size := by rw [← size_list]; exact List.length_pos_iff.2 hem5
                            have c50 : decide ((0 : Int) < (p2.size : Int)) = true := decide_eq_true (by omega)
                            have c51 : decide (0 < p2.size) = true := decide_eq_true hz5
                            have HLT5 := Aside0.mk (rs_lt _ hem5)
                            have HSC5 := Aside0.mk (scan_say p2 HPL5.out HPZ5.out wr)
                            unfold ScanPost at HSC5
                            clear hem5
                            go_wp2_with fail
                            refine HSC5.out.mono ?_
                            rintro e w6 ⟨c5, r5, rfl, hc5, hr5, hcz5, hrz5, hcp5, hrp5, hdr5⟩
                            have HD6 := Aside0.mk (HD5.out.trans hdr5)
                            have HRP5 := Aside0.mk hrp5
                            have HRL5 := Aside0.mk (show r5.data.toList.length < k5 from by rw [hr5]; have := HK5.out; have := HLT5.out; omega)
                            have HMC5 := Aside0.mk (matchChunk_any c5 ⟨#[]⟩ (fun x hx => ⟨(hcp5 x hx).1, (hcp5 x hx).2.1⟩) (fun x hx => by cases hx) hcz5 (Nat.zero_le _) w6)
                            unfold ChunkPost at HMC5
                            clear HSC5 hc5 hr5 hcp5 hrp5 hdr5 HD5
                            go_wp2_with fail
                            refine HMC5.out.mono ?_
                            rintro e w7 ⟨t5, ok5, rfl, hdr5, hok5⟩
                            have HD7 := Aside0.mk (HD6.out.trans hdr5)
                            clear HMC5 hdr5 hok5 HD6
                            go_wp2_with fail
                            go_roundg k5
                            case measure => omega
                            case rel => exact ⟨r5, rfl, HRL5, ⟨hrz5⟩, HRP5, HD7⟩
              | true =>
                have HTT := Aside0.mk (show r.data.toList = [] ∧ t.data.toList ≠ [] from ⟨by
                  by_cases hh : r.data.toList = []
                  · exact hh
                  · exact absurd ⟨_, hok, .inr hh⟩ HGO.out, fun h => HGO.out ⟨_, hok, .inl h⟩⟩)
                have hr0 := toList_nil HTT.out.1
                have t0 : 0 < t.size := by rw [← size_list]; exact List.length_pos_iff.2 HTT.out.2
                have z1 : ((t.size : Int) == 0) = false := by rw [beq_eq_false_iff_ne]; omega
                have z2 : (t.size == 0) = false := by rw [beq_eq_false_iff_ne]; omega
                have z3 : decide ((0 : Int) < (r.size : Int)) = false := decide_eq_false (by omega)
                have z4 : decide (0 < r.size) = false := decide_eq_false (by omega)
                clear HRES HGO hok
                go_wp2_with fail
                clear z1 z2 z3 z4 hr0 t0
                go_loopg [1, 11] (n'.data.toList.length + 1) (fun kq v1 v11 w' => ∃ (i : Nat), v1 = .string n' ∧ v11 = .int .i64 (i : Int) ∧ i ≤ n'.data.toList.length ∧ Aside0 (kq + i = n'.data.toList.length + 1) ∧ Aside0 (find c.data.toList r.data.toList.isEmpty n'.data.toList = find c.data.toList r.data.toList.isEmpty (n'.data.toList.drop i)) ∧ Aside0 (Drn w w'))
                case atStart => exact ⟨0, rfl, rfl, Nat.zero_le _, ⟨by omega⟩, ⟨by rw [List.drop_zero]⟩, HD3⟩
                case round =>
                  obtain ⟨i, rfl, rfl, hi, HK4, HF4, HD4⟩ := hrel
                  cases gk with
                  | zero => exact absurd HK4.out (by omega)
                  | succ k4 =>
                    by_cases hlt : i < n'.data.toList.length
                    · have hss : i < n'.size := by rw [← size_list]; exact hlt
                      have d0 : decide ((i : Int) < (n'.size : Int)) = true := decide_eq_true (by omega)
                      have d1 : decide (i < n'.size) = true := decide_eq_true hss
                      have p1 : (0 : Int) ≤ (i : Int) := by omega
                      have w1 : wrap64 ((i : Int) + 1) = (i : Int) + 1 := w64 (by omega) (by omega)
                      obtain ⟨d, hd⟩ : ∃ d, n'.data.toList[i] = d := ⟨_, rfl⟩
                      have hid : ∀ h : i < n'.size, ((n'[i]'h).toNat : Int) = (d.toNat : Int) := fun h => by rw [← hd, at_list n' i h hlt]
                      have hdd := HNL.out d (by rw [← hd]; exact List.getElem_mem hlt)
                      have d3 : ((d.toNat : Int) == 47) = false := by rw [beq_eq_false_iff_ne]; exact plain_ne hdd.2
                      have d2 : (!((d.toNat : Int) == 47)) = true := by rw [d3]; rfl
                      have d4 : ((d.toNat : Int) != 47) = true := by show (!((d.toNat : Int) == 47)) = true; rw [d3]; rfl
                      have p2 : (i : Int) + 1 ≤ (n'.size : Int) := by omega
                      have p3 : i + 1 ≤ n'.size := hss
                      have HF5 := HF4.out
                      rw [List.drop_eq_getElem_cons hlt, find] at HF5
                      obtain ⟨m, hm⟩ : ∃ m, mch c.data.toList (n'.data.toList.drop (i + 1)) = m := ⟨_, rfl⟩
                      rw [hm] at HF5
                      have HF5 := Aside0.mk HF5
                      have HEX := Aside0.mk (show (n'.extract (i + 1) n'.size).data.toList = n'.data.toList.drop (i + 1) from by rw [ext_list, ← size_list, List.take_length])
                      have HMC4 := Aside0.mk (matchChunk_any c (n'.extract (i + 1) n'.size) (fun x hx => ⟨(HCP.out x hx).1, (HCP.out x hx).2.1⟩) (fun x hx => (HNL.out x (by rw [HEX.out] at hx; exact List.mem_of_mem_drop hx)).1) hcz (by rw [ByteArray.size_extract]; omega) wr)
                      rw [HEX.out, hm] at HMC4
                      have HM := Aside0.mk hm
                      unfold ChunkPost at HMC4
                      clear hd hdd hm HF4 HEX
                      go_wp2_with fail
                      refine HMC4.out.mono ?_
                      rintro e w5 ⟨t4, ok4, rfl, hdr4, hok4⟩
                      have HD5 := Aside0.mk (HD4.out.trans hdr4)
                      clear HMC4 hdr4 HD4
                      cases ok4 with
                      | false =>
                        have HF6 := Aside0.mk (show find c.data.toList r.data.toList.isEmpty n'.data.toList = find c.data.toList r.data.toList.isEmpty (n'.data.toList.drop (i + 1)) from by rw [HF5.out, hok4]; rfl)
                        clear hok4 HF5 HM
                        go_wp2_with fail
                        go_roundg k4
                        case measure => omega
                        case rel => exact ⟨i + 1, rfl, by go_num, by omega, ⟨by have := HK4.out; omega⟩, HF6, HD5⟩
                      | true =>
                        rw [if_pos rfl] at hok4
                        by_cases hsk : r.data.toList = [] ∧ t4.data.toList ≠ []
                        · have HF6 := Aside0.mk (show find c.data.toList r.data.toList.isEmpty n'.data.toList = find c.data.toList r.data.toList.isEmpty (n'.data.toList.drop (i + 1)) from by
                            rw [HF5.out, hok4]
                            simp only
                            rw [if_pos ⟨by rw [hsk.1]; rfl, hsk.2⟩])
                          have hr0 := toList_nil hsk.1
                          have t0 : 0 < t4.size := by rw [← size_list]; exact List.length_pos_iff.2 hsk.2
                          have z1 : ((r.size : Int) == 0) = true := by rw [hr0]; rfl
                          have z2 : (r.size == 0) = true := by rw [hr0]; rfl
                          have z3 : decide ((0 : Int) < (t4.size : Int)) = true := decide_eq_true (by omega)
                          have z4 : decide (0 < t4.size) = true := decide_eq_true t0
                          clear hok4 HF5 HM hsk hr0
                          go_wp2_with fail
                          go_roundg k4
                          case measure => omega
                          case rel => exact ⟨i + 1, rfl, by go_num, by omega, ⟨by have := HK4.out; omega⟩, HF6, HD5⟩
                        · have HF6 := Aside0.mk (show find c.data.toList r.data.toList.isEmpty n'.data.toList = some t4.data.toList from by
                            rw [HF5.out, hok4]
                            simp only
                            rw [if_neg (fun hh => hsk ⟨by simpa using hh.1, hh.2⟩)])
                          have HB2 := HB.out
                          rw [HF6.out] at HB2
                          have HB2 := Aside0.mk HB2
                          rw [hok4] at HM
                          have HTS := Aside0.mk (mch_sub HM.out)
                          have HTL := Aside0.mk (show t4.data.toList.length ≤ 1000000 from by have := mch_len HM.out; rw [List.length_drop, size_list] at this; omega)
                          have HNL2 := Aside0.mk (show ∀ x ∈ t4.data.toList, x.toNat < 128 ∧ x ≠ 47 from fun x hx => HNL.out x (List.mem_of_mem_drop (HTS.out x hx)))
                          have HNZ2 := Aside0.mk (size_of_len HTL.out)
                          have HRZ2 := Aside0.mk hrz
                          clear hok4 HF5 HM HF6 HTS HTL
                          by_cases hr0 : r.data.toList = []
                          · have hr1 := toList_nil hr0
                            have ht1 : t4.size = 0 := toList_nil (by
                              by_cases hh : t4.data.toList = []
                              · exact hh
                              · exact absurd ⟨hr0, hh⟩ hsk)
                            have z1 : ((r.size : Int) == 0) = true := by rw [hr1]; rfl
                            have z2 : (r.size == 0) = true := by rw [hr1]; rfl
                            have z3 : decide ((0 : Int) < (t4.size : Int)) = false := decide_eq_false (by omega)
                            have z4 : decide (0 < t4.size) = false := decide_eq_false (by omega)
                            clear hsk hr0 hr1
                            go_wp2_with fail
                            go_roundg k1
                            case measure => omega
                            case rel => exact ⟨r, t4, rfl, rfl, HRL, HRZ2, HNZ2, HRP, HNL2, HB2, HD5⟩
                          · have hr1 : 0 < r.size := by rw [← size_list]; exact List.length_pos_iff.2 hr0
                            have z1 : ((r.size : Int) == 0) = false := by rw [beq_eq_false_iff_ne]; omega
                            have z2 : (r.size == 0) = false := by rw [beq_eq_false_iff_ne]; omega
                            clear hsk hr0
                            go_wp2_with fail
                            go_roundg k1
                            case measure => omega
                            case rel => exact ⟨r, t4, rfl, rfl, HRL, HRZ2, HNZ2, HRP, HNL2, HB2, HD5⟩
                    · have d0 : decide ((i : Int) < (n'.size : Int)) = false := decide_eq_false (by rw [← size_list]; omega)
                      have d1 : decide (i < n'.size) = false := decide_eq_false (by rw [← size_list]; omega)
                      have hb : b = false := by
                        have h1 := HF4.out
                        rw [List.drop_of_length_le (by omega), find] at h1
                        have h2 := HB.out
                        rw [h1] at h2
                        exact h2.symm
                      subst hb
                      clear HF4 HB
                      go_wp2_with fail
                      clear d0 d1
                      go_loopg [0] (r.data.toList.length + 1) (fun kq v0 w' => ∃ (p2 : ByteArray), v0 = .string p2 ∧ Aside0 (p2.data.toList.length < kq) ∧ Aside0 (p2.size ≤ 1000000) ∧ Aside0 (∀ x ∈ p2.data.toList, Plain x) ∧ Aside0 (Drn w w'))
                      case atStart => exact ⟨r, rfl, ⟨by omega⟩, ⟨hrz⟩, HRP, HD4⟩
                      case round =>
                        obtain ⟨p2, rfl, HK5, HPZ5, HPL5, HD5⟩ := hrel
                        cases gk with
                        | zero => exact absurd HK5.out (by omega)
                        | succ k5 =>
                          by_cases hem5 : p2.data.toList = []
                          · have hz5 : p2.size = 0 := toList_nil hem5
                            have c50 : decide ((0 : Int) < (p2.size : Int)) = false := decide_eq_false (by omega)
                            have c51 : decide (0 < p2.size) = false := decide_eq_false (by omega)
                            clear hem5
                            go_wp2_with fail
                            try rw [Exit.noGoto_ret]
                            go_ret2
                            exact ⟨rfl, HD5.out⟩
                          · have hz5 : 0 < p2.size := by rw [← size_list]; exact List.length_pos_iff.2 hem5
                            have c50 : decide ((0 : Int) < (p2.size : Int)) = true := decide_eq_true (by omega)
                            have c51 : decide (0 < p2.size) = true := decide_eq_true hz5
                            have HLT5 := Aside0.mk (rs_lt _ hem5)
                            have HSC5 := Aside0.mk (scan_say p2 HPL5.out HPZ5.out wr)
                            unfold ScanPost at HSC5
                            clear hem5
                            go_wp2_with fail
                            refine HSC5.out.mono ?_
                            rintro e w6 ⟨c5, r5, rfl, hc5, hr5, hcz5, hrz5, hcp5, hrp5, hdr5⟩
                            have HD6 := Aside0.mk (HD5.out.trans hdr5)
                            have HRP5 := Aside0.mk hrp5
                            have HRL5 := Aside0.mk (show r5.data.toList.length < k5 from by rw [hr5]; have := HK5.out; have := HLT5.out; omega)
                            have HMC5 := Aside0.mk (matchChunk_any c5 ⟨#[]⟩ (fun x hx => ⟨(hcp5 x hx).1, (hcp5 x hx).2.1⟩) (fun x hx => by cases hx) hcz5 (Nat.zero_le _) w6)
                            unfold ChunkPost at HMC5
                            clear HSC5 hc5 hr5 hcp5 hrp5 hdr5 HD5
                            go_wp2_with fail
                            refine HMC5.out.mono ?_
                            rintro e w7 ⟨t5, ok5, rfl, hdr5, hok5⟩
                            have HD7 := Aside0.mk (HD6.out.trans hdr5)
                            clear HMC5 hdr5 hok5 HD6
                            go_wp2_with fail
                            go_roundg k5
                            case measure => omega
                            case rel => exact ⟨r5, rfl, HRL5, ⟨hrz5⟩, HRP5, HD7⟩
            · subst hst1
              have hb : b = false := by
                rw [← HG.out]
                exact gm_stop HEM.out HNO.out (by have := HST.out; simpa using this)
              subst hb
              clear HG HNO HGD HEM HST
              go_wp2_with fail
              refine HMC.out.mono ?_
              rintro e w3 ⟨t, ok, rfl, hdr, hok⟩
              have HD3 := Aside0.mk (HD2.out.trans hdr)
              clear HMC hdr HD2
              cases ok with
              | false =>
                clear HRES HGO
                go_wp2_with fail
                go_loopg [0] (r.data.toList.length + 1) (fun kq v0 w' => ∃ (p2 : ByteArray), v0 = .string p2 ∧ Aside0 (p2.data.toList.length < kq) ∧ Aside0 (p2.size ≤ 1000000) ∧ Aside0 (∀ x ∈ p2.data.toList, Plain x) ∧ Aside0 (Drn w w'))
                case atStart => exact ⟨r, rfl, ⟨by omega⟩, ⟨hrz⟩, HRP, HD3⟩
                case round =>
                  obtain ⟨p2, rfl, HK5, HPZ5, HPL5, HD5⟩ := hrel
                  cases gk with
                  | zero => exact absurd HK5.out (by omega)
                  | succ k5 =>
                    by_cases hem5 : p2.data.toList = []
                    · have hz5 : p2.size = 0 := toList_nil hem5
                      have c50 : decide ((0 : Int) < (p2.size : Int)) = false := decide_eq_false (by omega)
                      have c51 : decide (0 < p2.size) = false := decide_eq_false (by omega)
                      clear hem5
                      go_wp2_with fail
                      try rw [Exit.noGoto_ret]
                      go_ret2
                      exact ⟨rfl, HD5.out⟩
                    · have hz5 : 0 < p2.size := by rw [← size_list]; exact List.length_pos_iff.2 hem5
                      have c50 : decide ((0 : Int) < (p2.size : Int)) = true := decide_eq_true (by omega)
                      have c51 : decide (0 < p2.size) = true := decide_eq_true hz5
                      have HLT5 := Aside0.mk (rs_lt _ hem5)
                      have HSC5 := Aside0.mk (scan_say p2 HPL5.out HPZ5.out wr)
                      unfold ScanPost at HSC5
                      clear hem5
                      go_wp2_with fail
                      refine HSC5.out.mono ?_
                      rintro e w6 ⟨c5, r5, rfl, hc5, hr5, hcz5, hrz5, hcp5, hrp5, hdr5⟩
                      have HD6 := Aside0.mk (HD5.out.trans hdr5)
                      have HRP5 := Aside0.mk hrp5
                      have HRL5 := Aside0.mk (show r5.data.toList.length < k5 from by rw [hr5]; have := HK5.out; have := HLT5.out; omega)
                      have HMC5 := Aside0.mk (matchChunk_any c5 ⟨#[]⟩ (fun x hx => ⟨(hcp5 x hx).1, (hcp5 x hx).2.1⟩) (fun x hx => by cases hx) hcz5 (Nat.zero_le _) w6)
                      unfold ChunkPost at HMC5
                      clear HSC5 hc5 hr5 hcp5 hrp5 hdr5 HD5
                      go_wp2_with fail
                      refine HMC5.out.mono ?_
                      rintro e w7 ⟨t5, ok5, rfl, hdr5, hok5⟩
                      have HD7 := Aside0.mk (HD6.out.trans hdr5)
                      clear HMC5 hdr5 hok5 HD6
                      go_wp2_with fail
                      go_roundg k5
                      case measure => omega
                      case rel => exact ⟨r5, rfl, HRL5, ⟨hrz5⟩, HRP5, HD7⟩
              | true =>
                have HTT := Aside0.mk (show r.data.toList = [] ∧ t.data.toList ≠ [] from ⟨by
                  by_cases hh : r.data.toList = []
                  · exact hh
                  · exact absurd ⟨_, hok, .inr hh⟩ HGO.out, fun h => HGO.out ⟨_, hok, .inl h⟩⟩)
                have hr0 := toList_nil HTT.out.1
                have t0 : 0 < t.size := by rw [← size_list]; exact List.length_pos_iff.2 HTT.out.2
                have z1 : ((t.size : Int) == 0) = false := by rw [beq_eq_false_iff_ne]; omega
                have z2 : (t.size == 0) = false := by rw [beq_eq_false_iff_ne]; omega
                have z3 : decide ((0 : Int) < (r.size : Int)) = false := decide_eq_false (by omega)
                have z4 : decide (0 < r.size) = false := decide_eq_false (by omega)
                clear HRES HGO hok
                go_wp2_with fail
                clear z1 z2 z3 z4 hr0 t0
                go_loopg [0] (r.data.toList.length + 1) (fun kq v0 w' => ∃ (p2 : ByteArray), v0 = .string p2 ∧ Aside0 (p2.data.toList.length < kq) ∧ Aside0 (p2.size ≤ 1000000) ∧ Aside0 (∀ x ∈ p2.data.toList, Plain x) ∧ Aside0 (Drn w w'))
                case atStart => exact ⟨r, rfl, ⟨by omega⟩, ⟨hrz⟩, HRP, HD3⟩
                case round =>
                  obtain ⟨p2, rfl, HK5, HPZ5, HPL5, HD5⟩ := hrel
                  cases gk with
                  | zero => exact absurd HK5.out (by omega)
                  | succ k5 =>
                    by_cases hem5 : p2.data.toList = []
                    · have hz5 : p2.size = 0 := toList_nil hem5
                      have c50 : decide ((0 : Int) < (p2.size : Int)) = false := decide_eq_false (by omega)
                      have c51 : decide (0 < p2.size) = false := decide_eq_false (by omega)
                      clear hem5
                      go_wp2_with fail
                      try rw [Exit.noGoto_ret]
                      go_ret2
                      exact ⟨rfl, HD5.out⟩
                    · have hz5 : 0 < p2.size := by rw [← size_list]; exact List.length_pos_iff.2 hem5
                      have c50 : decide ((0 : Int) < (p2.size : Int)) = true := decide_eq_true (by omega)
                      have c51 : decide (0 < p2.size) = true := decide_eq_true hz5
                      have HLT5 := Aside0.mk (rs_lt _ hem5)
                      have HSC5 := Aside0.mk (scan_say p2 HPL5.out HPZ5.out wr)
                      unfold ScanPost at HSC5
                      clear hem5
                      go_wp2_with fail
                      refine HSC5.out.mono ?_
                      rintro e w6 ⟨c5, r5, rfl, hc5, hr5, hcz5, hrz5, hcp5, hrp5, hdr5⟩
                      have HD6 := Aside0.mk (HD5.out.trans hdr5)
                      have HRP5 := Aside0.mk hrp5
                      have HRL5 := Aside0.mk (show r5.data.toList.length < k5 from by rw [hr5]; have := HK5.out; have := HLT5.out; omega)
                      have HMC5 := Aside0.mk (matchChunk_any c5 ⟨#[]⟩ (fun x hx => ⟨(hcp5 x hx).1, (hcp5 x hx).2.1⟩) (fun x hx => by cases hx) hcz5 (Nat.zero_le _) w6)
                      unfold ChunkPost at HMC5
                      clear HSC5 hc5 hr5 hcp5 hrp5 hdr5 HD5
                      go_wp2_with fail
                      refine HMC5.out.mono ?_
                      rintro e w7 ⟨t5, ok5, rfl, hdr5, hok5⟩
                      have HD7 := Aside0.mk (HD6.out.trans hdr5)
                      clear HMC5 hdr5 hok5 HD6
                      go_wp2_with fail
                      go_roundg k5
                      case measure => omega
                      case rel => exact ⟨r5, rfl, HRL5, ⟨hrz5⟩, HRP5, HD7⟩
end Go.Proofs.Ytbiflpbajgafaaa.ign
