/- path.matchChunk on letters, digits, points and question marks. -/
import Derived.Test.YtbiflpbajgafaaaIgnA
import Derived.OwnWalk
namespace Go.Proofs.Ytbiflpbajgafaaa.ign
open Go.RowKit Go.Proofs.YtbiflpbajgafaaaW.PrintWords Go.Proofs.YtbiflpbajgafaaaW.PrintLast Go.Proofs.YtbiflpbajgafaaaW.PrintMore
set_option linter.unusedVariables false
set_option linter.unusedSimpArgs false
set_option maxHeartbeats 2000000
set_option maxRecDepth 100000
/-- Only draws lie between two worlds. -/
def Drn (w w' : World) : Prop := ∃ n, w' = w.drewN n
theorem Drn.refl (w : World) : Drn w w := ⟨0, rfl⟩
theorem Drn.drewN {w w' : World} (h : Drn w w') (n : Nat) : Drn w (w'.drewN n) := by
  obtain ⟨m, rfl⟩ := h
  exact ⟨m + n, by simp⟩
theorem Drn.trans {w w1 w2 : World} (h : Drn w w1) (h2 : Drn w1 w2) : Drn w w2 := by
  obtain ⟨m, rfl⟩ := h2
  exact h.drewN m
def ChunkPost (w : World) (res : Option (List UInt8)) (e : Ending) (w' : World) : Prop := ∃ (t : ByteArray) (ok : Bool), e = .returned (.tuple #[.string t, .bool ok, .nilIface]) ∧ Drn w w' ∧ res = (if ok = true then some t.data.toList else none)
theorem decode_any (s : ByteArray) (w : World) (d : UInt8) (q : List UInt8) (h : s.data.toList = d :: q) (hd : d.toNat < 128) (hsz : s.size ≤ 1000000) :
    Calls Try.prog 49 #[.string s] w fun e w' => e = .returned (.tuple #[.int .i32 (d.toNat : Int), .int .i64 1]) ∧ w = w' := by
  have hz : 0 < s.size := by rw [← size_list, h]; simp
  have hem : s.toList.isEmpty = false := by
    rw [ByteArray.toList_eq, h]; rfl
  have hix : ∀ hh : 0 < s.size, ((s[0]'hh).toNat : Int) = (d.toNat : Int) := fun hh => by
    rw [at_list s 0 hh (by rw [h]; simp)]
    simp only [h, List.getElem_cons_zero]
  have c1 : decide ((d.toNat : Int) < 128) = true := decide_eq_true (by omega)
  have c2 : decide (d.toNat < 128) = true := decide_eq_true hd
  have p0 : (0 : Int) ≤ (d.toNat : Int) := by omega
  have p1 : (d.toNat : Int) < 128 := by omega
  have c3 : decide (0 < s.size) = true := decide_eq_true hz
  have c4 : decide ((0 : Int) < (s.size : Int)) = true := decide_eq_true (by omega)
  clear h
  go_enter Try.func49, Try.ntmps49
  go_wp2_with fail
  go_ret2
  exact ⟨by first | rfl | (simp; done), rfl⟩
theorem mch_lit {x d : UInt8} {q r : List UInt8} (h : x ≠ 63) : mch (x :: q) (d :: r) = if x = d then mch q r else none := by
  rw [mch]
  by_cases hd : x = d
  · rw [if_pos (.inr ⟨h, hd⟩), if_pos hd]
  · rw [if_neg (fun hh => hh.elim (fun hh => h hh.1) (fun hh => hd hh.2)), if_neg hd]
theorem mch_any {d : UInt8} {q r : List UInt8} : mch (63 :: q) (d :: r) = if d = 47 then none else mch q r := by
  rw [mch]
  by_cases hd : d = 47
  · rw [if_neg (fun hh => hh.elim (fun hh => hh.2 hd) (fun hh => hh.1 rfl)), if_pos hd]
  · rw [if_pos (.inl ⟨rfl, hd⟩), if_neg hd]
theorem matchChunk_any (c s : ByteArray) (hc : ∀ x ∈ c.data.toList, x ≠ 91 ∧ x ≠ 92) (hs : ∀ x ∈ s.data.toList, x.toNat < 128) (hcz : c.size ≤ 1000000) (hsz : s.size ≤ 1000000) (w : World) :
    Calls Try.prog 48 #[.string c, .string s] w (ChunkPost w (mch c.data.toList s.data.toList)) := by
  have HC := Aside0.mk hc
  have HS := Aside0.mk hs
  have HCZ := Aside0.mk hcz
  have HSZ := Aside0.mk hsz
  obtain ⟨res, hres⟩ : ∃ r, mch c.data.toList s.data.toList = r := ⟨_, rfl⟩
  rw [hres]
  have HRES := Aside0.mk hres
  clear hc hs hres hcz hsz
  go_enter Try.func48, Try.ntmps48
  go_wp2_with fail
  go_loopg [0, 1, 7] (c.data.toList.length + 1) (fun kq v0 v1 v7 w' => ∃ (c' s' : ByteArray) (f : Bool), v0 = .string c' ∧ v1 = .string s' ∧ v7 = .bool f ∧ Aside0 (c'.data.toList.length < kq) ∧ Aside0 (c'.size ≤ 1000000) ∧ Aside0 (s'.size ≤ 1000000) ∧ Aside0 (∀ x ∈ c'.data.toList, x ≠ 91 ∧ x ≠ 92) ∧ Aside0 (∀ x ∈ s'.data.toList, x.toNat < 128) ∧ Aside0 (res = if f = true then none else mch c'.data.toList s'.data.toList) ∧ Aside0 (Drn w w'))
  case atStart => exact ⟨c, s, false, rfl, rfl, rfl, ⟨by omega⟩, HCZ, HSZ, HC, HS, ⟨by rw [if_neg (by decide)]; exact HRES.out.symm⟩, ⟨Drn.refl w⟩⟩
  case round =>
    clear HC HS HCZ HSZ HRES
    obtain ⟨c', s', f, rfl, rfl, rfl, HK, HCZ, HSZ, HPL, HAS, HRS, HD⟩ := hrel
    have hcz := HCZ.out
    have hsz := HSZ.out
    cases gk with
    | zero => exact absurd HK.out (by omega)
    | succ k1 =>
      by_cases hem : c'.data.toList = []
      · have hz : c'.size = 0 := by rw [← size_list, hem]; rfl
        have c0 : decide ((0 : Int) < (c'.size : Int)) = false := decide_eq_false (by omega)
        have c1 : decide (0 < c'.size) = false := decide_eq_false (by omega)
        have HR := Aside0.mk (show res = if f = true then none else some s'.data.toList from by rw [HRS.out, hem, mch])
        clear hem HRS HK HCZ HSZ HPL HAS
        cases f with
        | true =>
          go_wp2_with fail
          go_ret3
          exact ⟨_, false, rfl, HD.out, HR.out⟩
        | false =>
          go_wp2_with fail
          go_ret3
          exact ⟨_, true, rfl, HD.out, HR.out⟩
      · have hz : 0 < c'.size := by rw [← size_list]; exact List.length_pos_iff.2 hem
        obtain ⟨x, q, hxq⟩ : ∃ x q, c'.data.toList = x :: q := by
          cases h : c'.data.toList with
          | nil => exact absurd h hem
          | cons x q => exact ⟨x, q, rfl⟩
        have c0 : decide ((0 : Int) < (c'.size : Int)) = true := decide_eq_true (by omega)
        have c1 : decide (0 < c'.size) = true := decide_eq_true hz
        have hix : ∀ h : 0 < c'.size, ((c'[0]'h).toNat : Int) = (x.toNat : Int) := fun h => by
          rw [at_list c' 0 h (by rw [hxq]; simp)]
          simp only [hxq, List.getElem_cons_zero]
        have q1 : (1 : Int) ≤ (c'.size : Int) := by omega
        have q2 : 1 ≤ c'.size := hz
        have HE := Aside0.mk (show (c'.extract 1 c'.size).data.toList = q from by rw [ext_list, ← size_list, List.take_length, hxq]; rfl)
        have HK2 := Aside0.mk (show (c'.extract 1 c'.size).data.toList.length < k1 from by
          rw [HE.out]; have := HK.out; rw [hxq, List.length_cons] at this; omega)
        have HCZ2 := Aside0.mk (show (c'.extract 1 c'.size).size ≤ 1000000 from by rw [ByteArray.size_extract]; omega)
        have HPL2 := Aside0.mk (show ∀ y ∈ (c'.extract 1 c'.size).data.toList, y ≠ 91 ∧ y ≠ 92 from fun y hy => HPL.out y (by rw [hxq]; rw [HE.out] at hy; exact List.mem_cons_of_mem _ hy))
        have hpx := HPL.out x (by rw [hxq]; exact List.mem_cons_self)
        have e1 : ((x.toNat : Int) == 91) = false := by rw [beq_eq_false_iff_ne]; exact plain_ne hpx.1
        have e2 : ((x.toNat : Int) == 92) = false := by rw [beq_eq_false_iff_ne]; exact plain_ne hpx.2
        have HRS2 := HRS.out
        rw [hxq] at HRS2
        have HRS2 := Aside0.mk HRS2
        clear hem hxq HRS HK HCZ HPL hpx
        cases f with
        | true =>
          have HR := Aside0.mk (show res = none from by rw [HRS2.out, if_pos rfl])
          clear HRS2
          by_cases hx : x = 63
          · have e3 : ((x.toNat : Int) == 63) = true := by rw [hx]; rfl
            clear hx
            go_wp2_with fail
            go_roundg k1
            case measure => omega
            case rel => exact ⟨_, _, true, rfl, rfl, rfl, HK2, HCZ2, HSZ, HPL2, HAS, ⟨by rw [if_pos rfl]; exact HR.out⟩, HD⟩
          · have e3 : ((x.toNat : Int) == 63) = false := by rw [beq_eq_false_iff_ne]; exact plain_ne hx
            clear hx
            go_wp2_with fail
            go_roundg k1
            case measure => omega
            case rel => exact ⟨_, _, true, rfl, rfl, rfl, HK2, HCZ2, HSZ, HPL2, HAS, ⟨by rw [if_pos rfl]; exact HR.out⟩, HD⟩
        | false =>
          by_cases hse : s'.data.toList = []
          · have hs0 : s'.size = 0 := by rw [← size_list, hse]; rfl
            have z1 : ((s'.size : Int) == 0) = true := by rw [hs0]; rfl
            have z2 : (s'.size == 0) = true := by rw [hs0]; rfl
            have HR := Aside0.mk (show res = none from by rw [HRS2.out, if_neg (by decide), hse, mch])
            clear HRS2 hse hs0
            by_cases hx : x = 63
            · have e3 : ((x.toNat : Int) == 63) = true := by rw [hx]; rfl
              clear hx
              go_wp2_with fail
              go_roundg k1
              case measure => omega
              case rel => exact ⟨_, _, true, rfl, rfl, rfl, HK2, HCZ2, HSZ, HPL2, HAS, ⟨by rw [if_pos rfl]; exact HR.out⟩, HD⟩
            · have e3 : ((x.toNat : Int) == 63) = false := by rw [beq_eq_false_iff_ne]; exact plain_ne hx
              clear hx
              go_wp2_with fail
              go_roundg k1
              case measure => omega
              case rel => exact ⟨_, _, true, rfl, rfl, rfl, HK2, HCZ2, HSZ, HPL2, HAS, ⟨by rw [if_pos rfl]; exact HR.out⟩, HD⟩
          · have hsp : 0 < s'.size := by rw [← size_list]; exact List.length_pos_iff.2 hse
            obtain ⟨d, r, hdr⟩ : ∃ d r, s'.data.toList = d :: r := by
              cases h : s'.data.toList with
              | nil => exact absurd h hse
              | cons d r => exact ⟨d, r, rfl⟩
            have z1 : ((s'.size : Int) == 0) = false := by rw [beq_eq_false_iff_ne]; omega
            have z2 : (s'.size == 0) = false := by rw [beq_eq_false_iff_ne]; omega
            have hiy : ∀ h : 0 < s'.size, ((s'[0]'h).toNat : Int) = (d.toNat : Int) := fun h => by
              rw [at_list s' 0 h (by rw [hdr]; simp)]
              simp only [hdr, List.getElem_cons_zero]
            have y0 : decide ((0 : Int) < (s'.size : Int)) = true := decide_eq_true (by omega)
            have y1 : decide (0 < s'.size) = true := decide_eq_true hsp
            have y2 : (1 : Int) ≤ (s'.size : Int) := by omega
            have y3 : 1 ≤ s'.size := hsp
            have HES := Aside0.mk (show (s'.extract 1 s'.size).data.toList = r from by rw [ext_list, ← size_list, List.take_length, hdr]; rfl)
            have HSZ2 := Aside0.mk (show (s'.extract 1 s'.size).size ≤ 1000000 from by rw [ByteArray.size_extract]; omega)
            have HAS2 := Aside0.mk (show ∀ y ∈ (s'.extract 1 s'.size).data.toList, y.toNat < 128 from fun y hy => HAS.out y (by rw [hdr]; rw [HES.out] at hy; exact List.mem_cons_of_mem _ hy))
            have HDA := Aside0.mk (HAS.out d (by rw [hdr]; exact List.mem_cons_self))
            have HR := Aside0.mk (show res = mch (x :: q) (d :: r) from by rw [HRS2.out, if_neg (by decide), hdr])
            have HDR := Aside0.mk hdr
            clear HRS2 hse hdr HAS HSZ
            by_cases hx : x = 63
            · have e3 : ((x.toNat : Int) == 63) = true := by rw [hx]; rfl
              have HR2 := Aside0.mk (show res = if d = 47 then none else mch q r from by rw [HR.out, hx, mch_any])
              have HDC := Aside0.mk (decode_any s' wr d r HDR.out HDA.out hsz)
              clear hx HR HDR HDA
              by_cases h47 : d = 47
              · have e4 : ((d.toNat : Int) == 47) = true := by rw [h47]; rfl
                have HR3 := Aside0.mk (show res = none from by rw [HR2.out, if_pos h47])
                clear h47 HR2
                go_wp2_with (go_at_call 49; refine HDC.out.mono ?_; rintro e w' ⟨rfl, rfl⟩)
                go_roundg k1
                case measure => omega
                case rel => exact ⟨_, _, true, rfl, rfl, rfl, HK2, HCZ2, HSZ2, HPL2, HAS2, ⟨by rw [if_pos rfl]; exact HR3.out⟩, HD⟩
              · have e4 : ((d.toNat : Int) == 47) = false := by rw [beq_eq_false_iff_ne]; exact plain_ne h47
                have HR3 := Aside0.mk (show res = mch (c'.extract 1 c'.size).data.toList (s'.extract 1 s'.size).data.toList from by rw [HR2.out, if_neg h47, HE.out, HES.out])
                clear h47 HR2
                go_wp2_with (go_at_call 49; refine HDC.out.mono ?_; rintro e w' ⟨rfl, rfl⟩)
                go_roundg k1
                case measure => omega
                case rel => exact ⟨_, _, false, rfl, rfl, rfl, HK2, HCZ2, HSZ2, HPL2, HAS2, ⟨by rw [if_neg (by decide)]; exact HR3.out⟩, HD⟩
            · have e3 : ((x.toNat : Int) == 63) = false := by rw [beq_eq_false_iff_ne]; exact plain_ne hx
              have HR2 := Aside0.mk (show res = if x = d then mch q r else none from by rw [HR.out, mch_lit hx])
              clear hx HR HDR HDA
              by_cases hxd : x = d
              · have e4 : (!((x.toNat : Int) == (d.toNat : Int))) = false := by rw [hxd]; simp
                have e5 : ((x.toNat : Int) == (d.toNat : Int)) = true := by rw [hxd]; simp
                have e6 : ((x.toNat : Int) != (d.toNat : Int)) = false := by rw [hxd]; simp
                have HR3 := Aside0.mk (show res = mch (c'.extract 1 c'.size).data.toList (s'.extract 1 s'.size).data.toList from by rw [HR2.out, if_pos hxd, HE.out, HES.out])
                clear hxd HR2
                go_wp2_with fail
                go_quiet (fail)
                go_wp2_with fail
                go_roundg k1
                case measure => omega
                case rel => exact ⟨_, _, false, rfl, rfl, by first | rfl | (simp [e4, e5, e6]; done), HK2, HCZ2, HSZ2, HPL2, HAS2, ⟨by rw [if_neg (by decide)]; exact HR3.out⟩, ⟨HD.out.drewN _⟩⟩
              · have e4 : (!((x.toNat : Int) == (d.toNat : Int))) = true := by simp [plain_ne hxd]
                have e5 : ((x.toNat : Int) == (d.toNat : Int)) = false := by rw [beq_eq_false_iff_ne]; exact plain_ne hxd
                have e6 : ((x.toNat : Int) != (d.toNat : Int)) = true := by simp [plain_ne hxd]
                have HR3 := Aside0.mk (show res = none from by rw [HR2.out, if_neg hxd])
                clear hxd HR2
                go_wp2_with fail
                go_quiet (fail)
                go_wp2_with fail
                go_roundg k1
                case measure => omega
                case rel => exact ⟨_, _, true, rfl, rfl, by first | rfl | (simp [e4, e5, e6]; done), HK2, HCZ2, HSZ2, HPL2, HAS2, ⟨by rw [if_pos rfl]; exact HR3.out⟩, ⟨HD.out.drewN _⟩⟩
end Go.Proofs.Ytbiflpbajgafaaa.ign
