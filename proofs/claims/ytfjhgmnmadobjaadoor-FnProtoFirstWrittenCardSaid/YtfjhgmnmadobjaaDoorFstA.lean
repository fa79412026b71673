/- The first line of a conversation: spec.ProtoText. -/
import Derived.Test.YtfjhgmnmadobjaaDoorFstP
import Derived.WalkSpells
import Derived.Deep.QuietTactic
import Derived.BigQuiet
namespace Go.Proofs.YtfjhgmnmadobjaaDoor.fst
open Go.RowKit Go.Proofs.YtfjhgmnmadobjaaDoorW.PrintWords Go.Proofs.YtfjhgmnmadobjaaDoorW.PrintLast Go.Proofs.YtfjhgmnmadobjaaDoorW.PrintMore Go.Proofs.YtfjhgmnmadobjaaDoor.PFnProtoFirstWritten Go.Proofs.YtfjhgmnmadobjaaDoor.pkt Go.Proofs.YtfjhgmnmadobjaaDoor.buf Go.Proofs.YtfjhgmnmadobjaaDoor.enc
set_option linter.unusedVariables false
set_option linter.unusedSimpArgs false
set_option maxHeartbeats 2000000
set_option maxRecDepth 100000
theorem withHost_no (r : ByteArray) : withHost r ⟨#[]⟩ = r := if_pos rfl
theorem withHost_yes {h : ByteArray} (hh : h.size ≠ 0) (r : ByteArray) : withHost r h = r ++ hostT h := if_neg hh
theorem empty_of {h : ByteArray} (hh : h.size = 0) : h = ⟨#[]⟩ := by
  apply ByteArray.ext
  exact Array.size_eq_zero_iff.1 hh
theorem not_empty {h : ByteArray} (hh : h.size ≠ 0) : h.toList.isEmpty = false ∧ (h.toList == []) = false ∧ h.toList ≠ [] := by
  have hne : h.toList ≠ [] := fun e => by
    rw [ByteArray.toList_eq] at e
    apply hh
    show h.data.size = 0
    rw [← Array.length_toList, e]; rfl
  exact ⟨List.isEmpty_eq_false_iff.2 hne, beq_eq_false_iff_ne.2 hne, hne⟩
/-- The line of a text is returned. -/
def TextPost (T : ByteArray) (w : World) (e : Ending) (w' : World) : Prop := ∃ A' c', e = .returned (.slice A' (pline (Go.Proofs.YtfjhgmnmadobjaaDoorW.PrintWords.bytesOf T)).length c') ∧ (pline (Go.Proofs.YtfjhgmnmadobjaaDoorW.PrintWords.bytesOf T)).length ≤ c' ∧ (Kd.int .u8).C w' A' (pline (Go.Proofs.YtfjhgmnmadobjaaDoorW.PrintWords.bytesOf T)).length (pline (Go.Proofs.YtfjhgmnmadobjaaDoorW.PrintWords.bytesOf T)) ∧ Below w.heap.size w w'
theorem spec_line (w : World) (W : World) (s : ByteArray) (m : Nat) (hb : Below w.heap.size w W) (hm : s.size = m) (h1 : s.size ≤ 65516) :
    Calls Tryd.prog 19 #[.slice (some ⟨W.heap.size, 0, none⟩) m (grownCap W m 0 5)] (Lib.bytesWorld W 5 s) (TextPost s w) := by
  subst hm
  have hr := bytes_reads W 5 s (by omega)
  have hC : (Kd.int .u8).C (Lib.bytesWorld W 5 s) (some ⟨W.heap.size, 0, none⟩) (Go.Proofs.YtfjhgmnmadobjaaDoorW.PrintWords.bytesOf s).length (Go.Proofs.YtfjhgmnmadobjaaDoorW.PrintWords.bytesOf s) := by
    rw [bytesOf_length]; exact Kd.C_of_reads (enc := Value.int .u8) (d := (0 : Int)) (h1 := fun _ => rfl) hr
  have hl := bytesOf_length s
  have := line_any (Lib.bytesWorld W 5 s) (some ⟨W.heap.size, 0, none⟩) (grownCap W s.size 0 5) (Go.Proofs.YtfjhgmnmadobjaaDoorW.PrintWords.bytesOf s) hC (by rw [hl]; exact grownCap_ge W s.size 0 5) (by omega)
  rw [hl] at this
  refine this.mono ?_
  rintro e w' ⟨A', c', h1, h2, h3, h4⟩
  exact ⟨A', c', h1, h2, h3, below_step (bytes_below hb hb.size _ _) h4⟩
theorem protoText_00 (w : World) (c p h : ByteArray) (A : Option Addr) (n cc : Nat) (l : List ByteArray) (ok : FstOk c p h l) (hC : Kd.string.C w A l.length l) (hn : l.length = n) (hcc : n ≤ cc) (hl0 : l = []) (hh : h = ⟨#[]⟩) :
    Calls Tryd.prog 10 #[.string c, .string p, .string h, .slice A n cc] w (TextPost (fstT c p h l) w) := by
  obtain ⟨k1, k2⟩ := ok.c
  obtain ⟨k3, k4⟩ := ok.p
  have k5 := ok.h
  have k6 := ok.n
  have HSZ := Aside0.mk (fstT_size ok)
  subst hh
  clear k5
  have r0 : c.size + 1 ≤ 9223372036854775807 := by omega
  have r0a := eq_true r0
  have r0b := decide_eq_true r0
  have r0c := eq_false (Nat.not_lt.2 r0)
  have r1 : c.size + 1 + p.size ≤ 9223372036854775807 := by omega
  have r1a := eq_true r1
  have r1b := decide_eq_true r1
  have r1c := eq_false (Nat.not_lt.2 r1)
  have r2 : c.size + 1 + p.size + 1 ≤ 9223372036854775807 := by omega
  have r2a := eq_true r2
  have r2b := decide_eq_true r2
  have r2c := eq_false (Nat.not_lt.2 r2)
  subst hl0
  obtain rfl : n = 0 := hn.symm
  have HTT := Aside0.mk (show headT c p = fstT c p ⟨#[]⟩ [] from by unfold fstT withExt; rw [if_pos rfl, withHost_no])
  have hcv := fun (W : World) (s : ByteArray) => Lib.run_convert_string_bytes (P := Tryd.prog) W 9 26 5 s (u := .string) Tryd.underlying9 Tryd.underlying26 Tryd.underlying5
  unfold headT at HTT
  clear ok hC hn hcc k1 k2 k3 k4 k6
  go_enter Tryd.func10, Tryd.ntmps10
  go_wp2_with fail
  refine (spec_line w _ _ _ (Below.refl _ _) (by simp only [ByteArray.size_append]; rfl) (by rw [HTT.out]; have := HSZ.out.2; omega)).mono ?_
  rintro e w2 hq
  rw [HTT.out] at hq
  obtain ⟨A', c', rfl, q1, q2, q3⟩ := hq
  have Q := Aside0.mk (And.intro q1 (And.intro q2 q3))
  clear q1 q2 q3 hcv
  go_wp2_with fail
  go_ret
  exact ⟨A', c', rfl, Q.out⟩
theorem protoText_01 (w : World) (c p h : ByteArray) (A : Option Addr) (n cc : Nat) (l : List ByteArray) (ok : FstOk c p h l) (hC : Kd.string.C w A l.length l) (hn : l.length = n) (hcc : n ≤ cc) (hl0 : l ≠ []) (hh : h = ⟨#[]⟩) :
    Calls Tryd.prog 10 #[.string c, .string p, .string h, .slice A n cc] w (TextPost (fstT c p h l) w) := by
  obtain ⟨k1, k2⟩ := ok.c
  obtain ⟨k3, k4⟩ := ok.p
  have k5 := ok.h
  have k6 := ok.n
  have HSZ := Aside0.mk (fstT_size ok)
  subst hh
  clear k5
  have r0 : c.size + 1 ≤ 9223372036854775807 := by omega
  have r0a := eq_true r0
  have r0b := decide_eq_true r0
  have r0c := eq_false (Nat.not_lt.2 r0)
  have r1 : c.size + 1 + p.size ≤ 9223372036854775807 := by omega
  have r1a := eq_true r1
  have r1b := decide_eq_true r1
  have r1c := eq_false (Nat.not_lt.2 r1)
  have r2 : c.size + 1 + p.size + 1 ≤ 9223372036854775807 := by omega
  have r2a := eq_true r2
  have r2b := decide_eq_true r2
  have r2c := eq_false (Nat.not_lt.2 r2)
  have x0 : c.size + 1 + p.size + 1 + 1 ≤ 9223372036854775807 := by omega
  have x0a := eq_true x0
  have x0b := decide_eq_true x0
  have x0c := eq_false (Nat.not_lt.2 x0)
  have HC := Aside0.mk hC
  have HOK := Aside0.mk ok
  have HN := Aside0.mk hn
  have hpos : 0 < n := by rw [← hn]; exact List.length_pos_iff.2 hl0
  have HTT := Aside0.mk (show ext ((headT c p) ++ (⟨#[0]⟩ : ByteArray)) l = fstT c p ⟨#[]⟩ l from by unfold fstT withExt; rw [if_neg hl0, withHost_no])
  obtain ⟨R, hR⟩ : ∃ R, (headT c p) ++ (⟨#[0]⟩ : ByteArray) = R := ⟨_, rfl⟩
  have HRS := Aside0.mk (show R.size ≤ 300 from by rw [← hR]; simp only [ByteArray.size_append, headT_size]; show _ + 1 ≤ _; omega)
  rw [hR] at HTT
  have HR := Aside0.mk hR
  unfold headT at HR
  have HTK := Aside0.mk (fun k (hk : k ≤ n) => show (ext R (l.take k)).size ≤ 1000 from by
    have h1 := ext_size R (l.take k) (fun e he => ok.l e (List.mem_of_mem_take he))
    have h2 := HRS.out
    have h3 : (l.take k).length ≤ 9 := by rw [List.length_take]; omega
    omega)
  have c0 : decide ((0 : Int) < (n : Int)) = true := decide_eq_true (by omega)
  have c1 : decide (0 < n) = true := decide_eq_true hpos
  clear ok hC hn k1 k2 k3 k4 hR hl0
  go_enter Tryd.func10, Tryd.ntmps10
  go_wp2_with fail
  go_loopg [9, 31] (n + 1) (fun kq v9 v31 w' => ∃ (k : Nat) (s : ByteArray), v9 = .string s ∧ v31 = .int .i64 (k : Int) ∧ k ≤ n ∧ Aside0 (kq + k = n + 1) ∧ Aside0 (s = ext R (l.take k)) ∧ Aside0 (w = w'))
  case atStart => exact ⟨0, _, rfl, rfl, Nat.zero_le _, ⟨by omega⟩, ⟨by rw [List.take_zero, ext_nil]; exact HR.out⟩, ⟨rfl⟩⟩
  case round =>
    obtain ⟨k, s, rfl, rfl, hk, HK, HS, HW⟩ := hrel
    obtain rfl := HW.out
    have hs : s.size ≤ 1000 := by rw [HS.out]; exact HTK.out k hk
    cases gk with
    | zero => exact absurd HK.out (by omega)
    | succ m =>
      by_cases hlt : k < n
      · have hkl : k < l.length := by rw [HN.out]; exact hlt
        have p1 : (0 : Int) ≤ (k : Int) := by omega
        have p2 : (k : Int) < (n : Int) := by omega
        obtain ⟨ad, e, hx⟩ := Kd.at_string HC.out (k : Int) p1 (by omega)
        cases e
        rw [rdOf_list l k hkl, Int.toNat_natCast] at hx
        obtain ⟨a, ha⟩ : ∃ a, l[k] = a := ⟨_, rfl⟩
        have hasz : a.size ≤ 60 := by rw [← ha]; exact HOK.out.l _ (List.getElem_mem hkl)
        rw [ha] at hx
        have HNX := Aside0.mk (show s ++ (a ++ (⟨#[0]⟩ : ByteArray)) = ext R (l.take (k + 1)) from by rw [ext_take R l k hkl, HS.out, ha])
        have c2 : decide ((k : Int) < (n : Int)) = true := decide_eq_true p2
        have c3 : decide (k < n) = true := decide_eq_true hlt
        have z1 : a.size + 1 ≤ 9223372036854775807 := by omega
        have z1a := eq_true z1
        have z2 : s.size + (a.size + 1) ≤ 9223372036854775807 := by omega
        have z2a := eq_true z2
        clear ha
        go_wp2_with fail
        go_roundg m
        case measure => omega
        case rel => exact ⟨k + 1, _, rfl, by go_num, by omega, ⟨by have := HK.out; omega⟩, HNX, ⟨rfl⟩⟩
      · obtain rfl : k = n := by omega
        have c2 : decide ((k : Int) < (k : Int)) = false := decide_eq_false (by omega)
        have HTT2 := Aside0.mk (show s = fstT c p ⟨#[]⟩ l from by rw [HS.out, List.take_of_length_le (by rw [HN.out]; exact Nat.le_refl _), HTT.out])
        have hcv := fun (W : World) => Lib.run_convert_string_bytes (P := Tryd.prog) W 9 26 5 s (u := .string) Tryd.underlying9 Tryd.underlying26 Tryd.underlying5
        go_wp2_with fail
        refine (spec_line w _ _ _ (Below.refl _ _) rfl (by omega)).mono ?_
        rintro e w2 hq
        rw [HTT2.out] at hq
        obtain ⟨A', c', rfl, q1, q2, q3⟩ := hq
        have Q := Aside0.mk (And.intro q1 (And.intro q2 q3))
        clear q1 q2 q3 hcv
        go_wp2_with fail
        go_ret
        exact ⟨A', c', rfl, Q.out⟩
theorem protoText_10 (w : World) (c p h : ByteArray) (A : Option Addr) (n cc : Nat) (l : List ByteArray) (ok : FstOk c p h l) (hC : Kd.string.C w A l.length l) (hn : l.length = n) (hcc : n ≤ cc) (hl0 : l = []) (hh : h.size ≠ 0) :
    Calls Tryd.prog 10 #[.string c, .string p, .string h, .slice A n cc] w (TextPost (fstT c p h l) w) := by
  obtain ⟨k1, k2⟩ := ok.c
  obtain ⟨k3, k4⟩ := ok.p
  have k5 := ok.h
  have k6 := ok.n
  have HSZ := Aside0.mk (fstT_size ok)
  have r0 : c.size + 1 ≤ 9223372036854775807 := by omega
  have r0a := eq_true r0
  have r0b := decide_eq_true r0
  have r0c := eq_false (Nat.not_lt.2 r0)
  have r1 : c.size + 1 + p.size ≤ 9223372036854775807 := by omega
  have r1a := eq_true r1
  have r1b := decide_eq_true r1
  have r1c := eq_false (Nat.not_lt.2 r1)
  have r2 : c.size + 1 + p.size + 1 ≤ 9223372036854775807 := by omega
  have r2a := eq_true r2
  have r2b := decide_eq_true r2
  have r2c := eq_false (Nat.not_lt.2 r2)
  have r3 : 5 + h.size ≤ 9223372036854775807 := by omega
  have r3a := eq_true r3
  have r3b := decide_eq_true r3
  have r3c := eq_false (Nat.not_lt.2 r3)
  have r4 : 5 + h.size + 1 ≤ 9223372036854775807 := by omega
  have r4a := eq_true r4
  have r4b := decide_eq_true r4
  have r4c := eq_false (Nat.not_lt.2 r4)
  have r5 : c.size + 1 + p.size + 1 + (5 + h.size + 1) ≤ 9223372036854775807 := by omega
  have r5a := eq_true r5
  have r5b := decide_eq_true r5
  have r5c := eq_false (Nat.not_lt.2 r5)
  obtain ⟨i1, i2, i3⟩ := not_empty hh
  subst hl0
  obtain rfl : n = 0 := hn.symm
  have HTT := Aside0.mk (show headT c p ++ hostT h = fstT c p h [] from by unfold fstT withExt; rw [if_pos rfl, withHost_yes hh])
  have hcv := fun (W : World) (s : ByteArray) => Lib.run_convert_string_bytes (P := Tryd.prog) W 9 26 5 s (u := .string) Tryd.underlying9 Tryd.underlying26 Tryd.underlying5
  unfold headT hostT at HTT
  clear ok hC hn hcc k1 k2 k3 k4 k5 hh k6
  go_enter Tryd.func10, Tryd.ntmps10
  go_wp2_with fail
  refine (spec_line w _ _ _ (Below.refl _ _) (by simp only [ByteArray.size_append]; rfl) (by rw [HTT.out]; have := HSZ.out.2; omega)).mono ?_
  rintro e w2 hq
  rw [HTT.out] at hq
  obtain ⟨A', c', rfl, q1, q2, q3⟩ := hq
  have Q := Aside0.mk (And.intro q1 (And.intro q2 q3))
  clear q1 q2 q3 hcv
  go_wp2_with fail
  go_ret
  exact ⟨A', c', rfl, Q.out⟩
theorem protoText_11 (w : World) (c p h : ByteArray) (A : Option Addr) (n cc : Nat) (l : List ByteArray) (ok : FstOk c p h l) (hC : Kd.string.C w A l.length l) (hn : l.length = n) (hcc : n ≤ cc) (hl0 : l ≠ []) (hh : h.size ≠ 0) :
    Calls Tryd.prog 10 #[.string c, .string p, .string h, .slice A n cc] w (TextPost (fstT c p h l) w) := by
  obtain ⟨k1, k2⟩ := ok.c
  obtain ⟨k3, k4⟩ := ok.p
  have k5 := ok.h
  have k6 := ok.n
  have HSZ := Aside0.mk (fstT_size ok)
  have r0 : c.size + 1 ≤ 9223372036854775807 := by omega
  have r0a := eq_true r0
  have r0b := decide_eq_true r0
  have r0c := eq_false (Nat.not_lt.2 r0)
  have r1 : c.size + 1 + p.size ≤ 9223372036854775807 := by omega
  have r1a := eq_true r1
  have r1b := decide_eq_true r1
  have r1c := eq_false (Nat.not_lt.2 r1)
  have r2 : c.size + 1 + p.size + 1 ≤ 9223372036854775807 := by omega
  have r2a := eq_true r2
  have r2b := decide_eq_true r2
  have r2c := eq_false (Nat.not_lt.2 r2)
  have r3 : 5 + h.size ≤ 9223372036854775807 := by omega
  have r3a := eq_true r3
  have r3b := decide_eq_true r3
  have r3c := eq_false (Nat.not_lt.2 r3)
  have r4 : 5 + h.size + 1 ≤ 9223372036854775807 := by omega
  have r4a := eq_true r4
  have r4b := decide_eq_true r4
  have r4c := eq_false (Nat.not_lt.2 r4)
  have r5 : c.size + 1 + p.size + 1 + (5 + h.size + 1) ≤ 9223372036854775807 := by omega
  have r5a := eq_true r5
  have r5b := decide_eq_true r5
  have r5c := eq_false (Nat.not_lt.2 r5)
  have x0 : c.size + 1 + p.size + 1 + (5 + h.size + 1) + 1 ≤ 9223372036854775807 := by omega
  have x0a := eq_true x0
  have x0b := decide_eq_true x0
  have x0c := eq_false (Nat.not_lt.2 x0)
  obtain ⟨i1, i2, i3⟩ := not_empty hh
  have HC := Aside0.mk hC
  have HOK := Aside0.mk ok
  have HN := Aside0.mk hn
  have hpos : 0 < n := by rw [← hn]; exact List.length_pos_iff.2 hl0
  have HTT := Aside0.mk (show ext ((headT c p ++ hostT h) ++ (⟨#[0]⟩ : ByteArray)) l = fstT c p h l from by unfold fstT withExt; rw [if_neg hl0, withHost_yes hh])
  obtain ⟨R, hR⟩ : ∃ R, (headT c p ++ hostT h) ++ (⟨#[0]⟩ : ByteArray) = R := ⟨_, rfl⟩
  have HRS := Aside0.mk (show R.size ≤ 300 from by rw [← hR]; simp only [ByteArray.size_append, headT_size, hostT_size]; show _ + 1 ≤ _; omega)
  rw [hR] at HTT
  have HR := Aside0.mk hR
  unfold headT hostT at HR
  have HTK := Aside0.mk (fun k (hk : k ≤ n) => show (ext R (l.take k)).size ≤ 1000 from by
    have h1 := ext_size R (l.take k) (fun e he => ok.l e (List.mem_of_mem_take he))
    have h2 := HRS.out
    have h3 : (l.take k).length ≤ 9 := by rw [List.length_take]; omega
    omega)
  have c0 : decide ((0 : Int) < (n : Int)) = true := decide_eq_true (by omega)
  have c1 : decide (0 < n) = true := decide_eq_true hpos
  clear ok hC hn k1 k2 k3 k4 k5 hh hR hl0
  go_enter Tryd.func10, Tryd.ntmps10
  go_wp2_with fail
  go_loopg [9, 31] (n + 1) (fun kq v9 v31 w' => ∃ (k : Nat) (s : ByteArray), v9 = .string s ∧ v31 = .int .i64 (k : Int) ∧ k ≤ n ∧ Aside0 (kq + k = n + 1) ∧ Aside0 (s = ext R (l.take k)) ∧ Aside0 (w = w'))
  case atStart => exact ⟨0, _, rfl, rfl, Nat.zero_le _, ⟨by omega⟩, ⟨by rw [List.take_zero, ext_nil]; exact HR.out⟩, ⟨rfl⟩⟩
  case round =>
    obtain ⟨k, s, rfl, rfl, hk, HK, HS, HW⟩ := hrel
    obtain rfl := HW.out
    have hs : s.size ≤ 1000 := by rw [HS.out]; exact HTK.out k hk
    cases gk with
    | zero => exact absurd HK.out (by omega)
    | succ m =>
      by_cases hlt : k < n
      · have hkl : k < l.length := by rw [HN.out]; exact hlt
        have p1 : (0 : Int) ≤ (k : Int) := by omega
        have p2 : (k : Int) < (n : Int) := by omega
        obtain ⟨ad, e, hx⟩ := Kd.at_string HC.out (k : Int) p1 (by omega)
        cases e
        rw [rdOf_list l k hkl, Int.toNat_natCast] at hx
        obtain ⟨a, ha⟩ : ∃ a, l[k] = a := ⟨_, rfl⟩
        have hasz : a.size ≤ 60 := by rw [← ha]; exact HOK.out.l _ (List.getElem_mem hkl)
        rw [ha] at hx
        have HNX := Aside0.mk (show s ++ (a ++ (⟨#[0]⟩ : ByteArray)) = ext R (l.take (k + 1)) from by rw [ext_take R l k hkl, HS.out, ha])
        have c2 : decide ((k : Int) < (n : Int)) = true := decide_eq_true p2
        have c3 : decide (k < n) = true := decide_eq_true hlt
        have z1 : a.size + 1 ≤ 9223372036854775807 := by omega
        have z1a := eq_true z1
        have z2 : s.size + (a.size + 1) ≤ 9223372036854775807 := by omega
        have z2a := eq_true z2
        clear ha
        go_wp2_with fail
        go_roundg m
        case measure => omega
        case rel => exact ⟨k + 1, _, rfl, by go_num, by omega, ⟨by have := HK.out; omega⟩, HNX, ⟨rfl⟩⟩
      · obtain rfl : k = n := by omega
        have c2 : decide ((k : Int) < (k : Int)) = false := decide_eq_false (by omega)
        have HTT2 := Aside0.mk (show s = fstT c p h l from by rw [HS.out, List.take_of_length_le (by rw [HN.out]; exact Nat.le_refl _), HTT.out])
        have hcv := fun (W : World) => Lib.run_convert_string_bytes (P := Tryd.prog) W 9 26 5 s (u := .string) Tryd.underlying9 Tryd.underlying26 Tryd.underlying5
        go_wp2_with fail
        refine (spec_line w _ _ _ (Below.refl _ _) rfl (by omega)).mono ?_
        rintro e w2 hq
        rw [HTT2.out] at hq
        obtain ⟨A', c', rfl, q1, q2, q3⟩ := hq
        have Q := Aside0.mk (And.intro q1 (And.intro q2 q3))
        clear q1 q2 q3 hcv
        go_wp2_with fail
        go_ret
        exact ⟨A', c', rfl, Q.out⟩
theorem protoText_any (w : World) (c p h : ByteArray) (A : Option Addr) (n cc : Nat) (l : List ByteArray) (ok : FstOk c p h l) (hC : Kd.string.C w A l.length l) (hn : l.length = n) (hcc : n ≤ cc) :
    Calls Tryd.prog 10 #[.string c, .string p, .string h, .slice A n cc] w (TextPost (fstT c p h l) w) := by
  by_cases hh : h.size = 0
  · obtain rfl := empty_of hh
    by_cases hl : l = []
    · exact protoText_00 w c p _ A n cc l ok hC hn hcc hl rfl
    · exact protoText_01 w c p _ A n cc l ok hC hn hcc hl rfl
  · by_cases hl : l = []
    · exact protoText_10 w c p _ A n cc l ok hC hn hcc hl hh
    · exact protoText_11 w c p _ A n cc l ok hC hn hcc hl hh
end Go.Proofs.YtfjhgmnmadobjaaDoor.fst
