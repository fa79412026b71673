/- The application of a delta: contract of patchDelta. -/
import Derived.Test.YtghcecngdhcjpaaDoorFields
import Derived.Test.YtghcecngdhcjpaaDoorGrow
namespace Go.Proofs.YtghcecngdhcjpaaDoor.leb
open Go.RowKit Go.Proofs.YtghcecngdhcjpaaDoorW.PrintWords Go.Proofs.YtghcecngdhcjpaaDoorW.PrintLast Go.Proofs.YtghcecngdhcjpaaDoorW.PrintMore
attribute [local go_sem] min_two
set_option linter.unusedVariables false
set_option maxHeartbeats 2000000
set_option maxRecDepth 100000
theorem isSrc_no (c : Int) (w : World) (h : bits .and .u8 c 128 = 0) :
    Calls Tryd.prog 67 #[.int .u8 c] w fun e w' => e = .returned (.bool false) ∧ w = w' := by
  go_enter Tryd.func67, Tryd.ntmps67
  go_wp2
  all_goals go_ret
  all_goals first | exact ⟨rfl, rfl⟩ | exact ⟨congrArg (fun b => Ending.returned (Value.bool b)) (by first | (simp; done) | (simp; omega) | (rw [Bool.or_eq_false_iff]; simp; omega) | (rw [Bool.or_eq_true]; simp; omega)), rfl⟩
theorem isSrc_yes (c : Int) (w : World) (h : bits .and .u8 c 128 = 128) :
    Calls Tryd.prog 67 #[.int .u8 c] w fun e w' => e = .returned (.bool true) ∧ w = w' := by
  go_enter Tryd.func67, Tryd.ntmps67
  go_wp2
  all_goals go_ret
  all_goals first | exact ⟨rfl, rfl⟩ | exact ⟨congrArg (fun b => Ending.returned (Value.bool b)) (by first | (simp; done) | (simp; omega) | (rw [Bool.or_eq_false_iff]; simp; omega) | (rw [Bool.or_eq_true]; simp; omega)), rfl⟩
theorem isDelta_yes (c : Nat) (w : World) (h : bits .and .u8 (c : Int) 128 = 0) (h0 : 0 < c) :
    Calls Tryd.prog 72 #[.int .u8 c] w fun e w' => e = .returned (.bool true) ∧ w = w' := by
  go_enter Tryd.func72, Tryd.ntmps72
  go_wp2
  all_goals go_ret
  all_goals first | exact ⟨rfl, rfl⟩ | exact ⟨congrArg (fun b => Ending.returned (Value.bool b)) (by first | (simp; done) | (simp; omega) | (rw [Bool.or_eq_false_iff]; simp; omega) | (rw [Bool.or_eq_true]; simp; omega)), rfl⟩
theorem size_ok (s r : Nat) (w : World) (h : s ≤ r) :
    Calls Tryd.prog 70 #[.int .u64 s, .int .u64 r] w fun e w' => e = .returned (.bool false) ∧ w = w' := by
  go_enter Tryd.func70, Tryd.ntmps70
  go_wp2
  all_goals go_ret
  all_goals first | exact ⟨rfl, rfl⟩ | exact ⟨congrArg (fun b => Ending.returned (Value.bool b)) (by first | (simp; done) | (simp; omega) | (rw [Bool.or_eq_false_iff]; simp; omega) | (rw [Bool.or_eq_true]; simp; omega)), rfl⟩
theorem size_bad (s r : Nat) (w : World) (h : r < s) :
    Calls Tryd.prog 70 #[.int .u64 s, .int .u64 r] w fun e w' => e = .returned (.bool true) ∧ w = w' := by
  go_enter Tryd.func70, Tryd.ntmps70
  go_wp2
  all_goals go_ret
  all_goals first | exact ⟨rfl, rfl⟩ | exact ⟨congrArg (fun b => Ending.returned (Value.bool b)) (by first | (simp; done) | (simp; omega) | (rw [Bool.or_eq_false_iff]; simp; omega) | (rw [Bool.or_eq_true]; simp; omega)), rfl⟩
theorem off_ok (o s n : Nat) (w : World) (h1 : o < 2 ^ 32) (h2 : s < 2 ^ 32) (h : o + s ≤ n) :
    Calls Tryd.prog 71 #[.int .u64 o, .int .u64 s, .int .u64 n] w fun e w' => e = .returned (.bool false) ∧ w = w' := by
  go_enter Tryd.func71, Tryd.ntmps71
  go_wp2
  all_goals go_ret
  all_goals first | exact ⟨rfl, rfl⟩ | exact ⟨congrArg (fun b => Ending.returned (Value.bool b)) (by first | (simp; done) | (simp; omega) | (rw [Bool.or_eq_false_iff]; simp; omega) | (rw [Bool.or_eq_true]; simp; omega)), rfl⟩
theorem off_bad (o s n : Nat) (w : World) (h1 : o < 2 ^ 32) (h2 : s < 2 ^ 32) (h : n < o + s) :
    Calls Tryd.prog 71 #[.int .u64 o, .int .u64 s, .int .u64 n] w fun e w' => e = .returned (.bool true) ∧ w = w' := by
  go_enter Tryd.func71, Tryd.ntmps71
  go_wp2
  all_goals go_ret
  all_goals first | exact ⟨rfl, rfl⟩ | exact ⟨congrArg (fun b => Ending.returned (Value.bool b)) (by first | (simp; done) | (simp; omega) | (rw [Bool.or_eq_false_iff]; simp; omega) | (rw [Bool.or_eq_true]; simp; omega)), rfl⟩
/-- The size that a copy says: no bytes say 65536. -/
def sizeOf (s : Nat) : Nat := if s = 0 then 65536 else s
/-- What the instructions make of a base, step by step: how much is still wanted, what stands ahead, what has been made, and the end. -/
inductive Patch (src : List Int) : Nat → List Int → List Int → Option (List Int) → Prop
  | done {out : List Int} : Patch src 0 [] out (some out)
  | more {x : Int} {d out : List Int} : Patch src 0 (x :: d) out none
  | cut {rem : Nat} {out : List Int} : 0 < rem → Patch src rem [] out none
  | zero {rem : Nat} {d out : List Int} : 0 < rem → Patch src rem (0 :: d) out none
  | insBig {rem c : Nat} {d out : List Int} : 0 < rem → 0 < c → c < 128 → rem < c → Patch src rem ((c : Int) :: d) out none
  | insCut {rem c : Nat} {d out : List Int} : 0 < rem → 0 < c → c < 128 → c ≤ rem → d.length < c → Patch src rem ((c : Int) :: d) out none
  | ins {rem c : Nat} {d out : List Int} {r : Option (List Int)} : 0 < rem → 0 < c → c < 128 → c ≤ rem → c ≤ d.length → Patch src (rem - c) (d.drop c) (out ++ d.take c) r → Patch src rem ((c : Int) :: d) out r
  | offCut {rem c : Nat} {d out : List Int} : 0 < rem → 128 ≤ c → c < 256 → fields [1, 2, 4, 8] 0 c 0 d = none → Patch src rem ((c : Int) :: d) out none
  | sizeCut {rem c o : Nat} {d d1 out : List Int} : 0 < rem → 128 ≤ c → c < 256 → fields [1, 2, 4, 8] 0 c 0 d = some (o, d1) → fields [16, 32, 64] 0 c 0 d1 = none → Patch src rem ((c : Int) :: d) out none
  | copyBad {rem c o s : Nat} {d d1 d2 out : List Int} : 0 < rem → 128 ≤ c → c < 256 → fields [1, 2, 4, 8] 0 c 0 d = some (o, d1) → fields [16, 32, 64] 0 c 0 d1 = some (s, d2) → (rem < sizeOf s ∨ src.length < o + sizeOf s) → Patch src rem ((c : Int) :: d) out none
  | copy {rem c o s : Nat} {d d1 d2 out : List Int} {r : Option (List Int)} : 0 < rem → 128 ≤ c → c < 256 → fields [1, 2, 4, 8] 0 c 0 d = some (o, d1) → fields [16, 32, 64] 0 c 0 d1 = some (s, d2) → sizeOf s ≤ rem → o + sizeOf s ≤ src.length →
      Patch src (rem - sizeOf s) d2 (out ++ (src.drop o).take (sizeOf s)) r → Patch src rem ((c : Int) :: d) out r
/-- Bytes. -/
def Bytes (xs : List Int) : Prop := ∀ x ∈ xs, 0 ≤ x ∧ x < 256
theorem fields_ok : ∀ (ms : List Nat) (k cmd acc : Nat) (xs : List Int) (v : Nat) (r : List Int), fields ms (8 * k) cmd acc xs = some (v, r) → acc < 2 ^ (8 * k) → Bytes xs → v < 2 ^ (8 * (k + ms.length)) ∧ r.length ≤ xs.length ∧ ∀ x ∈ r, x ∈ xs
  | [], k, cmd, acc, xs, v, r, h, ha, hb => by
    simp only [fields, Option.some.injEq, Prod.mk.injEq] at h
    obtain ⟨rfl, rfl⟩ := h
    exact ⟨by simpa using ha, Nat.le_refl _, fun x h => h⟩
  | m :: ms, k, cmd, acc, xs, v, r, h, ha, hb => by
    rw [fields_cons] at h
    have e : 8 * k + 8 = 8 * (k + 1) := by omega
    rw [e] at h
    have e2 : k + (m :: ms).length = (k + 1) + ms.length := by simp only [List.length_cons]; omega
    rw [e2]
    split at h
    · exact fields_ok ms (k + 1) cmd acc xs v r h (Nat.lt_of_lt_of_le ha (Nat.pow_le_pow_right (by decide) (by omega))) hb
    · cases xs with
      | nil => cases h
      | cons x t =>
        obtain ⟨h1, h2⟩ := hb x (by simp)
        obtain ⟨a, b, c⟩ := fields_ok ms (k + 1) cmd _ t v r h (field_lt acc x.toNat k ha (by omega)) (fun y hy => hb y (by simp [hy]))
        exact ⟨a, by simp only [List.length_cons]; omega, fun y hy => by simp [c y hy]⟩
/-- Bytes as values. -/
def vals (xs : List Int) : List Value := xs.map (Value.int .u8)
theorem vals_one (xs : List Int) : ∀ v ∈ vals xs, v.oneCell' = true := by
  intro v hv
  obtain ⟨x, _, rfl⟩ := List.mem_map.1 hv
  rfl
theorem write_C {w0 wr : World} {b : Nat} {out : List Int} (hbuf : Lib.IsBuffer 47 5 w0.heap.size b (vals out) wr) (hb : Below w0.heap.size w0 wr) {A : Option Addr} {ys : List Int} (hC : Kd.C (Kd.int .u8) w0 A ys.length ys)
    (n c : Nat) (h0 : 0 < n) (hn : n ≤ ys.length) (hlim : out.length + n ≤ 140737488355328) :
    Calls Tryd.prog 27 #[.pointer (some ⟨b, 0, none⟩), .slice A n c] wr fun e w' => e = .returned (.tuple #[.int .i64 n, .nilIface]) ∧ Lib.IsBuffer 47 5 w0.heap.size b (vals (out ++ ys.take n)) w' ∧ Below w0.heap.size w0 w' := by
  obtain ⟨a, rfl, ha⟩ := byte_at hC 0 (by omega) (x := ys[0]'(by omega)) (by simp)
  rw [Addr.add_zero'] at ha
  have hlt : a.block < w0.heap.size := World.block_lt_of_cell? w0 _ ha
  have hB := hbuf.1
  have e : vals (out ++ ys.take n) = vals out ++ vals (ys.take n) := by simp [vals]
  rw [e]
  refine (Tryd.Buffer_Write_any w0.heap.size b (vals out) (vals (ys.take n)) a n c wr hbuf hb.size (vals_one _) (by simp [vals]; omega) (by omega) ?_ (vals_one _) (by simpa [vals] using hlim)).mono ?_
  · intro j v hj
    simp only [vals, List.getElem?_map, Option.map_eq_some_iff] at hj
    obtain ⟨x, hx, rfl⟩ := hj
    rw [List.getElem?_take] at hx
    split at hx
    · obtain ⟨ad, e, hc⟩ := byte_at hC j (by omega) hx
      cases e
      exact (hb.cell (World.block_lt_of_cell? w0 _ hc)).trans hc
    · cases hx
  · rintro e w' ⟨rfl, h1, h2, _⟩
    exact ⟨rfl, h1, hb.trans h2⟩
theorem buf_below {B b : Nat} {bs : List Value} {w w' : World} (h : Lib.IsBuffer 47 5 B b bs w) (hb : Below w.heap.size w w') : Lib.IsBuffer 47 5 B b bs w' := by
  obtain ⟨hB, v, lr, h1, h2, h3⟩ := h
  refine ⟨hB, v, lr, by rw [hb.block _ (Lib.lt_of_heap h1)]; exact h1, ⟨h2.1, ?_⟩, h3⟩
  rcases h2.2 with h0 | ⟨g, cap, cur, rfl, hBg, hg, r⟩
  · exact .inl h0
  · exact .inr ⟨g, cap, cur, rfl, hBg, by rw [hb.block _ (Lib.lt_of_heap hg)]; exact hg, r⟩
theorem tab_below {w w' : World} {a : Addr} {ms : List Nat} (h : Tab w a ms) (hb : Below w.heap.size w w') : Tab w' a ms := fun k m hm =>
  ⟨(hb.cell (World.block_lt_of_cell? w _ (h k m hm).1)).trans (h k m hm).1, (hb.cell (World.block_lt_of_cell? w _ (h k m hm).2)).trans (h k m hm).2⟩
theorem and128_big (c : Nat) (h1 : 128 ≤ c) (h2 : c < 256) : c &&& 128 = 128 := by
  have := and128_hi ⟨c - 128, by omega⟩
  simp only at this
  rwa [show c - 128 + 128 = c by omega] at this
/-- How many places a slice has. -/
def lenOf : Value → Nat
  | .slice _ n _ => n
  | _ => 0
/-- What the application of a delta answers. -/
def Made (B b : Nat) (res : Option (List Int)) (e : Ending) (w' : World) : Prop := match res with
  | some out => e = .returned .nilIface ∧ Lib.IsBuffer 47 5 B b (vals out) w'
  | none => ∃ τ v, e = .returned (.iface τ v)
theorem patch_any (w0 w : World) (hbel : Below w0.heap.size w0 w) (b : Nat) (hB : w0.heap.size ≤ b) (lr : Int) (hbk : w.heap[b]? = some (.cells #[.slice none 0 0, .int .i64 0, .int .i8 lr] 47 (0, 0)))
    (As Ad : Option Addr) (cs cd : Nat) (src delta : List Int) (hrs : Kd.C (Kd.int .u8) w0 As src.length src) (hcs : src.length ≤ cs) (hcsm : cs ≤ maxLen) (hrd : Kd.C (Kd.int .u8) w0 Ad delta.length delta) (hcd : delta.length ≤ cd) (hcdm : cd ≤ maxLen)
    (τ2 τ3 : TypeId) (v2 v3 : Value) (he2 : w0.cell? ⟨1, 0, none⟩ = some (.iface τ2 v2)) (he3 : w0.cell? ⟨3, 0, none⟩ = some (.iface τ3 v3))
    (ao az : Addr) (co cz : Nat) (ho : w0.cell? ⟨10, 0, none⟩ = some (.slice (some ao) 4 co)) (hto : Tab w0 ao [1, 2, 4, 8])
    (hz : w0.cell? ⟨11, 0, none⟩ = some (.slice (some az) 3 cz)) (htz : Tab w0 az [16, 32, 64])
    (ds1 ds2 : List Nat) (rest : List Int) (T : Nat) (res : Option (List Int)) (hd : delta = sevens ds1 ++ (sevens ds2 ++ rest)) (h01 : 0 < ds1.length) (h91 : ds1.length ≤ 9) (hd1 : ∀ d ∈ ds1, d < 128) (h02 : 0 < ds2.length) (h92 : ds2.length ≤ 9) (hd2 : ∀ d ∈ ds2, d < 128)
    (hs1 : sevVal ds1 = src.length) (hs2 : sevVal ds2 = T) (hT0 : 1 ≤ T) (hT : T ≤ 1000000000000) (hb : Bytes rest) (hP : Patch src T rest [] res) :
    Calls Tryd.prog 43 #[.pointer (some ⟨b, 0, none⟩), .slice As src.length cs, .slice Ad delta.length cd] w fun e w' => Made w0.heap.size b res e w' ∧ Below w0.heap.size w0 w' := by
  obtain ⟨d2, hd2e⟩ : ∃ d2, sevens ds2 ++ rest = d2 := ⟨_, rfl⟩
  rw [hd2e] at hd
  have H1 := fun W (hW : Kd.C (Kd.int .u8) W Ad delta.length delta) => leb_any Ad cd delta ds1 d2 W hW hcd hcdm hd h01 h91 hd1
  have HRD := Aside0.mk hrd
  have HRS := Aside0.mk hrs
  have HBL := Aside0.mk hbel
  have HP := Aside0.mk hP
  have HBT := Aside0.mk hb
  have HBK := Aside0.mk hbk
  have HTO := Aside0.mk hto
  have HTZ := Aside0.mk htz
  rw [hs1] at H1
  have HH1 := Aside0.mk H1
  have HD2 := Aside0.mk hd2
  have HE2 := Aside0.mk hd2e.symm
  clear hd hrd hrs hbel hP hb hbk hto htz H1 hd2 hd1 hd2e
  obtain ⟨G, hG1, hG2, hmin⟩ : ∃ G : Nat, 1 ≤ G ∧ G ≤ 65536 ∧ Builtin.min2 (.int .u64 (T : Int)) (.int .u64 65536) = pure (.int .u64 (G : Int)) := by
    by_cases h : 65536 < T
    · exact ⟨65536, by omega, by omega, by rw [min2_int, if_pos (by omega)]; rfl⟩
    · exact ⟨T, by omega, by omega, by rw [min2_int, if_neg (by omega)]⟩
  have hlen : src.length ≤ 9223372036854775807 := by have : maxLen = 9223372036854775807 := rfl; omega
  have hws : IntKind.u64.wrap (src.length : Int) = src.length := wrap64u _ (by omega)
  go_enter Tryd.func43, Tryd.ntmps43
  go_wp2_with (go_at_call 65; fail)
  refine (HH1.out _ (Kd.C_below HRD.out HBL.out)).mono ?_
  rintro e w1 ⟨⟨A2, c2, rfl, ht2, hc2, hcm2⟩, n1, rfl⟩
  go_wp2_with (go_at_call 65; fail)
  have hr2 := ht2 w0 HRD.out
  refine (leb_any A2 c2 d2 ds2 rest _ (Kd.C_below hr2 (pw_below_drewN HBL.out n1)) hc2 hcm2 HE2.out h02 h92 HD2.out).mono ?_
  rintro e w2 ⟨⟨A3, c3, rfl, ht3, hc3, hcm3⟩, n2, rfl⟩
  have hr3 := ht3 w0 hr2
  have HR3 := Aside0.mk hr3
  rw [hs2]
  clear ht2 ht3 hr2 hr3
  go_wp2_with (go_at_call 66; fail)
  refine (Grow_nil w0.heap.size b G lr (w.drewN (n1 + n2)) hB ((pw_below_drewN HBL.out (n1 + n2)).size) (by first | exact HBK.out | simpa using HBK.out) hG1 (by omega)).mono ?_
  rintro e w3 ⟨rfl, hbuf, hbel3⟩
  have HBU := Aside0.mk hbuf
  have HB3 := Aside0.mk ((pw_below_drewN HBL.out (n1 + n2)).trans hbel3)
  clear hbuf hbel3
  go_wp2
  go_loopw [2, 10] (fun d r wr => ∃ (A1 : Option Addr) (c1 : Nat) (ys : List Int) (rem : Nat) (out : List Int), d = .slice A1 ys.length c1 ∧ r = .int .u64 rem ∧ ys.length ≤ c1 ∧ c1 ≤ maxLen ∧ rem ≤ T ∧ ys.length ≤ rest.length ∧ Aside0 (out.length + rem = T) ∧ Aside0 (Patch src rem ys out res) ∧
    Aside0 (Kd.C (Kd.int .u8) w0 A1 ys.length ys) ∧ Aside0 (Bytes ys) ∧ Aside0 (Lib.IsBuffer 47 5 w0.heap.size b (vals out) wr) ∧ Aside0 (Below w0.heap.size w0 wr)) (fun d _ _ => lenOf d)
  case atStart => exact ⟨A3, c3, rest, T, [], rfl, rfl, hc3, hcm3, Nat.le_refl _, Nat.le_refl _, ⟨by simp⟩, HP, HR3, HBT, HBU, HB3⟩
  case round =>
    clear HP HR3 HBT HBU HB3 HH1 HE2 HD2
    obtain ⟨A1, c1, ys, rem, out, rfl, rfl, hc1, hcm1, hrem, hyl, HO, HP, HC, HY, HBU, HB⟩ := hrel
    have he2w := (HB.out.cell (World.block_lt_of_cell? w0 _ he2)).trans he2
    have he3w := (HB.out.cell (World.block_lt_of_cell? w0 _ he3)).trans he3
    have hPP := HP.out
    clear HP
    cases hPP with
    | done =>
      go_wp2
      go_ret
      exact ⟨⟨rfl, HBU.out⟩, HB.out⟩
    | more =>
      go_wp2
      go_ret
      exact ⟨⟨_, _, rfl⟩, HB.out⟩
    | cut h =>
      go_wp2
      go_ret
      exact ⟨⟨_, _, rfl⟩, HB.out⟩
    | @zero _ d _ h =>
      obtain ⟨ad, e, hx0⟩ := byte_at HC.out 0 (by simp) (x := 0) rfl
      cases e
      rw [Addr.add_zero'] at hx0
      have hxw := (HB.out.cell (World.block_lt_of_cell? w0 _ hx0)).trans hx0
      obtain ⟨A4, hA4⟩ : ∃ A4, (if c1 = 1 then some ad else some { block := ad.block, off := ad.off + 1 }) = A4 := ⟨_, rfl⟩
      have hC4 := tail_C HC.out hc1
      rw [hA4] at hC4
      have HC4 := Aside0.mk hC4
      clear hC4
      have hc4 : d.length ≤ c1 - 1 := by simp at hc1; omega
      have z128 : bits .and .u8 0 128 = 0 := by decide
      go_wp2
      all_goals go_ret
      all_goals exact ⟨⟨_, _, rfl⟩, HB.out⟩
    | @insBig _ c d _ h h0 h128 hbig =>
      obtain ⟨ad, e, hx0⟩ := byte_at HC.out 0 (by simp) (x := (c : Int)) rfl
      cases e
      rw [Addr.add_zero'] at hx0
      have hxw := (HB.out.cell (World.block_lt_of_cell? w0 _ hx0)).trans hx0
      obtain ⟨A4, hA4⟩ : ∃ A4, (if c1 = 1 then some ad else some { block := ad.block, off := ad.off + 1 }) = A4 := ⟨_, rfl⟩
      have hC4 := tail_C HC.out hc1
      rw [hA4] at hC4
      have HC4 := Aside0.mk hC4
      clear hC4
      have hc4 : d.length ≤ c1 - 1 := by simp at hc1; omega
      have z128 : bits .and .u8 (c : Int) 128 = 0 := (show _ = _ from bits_and_u8 c 128 (by omega) (by decide)).trans (by rw [and128_lo ⟨c, h128⟩]; rfl)
      have hwc : IntKind.u64.wrap (c : Int) = c := wrap64u c (by omega)
      have hwl : IntKind.u64.wrap (d.length : Int) = d.length := wrap64u _ (by have : maxLen = 9223372036854775807 := rfl; omega)
      go_wp2
      all_goals go_ret
      all_goals exact ⟨⟨_, _, rfl⟩, HB.out⟩
    | @insCut _ c d _ h h0 h128 hle hcut =>
      obtain ⟨ad, e, hx0⟩ := byte_at HC.out 0 (by simp) (x := (c : Int)) rfl
      cases e
      rw [Addr.add_zero'] at hx0
      have hxw := (HB.out.cell (World.block_lt_of_cell? w0 _ hx0)).trans hx0
      obtain ⟨A4, hA4⟩ : ∃ A4, (if c1 = 1 then some ad else some { block := ad.block, off := ad.off + 1 }) = A4 := ⟨_, rfl⟩
      have hC4 := tail_C HC.out hc1
      rw [hA4] at hC4
      have HC4 := Aside0.mk hC4
      clear hC4
      have hc4 : d.length ≤ c1 - 1 := by simp at hc1; omega
      have z128 : bits .and .u8 (c : Int) 128 = 0 := (show _ = _ from bits_and_u8 c 128 (by omega) (by decide)).trans (by rw [and128_lo ⟨c, h128⟩]; rfl)
      have hwc : IntKind.u64.wrap (c : Int) = c := wrap64u c (by omega)
      have hwl : IntKind.u64.wrap (d.length : Int) = d.length := wrap64u _ (by have : maxLen = 9223372036854775807 := rfl; omega)
      go_wp2
      all_goals go_ret
      all_goals exact ⟨⟨_, _, rfl⟩, HB.out⟩
    | @ins _ c d _ _ h h0 h128 hle hfit hnext =>
      obtain ⟨ad, e, hx0⟩ := byte_at HC.out 0 (by simp) (x := (c : Int)) rfl
      cases e
      rw [Addr.add_zero'] at hx0
      have hxw := (HB.out.cell (World.block_lt_of_cell? w0 _ hx0)).trans hx0
      obtain ⟨A4, hA4⟩ : ∃ A4, (if c1 = 1 then some ad else some { block := ad.block, off := ad.off + 1 }) = A4 := ⟨_, rfl⟩
      have hC4 := tail_C HC.out hc1
      rw [hA4] at hC4
      have HC4 := Aside0.mk hC4
      clear hC4
      have hc4 : d.length ≤ c1 - 1 := by simp at hc1; omega
      have z128 : bits .and .u8 (c : Int) 128 = 0 := (show _ = _ from bits_and_u8 c 128 (by omega) (by decide)).trans (by rw [and128_lo ⟨c, h128⟩]; rfl)
      have hwc : IntKind.u64.wrap (c : Int) = c := wrap64u c (by omega)
      have hwl : IntKind.u64.wrap (d.length : Int) = d.length := wrap64u _ (by have : maxLen = 9223372036854775807 := rfl; omega)
      have HN := Aside0.mk hnext
      clear hnext
      go_wp2_with (first | (go_at_call 67; refine (isSrc_no (c : Int) _ z128).mono ?_; rintro e w1 ⟨rfl, rfl⟩) | (go_at_call 72; refine (isDelta_yes c _ z128 h0).mono ?_; rintro e w1 ⟨rfl, rfl⟩) | (go_at_call 70; refine (size_ok c rem _ hle).mono ?_; rintro e w1 ⟨rfl, rfl⟩))
      have hlim : out.length + c ≤ 140737488355328 := by have := HO.out; omega
      refine (write_C HBU.out HB.out HC4.out c (c1 - 1) h0 hfit hlim).mono ?_
      rintro e w4 ⟨rfl, hbuf4, hb4⟩
      have HBU4 := Aside0.mk hbuf4
      have HB4 := Aside0.mk hb4
      clear hbuf4 hb4
      have hC5 := Kd.C_drop HC4.out hfit hc4
      have HC5 := Aside0.mk (show Kd.C (Kd.int .u8) w0 (if c1 - 1 = c then A4 else Option.map (fun x => x.add c) A4) (d.drop c).length (d.drop c) by simpa [Kd.int, Kd.scalar] using hC5)
      clear hC5
      go_wp2
      go_roundw
      case rel =>
        exact ⟨_, c1 - 1 - c, d.drop c, rem - c, out ++ d.take c, by rw [List.length_drop], by congr 1; omega, by rw [List.length_drop]; omega, by omega, by omega, by rw [List.length_drop]; simp at hyl; omega, ⟨by have := HO.out; rw [List.length_append, List.length_take]; omega⟩, HN, HC5, ⟨fun x hx => HY.out x (List.mem_cons_of_mem _ (List.mem_of_mem_drop hx))⟩, HBU4, HB4⟩
      case measure => simp only [lenOf, List.length_cons]; omega
    | @offCut _ c d _ h h128 h256 hf1 =>
      obtain ⟨ad, e, hx0⟩ := byte_at HC.out 0 (by simp) (x := (c : Int)) rfl
      cases e
      rw [Addr.add_zero'] at hx0
      have hxw := (HB.out.cell (World.block_lt_of_cell? w0 _ hx0)).trans hx0
      obtain ⟨A4, hA4⟩ : ∃ A4, (if c1 = 1 then some ad else some { block := ad.block, off := ad.off + 1 }) = A4 := ⟨_, rfl⟩
      have hC4 := tail_C HC.out hc1
      rw [hA4] at hC4
      have HC4 := Aside0.mk hC4
      clear hC4
      have hc4 : d.length ≤ c1 - 1 := by simp at hc1; omega
      have z128 : bits .and .u8 (c : Int) 128 = 128 := (show _ = _ from bits_and_u8 c 128 (by omega) (by decide)).trans (by rw [and128_big c h128 h256]; rfl)
      have hYd : Bytes d := fun x hx => HY.out x (List.mem_cons_of_mem _ hx)
      have hBO := HB.out
      have HH4 := offset_any c A4 (c1 - 1) d wr ao co (.iface τ2 v2) (Kd.C_below HC4.out hBO) hc4 (by omega) hYd h256 he2w ((hBO.cell (World.block_lt_of_cell? w0 _ ho)).trans ho) (tab_below HTO.out hBO)
      rw [hf1] at HH4
      have HH := Aside0.mk HH4
      clear HH4
      go_wp2_with (first | (go_at_call 67; refine (isSrc_yes (c : Int) _ z128).mono ?_; rintro e w1 ⟨rfl, rfl⟩))
      refine HH.out.mono ?_
      clear HH
      rintro e w5 ⟨hans, hb5⟩
      obtain rfl : e = _ := hans
      go_wp2
      all_goals go_ret
      all_goals exact ⟨⟨_, _, rfl⟩, below_step HB.out hb5⟩
    | @sizeCut _ c o d d1 _ h h128 h256 hf1 hf2 =>
      obtain ⟨ad, e, hx0⟩ := byte_at HC.out 0 (by simp) (x := (c : Int)) rfl
      cases e
      rw [Addr.add_zero'] at hx0
      have hxw := (HB.out.cell (World.block_lt_of_cell? w0 _ hx0)).trans hx0
      obtain ⟨A4, hA4⟩ : ∃ A4, (if c1 = 1 then some ad else some { block := ad.block, off := ad.off + 1 }) = A4 := ⟨_, rfl⟩
      have hC4 := tail_C HC.out hc1
      rw [hA4] at hC4
      have HC4 := Aside0.mk hC4
      clear hC4
      have hc4 : d.length ≤ c1 - 1 := by simp at hc1; omega
      have z128 : bits .and .u8 (c : Int) 128 = 128 := (show _ = _ from bits_and_u8 c 128 (by omega) (by decide)).trans (by rw [and128_big c h128 h256]; rfl)
      have hYd : Bytes d := fun x hx => HY.out x (List.mem_cons_of_mem _ hx)
      have hBO := HB.out
      have HH4 := offset_any c A4 (c1 - 1) d wr ao co (.iface τ2 v2) (Kd.C_below HC4.out hBO) hc4 (by omega) hYd h256 he2w ((hBO.cell (World.block_lt_of_cell? w0 _ ho)).trans ho) (tab_below HTO.out hBO)
      rw [hf1] at HH4
      have HH := Aside0.mk HH4
      clear HH4
      go_wp2_with (first | (go_at_call 67; refine (isSrc_yes (c : Int) _ z128).mono ?_; rintro e w1 ⟨rfl, rfl⟩))
      refine HH.out.mono ?_
      clear HH
      rintro e w5 ⟨⟨A5, c5, rfl, ht5, hc5, hcm5⟩, hb5⟩
      have hB5 := below_step hBO hb5
      have hC5 := ht5 w0 HC4.out
      have hbuf5 := buf_below HBU.out hb5
      obtain ⟨hov, hol, hom⟩ := fields_ok [1, 2, 4, 8] 0 c 0 d o d1 hf1 (by decide) hYd
      have hYd1 : Bytes d1 := fun x hx => hYd x (hom x hx)
      have he2w5 := (hB5.cell (World.block_lt_of_cell? w0 _ he2)).trans he2
      have HH5 := size_any c A5 c5 d1 w5 az cz (.iface τ2 v2) (Kd.C_below hC5 hB5) hc5 hcm5 hYd1 h256 he2w5 ((hB5.cell (World.block_lt_of_cell? w0 _ hz)).trans hz) (tab_below HTZ.out hB5)
      rw [hf2] at HH5
      have HH := Aside0.mk HH5
      have HC5 := Aside0.mk hC5
      have HB5 := Aside0.mk hB5
      have HBU5 := Aside0.mk hbuf5
      have HOM := Aside0.mk hom
      clear HH5 hC5 hB5 hbuf5 hom ht5 hb5
      go_wp2_with fail
      refine HH.out.mono ?_
      clear HH
      rintro e w6 ⟨hans, hb6⟩
      obtain rfl : e = _ := hans
      go_wp2
      all_goals go_ret
      all_goals exact ⟨⟨_, _, rfl⟩, below_step HB5.out hb6⟩
    | @copyBad _ c o s d d1 d2' _ h h128 h256 hf1 hf2 hbad =>
      obtain ⟨ad, e, hx0⟩ := byte_at HC.out 0 (by simp) (x := (c : Int)) rfl
      cases e
      rw [Addr.add_zero'] at hx0
      have hxw := (HB.out.cell (World.block_lt_of_cell? w0 _ hx0)).trans hx0
      obtain ⟨A4, hA4⟩ : ∃ A4, (if c1 = 1 then some ad else some { block := ad.block, off := ad.off + 1 }) = A4 := ⟨_, rfl⟩
      have hC4 := tail_C HC.out hc1
      rw [hA4] at hC4
      have HC4 := Aside0.mk hC4
      clear hC4
      have hc4 : d.length ≤ c1 - 1 := by simp at hc1; omega
      have z128 : bits .and .u8 (c : Int) 128 = 128 := (show _ = _ from bits_and_u8 c 128 (by omega) (by decide)).trans (by rw [and128_big c h128 h256]; rfl)
      have hYd : Bytes d := fun x hx => HY.out x (List.mem_cons_of_mem _ hx)
      have hBO := HB.out
      have HH4 := offset_any c A4 (c1 - 1) d wr ao co (.iface τ2 v2) (Kd.C_below HC4.out hBO) hc4 (by omega) hYd h256 he2w ((hBO.cell (World.block_lt_of_cell? w0 _ ho)).trans ho) (tab_below HTO.out hBO)
      rw [hf1] at HH4
      have HH := Aside0.mk HH4
      clear HH4
      go_wp2_with (first | (go_at_call 67; refine (isSrc_yes (c : Int) _ z128).mono ?_; rintro e w1 ⟨rfl, rfl⟩))
      refine HH.out.mono ?_
      clear HH
      rintro e w5 ⟨⟨A5, c5, rfl, ht5, hc5, hcm5⟩, hb5⟩
      have hB5 := below_step hBO hb5
      have hC5 := ht5 w0 HC4.out
      have hbuf5 := buf_below HBU.out hb5
      obtain ⟨hov, hol, hom⟩ := fields_ok [1, 2, 4, 8] 0 c 0 d o d1 hf1 (by decide) hYd
      have hYd1 : Bytes d1 := fun x hx => hYd x (hom x hx)
      have he2w5 := (hB5.cell (World.block_lt_of_cell? w0 _ he2)).trans he2
      have HH5 := size_any c A5 c5 d1 w5 az cz (.iface τ2 v2) (Kd.C_below hC5 hB5) hc5 hcm5 hYd1 h256 he2w5 ((hB5.cell (World.block_lt_of_cell? w0 _ hz)).trans hz) (tab_below HTZ.out hB5)
      rw [hf2] at HH5
      have HH := Aside0.mk HH5
      have HC5 := Aside0.mk hC5
      have HB5 := Aside0.mk hB5
      have HBU5 := Aside0.mk hbuf5
      have HOM := Aside0.mk hom
      clear HH5 hC5 hB5 hbuf5 hom ht5 hb5
      go_wp2_with fail
      refine HH.out.mono ?_
      clear HH
      rintro e w6 ⟨hans, hb6⟩
      obtain ⟨S, hS⟩ : ∃ S, sizeOf s = S := ⟨_, rfl⟩
      have hans' : Answers (.iface τ2 v2) A5 d1 (some (sizeOf s, d2')) e := hans
      obtain ⟨A6, c6, rfl, ht6, hc6, hcm6⟩ := hans'
      have hB6 := below_step HB5.out hb6
      have hC6 := ht6 w0 HC5.out
      have hbuf6 := buf_below HBU5.out hb6
      obtain ⟨hsv, hsl, hsm⟩ := fields_ok [16, 32, 64] 0 c 0 d1 s d2' hf2 (by decide) hYd1
      have hYd2 : Bytes d2' := fun x hx => hYd1 x (hsm x hx)
      have hs24 : s < 2 ^ 24 := by simpa using hsv
      have hS32 : S < 2 ^ 32 := by rw [← hS, sizeOf]; split <;> omega
      have hS1 : 1 ≤ S := by rw [← hS, sizeOf]; split <;> omega
      have ho32 : o < 2 ^ 32 := by simpa using hov
      have he2w6 := (hB6.cell (World.block_lt_of_cell? w0 _ he2)).trans he2
      have HC6 := Aside0.mk hC6
      have HB6 := Aside0.mk hB6
      have HBU6 := Aside0.mk hbuf6
      have HY2 := Aside0.mk hYd2
      have HY1 := Aside0.mk hYd1
      have HYD := Aside0.mk hYd
      have HSM := Aside0.mk hsm
      have HFF := Aside0.mk hf1
      have HFG := Aside0.mk hf2
      have HOV := Aside0.mk (And.intro hov hsv)
      clear hC6 hB6 hbuf6 hYd2 hYd1 hYd hsm hf1 hf2 hov hsv ht6 hb6 hans hBO
      rw [hS] at hbad ⊢
      by_cases hrs : rem < S
      · go_wp2_with (first | (go_at_call 70; refine (size_bad S rem _ hrs).mono ?_; rintro e w1 ⟨rfl, rfl⟩))
        all_goals go_ret
        all_goals exact ⟨⟨_, _, rfl⟩, HB6.out⟩
      · go_wp2_with (first | (go_at_call 70; refine (size_ok S rem _ (by omega)).mono ?_; rintro e w1 ⟨rfl, rfl⟩) | (go_at_call 71; refine (off_bad o S src.length _ ho32 hS32 (by omega)).mono ?_; rintro e w1 ⟨rfl, rfl⟩))
        all_goals go_ret
        all_goals exact ⟨⟨_, _, rfl⟩, HB6.out⟩
    | @copy _ c o s d d1 d2' _ _ h h128 h256 hf1 hf2 hle hfit hnext =>
      obtain ⟨ad, e, hx0⟩ := byte_at HC.out 0 (by simp) (x := (c : Int)) rfl
      cases e
      rw [Addr.add_zero'] at hx0
      have hxw := (HB.out.cell (World.block_lt_of_cell? w0 _ hx0)).trans hx0
      obtain ⟨A4, hA4⟩ : ∃ A4, (if c1 = 1 then some ad else some { block := ad.block, off := ad.off + 1 }) = A4 := ⟨_, rfl⟩
      have hC4 := tail_C HC.out hc1
      rw [hA4] at hC4
      have HC4 := Aside0.mk hC4
      clear hC4
      have hc4 : d.length ≤ c1 - 1 := by simp at hc1; omega
      have HN := Aside0.mk hnext
      clear hnext
      have z128 : bits .and .u8 (c : Int) 128 = 128 := (show _ = _ from bits_and_u8 c 128 (by omega) (by decide)).trans (by rw [and128_big c h128 h256]; rfl)
      have hYd : Bytes d := fun x hx => HY.out x (List.mem_cons_of_mem _ hx)
      have hBO := HB.out
      have HH4 := offset_any c A4 (c1 - 1) d wr ao co (.iface τ2 v2) (Kd.C_below HC4.out hBO) hc4 (by omega) hYd h256 he2w ((hBO.cell (World.block_lt_of_cell? w0 _ ho)).trans ho) (tab_below HTO.out hBO)
      rw [hf1] at HH4
      have HH := Aside0.mk HH4
      clear HH4
      go_wp2_with (first | (go_at_call 67; refine (isSrc_yes (c : Int) _ z128).mono ?_; rintro e w1 ⟨rfl, rfl⟩))
      refine HH.out.mono ?_
      clear HH
      rintro e w5 ⟨⟨A5, c5, rfl, ht5, hc5, hcm5⟩, hb5⟩
      have hB5 := below_step hBO hb5
      have hC5 := ht5 w0 HC4.out
      have hbuf5 := buf_below HBU.out hb5
      obtain ⟨hov, hol, hom⟩ := fields_ok [1, 2, 4, 8] 0 c 0 d o d1 hf1 (by decide) hYd
      have hYd1 : Bytes d1 := fun x hx => hYd x (hom x hx)
      have he2w5 := (hB5.cell (World.block_lt_of_cell? w0 _ he2)).trans he2
      have HH5 := size_any c A5 c5 d1 w5 az cz (.iface τ2 v2) (Kd.C_below hC5 hB5) hc5 hcm5 hYd1 h256 he2w5 ((hB5.cell (World.block_lt_of_cell? w0 _ hz)).trans hz) (tab_below HTZ.out hB5)
      rw [hf2] at HH5
      have HH := Aside0.mk HH5
      have HC5 := Aside0.mk hC5
      have HB5 := Aside0.mk hB5
      have HBU5 := Aside0.mk hbuf5
      have HOM := Aside0.mk hom
      clear HH5 hC5 hB5 hbuf5 hom ht5 hb5
      go_wp2_with fail
      refine HH.out.mono ?_
      clear HH
      rintro e w6 ⟨hans, hb6⟩
      obtain ⟨S, hS⟩ : ∃ S, sizeOf s = S := ⟨_, rfl⟩
      have hans' : Answers (.iface τ2 v2) A5 d1 (some (sizeOf s, d2')) e := hans
      obtain ⟨A6, c6, rfl, ht6, hc6, hcm6⟩ := hans'
      have hB6 := below_step HB5.out hb6
      have hC6 := ht6 w0 HC5.out
      have hbuf6 := buf_below HBU5.out hb6
      obtain ⟨hsv, hsl, hsm⟩ := fields_ok [16, 32, 64] 0 c 0 d1 s d2' hf2 (by decide) hYd1
      have hYd2 : Bytes d2' := fun x hx => hYd1 x (hsm x hx)
      have hs24 : s < 2 ^ 24 := by simpa using hsv
      have hS32 : S < 2 ^ 32 := by rw [← hS, sizeOf]; split <;> omega
      have hS1 : 1 ≤ S := by rw [← hS, sizeOf]; split <;> omega
      have ho32 : o < 2 ^ 32 := by simpa using hov
      have he2w6 := (hB6.cell (World.block_lt_of_cell? w0 _ he2)).trans he2
      have HC6 := Aside0.mk hC6
      have HB6 := Aside0.mk hB6
      have HBU6 := Aside0.mk hbuf6
      have HY2 := Aside0.mk hYd2
      have HY1 := Aside0.mk hYd1
      have HYD := Aside0.mk hYd
      have HSM := Aside0.mk hsm
      have HFF := Aside0.mk hf1
      have HFG := Aside0.mk hf2
      have HOV := Aside0.mk (And.intro hov hsv)
      clear hC6 hB6 hbuf6 hYd2 hYd1 hYd hsm hf1 hf2 hov hsv ht6 hb6 hans hBO
      rw [hS] at hle hfit ⊢
      have HN2 := HN.out
      rw [hS] at HN2
      have HN3 := Aside0.mk HN2
      clear HN2 HN
      go_wp2_with (first | (go_at_call 70; refine (size_ok S rem _ hle).mono ?_; rintro e w1 ⟨rfl, rfl⟩) | (go_at_call 71; refine (off_ok o S src.length _ ho32 hS32 hfit).mono ?_; rintro e w1 ⟨rfl, rfl⟩))
      have hCs := Kd.C_drop HRS.out (m := o) (by omega) hcs
      rw [if_neg (by omega)] at hCs
      have hCs' : Kd.C (Kd.int .u8) w0 (Option.map (fun x => x.add o) As) (src.drop o).length (src.drop o) := by simpa [Kd.int, Kd.scalar] using hCs
      have hlim : out.length + S ≤ 140737488355328 := by have := HO.out; omega
      refine (write_C HBU6.out HB6.out hCs' S (cs - o) hS1 (by rw [List.length_drop]; omega) hlim).mono ?_
      rintro e w7 ⟨rfl, hbuf7, hb7⟩
      have HBU7 := Aside0.mk hbuf7
      have HB7 := Aside0.mk hb7
      clear hbuf7 hb7 hCs hCs'
      go_wp2
      go_roundw
      case rel =>
        exact ⟨A6, c6, d2', rem - S, out ++ (src.drop o).take S, rfl, by congr 1; omega, hc6, hcm6, by omega, by simp at hyl; omega, ⟨by have := HO.out; rw [List.length_append, List.length_take, List.length_drop]; omega⟩, HN3, HC6, HY2, HBU7, HB7⟩
      case measure => simp only [lenOf, List.length_cons]; omega
end Go.Proofs.YtghcecngdhcjpaaDoor.leb
