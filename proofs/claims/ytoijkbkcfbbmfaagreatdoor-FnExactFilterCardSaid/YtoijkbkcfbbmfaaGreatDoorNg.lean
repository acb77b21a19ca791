/- What is proved here: spec.Same, spec.Names, spec.Filter. Conditions: each theorem names its own. -/
import Derived.Test.YtoijkbkcfbbmfaaGreatDoorNf
set_option linter.all false
set_option linter.unusedVariables false
set_option linter.unusedSimpArgs false
/- What is proved here: spec.Names answers as a plain function on trees, of declarations that have a shape; slices.Contains of texts; zzFits2. -/
namespace Go.Proofs.YtoijkbkcfbbmfaaGreatDoor
open Go.RowKit Go.Shelf
set_option linter.unusedVariables false
set_option linter.unusedSimpArgs false
attribute [local go_sem ↓] Go.wp_at_zero Go.wp_at_succ

set_option maxHeartbeats 4000000 in
set_option maxRecDepth 100000 in
theorem names1_any (n x y z : N) (v : Value) (w : World) (hx : n.kids = [x, y, z]) (hk : KidsAt (· < w.heap.size) w v n.kids) :
    Calls Tryz.prog 16 #[n.val v] w fun e w' => e = .returned (.bool (noVals n)) ∧ Below w.heap.size w w' := by
  obtain ⟨b, o, cap, a2, cap2, rfl, hcap, hb, c0, c1, c2, _⟩ := hk.kid0 hx
  obtain ⟨az, cz, z0, z1, z2, _⟩ := hk.kid2 hx
  have hl : n.kids.length = 3 := by rw [hx]; rfl
  have hnv : noVals n = (z.kids.length == 0) := by simp [noVals, hx]
  rw [hnv]
  rw [hl]
  clear hk hnv c0 c1 c2
  unfold N.val
  go_enter Tryz.func16, Tryz.ntmps16
  go_wp2_with fail
  go_ret
  exact ⟨ret_bool (by rw [← cast_beq_zero]), (Below.refl _ _).alloc (Nat.le_refl _) _⟩
theorem names1_pred (w0 : World) : IsPred w0 (.func (.func 16) #[] #[]) (fun m => ∃ x y z, m.kids = [x, y, z]) noVals := by
  have hen : Enters Tryz.prog 16 := enters_of Tryz.func16 (by kernel_rfl) rfl
  exact ⟨16, #[], rfl, fun args w => hen args w, fun n v w ⟨x, y, z, hx⟩ _ hk => by simpa using names1_any n x y z v w hx hk⟩
/-- What a shaped declaration's nodes are. -/
theorem shaped_three {n : N} (hs : shapedB n = true) : (isK n [102, 117, 110, 99] = true → ∃ x y z, n.kids = [x, y, z]) ∧ ((isK n [100, 101, 99, 108, 97, 114, 101, 32, 118, 97, 114] || isK n [100, 101, 99, 108, 97, 114, 101, 32, 99, 111, 110, 115, 116]) = true → ∀ m ∈ n.kids, ∃ x y z, m.kids = [x, y, z]) := by
  simp only [shapedB, Bool.and_eq_true, Bool.or_eq_true] at hs
  obtain ⟨⟨⟨_, _⟩, hd⟩, _⟩ := hs
  refine ⟨fun hf => ?_, fun hk m hm => ?_⟩
  · have hkd := isK_eq hf
    match hks : n.kids with
    | [x, y, z] => exact ⟨x, y, z, rfl⟩
    | [] => simp [declB, isK, hkd, hks, kid3B] at hd
    | [_] => simp [declB, isK, hkd, hks, kid3B] at hd
    | [_, _] => simp [declB, isK, hkd, hks, kid3B] at hd
    | _ :: _ :: _ :: _ :: _ => simp [declB, isK, hkd, hks, kid3B] at hd
  · have hv : valueB 400 m = true := by
      rw [Bool.or_eq_true] at hk
      rcases hk with hk | hk <;> (have hkd := isK_eq hk; simp [declB, isK, hkd] at hd; exact hd m hm)
    simp only [valueB, Bool.and_eq_true] at hv
    match hks : m.kids with
    | [x, y, z] => exact ⟨x, y, z, rfl⟩
    | [] => rw [hks] at hv; simp [kid3B] at hv
    | [_] => rw [hks] at hv; simp [kid3B] at hv
    | [_, _] => rw [hks] at hv; simp [kid3B] at hv
    | _ :: _ :: _ :: _ :: _ => rw [hks] at hv; simp [kid3B] at hv
set_option maxHeartbeats 4000000 in
set_option maxRecDepth 100000 in
theorem specNames_any (n : N) (v : Value) (w : World) (hs : shapedB n = true) (hk : KidsAt (· < w.heap.size) w v n.kids) :
    Calls Tryz.prog 7 #[n.val v] w fun e w' => e = .returned (.bool (namesB n)) ∧ Below w.heap.size w w' := by
  have hn := shaped_small hs
  obtain ⟨hf3, hv3⟩ := shaped_three hs
  obtain ⟨a, cap, rfl, hcap, _⟩ := hk.shape
  have hl : n.kids.length ≤ 2147483647 := by have := N.len_lt n; omega
  cases hf : isK n [102, 117, 110, 99] with
  | true =>
    obtain ⟨x, y, z, hx⟩ := hf3 hf
    obtain ⟨b, o, cap', a2, cap2, hv, _, hb, c0, c1, c2, _⟩ := hk.kid0 hx
    cases hv
    obtain ⟨az, cz, z0, z1, z2, hz⟩ := hk.kid2 hx
    have hl3 : n.kids.length = 3 := by rw [hx]; rfl
    have hnb : namesB n = missing z := by simp [namesB, hf, hx]
    have hkd : (n.kind.toList == [102, 117, 110, 99]) = true := hf
    rw [hnb, hl3]
    have HZ := Lib.hid hz
    clear hk hnb c0 c1 c2 hz hcap hl
    unfold N.val
    go_enter Tryz.func7, Tryz.ntmps7
    go_wp2_with fail
    refine (missing_any z az cz _).mono ?_
    rintro e w2 ⟨rfl, hb2⟩
    go_wp2_with fail
    go_ret
    exact ⟨rfl, ((Below.refl w.heap.size w).alloc (Nat.le_refl _) _).trans (hb2.mono (by simp))⟩
  | false =>
    have hkd : (n.kind.toList == [102, 117, 110, 99]) = false := hf
    cases hc : (isK n [100, 101, 99, 108, 97, 114, 101, 32, 118, 97, 114] || isK n [100, 101, 99, 108, 97, 114, 101, 32, 99, 111, 110, 115, 116]) with
    | true =>
      have hnb : namesB n = n.kids.all noVals := by simp only [namesB, hf, Bool.false_eq_true, if_false, hc, Bool.true_and]
      rw [hnb]
      have hcall := fun (W : World) (hb : Below w.heap.size w W) => every_any n.kids (.slice a n.kids.length cap) (.func (.func 16) #[] #[]) (fun m => ∃ x y z, m.kids = [x, y, z]) noVals W (hk.later hb) hl (hv3 hc) (names1_pred W)
      have HCALL := Lib.hid hcall
      clear hcall hk hnb
      cases hvr : isK n [100, 101, 99, 108, 97, 114, 101, 32, 118, 97, 114] with
      | true =>
        have hk1 : (n.kind.toList == [100, 101, 99, 108, 97, 114, 101, 32, 118, 97, 114]) = true := hvr
        unfold N.val
        go_enter Tryz.func7, Tryz.ntmps7
        go_wp2_with fail
        refine (HCALL.out _ ((Below.refl _ _).alloc (Nat.le_refl _) _)).mono ?_
        rintro e w2 ⟨rfl, hb2⟩
        go_wp2_with fail
        go_ret
        exact ⟨rfl, ((Below.refl w.heap.size w).alloc (Nat.le_refl _) _).trans (hb2.mono (by simp))⟩
      | false =>
        have hk1 : (n.kind.toList == [100, 101, 99, 108, 97, 114, 101, 32, 118, 97, 114]) = false := hvr
        have hk2 : (n.kind.toList == [100, 101, 99, 108, 97, 114, 101, 32, 99, 111, 110, 115, 116]) = true := by
          rw [hvr, Bool.false_or] at hc
          exact hc
        unfold N.val
        go_enter Tryz.func7, Tryz.ntmps7
        go_wp2_with fail
        refine (HCALL.out _ ((Below.refl _ _).alloc (Nat.le_refl _) _)).mono ?_
        rintro e w2 ⟨rfl, hb2⟩
        go_wp2_with fail
        go_ret
        exact ⟨rfl, ((Below.refl w.heap.size w).alloc (Nat.le_refl _) _).trans (hb2.mono (by simp))⟩
    | false =>
      have hnb : namesB n = false := by simp only [namesB, hf, Bool.false_eq_true, if_false, hc, Bool.false_and]
      rw [hnb]
      rw [Bool.or_eq_false_iff] at hc
      have hk1 : (n.kind.toList == [100, 101, 99, 108, 97, 114, 101, 32, 118, 97, 114]) = false := hc.1
      have hk2 : (n.kind.toList == [100, 101, 99, 108, 97, 114, 101, 32, 99, 111, 110, 115, 116]) = false := hc.2
      clear hk hnb hc
      unfold N.val
      go_enter Tryz.func7, Tryz.ntmps7
      go_wp2_with fail
      go_ret
      exact ⟨rfl, (Below.refl _ _).alloc (Nat.le_refl _) _⟩
set_option maxHeartbeats 4000000 in
set_option maxRecDepth 100000 in
theorem index_any {B : Nat} (L : List ByteArray) (vs : Value) (s : ByteArray) (w : World) (hs : StrsAt B w vs L) (hl : L.length ≤ 2147483647) :
    Calls Tryz.prog 32 #[vs, .string s] w fun e w' => (∃ i : Int, e = .returned (.int .i64 i) ∧ decide (0 ≤ i) = isIn L s) ∧ w' = w := by
  obtain ⟨a, cap, rfl, hcap, hel⟩ := hs
  have HEL := Lib.hid hel
  clear hel
  go_enter Tryz.func32, Tryz.ntmps32
  go_wp2_with fail
  go_loopw [8] (fun vi wr => ∃ i : Nat, i ≤ L.length ∧ vi = .int .i64 i ∧ wr = w ∧ (L.drop i).any (fun x => x.toList == s.toList) = isIn L s) (fun vi _ => L.length - (intOf vi).toNat)
  case atStart => exact ⟨0, Nat.zero_le _, rfl, rfl, rfl⟩
  case round =>
    obtain ⟨i, hi, rfl, rfl, hany⟩ := hrel
    have HANY := Lib.hid hany
    clear hany
    by_cases hil : i < L.length
    · obtain ⟨x, hx⟩ : ∃ x, L[i]? = some x := ⟨_, List.getElem?_eq_getElem hil⟩
      obtain ⟨b, o, rfl, hb, c0⟩ := HEL.out i x hx
      have hi1 : (i : Int) < (L.length : Int) := by omega
      have hd := getElem?_drop_cons hx
      have HD := Lib.hid hd
      clear hd hx
      cases hxs : (x.toList == s.toList) with
      | true =>
        have hxe : x = s := toList_inj (by simpa using hxs)
        subst hxe
        have h := HANY.out
        rw [HD.out, List.any_cons, beq_self_eq_true, Bool.true_or] at h
        have HH := Lib.hid h
        clear h
        go_wp2_with fail
        go_ret
        exact ⟨⟨_, rfl, by rw [← HH.out]; simp⟩, by trivial⟩
      | false =>
        have hxl : x.toList ≠ s.toList := by simpa using hxs
        have hxe : s ≠ x := fun h => hxl (by rw [h])
        have hxb : (s.toList == x.toList) = false := by simpa using fun h : s.toList = x.toList => hxl h.symm
        go_wp2_with fail
        go_roundw
        case rel =>
          have h := HANY.out
          rw [HD.out, List.any_cons, hxs, Bool.false_or] at h
          exact ⟨i + 1, by omega, by go_num, by trivial, h⟩
        case measure => simp [intOf]; omega
    · have e : i = L.length := by omega
      subst e
      have hr : isIn L s = false := by have h := HANY.out; simp at h; exact h
      have HR := Lib.hid hr
      clear hr
      go_wp2_with fail
      go_ret
      exact ⟨⟨_, rfl, by rw [HR.out]; simp⟩, by trivial⟩
set_option maxRecDepth 100000 in
theorem contains_any {B : Nat} (L : List ByteArray) (vs : Value) (s : ByteArray) (w : World) (hs : StrsAt B w vs L) (hl : L.length ≤ 2147483647) :
    Calls Tryz.prog 17 #[vs, .string s] w fun e w' => e = .returned (.bool (isIn L s)) ∧ w' = w := by
  have HS := Lib.hid hs
  clear hs
  go_enter Tryz.func17, Tryz.ntmps17
  go_wp2_with fail
  refine (index_any L vs s w HS.out hl).mono ?_
  rintro e w2 ⟨⟨i, rfl, hi⟩, rfl⟩
  have HI := Lib.hid hi
  clear hi
  go_wp2_with fail
  go_ret
  exact ⟨ret_bool HI.out, by trivial⟩
/-- Whether texts are no longer than a bound. -/
def fits2 (L : List ByteArray) : Bool := decide (L.length ≤ 2147483647) && L.all fun x => decide (x.size ≤ 2147483647)
set_option maxHeartbeats 4000000 in
set_option maxRecDepth 100000 in
theorem fits2_any {B : Nat} (L : List ByteArray) (vs : Value) (w : World) (hs : StrsAt B w vs L) :
    Calls Tryz.prog 5 #[vs] w fun e w' => e = .returned (.bool (fits2 L)) ∧ w' = w := by
  obtain ⟨a, cap, rfl, hcap, hel⟩ := hs
  have HEL := Lib.hid hel
  clear hel
  go_enter Tryz.func5, Tryz.ntmps5
  by_cases hb : L.length ≤ 2147483647
  · have hb1 : ¬ (2147483647 : Int) < (L.length : Int) := by omega
    have hb2 : ¬ 2147483647 < L.length := by omega
    have hf : fits2 L = L.all fun x => decide (x.size ≤ 2147483647) := by simp [fits2, hb]
    rw [hf]
    go_wp2_with fail
    go_loopw [10] (fun vi wr => ∃ i : Nat, i ≤ L.length ∧ vi = .int .i64 i ∧ wr = w ∧ (L.drop i).all (fun x => decide (x.size ≤ 2147483647)) = L.all (fun x => decide (x.size ≤ 2147483647))) (fun vi _ => L.length - (intOf vi).toNat)
    case atStart => exact ⟨0, Nat.zero_le _, rfl, rfl, rfl⟩
    case round =>
      obtain ⟨i, hi, rfl, rfl, hany⟩ := hrel
      have HANY := Lib.hid hany
      clear hany
      by_cases hil : i < L.length
      · obtain ⟨x, hx⟩ : ∃ x, L[i]? = some x := ⟨_, List.getElem?_eq_getElem hil⟩
        obtain ⟨b, o, rfl, hb, c0⟩ := HEL.out i x hx
        have hi1 : (i : Int) < (L.length : Int) := by omega
        have hd := getElem?_drop_cons hx
        have HD := Lib.hid hd
        clear hd hx
        by_cases hxs : x.size ≤ 2147483647
        · have hx1 : ¬ (2147483647 : Int) < (x.size : Int) := by omega
          have hx2 : ¬ 2147483647 < x.size := by omega
          go_wp2_with fail
          go_roundw
          case rel =>
            have h := HANY.out
            rw [HD.out, List.all_cons] at h
            simp only [hxs, decide_true, Bool.true_and] at h
            exact ⟨i + 1, by omega, by go_num, by trivial, h⟩
          case measure => simp [intOf]; omega
        · have hx1 : (2147483647 : Int) < (x.size : Int) := by omega
          have hx2 : 2147483647 < x.size := by omega
          have h := HANY.out
          rw [HD.out, List.all_cons] at h
          simp only [hxs, decide_false, Bool.false_and] at h
          have HH := Lib.hid h
          clear h
          go_wp2_with fail
          go_ret
          exact ⟨ret_bool HH.out, by trivial⟩
      · have e : i = L.length := by omega
        subst e
        have h := HANY.out
        simp only [List.drop_length, List.all_nil] at h
        have HH := Lib.hid h
        clear h
        go_wp2_with fail
        go_ret
        exact ⟨ret_bool HH.out, by trivial⟩
  · have hb1 : (2147483647 : Int) < (L.length : Int) := by omega
    have hb2 : 2147483647 < L.length := by omega
    have hf : fits2 L = false := by simp [fits2, hb]
    rw [hf]
    go_wp2_with fail
    go_ret
    exact ⟨rfl, by trivial⟩
end Go.Proofs.YtoijkbkcfbbmfaaGreatDoor

/- What is proved here: spec.Same of two nodes that read as one tree answers true; spec.Names; the names of a list: zzFits2, slices.Contains. -/
namespace Go.Proofs.YtoijkbkcfbbmfaaGreatDoor
open Go.RowKit Go.Shelf
set_option linter.unusedVariables false
set_option linter.unusedSimpArgs false
attribute [local go_sem ↓] Go.wp_at_zero Go.wp_at_succ

set_option maxHeartbeats 4000000 in
set_option maxRecDepth 100000 in
theorem eq_nodes (ks : List N) (v v' : Value) (w : World) (hn : ks.length ≤ 100000) (h : KidsAt (· < w.heap.size) w v ks) (h' : KidsAt (· < w.heap.size) w v' ks)
    (hS : ∀ m ∈ ks, ∀ (u u' : Value) (W : World), KidsAt (· < W.heap.size) W u m.kids → KidsAt (· < W.heap.size) W u' m.kids → Calls Tryz.prog 10 #[m.val u, m.val u'] W fun e W' => e = .returned (.bool true) ∧ Below W.heap.size W W') :
    Calls Tryz.prog 22 #[v, v', .func (.func 10) #[] #[]] w fun e w' => e = .returned (.bool true) ∧ Below w.heap.size w w' := by
  obtain ⟨a, cap, rfl, hcap, _⟩ := h.shape
  obtain ⟨a', cap', rfl, hcap', _⟩ := h'.shape
  have H1 := Lib.hid h
  have H2 := Lib.hid h'
  have HS := Lib.hid hS
  have hen : Enters Tryz.prog 10 := enters_of Tryz.func10 (by kernel_rfl) rfl
  have hcf := fun args w => hen args w
  clear h h' hS hen
  go_enter Tryz.func22, Tryz.ntmps22
  go_wp2_with fail
  go_loopw [17] (fun i wr => ∃ j : Nat, j ≤ ks.length ∧ i = .int .i64 j ∧ Below w.heap.size w wr) (fun i _ => ks.length - (intOf i).toNat)
  case atStart => exact ⟨0, Nat.zero_le _, rfl, Below.refl _ _⟩
  case round =>
    obtain ⟨j, hj, rfl, hb⟩ := hrel
    have HB := Lib.hid hb
    have hsz := hb.size
    clear hb
    by_cases hjl : j < ks.length
    · obtain ⟨m, hm⟩ : ∃ m, ks[j]? = some m := ⟨_, List.getElem?_eq_getElem hjl⟩
      obtain ⟨a1, cp1, hv1, _, hel1⟩ := (H1.out.under HB.out).shape
      obtain ⟨rfl, rfl⟩ : a1 = a ∧ cp1 = cap := by cases hv1; exact ⟨rfl, rfl⟩
      obtain ⟨a2, cp2, hv2, _, hel2⟩ := (H2.out.under HB.out).shape
      obtain ⟨rfl, rfl⟩ : a2 = a' ∧ cp2 = cap' := by cases hv2; exact ⟨rfl, rfl⟩
      obtain ⟨b, o, V, rfl, hb1, c0, c1, c2, hV⟩ := hel1 j m hm
      obtain ⟨b', o', V', rfl, hb2, d0, d1, d2, hV'⟩ := hel2 j m hm
      obtain ⟨aV, cV, rfl, _, _⟩ := hV.shape
      obtain ⟨aV', cV', rfl, _, _⟩ := hV'.shape
      have hb1' : b < wr.heap.size := by omega
      have hb2' : b' < wr.heap.size := by omega
      have HV := Lib.hid (And.intro hV hV')
      have HM := Lib.hid hm
      clear hV hV' hm hel1 hel2 hv1 hv2
      have hj1 : (j : Int) < (ks.length : Int) := by omega
      go_wp2_with fail
      have hbA : Below w.heap.size w ((wr.alloc (Obj.cells #[Value.string m.kind, Value.string m.text, .slice aV m.kids.length cV] 24)).alloc (Obj.cells #[Value.string m.kind, Value.string m.text, .slice aV' m.kids.length cV'] 24)) := (HB.out.alloc hsz _).alloc (by simp; omega) _
      have HBA := Lib.hid hbA
      refine (HS.out m (List.mem_of_getElem? HM.out) (.slice aV m.kids.length cV) (.slice aV' m.kids.length cV') _ ?_ ?_).mono ?_
      · exact ((HV.out.1.under (((Below.refl wr.heap.size wr).alloc (Nat.le_refl _) (Obj.cells #[Value.string m.kind, Value.string m.text, .slice aV m.kids.length cV] 24)).alloc (by simp) (Obj.cells #[Value.string m.kind, Value.string m.text, .slice aV' m.kids.length cV'] 24) |>.mono hsz)).mono fun b (hb : b < w.heap.size) => by have := HBA.out.size; omega)
      · exact ((HV.out.2.under (((Below.refl wr.heap.size wr).alloc (Nat.le_refl _) (Obj.cells #[Value.string m.kind, Value.string m.text, .slice aV m.kids.length cV] 24)).alloc (by simp) (Obj.cells #[Value.string m.kind, Value.string m.text, .slice aV' m.kids.length cV'] 24) |>.mono hsz)).mono fun b (hb : b < w.heap.size) => by have := HBA.out.size; omega)
      rintro e w5 ⟨rfl, hb5⟩
      have HB5 := Lib.hid (HBA.out.trans (hb5.mono HBA.out.size))
      clear hb5 hbA
      go_wp2_with fail
      go_roundw
      case measure => simp [intOf]; omega
      case rel => exact ⟨j + 1, by omega, by go_num, HB5.out⟩
    · have e : j = ks.length := by omega
      subst e
      go_wp2_with fail
      go_ret
      exact ⟨rfl, HB.out⟩
set_option maxHeartbeats 4000000 in
set_option maxRecDepth 100000 in
theorem same_any (f : Nat) : ∀ (n : N), n.size ≤ f → f ≤ 100000 → ∀ (v v' : Value) (w : World), KidsAt (· < w.heap.size) w v n.kids → KidsAt (· < w.heap.size) w v' n.kids → Calls Tryz.prog 10 #[n.val v, n.val v'] w fun e w' => e = .returned (.bool true) ∧ Below w.heap.size w w' := by
  induction f with
  | zero => intro n hn; have := N.size_eq n; omega
  | succ f ih =>
    intro n hn hf v v' w h h'
    obtain ⟨a, cap, rfl, hcap, _⟩ := h.shape
    obtain ⟨a', cap', rfl, hcap', _⟩ := h'.shape
    have hl : n.kids.length ≤ 100000 := by have := N.len_lt n; omega
    have H1 := Lib.hid h
    have H2 := Lib.hid h'
    have HI := Lib.hid (fun m (hm : m ∈ n.kids) => ih m (by have h1 := List.getElem_of_mem hm; obtain ⟨i, hi, e⟩ := h1; have := N.size_kid (m := n) (n := m) (i := i) (by rw [List.getElem?_eq_getElem hi, e]); omega) (by omega))
    clear h h' ih
    unfold N.val
    go_enter Tryz.func10, Tryz.ntmps10
    go_wp2_with fail
    have hbA : Below w.heap.size w ((w.alloc (Obj.cells #[Value.string n.kind, Value.string n.text, .slice a n.kids.length cap] 24)).alloc (Obj.cells #[Value.string n.kind, Value.string n.text, .slice a' n.kids.length cap'] 24)) := ((Below.refl _ _).alloc (Nat.le_refl _) _).alloc (by simp) _
    refine (eq_nodes n.kids (.slice a n.kids.length cap) (.slice a' n.kids.length cap') _ hl (H1.out.later hbA) (H2.out.later hbA) HI.out).mono ?_
    rintro e w2 ⟨rfl, hb2⟩
    have HB2 := Lib.hid (hbA.trans (hb2.mono hbA.size))
    clear hb2 hbA
    go_wp2_with fail
    go_ret
    exact ⟨rfl, HB2.out⟩
end Go.Proofs.YtoijkbkcfbbmfaaGreatDoor

/- What is proved here: spec.Filter answers with the tree of the names that are left, and whether there are any: of values without values. -/
namespace Go.Proofs.YtoijkbkcfbbmfaaGreatDoor
open Go.RowKit Go.Shelf
set_option linter.unusedVariables false
set_option linter.unusedSimpArgs false
attribute [local go_sem ↓] Go.wp_at_zero Go.wp_at_succ

theorem KidsAt.go {ok ok' : Nat → Prop} {w w' : World} {v : Value} {ks : List N} (h : KidsAt ok w v ks) (hs : ∀ b, ok b → ok' b ∧ w'.heap[b]? = w.heap[b]?) : KidsAt ok' w' v ks :=
  (h.same fun b hb => (hs b hb).2).mono fun b hb => (hs b hb).1
theorem kids3_ok {ok : Nat → Prop} {g T : Nat} {wf : World} {x y z : N} {v u r : Value} (hB : Blk wf g T #[.string x.kind, .string x.text, v, .string y.kind, .string y.text, u, .string z.kind, .string z.text, r]) (hg : ok g) (hk : KidsAt ok wf v x.kids) (hk2 : KidsAt ok wf u y.kids) (hk3 : KidsAt ok wf r z.kids) :
    KidsAt ok wf (.slice (some ⟨g, 0, none⟩) 3 3) [x, y, z] := by
  refine .cons g 0 3 [x, y, z] (fun i => if i = 0 then v else if i = 1 then u else r) hg (by simp) (by simp) (fun i n hi => ?_) (fun i n hi => ?_)
  all_goals
    obtain ⟨hl, rfl⟩ := List.getElem?_eq_some_iff.1 hi
    obtain rfl | rfl | rfl : i = 0 ∨ i = 1 ∨ i = 2 := by simp at hl; omega
  · exact ⟨hB.cell 0 _ rfl, hB.cell 1 _ rfl, hB.cell 2 _ rfl⟩
  · exact ⟨hB.cell 3 _ rfl, hB.cell 4 _ rfl, hB.cell 5 _ rfl⟩
  · exact ⟨hB.cell 6 _ rfl, hB.cell 7 _ rfl, hB.cell 8 _ rfl⟩
  · exact hk
  · exact hk2
  · exact hk3
/-- Blocks but three and a row's own. -/
def OkO (v : Value) (s0 hi b : Nat) : Prop := (b < hi ∧ (b < s0 ∨ s0 + 3 ≤ b)) ∧ v.ownBlock ≠ some b
/-- The values that are left of the first so many. -/
def keptG (p : ByteArray → Bool) (ks : List N) (j : Nat) : List N := ((ks.take j).filter (leftV p)).map (filtV p)
theorem keptG_succ (p : ByteArray → Bool) {ks : List N} {i : Nat} {m : N} (h : ks[i]? = some m) : keptG p ks (i + 1) = keptG p ks i ++ (if leftV p m then [filtV p m] else []) := by
  unfold keptG
  rw [List.take_add_one, h]
  cases hp : leftV p m <;> simp [hp]
theorem kids_fix {ok : Nat → Prop} {w : World} {v : Value} {ks ks' : List N} (h : KidsAt ok w v ks) (e : ks = ks') : KidsAt ok w v ks' := e ▸ h
theorem shaped_vals {n : N} (hs : shapedB n = true) (hnm : namesB n = true) (hf : isK n [102, 117, 110, 99] = false) : ∀ m ∈ n.kids, ∃ x y z, m.kids = [x, y, z] ∧ m.text = ⟨#[]⟩ ∧ x.kind = ⟨#[108, 105, 115, 116]⟩ ∧ x.text = ⟨#[]⟩ ∧ x.kids.all isName = true := by
  intro m hm
  simp only [namesB, hf, Bool.false_eq_true, if_false, Bool.and_eq_true, Bool.or_eq_true] at hnm
  have hv : valueB 400 m = true := by
    simp only [shapedB, Bool.and_eq_true, Bool.or_eq_true] at hs
    obtain ⟨⟨⟨_, _⟩, hd⟩, _⟩ := hs
    rcases hnm.1 with hk | hk <;> (have hkd := isK_eq hk; simp [declB, isK, hkd] at hd; exact hd m hm)
  simp only [valueB, Bool.and_eq_true] at hv
  obtain ⟨⟨h1, htx⟩, h2⟩ := hv
  match hks : m.kids, h2 with
  | [x, y, z], h2 =>
    simp only [kid3B, valueB3, Bool.and_eq_true] at h2
    obtain ⟨⟨⟨⟨a1, a2⟩, a3⟩, a4⟩, ⟨⟨⟨a5, a6⟩, a7⟩, a8⟩⟩ := h2
    exact ⟨x, y, z, rfl, toList_inj (text_nil htx), toList_inj (by rw [isK_eq a1]; simp), toList_inj (text_nil a2), by first | exact a5 | exact a6 | exact a3⟩

set_option maxHeartbeats 8000000 in
set_option maxRecDepth 100000 in
theorem specFilter_gen (n : N) (v vs : Value) (L : List ByteArray) (w : World) (hs : shapedB n = true) (hnm : namesB n = true) (hf : isK n [102, 117, 110, 99] = false) (hk : KidsAt (· < w.heap.size) w v n.kids) (hvs : StrsAt w.heap.size w vs L) (hl : L.length ≤ 2147483647) :
    Calls Tryz.prog 8 #[n.val v, vs] w fun e w' => FPost n L w e w' := by
  obtain ⟨a, cap, rfl, hcap, hel⟩ := hk.shape
  have hn := shaped_small hs
  have hn3 := shaped_vals hs hnm hf
  have hnl : n.kids.length ≤ 400 := by have := N.len_lt n; omega
  have hkd : (n.kind.toList == [102, 117, 110, 99]) = false := hf
  have hfil : filtN (isIn L) n = filtG (isIn L) n := by simp [filtN, hf]
  have hlef : leftN (isIn L) n = n.kids.any (leftV (isIn L)) := by simp [leftN, hf]
  obtain ⟨i0, hi, hz0, hz1, hz2⟩ := info_parts info24
  have HI := Lib.hid (And.intro hi (And.intro hz0 (And.intro hz1 hz2)))
  have HEL := Lib.hid hel
  have HVS := Lib.hid hvs
  have HN3 := Lib.hid hn3
  have HF := Lib.hid (And.intro hfil hlef)
  clear hk hs hnm hf hfil hlef hn3 hvs hel hi hz0 hz1 hz2
  have hb0 : ∃ W, W = ((w.alloc (Obj.cells #[Value.string n.kind, Value.string n.text, .slice a n.kids.length cap] 24)).alloc (Obj.cells #[Value.string ⟨#[]⟩, Value.string ⟨#[]⟩, Value.slice none 0 0] 24)).alloc (Obj.cells #[Value.string n.kind, Value.string n.text, Value.slice none 0 0] 24) ∧ Below w.heap.size w W ∧ W.heap.size = w.heap.size + 3 ∧
      Blk W w.heap.size 24 #[Value.string n.kind, Value.string n.text, .slice a n.kids.length cap] ∧ Blk W (w.heap.size + 1) 24 #[Value.string ⟨#[]⟩, Value.string ⟨#[]⟩, Value.slice none 0 0] ∧ Blk W (w.heap.size + 1 + 1) 24 #[Value.string n.kind, Value.string n.text, Value.slice none 0 0] := by
    refine ⟨_, rfl, (((Below.refl _ _).alloc (Nat.le_refl _) _).alloc (by simp) _).alloc (by simp; omega) _, by simp, ?_, ?_, ?_⟩
    · exact ((Blk.new w _ _).later ((Below.refl (w.heap.size + 1) _).alloc (by simp) _) (by omega)).later ((Below.refl (w.heap.size + 1) _).alloc (by simp) _) (by omega)
    · refine Blk.later ?_ ((Below.refl (w.heap.size + 2) _).alloc (by simp) _) (by omega)
      simpa using Blk.new (w.alloc (Obj.cells #[Value.string n.kind, Value.string n.text, .slice a n.kids.length cap] 24)) #[Value.string ⟨#[]⟩, Value.string ⟨#[]⟩, Value.slice none 0 0] 24
    · simpa using Blk.new ((w.alloc (Obj.cells #[Value.string n.kind, Value.string n.text, .slice a n.kids.length cap] 24)).alloc (Obj.cells #[Value.string ⟨#[]⟩, Value.string ⟨#[]⟩, Value.slice none 0 0] 24)) #[Value.string n.kind, Value.string n.text, Value.slice none 0 0] 24
  have HB0 := Lib.hid hb0
  clear hb0
  unfold N.val
  go_enter Tryz.func8, Tryz.ntmps8
  go_wp2_with fail
  go_loopw [28] (fun vi wr => ∃ (j : Nat) (lo : List (N × Value)) (ov : Value), j ≤ n.kids.length ∧ vi = .int .i64 j ∧ Blk wr (w.heap.size + 1) 24 #[Value.string ⟨#[]⟩, Value.string ⟨#[]⟩, Value.slice none 0 0] ∧ Blk wr (w.heap.size + 1 + 1) 24 #[Value.string n.kind, Value.string n.text, ov] ∧
      wr.ownsRow (w.heap.size + 3) 24 3 ov lo.length (rowL lo) ∧ lo.map Prod.fst = keptG (isIn L) n.kids j ∧ (∀ q ∈ lo, (∃ a m c, q.2 = .slice a m c) ∧ KidsAt (OkO ov w.heap.size wr.heap.size) wr q.2 q.1.kids) ∧ Below w.heap.size w wr ∧ w.heap.size + 3 ≤ wr.heap.size)
    (fun vi _ => n.kids.length - (intOf vi).toNat)
  case atStart =>
    obtain ⟨W, rfl, q1, q2, q3, q4, q5⟩ := HB0.out
    exact ⟨0, [], .slice none 0 0, Nat.zero_le _, rfl, q4, q5, World.ownsRow_nil _ _ _ _, rfl, (fun x hx => by simp at hx), q1, by omega⟩
  case round =>
    obtain ⟨j, lo, ov, hj, rfl, hbx, hbo, hown, hfst, hone, hbel, hsr⟩ := hrel
    rename World => wo
    have HFST := Lib.hid hfst
    have HONE := Lib.hid hone
    have HBX := Lib.hid hbx
    have HBO := Lib.hid hbo
    have HOWN := Lib.hid hown
    have HBEL := Lib.hid hbel
    have hlol : lo.length ≤ j := by
      have h := congrArg List.length hfst
      rw [List.length_map] at h
      unfold keptG at h
      rw [List.length_map] at h
      have h1 := List.length_filter_le (leftV (isIn L)) (n.kids.take j)
      rw [List.length_take] at h1
      omega
    clear hbx hbo hown hfst hone hbel
    by_cases hjl : j < n.kids.length
    · have hjl' : (j : Int) < (n.kids.length : Int) := by omega
      obtain ⟨m, hm⟩ : ∃ m, n.kids[j]? = some m := ⟨_, List.getElem?_eq_getElem hjl⟩
      obtain ⟨b, o, V, rfl, hb, c0, c1, c2, hV⟩ := HEL.out j m hm
      obtain ⟨x, y, z, hx, htx, hkx, htx1, hxn⟩ := HN3.out m (List.mem_of_getElem? hm)
      obtain ⟨b2, o2, cap2, ax, cx, rfl, hcap2, hb2, d0, d1, d2, hX⟩ := hV.kid0 hx
      obtain ⟨ay, cy, y0, y1, y2, hY⟩ := hV.kid1 hx
      obtain ⟨az, cz, z0, z1, z2, hZ⟩ := hV.kid2 hx
      have hm3 : m.kids.length = 3 := by rw [hx]; rfl
      rw [hm3] at c2 hcap2
      have hms : m.size < n.size := N.size_kid hm
      have hxs : x.kids.length ≤ 400 := by have h1 := N.size_kid (m := m) (n := x) (i := 0) (by rw [hx]; rfl); have h2 := N.len_lt x; omega
      have hsh := hX.shape
      have hcell : ∀ {p : Nat} {q : Nat} {u : Value}, p < w.heap.size → w.cell? ⟨p, q, none⟩ = some u → wo.cell? ⟨p, q, none⟩ = some u := fun {p q u} h1 h2 => (HBEL.out.cell (p := ⟨p, q, none⟩) h1).trans h2
      have e0 := hcell hb c0
      have e1 := hcell hb c1
      have e2 := hcell hb c2
      have x2' := hcell hb2 d2
      have HM := Lib.hid hm
      have HX := Lib.hid (And.intro hx (And.intro htx (And.intro hkx (And.intro htx1 hxn))))
      have HSH := Lib.hid hsh
      have HD := Lib.hid (And.intro d0 (And.intro d1 d2))
      have HYC := Lib.hid (And.intro y0 (And.intro y1 y2))
      have HZC := Lib.hid (And.intro z0 (And.intro z1 z2))
      have HYK := Lib.hid hY
      have HZK := Lib.hid hZ
      clear hm hx htx hkx htx1 hxn hsh d0 d1 d2 y0 y1 y2 z0 z1 z2 hY hZ hX hV c0 c1 c2 hm3 hms
      have hbA : Below wo.heap.size wo ((wo.alloc (Obj.cells #[Value.string m.kind, Value.string m.text, .slice (some ⟨b2, o2, none⟩) 3 cap2] 24)).alloc (Obj.cells #[Value.string ⟨#[108, 105, 115, 116]⟩, Value.string ⟨#[]⟩, Value.slice none 0 0] 24)) := ((Below.refl _ _).alloc (Nat.le_refl _) _).alloc (by simp) _
      have hBV : Blk ((wo.alloc (Obj.cells #[Value.string m.kind, Value.string m.text, .slice (some ⟨b2, o2, none⟩) 3 cap2] 24)).alloc (Obj.cells #[Value.string ⟨#[108, 105, 115, 116]⟩, Value.string ⟨#[]⟩, Value.slice none 0 0] 24)) wo.heap.size 24 #[Value.string m.kind, Value.string m.text, .slice (some ⟨b2, o2, none⟩) 3 cap2] := (Blk.new wo _ _).later ((Below.refl (wo.heap.size + 1) _).alloc (by simp) _) (by omega)
      have hBT : Blk ((wo.alloc (Obj.cells #[Value.string m.kind, Value.string m.text, .slice (some ⟨b2, o2, none⟩) 3 cap2] 24)).alloc (Obj.cells #[Value.string ⟨#[108, 105, 115, 116]⟩, Value.string ⟨#[]⟩, Value.slice none 0 0] 24)) (wo.heap.size + 1) 24 #[Value.string ⟨#[108, 105, 115, 116]⟩, Value.string ⟨#[]⟩, Value.slice none 0 0] := by simpa using Blk.new (wo.alloc (Obj.cells #[Value.string m.kind, Value.string m.text, .slice (some ⟨b2, o2, none⟩) 3 cap2] 24)) #[Value.string ⟨#[108, 105, 115, 116]⟩, Value.string ⟨#[]⟩, Value.slice none 0 0] 24
      have HA0 := Lib.hid (And.intro hbA (And.intro hBV hBT))
      clear hbA hBV hBT
      have hblt : b < wo.heap.size := by omega
      have hb2lt : b2 < wo.heap.size := by omega
      go_wp2_with fail
      go_loopw [39] (fun vi wi => ∃ (i : Nat) (li : List (N × Value)) (lv : Value), i ≤ x.kids.length ∧ vi = .int .i64 i ∧ Below wo.heap.size wo wi ∧ Blk wi wo.heap.size 24 #[Value.string m.kind, Value.string m.text, .slice (some ⟨b2, o2, none⟩) 3 cap2] ∧ Blk wi (wo.heap.size + 1) 24 #[Value.string ⟨#[108, 105, 115, 116]⟩, Value.string ⟨#[]⟩, lv] ∧
          wi.ownsRow (wo.heap.size + 2) 24 3 lv li.length (rowL li) ∧ li.map Prod.fst = kept (isIn L) x.kids i ∧ (∀ q ∈ li, q.1.kids = [] ∧ ∃ a c, q.2 = .slice a 0 c) ∧ wo.heap.size + 2 ≤ wi.heap.size)
        (fun vi _ => x.kids.length - (intOf vi).toNat)
      case atStart =>
        exact ⟨0, [], .slice none 0 0, Nat.zero_le _, rfl, HA0.out.1, HA0.out.2.1, HA0.out.2.2, World.ownsRow_nil _ _ _ _, rfl, (fun q hq => by simp at hq), by simp⟩
      case round =>
        obtain ⟨i, li, lv, hi, rfl, hbi, hbv, hbt, howi, hfsi, honi, hszi⟩ := hrel
        rename World => wi
        have HBI := Lib.hid hbi
        have HBV := Lib.hid hbv
        have HBT := Lib.hid hbt
        have HOWI := Lib.hid howi
        have HFSI := Lib.hid hfsi
        have HONI := Lib.hid honi
        have hlil : li.length ≤ i := by
          have h := congrArg List.length hfsi
          rw [List.length_map] at h
          have := kept_le (isIn L) x.kids i
          omega
        clear hbi hbv hbt howi hfsi honi
        have v2 := HBV.out.cell 2 _ rfl
        have v0 := HBV.out.cell 0 _ rfl
        have t0 := HBT.out.cell 0 _ rfl
        have t1 := HBT.out.cell 1 _ rfl
        have t2 := HBT.out.cell 2 _ rfl
        have tf := HBT.out.frozen 2
        have vlt := HBV.out.lt
        have tlt := HBT.out.lt
        by_cases hil : i < x.kids.length
        · obtain ⟨xm, hxm⟩ : ∃ xm, x.kids[i]? = some xm := ⟨_, List.getElem?_eq_getElem hil⟩
          obtain ⟨ax', capx, hv, hcapx, hell⟩ := HSH.out
          cases hv
          obtain ⟨bn, on, Vn, rfl, hbn, n0, n1, n2, hVn⟩ := hell i xm hxm
          have hk0 : xm.kids = [] := by
            have h := List.all_eq_true.1 HX.out.2.2.2.2 xm (List.mem_of_getElem? hxm)
            simp only [isName, Bool.and_eq_true] at h
            simpa using h.2
          obtain ⟨an, cn, rfl, _, _⟩ := hVn.shape
          rw [hk0, List.length_nil] at n2
          have hbnr : bn < wo.heap.size := by omega
          have hbni : bn < wi.heap.size := by omega
          have hcl : ∀ {q : Nat} {u : Value}, w.cell? ⟨bn, q, none⟩ = some u → wi.cell? ⟨bn, q, none⟩ = some u := fun {q u} h2 => (HBI.out.cell (p := ⟨bn, q, none⟩) hbnr).trans ((HBEL.out.cell (p := ⟨bn, q, none⟩) hbn).trans h2)
          have m0 := hcl n0
          have m1 := hcl n1
          have m2 := hcl n2
          have HXM := Lib.hid (And.intro hxm hk0)
          clear hxm hk0 hell n0 n1 n2 hVn hcl
          have hil' : (i : Int) < (x.kids.length : Int) := by omega
          have hbW : Below w.heap.size w (wi.alloc (Obj.cells #[Value.string xm.kind, Value.string xm.text, .slice an 0 cn] 24)) := (HBEL.out.trans (HBI.out.mono HBEL.out.size)).alloc (by omega) _
          have hbR : Below wo.heap.size wo (wi.alloc (Obj.cells #[Value.string xm.kind, Value.string xm.text, .slice an 0 cn] 24)) := HBI.out.alloc (by omega) _
          have hzX : (wi.alloc (Obj.cells #[Value.string xm.kind, Value.string xm.text, .slice an 0 cn] 24)).heap.size = wi.heap.size + 1 := by simp
          have HBW := Lib.hid (And.intro hbW (And.intro hbR hzX))
          have hks := kept_succ (isIn L) HXM.out.1
          have HKS := Lib.hid hks
          clear hbW hbR hks hzX
          go_wp2_with fail
          refine (contains_any L vs xm.text _ (HVS.out.below HBW.out.1 (Nat.le_refl _)) hl).mono ?_
          rintro e w2 ⟨rfl, rfl⟩
          cases hp : isIn L xm.text with
          | true =>
            have HP := Lib.hid hp
            clear hp
            go_wp2_with (at_builtin; refine wpList_append_lies _ rfl (.tmp 48) (.tmp 50) 22 rfl (wo.heap.size + 2) 24 i0 (.agg #[.string ⟨#[]⟩, .string ⟨#[]⟩, .slice none 0 0]) 3 56 under22 HI.out.1 HI.out.2.1 HI.out.2.2.1 HI.out.2.2.2 rfl (by decide) lv li.length (rowL li) rfl ((HOWI.out.alloc _).alloc _) _ 1 1 [.string xm.kind, .string xm.text, .slice an 0 cn] rfl rfl ?c1 ?c2 (by decide) ?c3 ?c4 ?c5 _ rfl ?_)
            case c1 =>
              have h := World.news_of_block (heap_alloc_new (wi.alloc (Obj.cells #[Value.string xm.kind, Value.string xm.text, .slice an 0 cn] 24)) (Obj.cells #[Value.string xm.kind, Value.string xm.text, .slice an 0 cn] 24))
              rw [HBW.out.2.2] at h
              exact h
            case c2 => intro u hu; simp at hu; rcases hu with rfl | rfl | rfl <;> rfl
            case c3 => unfold maxLen; omega
            case c4 => omega
            case c5 => simp; omega
            intro g cap' w5 hown5 hgrow5 hat5 hlt5
            have hbB : Below wo.heap.size wo ((wi.alloc (Obj.cells #[Value.string xm.kind, Value.string xm.text, .slice an 0 cn] 24)).alloc (Obj.cells #[Value.string xm.kind, Value.string xm.text, .slice an 0 cn] 24)) := HBW.out.2.1.alloc (by simp; omega) _
            have hb5 := hbB.grown hgrow5 (by simp; omega) (fun k hk => by have := (HOWI.out.lt k hk).1; omega)
            have hv5 : Blk w5 wo.heap.size 24 _ := (hgrow5.block _ (by simp; omega) (fun h => by have := (HOWI.out.lt _ h.symm).1; omega)).trans ((HBV.out.later ((Below.refl wi.heap.size wi).alloc (Nat.le_refl _) (Obj.cells #[Value.string xm.kind, Value.string xm.text, .slice an 0 cn] 24)) (by omega)).later ((Below.refl (wi.heap.size + 1) _).alloc (by simp) (Obj.cells #[Value.string xm.kind, Value.string xm.text, .slice an 0 cn] 24)) (by omega))
            have ht5 : Blk w5 (wo.heap.size + 1) 24 _ := (hgrow5.block _ (by simp; omega) (fun h => by have := (HOWI.out.lt _ h.symm).1; omega)).trans ((HBT.out.later ((Below.refl wi.heap.size wi).alloc (Nat.le_refl _) (Obj.cells #[Value.string xm.kind, Value.string xm.text, .slice an 0 cn] 24)) (by omega)).later ((Below.refl (wi.heap.size + 1) _).alloc (by simp) (Obj.cells #[Value.string xm.kind, Value.string xm.text, .slice an 0 cn] 24)) (by omega))
            have t25 := ht5.cell 2 _ rfl
            have tf5 := ht5.frozen 2
            have tl5 := ht5.lt
            have hs5 := hgrow5.size
            have HB5 := Lib.hid hb5
            have HV5 := Lib.hid hv5
            have HT5 := Lib.hid ht5
            have HO5 := Lib.hid hown5
            have hz5 : wo.heap.size + 2 ≤ w5.heap.size := by simp at hs5; omega
            clear hb5 hv5 ht5 hown5 hgrow5 hat5 hbB
            go_wp2_with fail
            go_roundw
            case rel =>
              refine ⟨i + 1, li ++ [(xm, .slice an 0 cn)], .slice (some ⟨g, 0, none⟩) (li.length + 1) cap', by omega, by go_num, HB5.out.setCell (by simp) _, HV5.out.other _ _ _ (by omega), HT5.out.set 2 _, ?_, ?_, ?_, by simpa using hz5⟩
              · rw [rowL_snoc, List.length_append]
                exact ownsRow_setCell_below HO5.out (by simp) _
              · rw [List.map_append, HFSI.out, HKS.out, HP.out]; rfl
              · intro q hq
                rcases List.mem_append.1 hq with h | h
                · exact HONI.out q h
                · simp only [List.mem_singleton] at h
                  subst h
                  exact ⟨HXM.out.2, _, _, rfl⟩
            case measure => simp [intOf]; omega
          | false =>
            have HP := Lib.hid hp
            clear hp
            go_wp2_with fail
            go_roundw
            case rel =>
              have hb1 := (Below.refl wi.heap.size wi).alloc (Nat.le_refl _) (Obj.cells #[Value.string xm.kind, Value.string xm.text, .slice an 0 cn] 24)
              refine ⟨i + 1, li, lv, by omega, by go_num, HBW.out.2.1, HBV.out.later hb1 (by omega), HBT.out.later hb1 (by omega), HOWI.out.alloc _, ?_, HONI.out, by simp; omega⟩
              rw [HFSI.out, HKS.out, HP.out]
              simp
            case measure => simp [intOf]; omega
        · have e : i = x.kids.length := by omega
          subst e
          have hkk : kept (isIn L) x.kids x.kids.length = x.kids.filter fun q => isIn L q.text := by unfold kept; rw [List.take_length]
          have hlv : leftV (isIn L) m = decide (0 < li.length) := by
            have h := congrArg List.length HFSI.out
            rw [List.length_map, hkk] at h
            rw [leftV_eq HX.out.1, h, Bool.eq_iff_iff]
            simp [List.length_pos_iff]
          have hgs := keptG_succ (isIn L) HM.out
          obtain ⟨aT, cT, rfl, hcT⟩ := owns_shape HOWI.out
          have hownO := owns_kept HOWN.out HBI.out
          have hok : ∀ q ∈ lo, KidsAt (OkO ov w.heap.size wi.heap.size) wi q.2 q.1.kids := fun q hq => ((HONE.out q hq).2).go fun b hb => ⟨⟨⟨by have := hb.1.1; omega, hb.1.2⟩, hb.2⟩, HBI.out.block b hb.1.1⟩
          have HLV := Lib.hid (And.intro hlv (And.intro hgs hkk))
          have HOWNO := Lib.hid hownO
          have HOK := Lib.hid hok
          have hbxi := HBX.out.later HBI.out HBX.out.lt
          have hboi := HBO.out.later HBI.out HBO.out.lt
          have HBXI := Lib.hid hbxi
          have HBOI := Lib.hid hboi
          have HBWI := Lib.hid (HBEL.out.trans (HBI.out.mono HBEL.out.size))
          clear hlv hgs hkk hownO hok hbxi hboi
          by_cases h0 : 0 < li.length
          · have h0' : (0 : Int) < (li.length : Int) := by omega
            have oc0 := HBOI.out.cell 0 _ rfl
            have oc2 := HBOI.out.cell 2 _ rfl
            have of2 := HBOI.out.frozen 2
            have olt := HBOI.out.lt
            have hci : ∀ {q : Nat} {u : Value}, w.cell? ⟨b2, q, none⟩ = some u → wi.cell? ⟨b2, q, none⟩ = some u := fun {q u} h2 => (HBI.out.cell (p := ⟨b2, q, none⟩) hb2lt).trans (hcell hb2 h2)
            have yc0 := hci HYC.out.1
            have yc1 := hci HYC.out.2.1
            have yc2 := hci HYC.out.2.2
            have zc0 := hci HZC.out.1
            have zc1 := hci HZC.out.2.1
            have zc2 := hci HZC.out.2.2
            have hb2i : b2 < wi.heap.size := by omega
            have hci2 := HVS
            clear hci
            have hbC : Below wi.heap.size wi (((wi.alloc (Obj.cells #[Value.string ⟨#[108, 105, 115, 116]⟩, Value.string ⟨#[]⟩, .slice aT li.length cT, .string y.kind, .string y.text, .slice ay y.kids.length cy, .string z.kind, .string z.text, .slice az z.kids.length cz] 24)).alloc (Obj.cells #[Value.string m.kind, Value.string ⟨#[]⟩, .slice (some ⟨wi.heap.size, 0, none⟩) 3 3] 24)).drew) := (((Below.refl _ _).alloc (Nat.le_refl _) _).alloc (by simp) _).drew
            have hzA : (wi.alloc (Obj.cells #[Value.string ⟨#[108, 105, 115, 116]⟩, Value.string ⟨#[]⟩, .slice aT li.length cT, .string y.kind, .string y.text, .slice ay y.kids.length cy, .string z.kind, .string z.text, .slice az z.kids.length cz] 24)).heap.size = wi.heap.size + 1 := by simp
            have hzB : (((wi.alloc (Obj.cells #[Value.string ⟨#[108, 105, 115, 116]⟩, Value.string ⟨#[]⟩, .slice aT li.length cT, .string y.kind, .string y.text, .slice ay y.kids.length cy, .string z.kind, .string z.text, .slice az z.kids.length cz] 24)).alloc (Obj.cells #[Value.string m.kind, Value.string ⟨#[]⟩, .slice (some ⟨wi.heap.size, 0, none⟩) 3 3] 24)).drew).heap.size = wi.heap.size + 2 := by show ((wi.alloc (Obj.cells #[Value.string ⟨#[108, 105, 115, 116]⟩, Value.string ⟨#[]⟩, .slice aT li.length cT, .string y.kind, .string y.text, .slice ay y.kids.length cy, .string z.kind, .string z.text, .slice az z.kids.length cz] 24)).alloc (Obj.cells #[Value.string m.kind, Value.string ⟨#[]⟩, .slice (some ⟨wi.heap.size, 0, none⟩) 3 3] 24)).heap.size = _; simp
            have hnews := World.news_of_block (w := ((wi.alloc (Obj.cells #[Value.string ⟨#[108, 105, 115, 116]⟩, Value.string ⟨#[]⟩, .slice aT li.length cT, .string y.kind, .string y.text, .slice ay y.kids.length cy, .string z.kind, .string z.text, .slice az z.kids.length cz] 24)).alloc (Obj.cells #[Value.string m.kind, Value.string ⟨#[]⟩, .slice (some ⟨wi.heap.size, 0, none⟩) 3 3] 24)).drew) (heap_alloc_new (wi.alloc (Obj.cells #[Value.string ⟨#[108, 105, 115, 116]⟩, Value.string ⟨#[]⟩, .slice aT li.length cT, .string y.kind, .string y.text, .slice ay y.kids.length cy, .string z.kind, .string z.text, .slice az z.kids.length cz] 24)) (Obj.cells #[Value.string m.kind, Value.string ⟨#[]⟩, .slice (some ⟨wi.heap.size, 0, none⟩) 3 3] 24))
            rw [hzA] at hnews
            have HC := Lib.hid (And.intro hbC (And.intro hzA (And.intro hzB hnews)))
            clear hbC hzA hzB hnews
            go_wp2_with fail
            have oc2b : (((wi.alloc (Obj.cells #[Value.string ⟨#[108, 105, 115, 116]⟩, Value.string ⟨#[]⟩, .slice aT li.length cT, .string y.kind, .string y.text, .slice ay y.kids.length cy, .string z.kind, .string z.text, .slice az z.kids.length cz] 24)).alloc (Obj.cells #[Value.string m.kind, Value.string ⟨#[]⟩, .slice (some ⟨wi.heap.size, 0, none⟩) 3 3] 24)).drew).cell? ⟨w.heap.size + 1 + 1, 2, none⟩ = some ov := (HC.out.1.cell (p := ⟨w.heap.size + 1 + 1, 2, none⟩) (by show w.heap.size + 1 + 1 < wi.heap.size; omega)).trans oc2
            refine wp_region_noPanic ?_
            refine wp_region_held_drew (S := (fun w' => w'.cell? ⟨wo.heap.size, 0, none⟩ = some (.string m.kind) ∧ w'.cell? ⟨wo.heap.size, 2, none⟩ = some (.slice (some ⟨b2, o2, none⟩) 3 cap2) ∧ w'.cell? ⟨wo.heap.size + 1, 0, none⟩ = some (.string ⟨#[108, 105, 115, 116]⟩) ∧ w'.cell? ⟨wo.heap.size + 1, 1, none⟩ = some (.string ⟨#[]⟩) ∧ w'.cell? ⟨wo.heap.size + 1, 2, none⟩ = some (.slice aT li.length cT) ∧ w'.cell? ⟨b2, o2 + 3, none⟩ = some (.string y.kind) ∧ w'.cell? ⟨b2, o2 + 3 + 1, none⟩ = some (.string y.text) ∧ w'.cell? ⟨b2, o2 + 3 + 2, none⟩ = some (.slice ay y.kids.length cy) ∧ w'.cell? ⟨b2, o2 + 6, none⟩ = some (.string z.kind) ∧ w'.cell? ⟨b2, o2 + 6 + 1, none⟩ = some (.string z.text) ∧ w'.cell? ⟨b2, o2 + 6 + 2, none⟩ = some (.slice az z.kids.length cz))) (by kernel_rfl) (by exact ⟨v0, v2, t0, t1, t2, yc0, yc1, yc2, zc0, zc1, zc2⟩) (fun hHeld => ?_)
            refine wpAnyH_take (i := 0) (v := ?_) rfl (by kernel_rfl) (by kernel_rfl) (by kernel_rfl) (fun _ _ _ h => h) (Or.inl ⟨by rfl, ?_⟩) (by assumption) ?_
            rotate_left
            · intro w hSw; (try dsimp only at hSw); go_simp; (try with_reducible rfl)
            try simp only [Act.put, List.setIfInBounds_toArray, List.set_cons_zero, List.set_cons_succ]
            refine wpAnyH_take (i := 2) (v := ?_) rfl (by kernel_rfl) (by kernel_rfl) (by kernel_rfl) (fun _ _ _ h => h) (Or.inl ⟨by rfl, ?_⟩) (by assumption) ?_
            rotate_left
            · intro w hSw; (try dsimp only at hSw); go_simp; (try with_reducible rfl)
            try simp only [Act.put, List.setIfInBounds_toArray, List.set_cons_zero, List.set_cons_succ]
            refine wpAnyH_take (i := 3) (v := ?_) rfl (by kernel_rfl) (by kernel_rfl) (by kernel_rfl) (fun _ _ _ h => h) (Or.inl ⟨by rfl, ?_⟩) (by assumption) ?_
            rotate_left
            · intro w hSw; (try dsimp only at hSw); go_simp; (try with_reducible rfl)
            try simp only [Act.put, List.setIfInBounds_toArray, List.set_cons_zero, List.set_cons_succ]
            refine wpAnyH_take (i := 4) (v := ?_) rfl (by kernel_rfl) (by kernel_rfl) (by kernel_rfl) (fun _ _ _ h => h) (Or.inl ⟨by rfl, ?_⟩) (by assumption) ?_
            rotate_left
            · intro w hSw; (try dsimp only at hSw); go_simp; (try with_reducible rfl)
            try simp only [Act.put, List.setIfInBounds_toArray, List.set_cons_zero, List.set_cons_succ]
            refine wpAnyH_take (i := 5) (v := ?_) rfl (by kernel_rfl) (by kernel_rfl) (by kernel_rfl) (fun _ _ _ h => h) (Or.inl ⟨by rfl, ?_⟩) (by assumption) ?_
            rotate_left
            · intro w hSw; (try dsimp only at hSw); go_simp; (try with_reducible rfl)
            try simp only [Act.put, List.setIfInBounds_toArray, List.set_cons_zero, List.set_cons_succ]
            refine wpAnyH_take (i := 6) (v := ?_) rfl (by kernel_rfl) (by kernel_rfl) (by kernel_rfl) (fun _ _ _ h => h) (Or.inl ⟨by rfl, ?_⟩) (by assumption) ?_
            rotate_left
            · intro w hSw; (try dsimp only at hSw); go_simp; (try with_reducible rfl)
            try simp only [Act.put, List.setIfInBounds_toArray, List.set_cons_zero, List.set_cons_succ]
            refine wpAnyH_take (i := 7) (v := ?_) rfl (by kernel_rfl) (by kernel_rfl) (by kernel_rfl) (fun _ _ _ h => h) (Or.inl ⟨by rfl, ?_⟩) (by assumption) ?_
            rotate_left
            · intro w hSw; (try dsimp only at hSw); go_simp; (try with_reducible rfl)
            try simp only [Act.put, List.setIfInBounds_toArray, List.set_cons_zero, List.set_cons_succ]
            refine wpAnyH_take (i := 8) (v := ?_) rfl (by kernel_rfl) (by kernel_rfl) (by kernel_rfl) (fun _ _ _ h => h) (Or.inl ⟨by rfl, ?_⟩) (by assumption) ?_
            rotate_left
            · intro w hSw; (try dsimp only at hSw); go_simp; (try with_reducible rfl)
            try simp only [Act.put, List.setIfInBounds_toArray, List.set_cons_zero, List.set_cons_succ]
            refine wpAnyH_take (i := 9) (v := ?_) rfl (by kernel_rfl) (by kernel_rfl) (by kernel_rfl) (fun _ _ _ h => h) (Or.inl ⟨by rfl, ?_⟩) (by assumption) ?_
            rotate_left
            · intro w hSw; (try dsimp only at hSw); go_simp; (try with_reducible rfl)
            try simp only [Act.put, List.setIfInBounds_toArray, List.set_cons_zero, List.set_cons_succ]
            refine wpAnyH_take (i := 10) (v := ?_) rfl (by kernel_rfl) (by kernel_rfl) (by kernel_rfl) (fun _ _ _ h => h) (Or.inl ⟨by rfl, ?_⟩) (by assumption) ?_
            rotate_left
            · intro w hSw; (try dsimp only at hSw); go_simp; (try with_reducible rfl)
            try simp only [Act.put, List.setIfInBounds_toArray, List.set_cons_zero, List.set_cons_succ]
            refine wpAnyH_take (i := 11) (v := ?_) rfl (by kernel_rfl) (by kernel_rfl) (by kernel_rfl) (fun _ _ _ h => h) (Or.inl ⟨by rfl, ?_⟩) (by assumption) ?_
            rotate_left
            · intro w hSw; (try dsimp only at hSw); go_simp; (try with_reducible rfl)
            try simp only [Act.put, List.setIfInBounds_toArray, List.set_cons_zero, List.set_cons_succ]
            refine wpAnyH_take (i := 12) (v := ?_) rfl (by kernel_rfl) (by kernel_rfl) (by kernel_rfl) (fun _ _ _ h => h) (Or.inl ⟨by rfl, ?_⟩) (by assumption) ?_
            rotate_left
            · intro w hSw; (try dsimp only at hSw); go_simp; (try with_reducible rfl)
            try simp only [Act.put, List.setIfInBounds_toArray, List.set_cons_zero, List.set_cons_succ]
            refine wpAnyH_ready (rs := [1, 13]) (by kernel_rfl) (by simp) ?_
            refine AllReadyH.cons (o := _) rfl (fun K hK => ?_) (AllReadyH.cons (o := _) rfl (fun K hK => ?_) AllReadyH.nil)
            · skip
              go_simp
              refine hK.out _ _ (by first | exact hHeld | go_keep) (fun hHeld => ?_)
              clear hK K
              try simp only [Act.put, List.setIfInBounds_toArray, List.set_cons_zero, List.set_cons_succ]
              refine wpAnyH_ready (rs := [13]) (by kernel_rfl) (by simp) ?_
              refine AllReadyH.cons (o := _) rfl (fun K hK => ?_) AllReadyH.nil
              go_simp
              refine hK.out _ _ (by first | exact hHeld | go_keep) (fun hHeld => ?_)
              clear hK K
              try simp only [Act.put, List.setIfInBounds_toArray, List.set_cons_zero, List.set_cons_succ]
              refine wpAnyH_take (i := 14) (v := ?_) rfl (by kernel_rfl) (by kernel_rfl) (by kernel_rfl) (fun _ _ _ h => h) (Or.inl ⟨by rfl, ?_⟩) (by assumption) ?_
              rotate_left
              · intro w hSw; (try dsimp only at hSw); go_simp; (try with_reducible rfl)
              try simp only [Act.put, List.setIfInBounds_toArray, List.set_cons_zero, List.set_cons_succ]
              refine wpAnyH_ready (rs := [15]) (by kernel_rfl) (by simp) ?_
              refine AllReadyH.cons (o := _) rfl (fun K hK => ?_) AllReadyH.nil
              go_simp
              refine hK.out _ _ (by first | exact hHeld | go_keep) (fun hHeld => ?_)
              clear hK K
              try simp only [Act.put, List.setIfInBounds_toArray, List.set_cons_zero, List.set_cons_succ]
              refine wpAnyH_ready (rs := [16]) (by kernel_rfl) (by simp) ?_
              refine AllReadyH.cons (o := _) rfl (fun K hK => ?_) AllReadyH.nil
              refine step_append_lies _ (by rfl) (.tmp 59) (.tmp 73) 22 (by rfl) (w.heap.size + 3) 24 i0 (.agg #[.string ⟨#[]⟩, .string ⟨#[]⟩, .slice none 0 0]) 3 56 under22 HI.out.1 HI.out.2.1 HI.out.2.2.1 HI.out.2.2.2 (by rfl) (by decide) ov lo.length (rowL lo) (by first | (simp [Act.eval]; done) | rfl) ((HOWNO.out.alloc _).alloc _).drew ⟨wi.heap.size + 1, 0, none⟩ 1 1 [.string m.kind, .string ⟨#[]⟩, .slice (some ⟨wi.heap.size, 0, none⟩) 3 3] (by first | (simp [Act.eval]; done) | rfl) (by rfl) HC.out.2.2.2 (by simp [Value.oneCell']) (by decide) (by unfold maxLen; omega) (by omega) (by have := HC.out.2.2.1; omega) (wi.heap.size + 2) HC.out.2.2.1 ?_
              intro gg cap' w5 hown5 hgrow5 hat5 hlt5
              have hs5 := hgrow5.size
              rw [HC.out.2.2.1] at hs5
              have hownlt : ∀ k, ov.ownBlock = some k → w.heap.size + 3 ≤ k ∧ k < wo.heap.size := fun k hk => HOWN.out.lt k hk
              have hsame : ∀ k, k < wi.heap.size + 2 → ov.ownBlock ≠ some k → w5.heap[k]? = (((wi.alloc (Obj.cells #[Value.string ⟨#[108, 105, 115, 116]⟩, Value.string ⟨#[]⟩, .slice aT li.length cT, .string y.kind, .string y.text, .slice ay y.kids.length cy, .string z.kind, .string z.text, .slice az z.kids.length cz] 24)).alloc (Obj.cells #[Value.string m.kind, Value.string ⟨#[]⟩, .slice (some ⟨wi.heap.size, 0, none⟩) 3 3] 24)).drew).heap[k]? := fun k h1 h2 => hgrow5.block k (by rw [HC.out.2.2.1]; exact h1) (fun e => h2 e.symm)
              have hx5 : Blk w5 (w.heap.size + 1) 24 _ := (hsame _ (by omega) (fun h => by have := (hownlt _ h).1; omega)).trans (HBXI.out.later HC.out.1 HBXI.out.lt)
              have ho5 : Blk w5 (w.heap.size + 1 + 1) 24 _ := (hsame _ (by omega) (fun h => by have := (hownlt _ h).1; omega)).trans (HBOI.out.later HC.out.1 HBOI.out.lt)
              have hbW5 : Below w.heap.size w w5 := (HBWI.out.trans (HC.out.1.mono HBWI.out.size)).grown hgrow5 (by rw [HC.out.2.2.1]; omega) (fun k hk => by have := (hownlt k hk).1; omega)
              have hg5 := hown5.lt gg rfl
              have z2 := ho5.cell 2 _ rfl
              have zf := ho5.frozen 2
              have zl := ho5.lt
              have hc5 : ∀ {p q : Nat} {u : Value}, p < wi.heap.size → ov.ownBlock ≠ some p → wi.cell? ⟨p, q, none⟩ = some u → w5.cell? ⟨p, q, none⟩ = some u := fun {p q u} h1 h2 h3 => (World.cell?_of_block (hsame p (by omega) h2)).trans ((HC.out.1.cell (p := ⟨p, q, none⟩) h1).trans h3)
              have nO : ov.ownBlock ≠ some (w.heap.size + 1 + 1) := fun h => by have := (hownlt _ h).1; omega
              have nV : ov.ownBlock ≠ some wo.heap.size := fun h => by have := (hownlt _ h).2; omega
              have nT : ov.ownBlock ≠ some (wo.heap.size + 1) := fun h => by have := (hownlt _ h).2; omega
              have nB : ov.ownBlock ≠ some b2 := fun h => by have := (hownlt _ h).1; omega
              have hS5 := And.intro (hc5 (by omega) nV v0) (And.intro (hc5 (by omega) nV v2) (And.intro (hc5 (by omega) nT t0) (And.intro (hc5 (by omega) nT t1) (And.intro (hc5 (by omega) nT t2) (And.intro (hc5 (by omega) nB yc0) (And.intro (hc5 (by omega) nB yc1) (And.intro (hc5 (by omega) nB yc2) (And.intro (hc5 (by omega) nB zc0) (And.intro (hc5 (by omega) nB zc1) (hc5 (by omega) nB zc2))))))))))
              have HS5 := Lib.hid hsame
              have HOL := Lib.hid hownlt
              have HX5 := Lib.hid hx5
              have HO5 := Lib.hid ho5
              have HBW5 := Lib.hid hbW5
              have HR5 := Lib.hid hown5
              have HAT := Lib.hid hat5
              clear hown5 hgrow5 hat5 hx5 ho5 hbW5 hsame hownlt hc5 nO nV nT nB
              refine hK.out _ _ hS5 (fun hHeld => ?_)
              clear hK K
              try simp only [Act.put, List.setIfInBounds_toArray, List.set_cons_zero, List.set_cons_succ]
              refine wpAnyH_take (i := 17) (v := ?_) rfl (by kernel_rfl) (by kernel_rfl) (by kernel_rfl) (fun _ _ _ h => h) (Or.inl ⟨by rfl, ?_⟩) (by assumption) ?_
              rotate_left
              · intro w hSw; (try dsimp only at hSw); go_simp; (try with_reducible rfl)
              try simp only [Act.put, List.setIfInBounds_toArray, List.set_cons_zero, List.set_cons_succ]
              refine wpAnyH_ready (rs := [18]) (by kernel_rfl) (by simp) ?_
              refine AllReadyH.cons (o := _) rfl (fun K hK => ?_) AllReadyH.nil
              go_simp
              refine hK.out _ _ ?_ (fun hHeld => ?_)
              · have hs18 : ∀ {p q : Nat} {u : Value}, p ≠ w.heap.size + 1 + 1 → w5.cell? ⟨p, q, none⟩ = some u → (w5.setCell ⟨w.heap.size + 1 + 1, 2, none⟩ (.slice (some ⟨gg, 0, none⟩) (lo.length + 1) cap')).cell? ⟨p, q, none⟩ = some u := fun {p q u} h1 h2 => (World.cell?_of_block (a := ⟨p, q, none⟩) (heap_setCell_other _ _ _ _ (by simpa using h1))).trans h2
                obtain ⟨s0, s1, s2, s3, s4, s5, s6, s7, s8, s9, s10⟩ := hS5
                exact ⟨hs18 (by omega) s0, hs18 (by omega) s1, hs18 (by omega) s2, hs18 (by omega) s3, hs18 (by omega) s4, hs18 (by omega) s5, hs18 (by omega) s6, hs18 (by omega) s7, hs18 (by omega) s8, hs18 (by omega) s9, hs18 (by omega) s10⟩
              clear hK K
              try simp only [Act.put, List.setIfInBounds_toArray, List.set_cons_zero, List.set_cons_succ]
              refine wpAnyH_done (by kernel_rfl) ?_ _
              refine NoPanic.normal ?_
              go_wp2_with fail
              go_roundw
              case rel =>
                have hfm : filtV (isIn L) m = .mk m.kind m.text [.mk x.kind x.text (x.kids.filter fun q => isIn L q.text), y, z] := filtV_eq HX.out.1
                have hgg : ∀ k, ov.ownBlock = some k → k < wo.heap.size := fun k hk => (HOL.out k hk).2
                have hne : ∀ k, k < wi.heap.size + 2 → ov.ownBlock ≠ some k → gg ≠ k := fun k h1 h2 e => by
                  subst e
                  rcases HAT.out with h | h
                  · exact h2 h
                  · omega
                have hB5 : Blk w5 wi.heap.size 24 _ := (HS5.out wi.heap.size (by omega) (fun h => by have := hgg _ h; omega)).trans (show Blk ((wi.alloc (Obj.cells #[Value.string ⟨#[108, 105, 115, 116]⟩, Value.string ⟨#[]⟩, .slice aT li.length cT, .string y.kind, .string y.text, .slice ay y.kids.length cy, .string z.kind, .string z.text, .slice az z.kids.length cz] 24)).alloc (Obj.cells #[Value.string m.kind, Value.string ⟨#[]⟩, .slice (some ⟨wi.heap.size, 0, none⟩) 3 3] 24)) _ _ _ from (Blk.later (b := wi.heap.size) (B := wi.heap.size + 1) (Blk.new wi _ _) ((Below.refl (wi.heap.size + 1) _).alloc (by rw [HC.out.2.1]; exact Nat.le_refl _) (Obj.cells #[Value.string m.kind, Value.string ⟨#[]⟩, .slice (some ⟨wi.heap.size, 0, none⟩) 3 3] 24)) (by omega)))
                have hT5 : KidsAt (OkO (.slice (some ⟨gg, 0, none⟩) (lo.length + 1) cap') w.heap.size w5.heap.size) w5 (.slice aT li.length cT) (x.kids.filter fun q => isIn L q.text) := by
                  have h1 := kids_row (ok := fun b => wo.heap.size + 2 ≤ b ∧ b < wi.heap.size) HOWI.out (fun g hg => HOWI.out.lt g hg) (fun q hq => by
                    obtain ⟨e1, a9, c9, e2⟩ := HONI.out q hq
                    rw [e1, e2]
                    exact .nil _ _)
                  rw [HFSI.out, HLV.out.2.2] at h1
                  refine h1.go fun b hb => ⟨⟨⟨by omega, by omega⟩, ?_⟩, ?_⟩
                  · intro e
                    have e' : gg = b := by simpa [Value.ownBlock] using e
                    exact hne b (by omega) (fun h => by have := hgg b h; omega) e'
                  · exact (HS5.out b (by omega) (fun h => by have := hgg b h; omega)).trans (HC.out.1.block b hb.2)
                have hold : ∀ {u : Value} {ks : List N}, KidsAt (· < w.heap.size) w u ks → KidsAt (OkO (.slice (some ⟨gg, 0, none⟩) (lo.length + 1) cap') w.heap.size w5.heap.size) w5 u ks := fun {u ks} h => h.go fun b hb => ⟨⟨⟨by omega, .inl hb⟩, fun e => by
                  have e' : gg = b := by simpa [Value.ownBlock] using e
                  omega⟩, HBW5.out.block b hb⟩
                have hK5 := kids3_ok (ok := OkO (.slice (some ⟨gg, 0, none⟩) (lo.length + 1) cap') w.heap.size w5.heap.size) (x := .mk x.kind x.text (x.kids.filter fun q => isIn L q.text)) (y := y) (z := z) (by rw [HX.out.2.2.1, HX.out.2.2.2.1]; exact hB5) ⟨⟨by omega, .inr (by omega)⟩, fun e => hne wi.heap.size (by omega) (fun h => by have := hgg _ h; omega) (by simpa [Value.ownBlock] using e)⟩ hT5 (hold HYK.out) (hold HZK.out)
                have hset : ∀ {u : Value} {ks : List N}, KidsAt (OkO (.slice (some ⟨gg, 0, none⟩) (lo.length + 1) cap') w.heap.size w5.heap.size) w5 u ks → KidsAt (OkO (.slice (some ⟨gg, 0, none⟩) (lo.length + 1) cap') w.heap.size (w5.setCell ⟨w.heap.size + 1 + 1, 2, none⟩ (.slice (some ⟨gg, 0, none⟩) (lo.length + 1) cap')).heap.size) (w5.setCell ⟨w.heap.size + 1 + 1, 2, none⟩ (.slice (some ⟨gg, 0, none⟩) (lo.length + 1) cap')) u ks := fun {u ks} h => by
                  have h1 := h.setC (X := w.heap.size + 1 + 1) (i := 2) (u := .slice (some ⟨gg, 0, none⟩) (lo.length + 1) cap') (fun h => by have := h.1.2; omega)
                  simpa using h1
                refine ⟨j + 1, lo ++ [(filtV (isIn L) m, .slice (some ⟨wi.heap.size, 0, none⟩) 3 3)], .slice (some ⟨gg, 0, none⟩) (lo.length + 1) cap', by omega, by go_num, HX5.out.other _ _ _ (by omega), HO5.out.set 2 _, ?_, ?_, fun q hq => ?_, HBW5.out.setCell (by simp; omega) _, by simp; omega⟩
                · rw [rowL_snoc, List.length_append, hfm]
                  have h := ownsRow_setCell_below (a := ⟨w.heap.size + 1 + 1, 2, none⟩) HR5.out (by show w.heap.size + 1 + 1 < w.heap.size + 3; omega) (.slice (some ⟨gg, 0, none⟩) (lo.length + 1) cap')
                  show World.ownsRow _ _ _ _ _ _ (rowL lo ++ [Value.string m.kind, Value.string m.text, _])
                  rw [HX.out.2.1]
                  exact h
                · rw [List.map_append, HFST.out, HLV.out.2.1, HLV.out.1]
                  simp [h0]
                · rcases List.mem_append.1 hq with hq | hq
                  · refine ⟨(HONE.out q hq).1, hset ((HOK.out q hq).go fun b hb => ⟨⟨⟨by have := hb.1.1; omega, hb.1.2⟩, fun e => ?_⟩, ?_⟩)⟩
                    · have e' : gg = b := by simpa [Value.ownBlock] using e
                      exact hne b (by have := hb.1.1; omega) hb.2 e'
                    · exact (HS5.out b (by have := hb.1.1; omega) hb.2).trans (HC.out.1.block b hb.1.1)
                  · simp only [List.mem_singleton] at hq
                    subst hq
                    refine ⟨⟨_, _, _, rfl⟩, hset ?_⟩
                    rw [hfm]
                    exact hK5
              case measure => simp [intOf]; omega
            · skip
              go_simp
              refine hK.out _ _ (by first | exact hHeld | go_keep) (fun hHeld => ?_)
              clear hK K
              try simp only [Act.put, List.setIfInBounds_toArray, List.set_cons_zero, List.set_cons_succ]
              refine wpAnyH_take (i := 14) (v := ?_) rfl (by kernel_rfl) (by kernel_rfl) (by kernel_rfl) (fun _ _ _ h => h) (Or.inl ⟨by rfl, ?_⟩) (by assumption) ?_
              rotate_left
              · intro w hSw; (try dsimp only at hSw); go_simp; (try with_reducible rfl)
              try simp only [Act.put, List.setIfInBounds_toArray, List.set_cons_zero, List.set_cons_succ]
              refine wpAnyH_ready (rs := [1, 15]) (by kernel_rfl) (by simp) ?_
              refine AllReadyH.cons (o := _) rfl (fun K hK => ?_) (AllReadyH.cons (o := _) rfl (fun K hK => ?_) AllReadyH.nil)
              · skip
                go_simp
                refine hK.out _ _ (by first | exact hHeld | go_keep) (fun hHeld => ?_)
                clear hK K
                try simp only [Act.put, List.setIfInBounds_toArray, List.set_cons_zero, List.set_cons_succ]
                refine wpAnyH_ready (rs := [15]) (by kernel_rfl) (by simp) ?_
                refine AllReadyH.cons (o := _) rfl (fun K hK => ?_) AllReadyH.nil
                go_simp
                refine hK.out _ _ (by first | exact hHeld | go_keep) (fun hHeld => ?_)
                clear hK K
                try simp only [Act.put, List.setIfInBounds_toArray, List.set_cons_zero, List.set_cons_succ]
                refine wpAnyH_ready (rs := [16]) (by kernel_rfl) (by simp) ?_
                refine AllReadyH.cons (o := _) rfl (fun K hK => ?_) AllReadyH.nil
                refine step_append_lies _ (by rfl) (.tmp 59) (.tmp 73) 22 (by rfl) (w.heap.size + 3) 24 i0 (.agg #[.string ⟨#[]⟩, .string ⟨#[]⟩, .slice none 0 0]) 3 56 under22 HI.out.1 HI.out.2.1 HI.out.2.2.1 HI.out.2.2.2 (by rfl) (by decide) ov lo.length (rowL lo) (by first | (simp [Act.eval]; done) | rfl) ((HOWNO.out.alloc _).alloc _).drew ⟨wi.heap.size + 1, 0, none⟩ 1 1 [.string m.kind, .string ⟨#[]⟩, .slice (some ⟨wi.heap.size, 0, none⟩) 3 3] (by first | (simp [Act.eval]; done) | rfl) (by rfl) HC.out.2.2.2 (by simp [Value.oneCell']) (by decide) (by unfold maxLen; omega) (by omega) (by have := HC.out.2.2.1; omega) (wi.heap.size + 2) HC.out.2.2.1 ?_
                intro gg cap' w5 hown5 hgrow5 hat5 hlt5
                have hs5 := hgrow5.size
                rw [HC.out.2.2.1] at hs5
                have hownlt : ∀ k, ov.ownBlock = some k → w.heap.size + 3 ≤ k ∧ k < wo.heap.size := fun k hk => HOWN.out.lt k hk
                have hsame : ∀ k, k < wi.heap.size + 2 → ov.ownBlock ≠ some k → w5.heap[k]? = (((wi.alloc (Obj.cells #[Value.string ⟨#[108, 105, 115, 116]⟩, Value.string ⟨#[]⟩, .slice aT li.length cT, .string y.kind, .string y.text, .slice ay y.kids.length cy, .string z.kind, .string z.text, .slice az z.kids.length cz] 24)).alloc (Obj.cells #[Value.string m.kind, Value.string ⟨#[]⟩, .slice (some ⟨wi.heap.size, 0, none⟩) 3 3] 24)).drew).heap[k]? := fun k h1 h2 => hgrow5.block k (by rw [HC.out.2.2.1]; exact h1) (fun e => h2 e.symm)
                have hx5 : Blk w5 (w.heap.size + 1) 24 _ := (hsame _ (by omega) (fun h => by have := (hownlt _ h).1; omega)).trans (HBXI.out.later HC.out.1 HBXI.out.lt)
                have ho5 : Blk w5 (w.heap.size + 1 + 1) 24 _ := (hsame _ (by omega) (fun h => by have := (hownlt _ h).1; omega)).trans (HBOI.out.later HC.out.1 HBOI.out.lt)
                have hbW5 : Below w.heap.size w w5 := (HBWI.out.trans (HC.out.1.mono HBWI.out.size)).grown hgrow5 (by rw [HC.out.2.2.1]; omega) (fun k hk => by have := (hownlt k hk).1; omega)
                have hg5 := hown5.lt gg rfl
                have z2 := ho5.cell 2 _ rfl
                have zf := ho5.frozen 2
                have zl := ho5.lt
                have hc5 : ∀ {p q : Nat} {u : Value}, p < wi.heap.size → ov.ownBlock ≠ some p → wi.cell? ⟨p, q, none⟩ = some u → w5.cell? ⟨p, q, none⟩ = some u := fun {p q u} h1 h2 h3 => (World.cell?_of_block (hsame p (by omega) h2)).trans ((HC.out.1.cell (p := ⟨p, q, none⟩) h1).trans h3)
                have nO : ov.ownBlock ≠ some (w.heap.size + 1 + 1) := fun h => by have := (hownlt _ h).1; omega
                have nV : ov.ownBlock ≠ some wo.heap.size := fun h => by have := (hownlt _ h).2; omega
                have nT : ov.ownBlock ≠ some (wo.heap.size + 1) := fun h => by have := (hownlt _ h).2; omega
                have nB : ov.ownBlock ≠ some b2 := fun h => by have := (hownlt _ h).1; omega
                have hS5 := And.intro (hc5 (by omega) nV v0) (And.intro (hc5 (by omega) nV v2) (And.intro (hc5 (by omega) nT t0) (And.intro (hc5 (by omega) nT t1) (And.intro (hc5 (by omega) nT t2) (And.intro (hc5 (by omega) nB yc0) (And.intro (hc5 (by omega) nB yc1) (And.intro (hc5 (by omega) nB yc2) (And.intro (hc5 (by omega) nB zc0) (And.intro (hc5 (by omega) nB zc1) (hc5 (by omega) nB zc2))))))))))
                have HS5 := Lib.hid hsame
                have HOL := Lib.hid hownlt
                have HX5 := Lib.hid hx5
                have HO5 := Lib.hid ho5
                have HBW5 := Lib.hid hbW5
                have HR5 := Lib.hid hown5
                have HAT := Lib.hid hat5
                clear hown5 hgrow5 hat5 hx5 ho5 hbW5 hsame hownlt hc5 nO nV nT nB
                refine hK.out _ _ hS5 (fun hHeld => ?_)
                clear hK K
                try simp only [Act.put, List.setIfInBounds_toArray, List.set_cons_zero, List.set_cons_succ]
                refine wpAnyH_take (i := 17) (v := ?_) rfl (by kernel_rfl) (by kernel_rfl) (by kernel_rfl) (fun _ _ _ h => h) (Or.inl ⟨by rfl, ?_⟩) (by assumption) ?_
                rotate_left
                · intro w hSw; (try dsimp only at hSw); go_simp; (try with_reducible rfl)
                try simp only [Act.put, List.setIfInBounds_toArray, List.set_cons_zero, List.set_cons_succ]
                refine wpAnyH_ready (rs := [18]) (by kernel_rfl) (by simp) ?_
                refine AllReadyH.cons (o := _) rfl (fun K hK => ?_) AllReadyH.nil
                go_simp
                refine hK.out _ _ ?_ (fun hHeld => ?_)
                · have hs18 : ∀ {p q : Nat} {u : Value}, p ≠ w.heap.size + 1 + 1 → w5.cell? ⟨p, q, none⟩ = some u → (w5.setCell ⟨w.heap.size + 1 + 1, 2, none⟩ (.slice (some ⟨gg, 0, none⟩) (lo.length + 1) cap')).cell? ⟨p, q, none⟩ = some u := fun {p q u} h1 h2 => (World.cell?_of_block (a := ⟨p, q, none⟩) (heap_setCell_other _ _ _ _ (by simpa using h1))).trans h2
                  obtain ⟨s0, s1, s2, s3, s4, s5, s6, s7, s8, s9, s10⟩ := hS5
                  exact ⟨hs18 (by omega) s0, hs18 (by omega) s1, hs18 (by omega) s2, hs18 (by omega) s3, hs18 (by omega) s4, hs18 (by omega) s5, hs18 (by omega) s6, hs18 (by omega) s7, hs18 (by omega) s8, hs18 (by omega) s9, hs18 (by omega) s10⟩
                clear hK K
                try simp only [Act.put, List.setIfInBounds_toArray, List.set_cons_zero, List.set_cons_succ]
                refine wpAnyH_done (by kernel_rfl) ?_ _
                refine NoPanic.normal ?_
                go_wp2_with fail
                go_roundw
                case rel =>
                  have hfm : filtV (isIn L) m = .mk m.kind m.text [.mk x.kind x.text (x.kids.filter fun q => isIn L q.text), y, z] := filtV_eq HX.out.1
                  have hgg : ∀ k, ov.ownBlock = some k → k < wo.heap.size := fun k hk => (HOL.out k hk).2
                  have hne : ∀ k, k < wi.heap.size + 2 → ov.ownBlock ≠ some k → gg ≠ k := fun k h1 h2 e => by
                    subst e
                    rcases HAT.out with h | h
                    · exact h2 h
                    · omega
                  have hB5 : Blk w5 wi.heap.size 24 _ := (HS5.out wi.heap.size (by omega) (fun h => by have := hgg _ h; omega)).trans (show Blk ((wi.alloc (Obj.cells #[Value.string ⟨#[108, 105, 115, 116]⟩, Value.string ⟨#[]⟩, .slice aT li.length cT, .string y.kind, .string y.text, .slice ay y.kids.length cy, .string z.kind, .string z.text, .slice az z.kids.length cz] 24)).alloc (Obj.cells #[Value.string m.kind, Value.string ⟨#[]⟩, .slice (some ⟨wi.heap.size, 0, none⟩) 3 3] 24)) _ _ _ from (Blk.later (b := wi.heap.size) (B := wi.heap.size + 1) (Blk.new wi _ _) ((Below.refl (wi.heap.size + 1) _).alloc (by rw [HC.out.2.1]; exact Nat.le_refl _) (Obj.cells #[Value.string m.kind, Value.string ⟨#[]⟩, .slice (some ⟨wi.heap.size, 0, none⟩) 3 3] 24)) (by omega)))
                  have hT5 : KidsAt (OkO (.slice (some ⟨gg, 0, none⟩) (lo.length + 1) cap') w.heap.size w5.heap.size) w5 (.slice aT li.length cT) (x.kids.filter fun q => isIn L q.text) := by
                    have h1 := kids_row (ok := fun b => wo.heap.size + 2 ≤ b ∧ b < wi.heap.size) HOWI.out (fun g hg => HOWI.out.lt g hg) (fun q hq => by
                      obtain ⟨e1, a9, c9, e2⟩ := HONI.out q hq
                      rw [e1, e2]
                      exact .nil _ _)
                    rw [HFSI.out, HLV.out.2.2] at h1
                    refine h1.go fun b hb => ⟨⟨⟨by omega, by omega⟩, ?_⟩, ?_⟩
                    · intro e
                      have e' : gg = b := by simpa [Value.ownBlock] using e
                      exact hne b (by omega) (fun h => by have := hgg b h; omega) e'
                    · exact (HS5.out b (by omega) (fun h => by have := hgg b h; omega)).trans (HC.out.1.block b hb.2)
                  have hold : ∀ {u : Value} {ks : List N}, KidsAt (· < w.heap.size) w u ks → KidsAt (OkO (.slice (some ⟨gg, 0, none⟩) (lo.length + 1) cap') w.heap.size w5.heap.size) w5 u ks := fun {u ks} h => h.go fun b hb => ⟨⟨⟨by omega, .inl hb⟩, fun e => by
                    have e' : gg = b := by simpa [Value.ownBlock] using e
                    omega⟩, HBW5.out.block b hb⟩
                  have hK5 := kids3_ok (ok := OkO (.slice (some ⟨gg, 0, none⟩) (lo.length + 1) cap') w.heap.size w5.heap.size) (x := .mk x.kind x.text (x.kids.filter fun q => isIn L q.text)) (y := y) (z := z) (by rw [HX.out.2.2.1, HX.out.2.2.2.1]; exact hB5) ⟨⟨by omega, .inr (by omega)⟩, fun e => hne wi.heap.size (by omega) (fun h => by have := hgg _ h; omega) (by simpa [Value.ownBlock] using e)⟩ hT5 (hold HYK.out) (hold HZK.out)
                  have hset : ∀ {u : Value} {ks : List N}, KidsAt (OkO (.slice (some ⟨gg, 0, none⟩) (lo.length + 1) cap') w.heap.size w5.heap.size) w5 u ks → KidsAt (OkO (.slice (some ⟨gg, 0, none⟩) (lo.length + 1) cap') w.heap.size (w5.setCell ⟨w.heap.size + 1 + 1, 2, none⟩ (.slice (some ⟨gg, 0, none⟩) (lo.length + 1) cap')).heap.size) (w5.setCell ⟨w.heap.size + 1 + 1, 2, none⟩ (.slice (some ⟨gg, 0, none⟩) (lo.length + 1) cap')) u ks := fun {u ks} h => by
                    have h1 := h.setC (X := w.heap.size + 1 + 1) (i := 2) (u := .slice (some ⟨gg, 0, none⟩) (lo.length + 1) cap') (fun h => by have := h.1.2; omega)
                    simpa using h1
                  refine ⟨j + 1, lo ++ [(filtV (isIn L) m, .slice (some ⟨wi.heap.size, 0, none⟩) 3 3)], .slice (some ⟨gg, 0, none⟩) (lo.length + 1) cap', by omega, by go_num, HX5.out.other _ _ _ (by omega), HO5.out.set 2 _, ?_, ?_, fun q hq => ?_, HBW5.out.setCell (by simp; omega) _, by simp; omega⟩
                  · rw [rowL_snoc, List.length_append, hfm]
                    have h := ownsRow_setCell_below (a := ⟨w.heap.size + 1 + 1, 2, none⟩) HR5.out (by show w.heap.size + 1 + 1 < w.heap.size + 3; omega) (.slice (some ⟨gg, 0, none⟩) (lo.length + 1) cap')
                    show World.ownsRow _ _ _ _ _ _ (rowL lo ++ [Value.string m.kind, Value.string m.text, _])
                    rw [HX.out.2.1]
                    exact h
                  · rw [List.map_append, HFST.out, HLV.out.2.1, HLV.out.1]
                    simp [h0]
                  · rcases List.mem_append.1 hq with hq | hq
                    · refine ⟨(HONE.out q hq).1, hset ((HOK.out q hq).go fun b hb => ⟨⟨⟨by have := hb.1.1; omega, hb.1.2⟩, fun e => ?_⟩, ?_⟩)⟩
                      · have e' : gg = b := by simpa [Value.ownBlock] using e
                        exact hne b (by have := hb.1.1; omega) hb.2 e'
                      · exact (HS5.out b (by have := hb.1.1; omega) hb.2).trans (HC.out.1.block b hb.1.1)
                    · simp only [List.mem_singleton] at hq
                      subst hq
                      refine ⟨⟨_, _, _, rfl⟩, hset ?_⟩
                      rw [hfm]
                      exact hK5
                case measure => simp [intOf]; omega
              · skip
                go_simp
                refine hK.out _ _ (by first | exact hHeld | go_keep) (fun hHeld => ?_)
                clear hK K
                try simp only [Act.put, List.setIfInBounds_toArray, List.set_cons_zero, List.set_cons_succ]
                refine wpAnyH_ready (rs := [1]) (by kernel_rfl) (by simp) ?_
                refine AllReadyH.cons (o := _) rfl (fun K hK => ?_) AllReadyH.nil
                go_simp
                refine hK.out _ _ (by first | exact hHeld | go_keep) (fun hHeld => ?_)
                clear hK K
                try simp only [Act.put, List.setIfInBounds_toArray, List.set_cons_zero, List.set_cons_succ]
                refine wpAnyH_ready (rs := [16]) (by kernel_rfl) (by simp) ?_
                refine AllReadyH.cons (o := _) rfl (fun K hK => ?_) AllReadyH.nil
                refine step_append_lies _ (by rfl) (.tmp 59) (.tmp 73) 22 (by rfl) (w.heap.size + 3) 24 i0 (.agg #[.string ⟨#[]⟩, .string ⟨#[]⟩, .slice none 0 0]) 3 56 under22 HI.out.1 HI.out.2.1 HI.out.2.2.1 HI.out.2.2.2 (by rfl) (by decide) ov lo.length (rowL lo) (by first | (simp [Act.eval]; done) | rfl) ((HOWNO.out.alloc _).alloc _).drew ⟨wi.heap.size + 1, 0, none⟩ 1 1 [.string m.kind, .string ⟨#[]⟩, .slice (some ⟨wi.heap.size, 0, none⟩) 3 3] (by first | (simp [Act.eval]; done) | rfl) (by rfl) HC.out.2.2.2 (by simp [Value.oneCell']) (by decide) (by unfold maxLen; omega) (by omega) (by have := HC.out.2.2.1; omega) (wi.heap.size + 2) HC.out.2.2.1 ?_
                intro gg cap' w5 hown5 hgrow5 hat5 hlt5
                have hs5 := hgrow5.size
                rw [HC.out.2.2.1] at hs5
                have hownlt : ∀ k, ov.ownBlock = some k → w.heap.size + 3 ≤ k ∧ k < wo.heap.size := fun k hk => HOWN.out.lt k hk
                have hsame : ∀ k, k < wi.heap.size + 2 → ov.ownBlock ≠ some k → w5.heap[k]? = (((wi.alloc (Obj.cells #[Value.string ⟨#[108, 105, 115, 116]⟩, Value.string ⟨#[]⟩, .slice aT li.length cT, .string y.kind, .string y.text, .slice ay y.kids.length cy, .string z.kind, .string z.text, .slice az z.kids.length cz] 24)).alloc (Obj.cells #[Value.string m.kind, Value.string ⟨#[]⟩, .slice (some ⟨wi.heap.size, 0, none⟩) 3 3] 24)).drew).heap[k]? := fun k h1 h2 => hgrow5.block k (by rw [HC.out.2.2.1]; exact h1) (fun e => h2 e.symm)
                have hx5 : Blk w5 (w.heap.size + 1) 24 _ := (hsame _ (by omega) (fun h => by have := (hownlt _ h).1; omega)).trans (HBXI.out.later HC.out.1 HBXI.out.lt)
                have ho5 : Blk w5 (w.heap.size + 1 + 1) 24 _ := (hsame _ (by omega) (fun h => by have := (hownlt _ h).1; omega)).trans (HBOI.out.later HC.out.1 HBOI.out.lt)
                have hbW5 : Below w.heap.size w w5 := (HBWI.out.trans (HC.out.1.mono HBWI.out.size)).grown hgrow5 (by rw [HC.out.2.2.1]; omega) (fun k hk => by have := (hownlt k hk).1; omega)
                have hg5 := hown5.lt gg rfl
                have z2 := ho5.cell 2 _ rfl
                have zf := ho5.frozen 2
                have zl := ho5.lt
                have hc5 : ∀ {p q : Nat} {u : Value}, p < wi.heap.size → ov.ownBlock ≠ some p → wi.cell? ⟨p, q, none⟩ = some u → w5.cell? ⟨p, q, none⟩ = some u := fun {p q u} h1 h2 h3 => (World.cell?_of_block (hsame p (by omega) h2)).trans ((HC.out.1.cell (p := ⟨p, q, none⟩) h1).trans h3)
                have nO : ov.ownBlock ≠ some (w.heap.size + 1 + 1) := fun h => by have := (hownlt _ h).1; omega
                have nV : ov.ownBlock ≠ some wo.heap.size := fun h => by have := (hownlt _ h).2; omega
                have nT : ov.ownBlock ≠ some (wo.heap.size + 1) := fun h => by have := (hownlt _ h).2; omega
                have nB : ov.ownBlock ≠ some b2 := fun h => by have := (hownlt _ h).1; omega
                have hS5 := And.intro (hc5 (by omega) nV v0) (And.intro (hc5 (by omega) nV v2) (And.intro (hc5 (by omega) nT t0) (And.intro (hc5 (by omega) nT t1) (And.intro (hc5 (by omega) nT t2) (And.intro (hc5 (by omega) nB yc0) (And.intro (hc5 (by omega) nB yc1) (And.intro (hc5 (by omega) nB yc2) (And.intro (hc5 (by omega) nB zc0) (And.intro (hc5 (by omega) nB zc1) (hc5 (by omega) nB zc2))))))))))
                have HS5 := Lib.hid hsame
                have HOL := Lib.hid hownlt
                have HX5 := Lib.hid hx5
                have HO5 := Lib.hid ho5
                have HBW5 := Lib.hid hbW5
                have HR5 := Lib.hid hown5
                have HAT := Lib.hid hat5
                clear hown5 hgrow5 hat5 hx5 ho5 hbW5 hsame hownlt hc5 nO nV nT nB
                refine hK.out _ _ hS5 (fun hHeld => ?_)
                clear hK K
                try simp only [Act.put, List.setIfInBounds_toArray, List.set_cons_zero, List.set_cons_succ]
                refine wpAnyH_take (i := 17) (v := ?_) rfl (by kernel_rfl) (by kernel_rfl) (by kernel_rfl) (fun _ _ _ h => h) (Or.inl ⟨by rfl, ?_⟩) (by assumption) ?_
                rotate_left
                · intro w hSw; (try dsimp only at hSw); go_simp; (try with_reducible rfl)
                try simp only [Act.put, List.setIfInBounds_toArray, List.set_cons_zero, List.set_cons_succ]
                refine wpAnyH_ready (rs := [18]) (by kernel_rfl) (by simp) ?_
                refine AllReadyH.cons (o := _) rfl (fun K hK => ?_) AllReadyH.nil
                go_simp
                refine hK.out _ _ ?_ (fun hHeld => ?_)
                · have hs18 : ∀ {p q : Nat} {u : Value}, p ≠ w.heap.size + 1 + 1 → w5.cell? ⟨p, q, none⟩ = some u → (w5.setCell ⟨w.heap.size + 1 + 1, 2, none⟩ (.slice (some ⟨gg, 0, none⟩) (lo.length + 1) cap')).cell? ⟨p, q, none⟩ = some u := fun {p q u} h1 h2 => (World.cell?_of_block (a := ⟨p, q, none⟩) (heap_setCell_other _ _ _ _ (by simpa using h1))).trans h2
                  obtain ⟨s0, s1, s2, s3, s4, s5, s6, s7, s8, s9, s10⟩ := hS5
                  exact ⟨hs18 (by omega) s0, hs18 (by omega) s1, hs18 (by omega) s2, hs18 (by omega) s3, hs18 (by omega) s4, hs18 (by omega) s5, hs18 (by omega) s6, hs18 (by omega) s7, hs18 (by omega) s8, hs18 (by omega) s9, hs18 (by omega) s10⟩
                clear hK K
                try simp only [Act.put, List.setIfInBounds_toArray, List.set_cons_zero, List.set_cons_succ]
                refine wpAnyH_done (by kernel_rfl) ?_ _
                refine NoPanic.normal ?_
                go_wp2_with fail
                go_roundw
                case rel =>
                  have hfm : filtV (isIn L) m = .mk m.kind m.text [.mk x.kind x.text (x.kids.filter fun q => isIn L q.text), y, z] := filtV_eq HX.out.1
                  have hgg : ∀ k, ov.ownBlock = some k → k < wo.heap.size := fun k hk => (HOL.out k hk).2
                  have hne : ∀ k, k < wi.heap.size + 2 → ov.ownBlock ≠ some k → gg ≠ k := fun k h1 h2 e => by
                    subst e
                    rcases HAT.out with h | h
                    · exact h2 h
                    · omega
                  have hB5 : Blk w5 wi.heap.size 24 _ := (HS5.out wi.heap.size (by omega) (fun h => by have := hgg _ h; omega)).trans (show Blk ((wi.alloc (Obj.cells #[Value.string ⟨#[108, 105, 115, 116]⟩, Value.string ⟨#[]⟩, .slice aT li.length cT, .string y.kind, .string y.text, .slice ay y.kids.length cy, .string z.kind, .string z.text, .slice az z.kids.length cz] 24)).alloc (Obj.cells #[Value.string m.kind, Value.string ⟨#[]⟩, .slice (some ⟨wi.heap.size, 0, none⟩) 3 3] 24)) _ _ _ from (Blk.later (b := wi.heap.size) (B := wi.heap.size + 1) (Blk.new wi _ _) ((Below.refl (wi.heap.size + 1) _).alloc (by rw [HC.out.2.1]; exact Nat.le_refl _) (Obj.cells #[Value.string m.kind, Value.string ⟨#[]⟩, .slice (some ⟨wi.heap.size, 0, none⟩) 3 3] 24)) (by omega)))
                  have hT5 : KidsAt (OkO (.slice (some ⟨gg, 0, none⟩) (lo.length + 1) cap') w.heap.size w5.heap.size) w5 (.slice aT li.length cT) (x.kids.filter fun q => isIn L q.text) := by
                    have h1 := kids_row (ok := fun b => wo.heap.size + 2 ≤ b ∧ b < wi.heap.size) HOWI.out (fun g hg => HOWI.out.lt g hg) (fun q hq => by
                      obtain ⟨e1, a9, c9, e2⟩ := HONI.out q hq
                      rw [e1, e2]
                      exact .nil _ _)
                    rw [HFSI.out, HLV.out.2.2] at h1
                    refine h1.go fun b hb => ⟨⟨⟨by omega, by omega⟩, ?_⟩, ?_⟩
                    · intro e
                      have e' : gg = b := by simpa [Value.ownBlock] using e
                      exact hne b (by omega) (fun h => by have := hgg b h; omega) e'
                    · exact (HS5.out b (by omega) (fun h => by have := hgg b h; omega)).trans (HC.out.1.block b hb.2)
                  have hold : ∀ {u : Value} {ks : List N}, KidsAt (· < w.heap.size) w u ks → KidsAt (OkO (.slice (some ⟨gg, 0, none⟩) (lo.length + 1) cap') w.heap.size w5.heap.size) w5 u ks := fun {u ks} h => h.go fun b hb => ⟨⟨⟨by omega, .inl hb⟩, fun e => by
                    have e' : gg = b := by simpa [Value.ownBlock] using e
                    omega⟩, HBW5.out.block b hb⟩
                  have hK5 := kids3_ok (ok := OkO (.slice (some ⟨gg, 0, none⟩) (lo.length + 1) cap') w.heap.size w5.heap.size) (x := .mk x.kind x.text (x.kids.filter fun q => isIn L q.text)) (y := y) (z := z) (by rw [HX.out.2.2.1, HX.out.2.2.2.1]; exact hB5) ⟨⟨by omega, .inr (by omega)⟩, fun e => hne wi.heap.size (by omega) (fun h => by have := hgg _ h; omega) (by simpa [Value.ownBlock] using e)⟩ hT5 (hold HYK.out) (hold HZK.out)
                  have hset : ∀ {u : Value} {ks : List N}, KidsAt (OkO (.slice (some ⟨gg, 0, none⟩) (lo.length + 1) cap') w.heap.size w5.heap.size) w5 u ks → KidsAt (OkO (.slice (some ⟨gg, 0, none⟩) (lo.length + 1) cap') w.heap.size (w5.setCell ⟨w.heap.size + 1 + 1, 2, none⟩ (.slice (some ⟨gg, 0, none⟩) (lo.length + 1) cap')).heap.size) (w5.setCell ⟨w.heap.size + 1 + 1, 2, none⟩ (.slice (some ⟨gg, 0, none⟩) (lo.length + 1) cap')) u ks := fun {u ks} h => by
                    have h1 := h.setC (X := w.heap.size + 1 + 1) (i := 2) (u := .slice (some ⟨gg, 0, none⟩) (lo.length + 1) cap') (fun h => by have := h.1.2; omega)
                    simpa using h1
                  refine ⟨j + 1, lo ++ [(filtV (isIn L) m, .slice (some ⟨wi.heap.size, 0, none⟩) 3 3)], .slice (some ⟨gg, 0, none⟩) (lo.length + 1) cap', by omega, by go_num, HX5.out.other _ _ _ (by omega), HO5.out.set 2 _, ?_, ?_, fun q hq => ?_, HBW5.out.setCell (by simp; omega) _, by simp; omega⟩
                  · rw [rowL_snoc, List.length_append, hfm]
                    have h := ownsRow_setCell_below (a := ⟨w.heap.size + 1 + 1, 2, none⟩) HR5.out (by show w.heap.size + 1 + 1 < w.heap.size + 3; omega) (.slice (some ⟨gg, 0, none⟩) (lo.length + 1) cap')
                    show World.ownsRow _ _ _ _ _ _ (rowL lo ++ [Value.string m.kind, Value.string m.text, _])
                    rw [HX.out.2.1]
                    exact h
                  · rw [List.map_append, HFST.out, HLV.out.2.1, HLV.out.1]
                    simp [h0]
                  · rcases List.mem_append.1 hq with hq | hq
                    · refine ⟨(HONE.out q hq).1, hset ((HOK.out q hq).go fun b hb => ⟨⟨⟨by have := hb.1.1; omega, hb.1.2⟩, fun e => ?_⟩, ?_⟩)⟩
                      · have e' : gg = b := by simpa [Value.ownBlock] using e
                        exact hne b (by have := hb.1.1; omega) hb.2 e'
                      · exact (HS5.out b (by have := hb.1.1; omega) hb.2).trans (HC.out.1.block b hb.1.1)
                    · simp only [List.mem_singleton] at hq
                      subst hq
                      refine ⟨⟨_, _, _, rfl⟩, hset ?_⟩
                      rw [hfm]
                      exact hK5
                case measure => simp [intOf]; omega
          · have h0' : ¬ (0 : Int) < (li.length : Int) := by omega
            go_wp2_with fail
            go_roundw
            case rel =>
              refine ⟨j + 1, lo, ov, by omega, by go_num, HBXI.out, HBOI.out, HOWNO.out, ?_, fun q hq => ⟨(HONE.out q hq).1, HOK.out q hq⟩, HBWI.out, by omega⟩
              rw [HFST.out, HLV.out.2.1, HLV.out.1]
              simp [h0]
            case measure => simp [intOf]; omega
    · have e : j = n.kids.length := by omega
      subst e
      have hg : keptG (isIn L) n.kids n.kids.length = (n.kids.filter (leftV (isIn L))).map (filtV (isIn L)) := by unfold keptG; rw [List.take_length]
      obtain ⟨aO, cO, rfl, hcO⟩ := owns_shape HOWN.out
      have o0 := HBO.out.cell 0 _ rfl
      have o1 := HBO.out.cell 1 _ rfl
      have o2 := HBO.out.cell 2 _ rfl
      have x0 := HBX.out.cell 0 _ rfl
      have x1 := HBX.out.cell 1 _ rfl
      have x2 := HBX.out.cell 2 _ rfl
      have f0 := HBX.out.frozen 0
      have f1 := HBX.out.frozen 1
      have f2 := HBX.out.frozen 2
      have olt := HBO.out.lt
      have xlt := HBX.out.lt
      have HG := Lib.hid hg
      clear hg
      go_wp2_with fail
      go_region_held3 (fun w' => w'.cell? ⟨w.heap.size + 1 + 1, 0, none⟩ = some (.string n.kind) ∧ w'.cell? ⟨w.heap.size + 1 + 1, 1, none⟩ = some (.string n.text) ∧ w'.cell? ⟨w.heap.size + 1 + 1, 2, none⟩ = some (.slice aO lo.length cO)) (go_keep) (fail)
      all_goals go_wp2_with fail
      have hall : ∀ q ∈ lo, KidsAt (fun b => b < wo.heap.size ∧ b ≠ w.heap.size + 1) wo q.2 q.1.kids := fun q hq => ((HONE.out q hq).2).mono fun b hb => ⟨hb.1.1, by have := hb.1.2; omega⟩
      have hrow := kids_row (ok := fun b => b < wo.heap.size ∧ b ≠ w.heap.size + 1) HOWN.out (fun g hg => by have := HOWN.out.lt g hg; exact ⟨this.2, by omega⟩) hall
      have hlen : lo.length = (n.kids.filter (leftV (isIn L))).length := by
        have h := congrArg List.length HFST.out
        rw [List.length_map, HG.out, List.length_map] at h
        exact h
      have hres : n.kids.any (leftV (isIn L)) = decide (0 < lo.length) := by
        rw [hlen, Bool.eq_iff_iff]
        simp [List.length_pos_iff]
      refine bodyPost_ret (ret_node2 rfl _ rfl rfl (show Blk _ _ _ _ from Blk.node3 HBX.out)) rfl ⟨aO, lo.length, cO, ?_, ?_, ?_⟩
      · rw [HF.out.1, HF.out.2, hres]; rfl
      · rw [HF.out.1]
        have h := ((hrow.setC (X := w.heap.size + 1) (i := 0) (u := .string n.kind) (fun h => h.2 rfl)).setC (X := w.heap.size + 1) (i := 1) (u := .string n.text) (fun h => h.2 rfl)).setC (X := w.heap.size + 1) (i := 2) (u := .slice aO lo.length cO) (fun h => h.2 rfl)
        exact kids_fix (h.go (ok' := fun b => b < _) fun b hb => ⟨by simpa [World.drew] using hb.1, rfl⟩) (by rw [HFST.out, HG.out]; rfl)
      · exact (((HBEL.out.setCell (by simp) _).setCell (by simp) _).setCell (by simp) _).drew
end Go.Proofs.YtoijkbkcfbbmfaaGreatDoor

