/- What is proved here: the same, second part, and a declaration as it lies in memory as a tree of syntax. Conditions: each theorem names its own. -/
import Derived.Test.YtoijkbkcfbbmfaaGreatDoorMa
set_option linter.all false
set_option linter.unusedVariables false
set_option linter.unusedSimpArgs false
/- What is proved here: spec.shapedExpr answers as a plain function on trees does, at the kinds with two nodes below and at all. No condition but that the trees lie in memory. -/
namespace Go.Proofs.YtoijkbkcfbbmfaaGreatDoor
open Go.RowKit Go.Shelf

theorem cast_beq_two (a : Nat) : ((a : Int) == 2) = (a == 2) := by
  rw [Bool.eq_iff_iff]; simp; omega
theorem cast_beq_three (a : Nat) : ((a : Int) == 3) = (a == 3) := by
  rw [Bool.eq_iff_iff]; simp; omega

set_option maxRecDepth 100000 in
theorem e_array (f : Nat) (hE : EHyp f) (n : N) (v : Value) (w : World) (hn : n.size ≤ f + 1) (hk : KidsAt (· < w.heap.size) w v n.kids) (hkd : n.kind.toList = [97, 114, 114, 97, 121]) :
    Calls Tryz.prog 29 #[n.val v] w fun e w' => e = .returned (.bool (shE (f + 1) n)) ∧ Below w.heap.size w w' := by
  have hs : shE (f + 1) n = (n.text.toList.isEmpty && kid2B (fun x y => orB (shE f) x && shE f y) n.kids) := by simp [shE, isK, hkd]
  rw [hs]
  clear hs
  cases ht : n.text.toList.isEmpty with
  | false =>
    rw [Bool.false_and]
    obtain ⟨a, cap, rfl, hcap, hel⟩ := hk.shape
    clear hel hk
    unfold N.val
    go_enter Tryz.func29, Tryz.ntmps29
    go_wp2_with fail
    go_ret
    exact ⟨ret_bool (by simp), (Below.refl _ _).alloc (Nat.le_refl _) _⟩
  | true =>
    rw [Bool.true_and]
    by_cases h1 : n.kids.length = 2
    · obtain ⟨x, y, hx⟩ : ∃ x y, n.kids = [x, y] := by
        match hks : n.kids, h1 with
        | [x, y], _ => exact ⟨x, y, rfl⟩
      have h1b : ((n.kids.length : Int) == 2) = true := by rw [h1]; rfl
      have hl0n : 0 < n.kids.length := by omega
      have hl0 : (0 : Int) < (n.kids.length : Int) := by omega
      have hl1n : 1 < n.kids.length := by omega
      have hl1 : (1 : Int) < (n.kids.length : Int) := by omega
      have hszx : x.size ≤ f := by have := N.size_kid (m := n) (n := x) (i := 0) (by rw [hx]; rfl); omega
      have hszy : y.size ≤ f := by have := N.size_kid (m := n) (n := y) (i := 1) (by rw [hx]; rfl); omega
      obtain ⟨b, o, cap, a2, cap2, rfl, hcap, hb, c0, c1, c2, hxk⟩ := hk.kid0 hx
      obtain ⟨a3, cap3, d0, d1, d2, hyk⟩ := hk.kid1 hx
      have hm : kid2B (fun x y => orB (shE f) x && shE f y) n.kids = (orB (shE f) x && shE f y) := by rw [hx]; rfl
      rw [hm]
      have HXK := Lib.hid hxk
      have HYK := Lib.hid hyk
      have HE := Lib.hid hE
      clear hx h1 hxk hyk hm hk hE
      unfold N.val
      have hb1 := (Below.refl w.heap.size w).alloc (Nat.le_refl _) (Obj.cells #[Value.string n.kind, Value.string n.text, Value.slice (some ⟨b, o, none⟩) n.kids.length cap] 24)
      have HB1 := Lib.hid hb1
      clear hb1
      go_enter Tryz.func29, Tryz.ntmps29
      go_wp2_with fail
      refine (or_any x _ _ (·.size ≤ f) (shE f) _ (HXK.out.later HB1.out) (fun _ => hszx) (HE.out.pred _)).mono ?_
      rintro e w2 ⟨rfl, hb2⟩
      have hb3 := HB1.out.trans (hb2.mono (by simp))
      have q0 : w2.cell? ⟨b, o + 3, none⟩ = some (.string y.kind) := (hb3.cell (p := ⟨b, o + 3, none⟩) hb).trans d0
      have q1 : w2.cell? ⟨b, o + 3 + 1, none⟩ = some (.string y.text) := (hb3.cell (p := ⟨b, o + 3 + 1, none⟩) hb).trans d1
      have q2 : w2.cell? ⟨b, o + 3 + 2, none⟩ = some (.slice a3 y.kids.length cap3) := (hb3.cell (p := ⟨b, o + 3 + 2, none⟩) hb).trans d2
      have HB3 := Lib.hid hb3
      clear hb3 hb2 c0 c1 c2 d0 d1 d2
      cases hox : orB (shE f) x with
      | false =>
        go_wp2_with fail
        go_ret
        exact ⟨ret_bool (by simp [hox]), HB3.out⟩
      | true =>
        have HOX := Lib.hid hox
        clear hox
        go_wp2_with fail
        refine (HE.out y _ _ hszy (HYK.out.later HB3.out)).mono ?_
        rintro e w3 ⟨rfl, hb4⟩
        go_wp2_with fail
        go_ret
        exact ⟨ret_bool (by simp [HOX.out]), HB3.out.trans (hb4.mono HB3.out.size)⟩
    · have h1b : ((n.kids.length : Int) == 2) = false := by rw [cast_beq_two]; simpa using h1
      have hm : kid2B (fun x y => orB (shE f) x && shE f y) n.kids = false := by
        match hks : n.kids, h1 with
        | [], _ => rfl
        | [x], _ => rfl
        | [x, y], h1 => exact absurd rfl h1
        | x :: y :: z :: r, _ => rfl
      rw [hm]
      obtain ⟨a, cap, rfl, hcap, hel⟩ := hk.shape
      clear hm h1 hel hk
      unfold N.val
      go_enter Tryz.func29, Tryz.ntmps29
      go_wp2_with fail
      go_ret
      exact ⟨ret_bool (by simp), (Below.refl _ _).alloc (Nat.le_refl _) _⟩

set_option maxRecDepth 100000 in
theorem e_signature (f : Nat) (hf2 : f ≤ 2147483647) (hE : EHyp f) (n : N) (v : Value) (w : World) (hn : n.size ≤ f + 1) (hk : KidsAt (· < w.heap.size) w v n.kids) (hkd : n.kind.toList = [115, 105, 103, 110, 97, 116, 117, 114, 101]) :
    Calls Tryz.prog 29 #[n.val v] w fun e w' => e = .returned (.bool (shE (f + 1) n)) ∧ Below w.heap.size w w' := by
  have hs : shE (f + 1) n = (n.text.toList.isEmpty && kid2B (fun x y => shF (shE f) bare x && orB (shF (shE f) bare) y) n.kids) := by simp [shE, isK, hkd]
  rw [hs]
  clear hs
  cases ht : n.text.toList.isEmpty with
  | false =>
    rw [Bool.false_and]
    obtain ⟨a, cap, rfl, hcap, hel⟩ := hk.shape
    clear hel hk
    unfold N.val
    go_enter Tryz.func29, Tryz.ntmps29
    go_wp2_with fail
    go_ret
    exact ⟨ret_bool (by simp), (Below.refl _ _).alloc (Nat.le_refl _) _⟩
  | true =>
    rw [Bool.true_and]
    by_cases h1 : n.kids.length = 2
    · obtain ⟨x, y, hx⟩ : ∃ x y, n.kids = [x, y] := by
        match hks : n.kids, h1 with
        | [x, y], _ => exact ⟨x, y, rfl⟩
      have h1b : ((n.kids.length : Int) == 2) = true := by rw [h1]; rfl
      have hl0n : 0 < n.kids.length := by omega
      have hl0 : (0 : Int) < (n.kids.length : Int) := by omega
      have hl1n : 1 < n.kids.length := by omega
      have hl1 : (1 : Int) < (n.kids.length : Int) := by omega
      have hszx : x.size ≤ f := by have := N.size_kid (m := n) (n := x) (i := 0) (by rw [hx]; rfl); omega
      have hszy : y.size ≤ f := by have := N.size_kid (m := n) (n := y) (i := 1) (by rw [hx]; rfl); omega
      obtain ⟨b, o, cap, a2, cap2, rfl, hcap, hb, c0, c1, c2, hxk⟩ := hk.kid0 hx
      obtain ⟨a3, cap3, d0, d1, d2, hyk⟩ := hk.kid1 hx
      have hm : kid2B (fun x y => shF (shE f) bare x && orB (shF (shE f) bare) y) n.kids = (shF (shE f) bare x && orB (shF (shE f) bare) y) := by rw [hx]; rfl
      rw [hm]
      have HXK := Lib.hid hxk
      have HYK := Lib.hid hyk
      have HE := Lib.hid hE
      clear hx h1 hxk hyk hm hk hE
      unfold N.val
      have hb1 := (Below.refl w.heap.size w).alloc (Nat.le_refl _) (Obj.cells #[Value.string n.kind, Value.string n.text, Value.slice (some ⟨b, o, none⟩) n.kids.length cap] 24)
      have HB1 := Lib.hid hb1
      clear hb1
      go_enter Tryz.func29, Tryz.ntmps29
      go_wp2_with fail
      refine (params_any f hf2 HE.out x _ _ hszx (HXK.out.later HB1.out)).mono ?_
      rintro e w2 ⟨rfl, hb2⟩
      have hb3 := HB1.out.trans (hb2.mono (by simp))
      have q0 : w2.cell? ⟨b, o + 3, none⟩ = some (.string y.kind) := (hb3.cell (p := ⟨b, o + 3, none⟩) hb).trans d0
      have q1 : w2.cell? ⟨b, o + 3 + 1, none⟩ = some (.string y.text) := (hb3.cell (p := ⟨b, o + 3 + 1, none⟩) hb).trans d1
      have q2 : w2.cell? ⟨b, o + 3 + 2, none⟩ = some (.slice a3 y.kids.length cap3) := (hb3.cell (p := ⟨b, o + 3 + 2, none⟩) hb).trans d2
      have HB3 := Lib.hid hb3
      clear hb3 hb2 c0 c1 c2 d0 d1 d2
      cases hox : shF (shE f) bare x with
      | false =>
        go_wp2_with fail
        go_ret
        exact ⟨ret_bool (by simp [hox]), HB3.out⟩
      | true =>
        have HOX := Lib.hid hox
        clear hox
        go_wp2_with fail
        refine (or_any y _ _ (·.size ≤ f) (shF (shE f) bare) _ (HYK.out.later HB3.out) (fun _ => hszy) (params_pred hf2 HE.out _)).mono ?_
        rintro e w3 ⟨rfl, hb4⟩
        go_wp2_with fail
        go_ret
        exact ⟨ret_bool (by simp [HOX.out]), HB3.out.trans (hb4.mono HB3.out.size)⟩
    · have h1b : ((n.kids.length : Int) == 2) = false := by rw [cast_beq_two]; simpa using h1
      have hm : kid2B (fun x y => shF (shE f) bare x && orB (shF (shE f) bare) y) n.kids = false := by
        match hks : n.kids, h1 with
        | [], _ => rfl
        | [x], _ => rfl
        | [x, y], h1 => exact absurd rfl h1
        | x :: y :: z :: r, _ => rfl
      rw [hm]
      obtain ⟨a, cap, rfl, hcap, hel⟩ := hk.shape
      clear hm h1 hel hk
      unfold N.val
      go_enter Tryz.func29, Tryz.ntmps29
      go_wp2_with fail
      go_ret
      exact ⟨ret_bool (by simp), (Below.refl _ _).alloc (Nat.le_refl _) _⟩

set_option maxRecDepth 100000 in
theorem e_map (f : Nat) (hf2 : f ≤ 2147483647) (hE : EHyp f) (n : N) (v : Value) (w : World) (hn : n.size ≤ f + 1) (hk : KidsAt (· < w.heap.size) w v n.kids) (hkd : n.kind.toList = [109, 97, 112]) :
    Calls Tryz.prog 29 #[n.val v] w fun e w' => e = .returned (.bool (shE (f + 1) n)) ∧ Below w.heap.size w w' := by
  have hs : shE (f + 1) n = (n.text.toList.isEmpty && (n.kids.length == 2 && n.kids.all (shE f))) := by simp [shE, isK, hkd]
  rw [hs]
  clear hs
  have hl1 := N.len_lt n
  obtain ⟨a, cap, rfl, hcap, hel⟩ := hk.shape
  have hb1 := (Below.refl w.heap.size w).alloc (Nat.le_refl _) (Obj.cells #[Value.string n.kind, Value.string n.text, Value.slice a n.kids.length cap] 24)
  have hc := every_any n.kids _ _ (·.size ≤ f) (shE f) _ (hk.later hb1) (by omega) (fun m hm => by
    obtain ⟨i, hi⟩ := List.getElem?_of_mem hm
    have := N.size_kid (m := n) hi
    show m.size ≤ f
    omega) (hE.pred _)
  have HC := Lib.hid hc
  have HB1 := Lib.hid hb1
  clear hc hb1 hel hk hE
  unfold N.val
  cases ht : n.text.toList.isEmpty with
  | false =>
    rw [Bool.false_and]
    go_enter Tryz.func29, Tryz.ntmps29
    go_wp2_with fail
    go_ret
    exact ⟨ret_bool (by simp), HB1.out⟩
  | true =>
    rw [Bool.true_and]
    cases h2 : (n.kids.length == 2) with
    | false =>
      rw [Bool.false_and]
      have h1b : ((n.kids.length : Int) == 2) = false := by rw [cast_beq_two]; exact h2
      clear h2
      go_enter Tryz.func29, Tryz.ntmps29
      go_wp2_with fail
      go_ret
      exact ⟨ret_bool (by simp), HB1.out⟩
    | true =>
      rw [Bool.true_and]
      have h1b : ((n.kids.length : Int) == 2) = true := by rw [cast_beq_two]; exact h2
      clear h2
      go_enter Tryz.func29, Tryz.ntmps29
      go_wp2_with fail
      refine HC.out.mono ?_
      rintro e w2 ⟨rfl, hb⟩
      go_wp2_with fail
      go_ret
      exact ⟨ret_bool (by simp), HB1.out.trans (hb.mono (by simp))⟩

set_option maxHeartbeats 2000000 in
set_option maxRecDepth 100000 in
theorem e_chan (f : Nat) (hE : EHyp f) (n : N) (v : Value) (w : World) (hn : n.size ≤ f + 1) (hk : KidsAt (· < w.heap.size) w v n.kids) (hkd : n.kind.toList = [99, 104, 97, 110]) :
    Calls Tryz.prog 29 #[n.val v] w fun e w' => e = .returned (.bool (shE (f + 1) n)) ∧ Below w.heap.size w w' := by
  have hs : shE (f + 1) n = ((n.text.toList.isEmpty || n.text.toList == [115, 101, 110, 100] || n.text.toList == [114, 101, 99, 101, 105, 118, 101]) && kid1B (fun x => shE f x) n.kids) := by simp [shE, isK, hkd]
  rw [hs]
  clear hs
  by_cases h1 : n.kids.length = 1
  · obtain ⟨x, hx⟩ : ∃ x, n.kids = [x] := by
      match hks : n.kids, h1 with
      | [x], _ => exact ⟨x, rfl⟩
    have h1b : ((n.kids.length : Int) == 1) = true := by rw [h1]; rfl
    have hl0n : 0 < n.kids.length := by omega
    have hl0 : (0 : Int) < (n.kids.length : Int) := by omega
    have hsz : x.size ≤ f := by have := N.size_kid (m := n) (n := x) (i := 0) (by rw [hx]; rfl); omega
    obtain ⟨b, o, cap, a2, cap2, rfl, hcap, hb, c0, c1, c2, hxk⟩ := hk.kid0 hx
    have hm : kid1B (fun x => shE f x) n.kids = shE f x := by rw [hx]; rfl
    rw [hm]
    have HXK := Lib.hid hxk
    have HE := Lib.hid hE
    clear hx h1 hxk hm hk hE
    unfold N.val
    have hb1 := (Below.refl w.heap.size w).alloc (Nat.le_refl _) (Obj.cells #[Value.string n.kind, Value.string n.text, Value.slice (some ⟨b, o, none⟩) n.kids.length cap] 24)
    have HB1 := Lib.hid hb1
    clear hb1
    cases ht : n.text.toList.isEmpty <;> cases hs : (n.text.toList == [115, 101, 110, 100]) <;> cases hr : (n.text.toList == [114, 101, 99, 101, 105, 118, 101])
    case false.false.false =>
      simp only [Bool.or_false, Bool.false_and]
      go_enter Tryz.func29, Tryz.ntmps29
      go_wp2_with fail
      go_ret
      exact ⟨ret_bool (by simp), HB1.out⟩
    all_goals
      simp only [Bool.or_true, Bool.or_false, Bool.true_and]
      go_enter Tryz.func29, Tryz.ntmps29
      go_wp2_with fail
      refine (HE.out x _ _ hsz (HXK.out.later HB1.out)).mono ?_
      rintro e w2 ⟨rfl, hb2⟩
      go_wp2_with fail
      go_ret
      exact ⟨ret_bool (by simp), HB1.out.trans (hb2.mono (by simp))⟩
  · have h1b : ((n.kids.length : Int) == 1) = false := by rw [cast_beq_one]; simpa using h1
    have hm : kid1B (fun x => shE f x) n.kids = false := by
      match hks : n.kids, h1 with
      | [], _ => rfl
      | [x], h1 => exact absurd rfl h1
      | x :: y :: r, _ => rfl
    rw [hm, Bool.and_false]
    obtain ⟨a, cap, rfl, hcap, hel⟩ := hk.shape
    clear hm h1 hel hk
    unfold N.val
    cases ht : n.text.toList.isEmpty <;> cases hs : (n.text.toList == [115, 101, 110, 100]) <;> cases hr : (n.text.toList == [114, 101, 99, 101, 105, 118, 101])
    all_goals
      go_enter Tryz.func29, Tryz.ntmps29
      go_wp2_with fail
      go_ret
      exact ⟨ret_bool (by simp), (Below.refl _ _).alloc (Nat.le_refl _) _⟩

set_option maxRecDepth 100000 in
theorem e_other (f : Nat) (n : N) (v : Value) (w : World) (hk : KidsAt (· < w.heap.size) w v n.kids)
    (h0 : (n.kind.toList == [110, 97, 109, 101]) = false)
    (h1 : (n.kind.toList == [108, 105, 116, 101, 114, 97, 108]) = false)
    (h2 : (n.kind.toList == [115, 101, 108, 101, 99, 116]) = false)
    (h3 : (n.kind.toList == [115, 116, 97, 114]) = false)
    (h4 : (n.kind.toList == [97, 114, 114, 97, 121]) = false)
    (h5 : (n.kind.toList == [109, 97, 112]) = false)
    (h6 : (n.kind.toList == [99, 104, 97, 110]) = false)
    (h7 : (n.kind.toList == [115, 105, 103, 110, 97, 116, 117, 114, 101]) = false)
    (h8 : (n.kind.toList == [115, 116, 114, 117, 99, 116]) = false)
    (h9 : (n.kind.toList == [105, 110, 116, 101, 114, 102, 97, 99, 101]) = false) :
    Calls Tryz.prog 29 #[n.val v] w fun e w' => e = .returned (.bool (shE (f + 1) n)) ∧ Below w.heap.size w w' := by
  obtain ⟨a, cap, rfl, hcap, hel⟩ := hk.shape
  have hs : shE (f + 1) n = false := by simp only [shE, isK, h0, h1, h2, h3, h4, h5, h6, h7, h8, h9]; rfl
  rw [hs]
  clear hel hk hs
  unfold N.val
  go_enter Tryz.func29, Tryz.ntmps29
  go_wp2_with fail
  go_ret
  exact ⟨rfl, (Below.refl _ _).alloc (Nat.le_refl _) _⟩

/-- spec.shapedExpr, at every tree. -/
theorem shE_any (f : Nat) (hf2 : f ≤ 2147483647) : EHyp f := by
  induction f with
  | zero => intro n v w hf; have := N.size_eq n; omega
  | succ f ih =>
    have hE := ih (by omega)
    have h2 : f ≤ 2147483647 := by omega
    intro n v w hn hk
    by_cases k0 : n.kind.toList = [110, 97, 109, 101]
    · exact e_name f n v w hk k0
    by_cases k1 : n.kind.toList = [108, 105, 116, 101, 114, 97, 108]
    · exact e_literal f n v w hk k1
    by_cases k2 : n.kind.toList = [115, 101, 108, 101, 99, 116]
    · exact e_select f hE n v w hn hk k2
    by_cases k3 : n.kind.toList = [115, 116, 97, 114]
    · exact e_star f hE n v w hn hk k3
    by_cases k4 : n.kind.toList = [97, 114, 114, 97, 121]
    · exact e_array f hE n v w hn hk k4
    by_cases k5 : n.kind.toList = [109, 97, 112]
    · exact e_map f h2 hE n v w hn hk k5
    by_cases k6 : n.kind.toList = [99, 104, 97, 110]
    · exact e_chan f hE n v w hn hk k6
    by_cases k7 : n.kind.toList = [115, 105, 103, 110, 97, 116, 117, 114, 101]
    · exact e_signature f h2 hE n v w hn hk k7
    by_cases k8 : n.kind.toList = [115, 116, 114, 117, 99, 116]
    · exact e_struct f h2 hE n v w hn hk k8
    by_cases k9 : n.kind.toList = [105, 110, 116, 101, 114, 102, 97, 99, 101]
    · exact e_interface f h2 hE n v w hn hk k9
    exact e_other f n v w hk (by simpa using k0) (by simpa using k1) (by simpa using k2) (by simpa using k3) (by simpa using k4) (by simpa using k5) (by simpa using k6) (by simpa using k7) (by simpa using k8) (by simpa using k9)
end Go.Proofs.YtoijkbkcfbbmfaaGreatDoor

/- What is proved here: spec.Shaped and what it asks of the parts of a declaration answer as plain functions on trees do. No condition but that the trees lie in memory. -/
namespace Go.Proofs.YtoijkbkcfbbmfaaGreatDoor
open Go.RowKit Go.Shelf

def kid3B (p : N → N → N → Bool) : List N → Bool
  | [x, y, z] => p x y z
  | _ => false
def pathB (n : N) : Bool := isK n [112, 97, 116, 104] && kid1B (orB isName) n.kids
def typeB (f : Nat) (n : N) : Bool := (isK n [116, 121, 112, 101] || isK n [97, 108, 105, 97, 115]) && kid1B (shE f) n.kids
def valueB3 (f : Nat) (x y z : N) : Bool := isK x [108, 105, 115, 116] && x.text.toList.isEmpty && isK z [108, 105, 115, 116] && z.text.toList.isEmpty && (decide (0 < x.kids.length) && x.kids.all isName && orB (shE f) y && z.kids.all (shE f))
def valueB (f : Nat) (n : N) : Bool := isK n [118, 97, 108, 117, 101] && n.text.toList.isEmpty && kid3B (valueB3 f) n.kids
def bodyB (n : N) : Bool := isK n [98, 111, 100, 121] && n.kids.length == 0 && n.text.toList.isEmpty
def funcB3 (f : Nat) (x y z : N) : Bool := orB (shF (shE f) bare) x && isK y [115, 105, 103, 110, 97, 116, 117, 114, 101] && shE f y && (missing z || bodyB z)
def declB (f : Nat) (n : N) : Bool :=
  if isK n [100, 101, 99, 108, 97, 114, 101, 32, 105, 109, 112, 111, 114, 116] then n.kids.all pathB
  else if isK n [100, 101, 99, 108, 97, 114, 101, 32, 99, 111, 110, 115, 116] || isK n [100, 101, 99, 108, 97, 114, 101, 32, 118, 97, 114] then n.kids.all (valueB f)
  else if isK n [100, 101, 99, 108, 97, 114, 101, 32, 116, 121, 112, 101] then n.kids.all (typeB f)
  else if isK n [102, 117, 110, 99] then kid3B (funcB3 f) n.kids
  else false
def few (n : N) : Bool := (cnt 400 n 400 0).1

/-- One node below. -/
theorem one_kid {ks : List N} (h : ks.length = 1) : ∃ x, ks = [x] := by
  match ks, h with
  | [x], _ => exact ⟨x, rfl⟩
theorem three_kids {ks : List N} (h : ks.length = 3) : ∃ x y z, ks = [x, y, z] := by
  match ks, h with
  | [x, y, z], _ => exact ⟨x, y, z, rfl⟩
theorem kid1B_no {p : N → Bool} {ks : List N} (h : ¬ ks.length = 1) : kid1B p ks = false := by
  match ks, h with
  | [], _ => rfl
  | [x], h => exact absurd rfl h
  | x :: y :: r, _ => rfl
theorem kid3B_no {p : N → N → N → Bool} {ks : List N} (h : ¬ ks.length = 3) : kid3B p ks = false := by
  match ks, h with
  | [], _ => rfl
  | [x], _ => rfl
  | [x, y], _ => rfl
  | [x, y, z], h => exact absurd rfl h
  | x :: y :: z :: t :: r, _ => rfl

set_option maxRecDepth 100000 in
theorem path_any (n : N) (v : Value) (w : World) (hk : KidsAt (· < w.heap.size) w v n.kids) :
    Calls Tryz.prog 24 #[n.val v] w fun e w' => e = .returned (.bool (pathB n)) ∧ Below w.heap.size w w' := by
  unfold pathB isK
  by_cases h1 : n.kids.length = 1
  · obtain ⟨x, hx⟩ := one_kid h1
    have h1b : ((n.kids.length : Int) == 1) = true := by rw [h1]; rfl
    have hl0n : 0 < n.kids.length := by omega
    have hl0 : (0 : Int) < (n.kids.length : Int) := by omega
    obtain ⟨b, o, cap, a2, cap2, rfl, hcap, hb, c0, c1, c2, hxk⟩ := hk.kid0 hx
    have hm : kid1B (orB isName) n.kids = orB isName x := by rw [hx]; rfl
    rw [hm]
    have HXK := Lib.hid hxk
    have hb1 := (Below.refl w.heap.size w).alloc (Nat.le_refl _) (Obj.cells #[Value.string n.kind, Value.string n.text, Value.slice (some ⟨b, o, none⟩) n.kids.length cap] 24)
    have HB1 := Lib.hid hb1
    clear hx h1 hxk hm hk hb1
    unfold N.val
    cases hkd : (n.kind.toList == [112, 97, 116, 104]) with
    | false =>
      rw [Bool.false_and]
      go_enter Tryz.func24, Tryz.ntmps24
      go_wp2_with fail
      go_ret
      exact ⟨ret_bool (by simp), HB1.out⟩
    | true =>
      rw [Bool.true_and]
      go_enter Tryz.func24, Tryz.ntmps24
      go_wp2_with fail
      refine (or_any x _ _ (fun _ => True) isName _ (HXK.out.later HB1.out) (fun _ => trivial) (isName_pred _)).mono ?_
      rintro e w2 ⟨rfl, hb2⟩
      go_wp2_with fail
      go_ret
      exact ⟨ret_bool (by simp), HB1.out.trans (hb2.mono (by simp))⟩
  · have h1b : ((n.kids.length : Int) == 1) = false := by rw [cast_beq_one]; simpa using h1
    rw [kid1B_no h1, Bool.and_false]
    obtain ⟨a, cap, rfl, hcap, hel⟩ := hk.shape
    clear h1 hel hk
    unfold N.val
    cases hkd : (n.kind.toList == [112, 97, 116, 104])
    all_goals
      go_enter Tryz.func24, Tryz.ntmps24
      go_wp2_with fail
      go_ret
      exact ⟨ret_bool (by simp), (Below.refl _ _).alloc (Nat.le_refl _) _⟩

set_option maxRecDepth 100000 in
theorem type_any (f : Nat) (hE : EHyp f) (n : N) (v : Value) (w : World) (hn : n.size ≤ f + 1) (hk : KidsAt (· < w.heap.size) w v n.kids) :
    Calls Tryz.prog 26 #[n.val v] w fun e w' => e = .returned (.bool (typeB f n)) ∧ Below w.heap.size w w' := by
  unfold typeB isK
  by_cases h1 : n.kids.length = 1
  · obtain ⟨x, hx⟩ := one_kid h1
    have h1b : ((n.kids.length : Int) == 1) = true := by rw [h1]; rfl
    have hl0n : 0 < n.kids.length := by omega
    have hl0 : (0 : Int) < (n.kids.length : Int) := by omega
    have hsz : x.size ≤ f := by have := N.size_kid (m := n) (n := x) (i := 0) (by rw [hx]; rfl); omega
    obtain ⟨b, o, cap, a2, cap2, rfl, hcap, hb, c0, c1, c2, hxk⟩ := hk.kid0 hx
    have hm : kid1B (shE f) n.kids = shE f x := by rw [hx]; rfl
    rw [hm]
    have HXK := Lib.hid hxk
    have HE := Lib.hid hE
    have hb1 := (Below.refl w.heap.size w).alloc (Nat.le_refl _) (Obj.cells #[Value.string n.kind, Value.string n.text, Value.slice (some ⟨b, o, none⟩) n.kids.length cap] 24)
    have HB1 := Lib.hid hb1
    clear hx h1 hxk hm hk hb1 hE
    unfold N.val
    cases hkd : (n.kind.toList == [116, 121, 112, 101]) <;> cases hka : (n.kind.toList == [97, 108, 105, 97, 115])
    case false.false =>
      simp only [Bool.or_false, Bool.false_and]
      go_enter Tryz.func26, Tryz.ntmps26
      go_wp2_with fail
      go_ret
      exact ⟨ret_bool (by simp), HB1.out⟩
    all_goals
      simp only [Bool.or_true, Bool.or_false, Bool.true_and]
      go_enter Tryz.func26, Tryz.ntmps26
      go_wp2_with fail
      refine (HE.out x _ _ hsz (HXK.out.later HB1.out)).mono ?_
      rintro e w2 ⟨rfl, hb2⟩
      go_wp2_with fail
      go_ret
      exact ⟨ret_bool (by simp), HB1.out.trans (hb2.mono (by simp))⟩
  · have h1b : ((n.kids.length : Int) == 1) = false := by rw [cast_beq_one]; simpa using h1
    rw [kid1B_no h1, Bool.and_false]
    obtain ⟨a, cap, rfl, hcap, hel⟩ := hk.shape
    clear h1 hel hk
    unfold N.val
    cases hkd : (n.kind.toList == [116, 121, 112, 101]) <;> cases hka : (n.kind.toList == [97, 108, 105, 97, 115])
    all_goals
      go_enter Tryz.func26, Tryz.ntmps26
      go_wp2_with fail
      go_ret
      exact ⟨ret_bool (by simp), (Below.refl _ _).alloc (Nat.le_refl _) _⟩

theorem cast_bne_three_yes (a : Nat) (h : a = 3) : ((a : Int) != 3) = false := by subst h; rfl
theorem cast_bne_three_no (a : Nat) (h : ¬ a = 3) : ((a : Int) != 3) = true := by rw [bne_iff_ne]; omega

set_option maxHeartbeats 2000000 in
set_option maxRecDepth 100000 in
theorem value_any (f : Nat) (hf2 : f ≤ 2147483647) (hE : EHyp f) (n : N) (v : Value) (w : World) (hn : n.size ≤ f + 1) (hk : KidsAt (· < w.heap.size) w v n.kids) :
    Calls Tryz.prog 25 #[n.val v] w fun e w' => e = .returned (.bool (valueB f n)) ∧ Below w.heap.size w w' := by
  unfold valueB isK
  cases hkd : (n.kind.toList == [118, 97, 108, 117, 101]) with
  | false =>
    simp only [Bool.false_and]
    obtain ⟨a, cap, rfl, hcap, hel⟩ := hk.shape
    clear hel hk
    unfold N.val
    go_enter Tryz.func25, Tryz.ntmps25
    go_wp2_with fail
    go_ret
    exact ⟨ret_bool (by simp), (Below.refl _ _).alloc (Nat.le_refl _) _⟩
  | true =>
    cases ht : n.text.toList.isEmpty with
    | false =>
      simp only [Bool.and_false, Bool.false_and]
      obtain ⟨a, cap, rfl, hcap, hel⟩ := hk.shape
      clear hel hk
      unfold N.val
      go_enter Tryz.func25, Tryz.ntmps25
      go_wp2_with fail
      go_ret
      exact ⟨ret_bool (by simp), (Below.refl _ _).alloc (Nat.le_refl _) _⟩
    | true =>
      simp only [Bool.and_self, Bool.true_and]
      by_cases h3 : n.kids.length = 3
      · obtain ⟨x, y, z, hx⟩ := three_kids h3
        have h3b := cast_bne_three_yes _ h3
        have l0n : 0 < n.kids.length := by omega
        have l0 : (0 : Int) < (n.kids.length : Int) := by omega
        have l1n : 1 < n.kids.length := by omega
        have l1 : (1 : Int) < (n.kids.length : Int) := by omega
        have l2n : 2 < n.kids.length := by omega
        have l2 : (2 : Int) < (n.kids.length : Int) := by omega
        have hszx : x.size ≤ f := by have := N.size_kid (m := n) (n := x) (i := 0) (by rw [hx]; rfl); omega
        have hszy : y.size ≤ f := by have := N.size_kid (m := n) (n := y) (i := 1) (by rw [hx]; rfl); omega
        have hszz : z.size ≤ f := by have := N.size_kid (m := n) (n := z) (i := 2) (by rw [hx]; rfl); omega
        obtain ⟨b, o, cap, a2, cap2, rfl, hcap, hb, c0, c1, c2, hxk⟩ := hk.kid0 hx
        obtain ⟨a3, cap3, d0, d1, d2, hyk⟩ := hk.kid1 hx
        obtain ⟨a4, cap4, f0, f1, f2, hzk⟩ := hk.kid2 hx
        have hm : kid3B (valueB3 f) n.kids = valueB3 f x y z := by rw [hx]; rfl
        rw [hm]
        unfold valueB3 isK
        have hb1 := (Below.refl w.heap.size w).alloc (Nat.le_refl _) (Obj.cells #[Value.string n.kind, Value.string n.text, Value.slice (some ⟨b, o, none⟩) n.kids.length cap] 24)
        have hlx := N.len_lt x
        have hlz := N.len_lt z
        have HX := Lib.hid hxk
        have HY := Lib.hid hyk
        have HZ := Lib.hid hzk
        have HB1 := Lib.hid hb1
        have HE := Lib.hid hE
        clear hx h3 hxk hyk hzk hm hk hb1 hE
        unfold N.val
        cases q0 : (x.kind.toList == [108, 105, 115, 116]) with
        | false =>
          simp only [Bool.false_and]
          go_enter Tryz.func25, Tryz.ntmps25
          go_wp2_with fail
          go_ret
          exact ⟨ret_bool (by simp), HB1.out⟩
        | true =>
        cases q1 : x.text.toList.isEmpty with
        | false =>
          simp only [Bool.false_and, Bool.and_false]
          go_enter Tryz.func25, Tryz.ntmps25
          go_wp2_with fail
          go_ret
          exact ⟨ret_bool (by simp), HB1.out⟩
        | true =>
        cases q2 : (z.kind.toList == [108, 105, 115, 116]) with
        | false =>
          simp only [Bool.false_and, Bool.and_false]
          go_enter Tryz.func25, Tryz.ntmps25
          go_wp2_with fail
          go_ret
          exact ⟨ret_bool (by simp), HB1.out⟩
        | true =>
        cases q3 : z.text.toList.isEmpty with
        | false =>
          simp only [Bool.false_and, Bool.and_false]
          go_enter Tryz.func25, Tryz.ntmps25
          go_wp2_with fail
          go_ret
          exact ⟨ret_bool (by simp), HB1.out⟩
        | true =>
        simp only [Bool.and_self, Bool.true_and]
        by_cases hpos : 0 < x.kids.length
        · have hp1 : (0 : Int) < (x.kids.length : Int) := by omega
          simp only [hpos, decide_true, Bool.true_and]
          go_enter Tryz.func25, Tryz.ntmps25
          go_wp2_with fail
          refine (every_any x.kids _ _ (fun _ => True) isName _ (HX.out.later HB1.out) (by omega) (fun _ _ => trivial) (isName_pred _)).mono ?_
          rintro e w2 ⟨rfl, hb2⟩
          have hb3 := HB1.out.trans (hb2.mono (by simp))
          have g0 : w2.cell? ⟨b, o + 3, none⟩ = some (.string y.kind) := (hb3.cell (p := ⟨b, o + 3, none⟩) hb).trans d0
          have g1 : w2.cell? ⟨b, o + 3 + 1, none⟩ = some (.string y.text) := (hb3.cell (p := ⟨b, o + 3 + 1, none⟩) hb).trans d1
          have g2 : w2.cell? ⟨b, o + 3 + 2, none⟩ = some (.slice a3 y.kids.length cap3) := (hb3.cell (p := ⟨b, o + 3 + 2, none⟩) hb).trans d2
          have HB3 := Lib.hid hb3
          have F2 := Lib.hid f2
          clear hb2 hb3 c0 c1 c2 d0 d1 d2 f0 f1 f2
          cases hax : x.kids.all isName with
          | false =>
            go_wp2_with fail
            go_ret
            exact ⟨ret_bool (by simp [hax]), HB3.out⟩
          | true =>
            have HAX := Lib.hid hax
            clear hax
            go_wp2_with fail
            refine (or_any y _ _ (·.size ≤ f) (shE f) _ (HY.out.later HB3.out) (fun _ => hszy) (HE.out.pred _)).mono ?_
            rintro e w4 ⟨rfl, hb4⟩
            have hb5 := HB3.out.trans (hb4.mono HB3.out.size)
            have r2 : w4.cell? ⟨b, o + 6 + 2, none⟩ = some (.slice a4 z.kids.length cap4) := (hb5.cell (p := ⟨b, o + 6 + 2, none⟩) hb).trans F2.out
            have HB5 := Lib.hid hb5
            clear hb4 hb5 g0 g1 g2
            cases hay : orB (shE f) y with
            | false =>
              go_wp2_with fail
              go_ret
              exact ⟨ret_bool (by simp [hay]), HB5.out⟩
            | true =>
              have HAY := Lib.hid hay
              clear hay
              go_wp2_with fail
              refine (every_any z.kids _ _ (·.size ≤ f) (shE f) _ (HZ.out.later HB5.out) (by omega) (fun m hm => by
                obtain ⟨i, hi⟩ := List.getElem?_of_mem hm
                have := N.size_kid (m := z) hi
                show m.size ≤ f
                omega) (HE.out.pred _)).mono ?_
              rintro e w6 ⟨rfl, hb6⟩
              go_wp2_with fail
              go_ret
              exact ⟨ret_bool (by simp [HAX.out, HAY.out]), HB5.out.trans (hb6.mono HB5.out.size)⟩
        · have hp1 : ¬ (0 : Int) < (x.kids.length : Int) := by omega
          simp only [hpos, decide_false, Bool.false_and]
          go_enter Tryz.func25, Tryz.ntmps25
          go_wp2_with fail
          go_ret
          exact ⟨ret_bool (by simp), HB1.out⟩
      · have h3b := cast_bne_three_no _ h3
        rw [kid3B_no h3]
        obtain ⟨a, cap, rfl, hcap, hel⟩ := hk.shape
        clear h3 hel hk
        unfold N.val
        go_enter Tryz.func25, Tryz.ntmps25
        go_wp2_with fail
        go_ret
        exact ⟨ret_bool (by simp), (Below.refl _ _).alloc (Nat.le_refl _) _⟩
end Go.Proofs.YtoijkbkcfbbmfaaGreatDoor

/- What is proved here: spec.shapedDecl and spec.Shaped answer as plain functions on trees do. No condition but that the trees lie in memory. -/
namespace Go.Proofs.YtoijkbkcfbbmfaaGreatDoor
open Go.RowKit Go.Shelf

theorem path_pred (w : World) : IsPred w (.func (.func 24) #[] #[]) (fun _ => True) pathB :=
  ⟨24, #[], rfl, enters_of Tryz.func24 (by kernel_rfl) rfl, fun n v w _ _ hk => path_any n v w hk⟩
theorem type_pred {f : Nat} (h : EHyp f) (w : World) : IsPred w (.func (.func 26) #[] #[]) (·.size ≤ f) (typeB f) :=
  ⟨26, #[], rfl, enters_of Tryz.func26 (by kernel_rfl) rfl, fun n v w hs _ hk => type_any f h n v w (Nat.le_succ_of_le hs) hk⟩
theorem value_pred {f : Nat} (hf2 : f ≤ 2147483647) (h : EHyp f) (w : World) : IsPred w (.func (.func 25) #[] #[]) (·.size ≤ f) (valueB f) :=
  ⟨25, #[], rfl, enters_of Tryz.func25 (by kernel_rfl) rfl, fun n v w hs _ hk => value_any f hf2 h n v w (Nat.le_succ_of_le hs) hk⟩

theorem kids_small {n : N} {f : Nat} (hn : n.size ≤ f + 1) : ∀ m ∈ n.kids, m.size ≤ f := fun m hm => by
  obtain ⟨i, hi⟩ := List.getElem?_of_mem hm
  have := N.size_kid (m := n) hi
  omega

set_option maxRecDepth 100000 in
theorem decl_list (n : N) (v : Value) (w : World) (S : N → Prop) (p : N → Bool) (g : Nat) (hl : n.kids.length ≤ 2147483647) (hS : ∀ m ∈ n.kids, S m)
    (hk : KidsAt (· < w.heap.size) w v n.kids) (hp : ∀ w, IsPred w (.func (.func g) #[] #[]) S p)
    (h : (n.kind.toList = [100, 101, 99, 108, 97, 114, 101, 32, 105, 109, 112, 111, 114, 116] ∧ g = 24) ∨ ((n.kind.toList = [100, 101, 99, 108, 97, 114, 101, 32, 99, 111, 110, 115, 116] ∨ n.kind.toList = [100, 101, 99, 108, 97, 114, 101, 32, 118, 97, 114]) ∧ g = 25) ∨ (n.kind.toList = [100, 101, 99, 108, 97, 114, 101, 32, 116, 121, 112, 101] ∧ g = 26)) :
    Calls Tryz.prog 13 #[n.val v] w fun e w' => e = .returned (.bool (n.kids.all p)) ∧ Below w.heap.size w w' := by
  obtain ⟨a, cap, rfl, hcap, hel⟩ := hk.shape
  have hb1 := (Below.refl w.heap.size w).alloc (Nat.le_refl _) (Obj.cells #[Value.string n.kind, Value.string n.text, Value.slice a n.kids.length cap] 24)
  have hc := every_any n.kids _ _ S p _ (hk.later hb1) hl hS (hp _)
  have HC := Lib.hid hc
  have HB1 := Lib.hid hb1
  clear hc hb1 hel hk hp hS
  unfold N.val
  rcases h with ⟨hkd, rfl⟩ | ⟨hkd | hkd, rfl⟩ | ⟨hkd, rfl⟩
  all_goals
    go_enter Tryz.func13, Tryz.ntmps13
    go_wp2_with fail
    refine HC.out.mono ?_
    rintro e w2 ⟨rfl, hb⟩
    go_wp2_with fail
    go_ret
    exact ⟨rfl, HB1.out.trans (hb.mono (by simp))⟩

set_option maxRecDepth 100000 in
theorem decl_other (n : N) (v : Value) (w : World) (hk : KidsAt (· < w.heap.size) w v n.kids)
    (h0 : (n.kind.toList == [100, 101, 99, 108, 97, 114, 101, 32, 105, 109, 112, 111, 114, 116]) = false) (h1 : (n.kind.toList == [100, 101, 99, 108, 97, 114, 101, 32, 99, 111, 110, 115, 116]) = false) (h2 : (n.kind.toList == [100, 101, 99, 108, 97, 114, 101, 32, 118, 97, 114]) = false)
    (h3 : (n.kind.toList == [100, 101, 99, 108, 97, 114, 101, 32, 116, 121, 112, 101]) = false) (h4 : (n.kind.toList == [102, 117, 110, 99]) = false) :
    Calls Tryz.prog 13 #[n.val v] w fun e w' => e = .returned (.bool false) ∧ Below w.heap.size w w' := by
  obtain ⟨a, cap, rfl, hcap, hel⟩ := hk.shape
  clear hel hk
  unfold N.val
  go_enter Tryz.func13, Tryz.ntmps13
  go_wp2_with fail
  go_ret
  exact ⟨rfl, (Below.refl _ _).alloc (Nat.le_refl _) _⟩

set_option maxHeartbeats 2000000 in
set_option maxRecDepth 100000 in
theorem decl_func (f : Nat) (hf2 : f ≤ 2147483647) (hE : EHyp f) (n : N) (v : Value) (w : World) (hn : n.size ≤ f + 1) (hk : KidsAt (· < w.heap.size) w v n.kids) (hkd : n.kind.toList = [102, 117, 110, 99]) :
    Calls Tryz.prog 13 #[n.val v] w fun e w' => e = .returned (.bool (kid3B (funcB3 f) n.kids)) ∧ Below w.heap.size w w' := by
  by_cases h3 : n.kids.length = 3
  · obtain ⟨x, y, z, hx⟩ := three_kids h3
    have h3b : ((n.kids.length : Int) == 3) = true := by rw [h3]; rfl
    have l0n : 0 < n.kids.length := by omega
    have l0 : (0 : Int) < (n.kids.length : Int) := by omega
    have l1n : 1 < n.kids.length := by omega
    have l1 : (1 : Int) < (n.kids.length : Int) := by omega
    have l2n : 2 < n.kids.length := by omega
    have l2 : (2 : Int) < (n.kids.length : Int) := by omega
    have hszx : x.size ≤ f := kids_small hn x (by rw [hx]; simp)
    have hszy : y.size ≤ f := kids_small hn y (by rw [hx]; simp)
    obtain ⟨b, o, cap, a2, cap2, rfl, hcap, hb, c0, c1, c2, hxk⟩ := hk.kid0 hx
    obtain ⟨a3, cap3, d0, d1, d2, hyk⟩ := hk.kid1 hx
    obtain ⟨a4, cap4, f0, f1, f2, hzk⟩ := hk.kid2 hx
    have hm : kid3B (funcB3 f) n.kids = funcB3 f x y z := by rw [hx]; rfl
    rw [hm]
    unfold funcB3 isK
    have hb1 := (Below.refl w.heap.size w).alloc (Nat.le_refl _) (Obj.cells #[Value.string n.kind, Value.string n.text, Value.slice (some ⟨b, o, none⟩) n.kids.length cap] 24)
    have HX := Lib.hid hxk
    have HY := Lib.hid hyk
    have HZ := Lib.hid hzk
    have HB1 := Lib.hid hb1
    have HE := Lib.hid hE
    clear hx h3 hxk hyk hzk hm hk hb1 hE
    unfold N.val
    go_enter Tryz.func13, Tryz.ntmps13
    go_wp2_with fail
    refine (or_any x _ _ (·.size ≤ f) (shF (shE f) bare) _ (HX.out.later HB1.out) (fun _ => hszx) (params_pred hf2 HE.out _)).mono ?_
    rintro e w2 ⟨rfl, hb2⟩
    have hb3 := HB1.out.trans (hb2.mono (by simp))
    have g0 : w2.cell? ⟨b, o + 3, none⟩ = some (.string y.kind) := (hb3.cell (p := ⟨b, o + 3, none⟩) hb).trans d0
    have g1 : w2.cell? ⟨b, o + 3 + 1, none⟩ = some (.string y.text) := (hb3.cell (p := ⟨b, o + 3 + 1, none⟩) hb).trans d1
    have g2 : w2.cell? ⟨b, o + 3 + 2, none⟩ = some (.slice a3 y.kids.length cap3) := (hb3.cell (p := ⟨b, o + 3 + 2, none⟩) hb).trans d2
    have HB3 := Lib.hid hb3
    have F0 := Lib.hid f0
    have F1 := Lib.hid f1
    have F2 := Lib.hid f2
    clear hb2 hb3 c0 c1 c2 d0 d1 d2 f0 f1 f2
    cases hox : orB (shF (shE f) bare) x with
    | false =>
      go_wp2_with fail
      go_ret
      exact ⟨ret_bool (by simp [hox]), HB3.out⟩
    | true =>
    have HOX := Lib.hid hox
    clear hox
    cases hys : (y.kind.toList == [115, 105, 103, 110, 97, 116, 117, 114, 101]) with
    | false =>
      go_wp2_with fail
      go_ret
      exact ⟨ret_bool (by simp [hys]), HB3.out⟩
    | true =>
    have HYS := Lib.hid hys
    go_wp2_with fail
    refine (HE.out y _ _ hszy (HY.out.later HB3.out)).mono ?_
    rintro e w4 ⟨rfl, hb4⟩
    have hb5 := HB3.out.trans (hb4.mono HB3.out.size)
    have p0 : w4.cell? ⟨b, o + 6, none⟩ = some (.string z.kind) := (hb5.cell (p := ⟨b, o + 6, none⟩) hb).trans F0.out
    have p1 : w4.cell? ⟨b, o + 6 + 1, none⟩ = some (.string z.text) := (hb5.cell (p := ⟨b, o + 6 + 1, none⟩) hb).trans F1.out
    have p2 : w4.cell? ⟨b, o + 6 + 2, none⟩ = some (.slice a4 z.kids.length cap4) := (hb5.cell (p := ⟨b, o + 6 + 2, none⟩) hb).trans F2.out
    have HB5 := Lib.hid hb5
    clear hb4 hb5 g0 g1 g2 hys
    cases hsy : shE f y with
    | false =>
      go_wp2_with fail
      go_ret
      exact ⟨ret_bool (by simp [hsy]), HB5.out⟩
    | true =>
    have HSY := Lib.hid hsy
    clear hsy
    go_wp2_with fail
    refine (missing_any z _ _ _).mono ?_
    rintro e w6 ⟨rfl, hb6⟩
    have hb7 := HB5.out.trans (hb6.mono HB5.out.size)
    have r0 : w6.cell? ⟨b, o + 6, none⟩ = some (.string z.kind) := (hb7.cell (p := ⟨b, o + 6, none⟩) hb).trans F0.out
    have r1 : w6.cell? ⟨b, o + 6 + 1, none⟩ = some (.string z.text) := (hb7.cell (p := ⟨b, o + 6 + 1, none⟩) hb).trans F1.out
    have r2 : w6.cell? ⟨b, o + 6 + 2, none⟩ = some (.slice a4 z.kids.length cap4) := (hb7.cell (p := ⟨b, o + 6 + 2, none⟩) hb).trans F2.out
    have HB7 := Lib.hid hb7
    clear hb6 hb7 p0 p1 p2
    have HZL := Lib.hid (cast_beq_zero z.kids.length)
    cases hmz : missing z with
    | true =>
      go_wp2_with fail
      go_ret
      exact ⟨ret_bool (by simp [HOX.out, HYS.out, HSY.out, hmz]), HB7.out⟩
    | false =>
      have HMZ := Lib.hid hmz
      clear hmz
      cases z0 : (z.kind.toList == [98, 111, 100, 121]) with
      | false =>
        go_wp2_with fail
        go_ret
        exact ⟨ret_bool (by simp [HMZ.out, bodyB, isK, z0]), HB7.out⟩
      | true =>
      cases z1 : ((z.kids.length : Int) == 0) with
      | false =>
        go_wp2_with fail
        go_ret
        rw [HZL.out] at z1
        exact ⟨ret_bool (by simp [HMZ.out, bodyB, z1]), HB7.out⟩
      | true =>
        go_wp2_with fail
        all_goals
          go_ret
          rw [HZL.out] at z1
          exact ⟨ret_bool (by simp_all [HOX.out, HYS.out, HSY.out, HMZ.out, bodyB, isK]), HB7.out⟩
  · have h3b : ((n.kids.length : Int) == 3) = false := by rw [cast_beq_three]; simpa using h3
    rw [kid3B_no h3]
    obtain ⟨a, cap, rfl, hcap, hel⟩ := hk.shape
    clear h3 hel hk
    unfold N.val
    go_enter Tryz.func13, Tryz.ntmps13
    go_wp2_with fail
    go_ret
    exact ⟨rfl, (Below.refl _ _).alloc (Nat.le_refl _) _⟩

theorem decl_any (f : Nat) (hf2 : f ≤ 2147483647) (n : N) (v : Value) (w : World) (hn : n.size ≤ f + 1) (hk : KidsAt (· < w.heap.size) w v n.kids) :
    Calls Tryz.prog 13 #[n.val v] w fun e w' => e = .returned (.bool (declB f n)) ∧ Below w.heap.size w w' := by
  have hE := shE_any f hf2
  have hl := N.len_lt n
  have hl2 : n.kids.length ≤ 2147483647 := by omega
  by_cases k0 : n.kind.toList = [100, 101, 99, 108, 97, 114, 101, 32, 105, 109, 112, 111, 114, 116]
  · rw [show declB f n = n.kids.all pathB by simp [declB, isK, k0]]
    exact decl_list n v w (fun _ => True) pathB 24 hl2 (fun _ _ => trivial) hk path_pred (.inl ⟨k0, rfl⟩)
  by_cases k1 : n.kind.toList = [100, 101, 99, 108, 97, 114, 101, 32, 99, 111, 110, 115, 116]
  · rw [show declB f n = n.kids.all (valueB f) by simp [declB, isK, k1]]
    exact decl_list n v w (·.size ≤ f) (valueB f) 25 hl2 (kids_small hn) hk (value_pred hf2 hE) (.inr (.inl ⟨.inl k1, rfl⟩))
  by_cases k2 : n.kind.toList = [100, 101, 99, 108, 97, 114, 101, 32, 118, 97, 114]
  · rw [show declB f n = n.kids.all (valueB f) by simp [declB, isK, k2]]
    exact decl_list n v w (·.size ≤ f) (valueB f) 25 hl2 (kids_small hn) hk (value_pred hf2 hE) (.inr (.inl ⟨.inr k2, rfl⟩))
  by_cases k3 : n.kind.toList = [100, 101, 99, 108, 97, 114, 101, 32, 116, 121, 112, 101]
  · rw [show declB f n = n.kids.all (typeB f) by simp [declB, isK, k3]]
    exact decl_list n v w (·.size ≤ f) (typeB f) 26 hl2 (kids_small hn) hk (type_pred hE) (.inr (.inr ⟨k3, rfl⟩))
  by_cases k4 : n.kind.toList = [102, 117, 110, 99]
  · rw [show declB f n = kid3B (funcB3 f) n.kids by simp [declB, isK, k4]]
    exact decl_func f hf2 hE n v w hn hk k4
  · rw [show declB f n = false by simp [declB, isK, k0, k1, k2, k3, k4]]
    exact decl_other n v w hk (by simpa using k0) (by simpa using k1) (by simpa using k2) (by simpa using k3) (by simpa using k4)

/-- The fuel does not matter. -/
theorem few_any (n : N) (v : Value) (w : World) (hk : KidsAt (· < w.heap.size) w v n.kids) :
    Calls Tryz.prog 11 #[n.val v] w fun e w' => e = .returned (.bool (cnt n.size n 400 0).1) ∧ Below w.heap.size w w' := by
  obtain ⟨a, cap, rfl, hcap, hel⟩ := hk.shape
  have hb1 := (Below.refl w.heap.size w).alloc (Nat.le_refl _) (Obj.cells #[Value.string n.kind, Value.string n.text, Value.slice a n.kids.length cap] 24)
  have hbx := Boxed.new (w.alloc (Obj.cells #[Value.string n.kind, Value.string n.text, Value.slice a n.kids.length cap] 24)) 3 (.int .i64 400)
  have hb2 := hb1.alloc (by simp) (Obj.cells #[.int .i64 400] 3)
  have hc := count_any n.size n (.slice a n.kids.length cap) 400 0 _ _ (Nat.le_refl _) ((hk.under hb2).mono (fun b hb => ⟨by simp; omega, by simp; omega⟩)) (by omega) (by omega) (by omega) (by omega) hbx
  · have HC := Lib.hid hc
    have HB2 := Lib.hid hb2
    clear hc hb1 hb2 hbx hel hk
    simp only [World.size_alloc] at HC
    unfold N.val
    go_enter Tryz.func11, Tryz.ntmps11
    go_wp2_with fail
    refine HC.out.mono ?_
    rintro e w2 ⟨rfl, hg, _⟩
    go_wp2_with fail
    go_ret
    exact ⟨rfl, HB2.out.trans ((Below.refl _ _).grown hg (by simp; omega) (fun k hk => by cases hk; simp))⟩
end Go.Proofs.YtoijkbkcfbbmfaaGreatDoor

/- What is proved here: spec.Shaped answers as a plain function on trees does, and a shaped tree is small. -/
namespace Go.Proofs.YtoijkbkcfbbmfaaGreatDoor
open Go.RowKit Go.Shelf

theorem cnt_size (f : Nat) : ∀ (n : N) (L d : Int), (cnt f n L d).1 = true → (n.size : Int) + (cnt f n L d).2 = L := by
  induction f with
  | zero => intro n L d h; simp [cnt] at h
  | succ f ih =>
    intro n L d
    have hcs : ∀ (ks : List N) (L d : Int), (cnt.cnts (cnt f) ks L d).1 = true → (N.sizes ks : Int) + (cnt.cnts (cnt f) ks L d).2 = L := by
      intro ks
      induction ks with
      | nil => intro L d _; simp [cnt.cnts, N.sizes]
      | cons k r ihr =>
        intro L d
        simp only [cnt.cnts, N.sizes]
        split
        · rename_i ht
          intro h
          have h1 := ih k L d ht
          have h2 := ihr _ d h
          omega
        · intro h; simp at h
    simp only [cnt]
    split
    · intro h; simp at h
    · intro h
      have := hcs _ _ _ h
      rw [N.size_eq]
      omega

theorem cnt_small {n : N} (h : (cnt n.size n 400 0).1 = true) : n.size ≤ 400 := by
  have h1 := cnt_size _ _ _ _ h
  have h2 := (cnt_le n.size n 400 0 (by omega)).2.2 h
  omega

def shapedB (n : N) : Bool := (cnt n.size n 400 0).1 && short 400 n && declB 400 n && (isK n [102, 117, 110, 99] || (n.text.toList == [103, 114, 111, 117, 112] || (n.text.toList.isEmpty && n.kids.length == 1)))
theorem shaped_small {n : N} (h : shapedB n = true) : n.size ≤ 400 := by
  simp only [shapedB, Bool.and_eq_true] at h
  exact cnt_small h.1.1.1

set_option maxHeartbeats 2000000 in
set_option maxRecDepth 100000 in
theorem shaped_any (n : N) (v : Value) (w : World) (hk : KidsAt (· < w.heap.size) w v n.kids) :
    Calls Tryz.prog 6 #[n.val v] w fun e w' => e = .returned (.bool (shapedB n)) ∧ Below w.heap.size w w' := by
  obtain ⟨a, cap, rfl, hcap, hel⟩ := hk.shape
  have hb1 := (Below.refl w.heap.size w).alloc (Nat.le_refl _) (Obj.cells #[Value.string n.kind, Value.string n.text, Value.slice a n.kids.length cap] 24)
  have HK := Lib.hid hk
  have HB1 := Lib.hid hb1
  have hc0 : (w.alloc (Obj.cells #[Value.string n.kind, Value.string n.text, Value.slice a n.kids.length cap] 24)).cell? ⟨w.heap.size, 0, none⟩ = some (.string n.kind) := by simp
  have hc1 : (w.alloc (Obj.cells #[Value.string n.kind, Value.string n.text, Value.slice a n.kids.length cap] 24)).cell? ⟨w.heap.size, 1, none⟩ = some (.string n.text) := by simp
  have hc2 : (w.alloc (Obj.cells #[Value.string n.kind, Value.string n.text, Value.slice a n.kids.length cap] 24)).cell? ⟨w.heap.size, 2, none⟩ = some (.slice a n.kids.length cap) := by simp
  have HC := Lib.hid (And.intro hc0 (And.intro hc1 hc2))
  clear hc0 hc1 hc2
  clear hk hel hb1
  have HS : Hid (Below (w.heap.size+1) (w.alloc (Obj.cells #[Value.string n.kind, Value.string n.text, Value.slice a n.kids.length cap] 24)) (w.alloc (Obj.cells #[Value.string n.kind, Value.string n.text, Value.slice a n.kids.length cap] 24))) := Lib.hid (Below.refl _ _)
  unfold N.val
  go_enter Tryz.func6, Tryz.ntmps6
  go_wp2_with fail
  refine (few_any n _ _ (HK.out.later HB1.out)).mono ?_
  rintro e w2 ⟨rfl, hb2⟩
  have hb3 := HB1.out.trans (hb2.mono (by simp))
  have c0 : w2.cell? ⟨w.heap.size, 0, none⟩ = some (.string n.kind) := (hb2.cell (by simp)).trans HC.out.1
  have c1 : w2.cell? ⟨w.heap.size, 1, none⟩ = some (.string n.text) := (hb2.cell (by simp)).trans HC.out.2.1
  have c2 : w2.cell? ⟨w.heap.size, 2, none⟩ = some (.slice a n.kids.length cap) := (hb2.cell (by simp)).trans HC.out.2.2
  have HS2 : Hid (Below (w.heap.size+1) (w.alloc (Obj.cells #[Value.string n.kind, Value.string n.text, Value.slice a n.kids.length cap] 24)) w2) := Lib.hid (hb2.mono (by simp))
  have HB3 := Lib.hid hb3
  clear hb2 hb3
  cases hfw : (cnt n.size n 400 0).1 with
  | false =>
    go_wp2_with fail
    go_ret
    exact ⟨ret_bool (by simp [shapedB, hfw]), HB3.out⟩
  | true =>
  have hsz := cnt_small hfw
  have HFW := Lib.hid hfw
  clear hfw
  go_wp2_with fail
  refine (short_any 400 n _ _ (by omega) hsz (HK.out.later HB3.out)).mono ?_
  rintro e w3 ⟨rfl, hb4⟩
  have hb5 := HS2.out.trans (hb4.mono (by simpa using HS2.out.size))
  have d0 : w3.cell? ⟨w.heap.size, 0, none⟩ = some (.string n.kind) := (hb5.cell (by simp)).trans HC.out.1
  have d1 : w3.cell? ⟨w.heap.size, 1, none⟩ = some (.string n.text) := (hb5.cell (by simp)).trans HC.out.2.1
  have d2 : w3.cell? ⟨w.heap.size, 2, none⟩ = some (.slice a n.kids.length cap) := (hb5.cell (by simp)).trans HC.out.2.2
  have HS5 := Lib.hid hb5
  have HB5 := Lib.hid (HB1.out.trans (hb5.mono (by simp)))
  clear hb4 hb5 c0 c1 c2
  cases hsh : short 400 n with
  | false =>
    go_wp2_with fail
    go_ret
    exact ⟨ret_bool (by simp [shapedB, hsh]), HB5.out⟩
  | true =>
  have HSH := Lib.hid hsh
  clear hsh
  go_wp2_with fail
  refine (decl_any 400 (by omega) n _ _ (by omega) (HK.out.later HB5.out)).mono ?_
  rintro e w4 ⟨rfl, hb6⟩
  have hb7 := HS5.out.trans (hb6.mono (by simpa using HS5.out.size))
  have f0 : w4.cell? ⟨w.heap.size, 0, none⟩ = some (.string n.kind) := (hb7.cell (by simp)).trans HC.out.1
  have f1 : w4.cell? ⟨w.heap.size, 1, none⟩ = some (.string n.text) := (hb7.cell (by simp)).trans HC.out.2.1
  have f2 : w4.cell? ⟨w.heap.size, 2, none⟩ = some (.slice a n.kids.length cap) := (hb7.cell (by simp)).trans HC.out.2.2
  have HB7 := Lib.hid (HB1.out.trans (hb7.mono (by simp)))
  clear hb6 hb7 d0 d1 d2
  cases hdc : declB 400 n with
  | false =>
    go_wp2_with fail
    go_ret
    exact ⟨ret_bool (by simp [shapedB, hdc]), HB7.out⟩
  | true =>
  have HDC := Lib.hid hdc
  clear hdc
  have HZL := Lib.hid (cast_beq_one n.kids.length)
  cases z0 : (n.kind.toList == [102, 117, 110, 99]) with
  | true =>
    go_wp2_with fail
    go_ret
    exact ⟨ret_bool (by simp_all [shapedB, HFW.out, HSH.out, HDC.out, isK]), HB7.out⟩
  | false =>
  cases z1 : (n.text.toList == [103, 114, 111, 117, 112]) with
  | true =>
    go_wp2_with fail
    go_ret
    exact ⟨ret_bool (by simp_all [shapedB, HFW.out, HSH.out, HDC.out, isK]), HB7.out⟩
  | false =>
  cases z2 : n.text.toList.isEmpty with
  | false =>
    go_wp2_with fail
    go_ret
    exact ⟨ret_bool (by simp_all [shapedB, HFW.out, HSH.out, HDC.out, isK]), HB7.out⟩
  | true =>
  go_wp2_with fail
  all_goals
    go_ret
    exact ⟨ret_bool (by simp_all [shapedB, HFW.out, HSH.out, HDC.out, isK, HZL.out]), HB7.out⟩
end Go.Proofs.YtoijkbkcfbbmfaaGreatDoor

/- What is proved here: a declaration as it lies in memory as a tree of syntax, read as a tree of nodes; and that it lies so wherever the same cells lie. No program is in sight. -/
namespace Go.Proofs.YtoijkbkcfbbmfaaGreatDoor
open Go.RowKit

/-- A pointer to the head of a block; and as a node. -/
abbrev Pt (b : Nat) : Value := .pointer (some ⟨b, 0, none⟩)
abbrev Nd (ty b : Nat) : Value := .iface ty (Pt b)
def identN (t : ByteArray) : N := .mk ⟨#[110, 97, 109, 101]⟩ t []
def litN (t : ByteArray) : N := .mk ⟨#[108, 105, 116, 101, 114, 97, 108]⟩ t []
def noneN : N := .mk ⟨#[110, 111, 110, 101]⟩ ⟨#[]⟩ []
/-- The tag of a field. -/
def tagN (t : ByteArray) : N := if t.toList.isEmpty then noneN else litN t
/-- A node that is an expression. -/
def isE : Value → Bool
  | .iface ty _ => [55, 97, 123, 126, 129, 132, 135, 58, 140, 143].contains ty
  | _ => false
/-- A node that is a part of a declaration. -/
def isS : Value → Bool
  | .iface ty _ => [96, 101, 110].contains ty
  | _ => false
/-- A field that is a pointer, of a node that may be missing. -/
def OPt (ty : Nat) (v p : Value) : Prop := (v = .nilIface ∧ p = .pointer none) ∨ ∃ b, v = Nd ty b ∧ p = Pt b
/-- A slice of values. -/
def LAt (C : Nat → Nat → Value → Prop) (v : Value) (n : Nat) (V : Nat → Value) : Prop :=
  ∃ a cap, v = .slice a n cap ∧ n ≤ cap ∧ ∀ i, i < n → ∃ b o, a = some ⟨b, o, none⟩ ∧ C b (o + i) (V i)
theorem LAt.map {C C' : Nat → Nat → Value → Prop} {v : Value} {n : Nat} {V : Nat → Value} (h : LAt C v n V) (hC : ∀ b o u, C b o u → C' b o u) : LAt C' v n V := by
  obtain ⟨a, cap, hv, hc, he⟩ := h
  refine ⟨a, cap, hv, hc, fun i hi => ?_⟩
  obtain ⟨b, o, ha, hb⟩ := he i hi
  exact ⟨b, o, ha, hC _ _ _ hb⟩

/-- What a word of a declaration is as a token: import, const, type, var. -/
def tokOf (n : N) : Option Nat :=
  if isK n [100, 101, 99, 108, 97, 114, 101, 32, 105, 109, 112, 111, 114, 116] then some 75 else if isK n [100, 101, 99, 108, 97, 114, 101, 32, 99, 111, 110, 115, 116] then some 64 else if isK n [100, 101, 99, 108, 97, 114, 101, 32, 116, 121, 112, 101] then some 84 else if isK n [100, 101, 99, 108, 97, 114, 101, 32, 118, 97, 114] then some 85 else none

inductive Rep (C : Nat → Nat → Value → Prop) : N → Value → Prop where
  | none (n : N) (h : missing n = true) : Rep C n .nilIface
  | name (n : N) (b : Nat) (hk : isK n [110, 97, 109, 101] = true) (h0 : n.kids = []) (c : C b 1 (.string n.text)) : Rep C n (Nd 55 b)
  | literal (n : N) (b : Nat) (hk : isK n [108, 105, 116, 101, 114, 97, 108] = true) (h0 : n.kids = []) (c : C b 3 (.string n.text)) : Rep C n (Nd 97 b)
  | select (n : N) (b : Nat) (x : N) (vx : Value) (s : Nat) (hk : isK n [115, 101, 108, 101, 99, 116] = true) (h0 : n.kids = [x]) (ex : isE vx = true) (cx : C b 0 vx) (cs : C b 1 (Pt s)) (rx : Rep C x vx) (rs : Rep C (identN n.text) (Nd 55 s)) : Rep C n (Nd 123 b)
  | star (n : N) (b : Nat) (x : N) (vx : Value) (hk : isK n [115, 116, 97, 114] = true) (ht : n.text.toList.isEmpty = true) (h0 : n.kids = [x]) (ex : isE vx = true) (cx : C b 1 vx) (rx : Rep C x vx) : Rep C n (Nd 126 b)
  | array (n : N) (b : Nat) (x : N) (vx : Value) (y : N) (vy : Value) (hk : isK n [97, 114, 114, 97, 121] = true) (ht : n.text.toList.isEmpty = true) (h0 : n.kids = [x, y]) (ex : vx = .nilIface ∨ isE vx = true) (ey : isE vy = true) (cx : C b 1 vx) (cy : C b 2 vy) (rx : Rep C x vx) (ry : Rep C y vy) : Rep C n (Nd 129 b)
  | map (n : N) (b : Nat) (x : N) (vx : Value) (y : N) (vy : Value) (hk : isK n [109, 97, 112] = true) (ht : n.text.toList.isEmpty = true) (h0 : n.kids = [x, y]) (ex : isE vx = true) (ey : isE vy = true) (cx : C b 1 vx) (cy : C b 2 vy) (rx : Rep C x vx) (ry : Rep C y vy) : Rep C n (Nd 132 b)
  | chan (n : N) (b : Nat) (x : N) (vx : Value) (d : Nat) (hk : isK n [99, 104, 97, 110] = true) (hd : (n.text.toList = [] ∧ d = 3) ∨ (n.text.toList = [115, 101, 110, 100] ∧ d = 1) ∨ (n.text.toList = [114, 101, 99, 101, 105, 118, 101] ∧ d = 2)) (h0 : n.kids = [x]) (ex : isE vx = true) (cd : C b 2 (.int .i64 d)) (cx : C b 3 vx) (rx : Rep C x vx) : Rep C n (Nd 135 b)
  | signature (n : N) (b : Nat) (x : N) (px : Nat) (y : N) (vy py : Value) (hk : isK n [115, 105, 103, 110, 97, 116, 117, 114, 101] = true) (ht : n.text.toList.isEmpty = true) (h0 : n.kids = [x, y]) (ct : C b 1 (.pointer none)) (cx : C b 2 (Pt px)) (cy : C b 3 py) (oy : OPt 52 vy py) (rx : Rep C x (Nd 52 px)) (ry : Rep C y vy) : Rep C n (Nd 58 b)
  | struct (n : N) (b : Nat) (x : N) (px : Nat) (hk : isK n [115, 116, 114, 117, 99, 116] = true) (ht : n.text.toList.isEmpty = true) (h0 : n.kids = [x]) (cx : C b 1 (Pt px)) (rx : Rep C x (Nd 52 px)) : Rep C n (Nd 140 b)
  | interface (n : N) (b : Nat) (x : N) (px : Nat) (hk : isK n [105, 110, 116, 101, 114, 102, 97, 99, 101] = true) (ht : n.text.toList.isEmpty = true) (h0 : n.kids = [x]) (cx : C b 1 (Pt px)) (rx : Rep C x (Nd 52 px)) : Rep C n (Nd 143 b)
  | fields (n : N) (b : Nat) (V : Nat → Nat) (vl : Value) (hk : isK n [102, 105, 101, 108, 100, 115] = true) (ht : n.text.toList.isEmpty = true) (cl : C b 1 vl) (hl : LAt C vl n.kids.length (fun i => Pt (V i))) (hr : ∀ i m, n.kids[i]? = some m → Rep C m (Nd 92 (V i))) : Rep C n (Nd 52 b)
  | field (n : N) (b : Nat) (x : N) (r : List N) (vx : Value) (V : Nat → Nat) (vl vt pt : Value) (hk : isK n [102, 105, 101, 108, 100] = true) (h0 : n.kids = x :: r) (cd : C b 0 (.pointer none)) (cl : C b 1 vl) (hl : LAt C vl r.length (fun i => Pt (V i)))
      (hr : ∀ i m, r[i]? = some m → Rep C m (Nd 55 (V i))) (ex : isE vx = true) (cx : C b 2 vx) (rx : Rep C x vx) (ct : C b 3 pt) (ot : OPt 97 vt pt) (rt : Rep C (tagN n.text) vt) (cc : C b 4 (.pointer none)) : Rep C n (Nd 92 b)
  | path (n : N) (b : Nat) (x : N) (vx px : Value) (t : Nat) (hk : isK n [112, 97, 116, 104] = true) (h0 : n.kids = [x]) (cd : C b 0 (.pointer none)) (cx : C b 1 px) (ox : OPt 55 vx px) (rx : Rep C x vx) (ct : C b 2 (Pt t)) (rt : Rep C (litN n.text) (Nd 97 t)) (cc : C b 3 (.pointer none)) : Rep C n (Nd 96 b)
  | value (n : N) (b : Nat) (x y z : N) (V : Nat → Nat) (vl vy : Value) (W : Nat → Value) (wl : Value) (hk : isK n [118, 97, 108, 117, 101] = true) (ht : n.text.toList.isEmpty = true) (h0 : n.kids = [x, y, z]) (kx : isK x [108, 105, 115, 116] = true) (tx : x.text.toList.isEmpty = true) (kz : isK z [108, 105, 115, 116] = true) (tz : z.text.toList.isEmpty = true)
      (cd : C b 0 (.pointer none)) (cl : C b 1 vl) (hl : LAt C vl x.kids.length (fun i => Pt (V i))) (hr : ∀ i m, x.kids[i]? = some m → Rep C m (Nd 55 (V i))) (ey : vy = .nilIface ∨ isE vy = true) (cy : C b 2 vy) (ry : Rep C y vy)
      (cw : C b 3 wl) (hw : LAt C wl z.kids.length W) (ew : ∀ i m, z.kids[i]? = some m → isE (W i) = true) (hz : ∀ i m, z.kids[i]? = some m → Rep C m (W i)) (cc : C b 4 (.pointer none)) : Rep C n (Nd 101 b)
  | type (n : N) (b : Nat) (x : N) (vx : Value) (s d : Nat) (hk : (isK n [116, 121, 112, 101] = true ∧ d = 0) ∨ (isK n [97, 108, 105, 97, 115] = true ∧ d = 1)) (h0 : n.kids = [x]) (cd : C b 0 (.pointer none)) (cs : C b 1 (Pt s)) (rs : Rep C (identN n.text) (Nd 55 s)) (cp : C b 2 (.pointer none)) (ca : C b 3 (.int .i64 d)) (ex : isE vx = true) (cx : C b 4 vx) (rx : Rep C x vx) (cc : C b 5 (.pointer none)) : Rep C n (Nd 110 b)
  | gen (n : N) (b : Nat) (W : Nat → Value) (wl : Value) (t d : Nat) (hk : tokOf n = some t) (hd : (n.text.toList = [] ∧ d = 0) ∨ (n.text.toList = [103, 114, 111, 117, 112] ∧ d = 1)) (cd : C b 0 (.pointer none)) (ct : C b 2 (.int .i64 t)) (cg : C b 3 (.int .i64 d)) (cw : C b 4 wl) (hw : LAt C wl n.kids.length W)
      (ew : ∀ i m, n.kids[i]? = some m → isS (W i) = true) (hz : ∀ i m, n.kids[i]? = some m → Rep C m (W i)) : Rep C n (Nd 66 b)
  | func (n : N) (b : Nat) (x y z : N) (vx px : Value) (s t : Nat) (vz pz : Value) (hk : isK n [102, 117, 110, 99] = true) (h0 : n.kids = [x, y, z]) (cd : C b 0 (.pointer none)) (cx : C b 1 px) (ox : OPt 52 vx px) (rx : Rep C x vx) (cs : C b 2 (Pt s)) (rs : Rep C (identN n.text) (Nd 55 s)) (ct : C b 3 (Pt t)) (rt : Rep C y (Nd 58 t))
      (cz : C b 4 pz) (oz : OPt 59 vz pz) (rz : Rep C z vz) : Rep C n (Nd 51 b)
  | body (n : N) (b : Nat) (hk : isK n [98, 111, 100, 121] = true) (ht : n.text.toList.isEmpty = true) (h0 : n.kids = []) (cl : C b 1 (.slice .none 0 0)) : Rep C n (Nd 59 b)

theorem Rep.imp {C C' : Nat → Nat → Value → Prop} {n : N} {v : Value} (h : Rep C n v) (m : ∀ b o u, C b o u → C' b o u) : Rep C' n v := by
  induction h with
  | none n h => exact .none n h
  | name n b hk h0 c => exact .name n b hk h0 (m _ _ _ c)
  | literal n b hk h0 c => exact .literal n b hk h0 (m _ _ _ c)
  | select n b x vx s hk h0 ex cx cs rx rs ih1 ih2 => exact .select n b x vx s hk h0 ex (m _ _ _ cx) (m _ _ _ cs) ih1 ih2
  | star n b x vx hk ht h0 ex cx rx ih => exact .star n b x vx hk ht h0 ex (m _ _ _ cx) ih
  | array n b x vx y vy hk ht h0 ex ey cx cy rx ry ih1 ih2 => exact .array n b x vx y vy hk ht h0 ex ey (m _ _ _ cx) (m _ _ _ cy) ih1 ih2
  | map n b x vx y vy hk ht h0 ex ey cx cy rx ry ih1 ih2 => exact .map n b x vx y vy hk ht h0 ex ey (m _ _ _ cx) (m _ _ _ cy) ih1 ih2
  | chan n b x vx d hk hd h0 ex cd cx rx ih => exact .chan n b x vx d hk hd h0 ex (m _ _ _ cd) (m _ _ _ cx) ih
  | signature n b x px y vy py hk ht h0 ct cx cy oy rx ry ih1 ih2 => exact .signature n b x px y vy py hk ht h0 (m _ _ _ ct) (m _ _ _ cx) (m _ _ _ cy) oy ih1 ih2
  | struct n b x px hk ht h0 cx rx ih => exact .struct n b x px hk ht h0 (m _ _ _ cx) ih
  | interface n b x px hk ht h0 cx rx ih => exact .interface n b x px hk ht h0 (m _ _ _ cx) ih
  | fields n b V vl hk ht cl hl hr ih => exact .fields n b V vl hk ht (m _ _ _ cl) (hl.map m) ih
  | field n b x r vx V vl vt pt hk h0 cd cl hl hr ex cx rx ct ot rt cc ih1 ih2 ih3 => exact .field n b x r vx V vl vt pt hk h0 (m _ _ _ cd) (m _ _ _ cl) (hl.map m) ih1 ex (m _ _ _ cx) ih2 (m _ _ _ ct) ot ih3 (m _ _ _ cc)
  | path n b x vx px t hk h0 cd cx ox rx ct rt cc ih1 ih2 => exact .path n b x vx px t hk h0 (m _ _ _ cd) (m _ _ _ cx) ox ih1 (m _ _ _ ct) ih2 (m _ _ _ cc)
  | value n b x y z V vl vy W wl hk ht h0 kx tx kz tz cd cl hl hr ey cy ry cw hw ew hz cc ih1 ih2 ih3 => exact .value n b x y z V vl vy W wl hk ht h0 kx tx kz tz (m _ _ _ cd) (m _ _ _ cl) (hl.map m) ih1 ey (m _ _ _ cy) ih2 (m _ _ _ cw) (hw.map m) ew ih3 (m _ _ _ cc)
  | type n b x vx s d hk h0 cd cs rs cp ca ex cx rx cc ih1 ih2 => exact .type n b x vx s d hk h0 (m _ _ _ cd) (m _ _ _ cs) ih1 (m _ _ _ cp) (m _ _ _ ca) ex (m _ _ _ cx) ih2 (m _ _ _ cc)
  | gen n b W wl t d hk hd cd ct cg cw hw ew hz ih => exact .gen n b W wl t d hk hd (m _ _ _ cd) (m _ _ _ ct) (m _ _ _ cg) (m _ _ _ cw) (hw.map m) ew ih
  | func n b x y z vx px s t vz pz hk h0 cd cx ox rx cs rs ct rt cz oz rz ih1 ih2 ih3 ih4 => exact .func n b x y z vx px s t vz pz hk h0 (m _ _ _ cd) (m _ _ _ cx) ox ih1 (m _ _ _ cs) ih2 (m _ _ _ ct) ih3 (m _ _ _ cz) oz ih4
  | body n b hk ht h0 cl => exact .body n b hk ht h0 (m _ _ _ cl)

/-- The cells of some blocks of a world. -/
def At (ok : Nat → Prop) (w : World) (b o : Nat) (v : Value) : Prop := ok b ∧ w.cell? ⟨b, o, none⟩ = some v
theorem Rep.step {ok ok' : Nat → Prop} {w w' : World} {n : N} {v : Value} (h : Rep (At ok w) n v) (hs : ∀ b, ok b → ok' b ∧ w'.heap[b]? = w.heap[b]?) : Rep (At ok' w') n v :=
  h.imp fun b _ _ hc => ⟨(hs b hc.1).1, (World.cell?_of_block (hs b hc.1).2).trans hc.2⟩
/-- The blocks from one on, up to another. -/
def Bt (lo hi : Nat) (b : Nat) : Prop := lo ≤ b ∧ b < hi
theorem Rep.beneath {lo lo' hi hi' B : Nat} {w w' : World} {n : N} {v : Value} (h : Rep (At (Bt lo hi) w) n v) (hb : Below B w w') (h1 : lo' ≤ lo) (h2 : hi ≤ B) (h3 : hi ≤ hi') : Rep (At (Bt lo' hi') w') n v :=
  h.step fun b hlt => ⟨⟨Nat.le_trans h1 hlt.1, Nat.lt_of_lt_of_le hlt.2 h3⟩, hb.block b (Nat.lt_of_lt_of_le hlt.2 h2)⟩
theorem Rep.wide {lo lo' hi hi' : Nat} {w : World} {n : N} {v : Value} (h : Rep (At (Bt lo hi) w) n v) (h1 : lo' ≤ lo) (h3 : hi ≤ hi') : Rep (At (Bt lo' hi') w) n v :=
  h.step fun _ hlt => ⟨⟨Nat.le_trans h1 hlt.1, Nat.lt_of_lt_of_le hlt.2 h3⟩, rfl⟩
end Go.Proofs.YtoijkbkcfbbmfaaGreatDoor

