/- What is proved here: the builder, its expressions. Conditions: each theorem names its own. -/
import Derived.Test.YtoijkbkcfbbmfaaGreatDoorMc
set_option linter.all false
set_option linter.unusedVariables false
set_option linter.unusedSimpArgs false
/- What is proved here: the builder's expressions, case by case. -/
namespace Go.Proofs.YtoijkbkcfbbmfaaGreatDoor
open Go.RowKit Go.Shelf
set_option linter.unusedSimpArgs false
set_option linter.unusedVariables false

theorem kid1B_ex {p : N → Bool} {ks : List N} (h : kid1B p ks = true) : ∃ x, ks = [x] ∧ p x = true := by
  match ks, h with
  | [x], h => exact ⟨x, rfl, h⟩
theorem kid2B_ex2 {p q : N → Bool} {ks : List N} (h : kid2B (fun x y => p x && q y) ks = true) : ∃ x y, ks = [x, y] ∧ p x = true ∧ q y = true := by
  match ks, h with
  | [x, y], h => exact ⟨x, y, rfl, by simp [kid2B] at h; exact h.1, by simp [kid2B] at h; exact h.2⟩
theorem Rep.setX {lo hi X i : Nat} {u : Value} {w : World} {n : N} {v : Value} (h : Rep (At (Bt lo hi) w) n v) (hX : X < lo ∨ hi ≤ X) : Rep (At (Bt lo hi) (w.setCell ⟨X, i, Option.none⟩ u)) n v :=
  h.step fun b hb => ⟨hb, heap_setCell_other _ _ _ _ (by have h1 := hb.1; have h2 := hb.2; simp; omega)⟩

theorem two_kids {ks : List N} (h : ks.length = 2) : ∃ x y, ks = [x, y] := by
  match ks, h with
  | [x, y], _ => exact ⟨x, y, rfl⟩
theorem leaf_name {C : Nat → Nat → Value → Prop} {n : N} {s : Nat} (hk : isK n [110, 97, 109, 101] = true) (h0 : n.kids = []) (h : Rep C (identN n.text) (Nd 55 s)) : Rep C n (Nd 55 s) := .name n s hk h0 h.ident_inv.2.2
theorem Rep.lit_inv {C : Nat → Nat → Value → Prop} {n : N} {s : Nat} (h : Rep C n (Nd 97 s)) : isK n [108, 105, 116, 101, 114, 97, 108] = true ∧ n.kids = [] ∧ C s 3 (.string n.text) := by
  cases h with
  | literal _ _ hk h0 c => exact ⟨hk, h0, c⟩
theorem leaf_literal {C : Nat → Nat → Value → Prop} {n : N} {s : Nat} (hk : isK n [108, 105, 116, 101, 114, 97, 108] = true) (h0 : n.kids = []) (h : Rep C (litN n.text) (Nd 97 s)) : Rep C n (Nd 97 s) := .literal n s hk h0 h.lit_inv.2.2

set_option maxRecDepth 100000 in
theorem expr_none (bb : Nat) (n : N) (v : Value) (w : World) (hm : missing n = true) (hk : KidsAt (· < w.heap.size) w v n.kids) : Calls Tryz.prog 58 #[Pt bb, n.val v] w fun e w' => e = .returned .nilIface ∧ Below w.heap.size w w' := by
  obtain ⟨a, cap, rfl, hcap, _⟩ := hk.shape
  have k0 : n.kind.toList = [110, 111, 110, 101] := by
    simp only [missing, isK, Bool.and_eq_true, beq_iff_eq] at hm
    exact hm.1.1
  clear hm hk
  unfold N.val
  go_enter Tryz.func58, Tryz.ntmps58
  go_wp2_with fail
  go_ret
  exact ⟨rfl, (Below.refl _ _).alloc (Nat.le_refl _) _⟩

set_option maxHeartbeats 4000000 in
set_option maxRecDepth 100000 in
theorem e_b_star (f : Nat) (hE : BE f) (hS : BS f) (n : N) (v : Value) (bb : Nat) (w : World) (hn : n.size ≤ 400) (hkd : n.kind.toList = [115, 116, 97, 114]) (hsh : shE (f + 1) n = true) (hk : KidsAt (· < w.heap.size) w v n.kids) (hB : Bd w bb) :
    Calls Tryz.prog 58 #[Pt bb, n.val v] w fun e w' => ∃ r, e = .returned r ∧ isE r = true ∧ Made w w' n r := by
  have hkb : isK n [115, 116, 97, 114] = true := by simp [isK, hkd]
  have hq : n.text.toList.isEmpty = true ∧ kid1B (fun x => shE f x) n.kids = true := by
    simpa [shE, isK, hkd] using hsh
  obtain ⟨htx, hq⟩ := hq
  obtain ⟨x, hx, hsx⟩ := kid1B_ex hq
  have hxs : x.size ≤ 400 := by have := N.size_kid (m := n) (n := x) (i := 0) (by rw [hx]; rfl); omega
  clear hq hsh
  have HX := Lib.hid hx
  have HTX := Lib.hid htx
  have HSX := Lib.hid hsx
  have HKB := Lib.hid hkb
  clear hx hsx hkb htx
  have HE := Lib.hid hE
  have HS := Lib.hid hS
  clear hE hS
  obtain ⟨a, cap, rfl, hcap, hel⟩ := hk.shape
  have hlen := N.len_lt n
  have HK := Lib.hid hk
  have HBd := Lib.hid hB
  have HW0 := Lib.hid ((Below.refl w.heap.size w).alloc (Nat.le_refl _) (Obj.cells #[Value.string n.kind, Value.string n.text, Value.slice a n.kids.length cap] 24))
  have BN0 : Hid (Blk (w.alloc (Obj.cells #[Value.string n.kind, Value.string n.text, Value.slice a n.kids.length cap] 24)) w.heap.size 24 #[Value.string n.kind, Value.string n.text, Value.slice a n.kids.length cap]) := Lib.hid (Blk.new w _ 24)
  have hs0 : ((w.alloc (Obj.cells #[Value.string n.kind, Value.string n.text, Value.slice a n.kids.length cap] 24))).heap.size = w.heap.size + 1 := by simp
  have HS0 := Lib.hid hs0
  clear hk hB hel hs0
  unfold N.val
  go_enter Tryz.func58, Tryz.ntmps58
  go_wp2_with fail
  refine (next_any bb _ (HBd.out.later HW0.out)).mono ?_
  rintro e1q wq1 ⟨rfl, hq1⟩
  subst hq1
  go_wp2_with fail
  have sx2 : (((w.alloc (Obj.cells #[Value.string n.kind, Value.string n.text, Value.slice a n.kids.length cap] 24)).alloc (Obj.cells #[Value.int .i64 1, Value.nilIface] 128))).heap.size = ((w.alloc (Obj.cells #[Value.string n.kind, Value.string n.text, Value.slice a n.kids.length cap] 24))).heap.size + 1 := by simp only [World.size_alloc]
  have HW2 := Lib.hid (HW0.out.alloc (by (try simp only [World.size_setCell, World.size_alloc]); omega) (Obj.cells #[Value.int .i64 1, Value.nilIface] 128))
  have BN2 := Lib.hid (BN0.out.later ((Below.refl ((w.alloc (Obj.cells #[Value.string n.kind, Value.string n.text, Value.slice a n.kids.length cap] 24))).heap.size (w.alloc (Obj.cells #[Value.string n.kind, Value.string n.text, Value.slice a n.kids.length cap] 24))).alloc (Nat.le_refl _) (Obj.cells #[Value.int .i64 1, Value.nilIface] 128)) (by (try simp only [World.size_setCell, World.size_alloc]); omega))
  have BX2 := Lib.hid (Blk.new (w.alloc (Obj.cells #[Value.string n.kind, Value.string n.text, Value.slice a n.kids.length cap] 24)) #[Value.int .i64 1, Value.nilIface] 128)
  clear HW0 BN0
  try simp only [World.size_setCell, World.size_alloc] at BX2 sx2
  have e02 := BN2.out.cell 0 _ rfl
  have e12 := BN2.out.cell 1 _ rfl
  have e22 := BN2.out.cell 2 _ rfl
  refine (kid_any n _ 0 x _ (HK.out.later HW2.out) (by rw [HX.out]; rfl)).mono ?_
  rintro ek3 wk3 ⟨vk3, rfl, hb3, hk3⟩
  have HK3 := Lib.hid hk3
  clear hk3
  have sz4 := hb3.size
  try simp only [World.size_setCell, World.size_alloc] at sz4
  have HW4 := Lib.hid (HW2.out.trans (hb3.mono (by (try simp only [World.size_setCell, World.size_alloc]); omega)))
  have BN4 := Lib.hid (BN2.out.later hb3 (by (try simp only [World.size_setCell, World.size_alloc]); omega))
  have BX4 := Lib.hid (BX2.out.later hb3 (by (try simp only [World.size_setCell, World.size_alloc]); omega))
  clear HW2 BN2 BX2 e02 e12 e22
  clear hb3
  go_wp2_with fail
  refine (HE.out x vk3 bb _ hxs HSX.out HK3.out (HBd.out.later HW4.out)).mono ?_
  rintro ec5 wc5 ⟨rx, rfl, hex, hb5, hr5⟩
  have szz5 := hb5.size
  try simp only [World.size_setCell, World.size_alloc] at szz5
  have sz6 := hb5.size
  try simp only [World.size_setCell, World.size_alloc] at sz6
  have HW6 := Lib.hid (HW4.out.trans (hb5.mono (by (try simp only [World.size_setCell, World.size_alloc]); omega)))
  have BN6 := Lib.hid (BN4.out.later hb5 (by (try simp only [World.size_setCell, World.size_alloc]); omega))
  have BX6 := Lib.hid (BX4.out.later hb5 (by (try simp only [World.size_setCell, World.size_alloc]); omega))
  clear HW4 BN4 BX4
  try simp only [World.size_setCell, World.size_alloc] at hr5
  have Rx6 := Lib.hid hr5
  clear hb5 hr5
  obtain ⟨tx, px, rfl⟩ := isE_form hex Rx6.out
  have x16c := BX6.out.cell 1 _ rfl
  have x16f := BX6.out.frozen 1
  have x16l := BX6.out.lt
  have e06 := BN6.out.cell 0 _ rfl
  have e16 := BN6.out.cell 1 _ rfl
  have e26 := BN6.out.cell 2 _ rfl
  have sb7 := BX6.out.lt
  have HW7 := Lib.hid (HW6.out.setCell (p := ⟨(w.heap.size + 1), 1, none⟩) (by show w.heap.size ≤ (w.heap.size + 1); omega) (.iface tx (Pt px)))
  have BN7 := Lib.hid (BN6.out.other ((w.heap.size + 1)) 1 (.iface tx (Pt px)) (by omega))
  have BX7 := Lib.hid (BX6.out.set 1 (.iface tx (Pt px)))
  have Rx7 := Lib.hid (Rx6.out.setX (X := (w.heap.size + 1)) (i := 1) (u := (.iface tx (Pt px))) (by omega))
  clear HW6 BN6 BX6 Rx6
  go_wp2_with fail
  go_ret
  exact ⟨_, rfl, rfl, HW7.out, .star n _ x _ HKB.out HTX.out HX.out hex ⟨⟨by show w.heap.size ≤ w.heap.size + 1; omega, BX7.out.lt⟩, BX7.out.cell 1 _ rfl⟩ (Rx7.out.wide (by omega) (by (try simp only [World.size_setCell]); omega))⟩

set_option maxHeartbeats 4000000 in
set_option maxRecDepth 100000 in
theorem e_b_array (f : Nat) (hE : BE f) (hS : BS f) (n : N) (v : Value) (bb : Nat) (w : World) (hn : n.size ≤ 400) (hkd : n.kind.toList = [97, 114, 114, 97, 121]) (hsh : shE (f + 1) n = true) (hk : KidsAt (· < w.heap.size) w v n.kids) (hB : Bd w bb) :
    Calls Tryz.prog 58 #[Pt bb, n.val v] w fun e w' => ∃ r, e = .returned r ∧ isE r = true ∧ Made w w' n r := by
  have hkb : isK n [97, 114, 114, 97, 121] = true := by simp [isK, hkd]
  have hq : n.text.toList.isEmpty = true ∧ kid2B (fun x y => orB (shE f) x && shE f y) n.kids = true := by
    simpa [shE, isK, hkd] using hsh
  obtain ⟨htx, hq⟩ := hq
  obtain ⟨x, y, hx, hsx, hsy⟩ := kid2B_ex2 hq
  have hxs : x.size ≤ 400 := by have := N.size_kid (m := n) (n := x) (i := 0) (by rw [hx]; rfl); omega
  have hys : y.size ≤ 400 := by have := N.size_kid (m := n) (n := y) (i := 1) (by rw [hx]; rfl); omega
  clear hq hsh
  have HX := Lib.hid hx
  have HTX := Lib.hid htx
  have HSX := Lib.hid hsx
  have HSY := Lib.hid hsy
  have HKB := Lib.hid hkb
  clear hx hsx hsy hkb htx
  have HE := Lib.hid hE
  have HS := Lib.hid hS
  clear hE hS
  cases hmx : missing x with
  | true =>
    obtain ⟨a, cap, rfl, hcap, hel⟩ := hk.shape
    have hlen := N.len_lt n
    have HK := Lib.hid hk
    have HBd := Lib.hid hB
    have HW0 := Lib.hid ((Below.refl w.heap.size w).alloc (Nat.le_refl _) (Obj.cells #[Value.string n.kind, Value.string n.text, Value.slice a n.kids.length cap] 24))
    have BN0 : Hid (Blk (w.alloc (Obj.cells #[Value.string n.kind, Value.string n.text, Value.slice a n.kids.length cap] 24)) w.heap.size 24 #[Value.string n.kind, Value.string n.text, Value.slice a n.kids.length cap]) := Lib.hid (Blk.new w _ 24)
    have hs0 : ((w.alloc (Obj.cells #[Value.string n.kind, Value.string n.text, Value.slice a n.kids.length cap] 24))).heap.size = w.heap.size + 1 := by simp
    have HS0 := Lib.hid hs0
    clear hk hB hel hs0
    unfold N.val
    go_enter Tryz.func58, Tryz.ntmps58
    go_wp2_with fail
    refine (next_any bb _ (HBd.out.later HW0.out)).mono ?_
    rintro e1q wq1 ⟨rfl, hq1⟩
    subst hq1
    go_wp2_with fail
    have sx2 : (((w.alloc (Obj.cells #[Value.string n.kind, Value.string n.text, Value.slice a n.kids.length cap] 24)).alloc (Obj.cells #[Value.int .i64 1, Value.nilIface, Value.nilIface] 131))).heap.size = ((w.alloc (Obj.cells #[Value.string n.kind, Value.string n.text, Value.slice a n.kids.length cap] 24))).heap.size + 1 := by simp only [World.size_alloc]
    have HW2 := Lib.hid (HW0.out.alloc (by (try simp only [World.size_setCell, World.size_alloc]); omega) (Obj.cells #[Value.int .i64 1, Value.nilIface, Value.nilIface] 131))
    have BN2 := Lib.hid (BN0.out.later ((Below.refl ((w.alloc (Obj.cells #[Value.string n.kind, Value.string n.text, Value.slice a n.kids.length cap] 24))).heap.size (w.alloc (Obj.cells #[Value.string n.kind, Value.string n.text, Value.slice a n.kids.length cap] 24))).alloc (Nat.le_refl _) (Obj.cells #[Value.int .i64 1, Value.nilIface, Value.nilIface] 131)) (by (try simp only [World.size_setCell, World.size_alloc]); omega))
    have BX2 := Lib.hid (Blk.new (w.alloc (Obj.cells #[Value.string n.kind, Value.string n.text, Value.slice a n.kids.length cap] 24)) #[Value.int .i64 1, Value.nilIface, Value.nilIface] 131)
    clear HW0 BN0
    try simp only [World.size_setCell, World.size_alloc] at BX2 sx2
    have e02 := BN2.out.cell 0 _ rfl
    have e12 := BN2.out.cell 1 _ rfl
    have e22 := BN2.out.cell 2 _ rfl
    refine (kid_any n _ 0 x _ (HK.out.later HW2.out) (by rw [HX.out]; rfl)).mono ?_
    rintro ek3 wk3 ⟨vk3, rfl, hb3, hk3⟩
    have HK3 := Lib.hid hk3
    clear hk3
    have sz4 := hb3.size
    try simp only [World.size_setCell, World.size_alloc] at sz4
    have HW4 := Lib.hid (HW2.out.trans (hb3.mono (by (try simp only [World.size_setCell, World.size_alloc]); omega)))
    have BN4 := Lib.hid (BN2.out.later hb3 (by (try simp only [World.size_setCell, World.size_alloc]); omega))
    have BX4 := Lib.hid (BX2.out.later hb3 (by (try simp only [World.size_setCell, World.size_alloc]); omega))
    clear HW2 BN2 BX2 e02 e12 e22
    clear hb3
    go_wp2_with fail
    refine (expr_none bb x vk3 _ hmx HK3.out).mono ?_
    rintro e5n wc5 ⟨rfl, hb5⟩
    have sz6 := hb5.size
    try simp only [World.size_setCell, World.size_alloc] at sz6
    have HW6 := Lib.hid (HW4.out.trans (hb5.mono (by (try simp only [World.size_setCell, World.size_alloc]); omega)))
    have BN6 := Lib.hid (BN4.out.later hb5 (by (try simp only [World.size_setCell, World.size_alloc]); omega))
    have BX6 := Lib.hid (BX4.out.later hb5 (by (try simp only [World.size_setCell, World.size_alloc]); omega))
    clear HW4 BN4 BX4
    clear hb5
    have x16c := BX6.out.cell 1 _ rfl
    have x16f := BX6.out.frozen 1
    have x16l := BX6.out.lt
    have e06 := BN6.out.cell 0 _ rfl
    have e16 := BN6.out.cell 1 _ rfl
    have e26 := BN6.out.cell 2 _ rfl
    have sb7 := BX6.out.lt
    have HW7 := Lib.hid (HW6.out.setCell (p := ⟨(w.heap.size + 1), 1, none⟩) (by show w.heap.size ≤ (w.heap.size + 1); omega) Value.nilIface)
    have BN7 := Lib.hid (BN6.out.other ((w.heap.size + 1)) 1 Value.nilIface (by omega))
    have BX7 := Lib.hid (BX6.out.set 1 Value.nilIface)
    clear HW6 BN6 BX6
    go_wp2_with fail
    refine (next_any bb _ (HBd.out.later HW7.out)).mono ?_
    rintro e8q wq8 ⟨rfl, hq8⟩
    subst hq8
    have e07 := BN7.out.cell 0 _ rfl
    have e17 := BN7.out.cell 1 _ rfl
    have e27 := BN7.out.cell 2 _ rfl
    go_wp2_with fail
    refine (kid_any n _ 1 y _ (HK.out.later HW7.out) (by rw [HX.out]; rfl)).mono ?_
    rintro ek9 wk9 ⟨vk9, rfl, hb9, hk9⟩
    have HK9 := Lib.hid hk9
    clear hk9
    have sz10 := hb9.size
    try simp only [World.size_setCell, World.size_alloc] at sz10
    have HW10 := Lib.hid (HW7.out.trans (hb9.mono (by (try simp only [World.size_setCell, World.size_alloc]); omega)))
    have BN10 := Lib.hid (BN7.out.later hb9 (by (try simp only [World.size_setCell, World.size_alloc]); omega))
    have BX10 := Lib.hid (BX7.out.later hb9 (by (try simp only [World.size_setCell, World.size_alloc]); omega))
    clear HW7 BN7 BX7 x16c x16f x16l e06 e16 e26 e07 e17 e27
    clear hb9
    go_wp2_with fail
    refine (HE.out y vk9 bb _ hys HSY.out HK9.out (HBd.out.later HW10.out)).mono ?_
    rintro ec11 wc11 ⟨ry, rfl, hexy, hb11, hr11⟩
    have szz11 := hb11.size
    try simp only [World.size_setCell, World.size_alloc] at szz11
    have sz12 := hb11.size
    try simp only [World.size_setCell, World.size_alloc] at sz12
    have HW12 := Lib.hid (HW10.out.trans (hb11.mono (by (try simp only [World.size_setCell, World.size_alloc]); omega)))
    have BN12 := Lib.hid (BN10.out.later hb11 (by (try simp only [World.size_setCell, World.size_alloc]); omega))
    have BX12 := Lib.hid (BX10.out.later hb11 (by (try simp only [World.size_setCell, World.size_alloc]); omega))
    clear HW10 BN10 BX10
    try simp only [World.size_setCell, World.size_alloc] at hr11
    have Ry12 := Lib.hid hr11
    clear hb11 hr11
    obtain ⟨ty, py, rfl⟩ := isE_form hexy Ry12.out
    have x212c := BX12.out.cell 2 _ rfl
    have x212f := BX12.out.frozen 2
    have x212l := BX12.out.lt
    have e012 := BN12.out.cell 0 _ rfl
    have e112 := BN12.out.cell 1 _ rfl
    have e212 := BN12.out.cell 2 _ rfl
    have sb13 := BX12.out.lt
    have HW13 := Lib.hid (HW12.out.setCell (p := ⟨(w.heap.size + 1), 2, none⟩) (by show w.heap.size ≤ (w.heap.size + 1); omega) (.iface ty (Pt py)))
    have BN13 := Lib.hid (BN12.out.other ((w.heap.size + 1)) 2 (.iface ty (Pt py)) (by omega))
    have BX13 := Lib.hid (BX12.out.set 2 (.iface ty (Pt py)))
    have Ry13 := Lib.hid (Ry12.out.setX (X := (w.heap.size + 1)) (i := 2) (u := (.iface ty (Pt py))) (by omega))
    clear HW12 BN12 BX12 Ry12
    go_wp2_with fail
    go_ret
    exact ⟨_, rfl, rfl, HW13.out, .array n _ x _ y _ HKB.out HTX.out HX.out (.inl rfl) hexy ⟨⟨by show w.heap.size ≤ w.heap.size + 1; omega, BX13.out.lt⟩, BX13.out.cell 1 _ rfl⟩ ⟨⟨by show w.heap.size ≤ w.heap.size + 1; omega, BX13.out.lt⟩, BX13.out.cell 2 _ rfl⟩ (.none x hmx) (Ry13.out.wide (by omega) (by (try simp only [World.size_setCell]); omega))⟩
  | false =>
    have hsx2 : shE f x = true := by have h := HSX.out; simpa [orB, hmx] using h
    have HSX := Lib.hid hsx2
    clear hsx2 hmx
    obtain ⟨a, cap, rfl, hcap, hel⟩ := hk.shape
    have hlen := N.len_lt n
    have HK := Lib.hid hk
    have HBd := Lib.hid hB
    have HW0 := Lib.hid ((Below.refl w.heap.size w).alloc (Nat.le_refl _) (Obj.cells #[Value.string n.kind, Value.string n.text, Value.slice a n.kids.length cap] 24))
    have BN0 : Hid (Blk (w.alloc (Obj.cells #[Value.string n.kind, Value.string n.text, Value.slice a n.kids.length cap] 24)) w.heap.size 24 #[Value.string n.kind, Value.string n.text, Value.slice a n.kids.length cap]) := Lib.hid (Blk.new w _ 24)
    have hs0 : ((w.alloc (Obj.cells #[Value.string n.kind, Value.string n.text, Value.slice a n.kids.length cap] 24))).heap.size = w.heap.size + 1 := by simp
    have HS0 := Lib.hid hs0
    clear hk hB hel hs0
    unfold N.val
    go_enter Tryz.func58, Tryz.ntmps58
    go_wp2_with fail
    refine (next_any bb _ (HBd.out.later HW0.out)).mono ?_
    rintro e1q wq1 ⟨rfl, hq1⟩
    subst hq1
    go_wp2_with fail
    have sx2 : (((w.alloc (Obj.cells #[Value.string n.kind, Value.string n.text, Value.slice a n.kids.length cap] 24)).alloc (Obj.cells #[Value.int .i64 1, Value.nilIface, Value.nilIface] 131))).heap.size = ((w.alloc (Obj.cells #[Value.string n.kind, Value.string n.text, Value.slice a n.kids.length cap] 24))).heap.size + 1 := by simp only [World.size_alloc]
    have HW2 := Lib.hid (HW0.out.alloc (by (try simp only [World.size_setCell, World.size_alloc]); omega) (Obj.cells #[Value.int .i64 1, Value.nilIface, Value.nilIface] 131))
    have BN2 := Lib.hid (BN0.out.later ((Below.refl ((w.alloc (Obj.cells #[Value.string n.kind, Value.string n.text, Value.slice a n.kids.length cap] 24))).heap.size (w.alloc (Obj.cells #[Value.string n.kind, Value.string n.text, Value.slice a n.kids.length cap] 24))).alloc (Nat.le_refl _) (Obj.cells #[Value.int .i64 1, Value.nilIface, Value.nilIface] 131)) (by (try simp only [World.size_setCell, World.size_alloc]); omega))
    have BX2 := Lib.hid (Blk.new (w.alloc (Obj.cells #[Value.string n.kind, Value.string n.text, Value.slice a n.kids.length cap] 24)) #[Value.int .i64 1, Value.nilIface, Value.nilIface] 131)
    clear HW0 BN0
    try simp only [World.size_setCell, World.size_alloc] at BX2 sx2
    have e02 := BN2.out.cell 0 _ rfl
    have e12 := BN2.out.cell 1 _ rfl
    have e22 := BN2.out.cell 2 _ rfl
    refine (kid_any n _ 0 x _ (HK.out.later HW2.out) (by rw [HX.out]; rfl)).mono ?_
    rintro ek3 wk3 ⟨vk3, rfl, hb3, hk3⟩
    have HK3 := Lib.hid hk3
    clear hk3
    have sz4 := hb3.size
    try simp only [World.size_setCell, World.size_alloc] at sz4
    have HW4 := Lib.hid (HW2.out.trans (hb3.mono (by (try simp only [World.size_setCell, World.size_alloc]); omega)))
    have BN4 := Lib.hid (BN2.out.later hb3 (by (try simp only [World.size_setCell, World.size_alloc]); omega))
    have BX4 := Lib.hid (BX2.out.later hb3 (by (try simp only [World.size_setCell, World.size_alloc]); omega))
    clear HW2 BN2 BX2 e02 e12 e22
    clear hb3
    go_wp2_with fail
    refine (HE.out x vk3 bb _ hxs HSX.out HK3.out (HBd.out.later HW4.out)).mono ?_
    rintro ec5 wc5 ⟨rx, rfl, hexx, hb5, hr5⟩
    have szz5 := hb5.size
    try simp only [World.size_setCell, World.size_alloc] at szz5
    have sz6 := hb5.size
    try simp only [World.size_setCell, World.size_alloc] at sz6
    have HW6 := Lib.hid (HW4.out.trans (hb5.mono (by (try simp only [World.size_setCell, World.size_alloc]); omega)))
    have BN6 := Lib.hid (BN4.out.later hb5 (by (try simp only [World.size_setCell, World.size_alloc]); omega))
    have BX6 := Lib.hid (BX4.out.later hb5 (by (try simp only [World.size_setCell, World.size_alloc]); omega))
    clear HW4 BN4 BX4
    try simp only [World.size_setCell, World.size_alloc] at hr5
    have Rx6 := Lib.hid hr5
    clear hb5 hr5
    obtain ⟨tx, px, rfl⟩ := isE_form hexx Rx6.out
    have x16c := BX6.out.cell 1 _ rfl
    have x16f := BX6.out.frozen 1
    have x16l := BX6.out.lt
    have e06 := BN6.out.cell 0 _ rfl
    have e16 := BN6.out.cell 1 _ rfl
    have e26 := BN6.out.cell 2 _ rfl
    have sb7 := BX6.out.lt
    have HW7 := Lib.hid (HW6.out.setCell (p := ⟨(w.heap.size + 1), 1, none⟩) (by show w.heap.size ≤ (w.heap.size + 1); omega) (.iface tx (Pt px)))
    have BN7 := Lib.hid (BN6.out.other ((w.heap.size + 1)) 1 (.iface tx (Pt px)) (by omega))
    have BX7 := Lib.hid (BX6.out.set 1 (.iface tx (Pt px)))
    have Rx7 := Lib.hid (Rx6.out.setX (X := (w.heap.size + 1)) (i := 1) (u := (.iface tx (Pt px))) (by omega))
    clear HW6 BN6 BX6 Rx6
    go_wp2_with fail
    refine (next_any bb _ (HBd.out.later HW7.out)).mono ?_
    rintro e8q wq8 ⟨rfl, hq8⟩
    subst hq8
    have e07 := BN7.out.cell 0 _ rfl
    have e17 := BN7.out.cell 1 _ rfl
    have e27 := BN7.out.cell 2 _ rfl
    go_wp2_with fail
    refine (kid_any n _ 1 y _ (HK.out.later HW7.out) (by rw [HX.out]; rfl)).mono ?_
    rintro ek9 wk9 ⟨vk9, rfl, hb9, hk9⟩
    have HK9 := Lib.hid hk9
    clear hk9
    have sz10 := hb9.size
    try simp only [World.size_setCell, World.size_alloc] at sz10
    have HW10 := Lib.hid (HW7.out.trans (hb9.mono (by (try simp only [World.size_setCell, World.size_alloc]); omega)))
    have BN10 := Lib.hid (BN7.out.later hb9 (by (try simp only [World.size_setCell, World.size_alloc]); omega))
    have BX10 := Lib.hid (BX7.out.later hb9 (by (try simp only [World.size_setCell, World.size_alloc]); omega))
    have Rx10 := Lib.hid (Rx7.out.beneath hb9 (Nat.le_refl _) (by (try simp only [World.size_setCell, World.size_alloc]); omega) (Nat.le_refl _))
    clear HW7 BN7 BX7 Rx7 x16c x16f x16l e06 e16 e26 e07 e17 e27
    clear hb9
    go_wp2_with fail
    refine (HE.out y vk9 bb _ hys HSY.out HK9.out (HBd.out.later HW10.out)).mono ?_
    rintro ec11 wc11 ⟨ry, rfl, hexy, hb11, hr11⟩
    have szz11 := hb11.size
    try simp only [World.size_setCell, World.size_alloc] at szz11
    have sz12 := hb11.size
    try simp only [World.size_setCell, World.size_alloc] at sz12
    have HW12 := Lib.hid (HW10.out.trans (hb11.mono (by (try simp only [World.size_setCell, World.size_alloc]); omega)))
    have BN12 := Lib.hid (BN10.out.later hb11 (by (try simp only [World.size_setCell, World.size_alloc]); omega))
    have BX12 := Lib.hid (BX10.out.later hb11 (by (try simp only [World.size_setCell, World.size_alloc]); omega))
    have Rx12 := Lib.hid (Rx10.out.beneath hb11 (Nat.le_refl _) (by (try simp only [World.size_setCell, World.size_alloc]); omega) (Nat.le_refl _))
    clear HW10 BN10 BX10 Rx10
    try simp only [World.size_setCell, World.size_alloc] at hr11
    have Ry12 := Lib.hid hr11
    clear hb11 hr11
    obtain ⟨ty, py, rfl⟩ := isE_form hexy Ry12.out
    have x212c := BX12.out.cell 2 _ rfl
    have x212f := BX12.out.frozen 2
    have x212l := BX12.out.lt
    have e012 := BN12.out.cell 0 _ rfl
    have e112 := BN12.out.cell 1 _ rfl
    have e212 := BN12.out.cell 2 _ rfl
    have sb13 := BX12.out.lt
    have HW13 := Lib.hid (HW12.out.setCell (p := ⟨(w.heap.size + 1), 2, none⟩) (by show w.heap.size ≤ (w.heap.size + 1); omega) (.iface ty (Pt py)))
    have BN13 := Lib.hid (BN12.out.other ((w.heap.size + 1)) 2 (.iface ty (Pt py)) (by omega))
    have BX13 := Lib.hid (BX12.out.set 2 (.iface ty (Pt py)))
    have Rx13 := Lib.hid (Rx12.out.setX (X := (w.heap.size + 1)) (i := 2) (u := (.iface ty (Pt py))) (by omega))
    have Ry13 := Lib.hid (Ry12.out.setX (X := (w.heap.size + 1)) (i := 2) (u := (.iface ty (Pt py))) (by omega))
    clear HW12 BN12 BX12 Rx12 Ry12
    go_wp2_with fail
    go_ret
    exact ⟨_, rfl, rfl, HW13.out, .array n _ x _ y _ HKB.out HTX.out HX.out (.inr hexx) hexy ⟨⟨by show w.heap.size ≤ w.heap.size + 1; omega, BX13.out.lt⟩, BX13.out.cell 1 _ rfl⟩ ⟨⟨by show w.heap.size ≤ w.heap.size + 1; omega, BX13.out.lt⟩, BX13.out.cell 2 _ rfl⟩ (Rx13.out.wide (by omega) (by (try simp only [World.size_setCell]); omega)) (Ry13.out.wide (by omega) (by (try simp only [World.size_setCell]); omega))⟩

set_option maxHeartbeats 4000000 in
set_option maxRecDepth 100000 in
theorem e_b_map (f : Nat) (hE : BE f) (hS : BS f) (n : N) (v : Value) (bb : Nat) (w : World) (hn : n.size ≤ 400) (hkd : n.kind.toList = [109, 97, 112]) (hsh : shE (f + 1) n = true) (hk : KidsAt (· < w.heap.size) w v n.kids) (hB : Bd w bb) :
    Calls Tryz.prog 58 #[Pt bb, n.val v] w fun e w' => ∃ r, e = .returned r ∧ isE r = true ∧ Made w w' n r := by
  have hkb : isK n [109, 97, 112] = true := by simp [isK, hkd]
  have hq : n.text.toList.isEmpty = true ∧ kid2B (fun x y => shE f x && shE f y) n.kids = true := by
    have h : n.text.toList.isEmpty = true ∧ (n.kids.length = 2 ∧ ∀ x ∈ n.kids, shE f x = true) := by
      simpa [shE, isK, hkd] using hsh
    refine ⟨h.1, ?_⟩
    obtain ⟨x, y, hxy⟩ := two_kids h.2.1
    rw [hxy] at h ⊢
    simp only [kid2B, Bool.and_eq_true]
    exact ⟨h.2.2 x (by simp), h.2.2 y (by simp)⟩
  obtain ⟨htx, hq⟩ := hq
  obtain ⟨x, y, hx, hsx, hsy⟩ := kid2B_ex2 hq
  have hxs : x.size ≤ 400 := by have := N.size_kid (m := n) (n := x) (i := 0) (by rw [hx]; rfl); omega
  have hys : y.size ≤ 400 := by have := N.size_kid (m := n) (n := y) (i := 1) (by rw [hx]; rfl); omega
  clear hq hsh
  have HX := Lib.hid hx
  have HTX := Lib.hid htx
  have HSX := Lib.hid hsx
  have HSY := Lib.hid hsy
  have HKB := Lib.hid hkb
  clear hx hsx hsy hkb htx
  have HE := Lib.hid hE
  have HS := Lib.hid hS
  clear hE hS
  obtain ⟨a, cap, rfl, hcap, hel⟩ := hk.shape
  have hlen := N.len_lt n
  have HK := Lib.hid hk
  have HBd := Lib.hid hB
  have HW0 := Lib.hid ((Below.refl w.heap.size w).alloc (Nat.le_refl _) (Obj.cells #[Value.string n.kind, Value.string n.text, Value.slice a n.kids.length cap] 24))
  have BN0 : Hid (Blk (w.alloc (Obj.cells #[Value.string n.kind, Value.string n.text, Value.slice a n.kids.length cap] 24)) w.heap.size 24 #[Value.string n.kind, Value.string n.text, Value.slice a n.kids.length cap]) := Lib.hid (Blk.new w _ 24)
  have hs0 : ((w.alloc (Obj.cells #[Value.string n.kind, Value.string n.text, Value.slice a n.kids.length cap] 24))).heap.size = w.heap.size + 1 := by simp
  have HS0 := Lib.hid hs0
  clear hk hB hel hs0
  unfold N.val
  go_enter Tryz.func58, Tryz.ntmps58
  go_wp2_with fail
  refine (next_any bb _ (HBd.out.later HW0.out)).mono ?_
  rintro e1q wq1 ⟨rfl, hq1⟩
  subst hq1
  go_wp2_with fail
  have sx2 : (((w.alloc (Obj.cells #[Value.string n.kind, Value.string n.text, Value.slice a n.kids.length cap] 24)).alloc (Obj.cells #[Value.int .i64 1, Value.nilIface, Value.nilIface] 134))).heap.size = ((w.alloc (Obj.cells #[Value.string n.kind, Value.string n.text, Value.slice a n.kids.length cap] 24))).heap.size + 1 := by simp only [World.size_alloc]
  have HW2 := Lib.hid (HW0.out.alloc (by (try simp only [World.size_setCell, World.size_alloc]); omega) (Obj.cells #[Value.int .i64 1, Value.nilIface, Value.nilIface] 134))
  have BN2 := Lib.hid (BN0.out.later ((Below.refl ((w.alloc (Obj.cells #[Value.string n.kind, Value.string n.text, Value.slice a n.kids.length cap] 24))).heap.size (w.alloc (Obj.cells #[Value.string n.kind, Value.string n.text, Value.slice a n.kids.length cap] 24))).alloc (Nat.le_refl _) (Obj.cells #[Value.int .i64 1, Value.nilIface, Value.nilIface] 134)) (by (try simp only [World.size_setCell, World.size_alloc]); omega))
  have BX2 := Lib.hid (Blk.new (w.alloc (Obj.cells #[Value.string n.kind, Value.string n.text, Value.slice a n.kids.length cap] 24)) #[Value.int .i64 1, Value.nilIface, Value.nilIface] 134)
  clear HW0 BN0
  try simp only [World.size_setCell, World.size_alloc] at BX2 sx2
  refine (next_any bb _ (HBd.out.later HW2.out)).mono ?_
  rintro e3q wq3 ⟨rfl, hq3⟩
  subst hq3
  have e02 := BN2.out.cell 0 _ rfl
  have e12 := BN2.out.cell 1 _ rfl
  have e22 := BN2.out.cell 2 _ rfl
  go_wp2_with fail
  refine (kid_any n _ 0 x _ (HK.out.later HW2.out) (by rw [HX.out]; rfl)).mono ?_
  rintro ek4 wk4 ⟨vk4, rfl, hb4, hk4⟩
  have HK4 := Lib.hid hk4
  clear hk4
  have sz5 := hb4.size
  try simp only [World.size_setCell, World.size_alloc] at sz5
  have HW5 := Lib.hid (HW2.out.trans (hb4.mono (by (try simp only [World.size_setCell, World.size_alloc]); omega)))
  have BN5 := Lib.hid (BN2.out.later hb4 (by (try simp only [World.size_setCell, World.size_alloc]); omega))
  have BX5 := Lib.hid (BX2.out.later hb4 (by (try simp only [World.size_setCell, World.size_alloc]); omega))
  clear HW2 BN2 BX2 e02 e12 e22
  clear hb4
  go_wp2_with fail
  refine (HE.out x vk4 bb _ hxs HSX.out HK4.out (HBd.out.later HW5.out)).mono ?_
  rintro ec6 wc6 ⟨rx, rfl, hexx, hb6, hr6⟩
  have szz6 := hb6.size
  try simp only [World.size_setCell, World.size_alloc] at szz6
  have sz7 := hb6.size
  try simp only [World.size_setCell, World.size_alloc] at sz7
  have HW7 := Lib.hid (HW5.out.trans (hb6.mono (by (try simp only [World.size_setCell, World.size_alloc]); omega)))
  have BN7 := Lib.hid (BN5.out.later hb6 (by (try simp only [World.size_setCell, World.size_alloc]); omega))
  have BX7 := Lib.hid (BX5.out.later hb6 (by (try simp only [World.size_setCell, World.size_alloc]); omega))
  clear HW5 BN5 BX5
  try simp only [World.size_setCell, World.size_alloc] at hr6
  have Rx7 := Lib.hid hr6
  clear hb6 hr6
  obtain ⟨tx, px, rfl⟩ := isE_form hexx Rx7.out
  have x17c := BX7.out.cell 1 _ rfl
  have x17f := BX7.out.frozen 1
  have x17l := BX7.out.lt
  have e07 := BN7.out.cell 0 _ rfl
  have e17 := BN7.out.cell 1 _ rfl
  have e27 := BN7.out.cell 2 _ rfl
  have sb8 := BX7.out.lt
  have HW8 := Lib.hid (HW7.out.setCell (p := ⟨(w.heap.size + 1), 1, none⟩) (by show w.heap.size ≤ (w.heap.size + 1); omega) (.iface tx (Pt px)))
  have BN8 := Lib.hid (BN7.out.other ((w.heap.size + 1)) 1 (.iface tx (Pt px)) (by omega))
  have BX8 := Lib.hid (BX7.out.set 1 (.iface tx (Pt px)))
  have Rx8 := Lib.hid (Rx7.out.setX (X := (w.heap.size + 1)) (i := 1) (u := (.iface tx (Pt px))) (by omega))
  clear HW7 BN7 BX7 Rx7
  go_wp2_with fail
  refine (next_any bb _ (HBd.out.later HW8.out)).mono ?_
  rintro e9q wq9 ⟨rfl, hq9⟩
  subst hq9
  have e08 := BN8.out.cell 0 _ rfl
  have e18 := BN8.out.cell 1 _ rfl
  have e28 := BN8.out.cell 2 _ rfl
  go_wp2_with fail
  refine (kid_any n _ 1 y _ (HK.out.later HW8.out) (by rw [HX.out]; rfl)).mono ?_
  rintro ek10 wk10 ⟨vk10, rfl, hb10, hk10⟩
  have HK10 := Lib.hid hk10
  clear hk10
  have sz11 := hb10.size
  try simp only [World.size_setCell, World.size_alloc] at sz11
  have HW11 := Lib.hid (HW8.out.trans (hb10.mono (by (try simp only [World.size_setCell, World.size_alloc]); omega)))
  have BN11 := Lib.hid (BN8.out.later hb10 (by (try simp only [World.size_setCell, World.size_alloc]); omega))
  have BX11 := Lib.hid (BX8.out.later hb10 (by (try simp only [World.size_setCell, World.size_alloc]); omega))
  have Rx11 := Lib.hid (Rx8.out.beneath hb10 (Nat.le_refl _) (by (try simp only [World.size_setCell, World.size_alloc]); omega) (Nat.le_refl _))
  clear HW8 BN8 BX8 Rx8 x17c x17f x17l e07 e17 e27 e08 e18 e28
  clear hb10
  go_wp2_with fail
  refine (HE.out y vk10 bb _ hys HSY.out HK10.out (HBd.out.later HW11.out)).mono ?_
  rintro ec12 wc12 ⟨ry, rfl, hexy, hb12, hr12⟩
  have szz12 := hb12.size
  try simp only [World.size_setCell, World.size_alloc] at szz12
  have sz13 := hb12.size
  try simp only [World.size_setCell, World.size_alloc] at sz13
  have HW13 := Lib.hid (HW11.out.trans (hb12.mono (by (try simp only [World.size_setCell, World.size_alloc]); omega)))
  have BN13 := Lib.hid (BN11.out.later hb12 (by (try simp only [World.size_setCell, World.size_alloc]); omega))
  have BX13 := Lib.hid (BX11.out.later hb12 (by (try simp only [World.size_setCell, World.size_alloc]); omega))
  have Rx13 := Lib.hid (Rx11.out.beneath hb12 (Nat.le_refl _) (by (try simp only [World.size_setCell, World.size_alloc]); omega) (Nat.le_refl _))
  clear HW11 BN11 BX11 Rx11
  try simp only [World.size_setCell, World.size_alloc] at hr12
  have Ry13 := Lib.hid hr12
  clear hb12 hr12
  obtain ⟨ty, py, rfl⟩ := isE_form hexy Ry13.out
  have x213c := BX13.out.cell 2 _ rfl
  have x213f := BX13.out.frozen 2
  have x213l := BX13.out.lt
  have e013 := BN13.out.cell 0 _ rfl
  have e113 := BN13.out.cell 1 _ rfl
  have e213 := BN13.out.cell 2 _ rfl
  have sb14 := BX13.out.lt
  have HW14 := Lib.hid (HW13.out.setCell (p := ⟨(w.heap.size + 1), 2, none⟩) (by show w.heap.size ≤ (w.heap.size + 1); omega) (.iface ty (Pt py)))
  have BN14 := Lib.hid (BN13.out.other ((w.heap.size + 1)) 2 (.iface ty (Pt py)) (by omega))
  have BX14 := Lib.hid (BX13.out.set 2 (.iface ty (Pt py)))
  have Rx14 := Lib.hid (Rx13.out.setX (X := (w.heap.size + 1)) (i := 2) (u := (.iface ty (Pt py))) (by omega))
  have Ry14 := Lib.hid (Ry13.out.setX (X := (w.heap.size + 1)) (i := 2) (u := (.iface ty (Pt py))) (by omega))
  clear HW13 BN13 BX13 Rx13 Ry13
  go_wp2_with fail
  go_ret
  exact ⟨_, rfl, rfl, HW14.out, .map n _ x _ y _ HKB.out HTX.out HX.out hexx hexy ⟨⟨by show w.heap.size ≤ w.heap.size + 1; omega, BX14.out.lt⟩, BX14.out.cell 1 _ rfl⟩ ⟨⟨by show w.heap.size ≤ w.heap.size + 1; omega, BX14.out.lt⟩, BX14.out.cell 2 _ rfl⟩ (Rx14.out.wide (by omega) (by (try simp only [World.size_setCell]); omega)) (Ry14.out.wide (by omega) (by (try simp only [World.size_setCell]); omega))⟩

set_option maxHeartbeats 4000000 in
set_option maxRecDepth 100000 in
theorem e_b_struct (f : Nat) (hE : BE f) (hS : BS f) (n : N) (v : Value) (bb : Nat) (w : World) (hn : n.size ≤ 400) (hkd : n.kind.toList = [115, 116, 114, 117, 99, 116]) (hsh : shE (f + 1) n = true) (hk : KidsAt (· < w.heap.size) w v n.kids) (hB : Bd w bb) :
    Calls Tryz.prog 58 #[Pt bb, n.val v] w fun e w' => ∃ r, e = .returned r ∧ isE r = true ∧ Made w w' n r := by
  have hkb : isK n [115, 116, 114, 117, 99, 116] = true := by simp [isK, hkd]
  have hq : n.text.toList.isEmpty = true ∧ kid1B (fun x => shF (shE f) (fun _ => true) x) n.kids = true := by
    simpa [shE, isK, hkd] using hsh
  obtain ⟨htx, hq⟩ := hq
  obtain ⟨x, hx, hsx⟩ := kid1B_ex hq
  have hxs : x.size ≤ 400 := by have := N.size_kid (m := n) (n := x) (i := 0) (by rw [hx]; rfl); omega
  clear hq hsh
  have HX := Lib.hid hx
  have HTX := Lib.hid htx
  have HSX := Lib.hid hsx
  have HKB := Lib.hid hkb
  clear hx hsx hkb htx
  have HE := Lib.hid hE
  have HS := Lib.hid hS
  clear hE hS
  obtain ⟨a, cap, rfl, hcap, hel⟩ := hk.shape
  have hlen := N.len_lt n
  have HK := Lib.hid hk
  have HBd := Lib.hid hB
  have HW0 := Lib.hid ((Below.refl w.heap.size w).alloc (Nat.le_refl _) (Obj.cells #[Value.string n.kind, Value.string n.text, Value.slice a n.kids.length cap] 24))
  have BN0 : Hid (Blk (w.alloc (Obj.cells #[Value.string n.kind, Value.string n.text, Value.slice a n.kids.length cap] 24)) w.heap.size 24 #[Value.string n.kind, Value.string n.text, Value.slice a n.kids.length cap]) := Lib.hid (Blk.new w _ 24)
  have hs0 : ((w.alloc (Obj.cells #[Value.string n.kind, Value.string n.text, Value.slice a n.kids.length cap] 24))).heap.size = w.heap.size + 1 := by simp
  have HS0 := Lib.hid hs0
  clear hk hB hel hs0
  unfold N.val
  go_enter Tryz.func58, Tryz.ntmps58
  go_wp2_with fail
  refine (next_any bb _ (HBd.out.later HW0.out)).mono ?_
  rintro e1q wq1 ⟨rfl, hq1⟩
  subst hq1
  go_wp2_with fail
  have sx2 : (((w.alloc (Obj.cells #[Value.string n.kind, Value.string n.text, Value.slice a n.kids.length cap] 24)).alloc (Obj.cells #[Value.int .i64 1, Value.pointer none, Value.bool false] 142))).heap.size = ((w.alloc (Obj.cells #[Value.string n.kind, Value.string n.text, Value.slice a n.kids.length cap] 24))).heap.size + 1 := by simp only [World.size_alloc]
  have HW2 := Lib.hid (HW0.out.alloc (by (try simp only [World.size_setCell, World.size_alloc]); omega) (Obj.cells #[Value.int .i64 1, Value.pointer none, Value.bool false] 142))
  have BN2 := Lib.hid (BN0.out.later ((Below.refl ((w.alloc (Obj.cells #[Value.string n.kind, Value.string n.text, Value.slice a n.kids.length cap] 24))).heap.size (w.alloc (Obj.cells #[Value.string n.kind, Value.string n.text, Value.slice a n.kids.length cap] 24))).alloc (Nat.le_refl _) (Obj.cells #[Value.int .i64 1, Value.pointer none, Value.bool false] 142)) (by (try simp only [World.size_setCell, World.size_alloc]); omega))
  have BX2 := Lib.hid (Blk.new (w.alloc (Obj.cells #[Value.string n.kind, Value.string n.text, Value.slice a n.kids.length cap] 24)) #[Value.int .i64 1, Value.pointer none, Value.bool false] 142)
  clear HW0 BN0
  try simp only [World.size_setCell, World.size_alloc] at BX2 sx2
  have e02 := BN2.out.cell 0 _ rfl
  have e12 := BN2.out.cell 1 _ rfl
  have e22 := BN2.out.cell 2 _ rfl
  refine (kid_any n _ 0 x _ (HK.out.later HW2.out) (by rw [HX.out]; rfl)).mono ?_
  rintro ek3 wk3 ⟨vk3, rfl, hb3, hk3⟩
  have HK3 := Lib.hid hk3
  clear hk3
  have sz4 := hb3.size
  try simp only [World.size_setCell, World.size_alloc] at sz4
  have HW4 := Lib.hid (HW2.out.trans (hb3.mono (by (try simp only [World.size_setCell, World.size_alloc]); omega)))
  have BN4 := Lib.hid (BN2.out.later hb3 (by (try simp only [World.size_setCell, World.size_alloc]); omega))
  have BX4 := Lib.hid (BX2.out.later hb3 (by (try simp only [World.size_setCell, World.size_alloc]); omega))
  clear HW2 BN2 BX2 e02 e12 e22
  clear hb3
  go_wp2_with fail
  refine (fieldsIn_any HE.out HS.out false (fun _ => true) (fun h => by cases h) x vk3 bb _ hxs HSX.out HK3.out (HBd.out.later HW4.out)).mono ?_
  rintro ec5 wc5 ⟨px, rfl, hb5, hr5⟩
  have szz5 := hb5.size
  try simp only [World.size_setCell, World.size_alloc] at szz5
  have sz6 := hb5.size
  try simp only [World.size_setCell, World.size_alloc] at sz6
  have HW6 := Lib.hid (HW4.out.trans (hb5.mono (by (try simp only [World.size_setCell, World.size_alloc]); omega)))
  have BN6 := Lib.hid (BN4.out.later hb5 (by (try simp only [World.size_setCell, World.size_alloc]); omega))
  have BX6 := Lib.hid (BX4.out.later hb5 (by (try simp only [World.size_setCell, World.size_alloc]); omega))
  clear HW4 BN4 BX4
  try simp only [World.size_setCell, World.size_alloc] at hr5
  have Rx6 := Lib.hid hr5
  clear hb5 hr5
  have x16c := BX6.out.cell 1 _ rfl
  have x16f := BX6.out.frozen 1
  have x16l := BX6.out.lt
  have e06 := BN6.out.cell 0 _ rfl
  have e16 := BN6.out.cell 1 _ rfl
  have e26 := BN6.out.cell 2 _ rfl
  have sb7 := BX6.out.lt
  have HW7 := Lib.hid (HW6.out.setCell (p := ⟨(w.heap.size + 1), 1, none⟩) (by show w.heap.size ≤ (w.heap.size + 1); omega) (Pt px))
  have BN7 := Lib.hid (BN6.out.other ((w.heap.size + 1)) 1 (Pt px) (by omega))
  have BX7 := Lib.hid (BX6.out.set 1 (Pt px))
  have Rx7 := Lib.hid (Rx6.out.setX (X := (w.heap.size + 1)) (i := 1) (u := (Pt px)) (by omega))
  clear HW6 BN6 BX6 Rx6
  go_wp2_with fail
  go_ret
  exact ⟨_, rfl, rfl, HW7.out, .struct n _ x _ HKB.out HTX.out HX.out ⟨⟨by show w.heap.size ≤ w.heap.size + 1; omega, BX7.out.lt⟩, BX7.out.cell 1 _ rfl⟩ (Rx7.out.wide (by omega) (by (try simp only [World.size_setCell]); omega))⟩

set_option maxHeartbeats 4000000 in
set_option maxRecDepth 100000 in
theorem e_b_interface (f : Nat) (hE : BE f) (hS : BS f) (n : N) (v : Value) (bb : Nat) (w : World) (hn : n.size ≤ 400) (hkd : n.kind.toList = [105, 110, 116, 101, 114, 102, 97, 99, 101]) (hsh : shE (f + 1) n = true) (hk : KidsAt (· < w.heap.size) w v n.kids) (hB : Bd w bb) :
    Calls Tryz.prog 58 #[Pt bb, n.val v] w fun e w' => ∃ r, e = .returned r ∧ isE r = true ∧ Made w w' n r := by
  have hkb : isK n [105, 110, 116, 101, 114, 102, 97, 99, 101] = true := by simp [isK, hkd]
  have hq : n.text.toList.isEmpty = true ∧ kid1B (fun x => shF (shE f) methodB x) n.kids = true := by
    simpa [shE, isK, hkd] using hsh
  obtain ⟨htx, hq⟩ := hq
  obtain ⟨x, hx, hsx⟩ := kid1B_ex hq
  have hxs : x.size ≤ 400 := by have := N.size_kid (m := n) (n := x) (i := 0) (by rw [hx]; rfl); omega
  clear hq hsh
  have HX := Lib.hid hx
  have HTX := Lib.hid htx
  have HSX := Lib.hid hsx
  have HKB := Lib.hid hkb
  clear hx hsx hkb htx
  have HE := Lib.hid hE
  have HS := Lib.hid hS
  clear hE hS
  obtain ⟨a, cap, rfl, hcap, hel⟩ := hk.shape
  have hlen := N.len_lt n
  have HK := Lib.hid hk
  have HBd := Lib.hid hB
  have HW0 := Lib.hid ((Below.refl w.heap.size w).alloc (Nat.le_refl _) (Obj.cells #[Value.string n.kind, Value.string n.text, Value.slice a n.kids.length cap] 24))
  have BN0 : Hid (Blk (w.alloc (Obj.cells #[Value.string n.kind, Value.string n.text, Value.slice a n.kids.length cap] 24)) w.heap.size 24 #[Value.string n.kind, Value.string n.text, Value.slice a n.kids.length cap]) := Lib.hid (Blk.new w _ 24)
  have hs0 : ((w.alloc (Obj.cells #[Value.string n.kind, Value.string n.text, Value.slice a n.kids.length cap] 24))).heap.size = w.heap.size + 1 := by simp
  have HS0 := Lib.hid hs0
  clear hk hB hel hs0
  unfold N.val
  go_enter Tryz.func58, Tryz.ntmps58
  go_wp2_with fail
  refine (next_any bb _ (HBd.out.later HW0.out)).mono ?_
  rintro e1q wq1 ⟨rfl, hq1⟩
  subst hq1
  go_wp2_with fail
  have sx2 : (((w.alloc (Obj.cells #[Value.string n.kind, Value.string n.text, Value.slice a n.kids.length cap] 24)).alloc (Obj.cells #[Value.int .i64 1, Value.pointer none, Value.bool false] 145))).heap.size = ((w.alloc (Obj.cells #[Value.string n.kind, Value.string n.text, Value.slice a n.kids.length cap] 24))).heap.size + 1 := by simp only [World.size_alloc]
  have HW2 := Lib.hid (HW0.out.alloc (by (try simp only [World.size_setCell, World.size_alloc]); omega) (Obj.cells #[Value.int .i64 1, Value.pointer none, Value.bool false] 145))
  have BN2 := Lib.hid (BN0.out.later ((Below.refl ((w.alloc (Obj.cells #[Value.string n.kind, Value.string n.text, Value.slice a n.kids.length cap] 24))).heap.size (w.alloc (Obj.cells #[Value.string n.kind, Value.string n.text, Value.slice a n.kids.length cap] 24))).alloc (Nat.le_refl _) (Obj.cells #[Value.int .i64 1, Value.pointer none, Value.bool false] 145)) (by (try simp only [World.size_setCell, World.size_alloc]); omega))
  have BX2 := Lib.hid (Blk.new (w.alloc (Obj.cells #[Value.string n.kind, Value.string n.text, Value.slice a n.kids.length cap] 24)) #[Value.int .i64 1, Value.pointer none, Value.bool false] 145)
  clear HW0 BN0
  try simp only [World.size_setCell, World.size_alloc] at BX2 sx2
  have e02 := BN2.out.cell 0 _ rfl
  have e12 := BN2.out.cell 1 _ rfl
  have e22 := BN2.out.cell 2 _ rfl
  refine (kid_any n _ 0 x _ (HK.out.later HW2.out) (by rw [HX.out]; rfl)).mono ?_
  rintro ek3 wk3 ⟨vk3, rfl, hb3, hk3⟩
  have HK3 := Lib.hid hk3
  clear hk3
  have sz4 := hb3.size
  try simp only [World.size_setCell, World.size_alloc] at sz4
  have HW4 := Lib.hid (HW2.out.trans (hb3.mono (by (try simp only [World.size_setCell, World.size_alloc]); omega)))
  have BN4 := Lib.hid (BN2.out.later hb3 (by (try simp only [World.size_setCell, World.size_alloc]); omega))
  have BX4 := Lib.hid (BX2.out.later hb3 (by (try simp only [World.size_setCell, World.size_alloc]); omega))
  clear HW2 BN2 BX2 e02 e12 e22
  clear hb3
  go_wp2_with fail
  refine (fieldsIn_any HE.out HS.out true methodB (fun _ _ h => h) x vk3 bb _ hxs HSX.out HK3.out (HBd.out.later HW4.out)).mono ?_
  rintro ec5 wc5 ⟨px, rfl, hb5, hr5⟩
  have szz5 := hb5.size
  try simp only [World.size_setCell, World.size_alloc] at szz5
  have sz6 := hb5.size
  try simp only [World.size_setCell, World.size_alloc] at sz6
  have HW6 := Lib.hid (HW4.out.trans (hb5.mono (by (try simp only [World.size_setCell, World.size_alloc]); omega)))
  have BN6 := Lib.hid (BN4.out.later hb5 (by (try simp only [World.size_setCell, World.size_alloc]); omega))
  have BX6 := Lib.hid (BX4.out.later hb5 (by (try simp only [World.size_setCell, World.size_alloc]); omega))
  clear HW4 BN4 BX4
  try simp only [World.size_setCell, World.size_alloc] at hr5
  have Rx6 := Lib.hid hr5
  clear hb5 hr5
  have x16c := BX6.out.cell 1 _ rfl
  have x16f := BX6.out.frozen 1
  have x16l := BX6.out.lt
  have e06 := BN6.out.cell 0 _ rfl
  have e16 := BN6.out.cell 1 _ rfl
  have e26 := BN6.out.cell 2 _ rfl
  have sb7 := BX6.out.lt
  have HW7 := Lib.hid (HW6.out.setCell (p := ⟨(w.heap.size + 1), 1, none⟩) (by show w.heap.size ≤ (w.heap.size + 1); omega) (Pt px))
  have BN7 := Lib.hid (BN6.out.other ((w.heap.size + 1)) 1 (Pt px) (by omega))
  have BX7 := Lib.hid (BX6.out.set 1 (Pt px))
  have Rx7 := Lib.hid (Rx6.out.setX (X := (w.heap.size + 1)) (i := 1) (u := (Pt px)) (by omega))
  clear HW6 BN6 BX6 Rx6
  go_wp2_with fail
  go_ret
  exact ⟨_, rfl, rfl, HW7.out, .interface n _ x _ HKB.out HTX.out HX.out ⟨⟨by show w.heap.size ≤ w.heap.size + 1; omega, BX7.out.lt⟩, BX7.out.cell 1 _ rfl⟩ (Rx7.out.wide (by omega) (by (try simp only [World.size_setCell]); omega))⟩

set_option maxHeartbeats 4000000 in
set_option maxRecDepth 100000 in
theorem e_b_chan_both (f : Nat) (hE : BE f) (hS : BS f) (n : N) (v : Value) (bb : Nat) (w : World) (hn : n.size ≤ 400) (hkd : n.kind.toList = [99, 104, 97, 110]) (hsh : shE (f + 1) n = true) (hk : KidsAt (· < w.heap.size) w v n.kids) (hB : Bd w bb) (htxt : n.text.toList = []) :
    Calls Tryz.prog 58 #[Pt bb, n.val v] w fun e w' => ∃ r, e = .returned r ∧ isE r = true ∧ Made w w' n r := by
  have hkb : isK n [99, 104, 97, 110] = true := by simp [isK, hkd]
  have hq : kid1B (fun x => shE f x) n.kids = true := by
    have h := hsh
    simp [shE, isK, hkd] at h
    exact h.2
  obtain ⟨x, hx, hsx⟩ := kid1B_ex hq
  have hxs : x.size ≤ 400 := by have := N.size_kid (m := n) (n := x) (i := 0) (by rw [hx]; rfl); omega
  clear hq hsh
  have HX := Lib.hid hx
  have HSX := Lib.hid hsx
  have HKB := Lib.hid hkb
  clear hx hsx hkb
  have HE := Lib.hid hE
  have HS := Lib.hid hS
  clear hE hS
  obtain ⟨a, cap, rfl, hcap, hel⟩ := hk.shape
  have hlen := N.len_lt n
  have HK := Lib.hid hk
  have HBd := Lib.hid hB
  have HW0 := Lib.hid ((Below.refl w.heap.size w).alloc (Nat.le_refl _) (Obj.cells #[Value.string n.kind, Value.string n.text, Value.slice a n.kids.length cap] 24))
  have BN0 : Hid (Blk (w.alloc (Obj.cells #[Value.string n.kind, Value.string n.text, Value.slice a n.kids.length cap] 24)) w.heap.size 24 #[Value.string n.kind, Value.string n.text, Value.slice a n.kids.length cap]) := Lib.hid (Blk.new w _ 24)
  have hs0 : ((w.alloc (Obj.cells #[Value.string n.kind, Value.string n.text, Value.slice a n.kids.length cap] 24))).heap.size = w.heap.size + 1 := by simp
  have HS0 := Lib.hid hs0
  clear hk hB hel hs0
  unfold N.val
  go_enter Tryz.func58, Tryz.ntmps58
  go_wp2_with fail
  refine (next_any bb _ (HBd.out.later HW0.out)).mono ?_
  rintro e1q wq1 ⟨rfl, hq1⟩
  subst hq1
  go_wp2_with fail
  have sx2 : (((w.alloc (Obj.cells #[Value.string n.kind, Value.string n.text, Value.slice a n.kids.length cap] 24)).alloc (Obj.cells #[Value.int .i64 1, Value.int .i64 0, Value.int .i64 3, Value.nilIface] 139))).heap.size = ((w.alloc (Obj.cells #[Value.string n.kind, Value.string n.text, Value.slice a n.kids.length cap] 24))).heap.size + 1 := by simp only [World.size_alloc]
  have HW2 := Lib.hid (HW0.out.alloc (by (try simp only [World.size_setCell, World.size_alloc]); omega) (Obj.cells #[Value.int .i64 1, Value.int .i64 0, Value.int .i64 3, Value.nilIface] 139))
  have BN2 := Lib.hid (BN0.out.later ((Below.refl ((w.alloc (Obj.cells #[Value.string n.kind, Value.string n.text, Value.slice a n.kids.length cap] 24))).heap.size (w.alloc (Obj.cells #[Value.string n.kind, Value.string n.text, Value.slice a n.kids.length cap] 24))).alloc (Nat.le_refl _) (Obj.cells #[Value.int .i64 1, Value.int .i64 0, Value.int .i64 3, Value.nilIface] 139)) (by (try simp only [World.size_setCell, World.size_alloc]); omega))
  have BX2 := Lib.hid (Blk.new (w.alloc (Obj.cells #[Value.string n.kind, Value.string n.text, Value.slice a n.kids.length cap] 24)) #[Value.int .i64 1, Value.int .i64 0, Value.int .i64 3, Value.nilIface] 139)
  clear HW0 BN0
  try simp only [World.size_setCell, World.size_alloc] at BX2 sx2
  have e02 := BN2.out.cell 0 _ rfl
  have e12 := BN2.out.cell 1 _ rfl
  have e22 := BN2.out.cell 2 _ rfl
  refine (kid_any n _ 0 x _ (HK.out.later HW2.out) (by rw [HX.out]; rfl)).mono ?_
  rintro ek3 wk3 ⟨vk3, rfl, hb3, hk3⟩
  have HK3 := Lib.hid hk3
  clear hk3
  have sz4 := hb3.size
  try simp only [World.size_setCell, World.size_alloc] at sz4
  have HW4 := Lib.hid (HW2.out.trans (hb3.mono (by (try simp only [World.size_setCell, World.size_alloc]); omega)))
  have BN4 := Lib.hid (BN2.out.later hb3 (by (try simp only [World.size_setCell, World.size_alloc]); omega))
  have BX4 := Lib.hid (BX2.out.later hb3 (by (try simp only [World.size_setCell, World.size_alloc]); omega))
  clear HW2 BN2 BX2 e02 e12 e22
  clear hb3
  go_wp2_with fail
  refine (HE.out x vk3 bb _ hxs HSX.out HK3.out (HBd.out.later HW4.out)).mono ?_
  rintro ec5 wc5 ⟨rx, rfl, hexx, hb5, hr5⟩
  have szz5 := hb5.size
  try simp only [World.size_setCell, World.size_alloc] at szz5
  have sz6 := hb5.size
  try simp only [World.size_setCell, World.size_alloc] at sz6
  have HW6 := Lib.hid (HW4.out.trans (hb5.mono (by (try simp only [World.size_setCell, World.size_alloc]); omega)))
  have BN6 := Lib.hid (BN4.out.later hb5 (by (try simp only [World.size_setCell, World.size_alloc]); omega))
  have BX6 := Lib.hid (BX4.out.later hb5 (by (try simp only [World.size_setCell, World.size_alloc]); omega))
  clear HW4 BN4 BX4
  try simp only [World.size_setCell, World.size_alloc] at hr5
  have Rx6 := Lib.hid hr5
  clear hb5 hr5
  obtain ⟨tx, px, rfl⟩ := isE_form hexx Rx6.out
  have x36c := BX6.out.cell 3 _ rfl
  have x36f := BX6.out.frozen 3
  have x36l := BX6.out.lt
  have e06 := BN6.out.cell 0 _ rfl
  have e16 := BN6.out.cell 1 _ rfl
  have e26 := BN6.out.cell 2 _ rfl
  have sb7 := BX6.out.lt
  have HW7 := Lib.hid (HW6.out.setCell (p := ⟨(w.heap.size + 1), 3, none⟩) (by show w.heap.size ≤ (w.heap.size + 1); omega) (.iface tx (Pt px)))
  have BN7 := Lib.hid (BN6.out.other ((w.heap.size + 1)) 3 (.iface tx (Pt px)) (by omega))
  have BX7 := Lib.hid (BX6.out.set 3 (.iface tx (Pt px)))
  have Rx7 := Lib.hid (Rx6.out.setX (X := (w.heap.size + 1)) (i := 3) (u := (.iface tx (Pt px))) (by omega))
  clear HW6 BN6 BX6 Rx6
  go_wp2_with fail
  go_ret
  exact ⟨_, rfl, rfl, HW7.out, .chan n _ x _ 3 HKB.out (.inl ⟨htxt, rfl⟩) HX.out hexx ⟨⟨by show w.heap.size ≤ w.heap.size + 1; omega, BX7.out.lt⟩, BX7.out.cell 2 _ rfl⟩ ⟨⟨by show w.heap.size ≤ w.heap.size + 1; omega, BX7.out.lt⟩, BX7.out.cell 3 _ rfl⟩ (Rx7.out.wide (by omega) (by (try simp only [World.size_setCell]); omega))⟩

set_option maxHeartbeats 4000000 in
set_option maxRecDepth 100000 in
theorem e_b_chan_send (f : Nat) (hE : BE f) (hS : BS f) (n : N) (v : Value) (bb : Nat) (w : World) (hn : n.size ≤ 400) (hkd : n.kind.toList = [99, 104, 97, 110]) (hsh : shE (f + 1) n = true) (hk : KidsAt (· < w.heap.size) w v n.kids) (hB : Bd w bb) (htxt : n.text.toList = [115, 101, 110, 100]) :
    Calls Tryz.prog 58 #[Pt bb, n.val v] w fun e w' => ∃ r, e = .returned r ∧ isE r = true ∧ Made w w' n r := by
  have hkb : isK n [99, 104, 97, 110] = true := by simp [isK, hkd]
  have hq : kid1B (fun x => shE f x) n.kids = true := by
    have h := hsh
    simp [shE, isK, hkd] at h
    exact h.2
  obtain ⟨x, hx, hsx⟩ := kid1B_ex hq
  have hxs : x.size ≤ 400 := by have := N.size_kid (m := n) (n := x) (i := 0) (by rw [hx]; rfl); omega
  clear hq hsh
  have HX := Lib.hid hx
  have HSX := Lib.hid hsx
  have HKB := Lib.hid hkb
  clear hx hsx hkb
  have HE := Lib.hid hE
  have HS := Lib.hid hS
  clear hE hS
  obtain ⟨a, cap, rfl, hcap, hel⟩ := hk.shape
  have hlen := N.len_lt n
  have HK := Lib.hid hk
  have HBd := Lib.hid hB
  have HW0 := Lib.hid ((Below.refl w.heap.size w).alloc (Nat.le_refl _) (Obj.cells #[Value.string n.kind, Value.string n.text, Value.slice a n.kids.length cap] 24))
  have BN0 : Hid (Blk (w.alloc (Obj.cells #[Value.string n.kind, Value.string n.text, Value.slice a n.kids.length cap] 24)) w.heap.size 24 #[Value.string n.kind, Value.string n.text, Value.slice a n.kids.length cap]) := Lib.hid (Blk.new w _ 24)
  have hs0 : ((w.alloc (Obj.cells #[Value.string n.kind, Value.string n.text, Value.slice a n.kids.length cap] 24))).heap.size = w.heap.size + 1 := by simp
  have HS0 := Lib.hid hs0
  clear hk hB hel hs0
  unfold N.val
  go_enter Tryz.func58, Tryz.ntmps58
  go_wp2_with fail
  refine (next_any bb _ (HBd.out.later HW0.out)).mono ?_
  rintro e1q wq1 ⟨rfl, hq1⟩
  subst hq1
  go_wp2_with fail
  refine (next_any bb _ (HBd.out.later (HW0.out.alloc (by (try simp only [World.size_setCell, World.size_alloc]); omega) (Obj.cells #[Value.int .i64 1, Value.int .i64 0, Value.int .i64 3, Value.nilIface] 139)))).mono ?_
  rintro eq2 wq2 ⟨rfl, hq2⟩
  subst hq2
  go_wp2_with fail
  have sx2 : (((w.alloc (Obj.cells #[Value.string n.kind, Value.string n.text, Value.slice a n.kids.length cap] 24)).alloc (Obj.cells #[Value.int .i64 1, Value.int .i64 1, Value.int .i64 1, Value.nilIface] 139))).heap.size = ((w.alloc (Obj.cells #[Value.string n.kind, Value.string n.text, Value.slice a n.kids.length cap] 24))).heap.size + 1 := by simp only [World.size_alloc]
  have HW2 := Lib.hid (HW0.out.alloc (by (try simp only [World.size_setCell, World.size_alloc]); omega) (Obj.cells #[Value.int .i64 1, Value.int .i64 1, Value.int .i64 1, Value.nilIface] 139))
  have BN2 := Lib.hid (BN0.out.later ((Below.refl ((w.alloc (Obj.cells #[Value.string n.kind, Value.string n.text, Value.slice a n.kids.length cap] 24))).heap.size (w.alloc (Obj.cells #[Value.string n.kind, Value.string n.text, Value.slice a n.kids.length cap] 24))).alloc (Nat.le_refl _) (Obj.cells #[Value.int .i64 1, Value.int .i64 1, Value.int .i64 1, Value.nilIface] 139)) (by (try simp only [World.size_setCell, World.size_alloc]); omega))
  have BX2 := Lib.hid (Blk.new (w.alloc (Obj.cells #[Value.string n.kind, Value.string n.text, Value.slice a n.kids.length cap] 24)) #[Value.int .i64 1, Value.int .i64 1, Value.int .i64 1, Value.nilIface] 139)
  clear HW0 BN0
  try simp only [World.size_setCell, World.size_alloc] at BX2 sx2
  have e02 := BN2.out.cell 0 _ rfl
  have e12 := BN2.out.cell 1 _ rfl
  have e22 := BN2.out.cell 2 _ rfl
  refine (kid_any n _ 0 x _ (HK.out.later HW2.out) (by rw [HX.out]; rfl)).mono ?_
  rintro ek3 wk3 ⟨vk3, rfl, hb3, hk3⟩
  have HK3 := Lib.hid hk3
  clear hk3
  have sz4 := hb3.size
  try simp only [World.size_setCell, World.size_alloc] at sz4
  have HW4 := Lib.hid (HW2.out.trans (hb3.mono (by (try simp only [World.size_setCell, World.size_alloc]); omega)))
  have BN4 := Lib.hid (BN2.out.later hb3 (by (try simp only [World.size_setCell, World.size_alloc]); omega))
  have BX4 := Lib.hid (BX2.out.later hb3 (by (try simp only [World.size_setCell, World.size_alloc]); omega))
  clear HW2 BN2 BX2 e02 e12 e22
  clear hb3
  go_wp2_with fail
  refine (HE.out x vk3 bb _ hxs HSX.out HK3.out (HBd.out.later HW4.out)).mono ?_
  rintro ec5 wc5 ⟨rx, rfl, hexx, hb5, hr5⟩
  have szz5 := hb5.size
  try simp only [World.size_setCell, World.size_alloc] at szz5
  have sz6 := hb5.size
  try simp only [World.size_setCell, World.size_alloc] at sz6
  have HW6 := Lib.hid (HW4.out.trans (hb5.mono (by (try simp only [World.size_setCell, World.size_alloc]); omega)))
  have BN6 := Lib.hid (BN4.out.later hb5 (by (try simp only [World.size_setCell, World.size_alloc]); omega))
  have BX6 := Lib.hid (BX4.out.later hb5 (by (try simp only [World.size_setCell, World.size_alloc]); omega))
  clear HW4 BN4 BX4
  try simp only [World.size_setCell, World.size_alloc] at hr5
  have Rx6 := Lib.hid hr5
  clear hb5 hr5
  obtain ⟨tx, px, rfl⟩ := isE_form hexx Rx6.out
  have x36c := BX6.out.cell 3 _ rfl
  have x36f := BX6.out.frozen 3
  have x36l := BX6.out.lt
  have e06 := BN6.out.cell 0 _ rfl
  have e16 := BN6.out.cell 1 _ rfl
  have e26 := BN6.out.cell 2 _ rfl
  have sb7 := BX6.out.lt
  have HW7 := Lib.hid (HW6.out.setCell (p := ⟨(w.heap.size + 1), 3, none⟩) (by show w.heap.size ≤ (w.heap.size + 1); omega) (.iface tx (Pt px)))
  have BN7 := Lib.hid (BN6.out.other ((w.heap.size + 1)) 3 (.iface tx (Pt px)) (by omega))
  have BX7 := Lib.hid (BX6.out.set 3 (.iface tx (Pt px)))
  have Rx7 := Lib.hid (Rx6.out.setX (X := (w.heap.size + 1)) (i := 3) (u := (.iface tx (Pt px))) (by omega))
  clear HW6 BN6 BX6 Rx6
  go_wp2_with fail
  go_ret
  exact ⟨_, rfl, rfl, HW7.out, .chan n _ x _ 1 HKB.out (.inr (.inl ⟨htxt, rfl⟩)) HX.out hexx ⟨⟨by show w.heap.size ≤ w.heap.size + 1; omega, BX7.out.lt⟩, BX7.out.cell 2 _ rfl⟩ ⟨⟨by show w.heap.size ≤ w.heap.size + 1; omega, BX7.out.lt⟩, BX7.out.cell 3 _ rfl⟩ (Rx7.out.wide (by omega) (by (try simp only [World.size_setCell]); omega))⟩

set_option maxHeartbeats 4000000 in
set_option maxRecDepth 100000 in
theorem e_b_chan_receive (f : Nat) (hE : BE f) (hS : BS f) (n : N) (v : Value) (bb : Nat) (w : World) (hn : n.size ≤ 400) (hkd : n.kind.toList = [99, 104, 97, 110]) (hsh : shE (f + 1) n = true) (hk : KidsAt (· < w.heap.size) w v n.kids) (hB : Bd w bb) (htxt : n.text.toList = [114, 101, 99, 101, 105, 118, 101]) :
    Calls Tryz.prog 58 #[Pt bb, n.val v] w fun e w' => ∃ r, e = .returned r ∧ isE r = true ∧ Made w w' n r := by
  have hkb : isK n [99, 104, 97, 110] = true := by simp [isK, hkd]
  have hq : kid1B (fun x => shE f x) n.kids = true := by
    have h := hsh
    simp [shE, isK, hkd] at h
    exact h.2
  obtain ⟨x, hx, hsx⟩ := kid1B_ex hq
  have hxs : x.size ≤ 400 := by have := N.size_kid (m := n) (n := x) (i := 0) (by rw [hx]; rfl); omega
  clear hq hsh
  have HX := Lib.hid hx
  have HSX := Lib.hid hsx
  have HKB := Lib.hid hkb
  clear hx hsx hkb
  have HE := Lib.hid hE
  have HS := Lib.hid hS
  clear hE hS
  obtain ⟨a, cap, rfl, hcap, hel⟩ := hk.shape
  have hlen := N.len_lt n
  have HK := Lib.hid hk
  have HBd := Lib.hid hB
  have HW0 := Lib.hid ((Below.refl w.heap.size w).alloc (Nat.le_refl _) (Obj.cells #[Value.string n.kind, Value.string n.text, Value.slice a n.kids.length cap] 24))
  have BN0 : Hid (Blk (w.alloc (Obj.cells #[Value.string n.kind, Value.string n.text, Value.slice a n.kids.length cap] 24)) w.heap.size 24 #[Value.string n.kind, Value.string n.text, Value.slice a n.kids.length cap]) := Lib.hid (Blk.new w _ 24)
  have hs0 : ((w.alloc (Obj.cells #[Value.string n.kind, Value.string n.text, Value.slice a n.kids.length cap] 24))).heap.size = w.heap.size + 1 := by simp
  have HS0 := Lib.hid hs0
  clear hk hB hel hs0
  unfold N.val
  go_enter Tryz.func58, Tryz.ntmps58
  go_wp2_with fail
  refine (next_any bb _ (HBd.out.later HW0.out)).mono ?_
  rintro e1q wq1 ⟨rfl, hq1⟩
  subst hq1
  go_wp2_with fail
  refine (next_any bb _ (HBd.out.later (HW0.out.alloc (by (try simp only [World.size_setCell, World.size_alloc]); omega) (Obj.cells #[Value.int .i64 1, Value.int .i64 1, Value.int .i64 3, Value.nilIface] 139)))).mono ?_
  rintro eq2 wq2 ⟨rfl, hq2⟩
  subst hq2
  go_wp2_with fail
  have sx2 : (((w.alloc (Obj.cells #[Value.string n.kind, Value.string n.text, Value.slice a n.kids.length cap] 24)).alloc (Obj.cells #[Value.int .i64 1, Value.int .i64 1, Value.int .i64 2, Value.nilIface] 139))).heap.size = ((w.alloc (Obj.cells #[Value.string n.kind, Value.string n.text, Value.slice a n.kids.length cap] 24))).heap.size + 1 := by simp only [World.size_alloc]
  have HW2 := Lib.hid (HW0.out.alloc (by (try simp only [World.size_setCell, World.size_alloc]); omega) (Obj.cells #[Value.int .i64 1, Value.int .i64 1, Value.int .i64 2, Value.nilIface] 139))
  have BN2 := Lib.hid (BN0.out.later ((Below.refl ((w.alloc (Obj.cells #[Value.string n.kind, Value.string n.text, Value.slice a n.kids.length cap] 24))).heap.size (w.alloc (Obj.cells #[Value.string n.kind, Value.string n.text, Value.slice a n.kids.length cap] 24))).alloc (Nat.le_refl _) (Obj.cells #[Value.int .i64 1, Value.int .i64 1, Value.int .i64 2, Value.nilIface] 139)) (by (try simp only [World.size_setCell, World.size_alloc]); omega))
  have BX2 := Lib.hid (Blk.new (w.alloc (Obj.cells #[Value.string n.kind, Value.string n.text, Value.slice a n.kids.length cap] 24)) #[Value.int .i64 1, Value.int .i64 1, Value.int .i64 2, Value.nilIface] 139)
  clear HW0 BN0
  try simp only [World.size_setCell, World.size_alloc] at BX2 sx2
  have e02 := BN2.out.cell 0 _ rfl
  have e12 := BN2.out.cell 1 _ rfl
  have e22 := BN2.out.cell 2 _ rfl
  refine (kid_any n _ 0 x _ (HK.out.later HW2.out) (by rw [HX.out]; rfl)).mono ?_
  rintro ek3 wk3 ⟨vk3, rfl, hb3, hk3⟩
  have HK3 := Lib.hid hk3
  clear hk3
  have sz4 := hb3.size
  try simp only [World.size_setCell, World.size_alloc] at sz4
  have HW4 := Lib.hid (HW2.out.trans (hb3.mono (by (try simp only [World.size_setCell, World.size_alloc]); omega)))
  have BN4 := Lib.hid (BN2.out.later hb3 (by (try simp only [World.size_setCell, World.size_alloc]); omega))
  have BX4 := Lib.hid (BX2.out.later hb3 (by (try simp only [World.size_setCell, World.size_alloc]); omega))
  clear HW2 BN2 BX2 e02 e12 e22
  clear hb3
  go_wp2_with fail
  refine (HE.out x vk3 bb _ hxs HSX.out HK3.out (HBd.out.later HW4.out)).mono ?_
  rintro ec5 wc5 ⟨rx, rfl, hexx, hb5, hr5⟩
  have szz5 := hb5.size
  try simp only [World.size_setCell, World.size_alloc] at szz5
  have sz6 := hb5.size
  try simp only [World.size_setCell, World.size_alloc] at sz6
  have HW6 := Lib.hid (HW4.out.trans (hb5.mono (by (try simp only [World.size_setCell, World.size_alloc]); omega)))
  have BN6 := Lib.hid (BN4.out.later hb5 (by (try simp only [World.size_setCell, World.size_alloc]); omega))
  have BX6 := Lib.hid (BX4.out.later hb5 (by (try simp only [World.size_setCell, World.size_alloc]); omega))
  clear HW4 BN4 BX4
  try simp only [World.size_setCell, World.size_alloc] at hr5
  have Rx6 := Lib.hid hr5
  clear hb5 hr5
  obtain ⟨tx, px, rfl⟩ := isE_form hexx Rx6.out
  have x36c := BX6.out.cell 3 _ rfl
  have x36f := BX6.out.frozen 3
  have x36l := BX6.out.lt
  have e06 := BN6.out.cell 0 _ rfl
  have e16 := BN6.out.cell 1 _ rfl
  have e26 := BN6.out.cell 2 _ rfl
  have sb7 := BX6.out.lt
  have HW7 := Lib.hid (HW6.out.setCell (p := ⟨(w.heap.size + 1), 3, none⟩) (by show w.heap.size ≤ (w.heap.size + 1); omega) (.iface tx (Pt px)))
  have BN7 := Lib.hid (BN6.out.other ((w.heap.size + 1)) 3 (.iface tx (Pt px)) (by omega))
  have BX7 := Lib.hid (BX6.out.set 3 (.iface tx (Pt px)))
  have Rx7 := Lib.hid (Rx6.out.setX (X := (w.heap.size + 1)) (i := 3) (u := (.iface tx (Pt px))) (by omega))
  clear HW6 BN6 BX6 Rx6
  go_wp2_with fail
  go_ret
  exact ⟨_, rfl, rfl, HW7.out, .chan n _ x _ 2 HKB.out (.inr (.inr ⟨htxt, rfl⟩)) HX.out hexx ⟨⟨by show w.heap.size ≤ w.heap.size + 1; omega, BX7.out.lt⟩, BX7.out.cell 2 _ rfl⟩ ⟨⟨by show w.heap.size ≤ w.heap.size + 1; omega, BX7.out.lt⟩, BX7.out.cell 3 _ rfl⟩ (Rx7.out.wide (by omega) (by (try simp only [World.size_setCell]); omega))⟩

set_option maxHeartbeats 4000000 in
set_option maxRecDepth 100000 in
theorem e_b_select (f : Nat) (hE : BE f) (hS : BS f) (n : N) (v : Value) (bb : Nat) (w : World) (hn : n.size ≤ 400) (hkd : n.kind.toList = [115, 101, 108, 101, 99, 116]) (hsh : shE (f + 1) n = true) (hk : KidsAt (· < w.heap.size) w v n.kids) (hB : Bd w bb) :
    Calls Tryz.prog 58 #[Pt bb, n.val v] w fun e w' => ∃ r, e = .returned r ∧ isE r = true ∧ Made w w' n r := by
  have hkb : isK n [115, 101, 108, 101, 99, 116] = true := by simp [isK, hkd]
  have hq : kid1B (fun x => shE f x) n.kids = true := by
    simpa [shE, isK, hkd] using hsh
  obtain ⟨x, hx, hsx⟩ := kid1B_ex hq
  have hxs : x.size ≤ 400 := by have := N.size_kid (m := n) (n := x) (i := 0) (by rw [hx]; rfl); omega
  clear hq hsh
  have HX := Lib.hid hx
  have HSX := Lib.hid hsx
  have HKB := Lib.hid hkb
  clear hx hsx hkb
  have HE := Lib.hid hE
  have HS := Lib.hid hS
  clear hE hS
  obtain ⟨a, cap, rfl, hcap, hel⟩ := hk.shape
  have hlen := N.len_lt n
  have HK := Lib.hid hk
  have HBd := Lib.hid hB
  have HW0 := Lib.hid ((Below.refl w.heap.size w).alloc (Nat.le_refl _) (Obj.cells #[Value.string n.kind, Value.string n.text, Value.slice a n.kids.length cap] 24))
  have BN0 : Hid (Blk (w.alloc (Obj.cells #[Value.string n.kind, Value.string n.text, Value.slice a n.kids.length cap] 24)) w.heap.size 24 #[Value.string n.kind, Value.string n.text, Value.slice a n.kids.length cap]) := Lib.hid (Blk.new w _ 24)
  have hs0 : ((w.alloc (Obj.cells #[Value.string n.kind, Value.string n.text, Value.slice a n.kids.length cap] 24))).heap.size = w.heap.size + 1 := by simp
  have HS0 := Lib.hid hs0
  clear hk hB hel hs0
  unfold N.val
  go_enter Tryz.func58, Tryz.ntmps58
  go_wp2_with fail
  refine (kid_any n _ 0 x _ (HK.out.later HW0.out) (by rw [HX.out]; rfl)).mono ?_
  rintro ek1 wk1 ⟨vk1, rfl, hb1, hk1⟩
  have HK1 := Lib.hid hk1
  clear hk1
  have sz2 := hb1.size
  try simp only [World.size_setCell, World.size_alloc] at sz2
  have HW2 := Lib.hid (HW0.out.trans (hb1.mono (by (try simp only [World.size_setCell, World.size_alloc]); omega)))
  have BN2 := Lib.hid (BN0.out.later hb1 (by (try simp only [World.size_setCell, World.size_alloc]); omega))
  clear HW0 BN0
  clear hb1
  go_wp2_with fail
  refine (HE.out x vk1 bb _ hxs HSX.out HK1.out (HBd.out.later HW2.out)).mono ?_
  rintro ec3 wc3 ⟨rx, rfl, hexx, hb3, hr3⟩
  have szz3 := hb3.size
  try simp only [World.size_setCell, World.size_alloc] at szz3
  have sz4 := hb3.size
  try simp only [World.size_setCell, World.size_alloc] at sz4
  have HW4 := Lib.hid (HW2.out.trans (hb3.mono (by (try simp only [World.size_setCell, World.size_alloc]); omega)))
  have BN4 := Lib.hid (BN2.out.later hb3 (by (try simp only [World.size_setCell, World.size_alloc]); omega))
  clear HW2 BN2
  try simp only [World.size_setCell, World.size_alloc] at hr3
  have Rx4 := Lib.hid hr3
  clear hb3 hr3
  obtain ⟨tx, px, rfl⟩ := isE_form hexx Rx4.out
  have e04 := BN4.out.cell 0 _ rfl
  have e14 := BN4.out.cell 1 _ rfl
  have e24 := BN4.out.cell 2 _ rfl
  go_wp2_with fail
  have sx5 : ((wc3.alloc (Obj.cells #[(.iface tx (Pt px)), Value.pointer none] 125))).heap.size = (wc3).heap.size + 1 := by simp only [World.size_alloc]
  have HW5 := Lib.hid (HW4.out.alloc (by (try simp only [World.size_setCell, World.size_alloc]); omega) (Obj.cells #[(.iface tx (Pt px)), Value.pointer none] 125))
  have BN5 := Lib.hid (BN4.out.later ((Below.refl (wc3).heap.size wc3).alloc (Nat.le_refl _) (Obj.cells #[(.iface tx (Pt px)), Value.pointer none] 125)) (by (try simp only [World.size_setCell, World.size_alloc]); omega))
  have BX5 := Lib.hid (Blk.new wc3 #[(.iface tx (Pt px)), Value.pointer none] 125)
  have Rx5 := Lib.hid (Rx4.out.beneath ((Below.refl (wc3).heap.size wc3).alloc (Nat.le_refl _) (Obj.cells #[(.iface tx (Pt px)), Value.pointer none] 125)) (Nat.le_refl _) (by (try simp only [World.size_setCell, World.size_alloc]); omega) (Nat.le_refl _))
  clear HW4 BN4 Rx4 e04 e14 e24
  try simp only [World.size_setCell, World.size_alloc] at BX5 sx5
  refine (next_any bb _ (HBd.out.later HW5.out)).mono ?_
  rintro e6q wq6 ⟨rfl, hq6⟩
  subst hq6
  have e05 := BN5.out.cell 0 _ rfl
  have e15 := BN5.out.cell 1 _ rfl
  have e25 := BN5.out.cell 2 _ rfl
  go_wp2_with fail
  refine (ident_any bb n.text _ (HBd.out.later HW5.out)).mono ?_
  rintro ec7 wc7 ⟨ps, rfl, hb7, hr7⟩
  have szz7 := hb7.size
  try simp only [World.size_setCell, World.size_alloc] at szz7
  have sz8 := hb7.size
  try simp only [World.size_setCell, World.size_alloc] at sz8
  have HW8 := Lib.hid (HW5.out.trans (hb7.mono (by (try simp only [World.size_setCell, World.size_alloc]); omega)))
  have BN8 := Lib.hid (BN5.out.later hb7 (by (try simp only [World.size_setCell, World.size_alloc]); omega))
  have BX8 := Lib.hid (BX5.out.later hb7 (by (try simp only [World.size_setCell, World.size_alloc]); omega))
  have Rx8 := Lib.hid (Rx5.out.beneath hb7 (Nat.le_refl _) (by (try simp only [World.size_setCell, World.size_alloc]); omega) (Nat.le_refl _))
  clear HW5 BN5 BX5 Rx5 e05 e15 e25
  try simp only [World.size_setCell, World.size_alloc] at hr7
  have Rs8 := Lib.hid hr7
  clear hb7 hr7
  have x18c := BX8.out.cell 1 _ rfl
  have x18f := BX8.out.frozen 1
  have x18l := BX8.out.lt
  have e08 := BN8.out.cell 0 _ rfl
  have e18 := BN8.out.cell 1 _ rfl
  have e28 := BN8.out.cell 2 _ rfl
  have sb9 := BX8.out.lt
  have HW9 := Lib.hid (HW8.out.setCell (p := ⟨wc3.heap.size, 1, none⟩) (by show w.heap.size ≤ wc3.heap.size; omega) (Pt ps))
  have BN9 := Lib.hid (BN8.out.other (wc3.heap.size) 1 (Pt ps) (by omega))
  have BX9 := Lib.hid (BX8.out.set 1 (Pt ps))
  have Rx9 := Lib.hid (Rx8.out.setX (X := wc3.heap.size) (i := 1) (u := (Pt ps)) (by omega))
  have Rs9 := Lib.hid (Rs8.out.setX (X := wc3.heap.size) (i := 1) (u := (Pt ps)) (by omega))
  clear HW8 BN8 BX8 Rx8 Rs8
  go_wp2_with fail
  go_ret
  exact ⟨_, rfl, rfl, HW9.out, .select n _ x _ _ HKB.out HX.out hexx ⟨⟨by show w.heap.size ≤ wc3.heap.size; omega, BX9.out.lt⟩, BX9.out.cell 0 _ rfl⟩ ⟨⟨by show w.heap.size ≤ wc3.heap.size; omega, BX9.out.lt⟩, BX9.out.cell 1 _ rfl⟩ (Rx9.out.wide (by omega) (by (try simp only [World.size_setCell]); omega)) (Rs9.out.wide (by omega) (by (try simp only [World.size_setCell]); omega))⟩

set_option maxHeartbeats 4000000 in
set_option maxRecDepth 100000 in
theorem e_b_name (f : Nat) (hE : BE f) (hS : BS f) (n : N) (v : Value) (bb : Nat) (w : World) (hn : n.size ≤ 400) (hkd : n.kind.toList = [110, 97, 109, 101]) (hsh : shE (f + 1) n = true) (hk : KidsAt (· < w.heap.size) w v n.kids) (hB : Bd w bb) :
    Calls Tryz.prog 58 #[Pt bb, n.val v] w fun e w' => ∃ r, e = .returned r ∧ isE r = true ∧ Made w w' n r := by
  have hkb : isK n [110, 97, 109, 101] = true := by simp [isK, hkd]
  have hnk : n.kids = [] := by
    have h : n.kids.length = 0 := by simpa [shE, isK, hkd] using hsh
    exact List.length_eq_zero_iff.1 h
  have HKB := Lib.hid hkb
  have HNK := Lib.hid hnk
  clear hsh hkb hnk
  have HE := Lib.hid hE
  have HS := Lib.hid hS
  clear hE hS
  obtain ⟨a, cap, rfl, hcap, hel⟩ := hk.shape
  have hlen := N.len_lt n
  have HK := Lib.hid hk
  have HBd := Lib.hid hB
  have HW0 := Lib.hid ((Below.refl w.heap.size w).alloc (Nat.le_refl _) (Obj.cells #[Value.string n.kind, Value.string n.text, Value.slice a n.kids.length cap] 24))
  have BN0 : Hid (Blk (w.alloc (Obj.cells #[Value.string n.kind, Value.string n.text, Value.slice a n.kids.length cap] 24)) w.heap.size 24 #[Value.string n.kind, Value.string n.text, Value.slice a n.kids.length cap]) := Lib.hid (Blk.new w _ 24)
  have hs0 : ((w.alloc (Obj.cells #[Value.string n.kind, Value.string n.text, Value.slice a n.kids.length cap] 24))).heap.size = w.heap.size + 1 := by simp
  have HS0 := Lib.hid hs0
  clear hk hB hel hs0
  unfold N.val
  go_enter Tryz.func58, Tryz.ntmps58
  have e00 := BN0.out.cell 0 _ rfl
  have e10 := BN0.out.cell 1 _ rfl
  have e20 := BN0.out.cell 2 _ rfl
  go_wp2_with fail
  refine (ident_any bb n.text _ (HBd.out.later HW0.out)).mono ?_
  rintro ec1 wc1 ⟨ps, rfl, hb1, hr1⟩
  have szz1 := hb1.size
  try simp only [World.size_setCell, World.size_alloc] at szz1
  have sz2 := hb1.size
  try simp only [World.size_setCell, World.size_alloc] at sz2
  have HW2 := Lib.hid (HW0.out.trans (hb1.mono (by (try simp only [World.size_setCell, World.size_alloc]); omega)))
  have BN2 := Lib.hid (BN0.out.later hb1 (by (try simp only [World.size_setCell, World.size_alloc]); omega))
  clear HW0 BN0 e00 e10 e20
  try simp only [World.size_setCell, World.size_alloc] at hr1
  have Rs2 := Lib.hid hr1
  clear hb1 hr1
  go_wp2_with fail
  go_ret
  exact ⟨_, rfl, rfl, HW2.out, leaf_name HKB.out HNK.out (Rs2.out.wide (by omega) (by (try simp only [World.size_setCell]); omega))⟩

set_option maxHeartbeats 4000000 in
set_option maxRecDepth 100000 in
theorem e_b_literal (f : Nat) (hE : BE f) (hS : BS f) (n : N) (v : Value) (bb : Nat) (w : World) (hn : n.size ≤ 400) (hkd : n.kind.toList = [108, 105, 116, 101, 114, 97, 108]) (hsh : shE (f + 1) n = true) (hk : KidsAt (· < w.heap.size) w v n.kids) (hB : Bd w bb) :
    Calls Tryz.prog 58 #[Pt bb, n.val v] w fun e w' => ∃ r, e = .returned r ∧ isE r = true ∧ Made w w' n r := by
  have hkb : isK n [108, 105, 116, 101, 114, 97, 108] = true := by simp [isK, hkd]
  have hnk : n.kids = [] := by
    have h : n.kids.length = 0 := by simpa [shE, isK, hkd] using hsh
    exact List.length_eq_zero_iff.1 h
  have HKB := Lib.hid hkb
  have HNK := Lib.hid hnk
  clear hsh hkb hnk
  have HE := Lib.hid hE
  have HS := Lib.hid hS
  clear hE hS
  obtain ⟨a, cap, rfl, hcap, hel⟩ := hk.shape
  have hlen := N.len_lt n
  have HK := Lib.hid hk
  have HBd := Lib.hid hB
  have HW0 := Lib.hid ((Below.refl w.heap.size w).alloc (Nat.le_refl _) (Obj.cells #[Value.string n.kind, Value.string n.text, Value.slice a n.kids.length cap] 24))
  have BN0 : Hid (Blk (w.alloc (Obj.cells #[Value.string n.kind, Value.string n.text, Value.slice a n.kids.length cap] 24)) w.heap.size 24 #[Value.string n.kind, Value.string n.text, Value.slice a n.kids.length cap]) := Lib.hid (Blk.new w _ 24)
  have hs0 : ((w.alloc (Obj.cells #[Value.string n.kind, Value.string n.text, Value.slice a n.kids.length cap] 24))).heap.size = w.heap.size + 1 := by simp
  have HS0 := Lib.hid hs0
  clear hk hB hel hs0
  unfold N.val
  go_enter Tryz.func58, Tryz.ntmps58
  have e00 := BN0.out.cell 0 _ rfl
  have e10 := BN0.out.cell 1 _ rfl
  have e20 := BN0.out.cell 2 _ rfl
  go_wp2_with fail
  refine (literal_any bb n.text _ (HBd.out.later HW0.out)).mono ?_
  rintro ec1 wc1 ⟨ps, rfl, hb1, hr1⟩
  have szz1 := hb1.size
  try simp only [World.size_setCell, World.size_alloc] at szz1
  have sz2 := hb1.size
  try simp only [World.size_setCell, World.size_alloc] at sz2
  have HW2 := Lib.hid (HW0.out.trans (hb1.mono (by (try simp only [World.size_setCell, World.size_alloc]); omega)))
  have BN2 := Lib.hid (BN0.out.later hb1 (by (try simp only [World.size_setCell, World.size_alloc]); omega))
  clear HW0 BN0 e00 e10 e20
  try simp only [World.size_setCell, World.size_alloc] at hr1
  have Rs2 := Lib.hid hr1
  clear hb1 hr1
  go_wp2_with fail
  go_ret
  exact ⟨_, rfl, rfl, HW2.out, leaf_literal HKB.out HNK.out (Rs2.out.wide (by omega) (by (try simp only [World.size_setCell]); omega))⟩

set_option maxHeartbeats 4000000 in
set_option maxRecDepth 100000 in
theorem sig_made (f : Nat) (hE : BE f) (hS : BS f) (n : N) (v : Value) (bb : Nat) (at_ : Int) (w : World) (hn : n.size ≤ 400) (hkd : n.kind.toList = [115, 105, 103, 110, 97, 116, 117, 114, 101]) (hsh : shE (f + 1) n = true) (hk : KidsAt (· < w.heap.size) w v n.kids) (hB : Bd w bb) :
    Calls Tryz.prog 37 #[Pt bb, n.val v, .int .i64 at_] w fun e w' => ∃ s, e = .returned (Pt s) ∧ Made w w' n (Nd 58 s) := by
  have hkb : isK n [115, 105, 103, 110, 97, 116, 117, 114, 101] = true := by simp [isK, hkd]
  have hq : n.text.toList.isEmpty = true ∧ kid2B (fun x y => shF (shE f) bare x && orB (shF (shE f) bare) y) n.kids = true := by
    simpa [shE, isK, hkd] using hsh
  obtain ⟨htx, hq⟩ := hq
  obtain ⟨x, y, hx, hsx, hsy⟩ := kid2B_ex2 hq
  have hxs : x.size ≤ 400 := by have := N.size_kid (m := n) (n := x) (i := 0) (by rw [hx]; rfl); omega
  have hys : y.size ≤ 400 := by have := N.size_kid (m := n) (n := y) (i := 1) (by rw [hx]; rfl); omega
  clear hq hsh
  have HX := Lib.hid hx
  have HTX := Lib.hid htx
  have HSX := Lib.hid hsx
  have HSY := Lib.hid hsy
  have HKB := Lib.hid hkb
  clear hx hsx hsy hkb htx
  have HE := Lib.hid hE
  have HS := Lib.hid hS
  clear hE hS
  cases hmy : missing y with
  | true =>
    obtain ⟨a, cap, rfl, hcap, hel⟩ := hk.shape
    have hlen := N.len_lt n
    have HK := Lib.hid hk
    have HBd := Lib.hid hB
    have HW0 := Lib.hid ((Below.refl w.heap.size w).alloc (Nat.le_refl _) (Obj.cells #[Value.string n.kind, Value.string n.text, Value.slice a n.kids.length cap] 24))
    have BN0 : Hid (Blk (w.alloc (Obj.cells #[Value.string n.kind, Value.string n.text, Value.slice a n.kids.length cap] 24)) w.heap.size 24 #[Value.string n.kind, Value.string n.text, Value.slice a n.kids.length cap]) := Lib.hid (Blk.new w _ 24)
    have hs0 : ((w.alloc (Obj.cells #[Value.string n.kind, Value.string n.text, Value.slice a n.kids.length cap] 24))).heap.size = w.heap.size + 1 := by simp
    have HS0 := Lib.hid hs0
    clear hk hB hel hs0
    unfold N.val
    go_enter Tryz.func37, Tryz.ntmps37
    go_wp2_with fail
    have sx1 : (((w.alloc (Obj.cells #[Value.string n.kind, Value.string n.text, Value.slice a n.kids.length cap] 24)).alloc (Obj.cells #[Value.int .i64 at_, Value.pointer none, Value.pointer none, Value.pointer none] 95))).heap.size = ((w.alloc (Obj.cells #[Value.string n.kind, Value.string n.text, Value.slice a n.kids.length cap] 24))).heap.size + 1 := by simp only [World.size_alloc]
    have HW1 := Lib.hid (HW0.out.alloc (by (try simp only [World.size_setCell, World.size_alloc]); omega) (Obj.cells #[Value.int .i64 at_, Value.pointer none, Value.pointer none, Value.pointer none] 95))
    have BN1 := Lib.hid (BN0.out.later ((Below.refl ((w.alloc (Obj.cells #[Value.string n.kind, Value.string n.text, Value.slice a n.kids.length cap] 24))).heap.size (w.alloc (Obj.cells #[Value.string n.kind, Value.string n.text, Value.slice a n.kids.length cap] 24))).alloc (Nat.le_refl _) (Obj.cells #[Value.int .i64 at_, Value.pointer none, Value.pointer none, Value.pointer none] 95)) (by (try simp only [World.size_setCell, World.size_alloc]); omega))
    have BX1 := Lib.hid (Blk.new (w.alloc (Obj.cells #[Value.string n.kind, Value.string n.text, Value.slice a n.kids.length cap] 24)) #[Value.int .i64 at_, Value.pointer none, Value.pointer none, Value.pointer none] 95)
    clear HW0 BN0
    try simp only [World.size_setCell, World.size_alloc] at BX1 sx1
    have e01 := BN1.out.cell 0 _ rfl
    have e11 := BN1.out.cell 1 _ rfl
    have e21 := BN1.out.cell 2 _ rfl
    refine (kid_any n _ 0 x _ (HK.out.later HW1.out) (by rw [HX.out]; rfl)).mono ?_
    rintro ek2 wk2 ⟨vk2, rfl, hb2, hk2⟩
    have HK2 := Lib.hid hk2
    clear hk2
    have sz3 := hb2.size
    try simp only [World.size_setCell, World.size_alloc] at sz3
    have HW3 := Lib.hid (HW1.out.trans (hb2.mono (by (try simp only [World.size_setCell, World.size_alloc]); omega)))
    have BN3 := Lib.hid (BN1.out.later hb2 (by (try simp only [World.size_setCell, World.size_alloc]); omega))
    have BX3 := Lib.hid (BX1.out.later hb2 (by (try simp only [World.size_setCell, World.size_alloc]); omega))
    clear HW1 BN1 BX1 e01 e11 e21
    clear hb2
    go_wp2_with fail
    refine (params_made HE.out HS.out x vk2 bb _ hxs HSX.out HK2.out (HBd.out.later HW3.out)).mono ?_
    rintro ec4 wc4 ⟨px, rfl, hb4, hr4⟩
    have szz4 := hb4.size
    try simp only [World.size_setCell, World.size_alloc] at szz4
    have sz5 := hb4.size
    try simp only [World.size_setCell, World.size_alloc] at sz5
    have HW5 := Lib.hid (HW3.out.trans (hb4.mono (by (try simp only [World.size_setCell, World.size_alloc]); omega)))
    have BN5 := Lib.hid (BN3.out.later hb4 (by (try simp only [World.size_setCell, World.size_alloc]); omega))
    have BX5 := Lib.hid (BX3.out.later hb4 (by (try simp only [World.size_setCell, World.size_alloc]); omega))
    clear HW3 BN3 BX3
    try simp only [World.size_setCell, World.size_alloc] at hr4
    have Rx5 := Lib.hid hr4
    clear hb4 hr4
    have x25c := BX5.out.cell 2 _ rfl
    have x25f := BX5.out.frozen 2
    have x25l := BX5.out.lt
    have e05 := BN5.out.cell 0 _ rfl
    have e15 := BN5.out.cell 1 _ rfl
    have e25 := BN5.out.cell 2 _ rfl
    have sb6 := BX5.out.lt
    have HW6 := Lib.hid (HW5.out.setCell (p := ⟨(w.heap.size + 1), 2, none⟩) (by show w.heap.size ≤ (w.heap.size + 1); omega) (Pt px))
    have BN6 := Lib.hid (BN5.out.other ((w.heap.size + 1)) 2 (Pt px) (by omega))
    have BX6 := Lib.hid (BX5.out.set 2 (Pt px))
    have Rx6 := Lib.hid (Rx5.out.setX (X := (w.heap.size + 1)) (i := 2) (u := (Pt px)) (by omega))
    clear HW5 BN5 BX5 Rx5
    go_wp2_with fail
    refine (kid_any n _ 1 y _ (HK.out.later HW6.out) (by rw [HX.out]; rfl)).mono ?_
    rintro ek7 wk7 ⟨vk7, rfl, hb7, hk7⟩
    have HK7 := Lib.hid hk7
    clear hk7
    have sz8 := hb7.size
    try simp only [World.size_setCell, World.size_alloc] at sz8
    have HW8 := Lib.hid (HW6.out.trans (hb7.mono (by (try simp only [World.size_setCell, World.size_alloc]); omega)))
    have BN8 := Lib.hid (BN6.out.later hb7 (by (try simp only [World.size_setCell, World.size_alloc]); omega))
    have BX8 := Lib.hid (BX6.out.later hb7 (by (try simp only [World.size_setCell, World.size_alloc]); omega))
    have Rx8 := Lib.hid (Rx6.out.beneath hb7 (Nat.le_refl _) (by (try simp only [World.size_setCell, World.size_alloc]); omega) (Nat.le_refl _))
    clear HW6 BN6 BX6 Rx6 x25c x25f x25l e05 e15 e25
    clear hb7
    go_wp2_with fail
    refine (params_none bb y vk7 _ hmy HK7.out).mono ?_
    rintro e9n wc9 ⟨rfl, hb9⟩
    have sz10 := hb9.size
    try simp only [World.size_setCell, World.size_alloc] at sz10
    have HW10 := Lib.hid (HW8.out.trans (hb9.mono (by (try simp only [World.size_setCell, World.size_alloc]); omega)))
    have BN10 := Lib.hid (BN8.out.later hb9 (by (try simp only [World.size_setCell, World.size_alloc]); omega))
    have BX10 := Lib.hid (BX8.out.later hb9 (by (try simp only [World.size_setCell, World.size_alloc]); omega))
    have Rx10 := Lib.hid (Rx8.out.beneath hb9 (Nat.le_refl _) (by (try simp only [World.size_setCell, World.size_alloc]); omega) (Nat.le_refl _))
    clear HW8 BN8 BX8 Rx8
    clear hb9
    have x310c := BX10.out.cell 3 _ rfl
    have x310f := BX10.out.frozen 3
    have x310l := BX10.out.lt
    have e010 := BN10.out.cell 0 _ rfl
    have e110 := BN10.out.cell 1 _ rfl
    have e210 := BN10.out.cell 2 _ rfl
    have sb11 := BX10.out.lt
    have HW11 := Lib.hid (HW10.out.setCell (p := ⟨(w.heap.size + 1), 3, none⟩) (by show w.heap.size ≤ (w.heap.size + 1); omega) (Value.pointer none))
    have BN11 := Lib.hid (BN10.out.other ((w.heap.size + 1)) 3 (Value.pointer none) (by omega))
    have BX11 := Lib.hid (BX10.out.set 3 (Value.pointer none))
    have Rx11 := Lib.hid (Rx10.out.setX (X := (w.heap.size + 1)) (i := 3) (u := (Value.pointer none)) (by omega))
    clear HW10 BN10 BX10 Rx10
    go_wp2_with fail
    go_ret
    exact ⟨_, rfl, HW11.out, .signature n _ x _ y _ _ HKB.out HTX.out HX.out ⟨⟨by show w.heap.size ≤ w.heap.size + 1; omega, BX11.out.lt⟩, BX11.out.cell 1 _ rfl⟩ ⟨⟨by show w.heap.size ≤ w.heap.size + 1; omega, BX11.out.lt⟩, BX11.out.cell 2 _ rfl⟩ ⟨⟨by show w.heap.size ≤ w.heap.size + 1; omega, BX11.out.lt⟩, BX11.out.cell 3 _ rfl⟩ (.inl ⟨rfl, rfl⟩) (Rx11.out.wide (by omega) (by (try simp only [World.size_setCell]); omega)) (.none y hmy)⟩
  | false =>
    have hsy2 : shF (shE f) bare y = true := by have h := HSY.out; simpa [orB, hmy] using h
    have HSY := Lib.hid hsy2
    clear hsy2 hmy
    obtain ⟨a, cap, rfl, hcap, hel⟩ := hk.shape
    have hlen := N.len_lt n
    have HK := Lib.hid hk
    have HBd := Lib.hid hB
    have HW0 := Lib.hid ((Below.refl w.heap.size w).alloc (Nat.le_refl _) (Obj.cells #[Value.string n.kind, Value.string n.text, Value.slice a n.kids.length cap] 24))
    have BN0 : Hid (Blk (w.alloc (Obj.cells #[Value.string n.kind, Value.string n.text, Value.slice a n.kids.length cap] 24)) w.heap.size 24 #[Value.string n.kind, Value.string n.text, Value.slice a n.kids.length cap]) := Lib.hid (Blk.new w _ 24)
    have hs0 : ((w.alloc (Obj.cells #[Value.string n.kind, Value.string n.text, Value.slice a n.kids.length cap] 24))).heap.size = w.heap.size + 1 := by simp
    have HS0 := Lib.hid hs0
    clear hk hB hel hs0
    unfold N.val
    go_enter Tryz.func37, Tryz.ntmps37
    go_wp2_with fail
    have sx1 : (((w.alloc (Obj.cells #[Value.string n.kind, Value.string n.text, Value.slice a n.kids.length cap] 24)).alloc (Obj.cells #[Value.int .i64 at_, Value.pointer none, Value.pointer none, Value.pointer none] 95))).heap.size = ((w.alloc (Obj.cells #[Value.string n.kind, Value.string n.text, Value.slice a n.kids.length cap] 24))).heap.size + 1 := by simp only [World.size_alloc]
    have HW1 := Lib.hid (HW0.out.alloc (by (try simp only [World.size_setCell, World.size_alloc]); omega) (Obj.cells #[Value.int .i64 at_, Value.pointer none, Value.pointer none, Value.pointer none] 95))
    have BN1 := Lib.hid (BN0.out.later ((Below.refl ((w.alloc (Obj.cells #[Value.string n.kind, Value.string n.text, Value.slice a n.kids.length cap] 24))).heap.size (w.alloc (Obj.cells #[Value.string n.kind, Value.string n.text, Value.slice a n.kids.length cap] 24))).alloc (Nat.le_refl _) (Obj.cells #[Value.int .i64 at_, Value.pointer none, Value.pointer none, Value.pointer none] 95)) (by (try simp only [World.size_setCell, World.size_alloc]); omega))
    have BX1 := Lib.hid (Blk.new (w.alloc (Obj.cells #[Value.string n.kind, Value.string n.text, Value.slice a n.kids.length cap] 24)) #[Value.int .i64 at_, Value.pointer none, Value.pointer none, Value.pointer none] 95)
    clear HW0 BN0
    try simp only [World.size_setCell, World.size_alloc] at BX1 sx1
    have e01 := BN1.out.cell 0 _ rfl
    have e11 := BN1.out.cell 1 _ rfl
    have e21 := BN1.out.cell 2 _ rfl
    refine (kid_any n _ 0 x _ (HK.out.later HW1.out) (by rw [HX.out]; rfl)).mono ?_
    rintro ek2 wk2 ⟨vk2, rfl, hb2, hk2⟩
    have HK2 := Lib.hid hk2
    clear hk2
    have sz3 := hb2.size
    try simp only [World.size_setCell, World.size_alloc] at sz3
    have HW3 := Lib.hid (HW1.out.trans (hb2.mono (by (try simp only [World.size_setCell, World.size_alloc]); omega)))
    have BN3 := Lib.hid (BN1.out.later hb2 (by (try simp only [World.size_setCell, World.size_alloc]); omega))
    have BX3 := Lib.hid (BX1.out.later hb2 (by (try simp only [World.size_setCell, World.size_alloc]); omega))
    clear HW1 BN1 BX1 e01 e11 e21
    clear hb2
    go_wp2_with fail
    refine (params_made HE.out HS.out x vk2 bb _ hxs HSX.out HK2.out (HBd.out.later HW3.out)).mono ?_
    rintro ec4 wc4 ⟨px, rfl, hb4, hr4⟩
    have szz4 := hb4.size
    try simp only [World.size_setCell, World.size_alloc] at szz4
    have sz5 := hb4.size
    try simp only [World.size_setCell, World.size_alloc] at sz5
    have HW5 := Lib.hid (HW3.out.trans (hb4.mono (by (try simp only [World.size_setCell, World.size_alloc]); omega)))
    have BN5 := Lib.hid (BN3.out.later hb4 (by (try simp only [World.size_setCell, World.size_alloc]); omega))
    have BX5 := Lib.hid (BX3.out.later hb4 (by (try simp only [World.size_setCell, World.size_alloc]); omega))
    clear HW3 BN3 BX3
    try simp only [World.size_setCell, World.size_alloc] at hr4
    have Rx5 := Lib.hid hr4
    clear hb4 hr4
    have x25c := BX5.out.cell 2 _ rfl
    have x25f := BX5.out.frozen 2
    have x25l := BX5.out.lt
    have e05 := BN5.out.cell 0 _ rfl
    have e15 := BN5.out.cell 1 _ rfl
    have e25 := BN5.out.cell 2 _ rfl
    have sb6 := BX5.out.lt
    have HW6 := Lib.hid (HW5.out.setCell (p := ⟨(w.heap.size + 1), 2, none⟩) (by show w.heap.size ≤ (w.heap.size + 1); omega) (Pt px))
    have BN6 := Lib.hid (BN5.out.other ((w.heap.size + 1)) 2 (Pt px) (by omega))
    have BX6 := Lib.hid (BX5.out.set 2 (Pt px))
    have Rx6 := Lib.hid (Rx5.out.setX (X := (w.heap.size + 1)) (i := 2) (u := (Pt px)) (by omega))
    clear HW5 BN5 BX5 Rx5
    go_wp2_with fail
    refine (kid_any n _ 1 y _ (HK.out.later HW6.out) (by rw [HX.out]; rfl)).mono ?_
    rintro ek7 wk7 ⟨vk7, rfl, hb7, hk7⟩
    have HK7 := Lib.hid hk7
    clear hk7
    have sz8 := hb7.size
    try simp only [World.size_setCell, World.size_alloc] at sz8
    have HW8 := Lib.hid (HW6.out.trans (hb7.mono (by (try simp only [World.size_setCell, World.size_alloc]); omega)))
    have BN8 := Lib.hid (BN6.out.later hb7 (by (try simp only [World.size_setCell, World.size_alloc]); omega))
    have BX8 := Lib.hid (BX6.out.later hb7 (by (try simp only [World.size_setCell, World.size_alloc]); omega))
    have Rx8 := Lib.hid (Rx6.out.beneath hb7 (Nat.le_refl _) (by (try simp only [World.size_setCell, World.size_alloc]); omega) (Nat.le_refl _))
    clear HW6 BN6 BX6 Rx6 x25c x25f x25l e05 e15 e25
    clear hb7
    go_wp2_with fail
    refine (params_made HE.out HS.out y vk7 bb _ hys HSY.out HK7.out (HBd.out.later HW8.out)).mono ?_
    rintro ec9 wc9 ⟨py, rfl, hb9, hr9⟩
    have szz9 := hb9.size
    try simp only [World.size_setCell, World.size_alloc] at szz9
    have sz10 := hb9.size
    try simp only [World.size_setCell, World.size_alloc] at sz10
    have HW10 := Lib.hid (HW8.out.trans (hb9.mono (by (try simp only [World.size_setCell, World.size_alloc]); omega)))
    have BN10 := Lib.hid (BN8.out.later hb9 (by (try simp only [World.size_setCell, World.size_alloc]); omega))
    have BX10 := Lib.hid (BX8.out.later hb9 (by (try simp only [World.size_setCell, World.size_alloc]); omega))
    have Rx10 := Lib.hid (Rx8.out.beneath hb9 (Nat.le_refl _) (by (try simp only [World.size_setCell, World.size_alloc]); omega) (Nat.le_refl _))
    clear HW8 BN8 BX8 Rx8
    try simp only [World.size_setCell, World.size_alloc] at hr9
    have Ry10 := Lib.hid hr9
    clear hb9 hr9
    have x310c := BX10.out.cell 3 _ rfl
    have x310f := BX10.out.frozen 3
    have x310l := BX10.out.lt
    have e010 := BN10.out.cell 0 _ rfl
    have e110 := BN10.out.cell 1 _ rfl
    have e210 := BN10.out.cell 2 _ rfl
    have sb11 := BX10.out.lt
    have HW11 := Lib.hid (HW10.out.setCell (p := ⟨(w.heap.size + 1), 3, none⟩) (by show w.heap.size ≤ (w.heap.size + 1); omega) (Pt py))
    have BN11 := Lib.hid (BN10.out.other ((w.heap.size + 1)) 3 (Pt py) (by omega))
    have BX11 := Lib.hid (BX10.out.set 3 (Pt py))
    have Rx11 := Lib.hid (Rx10.out.setX (X := (w.heap.size + 1)) (i := 3) (u := (Pt py)) (by omega))
    have Ry11 := Lib.hid (Ry10.out.setX (X := (w.heap.size + 1)) (i := 3) (u := (Pt py)) (by omega))
    clear HW10 BN10 BX10 Rx10 Ry10
    go_wp2_with fail
    go_ret
    exact ⟨_, rfl, HW11.out, .signature n _ x _ y _ _ HKB.out HTX.out HX.out ⟨⟨by show w.heap.size ≤ w.heap.size + 1; omega, BX11.out.lt⟩, BX11.out.cell 1 _ rfl⟩ ⟨⟨by show w.heap.size ≤ w.heap.size + 1; omega, BX11.out.lt⟩, BX11.out.cell 2 _ rfl⟩ ⟨⟨by show w.heap.size ≤ w.heap.size + 1; omega, BX11.out.lt⟩, BX11.out.cell 3 _ rfl⟩ (.inr ⟨_, rfl, rfl⟩) (Rx11.out.wide (by omega) (by (try simp only [World.size_setCell]); omega)) (Ry11.out.wide (by omega) (by (try simp only [World.size_setCell]); omega))⟩

set_option maxHeartbeats 4000000 in
set_option maxRecDepth 100000 in
theorem e_b_signature (f : Nat) (hE : BE f) (hS : BS f) (n : N) (v : Value) (bb : Nat) (w : World) (hn : n.size ≤ 400) (hkd : n.kind.toList = [115, 105, 103, 110, 97, 116, 117, 114, 101]) (hsh : shE (f + 1) n = true) (hk : KidsAt (· < w.heap.size) w v n.kids) (hB : Bd w bb) :
    Calls Tryz.prog 58 #[Pt bb, n.val v] w fun e w' => ∃ r, e = .returned r ∧ isE r = true ∧ Made w w' n r := by
  have hkb : isK n [115, 105, 103, 110, 97, 116, 117, 114, 101] = true := by simp [isK, hkd]
  have HSH := Lib.hid hsh
  clear hsh
  have HE := Lib.hid hE
  have HS := Lib.hid hS
  clear hE hS
  obtain ⟨a, cap, rfl, hcap, hel⟩ := hk.shape
  have hlen := N.len_lt n
  have HK := Lib.hid hk
  have HBd := Lib.hid hB
  have HW0 := Lib.hid ((Below.refl w.heap.size w).alloc (Nat.le_refl _) (Obj.cells #[Value.string n.kind, Value.string n.text, Value.slice a n.kids.length cap] 24))
  have BN0 : Hid (Blk (w.alloc (Obj.cells #[Value.string n.kind, Value.string n.text, Value.slice a n.kids.length cap] 24)) w.heap.size 24 #[Value.string n.kind, Value.string n.text, Value.slice a n.kids.length cap]) := Lib.hid (Blk.new w _ 24)
  have hs0 : ((w.alloc (Obj.cells #[Value.string n.kind, Value.string n.text, Value.slice a n.kids.length cap] 24))).heap.size = w.heap.size + 1 := by simp
  have HS0 := Lib.hid hs0
  clear hk hB hel hs0
  unfold N.val
  go_enter Tryz.func58, Tryz.ntmps58
  go_wp2_with fail
  refine (next_any bb _ (HBd.out.later HW0.out)).mono ?_
  rintro e1q wq1 ⟨rfl, hq1⟩
  subst hq1
  go_wp2_with fail
  refine (sig_made f HE.out HS.out n _ bb 1 _ hn hkd HSH.out (HK.out.later HW0.out) (HBd.out.later HW0.out)).mono ?_
  rintro ec2 wc2 ⟨ps, rfl, hb2, hr2⟩
  have szz2 := hb2.size
  try simp only [World.size_setCell, World.size_alloc] at szz2
  have sz3 := hb2.size
  try simp only [World.size_setCell, World.size_alloc] at sz3
  have HW3 := Lib.hid (HW0.out.trans (hb2.mono (by (try simp only [World.size_setCell, World.size_alloc]); omega)))
  have BN3 := Lib.hid (BN0.out.later hb2 (by (try simp only [World.size_setCell, World.size_alloc]); omega))
  clear HW0 BN0
  try simp only [World.size_setCell, World.size_alloc] at hr2
  have Rs3 := Lib.hid hr2
  clear hb2 hr2
  go_wp2_with fail
  go_ret
  exact ⟨_, rfl, rfl, HW3.out, (Rs3.out.wide (by omega) (by (try simp only [World.size_setCell]); omega))⟩

theorem b_all (f : Nat) : BE f ∧ BS f := by
  induction f with
  | zero => exact ⟨fun n v bb w _ h => by simp [shE] at h, fun n v bb w _ _ h => by simp [shE] at h⟩
  | succ f ih =>
    obtain ⟨hE, hS⟩ := ih
    refine ⟨fun n v bb w hn hsh hk hB => ?_, fun n v bb w hn hkd hsh hk hB => sig_made f hE hS n v bb 0 w hn (by simpa [isK] using hkd) hsh hk hB⟩
    by_cases k0 : n.kind.toList = [110, 97, 109, 101]
    · exact e_b_name f hE hS n v bb w hn k0 hsh hk hB
    by_cases k1 : n.kind.toList = [108, 105, 116, 101, 114, 97, 108]
    · exact e_b_literal f hE hS n v bb w hn k1 hsh hk hB
    by_cases k2 : n.kind.toList = [115, 101, 108, 101, 99, 116]
    · exact e_b_select f hE hS n v bb w hn k2 hsh hk hB
    by_cases k3 : n.kind.toList = [115, 116, 97, 114]
    · exact e_b_star f hE hS n v bb w hn k3 hsh hk hB
    by_cases k4 : n.kind.toList = [97, 114, 114, 97, 121]
    · exact e_b_array f hE hS n v bb w hn k4 hsh hk hB
    by_cases k5 : n.kind.toList = [109, 97, 112]
    · exact e_b_map f hE hS n v bb w hn k5 hsh hk hB
    by_cases k6 : n.kind.toList = [99, 104, 97, 110]
    · have h := hsh
      simp [shE, isK, k6] at h
      rcases h.1 with h | h
      · rcases h with h | h
        · exact e_b_chan_both f hE hS n v bb w hn k6 hsh hk hB (by simpa using h)
        · exact e_b_chan_send f hE hS n v bb w hn k6 hsh hk hB h
      · exact e_b_chan_receive f hE hS n v bb w hn k6 hsh hk hB h
    by_cases k7 : n.kind.toList = [115, 105, 103, 110, 97, 116, 117, 114, 101]
    · exact e_b_signature f hE hS n v bb w hn k7 hsh hk hB
    by_cases k8 : n.kind.toList = [115, 116, 114, 117, 99, 116]
    · exact e_b_struct f hE hS n v bb w hn k8 hsh hk hB
    by_cases k9 : n.kind.toList = [105, 110, 116, 101, 114, 102, 97, 99, 101]
    · exact e_b_interface f hE hS n v bb w hn k9 hsh hk hB
    · simp [shE, isK, k0, k1, k2, k3, k4, k5, k6, k7, k8, k9] at hsh
end Go.Proofs.YtoijkbkcfbbmfaaGreatDoor

/- What is proved here: the builder's parts of declarations: paths and types. -/
namespace Go.Proofs.YtoijkbkcfbbmfaaGreatDoor
open Go.RowKit Go.Shelf
set_option linter.unusedSimpArgs false
set_option linter.unusedVariables false
theorem fld_0 (a b : ByteArray) (c : Option Addr) (d e : Nat) (w : World) : (Instr.field 24 (.agg #[.string a, .string b, .slice c d e]) 0).run Tryz.prog w = .ok (.string a) w := by kernel_rfl
theorem fld_1 (a b : ByteArray) (c : Option Addr) (d e : Nat) (w : World) : (Instr.field 24 (.agg #[.string a, .string b, .slice c d e]) 1).run Tryz.prog w = .ok (.string b) w := by kernel_rfl
theorem fld_2 (a b : ByteArray) (c : Option Addr) (d e : Nat) (w : World) : (Instr.field 24 (.agg #[.string a, .string b, .slice c d e]) 2).run Tryz.prog w = .ok (.slice c d e) w := by kernel_rfl
attribute [local go_sem] fld_0 fld_1 fld_2

set_option maxHeartbeats 4000000 in
set_option maxRecDepth 100000 in
theorem i_path_named (f : Nat) (hE : BE f) (hS : BS f) (n : N) (v : Value) (bb : Nat) (w : World) (hn : n.size ≤ 400) (hkd : n.kind.toList = [112, 97, 116, 104]) (x : N) (hx : n.kids = [x]) (hxk : x.kind.toList = [110, 97, 109, 101]) (hnm : isName x = true) (hk : KidsAt (· < w.heap.size) w v n.kids) (hB : Bd w bb) :
    Calls Tryz.prog 39 #[Pt bb, n.val v] w fun e w' => ∃ r, e = .returned r ∧ isS r = true ∧ Made w w' n r := by
  have hkb : isK n [112, 97, 116, 104] = true := by simp [isK, hkd]
  have HX := Lib.hid hx
  have HKB := Lib.hid hkb
  have HNM := Lib.hid hnm
  clear hx hkb hnm
  have HE := Lib.hid hE
  have HS := Lib.hid hS
  clear hE hS
  obtain ⟨a, cap, rfl, hcap, hel⟩ := hk.shape
  have hlen := N.len_lt n
  have HK := Lib.hid hk
  have HBd := Lib.hid hB
  have HW0 := Lib.hid ((Below.refl w.heap.size w).alloc (Nat.le_refl _) (Obj.cells #[Value.string n.kind, Value.string n.text, Value.slice a n.kids.length cap] 24))
  have BN0 : Hid (Blk (w.alloc (Obj.cells #[Value.string n.kind, Value.string n.text, Value.slice a n.kids.length cap] 24)) w.heap.size 24 #[Value.string n.kind, Value.string n.text, Value.slice a n.kids.length cap]) := Lib.hid (Blk.new w _ 24)
  have hs0 : ((w.alloc (Obj.cells #[Value.string n.kind, Value.string n.text, Value.slice a n.kids.length cap] 24))).heap.size = w.heap.size + 1 := by simp
  have HS0 := Lib.hid hs0
  clear hk hB hel hs0
  unfold N.val
  go_enter Tryz.func39, Tryz.ntmps39
  go_wp2_with fail
  have sx1 : (((w.alloc (Obj.cells #[Value.string n.kind, Value.string n.text, Value.slice a n.kids.length cap] 24)).alloc (Obj.cells #[Value.pointer none, Value.pointer none, Value.pointer none, Value.pointer none, Value.int .i64 0] 99))).heap.size = ((w.alloc (Obj.cells #[Value.string n.kind, Value.string n.text, Value.slice a n.kids.length cap] 24))).heap.size + 1 := by simp only [World.size_alloc]
  have HW1 := Lib.hid (HW0.out.alloc (by (try simp only [World.size_setCell, World.size_alloc]); omega) (Obj.cells #[Value.pointer none, Value.pointer none, Value.pointer none, Value.pointer none, Value.int .i64 0] 99))
  have BN1 := Lib.hid (BN0.out.later ((Below.refl ((w.alloc (Obj.cells #[Value.string n.kind, Value.string n.text, Value.slice a n.kids.length cap] 24))).heap.size (w.alloc (Obj.cells #[Value.string n.kind, Value.string n.text, Value.slice a n.kids.length cap] 24))).alloc (Nat.le_refl _) (Obj.cells #[Value.pointer none, Value.pointer none, Value.pointer none, Value.pointer none, Value.int .i64 0] 99)) (by (try simp only [World.size_setCell, World.size_alloc]); omega))
  have BX1 := Lib.hid (Blk.new (w.alloc (Obj.cells #[Value.string n.kind, Value.string n.text, Value.slice a n.kids.length cap] 24)) #[Value.pointer none, Value.pointer none, Value.pointer none, Value.pointer none, Value.int .i64 0] 99)
  clear HW0 BN0
  try simp only [World.size_setCell, World.size_alloc] at BX1 sx1
  have e01 := BN1.out.cell 0 _ rfl
  have e11 := BN1.out.cell 1 _ rfl
  have e21 := BN1.out.cell 2 _ rfl
  have en1 := BN1.out.lt
  refine (kid_any n _ 0 x _ (HK.out.later HW1.out) (by rw [HX.out]; rfl)).mono ?_
  rintro ek2 wk2 ⟨vk2, rfl, hb2, hk2⟩
  have HK2 := Lib.hid hk2
  clear hk2
  have sz3 := hb2.size
  try simp only [World.size_setCell, World.size_alloc] at sz3
  have HW3 := Lib.hid (HW1.out.trans (hb2.mono (by (try simp only [World.size_setCell, World.size_alloc]); omega)))
  have BN3 := Lib.hid (BN1.out.later hb2 (by (try simp only [World.size_setCell, World.size_alloc]); omega))
  have BX3 := Lib.hid (BX1.out.later hb2 (by (try simp only [World.size_setCell, World.size_alloc]); omega))
  clear HW1 BN1 BX1 e01 e11 e21 en1
  clear hb2
  obtain ⟨ak2, ck2, hvk2, _, _⟩ := HK2.out.shape
  subst hvk2
  unfold N.val
  have e03 := BN3.out.cell 0 _ rfl
  have e13 := BN3.out.cell 1 _ rfl
  have e23 := BN3.out.cell 2 _ rfl
  have en3 := BN3.out.lt
  go_wp2_with fail
  refine (kid_any n _ 0 x _ (HK.out.later HW3.out) (by rw [HX.out]; rfl)).mono ?_
  rintro ek4 wk4 ⟨vk4, rfl, hb4, hk4⟩
  have HK4 := Lib.hid hk4
  clear hk4
  have sz5 := hb4.size
  try simp only [World.size_setCell, World.size_alloc] at sz5
  have HW5 := Lib.hid (HW3.out.trans (hb4.mono (by (try simp only [World.size_setCell, World.size_alloc]); omega)))
  have BN5 := Lib.hid (BN3.out.later hb4 (by (try simp only [World.size_setCell, World.size_alloc]); omega))
  have BX5 := Lib.hid (BX3.out.later hb4 (by (try simp only [World.size_setCell, World.size_alloc]); omega))
  clear HW3 BN3 BX3 e03 e13 e23 en3
  clear hb4
  obtain ⟨ak4, ck4, hvk4, _, _⟩ := HK4.out.shape
  subst hvk4
  unfold N.val
  go_wp2_with fail
  refine (ident_any bb x.text _ (HBd.out.later HW5.out)).mono ?_
  rintro ec6 wc6 ⟨px, rfl, hb6, hr6⟩
  have szz6 := hb6.size
  try simp only [World.size_setCell, World.size_alloc] at szz6
  have sz7 := hb6.size
  try simp only [World.size_setCell, World.size_alloc] at sz7
  have HW7 := Lib.hid (HW5.out.trans (hb6.mono (by (try simp only [World.size_setCell, World.size_alloc]); omega)))
  have BN7 := Lib.hid (BN5.out.later hb6 (by (try simp only [World.size_setCell, World.size_alloc]); omega))
  have BX7 := Lib.hid (BX5.out.later hb6 (by (try simp only [World.size_setCell, World.size_alloc]); omega))
  clear HW5 BN5 BX5
  try simp only [World.size_setCell, World.size_alloc] at hr6
  have Rx7 := Lib.hid hr6
  clear hb6 hr6
  have x17c := BX7.out.cell 1 _ rfl
  have x17f := BX7.out.frozen 1
  have x17l := BX7.out.lt
  have e07 := BN7.out.cell 0 _ rfl
  have e17 := BN7.out.cell 1 _ rfl
  have e27 := BN7.out.cell 2 _ rfl
  have en7 := BN7.out.lt
  have sb8 := BX7.out.lt
  have HW8 := Lib.hid (HW7.out.setCell (p := ⟨(w.heap.size + 1), 1, none⟩) (by show w.heap.size ≤ (w.heap.size + 1); omega) (Pt px))
  have BN8 := Lib.hid (BN7.out.other ((w.heap.size + 1)) 1 (Pt px) (by omega))
  have BX8 := Lib.hid (BX7.out.set 1 (Pt px))
  have Rx8 := Lib.hid (Rx7.out.setX (X := (w.heap.size + 1)) (i := 1) (u := (Pt px)) (by omega))
  clear HW7 BN7 BX7 Rx7
  go_wp2_with fail
  refine (literal_any bb n.text _ (HBd.out.later HW8.out)).mono ?_
  rintro ec9 wc9 ⟨pt, rfl, hb9, hr9⟩
  have szz9 := hb9.size
  try simp only [World.size_setCell, World.size_alloc] at szz9
  have sz10 := hb9.size
  try simp only [World.size_setCell, World.size_alloc] at sz10
  have HW10 := Lib.hid (HW8.out.trans (hb9.mono (by (try simp only [World.size_setCell, World.size_alloc]); omega)))
  have BN10 := Lib.hid (BN8.out.later hb9 (by (try simp only [World.size_setCell, World.size_alloc]); omega))
  have BX10 := Lib.hid (BX8.out.later hb9 (by (try simp only [World.size_setCell, World.size_alloc]); omega))
  have Rx10 := Lib.hid (Rx8.out.beneath hb9 (Nat.le_refl _) (by (try simp only [World.size_setCell, World.size_alloc]); omega) (Nat.le_refl _))
  clear HW8 BN8 BX8 Rx8 x17c x17f x17l e07 e17 e27 en7
  try simp only [World.size_setCell, World.size_alloc] at hr9
  have Rt10 := Lib.hid hr9
  clear hb9 hr9
  have x210c := BX10.out.cell 2 _ rfl
  have x210f := BX10.out.frozen 2
  have x210l := BX10.out.lt
  have e010 := BN10.out.cell 0 _ rfl
  have e110 := BN10.out.cell 1 _ rfl
  have e210 := BN10.out.cell 2 _ rfl
  have en10 := BN10.out.lt
  have sb11 := BX10.out.lt
  have HW11 := Lib.hid (HW10.out.setCell (p := ⟨(w.heap.size + 1), 2, none⟩) (by show w.heap.size ≤ (w.heap.size + 1); omega) (Pt pt))
  have BN11 := Lib.hid (BN10.out.other ((w.heap.size + 1)) 2 (Pt pt) (by omega))
  have BX11 := Lib.hid (BX10.out.set 2 (Pt pt))
  have Rx11 := Lib.hid (Rx10.out.setX (X := (w.heap.size + 1)) (i := 2) (u := (Pt pt)) (by omega))
  have Rt11 := Lib.hid (Rt10.out.setX (X := (w.heap.size + 1)) (i := 2) (u := (Pt pt)) (by omega))
  clear HW10 BN10 BX10 Rx10 Rt10
  go_wp2_with fail
  go_ret
  exact ⟨_, rfl, rfl, HW11.out, .path n _ x _ _ _ HKB.out HX.out ⟨⟨by show w.heap.size ≤ w.heap.size + 1; omega, BX11.out.lt⟩, BX11.out.cell 0 _ rfl⟩ ⟨⟨by show w.heap.size ≤ w.heap.size + 1; omega, BX11.out.lt⟩, BX11.out.cell 1 _ rfl⟩ (.inr ⟨_, rfl, rfl⟩) ((Rx11.out.wide (by omega) (by (try simp only [World.size_setCell]); omega)).ident_of HNM.out) ⟨⟨by show w.heap.size ≤ w.heap.size + 1; omega, BX11.out.lt⟩, BX11.out.cell 2 _ rfl⟩ (Rt11.out.wide (by omega) (by (try simp only [World.size_setCell]); omega)) ⟨⟨by show w.heap.size ≤ w.heap.size + 1; omega, BX11.out.lt⟩, BX11.out.cell 3 _ rfl⟩⟩

set_option maxHeartbeats 4000000 in
set_option maxRecDepth 100000 in
theorem i_path_bare (f : Nat) (hE : BE f) (hS : BS f) (n : N) (v : Value) (bb : Nat) (w : World) (hn : n.size ≤ 400) (hkd : n.kind.toList = [112, 97, 116, 104]) (x : N) (hx : n.kids = [x]) (hxk : x.kind.toList = [110, 111, 110, 101]) (hnm : missing x = true) (hk : KidsAt (· < w.heap.size) w v n.kids) (hB : Bd w bb) :
    Calls Tryz.prog 39 #[Pt bb, n.val v] w fun e w' => ∃ r, e = .returned r ∧ isS r = true ∧ Made w w' n r := by
  have hkb : isK n [112, 97, 116, 104] = true := by simp [isK, hkd]
  have HX := Lib.hid hx
  have HKB := Lib.hid hkb
  have HNM := Lib.hid hnm
  clear hx hkb hnm
  have HE := Lib.hid hE
  have HS := Lib.hid hS
  clear hE hS
  obtain ⟨a, cap, rfl, hcap, hel⟩ := hk.shape
  have hlen := N.len_lt n
  have HK := Lib.hid hk
  have HBd := Lib.hid hB
  have HW0 := Lib.hid ((Below.refl w.heap.size w).alloc (Nat.le_refl _) (Obj.cells #[Value.string n.kind, Value.string n.text, Value.slice a n.kids.length cap] 24))
  have BN0 : Hid (Blk (w.alloc (Obj.cells #[Value.string n.kind, Value.string n.text, Value.slice a n.kids.length cap] 24)) w.heap.size 24 #[Value.string n.kind, Value.string n.text, Value.slice a n.kids.length cap]) := Lib.hid (Blk.new w _ 24)
  have hs0 : ((w.alloc (Obj.cells #[Value.string n.kind, Value.string n.text, Value.slice a n.kids.length cap] 24))).heap.size = w.heap.size + 1 := by simp
  have HS0 := Lib.hid hs0
  clear hk hB hel hs0
  unfold N.val
  go_enter Tryz.func39, Tryz.ntmps39
  go_wp2_with fail
  have sx1 : (((w.alloc (Obj.cells #[Value.string n.kind, Value.string n.text, Value.slice a n.kids.length cap] 24)).alloc (Obj.cells #[Value.pointer none, Value.pointer none, Value.pointer none, Value.pointer none, Value.int .i64 0] 99))).heap.size = ((w.alloc (Obj.cells #[Value.string n.kind, Value.string n.text, Value.slice a n.kids.length cap] 24))).heap.size + 1 := by simp only [World.size_alloc]
  have HW1 := Lib.hid (HW0.out.alloc (by (try simp only [World.size_setCell, World.size_alloc]); omega) (Obj.cells #[Value.pointer none, Value.pointer none, Value.pointer none, Value.pointer none, Value.int .i64 0] 99))
  have BN1 := Lib.hid (BN0.out.later ((Below.refl ((w.alloc (Obj.cells #[Value.string n.kind, Value.string n.text, Value.slice a n.kids.length cap] 24))).heap.size (w.alloc (Obj.cells #[Value.string n.kind, Value.string n.text, Value.slice a n.kids.length cap] 24))).alloc (Nat.le_refl _) (Obj.cells #[Value.pointer none, Value.pointer none, Value.pointer none, Value.pointer none, Value.int .i64 0] 99)) (by (try simp only [World.size_setCell, World.size_alloc]); omega))
  have BX1 := Lib.hid (Blk.new (w.alloc (Obj.cells #[Value.string n.kind, Value.string n.text, Value.slice a n.kids.length cap] 24)) #[Value.pointer none, Value.pointer none, Value.pointer none, Value.pointer none, Value.int .i64 0] 99)
  clear HW0 BN0
  try simp only [World.size_setCell, World.size_alloc] at BX1 sx1
  have e01 := BN1.out.cell 0 _ rfl
  have e11 := BN1.out.cell 1 _ rfl
  have e21 := BN1.out.cell 2 _ rfl
  have en1 := BN1.out.lt
  refine (kid_any n _ 0 x _ (HK.out.later HW1.out) (by rw [HX.out]; rfl)).mono ?_
  rintro ek2 wk2 ⟨vk2, rfl, hb2, hk2⟩
  have HK2 := Lib.hid hk2
  clear hk2
  have sz3 := hb2.size
  try simp only [World.size_setCell, World.size_alloc] at sz3
  have HW3 := Lib.hid (HW1.out.trans (hb2.mono (by (try simp only [World.size_setCell, World.size_alloc]); omega)))
  have BN3 := Lib.hid (BN1.out.later hb2 (by (try simp only [World.size_setCell, World.size_alloc]); omega))
  have BX3 := Lib.hid (BX1.out.later hb2 (by (try simp only [World.size_setCell, World.size_alloc]); omega))
  clear HW1 BN1 BX1 e01 e11 e21 en1
  clear hb2
  obtain ⟨ak2, ck2, hvk2, _, _⟩ := HK2.out.shape
  subst hvk2
  unfold N.val
  have e03 := BN3.out.cell 0 _ rfl
  have e13 := BN3.out.cell 1 _ rfl
  have e23 := BN3.out.cell 2 _ rfl
  have en3 := BN3.out.lt
  go_wp2_with fail
  refine (literal_any bb n.text _ (HBd.out.later HW3.out)).mono ?_
  rintro ec4 wc4 ⟨pt, rfl, hb4, hr4⟩
  have szz4 := hb4.size
  try simp only [World.size_setCell, World.size_alloc] at szz4
  have sz5 := hb4.size
  try simp only [World.size_setCell, World.size_alloc] at sz5
  have HW5 := Lib.hid (HW3.out.trans (hb4.mono (by (try simp only [World.size_setCell, World.size_alloc]); omega)))
  have BN5 := Lib.hid (BN3.out.later hb4 (by (try simp only [World.size_setCell, World.size_alloc]); omega))
  have BX5 := Lib.hid (BX3.out.later hb4 (by (try simp only [World.size_setCell, World.size_alloc]); omega))
  clear HW3 BN3 BX3 e03 e13 e23 en3
  try simp only [World.size_setCell, World.size_alloc] at hr4
  have Rt5 := Lib.hid hr4
  clear hb4 hr4
  have x25c := BX5.out.cell 2 _ rfl
  have x25f := BX5.out.frozen 2
  have x25l := BX5.out.lt
  have e05 := BN5.out.cell 0 _ rfl
  have e15 := BN5.out.cell 1 _ rfl
  have e25 := BN5.out.cell 2 _ rfl
  have en5 := BN5.out.lt
  have sb6 := BX5.out.lt
  have HW6 := Lib.hid (HW5.out.setCell (p := ⟨(w.heap.size + 1), 2, none⟩) (by show w.heap.size ≤ (w.heap.size + 1); omega) (Pt pt))
  have BN6 := Lib.hid (BN5.out.other ((w.heap.size + 1)) 2 (Pt pt) (by omega))
  have BX6 := Lib.hid (BX5.out.set 2 (Pt pt))
  have Rt6 := Lib.hid (Rt5.out.setX (X := (w.heap.size + 1)) (i := 2) (u := (Pt pt)) (by omega))
  clear HW5 BN5 BX5 Rt5
  go_wp2_with fail
  go_ret
  exact ⟨_, rfl, rfl, HW6.out, .path n _ x _ _ _ HKB.out HX.out ⟨⟨by show w.heap.size ≤ w.heap.size + 1; omega, BX6.out.lt⟩, BX6.out.cell 0 _ rfl⟩ ⟨⟨by show w.heap.size ≤ w.heap.size + 1; omega, BX6.out.lt⟩, BX6.out.cell 1 _ rfl⟩ (.inl ⟨rfl, rfl⟩) (.none x HNM.out) ⟨⟨by show w.heap.size ≤ w.heap.size + 1; omega, BX6.out.lt⟩, BX6.out.cell 2 _ rfl⟩ (Rt6.out.wide (by omega) (by (try simp only [World.size_setCell]); omega)) ⟨⟨by show w.heap.size ≤ w.heap.size + 1; omega, BX6.out.lt⟩, BX6.out.cell 3 _ rfl⟩⟩

set_option maxHeartbeats 4000000 in
set_option maxRecDepth 100000 in
theorem i_type (f : Nat) (hE : BE f) (hS : BS f) (n : N) (v : Value) (bb : Nat) (w : World) (hn : n.size ≤ 400) (hkd : n.kind.toList = [116, 121, 112, 101]) (x : N) (hx : n.kids = [x]) (hsx : shE f x = true) (hk : KidsAt (· < w.heap.size) w v n.kids) (hB : Bd w bb) :
    Calls Tryz.prog 39 #[Pt bb, n.val v] w fun e w' => ∃ r, e = .returned r ∧ isS r = true ∧ Made w w' n r := by
  have hkb : isK n [116, 121, 112, 101] = true := by simp [isK, hkd]
  have hxs : x.size ≤ 400 := by have := N.size_kid (m := n) (n := x) (i := 0) (by rw [hx]; rfl); omega
  have HX := Lib.hid hx
  have HKB := Lib.hid hkb
  have HSX := Lib.hid hsx
  clear hx hkb hsx
  have HE := Lib.hid hE
  have HS := Lib.hid hS
  clear hE hS
  obtain ⟨a, cap, rfl, hcap, hel⟩ := hk.shape
  have hlen := N.len_lt n
  have HK := Lib.hid hk
  have HBd := Lib.hid hB
  have HW0 := Lib.hid ((Below.refl w.heap.size w).alloc (Nat.le_refl _) (Obj.cells #[Value.string n.kind, Value.string n.text, Value.slice a n.kids.length cap] 24))
  have BN0 : Hid (Blk (w.alloc (Obj.cells #[Value.string n.kind, Value.string n.text, Value.slice a n.kids.length cap] 24)) w.heap.size 24 #[Value.string n.kind, Value.string n.text, Value.slice a n.kids.length cap]) := Lib.hid (Blk.new w _ 24)
  have hs0 : ((w.alloc (Obj.cells #[Value.string n.kind, Value.string n.text, Value.slice a n.kids.length cap] 24))).heap.size = w.heap.size + 1 := by simp
  have HS0 := Lib.hid hs0
  clear hk hB hel hs0
  unfold N.val
  go_enter Tryz.func39, Tryz.ntmps39
  have e00 := BN0.out.cell 0 _ rfl
  have e10 := BN0.out.cell 1 _ rfl
  have e20 := BN0.out.cell 2 _ rfl
  have en0 := BN0.out.lt
  go_wp2_with fail
  refine (ident_any bb n.text _ (HBd.out.later HW0.out)).mono ?_
  rintro ec1 wc1 ⟨ps, rfl, hb1, hr1⟩
  have szz1 := hb1.size
  try simp only [World.size_setCell, World.size_alloc] at szz1
  have sz2 := hb1.size
  try simp only [World.size_setCell, World.size_alloc] at sz2
  have HW2 := Lib.hid (HW0.out.trans (hb1.mono (by (try simp only [World.size_setCell, World.size_alloc]); omega)))
  have BN2 := Lib.hid (BN0.out.later hb1 (by (try simp only [World.size_setCell, World.size_alloc]); omega))
  clear HW0 BN0 e00 e10 e20 en0
  try simp only [World.size_setCell, World.size_alloc] at hr1
  have Rs2 := Lib.hid hr1
  clear hb1 hr1
  have e02 := BN2.out.cell 0 _ rfl
  have e12 := BN2.out.cell 1 _ rfl
  have e22 := BN2.out.cell 2 _ rfl
  have en2 := BN2.out.lt
  go_wp2_with fail
  have sx3 : ((wc1.alloc (Obj.cells #[Value.pointer none, (Pt ps), Value.pointer none, Value.int .i64 0, Value.nilIface, Value.pointer none] 112))).heap.size = (wc1).heap.size + 1 := by simp only [World.size_alloc]
  have HW3 := Lib.hid (HW2.out.alloc (by (try simp only [World.size_setCell, World.size_alloc]); omega) (Obj.cells #[Value.pointer none, (Pt ps), Value.pointer none, Value.int .i64 0, Value.nilIface, Value.pointer none] 112))
  have BN3 := Lib.hid (BN2.out.later ((Below.refl (wc1).heap.size wc1).alloc (Nat.le_refl _) (Obj.cells #[Value.pointer none, (Pt ps), Value.pointer none, Value.int .i64 0, Value.nilIface, Value.pointer none] 112)) (by (try simp only [World.size_setCell, World.size_alloc]); omega))
  have BX3 := Lib.hid (Blk.new wc1 #[Value.pointer none, (Pt ps), Value.pointer none, Value.int .i64 0, Value.nilIface, Value.pointer none] 112)
  have Rs3 := Lib.hid (Rs2.out.beneath ((Below.refl (wc1).heap.size wc1).alloc (Nat.le_refl _) (Obj.cells #[Value.pointer none, (Pt ps), Value.pointer none, Value.int .i64 0, Value.nilIface, Value.pointer none] 112)) (Nat.le_refl _) (by (try simp only [World.size_setCell, World.size_alloc]); omega) (Nat.le_refl _))
  clear HW2 BN2 Rs2 e02 e12 e22 en2
  try simp only [World.size_setCell, World.size_alloc] at BX3 sx3
  have e03 := BN3.out.cell 0 _ rfl
  have e13 := BN3.out.cell 1 _ rfl
  have e23 := BN3.out.cell 2 _ rfl
  have en3 := BN3.out.lt
  refine (kid_any n _ 0 x _ (HK.out.later HW3.out) (by rw [HX.out]; rfl)).mono ?_
  rintro ek4 wk4 ⟨vk4, rfl, hb4, hk4⟩
  have HK4 := Lib.hid hk4
  clear hk4
  have sz5 := hb4.size
  try simp only [World.size_setCell, World.size_alloc] at sz5
  have HW5 := Lib.hid (HW3.out.trans (hb4.mono (by (try simp only [World.size_setCell, World.size_alloc]); omega)))
  have BN5 := Lib.hid (BN3.out.later hb4 (by (try simp only [World.size_setCell, World.size_alloc]); omega))
  have BX5 := Lib.hid (BX3.out.later hb4 (by (try simp only [World.size_setCell, World.size_alloc]); omega))
  have Rs5 := Lib.hid (Rs3.out.beneath hb4 (Nat.le_refl _) (by (try simp only [World.size_setCell, World.size_alloc]); omega) (Nat.le_refl _))
  clear HW3 BN3 BX3 Rs3 e03 e13 e23 en3
  clear hb4
  go_wp2_with fail
  refine (HE.out x vk4 bb _ hxs HSX.out HK4.out (HBd.out.later HW5.out)).mono ?_
  rintro ec6 wc6 ⟨rx, rfl, hexx, hb6, hr6⟩
  have szz6 := hb6.size
  try simp only [World.size_setCell, World.size_alloc] at szz6
  have sz7 := hb6.size
  try simp only [World.size_setCell, World.size_alloc] at sz7
  have HW7 := Lib.hid (HW5.out.trans (hb6.mono (by (try simp only [World.size_setCell, World.size_alloc]); omega)))
  have BN7 := Lib.hid (BN5.out.later hb6 (by (try simp only [World.size_setCell, World.size_alloc]); omega))
  have BX7 := Lib.hid (BX5.out.later hb6 (by (try simp only [World.size_setCell, World.size_alloc]); omega))
  have Rs7 := Lib.hid (Rs5.out.beneath hb6 (Nat.le_refl _) (by (try simp only [World.size_setCell, World.size_alloc]); omega) (Nat.le_refl _))
  clear HW5 BN5 BX5 Rs5
  try simp only [World.size_setCell, World.size_alloc] at hr6
  have Rx7 := Lib.hid hr6
  clear hb6 hr6
  obtain ⟨tx, px, rfl⟩ := isE_form hexx Rx7.out
  have x47c := BX7.out.cell 4 _ rfl
  have x47f := BX7.out.frozen 4
  have x47l := BX7.out.lt
  have e07 := BN7.out.cell 0 _ rfl
  have e17 := BN7.out.cell 1 _ rfl
  have e27 := BN7.out.cell 2 _ rfl
  have en7 := BN7.out.lt
  have sb8 := BX7.out.lt
  have HW8 := Lib.hid (HW7.out.setCell (p := ⟨wc1.heap.size, 4, none⟩) (by show w.heap.size ≤ wc1.heap.size; omega) (.iface tx (Pt px)))
  have BN8 := Lib.hid (BN7.out.other (wc1.heap.size) 4 (.iface tx (Pt px)) (by omega))
  have BX8 := Lib.hid (BX7.out.set 4 (.iface tx (Pt px)))
  have Rs8 := Lib.hid (Rs7.out.setX (X := wc1.heap.size) (i := 4) (u := (.iface tx (Pt px))) (by omega))
  have Rx8 := Lib.hid (Rx7.out.setX (X := wc1.heap.size) (i := 4) (u := (.iface tx (Pt px))) (by omega))
  clear HW7 BN7 BX7 Rs7 Rx7
  go_wp2_with fail
  go_ret
  exact ⟨_, rfl, rfl, HW8.out, .type n _ x _ _ 0 (.inl ⟨HKB.out, rfl⟩) HX.out ⟨⟨by show w.heap.size ≤ wc1.heap.size; omega, BX8.out.lt⟩, BX8.out.cell 0 _ rfl⟩ ⟨⟨by show w.heap.size ≤ wc1.heap.size; omega, BX8.out.lt⟩, BX8.out.cell 1 _ rfl⟩ (Rs8.out.wide (by omega) (by (try simp only [World.size_setCell]); omega)) ⟨⟨by show w.heap.size ≤ wc1.heap.size; omega, BX8.out.lt⟩, BX8.out.cell 2 _ rfl⟩ ⟨⟨by show w.heap.size ≤ wc1.heap.size; omega, BX8.out.lt⟩, BX8.out.cell 3 _ rfl⟩ hexx ⟨⟨by show w.heap.size ≤ wc1.heap.size; omega, BX8.out.lt⟩, BX8.out.cell 4 _ rfl⟩ (Rx8.out.wide (by omega) (by (try simp only [World.size_setCell]); omega)) ⟨⟨by show w.heap.size ≤ wc1.heap.size; omega, BX8.out.lt⟩, BX8.out.cell 5 _ rfl⟩⟩

set_option maxHeartbeats 4000000 in
set_option maxRecDepth 100000 in
theorem i_alias (f : Nat) (hE : BE f) (hS : BS f) (n : N) (v : Value) (bb : Nat) (w : World) (hn : n.size ≤ 400) (hkd : n.kind.toList = [97, 108, 105, 97, 115]) (x : N) (hx : n.kids = [x]) (hsx : shE f x = true) (hk : KidsAt (· < w.heap.size) w v n.kids) (hB : Bd w bb) :
    Calls Tryz.prog 39 #[Pt bb, n.val v] w fun e w' => ∃ r, e = .returned r ∧ isS r = true ∧ Made w w' n r := by
  have hkb : isK n [97, 108, 105, 97, 115] = true := by simp [isK, hkd]
  have hxs : x.size ≤ 400 := by have := N.size_kid (m := n) (n := x) (i := 0) (by rw [hx]; rfl); omega
  have HX := Lib.hid hx
  have HKB := Lib.hid hkb
  have HSX := Lib.hid hsx
  clear hx hkb hsx
  have HE := Lib.hid hE
  have HS := Lib.hid hS
  clear hE hS
  obtain ⟨a, cap, rfl, hcap, hel⟩ := hk.shape
  have hlen := N.len_lt n
  have HK := Lib.hid hk
  have HBd := Lib.hid hB
  have HW0 := Lib.hid ((Below.refl w.heap.size w).alloc (Nat.le_refl _) (Obj.cells #[Value.string n.kind, Value.string n.text, Value.slice a n.kids.length cap] 24))
  have BN0 : Hid (Blk (w.alloc (Obj.cells #[Value.string n.kind, Value.string n.text, Value.slice a n.kids.length cap] 24)) w.heap.size 24 #[Value.string n.kind, Value.string n.text, Value.slice a n.kids.length cap]) := Lib.hid (Blk.new w _ 24)
  have hs0 : ((w.alloc (Obj.cells #[Value.string n.kind, Value.string n.text, Value.slice a n.kids.length cap] 24))).heap.size = w.heap.size + 1 := by simp
  have HS0 := Lib.hid hs0
  clear hk hB hel hs0
  unfold N.val
  go_enter Tryz.func39, Tryz.ntmps39
  have e00 := BN0.out.cell 0 _ rfl
  have e10 := BN0.out.cell 1 _ rfl
  have e20 := BN0.out.cell 2 _ rfl
  have en0 := BN0.out.lt
  go_wp2_with fail
  refine (ident_any bb n.text _ (HBd.out.later HW0.out)).mono ?_
  rintro ec1 wc1 ⟨ps, rfl, hb1, hr1⟩
  have szz1 := hb1.size
  try simp only [World.size_setCell, World.size_alloc] at szz1
  have sz2 := hb1.size
  try simp only [World.size_setCell, World.size_alloc] at sz2
  have HW2 := Lib.hid (HW0.out.trans (hb1.mono (by (try simp only [World.size_setCell, World.size_alloc]); omega)))
  have BN2 := Lib.hid (BN0.out.later hb1 (by (try simp only [World.size_setCell, World.size_alloc]); omega))
  clear HW0 BN0 e00 e10 e20 en0
  try simp only [World.size_setCell, World.size_alloc] at hr1
  have Rs2 := Lib.hid hr1
  clear hb1 hr1
  have e02 := BN2.out.cell 0 _ rfl
  have e12 := BN2.out.cell 1 _ rfl
  have e22 := BN2.out.cell 2 _ rfl
  have en2 := BN2.out.lt
  go_wp2_with fail
  refine (next_any bb _ (HBd.out.later (HW2.out.alloc (by (try simp only [World.size_setCell, World.size_alloc]); omega) (Obj.cells #[Value.pointer none, (Pt ps), Value.pointer none, Value.int .i64 0, Value.nilIface, Value.pointer none] 112)))).mono ?_
  rintro eq2 wq2 ⟨rfl, hq2⟩
  subst hq2
  go_wp2_with fail
  have sx3 : ((wc1.alloc (Obj.cells #[Value.pointer none, (Pt ps), Value.pointer none, Value.int .i64 1, Value.nilIface, Value.pointer none] 112))).heap.size = (wc1).heap.size + 1 := by simp only [World.size_alloc]
  have HW3 := Lib.hid (HW2.out.alloc (by (try simp only [World.size_setCell, World.size_alloc]); omega) (Obj.cells #[Value.pointer none, (Pt ps), Value.pointer none, Value.int .i64 1, Value.nilIface, Value.pointer none] 112))
  have BN3 := Lib.hid (BN2.out.later ((Below.refl (wc1).heap.size wc1).alloc (Nat.le_refl _) (Obj.cells #[Value.pointer none, (Pt ps), Value.pointer none, Value.int .i64 1, Value.nilIface, Value.pointer none] 112)) (by (try simp only [World.size_setCell, World.size_alloc]); omega))
  have BX3 := Lib.hid (Blk.new wc1 #[Value.pointer none, (Pt ps), Value.pointer none, Value.int .i64 1, Value.nilIface, Value.pointer none] 112)
  have Rs3 := Lib.hid (Rs2.out.beneath ((Below.refl (wc1).heap.size wc1).alloc (Nat.le_refl _) (Obj.cells #[Value.pointer none, (Pt ps), Value.pointer none, Value.int .i64 1, Value.nilIface, Value.pointer none] 112)) (Nat.le_refl _) (by (try simp only [World.size_setCell, World.size_alloc]); omega) (Nat.le_refl _))
  clear HW2 BN2 Rs2 e02 e12 e22 en2
  try simp only [World.size_setCell, World.size_alloc] at BX3 sx3
  have e03 := BN3.out.cell 0 _ rfl
  have e13 := BN3.out.cell 1 _ rfl
  have e23 := BN3.out.cell 2 _ rfl
  have en3 := BN3.out.lt
  refine (kid_any n _ 0 x _ (HK.out.later HW3.out) (by rw [HX.out]; rfl)).mono ?_
  rintro ek4 wk4 ⟨vk4, rfl, hb4, hk4⟩
  have HK4 := Lib.hid hk4
  clear hk4
  have sz5 := hb4.size
  try simp only [World.size_setCell, World.size_alloc] at sz5
  have HW5 := Lib.hid (HW3.out.trans (hb4.mono (by (try simp only [World.size_setCell, World.size_alloc]); omega)))
  have BN5 := Lib.hid (BN3.out.later hb4 (by (try simp only [World.size_setCell, World.size_alloc]); omega))
  have BX5 := Lib.hid (BX3.out.later hb4 (by (try simp only [World.size_setCell, World.size_alloc]); omega))
  have Rs5 := Lib.hid (Rs3.out.beneath hb4 (Nat.le_refl _) (by (try simp only [World.size_setCell, World.size_alloc]); omega) (Nat.le_refl _))
  clear HW3 BN3 BX3 Rs3 e03 e13 e23 en3
  clear hb4
  go_wp2_with fail
  refine (HE.out x vk4 bb _ hxs HSX.out HK4.out (HBd.out.later HW5.out)).mono ?_
  rintro ec6 wc6 ⟨rx, rfl, hexx, hb6, hr6⟩
  have szz6 := hb6.size
  try simp only [World.size_setCell, World.size_alloc] at szz6
  have sz7 := hb6.size
  try simp only [World.size_setCell, World.size_alloc] at sz7
  have HW7 := Lib.hid (HW5.out.trans (hb6.mono (by (try simp only [World.size_setCell, World.size_alloc]); omega)))
  have BN7 := Lib.hid (BN5.out.later hb6 (by (try simp only [World.size_setCell, World.size_alloc]); omega))
  have BX7 := Lib.hid (BX5.out.later hb6 (by (try simp only [World.size_setCell, World.size_alloc]); omega))
  have Rs7 := Lib.hid (Rs5.out.beneath hb6 (Nat.le_refl _) (by (try simp only [World.size_setCell, World.size_alloc]); omega) (Nat.le_refl _))
  clear HW5 BN5 BX5 Rs5
  try simp only [World.size_setCell, World.size_alloc] at hr6
  have Rx7 := Lib.hid hr6
  clear hb6 hr6
  obtain ⟨tx, px, rfl⟩ := isE_form hexx Rx7.out
  have x47c := BX7.out.cell 4 _ rfl
  have x47f := BX7.out.frozen 4
  have x47l := BX7.out.lt
  have e07 := BN7.out.cell 0 _ rfl
  have e17 := BN7.out.cell 1 _ rfl
  have e27 := BN7.out.cell 2 _ rfl
  have en7 := BN7.out.lt
  have sb8 := BX7.out.lt
  have HW8 := Lib.hid (HW7.out.setCell (p := ⟨wc1.heap.size, 4, none⟩) (by show w.heap.size ≤ wc1.heap.size; omega) (.iface tx (Pt px)))
  have BN8 := Lib.hid (BN7.out.other (wc1.heap.size) 4 (.iface tx (Pt px)) (by omega))
  have BX8 := Lib.hid (BX7.out.set 4 (.iface tx (Pt px)))
  have Rs8 := Lib.hid (Rs7.out.setX (X := wc1.heap.size) (i := 4) (u := (.iface tx (Pt px))) (by omega))
  have Rx8 := Lib.hid (Rx7.out.setX (X := wc1.heap.size) (i := 4) (u := (.iface tx (Pt px))) (by omega))
  clear HW7 BN7 BX7 Rs7 Rx7
  go_wp2_with fail
  go_ret
  exact ⟨_, rfl, rfl, HW8.out, .type n _ x _ _ 1 (.inr ⟨HKB.out, rfl⟩) HX.out ⟨⟨by show w.heap.size ≤ wc1.heap.size; omega, BX8.out.lt⟩, BX8.out.cell 0 _ rfl⟩ ⟨⟨by show w.heap.size ≤ wc1.heap.size; omega, BX8.out.lt⟩, BX8.out.cell 1 _ rfl⟩ (Rs8.out.wide (by omega) (by (try simp only [World.size_setCell]); omega)) ⟨⟨by show w.heap.size ≤ wc1.heap.size; omega, BX8.out.lt⟩, BX8.out.cell 2 _ rfl⟩ ⟨⟨by show w.heap.size ≤ wc1.heap.size; omega, BX8.out.lt⟩, BX8.out.cell 3 _ rfl⟩ hexx ⟨⟨by show w.heap.size ≤ wc1.heap.size; omega, BX8.out.lt⟩, BX8.out.cell 4 _ rfl⟩ (Rx8.out.wide (by omega) (by (try simp only [World.size_setCell]); omega)) ⟨⟨by show w.heap.size ≤ wc1.heap.size; omega, BX8.out.lt⟩, BX8.out.cell 5 _ rfl⟩⟩
end Go.Proofs.YtoijkbkcfbbmfaaGreatDoor

