/- What is proved here: the builder, its items and the words of tokens. Conditions: each theorem names its own. -/
import Derived.Deep.DrawnRows
import Derived.Test.YtoijkbkcfbbmfaaGreatDoorMc
import Derived.Test.YtoijkbkcfbbmfaaGreatDoorMd
set_option linter.all false
set_option linter.unusedVariables false
set_option linter.unusedSimpArgs false
/- What is proved here: Token.String and word, at the words of declarations. The table of tokens is asked for as it lies. -/
namespace Go.Proofs.YtoijkbkcfbbmfaaGreatDoor
open Go.RowKit Go.Shelf

theorem toList_inj {a b : ByteArray} (h : a.toList = b.toList) : a = b := by
  rw [ByteArray.toList_eq, ByteArray.toList_eq] at h
  exact ByteArray.ext (Array.toList_inj.1 h)
/-- The words break to var, and their numbers. -/
def tokW : List (List UInt8) := [[98, 114, 101, 97, 107], [99, 97, 115, 101], [99, 104, 97, 110], [99, 111, 110, 115, 116], [99, 111, 110, 116, 105, 110, 117, 101], [100, 101, 102, 97, 117, 108, 116], [100, 101, 102, 101, 114], [101, 108, 115, 101], [102, 97, 108, 108, 116, 104, 114, 111, 117, 103, 104], [102, 111, 114], [102, 117, 110, 99], [103, 111], [103, 111, 116, 111], [105, 102], [105, 109, 112, 111, 114, 116], [105, 110, 116, 101, 114, 102, 97, 99, 101], [109, 97, 112], [112, 97, 99, 107, 97, 103, 101], [114, 97, 110, 103, 101], [114, 101, 116, 117, 114, 110], [115, 101, 108, 101, 99, 116], [115, 116, 114, 117, 99, 116], [115, 119, 105, 116, 99, 104], [116, 121, 112, 101], [118, 97, 114]]
def TokTab (w : World) : Prop := ∀ i t, tokW[i]? = some t → ∃ s : ByteArray, s.toList = t ∧ w.cell? ⟨0, 61 + i, none⟩ = some (.string s)

theorem token_any (i : Nat) (s : ByteArray) (w : World) (hi : i < 25) (hs : s.toList.isEmpty = false) (hc : w.cell? ⟨0, 61 + i, none⟩ = some (.string s)) : Calls Tryz.prog 43 #[.int .i64 (61 + i)] w fun e w' => e = .returned (.string s) ∧ w' = w := by
  have h0 : (0 : Int) ≤ 61 + (i : Int) := by omega
  have h1 : (61 + (i : Int)) < 89 := by omega
  have h2 : 61 + i < 89 := by omega
  go_enter Tryz.func43, Tryz.ntmps43
  go_wp2_with fail
  go_ret
  exact ⟨rfl, rfl⟩

theorem tokW_len {i : Nat} {t : List UInt8} (h : tokW[i]? = some t) : i < 25 := by
  have := (List.getElem?_eq_some_iff.1 h).1
  exact this
theorem tokW_some : ∀ t ∈ tokW, t.isEmpty = false := by decide
theorem tokW_inj {i j : Nat} {t u : List UInt8} (hi : tokW[i]? = some t) (hj : tokW[j]? = some u) (hne : j ≠ i) : u ≠ t := by
  intro h
  subst h
  have h1 := tokW_len hi
  have h2 := tokW_len hj
  have key : ∀ a < 25, ∀ b < 25, tokW[a]? = tokW[b]? → a = b := by decide
  exact hne (key j h2 i h1 (hj.trans hi.symm))

theorem word_any (i : Nat) (s : ByteArray) (w : World) (hs : tokW[i]? = some s.toList) (hT : TokTab w) : Calls Tryz.prog 38 #[.string s] w fun e w' => e = .returned (.int .i64 (61 + i)) ∧ w' = w := by
  have hi := tokW_len hs
  go_enter Tryz.func38, Tryz.ntmps38
  go_wp2_with fail
  go_loopw [3] (fun v wr => ∃ j : Nat, j ≤ i ∧ v = .int .i64 (61 + j) ∧ wr = w) (fun v _ => i + 100 - (intOf v).toNat)
  case atStart => exact ⟨0, Nat.zero_le _, rfl, rfl⟩
  case round =>
    obtain ⟨j, hj, rfl, rfl⟩ := hrel
    have hj25 : j < 25 := by omega
    have hj1 : (61 + (j : Int)) < 88 := by omega
    obtain ⟨u, hu⟩ : ∃ u, tokW[j]? = some u := ⟨tokW[j]'hj25, List.getElem?_eq_getElem hj25⟩
    obtain ⟨sj, hsj, hcj⟩ := hT j u hu
    go_wp2_with fail
    refine (token_any j sj _ hj25 (by rw [hsj]; exact tokW_some u (List.mem_of_getElem? hu)) hcj).mono ?_
    rintro e w2 ⟨rfl, hw2⟩
    subst hw2
    by_cases hji : j = i
    · subst hji
      have hus : u = s.toList := by rw [hu] at hs; cases hs; rfl
      have heq : sj = s := by
        have h3 : sj.toList = s.toList := hsj.trans hus
        exact toList_inj h3
      subst heq
      clear hsj hus hu hs hT
      go_wp2_with fail
      go_ret
      exact ⟨rfl, rfl⟩
    · have hne : u ≠ s.toList := tokW_inj hs hu hji
      have hne4 : (sj.toList == s.toList) = false := by rw [hsj, beq_eq_false_iff_ne]; exact hne
      clear hsj hu hs hT
      go_wp2_with fail
      refine ⟨⟨j + 1, by omega, congrArg (Value.int .i64) (by omega), trivial⟩, ?_⟩
      simp only [intOf]
      omega
end Go.Proofs.YtoijkbkcfbbmfaaGreatDoor

/- What is proved here: the builder's parts of declarations: values. -/
namespace Go.Proofs.YtoijkbkcfbbmfaaGreatDoor
open Go.RowKit Go.Shelf
set_option linter.unusedSimpArgs false
set_option linter.unusedVariables false
attribute [local go_sem] fld_0 fld_1 fld_2
attribute [local go_sem ↓] Go.wp_at_zero Go.wp_at_succ

/-- A list as it lies in some blocks of a world. -/
def Lst (ok : Nat → Prop) (w : World) (E : Value → Value → Prop) (ks : List N) (r : Value) (L : List Value) : Prop :=
  L.length = ks.length ∧ LAt (At ok w) r ks.length (fun i => L.getD i .nilIface) ∧ Elems (At ok w) E ks L
theorem Lst.step {ok ok' : Nat → Prop} {w w' : World} {E : Value → Value → Prop} {ks : List N} {r : Value} {L : List Value} (h : Lst ok w E ks r L) (hs : ∀ b, ok b → ok' b ∧ w'.heap[b]? = w.heap[b]?) : Lst ok' w' E ks r L := by
  have key : ∀ b o u, At ok w b o u → At ok' w' b o u := fun b _ _ hc => ⟨(hs b hc.1).1, (World.cell?_of_block (hs b hc.1).2).trans hc.2⟩
  exact ⟨h.1, h.2.1.map key, h.2.2.imp key⟩
theorem Lst.beneath {lo lo' hi hi' B : Nat} {w w' : World} {E : Value → Value → Prop} {ks : List N} {r : Value} {L : List Value} (h : Lst (Bt lo hi) w E ks r L) (hb : Below B w w') (h1 : lo' ≤ lo) (h2 : hi ≤ B) (h3 : hi ≤ hi') : Lst (Bt lo' hi') w' E ks r L :=
  h.step fun b hlt => ⟨⟨Nat.le_trans h1 hlt.1, Nat.lt_of_lt_of_le hlt.2 h3⟩, hb.block b (Nat.lt_of_lt_of_le hlt.2 h2)⟩
theorem Lst.wide {lo lo' hi hi' : Nat} {w : World} {E : Value → Value → Prop} {ks : List N} {r : Value} {L : List Value} (h : Lst (Bt lo hi) w E ks r L) (h1 : lo' ≤ lo) (h3 : hi ≤ hi') : Lst (Bt lo' hi') w E ks r L :=
  h.step fun b hlt => ⟨⟨Nat.le_trans h1 hlt.1, Nat.lt_of_lt_of_le hlt.2 h3⟩, rfl⟩
theorem Lst.setX {lo hi X i : Nat} {u : Value} {w : World} {E : Value → Value → Prop} {ks : List N} {r : Value} {L : List Value} (h : Lst (Bt lo hi) w E ks r L) (hX : X < lo ∨ hi ≤ X) : Lst (Bt lo hi) (w.setCell ⟨X, i, none⟩ u) E ks r L :=
  h.step fun b hb => ⟨hb, heap_setCell_other _ _ _ _ (by have h1 := hb.1; have h2 := hb.2; simp; omega)⟩
theorem under104 : Tryz.prog.underlying 106 = some (.slice 105) := by kernel_rfl
theorem info83 : (Tryz.prog.info? 105).map (fun i => (i.zero, i.size, i.bytes)) = some (some .nilIface, 1, 16) := by kernel_rfl
/-- A node below a node, its nodes where they lay. -/
theorem kid_old (B : Nat) (n : N) (v : Value) (i : Nat) (x : N) (w : World) (hk : KidsAt (· < B) w v n.kids) (hB : B ≤ w.heap.size) (hx : n.kids[i]? = some x) :
    Calls Tryz.prog 35 #[n.val v, .int .i64 i] w fun e w' => ∃ v2, e = .returned (x.val v2) ∧ Below w.heap.size w w' ∧ KidsAt (· < B) w' v2 x.kids := by
  obtain ⟨a, cap, rfl, hcap, hel⟩ := hk.shape
  obtain ⟨b, o, V, rfl, hb, c0, c1, c2, hV⟩ := hel i x hx
  have hbw : b < w.heap.size := Nat.lt_of_lt_of_le hb hB
  have hi : i < n.kids.length := (List.getElem?_eq_some_iff.1 hx).1
  have hi' : (i : Int) < (n.kids.length : Int) := by omega
  obtain ⟨a2, cap2, rfl, _, _⟩ := hV.shape
  have HV := Lib.hid hV
  clear hV hk hel hx
  unfold N.val
  go_enter Tryz.func35, Tryz.ntmps35
  go_wp2_with fail
  refine bodyPost_ret (v := x.val (.slice a2 x.kids.length cap2)) (by simp [results, Tryz.f35, go_sem, N.val]) rfl ?_
  have hb2 := ((Below.refl w.heap.size w).alloc (Nat.le_refl _) (Obj.cells #[Value.string n.kind, Value.string n.text, Value.slice (some ⟨b, o, none⟩) n.kids.length cap] 24)).alloc (by simp) (Obj.cells #[Value.string x.kind, Value.string x.text, Value.slice a2 x.kids.length cap2] 24)
  exact ⟨_, rfl, hb2, HV.out.under (hb2.mono hB)⟩
/-- Old blocks but one. -/
def But (B X b : Nat) : Prop := b < B ∧ b ≠ X
theorem But.below {B X : Nat} {w0 w w' : World} (h : Same (But B X) w0 w) (hb : Below w.heap.size w w') (hB : B ≤ w.heap.size) : Same (But B X) w0 w' := h.trans fun b hb2 => hb.block b (Nat.lt_of_lt_of_le hb2.1 hB)
theorem But.grown {B X : Nat} {w0 w w' : World} {row : Option Nat} (h : Same (But B X) w0 w) (hg : w.grownBy w' row) (hB : B ≤ w.heap.size) (hr : ∀ k, row = some k → B ≤ k) : Same (But B X) w0 w' := h.trans fun b hb2 => hg.block b (Nat.lt_of_lt_of_le hb2.1 hB) (fun e => by have := hr b e.symm; have := hb2.1; omega)
theorem But.set {B X i : Nat} {w0 w : World} {u : Value} (h : Same (But B X) w0 w) : Same (But B X) w0 (w.setCell ⟨X, i, none⟩ u) := h.trans fun b hb2 => heap_setCell_other _ _ b _ (by have := hb2.2; simpa using this)
theorem Rep.but {lo hi B X : Nat} {w0 w : World} {n : N} {v : Value} (h : Rep (At (Bt lo hi) w0) n v) (hs : Same (But B X) w0 w) (h1 : hi ≤ B) (h2 : X < lo ∨ hi ≤ X) : Rep (At (Bt lo hi) w) n v :=
  h.step fun b hb => ⟨hb, hs b ⟨Nat.lt_of_lt_of_le hb.2 h1, by have h3 := hb.1; have h4 := hb.2; omega⟩⟩
theorem Lst.but {lo hi B X : Nat} {w0 w : World} {E : Value → Value → Prop} {ks : List N} {r : Value} {L : List Value} (h : Lst (Bt lo hi) w0 E ks r L) (hs : Same (But B X) w0 w) (h1 : hi ≤ B) (h2 : X < lo ∨ hi ≤ X) : Lst (Bt lo hi) w E ks r L :=
  h.step fun b hb => ⟨hb, hs b ⟨Nat.lt_of_lt_of_le hb.2 h1, by have h3 := hb.1; have h4 := hb.2; omega⟩⟩

set_option maxHeartbeats 4000000 in
set_option maxRecDepth 100000 in
theorem i_value_none (f : Nat) (hE : BE f) (hS : BS f) (n : N) (v : Value) (bb : Nat) (w : World) (hn : n.size ≤ 400) (hkd : n.kind.toList = [118, 97, 108, 117, 101]) (htx : n.text.toList.isEmpty = true) (x y z : N) (hx : n.kids = [x, y, z]) (hkx : isK x [108, 105, 115, 116] = true) (htx1 : x.text.toList.isEmpty = true) (hkz : isK z [108, 105, 115, 116] = true) (htz : z.text.toList.isEmpty = true) (hxn : x.kids.all isName = true) (hzn : z.kids.all (shE f) = true) (hmy : missing y = true) (hk : KidsAt (· < w.heap.size) w v n.kids) (hB : Bd w bb) :
    Calls Tryz.prog 39 #[Pt bb, n.val v] w fun e w' => ∃ r, e = .returned r ∧ isS r = true ∧ Made w w' n r := by
  have hkb : isK n [118, 97, 108, 117, 101] = true := by simp [isK, hkd]
  have HX := Lib.hid hx
  have hxs : x.size ≤ 400 := by have := N.size_kid (m := n) (n := x) (i := 0) (by rw [hx]; rfl); omega
  have hxl : x.kids.length ≤ 2147483647 := by have := N.len_lt x; omega
  have hys : y.size ≤ 400 := by have := N.size_kid (m := n) (n := y) (i := 1) (by rw [hx]; rfl); omega
  have hzs : z.size ≤ 400 := by have := N.size_kid (m := n) (n := z) (i := 2) (by rw [hx]; rfl); omega
  have hzl : z.kids.length ≤ 400 := by have := N.len_lt z; omega
  have HKB := Lib.hid hkb
  have HXN := Lib.hid hxn
  have HZN := Lib.hid hzn
  obtain ⟨i0, hi, hz0, hz1, hz2⟩ := info_parts info83
  have HI := Lib.hid (And.intro hi (And.intro hz0 (And.intro hz1 hz2)))
  clear hx hkb hxn hzn hi hz0 hz1 hz2
  have HE := Lib.hid hE
  have HS := Lib.hid hS
  clear hE hS
  obtain ⟨a, cap, rfl, hcap, hel⟩ := hk.shape
  have hlen := N.len_lt n
  have HK := Lib.hid hk
  have HBd := Lib.hid hB
  have HW0 := Lib.hid ((Below.refl w.heap.size w).alloc (Nat.le_refl _) (Obj.cells #[Value.string n.kind, Value.string n.text, Value.slice a n.kids.length cap] 24))
  have BN0 : Hid (Blk (w.alloc (Obj.cells #[Value.string n.kind, Value.string n.text, Value.slice a n.kids.length cap] 24)) w.heap.size 24 #[Value.string n.kind, Value.string n.text, Value.slice a n.kids.length cap]) := Lib.hid (Blk.new w _ 24)
  have hs0 : ((w.alloc (Obj.cells #[Value.string n.kind, Value.string n.text, Value.slice a n.kids.length cap] 24))).heap.size = w.heap.size + 1 := by simp
  have HS0 := Lib.hid hs0
  clear hk hB hel hs0
  unfold N.val
  go_enter Tryz.func39, Tryz.ntmps39
  have e00 := BN0.out.cell 0 _ rfl
  have e10 := BN0.out.cell 1 _ rfl
  have e20 := BN0.out.cell 2 _ rfl
  have en0 := BN0.out.lt
  go_wp2_with fail
  refine (kid_any n _ 0 x _ (HK.out.later HW0.out) (by rw [HX.out]; rfl)).mono ?_
  rintro ek1 wk1 ⟨vk1, rfl, hb1, hk1⟩
  have HK1 := Lib.hid hk1
  clear hk1
  have sz2 := hb1.size
  try simp only [World.size_setCell, World.size_alloc] at sz2
  have HW2 := Lib.hid (HW0.out.trans (hb1.mono (by (try simp only [World.size_setCell, World.size_alloc]); omega)))
  have BN2 := Lib.hid (BN0.out.later hb1 (by (try simp only [World.size_setCell, World.size_alloc]); omega))
  clear HW0 BN0 e00 e10 e20 en0
  clear hb1
  obtain ⟨ak1, ck1, hvk1, hck1, hel1⟩ := id HK1.out.shape
  subst hvk1
  have HEL1 := Lib.hid hel1
  clear hel1
  unfold N.val
  have e02 := BN2.out.cell 0 _ rfl
  have e12 := BN2.out.cell 1 _ rfl
  have e22 := BN2.out.cell 2 _ rfl
  have en2 := BN2.out.lt
  go_wp2_with fail
  refine (names_any bb x.kids _ _ (HBd.out.later HW2.out) HK1.out hxl HXN.out).mono ?_
  rintro el wl ⟨vl, rfl, hbl, L, hLl, hlat, helm⟩
  obtain ⟨al, capl, hvl, _, _⟩ := id hlat
  subst hvl
  have szl := hbl.size
  have sz4 := hbl.size
  try simp only [World.size_setCell, World.size_alloc] at sz4
  have HW4 := Lib.hid (HW2.out.trans (hbl.mono (by (try simp only [World.size_setCell, World.size_alloc]); omega)))
  have BN4 := Lib.hid (BN2.out.later hbl (by (try simp only [World.size_setCell, World.size_alloc]); omega))
  clear HW2 BN2 e02 e12 e22 en2
  have Rl4 := Lib.hid (show Lst _ _ _ _ _ _ from ⟨hLl, hlat, helm⟩)
  clear hbl hlat helm hLl
  have e04 := BN4.out.cell 0 _ rfl
  have e14 := BN4.out.cell 1 _ rfl
  have e24 := BN4.out.cell 2 _ rfl
  have en4 := BN4.out.lt
  go_wp2_with fail
  have sx5 : ((wl.alloc (Obj.cells #[Value.pointer none, Value.slice al x.kids.length capl, Value.nilIface, Value.slice none 0 0, Value.pointer none] 108))).heap.size = (wl).heap.size + 1 := by simp only [World.size_alloc]
  have HW5 := Lib.hid (HW4.out.alloc (by (try simp only [World.size_setCell, World.size_alloc]); omega) (Obj.cells #[Value.pointer none, Value.slice al x.kids.length capl, Value.nilIface, Value.slice none 0 0, Value.pointer none] 108))
  have BN5 := Lib.hid (BN4.out.later ((Below.refl (wl).heap.size wl).alloc (Nat.le_refl _) (Obj.cells #[Value.pointer none, Value.slice al x.kids.length capl, Value.nilIface, Value.slice none 0 0, Value.pointer none] 108)) (by (try simp only [World.size_setCell, World.size_alloc]); omega))
  have BX5 := Lib.hid (Blk.new wl #[Value.pointer none, Value.slice al x.kids.length capl, Value.nilIface, Value.slice none 0 0, Value.pointer none] 108)
  have Rl5 := Lib.hid (Rl4.out.beneath ((Below.refl (wl).heap.size wl).alloc (Nat.le_refl _) (Obj.cells #[Value.pointer none, Value.slice al x.kids.length capl, Value.nilIface, Value.slice none 0 0, Value.pointer none] 108)) (Nat.le_refl _) (by (try simp only [World.size_setCell, World.size_alloc]); omega) (Nat.le_refl _))
  clear HW4 BN4 Rl4 e04 e14 e24 en4
  try simp only [World.size_setCell, World.size_alloc] at BX5 sx5
  have e05 := BN5.out.cell 0 _ rfl
  have e15 := BN5.out.cell 1 _ rfl
  have e25 := BN5.out.cell 2 _ rfl
  have en5 := BN5.out.lt
  refine (kid_any n _ 1 y _ (HK.out.later HW5.out) (by rw [HX.out]; rfl)).mono ?_
  rintro ek6 wk6 ⟨vk6, rfl, hb6, hk6⟩
  have HK6 := Lib.hid hk6
  clear hk6
  have sz7 := hb6.size
  try simp only [World.size_setCell, World.size_alloc] at sz7
  have HW7 := Lib.hid (HW5.out.trans (hb6.mono (by (try simp only [World.size_setCell, World.size_alloc]); omega)))
  have BN7 := Lib.hid (BN5.out.later hb6 (by (try simp only [World.size_setCell, World.size_alloc]); omega))
  have BX7 := Lib.hid (BX5.out.later hb6 (by (try simp only [World.size_setCell, World.size_alloc]); omega))
  have Rl7 := Lib.hid (Rl5.out.beneath hb6 (Nat.le_refl _) (by (try simp only [World.size_setCell, World.size_alloc]); omega) (Nat.le_refl _))
  clear HW5 BN5 BX5 Rl5 e05 e15 e25 en5
  clear hb6
  go_wp2_with fail
  refine (expr_none bb y vk6 _ hmy HK6.out).mono ?_
  rintro e8n wc8 ⟨rfl, hb8⟩
  have sz9 := hb8.size
  try simp only [World.size_setCell, World.size_alloc] at sz9
  have HW9 := Lib.hid (HW7.out.trans (hb8.mono (by (try simp only [World.size_setCell, World.size_alloc]); omega)))
  have BN9 := Lib.hid (BN7.out.later hb8 (by (try simp only [World.size_setCell, World.size_alloc]); omega))
  have BX9 := Lib.hid (BX7.out.later hb8 (by (try simp only [World.size_setCell, World.size_alloc]); omega))
  have Rl9 := Lib.hid (Rl7.out.beneath hb8 (Nat.le_refl _) (by (try simp only [World.size_setCell, World.size_alloc]); omega) (Nat.le_refl _))
  clear HW7 BN7 BX7 Rl7
  clear hb8
  have x29c := BX9.out.cell 2 _ rfl
  have x29f := BX9.out.frozen 2
  have x29l := BX9.out.lt
  have e09 := BN9.out.cell 0 _ rfl
  have e19 := BN9.out.cell 1 _ rfl
  have e29 := BN9.out.cell 2 _ rfl
  have en9 := BN9.out.lt
  have sb10 := BX9.out.lt
  have HW10 := Lib.hid (HW9.out.setCell (p := ⟨wl.heap.size, 2, none⟩) (by show w.heap.size ≤ wl.heap.size; omega) Value.nilIface)
  have BN10 := Lib.hid (BN9.out.other (wl.heap.size) 2 Value.nilIface (by omega))
  have BX10 := Lib.hid (BX9.out.set 2 Value.nilIface)
  have Rl10 := Lib.hid (Rl9.out.setX (X := wl.heap.size) (i := 2) (u := Value.nilIface) (by omega))
  clear HW9 BN9 BX9 Rl9
  go_wp2_with fail
  refine (kid_old w.heap.size n _ 2 z _ (HK.out.under HW10.out) (by have := HW10.out.size; exact this) (by rw [HX.out]; rfl)).mono ?_
  rintro ek11 wk11 ⟨vk11, rfl, hb11, hk11⟩
  have HK11 := Lib.hid hk11
  clear hk11
  have sz12 := hb11.size
  try simp only [World.size_setCell, World.size_alloc] at sz12
  have HW12 := Lib.hid (HW10.out.trans (hb11.mono (by (try simp only [World.size_setCell, World.size_alloc]); omega)))
  have BN12 := Lib.hid (BN10.out.later hb11 (by (try simp only [World.size_setCell, World.size_alloc]); omega))
  have BX12 := Lib.hid (BX10.out.later hb11 (by (try simp only [World.size_setCell, World.size_alloc]); omega))
  have Rl12 := Lib.hid (Rl10.out.beneath hb11 (Nat.le_refl _) (by (try simp only [World.size_setCell, World.size_alloc]); omega) (Nat.le_refl _))
  clear HW10 BN10 BX10 Rl10 x29c x29f x29l e09 e19 e29 en9
  clear hb11
  obtain ⟨ak11, ck11, hvk11, hck11, hel11⟩ := id HK11.out.shape
  subst hvk11
  have HEL11 := Lib.hid hel11
  clear hel11
  unfold N.val
  go_wp2_with fail

  have HWz := HW12
  go_loopw [57] (fun i wr => ∃ (j : Nat) (M : List Value) (vv : Value), j ≤ z.kids.length ∧ i = .int .i64 j ∧ Blk wr wl.heap.size 108 #[Value.pointer none, Value.slice al x.kids.length capl, Value.nilIface, vv, Value.pointer none] ∧ wr.ownsRow wk11.heap.size 105 1 vv j M ∧ Below w.heap.size w wr ∧ wk11.heap.size ≤ wr.heap.size ∧ Same (But wk11.heap.size wl.heap.size) wk11 wr ∧ Elems (At (Ex vv wk11.heap.size wr.heap.size) wr) ByE z.kids M)
    (fun i _ => z.kids.length - (intOf i).toNat)
  case atStart =>
    exact ⟨0, [], .slice none 0 0, Nat.zero_le _, rfl, BX12.out, World.ownsRow_nil _ _ _ _, HW12.out, Nat.le_refl _, Same.refl _ _, Elems.nil _ _ _⟩
  case round =>
    obtain ⟨j, M, vv, hj, rfl, hblk, hown, hbel, hsr, hsame, hE2⟩ := hrel
    have HBLK := Lib.hid hblk
    have HOWN := Lib.hid hown
    have HBEL := Lib.hid hbel
    have HSAME := Lib.hid hsame
    have HE2 := Lib.hid hE2
    clear hblk hown hbel hE2 hsame
    have hszW := HW12.out.size
    have hXlt := BX12.out.lt
    by_cases hjl : j < z.kids.length
    · have hjl' : (j : Int) < (z.kids.length : Int) := by omega
      obtain ⟨b, o, V, hae, hb, c0, c1, c2, hV⟩ := HEL11.out j z.kids[j] (List.getElem?_eq_getElem hjl)
      subst hae
      have hneX : b ≠ wl.heap.size := by omega
      have c0' := (HSAME.out.cell (b := b) (o := o + j * 3) (s := none) ⟨by omega, hneX⟩).trans c0
      have c1' := (HSAME.out.cell (b := b) (o := o + j * 3 + 1) (s := none) ⟨by omega, hneX⟩).trans c1
      have c2' := (HSAME.out.cell (b := b) (o := o + j * 3 + 2) (s := none) ⟨by omega, hneX⟩).trans c2
      obtain ⟨a2, cap2, rfl, _, _⟩ := hV.shape
      have HV := Lib.hid (((hV.same (w' := wr) (fun b hb => HSAME.out b ⟨by omega, by omega⟩))).mono (fun b (hb : b < w.heap.size) => (show b < wr.heap.size by omega)))
      have hgj : z.kids[j]? = some z.kids[j] := List.getElem?_eq_getElem hjl
      have hsz : shE f z.kids[j] = true := List.all_eq_true.1 HZN.out _ (List.getElem_mem hjl)
      have hjs : z.kids[j].size ≤ 400 := by have := N.size_kid (m := z) hgj; omega
      have HGJ := Lib.hid hgj
      have HSZ := Lib.hid hsz
      clear hV hgj hsz c0 c1 c2
      have y1 := HBLK.out.cell 3 _ rfl
      have yf := HBLK.out.frozen 3
      have hltx := HBLK.out.lt
      go_wp2_with fail
      refine (next_any bb _ ((HBd.out.later HBEL.out).later ((Below.refl _ _).alloc (Nat.le_refl _) _))).mono ?_
      rintro en wn ⟨rfl, hwn⟩
      subst hwn
      go_wp2_with fail
      go_region_law (first
        | (refine step_call (by rfl) 58 _ _ (by rfl) #[Pt bb, z.kids[j].val (.slice a2 z.kids[j].kids.length cap2)] (by simp [Act.eval, N.val]) (enters_of Tryz.func58 (by kernel_rfl) rfl) (HE.out z.kids[j] (.slice a2 z.kids[j].kids.length cap2) bb _ hjs HSZ.out (HV.out.later (((Below.refl _ _).alloc (Nat.le_refl _) _).drew)) ((HBd.out.later HBEL.out).later (((Below.refl _ _).alloc (Nat.le_refl _) _).drew))) ?_
           rintro e w3 ⟨r3, rfl, he3, hb3, hr3⟩
           refine ⟨_, rfl, ?_⟩
           obtain ⟨t3, p3, rfl⟩ := isE_form he3 hr3
           have hbA := (((Below.refl wr.heap.size wr).alloc (Nat.le_refl _) (Obj.cells #[Value.string z.kids[j].kind, Value.string z.kids[j].text, Value.slice a2 z.kids[j].kids.length cap2] 24)).drew).trans (hb3.mono (by simp))
           have hs3 : wr.heap.size ≤ w3.heap.size := hbA.size
           have hx3 := HBLK.out.later hbA hltx
           have z1 := hx3.cell 3 _ rfl
           have zf := hx3.frozen 3
           have lt3 := hx3.lt
           have HOWN3 := Lib.hid (owns_kept HOWN.out hbA)
           have HR3 := Lib.hid hr3
           have HEE := Lib.hid he3
           have HBA := Lib.hid hbA
           have HX3 := Lib.hid hx3
           clear hb3 hr3 hbA hx3 he3)
        | (refine step_append_lies _ (by rfl) (.tmp 67) (.tmp 71) 106 (by rfl) wk11.heap.size 105 i0 .nilIface 1 16 under104 HI.out.1 HI.out.2.1 HI.out.2.2.1 HI.out.2.2.2 (by rfl) (by decide) vv j M (by simp [Act.eval]) (HOWN3.out.alloc _) ⟨w3.heap.size, 0, none⟩ 1 1 [.iface t3 (Pt p3)] (by simp [Act.eval]) (by rfl) (World.news_of_block (heap_alloc_new _ _)) (by simp [Value.oneCell']) (by decide) (by unfold maxLen; omega) (by omega) (by simp; omega) (w3.heap.size + 1) (by simp) ?_
           intro g cap' w5 hown5 hgrow5 hat5 hlt5
           have hbC := HBA.out.alloc hs3 (.cells #[.iface t3 (Pt p3)] 105)
           have HE5 := Lib.hid (elems_step (n := j + 1) (cap := cap') HE2.out hsr (fun k hk => (HOWN.out.lt k hk).2) hbC (HR3.out.beneath ((Below.refl w3.heap.size w3).alloc (Nat.le_refl _) (.cells #[.iface t3 (Pt p3)] 105)) (by simp) (Nat.le_refl _) (by simp)) ⟨rfl, HEE.out⟩ hgrow5 (hat5.imp id (fun h => by simp; omega)) (by simpa using HOWN3.out.1) HGJ.out)
           have HB5 := Lib.hid ((HBEL.out.trans (hbC.mono HBEL.out.size)).grown hgrow5 (by simp; omega) (fun k hk => by have := (HOWN.out.lt k hk).1; omega))
           have HS5 := Lib.hid (But.grown (But.below HSAME.out hbC hsr) hgrow5 (by simp; omega) (fun k hk => (HOWN.out.lt k hk).1))
           have hx5 : Blk w5 wl.heap.size 108 #[Value.pointer none, Value.slice al x.kids.length capl, Value.nilIface, vv, Value.pointer none] := (hgrow5.block _ (by simp; omega) (fun h => by have := (HOWN.out.lt _ h.symm).1; omega)).trans (HX3.out.later ((Below.refl w3.heap.size w3).alloc (Nat.le_refl _) (.cells #[.iface t3 (Pt p3)] 105)) HX3.out.lt)
           have z1 := hx5.cell 3 _ rfl
           have zf := hx5.frozen 3
           have HX5 := Lib.hid hx5
           have HO5 := Lib.hid hown5
           have hsz5 : wk11.heap.size ≤ w5.heap.size := by have := hgrow5.size; simp at this; omega
           clear hown5 hgrow5 hat5 hbC hx5))
      all_goals
        go_wp2_with fail
        go_roundw
        case rel => exact ⟨j + 1, M ++ [.iface t3 (Pt p3)], .slice (some ⟨g, 0, none⟩) (j + 1) cap', by omega, by go_num, HX5.out.set 3 _, ownsRow_setCell_below HO5.out (by simp; omega) _, HB5.out.setCell (by simp; omega) _, by simpa using hsz5, But.set HS5.out, HE5.out.set (by omega)⟩
        case measure => simp [intOf]; omega
    · have hjl' : ¬ (j : Int) < (z.kids.length : Int) := by omega
      have hjj : j = z.kids.length := by omega
      subst hjj
      go_wp2_with fail
      go_ret
      have hM : M.length = z.kids.length := by simpa using HOWN.out.1
      have hlz := Rl12.out.but HSAME.out (by omega) (by omega)
      have hBX := HBLK.out
      have hel2 := (HE2.out.ex (lo' := w.heap.size) (by omega)).self (by omega)
      have hpt := (hlz.wide (lo' := w.heap.size) (hi' := wr.heap.size) (by omega) (by omega))
      obtain ⟨hp1, hp2⟩ := hpt.2.2.pts (by rw [hpt.1]; exact Nat.le_refl _)
      exact ⟨_, rfl, rfl, HBEL.out, .value n _ x y z (fun i => ptOf (L.getD i .nilIface)) _ _ (fun i => M.getD i .nilIface) _ HKB.out htx HX.out hkx htx1 hkz htz ⟨⟨by omega, hBX.lt⟩, hBX.cell 0 _ rfl⟩ ⟨⟨by omega, hBX.lt⟩, hBX.cell 1 _ rfl⟩ (hpt.2.1.congr hp2) hp1 (.inl rfl) ⟨⟨by omega, hBX.lt⟩, hBX.cell 2 _ rfl⟩ (.none y hmy)
        ⟨⟨by omega, hBX.lt⟩, hBX.cell 3 _ rfl⟩ (lat_of_owns HOWN.out (by omega)) (fun i m hm => (hel2 i m hm).1) (fun i m hm => (hel2 i m hm).2) ⟨⟨by omega, hBX.lt⟩, hBX.cell 4 _ rfl⟩⟩

set_option maxHeartbeats 4000000 in
set_option maxRecDepth 100000 in
theorem i_value_some (f : Nat) (hE : BE f) (hS : BS f) (n : N) (v : Value) (bb : Nat) (w : World) (hn : n.size ≤ 400) (hkd : n.kind.toList = [118, 97, 108, 117, 101]) (htx : n.text.toList.isEmpty = true) (x y z : N) (hx : n.kids = [x, y, z]) (hkx : isK x [108, 105, 115, 116] = true) (htx1 : x.text.toList.isEmpty = true) (hkz : isK z [108, 105, 115, 116] = true) (htz : z.text.toList.isEmpty = true) (hxn : x.kids.all isName = true) (hzn : z.kids.all (shE f) = true) (hsy : shE f y = true) (hk : KidsAt (· < w.heap.size) w v n.kids) (hB : Bd w bb) :
    Calls Tryz.prog 39 #[Pt bb, n.val v] w fun e w' => ∃ r, e = .returned r ∧ isS r = true ∧ Made w w' n r := by
  have hkb : isK n [118, 97, 108, 117, 101] = true := by simp [isK, hkd]
  have HX := Lib.hid hx
  have hxs : x.size ≤ 400 := by have := N.size_kid (m := n) (n := x) (i := 0) (by rw [hx]; rfl); omega
  have hxl : x.kids.length ≤ 2147483647 := by have := N.len_lt x; omega
  have hys : y.size ≤ 400 := by have := N.size_kid (m := n) (n := y) (i := 1) (by rw [hx]; rfl); omega
  have hzs : z.size ≤ 400 := by have := N.size_kid (m := n) (n := z) (i := 2) (by rw [hx]; rfl); omega
  have hzl : z.kids.length ≤ 400 := by have := N.len_lt z; omega
  have HKB := Lib.hid hkb
  have HXN := Lib.hid hxn
  have HZN := Lib.hid hzn
  obtain ⟨i0, hi, hz0, hz1, hz2⟩ := info_parts info83
  have HI := Lib.hid (And.intro hi (And.intro hz0 (And.intro hz1 hz2)))
  have HSY := Lib.hid hsy
  clear hsy hx hkb hxn hzn hi hz0 hz1 hz2
  have HE := Lib.hid hE
  have HS := Lib.hid hS
  clear hE hS
  obtain ⟨a, cap, rfl, hcap, hel⟩ := hk.shape
  have hlen := N.len_lt n
  have HK := Lib.hid hk
  have HBd := Lib.hid hB
  have HW0 := Lib.hid ((Below.refl w.heap.size w).alloc (Nat.le_refl _) (Obj.cells #[Value.string n.kind, Value.string n.text, Value.slice a n.kids.length cap] 24))
  have BN0 : Hid (Blk (w.alloc (Obj.cells #[Value.string n.kind, Value.string n.text, Value.slice a n.kids.length cap] 24)) w.heap.size 24 #[Value.string n.kind, Value.string n.text, Value.slice a n.kids.length cap]) := Lib.hid (Blk.new w _ 24)
  have hs0 : ((w.alloc (Obj.cells #[Value.string n.kind, Value.string n.text, Value.slice a n.kids.length cap] 24))).heap.size = w.heap.size + 1 := by simp
  have HS0 := Lib.hid hs0
  clear hk hB hel hs0
  unfold N.val
  go_enter Tryz.func39, Tryz.ntmps39
  have e00 := BN0.out.cell 0 _ rfl
  have e10 := BN0.out.cell 1 _ rfl
  have e20 := BN0.out.cell 2 _ rfl
  have en0 := BN0.out.lt
  go_wp2_with fail
  refine (kid_any n _ 0 x _ (HK.out.later HW0.out) (by rw [HX.out]; rfl)).mono ?_
  rintro ek1 wk1 ⟨vk1, rfl, hb1, hk1⟩
  have HK1 := Lib.hid hk1
  clear hk1
  have sz2 := hb1.size
  try simp only [World.size_setCell, World.size_alloc] at sz2
  have HW2 := Lib.hid (HW0.out.trans (hb1.mono (by (try simp only [World.size_setCell, World.size_alloc]); omega)))
  have BN2 := Lib.hid (BN0.out.later hb1 (by (try simp only [World.size_setCell, World.size_alloc]); omega))
  clear HW0 BN0 e00 e10 e20 en0
  clear hb1
  obtain ⟨ak1, ck1, hvk1, hck1, hel1⟩ := id HK1.out.shape
  subst hvk1
  have HEL1 := Lib.hid hel1
  clear hel1
  unfold N.val
  have e02 := BN2.out.cell 0 _ rfl
  have e12 := BN2.out.cell 1 _ rfl
  have e22 := BN2.out.cell 2 _ rfl
  have en2 := BN2.out.lt
  go_wp2_with fail
  refine (names_any bb x.kids _ _ (HBd.out.later HW2.out) HK1.out hxl HXN.out).mono ?_
  rintro el wl ⟨vl, rfl, hbl, L, hLl, hlat, helm⟩
  obtain ⟨al, capl, hvl, _, _⟩ := id hlat
  subst hvl
  have szl := hbl.size
  have sz4 := hbl.size
  try simp only [World.size_setCell, World.size_alloc] at sz4
  have HW4 := Lib.hid (HW2.out.trans (hbl.mono (by (try simp only [World.size_setCell, World.size_alloc]); omega)))
  have BN4 := Lib.hid (BN2.out.later hbl (by (try simp only [World.size_setCell, World.size_alloc]); omega))
  clear HW2 BN2 e02 e12 e22 en2
  have Rl4 := Lib.hid (show Lst _ _ _ _ _ _ from ⟨hLl, hlat, helm⟩)
  clear hbl hlat helm hLl
  have e04 := BN4.out.cell 0 _ rfl
  have e14 := BN4.out.cell 1 _ rfl
  have e24 := BN4.out.cell 2 _ rfl
  have en4 := BN4.out.lt
  go_wp2_with fail
  have sx5 : ((wl.alloc (Obj.cells #[Value.pointer none, Value.slice al x.kids.length capl, Value.nilIface, Value.slice none 0 0, Value.pointer none] 108))).heap.size = (wl).heap.size + 1 := by simp only [World.size_alloc]
  have HW5 := Lib.hid (HW4.out.alloc (by (try simp only [World.size_setCell, World.size_alloc]); omega) (Obj.cells #[Value.pointer none, Value.slice al x.kids.length capl, Value.nilIface, Value.slice none 0 0, Value.pointer none] 108))
  have BN5 := Lib.hid (BN4.out.later ((Below.refl (wl).heap.size wl).alloc (Nat.le_refl _) (Obj.cells #[Value.pointer none, Value.slice al x.kids.length capl, Value.nilIface, Value.slice none 0 0, Value.pointer none] 108)) (by (try simp only [World.size_setCell, World.size_alloc]); omega))
  have BX5 := Lib.hid (Blk.new wl #[Value.pointer none, Value.slice al x.kids.length capl, Value.nilIface, Value.slice none 0 0, Value.pointer none] 108)
  have Rl5 := Lib.hid (Rl4.out.beneath ((Below.refl (wl).heap.size wl).alloc (Nat.le_refl _) (Obj.cells #[Value.pointer none, Value.slice al x.kids.length capl, Value.nilIface, Value.slice none 0 0, Value.pointer none] 108)) (Nat.le_refl _) (by (try simp only [World.size_setCell, World.size_alloc]); omega) (Nat.le_refl _))
  clear HW4 BN4 Rl4 e04 e14 e24 en4
  try simp only [World.size_setCell, World.size_alloc] at BX5 sx5
  have e05 := BN5.out.cell 0 _ rfl
  have e15 := BN5.out.cell 1 _ rfl
  have e25 := BN5.out.cell 2 _ rfl
  have en5 := BN5.out.lt
  refine (kid_any n _ 1 y _ (HK.out.later HW5.out) (by rw [HX.out]; rfl)).mono ?_
  rintro ek6 wk6 ⟨vk6, rfl, hb6, hk6⟩
  have HK6 := Lib.hid hk6
  clear hk6
  have sz7 := hb6.size
  try simp only [World.size_setCell, World.size_alloc] at sz7
  have HW7 := Lib.hid (HW5.out.trans (hb6.mono (by (try simp only [World.size_setCell, World.size_alloc]); omega)))
  have BN7 := Lib.hid (BN5.out.later hb6 (by (try simp only [World.size_setCell, World.size_alloc]); omega))
  have BX7 := Lib.hid (BX5.out.later hb6 (by (try simp only [World.size_setCell, World.size_alloc]); omega))
  have Rl7 := Lib.hid (Rl5.out.beneath hb6 (Nat.le_refl _) (by (try simp only [World.size_setCell, World.size_alloc]); omega) (Nat.le_refl _))
  clear HW5 BN5 BX5 Rl5 e05 e15 e25 en5
  clear hb6
  go_wp2_with fail
  refine (HE.out y vk6 bb _ hys HSY.out HK6.out (HBd.out.later HW7.out)).mono ?_
  rintro ec8 wc8 ⟨ry, rfl, hexy, hb8, hr8⟩
  have szz8 := hb8.size
  try simp only [World.size_setCell, World.size_alloc] at szz8
  have sz9 := hb8.size
  try simp only [World.size_setCell, World.size_alloc] at sz9
  have HW9 := Lib.hid (HW7.out.trans (hb8.mono (by (try simp only [World.size_setCell, World.size_alloc]); omega)))
  have BN9 := Lib.hid (BN7.out.later hb8 (by (try simp only [World.size_setCell, World.size_alloc]); omega))
  have BX9 := Lib.hid (BX7.out.later hb8 (by (try simp only [World.size_setCell, World.size_alloc]); omega))
  have Rl9 := Lib.hid (Rl7.out.beneath hb8 (Nat.le_refl _) (by (try simp only [World.size_setCell, World.size_alloc]); omega) (Nat.le_refl _))
  clear HW7 BN7 BX7 Rl7
  try simp only [World.size_setCell, World.size_alloc] at hr8
  have Ry9 := Lib.hid hr8
  clear hb8 hr8
  obtain ⟨ty, py, rfl⟩ := isE_form hexy Ry9.out
  have x29c := BX9.out.cell 2 _ rfl
  have x29f := BX9.out.frozen 2
  have x29l := BX9.out.lt
  have e09 := BN9.out.cell 0 _ rfl
  have e19 := BN9.out.cell 1 _ rfl
  have e29 := BN9.out.cell 2 _ rfl
  have en9 := BN9.out.lt
  have sb10 := BX9.out.lt
  have HW10 := Lib.hid (HW9.out.setCell (p := ⟨wl.heap.size, 2, none⟩) (by show w.heap.size ≤ wl.heap.size; omega) (.iface ty (Pt py)))
  have BN10 := Lib.hid (BN9.out.other (wl.heap.size) 2 (.iface ty (Pt py)) (by omega))
  have BX10 := Lib.hid (BX9.out.set 2 (.iface ty (Pt py)))
  have Rl10 := Lib.hid (Rl9.out.setX (X := wl.heap.size) (i := 2) (u := (.iface ty (Pt py))) (by omega))
  have Ry10 := Lib.hid (Ry9.out.setX (X := wl.heap.size) (i := 2) (u := (.iface ty (Pt py))) (by omega))
  clear HW9 BN9 BX9 Rl9 Ry9
  go_wp2_with fail
  refine (kid_old w.heap.size n _ 2 z _ (HK.out.under HW10.out) (by have := HW10.out.size; exact this) (by rw [HX.out]; rfl)).mono ?_
  rintro ek11 wk11 ⟨vk11, rfl, hb11, hk11⟩
  have HK11 := Lib.hid hk11
  clear hk11
  have sz12 := hb11.size
  try simp only [World.size_setCell, World.size_alloc] at sz12
  have HW12 := Lib.hid (HW10.out.trans (hb11.mono (by (try simp only [World.size_setCell, World.size_alloc]); omega)))
  have BN12 := Lib.hid (BN10.out.later hb11 (by (try simp only [World.size_setCell, World.size_alloc]); omega))
  have BX12 := Lib.hid (BX10.out.later hb11 (by (try simp only [World.size_setCell, World.size_alloc]); omega))
  have Rl12 := Lib.hid (Rl10.out.beneath hb11 (Nat.le_refl _) (by (try simp only [World.size_setCell, World.size_alloc]); omega) (Nat.le_refl _))
  have Ry12 := Lib.hid (Ry10.out.beneath hb11 (Nat.le_refl _) (by (try simp only [World.size_setCell, World.size_alloc]); omega) (Nat.le_refl _))
  clear HW10 BN10 BX10 Rl10 Ry10 x29c x29f x29l e09 e19 e29 en9
  clear hb11
  obtain ⟨ak11, ck11, hvk11, hck11, hel11⟩ := id HK11.out.shape
  subst hvk11
  have HEL11 := Lib.hid hel11
  clear hel11
  unfold N.val
  go_wp2_with fail

  have HWz := HW12
  go_loopw [57] (fun i wr => ∃ (j : Nat) (M : List Value) (vv : Value), j ≤ z.kids.length ∧ i = .int .i64 j ∧ Blk wr wl.heap.size 108 #[Value.pointer none, Value.slice al x.kids.length capl, (.iface ty (Pt py)), vv, Value.pointer none] ∧ wr.ownsRow wk11.heap.size 105 1 vv j M ∧ Below w.heap.size w wr ∧ wk11.heap.size ≤ wr.heap.size ∧ Same (But wk11.heap.size wl.heap.size) wk11 wr ∧ Elems (At (Ex vv wk11.heap.size wr.heap.size) wr) ByE z.kids M)
    (fun i _ => z.kids.length - (intOf i).toNat)
  case atStart =>
    exact ⟨0, [], .slice none 0 0, Nat.zero_le _, rfl, BX12.out, World.ownsRow_nil _ _ _ _, HW12.out, Nat.le_refl _, Same.refl _ _, Elems.nil _ _ _⟩
  case round =>
    obtain ⟨j, M, vv, hj, rfl, hblk, hown, hbel, hsr, hsame, hE2⟩ := hrel
    have HBLK := Lib.hid hblk
    have HOWN := Lib.hid hown
    have HBEL := Lib.hid hbel
    have HSAME := Lib.hid hsame
    have HE2 := Lib.hid hE2
    clear hblk hown hbel hE2 hsame
    have hszW := HW12.out.size
    have hXlt := BX12.out.lt
    by_cases hjl : j < z.kids.length
    · have hjl' : (j : Int) < (z.kids.length : Int) := by omega
      obtain ⟨b, o, V, hae, hb, c0, c1, c2, hV⟩ := HEL11.out j z.kids[j] (List.getElem?_eq_getElem hjl)
      subst hae
      have hneX : b ≠ wl.heap.size := by omega
      have c0' := (HSAME.out.cell (b := b) (o := o + j * 3) (s := none) ⟨by omega, hneX⟩).trans c0
      have c1' := (HSAME.out.cell (b := b) (o := o + j * 3 + 1) (s := none) ⟨by omega, hneX⟩).trans c1
      have c2' := (HSAME.out.cell (b := b) (o := o + j * 3 + 2) (s := none) ⟨by omega, hneX⟩).trans c2
      obtain ⟨a2, cap2, rfl, _, _⟩ := hV.shape
      have HV := Lib.hid (((hV.same (w' := wr) (fun b hb => HSAME.out b ⟨by omega, by omega⟩))).mono (fun b (hb : b < w.heap.size) => (show b < wr.heap.size by omega)))
      have hgj : z.kids[j]? = some z.kids[j] := List.getElem?_eq_getElem hjl
      have hsz : shE f z.kids[j] = true := List.all_eq_true.1 HZN.out _ (List.getElem_mem hjl)
      have hjs : z.kids[j].size ≤ 400 := by have := N.size_kid (m := z) hgj; omega
      have HGJ := Lib.hid hgj
      have HSZ := Lib.hid hsz
      clear hV hgj hsz c0 c1 c2
      have y1 := HBLK.out.cell 3 _ rfl
      have yf := HBLK.out.frozen 3
      have hltx := HBLK.out.lt
      go_wp2_with fail
      refine (next_any bb _ ((HBd.out.later HBEL.out).later ((Below.refl _ _).alloc (Nat.le_refl _) _))).mono ?_
      rintro en wn ⟨rfl, hwn⟩
      subst hwn
      go_wp2_with fail
      go_region_law (first
        | (refine step_call (by rfl) 58 _ _ (by rfl) #[Pt bb, z.kids[j].val (.slice a2 z.kids[j].kids.length cap2)] (by simp [Act.eval, N.val]) (enters_of Tryz.func58 (by kernel_rfl) rfl) (HE.out z.kids[j] (.slice a2 z.kids[j].kids.length cap2) bb _ hjs HSZ.out (HV.out.later (((Below.refl _ _).alloc (Nat.le_refl _) _).drew)) ((HBd.out.later HBEL.out).later (((Below.refl _ _).alloc (Nat.le_refl _) _).drew))) ?_
           rintro e w3 ⟨r3, rfl, he3, hb3, hr3⟩
           refine ⟨_, rfl, ?_⟩
           obtain ⟨t3, p3, rfl⟩ := isE_form he3 hr3
           have hbA := (((Below.refl wr.heap.size wr).alloc (Nat.le_refl _) (Obj.cells #[Value.string z.kids[j].kind, Value.string z.kids[j].text, Value.slice a2 z.kids[j].kids.length cap2] 24)).drew).trans (hb3.mono (by simp))
           have hs3 : wr.heap.size ≤ w3.heap.size := hbA.size
           have hx3 := HBLK.out.later hbA hltx
           have z1 := hx3.cell 3 _ rfl
           have zf := hx3.frozen 3
           have lt3 := hx3.lt
           have HOWN3 := Lib.hid (owns_kept HOWN.out hbA)
           have HR3 := Lib.hid hr3
           have HEE := Lib.hid he3
           have HBA := Lib.hid hbA
           have HX3 := Lib.hid hx3
           clear hb3 hr3 hbA hx3 he3)
        | (refine step_append_lies _ (by rfl) (.tmp 67) (.tmp 71) 106 (by rfl) wk11.heap.size 105 i0 .nilIface 1 16 under104 HI.out.1 HI.out.2.1 HI.out.2.2.1 HI.out.2.2.2 (by rfl) (by decide) vv j M (by simp [Act.eval]) (HOWN3.out.alloc _) ⟨w3.heap.size, 0, none⟩ 1 1 [.iface t3 (Pt p3)] (by simp [Act.eval]) (by rfl) (World.news_of_block (heap_alloc_new _ _)) (by simp [Value.oneCell']) (by decide) (by unfold maxLen; omega) (by omega) (by simp; omega) (w3.heap.size + 1) (by simp) ?_
           intro g cap' w5 hown5 hgrow5 hat5 hlt5
           have hbC := HBA.out.alloc hs3 (.cells #[.iface t3 (Pt p3)] 105)
           have HE5 := Lib.hid (elems_step (n := j + 1) (cap := cap') HE2.out hsr (fun k hk => (HOWN.out.lt k hk).2) hbC (HR3.out.beneath ((Below.refl w3.heap.size w3).alloc (Nat.le_refl _) (.cells #[.iface t3 (Pt p3)] 105)) (by simp) (Nat.le_refl _) (by simp)) ⟨rfl, HEE.out⟩ hgrow5 (hat5.imp id (fun h => by simp; omega)) (by simpa using HOWN3.out.1) HGJ.out)
           have HB5 := Lib.hid ((HBEL.out.trans (hbC.mono HBEL.out.size)).grown hgrow5 (by simp; omega) (fun k hk => by have := (HOWN.out.lt k hk).1; omega))
           have HS5 := Lib.hid (But.grown (But.below HSAME.out hbC hsr) hgrow5 (by simp; omega) (fun k hk => (HOWN.out.lt k hk).1))
           have hx5 : Blk w5 wl.heap.size 108 #[Value.pointer none, Value.slice al x.kids.length capl, (.iface ty (Pt py)), vv, Value.pointer none] := (hgrow5.block _ (by simp; omega) (fun h => by have := (HOWN.out.lt _ h.symm).1; omega)).trans (HX3.out.later ((Below.refl w3.heap.size w3).alloc (Nat.le_refl _) (.cells #[.iface t3 (Pt p3)] 105)) HX3.out.lt)
           have z1 := hx5.cell 3 _ rfl
           have zf := hx5.frozen 3
           have HX5 := Lib.hid hx5
           have HO5 := Lib.hid hown5
           have hsz5 : wk11.heap.size ≤ w5.heap.size := by have := hgrow5.size; simp at this; omega
           clear hown5 hgrow5 hat5 hbC hx5))
      all_goals
        go_wp2_with fail
        go_roundw
        case rel => exact ⟨j + 1, M ++ [.iface t3 (Pt p3)], .slice (some ⟨g, 0, none⟩) (j + 1) cap', by omega, by go_num, HX5.out.set 3 _, ownsRow_setCell_below HO5.out (by simp; omega) _, HB5.out.setCell (by simp; omega) _, by simpa using hsz5, But.set HS5.out, HE5.out.set (by omega)⟩
        case measure => simp [intOf]; omega
    · have hjl' : ¬ (j : Int) < (z.kids.length : Int) := by omega
      have hjj : j = z.kids.length := by omega
      subst hjj
      go_wp2_with fail
      go_ret
      have hM : M.length = z.kids.length := by simpa using HOWN.out.1
      have hlz := Rl12.out.but HSAME.out (by omega) (by omega)
      have hBX := HBLK.out
      have hel2 := (HE2.out.ex (lo' := w.heap.size) (by omega)).self (by omega)
      have hpt := (hlz.wide (lo' := w.heap.size) (hi' := wr.heap.size) (by omega) (by omega))
      obtain ⟨hp1, hp2⟩ := hpt.2.2.pts (by rw [hpt.1]; exact Nat.le_refl _)
      exact ⟨_, rfl, rfl, HBEL.out, .value n _ x y z (fun i => ptOf (L.getD i .nilIface)) _ _ (fun i => M.getD i .nilIface) _ HKB.out htx HX.out hkx htx1 hkz htz ⟨⟨by omega, hBX.lt⟩, hBX.cell 0 _ rfl⟩ ⟨⟨by omega, hBX.lt⟩, hBX.cell 1 _ rfl⟩ (hpt.2.1.congr hp2) hp1 (.inr hexy) ⟨⟨by omega, hBX.lt⟩, hBX.cell 2 _ rfl⟩ ((Ry12.out.but HSAME.out (by omega) (by omega)).wide (by omega) (by omega))
        ⟨⟨by omega, hBX.lt⟩, hBX.cell 3 _ rfl⟩ (lat_of_owns HOWN.out (by omega)) (fun i m hm => (hel2 i m hm).1) (fun i m hm => (hel2 i m hm).2) ⟨⟨by omega, hBX.lt⟩, hBX.cell 4 _ rfl⟩⟩
end Go.Proofs.YtoijkbkcfbbmfaaGreatDoor

/- What is proved here: build: functions. -/
namespace Go.Proofs.YtoijkbkcfbbmfaaGreatDoor
open Go.RowKit Go.Shelf
set_option linter.unusedSimpArgs false
set_option linter.unusedVariables false
attribute [local go_sem] fld_0 fld_1 fld_2
attribute [local go_sem ↓] Go.wp_at_zero Go.wp_at_succ
theorem Bd.set {w : World} {bb X i : Nat} {u : Value} (h : Bd w bb) (hX : bb ≠ X) : Bd (w.setCell ⟨X, i, none⟩ u) bb := by
  obtain ⟨a, cap, hc⟩ := h.cell
  exact ⟨by simpa using h.lt, a, cap, (World.cell?_of_block (heap_setCell_other _ _ _ _ (by simpa using hX))).trans hc⟩
theorem drew_below (w : World) : Below w.heap.size w w.drew := (Below.refl _ _).drew

set_option maxHeartbeats 4000000 in
set_option maxRecDepth 100000 in
theorem build_func_01 (n : N) (v : Value) (w : World) (hn : n.size ≤ 400) (hkd : n.kind.toList = [102, 117, 110, 99]) (x y z : N) (hx : n.kids = [x, y, z]) (hsx : shF (shE 400) bare x = true) (hky : y.kind.toList = [115, 105, 103, 110, 97, 116, 117, 114, 101]) (hsy : shE 400 y = true) (hmz : missing z = true) (hk : KidsAt (· < w.heap.size) w v n.kids) :
    Calls Tryz.prog 18 #[n.val v, .slice none 0 0] w fun e w' => ∃ r, e = .returned r ∧ (∃ b, r = Nd 51 b) ∧ Made w w' n r := by
  have hkb : isK n [102, 117, 110, 99] = true := by simp [isK, hkd]
  have hxs : x.size ≤ 400 := by have := N.size_kid (m := n) (n := x) (i := 0) (by rw [hx]; rfl); omega
  have hys : y.size ≤ 400 := by have := N.size_kid (m := n) (n := y) (i := 1) (by rw [hx]; rfl); omega
  have HX := Lib.hid hx
  have HKB := Lib.hid hkb
  have HSY := Lib.hid hsy
  have hzk : z.kind.toList = [110, 111, 110, 101] := by
    have h := hmz
    simp only [missing, isK, Bool.and_eq_true, beq_iff_eq] at h
    exact h.1.1
  have HSX := Lib.hid hsx
  clear hsx
  clear hx hkb hsy
  have hE := (b_all 400).1
  have hS := (b_all 400).2
  have HE := Lib.hid hE
  have HS := Lib.hid hS
  clear hE hS
  obtain ⟨a, cap, rfl, hcap, hel⟩ := hk.shape
  have hlen := N.len_lt n
  have HK := Lib.hid hk
  have HW0 := Lib.hid (((Below.refl w.heap.size w).alloc (Nat.le_refl _) (Obj.cells #[Value.string n.kind, Value.string n.text, Value.slice a n.kids.length cap] 24)).alloc (by simp) (Obj.cells #[Value.slice none 0 0] 48))
  have BN0 : Hid (Blk ((w.alloc (Obj.cells #[Value.string n.kind, Value.string n.text, Value.slice a n.kids.length cap] 24)).alloc (Obj.cells #[Value.slice none 0 0] 48)) w.heap.size 24 #[Value.string n.kind, Value.string n.text, Value.slice a n.kids.length cap]) := Lib.hid ((Blk.new w _ 24).later ((Below.refl (w.heap.size + 1) _).alloc (by simp) _) (by omega))
  have bB0 : Blk ((w.alloc (Obj.cells #[Value.string n.kind, Value.string n.text, Value.slice a n.kids.length cap] 24)).alloc (Obj.cells #[Value.slice none 0 0] 48)) (w.heap.size + 1) 48 #[Value.slice none 0 0] := by simpa using Blk.new (w.alloc (Obj.cells #[Value.string n.kind, Value.string n.text, Value.slice a n.kids.length cap] 24)) #[Value.slice none 0 0] 48
  have HD0 : Hid (Bd ((w.alloc (Obj.cells #[Value.string n.kind, Value.string n.text, Value.slice a n.kids.length cap] 24)).alloc (Obj.cells #[Value.slice none 0 0] 48)) (w.heap.size + 1)) := Lib.hid ⟨bB0.lt, none, 0, bB0.cell 0 _ rfl⟩
  have hs0 : (((w.alloc (Obj.cells #[Value.string n.kind, Value.string n.text, Value.slice a n.kids.length cap] 24)).alloc (Obj.cells #[Value.slice none 0 0] 48))).heap.size = w.heap.size + 2 := by simp
  have HS0 := Lib.hid hs0
  clear hk hel hs0 bB0
  unfold N.val
  go_enter Tryz.func18, Tryz.ntmps18
  have e00 := BN0.out.cell 0 _ rfl
  have e10 := BN0.out.cell 1 _ rfl
  have e20 := BN0.out.cell 2 _ rfl
  have en0 := BN0.out.lt
  go_wp2_with fail
  refine (next_any _ _ HD0.out).mono ?_
  rintro eq1 wq1 ⟨rfl, hq1⟩
  subst hq1
  go_wp2_with fail
  have HWc := Lib.hid HW0.out.drew
  have BNc := Lib.hid (BN0.out.later (drew_below _) BN0.out.lt)
  have HDc := Lib.hid (HD0.out.later (drew_below _))
  have hd0 : (((w.alloc (Obj.cells #[Value.string n.kind, Value.string n.text, Value.slice a n.kids.length cap] 24)).alloc (Obj.cells #[Value.slice none 0 0] 48))).drew.heap.size = w.heap.size + 2 := by simp [World.drew]
  have HD0S := Lib.hid hd0
  clear HW0 BN0 HD0 hd0
  go_region_law (first
        | (refine step_call (by rfl) 35 _ _ (by rfl) #[n.val (.slice a n.kids.length cap), .int .i64 0] (by simp [Act.eval, N.val]) (enters_of Tryz.func35 (by kernel_rfl) rfl) (kid_any n _ 0 x _ (HK.out.later HWc.out) (by rw [HX.out]; rfl)) ?_
           rintro ec wc ⟨vk, rfl, hbq, hkq⟩
           refine ⟨_, rfl, ?_⟩
           have szq := hbq.size
           have szc : w.heap.size + 2 ≤ wc.heap.size := by first | (have := HD0S.out; omega) | (simp only [World.drew, World.size_alloc] at szq; omega) | omega
           replace HWc := Lib.hid (HWc.out.trans (hbq.mono HWc.out.size))
           replace BNc := Lib.hid (BNc.out.later hbq BNc.out.lt)
           replace HDc := Lib.hid (HDc.out.later hbq)
           first | (replace RX := Lib.hid (RX.out.beneath hbq (Nat.le_refl _) (Nat.le_refl _) szq)) | skip
           first | (replace RS := Lib.hid (RS.out.beneath hbq (Nat.le_refl _) (Nat.le_refl _) szq)) | skip
           have q1 := BNc.out.cell 1 _ rfl
           have q0 := BNc.out.cell 0 _ rfl
           have q2 := BNc.out.cell 2 _ rfl
           have ql := BNc.out.lt
           have HKx := Lib.hid hkq
           clear hbq hkq)
        | (refine step_call (by rfl) 34 _ _ (by rfl) #[Pt (w.heap.size + 1), x.val vk] (by simp [Act.eval, N.val]) (enters_of Tryz.func34 (by kernel_rfl) rfl) (params_made HE.out HS.out x vk _ _ hxs HSX.out HKx.out HDc.out) ?_
           rintro ec wc ⟨px, rfl, hbq, hrq⟩
           refine ⟨_, rfl, ?_⟩
           have szq := hbq.size
           have szc : w.heap.size + 2 ≤ wc.heap.size := by first | (have := HD0S.out; omega) | (simp only [World.drew, World.size_alloc] at szq; omega) | omega
           replace HWc := Lib.hid (HWc.out.trans (hbq.mono HWc.out.size))
           replace BNc := Lib.hid (BNc.out.later hbq BNc.out.lt)
           replace HDc := Lib.hid (HDc.out.later hbq)
           first | (replace RX := Lib.hid (RX.out.beneath hbq (Nat.le_refl _) (Nat.le_refl _) szq)) | skip
           first | (replace RS := Lib.hid (RS.out.beneath hbq (Nat.le_refl _) (Nat.le_refl _) szq)) | skip
           have q1 := BNc.out.cell 1 _ rfl
           have q0 := BNc.out.cell 0 _ rfl
           have q2 := BNc.out.cell 2 _ rfl
           have ql := BNc.out.lt
           have RX := Lib.hid (hrq.wide (lo' := w.heap.size + 2) (by first | (have := HD0S.out; omega) | omega) (Nat.le_refl _))
           clear hrq
           clear hbq)
        | (refine step_call (by rfl) 36 _ _ (by rfl) #[Pt (w.heap.size + 1), .string n.text] (by simp [Act.eval, N.val]) (enters_of Tryz.func36 (by kernel_rfl) rfl) (ident_any _ n.text _ HDc.out) ?_
           rintro ec wc ⟨ps, rfl, hbq, hrq⟩
           refine ⟨_, rfl, ?_⟩
           have szq := hbq.size
           have szc : w.heap.size + 2 ≤ wc.heap.size := by first | (have := HD0S.out; omega) | (simp only [World.drew, World.size_alloc] at szq; omega) | omega
           replace HWc := Lib.hid (HWc.out.trans (hbq.mono HWc.out.size))
           replace BNc := Lib.hid (BNc.out.later hbq BNc.out.lt)
           replace HDc := Lib.hid (HDc.out.later hbq)
           first | (replace RX := Lib.hid (RX.out.beneath hbq (Nat.le_refl _) (Nat.le_refl _) szq)) | skip
           first | (replace RS := Lib.hid (RS.out.beneath hbq (Nat.le_refl _) (Nat.le_refl _) szq)) | skip
           have q1 := BNc.out.cell 1 _ rfl
           have q0 := BNc.out.cell 0 _ rfl
           have q2 := BNc.out.cell 2 _ rfl
           have ql := BNc.out.lt
           first | (replace HKx := Lib.hid (HKx.out.later hbq)) | skip
           have RS := Lib.hid (hrq.wide (lo' := w.heap.size + 2) (by first | (have := HD0S.out; omega) | omega) (Nat.le_refl _))
           clear hbq hrq))
  all_goals
    have HW50 := HWc
    have BN50 := BNc
    have HD50 := HDc
    have RS50 := RS
    have RX50 := RX
    clear HWc BNc HDc RS RX q0 q1 q2 ql
    have sx61 : ((wc.alloc (Obj.cells #[Value.pointer none, Pt px, Pt ps, Value.pointer none, Value.pointer none] 61))).heap.size = (wc).heap.size + 1 := by simp only [World.size_alloc]
    have HW61 := Lib.hid (HW50.out.alloc (by (try simp only [World.size_setCell, World.size_alloc]); omega) (Obj.cells #[Value.pointer none, Pt px, Pt ps, Value.pointer none, Value.pointer none] 61))
    have BN61 := Lib.hid (BN50.out.later ((Below.refl (wc).heap.size wc).alloc (Nat.le_refl _) (Obj.cells #[Value.pointer none, Pt px, Pt ps, Value.pointer none, Value.pointer none] 61)) (by (try simp only [World.size_setCell, World.size_alloc]); omega))
    have BX61 := Lib.hid (Blk.new wc #[Value.pointer none, Pt px, Pt ps, Value.pointer none, Value.pointer none] 61)
    have RS61 := Lib.hid (RS50.out.beneath ((Below.refl (wc).heap.size wc).alloc (Nat.le_refl _) (Obj.cells #[Value.pointer none, Pt px, Pt ps, Value.pointer none, Value.pointer none] 61)) (Nat.le_refl _) (by (try simp only [World.size_setCell, World.size_alloc]); omega) (Nat.le_refl _))
    have RX61 := Lib.hid (RX50.out.beneath ((Below.refl (wc).heap.size wc).alloc (Nat.le_refl _) (Obj.cells #[Value.pointer none, Pt px, Pt ps, Value.pointer none, Value.pointer none] 61)) (Nat.le_refl _) (by (try simp only [World.size_setCell, World.size_alloc]); omega) (Nat.le_refl _))
    clear HW50 BN50 RS50 RX50
    try simp only [World.size_setCell, World.size_alloc] at BX61 sx61
    have HD61 := Lib.hid (HD50.out.later ((Below.refl (wc).heap.size wc).alloc (Nat.le_refl _) (Obj.cells #[Value.pointer none, Pt px, Pt ps, Value.pointer none, Value.pointer none] 61)))
    clear HD50
    have e061 := BN61.out.cell 0 _ rfl
    have e161 := BN61.out.cell 1 _ rfl
    have e261 := BN61.out.cell 2 _ rfl
    have en61 := BN61.out.lt
    go_wp2_with fail
    refine (kid_any n _ 1 y _ (HK.out.later HW61.out) (by rw [HX.out]; rfl)).mono ?_
    rintro ek62 wk62 ⟨vk62, rfl, hb62, hk62⟩
    have HK62 := Lib.hid hk62
    clear hk62
    have sz63 := hb62.size
    try simp only [World.size_setCell, World.size_alloc] at sz63
    have HW63 := Lib.hid (HW61.out.trans (hb62.mono (by (try simp only [World.size_setCell, World.size_alloc]); omega)))
    have BN63 := Lib.hid (BN61.out.later hb62 (by (try simp only [World.size_setCell, World.size_alloc]); omega))
    have BX63 := Lib.hid (BX61.out.later hb62 (by (try simp only [World.size_setCell, World.size_alloc]); omega))
    have RS63 := Lib.hid (RS61.out.beneath hb62 (Nat.le_refl _) (by (try simp only [World.size_setCell, World.size_alloc]); omega) (Nat.le_refl _))
    have RX63 := Lib.hid (RX61.out.beneath hb62 (Nat.le_refl _) (by (try simp only [World.size_setCell, World.size_alloc]); omega) (Nat.le_refl _))
    clear HW61 BN61 BX61 RS61 RX61 e061 e161 e261 en61
    have HD63 := Lib.hid (HD61.out.later hb62)
    clear HD61
    clear hb62
    go_wp2_with fail
    refine (sig_made 399 (b_all 399).1 (b_all 399).2 y vk62 _ 1 _ hys hky HSY.out HK62.out HD63.out).mono ?_
    rintro ec64 wc64 ⟨py, rfl, hb64, hr64⟩
    have szz64 := hb64.size
    try simp only [World.size_setCell, World.size_alloc] at szz64
    have sz65 := hb64.size
    try simp only [World.size_setCell, World.size_alloc] at sz65
    have HW65 := Lib.hid (HW63.out.trans (hb64.mono (by (try simp only [World.size_setCell, World.size_alloc]); omega)))
    have BN65 := Lib.hid (BN63.out.later hb64 (by (try simp only [World.size_setCell, World.size_alloc]); omega))
    have BX65 := Lib.hid (BX63.out.later hb64 (by (try simp only [World.size_setCell, World.size_alloc]); omega))
    have RS65 := Lib.hid (RS63.out.beneath hb64 (Nat.le_refl _) (by (try simp only [World.size_setCell, World.size_alloc]); omega) (Nat.le_refl _))
    have RX65 := Lib.hid (RX63.out.beneath hb64 (Nat.le_refl _) (by (try simp only [World.size_setCell, World.size_alloc]); omega) (Nat.le_refl _))
    clear HW63 BN63 BX63 RS63 RX63
    have HD65 := Lib.hid (HD63.out.later hb64)
    clear HD63
    try simp only [World.size_setCell, World.size_alloc] at hr64
    have Ry65 := Lib.hid hr64
    clear hb64 hr64
    have x365c := BX65.out.cell 3 _ rfl
    have x365f := BX65.out.frozen 3
    have x365l := BX65.out.lt
    have e065 := BN65.out.cell 0 _ rfl
    have e165 := BN65.out.cell 1 _ rfl
    have e265 := BN65.out.cell 2 _ rfl
    have en65 := BN65.out.lt
    have sb66 := BX65.out.lt
    have HW66 := Lib.hid (HW65.out.setCell (p := ⟨wc.heap.size, 3, none⟩) (by show w.heap.size ≤ wc.heap.size; omega) (Pt py))
    have BN66 := Lib.hid (BN65.out.other (wc.heap.size) 3 (Pt py) (by omega))
    have BX66 := Lib.hid (BX65.out.set 3 (Pt py))
    have RS66 := Lib.hid (RS65.out.setX (X := wc.heap.size) (i := 3) (u := (Pt py)) (by omega))
    have RX66 := Lib.hid (RX65.out.setX (X := wc.heap.size) (i := 3) (u := (Pt py)) (by omega))
    have Ry66 := Lib.hid (Ry65.out.setX (X := wc.heap.size) (i := 3) (u := (Pt py)) (by omega))
    clear HW65 BN65 BX65 RS65 RX65 Ry65
    have HD66 := Lib.hid (HD65.out.set (X := wc.heap.size) (i := 3) (u := (Pt py)) (by omega))
    clear HD65
    go_wp2_with fail
    refine (kid_any n _ 2 z _ (HK.out.later HW66.out) (by rw [HX.out]; rfl)).mono ?_
    rintro ek67 wk67 ⟨vk67, rfl, hb67, hk67⟩
    have HK67 := Lib.hid hk67
    clear hk67
    have sz68 := hb67.size
    try simp only [World.size_setCell, World.size_alloc] at sz68
    have HW68 := Lib.hid (HW66.out.trans (hb67.mono (by (try simp only [World.size_setCell, World.size_alloc]); omega)))
    have BN68 := Lib.hid (BN66.out.later hb67 (by (try simp only [World.size_setCell, World.size_alloc]); omega))
    have BX68 := Lib.hid (BX66.out.later hb67 (by (try simp only [World.size_setCell, World.size_alloc]); omega))
    have RS68 := Lib.hid (RS66.out.beneath hb67 (Nat.le_refl _) (by (try simp only [World.size_setCell, World.size_alloc]); omega) (Nat.le_refl _))
    have RX68 := Lib.hid (RX66.out.beneath hb67 (Nat.le_refl _) (by (try simp only [World.size_setCell, World.size_alloc]); omega) (Nat.le_refl _))
    have Ry68 := Lib.hid (Ry66.out.beneath hb67 (Nat.le_refl _) (by (try simp only [World.size_setCell, World.size_alloc]); omega) (Nat.le_refl _))
    clear HW66 BN66 BX66 RS66 RX66 Ry66 x365c x365f x365l e065 e165 e265 en65
    have HD68 := Lib.hid (HD66.out.later hb67)
    clear HD66
    clear hb67
    obtain ⟨ak67, ck67, hvk67, hck67, hel67⟩ := id HK67.out.shape
    subst hvk67
    have HEL67 := Lib.hid hel67
    clear hel67
    unfold N.val
    have e068 := BN68.out.cell 0 _ rfl
    have e168 := BN68.out.cell 1 _ rfl
    have e268 := BN68.out.cell 2 _ rfl
    have en68 := BN68.out.lt
    go_wp2_with fail
    go_ret
    exact ⟨_, rfl, ⟨_, rfl⟩, HW68.out, .func n _ x y z _ _ _ _ _ _ HKB.out HX.out ⟨⟨by show w.heap.size ≤ wc.heap.size; omega, BX68.out.lt⟩, BX68.out.cell 0 _ rfl⟩ ⟨⟨by show w.heap.size ≤ wc.heap.size; omega, BX68.out.lt⟩, BX68.out.cell 1 _ rfl⟩ (.inr ⟨_, rfl, rfl⟩) (RX68.out.wide (by omega) (by (try simp only [World.size_setCell]); omega)) ⟨⟨by show w.heap.size ≤ wc.heap.size; omega, BX68.out.lt⟩, BX68.out.cell 2 _ rfl⟩ (RS68.out.wide (by omega) (by (try simp only [World.size_setCell]); omega)) ⟨⟨by show w.heap.size ≤ wc.heap.size; omega, BX68.out.lt⟩, BX68.out.cell 3 _ rfl⟩ (Ry68.out.wide (by omega) (by (try simp only [World.size_setCell]); omega)) ⟨⟨by show w.heap.size ≤ wc.heap.size; omega, BX68.out.lt⟩, BX68.out.cell 4 _ rfl⟩ (.inl ⟨rfl, rfl⟩) (.none z hmz) ⟩

set_option maxHeartbeats 4000000 in
set_option maxRecDepth 100000 in
theorem build_func_11 (n : N) (v : Value) (w : World) (hn : n.size ≤ 400) (hkd : n.kind.toList = [102, 117, 110, 99]) (x y z : N) (hx : n.kids = [x, y, z]) (hmx : missing x = true) (hky : y.kind.toList = [115, 105, 103, 110, 97, 116, 117, 114, 101]) (hsy : shE 400 y = true) (hmz : missing z = true) (hk : KidsAt (· < w.heap.size) w v n.kids) :
    Calls Tryz.prog 18 #[n.val v, .slice none 0 0] w fun e w' => ∃ r, e = .returned r ∧ (∃ b, r = Nd 51 b) ∧ Made w w' n r := by
  have hkb : isK n [102, 117, 110, 99] = true := by simp [isK, hkd]
  have hxs : x.size ≤ 400 := by have := N.size_kid (m := n) (n := x) (i := 0) (by rw [hx]; rfl); omega
  have hys : y.size ≤ 400 := by have := N.size_kid (m := n) (n := y) (i := 1) (by rw [hx]; rfl); omega
  have HX := Lib.hid hx
  have HKB := Lib.hid hkb
  have HSY := Lib.hid hsy
  have hzk : z.kind.toList = [110, 111, 110, 101] := by
    have h := hmz
    simp only [missing, isK, Bool.and_eq_true, beq_iff_eq] at h
    exact h.1.1
  clear hx hkb hsy
  have hE := (b_all 400).1
  have hS := (b_all 400).2
  have HE := Lib.hid hE
  have HS := Lib.hid hS
  clear hE hS
  obtain ⟨a, cap, rfl, hcap, hel⟩ := hk.shape
  have hlen := N.len_lt n
  have HK := Lib.hid hk
  have HW0 := Lib.hid (((Below.refl w.heap.size w).alloc (Nat.le_refl _) (Obj.cells #[Value.string n.kind, Value.string n.text, Value.slice a n.kids.length cap] 24)).alloc (by simp) (Obj.cells #[Value.slice none 0 0] 48))
  have BN0 : Hid (Blk ((w.alloc (Obj.cells #[Value.string n.kind, Value.string n.text, Value.slice a n.kids.length cap] 24)).alloc (Obj.cells #[Value.slice none 0 0] 48)) w.heap.size 24 #[Value.string n.kind, Value.string n.text, Value.slice a n.kids.length cap]) := Lib.hid ((Blk.new w _ 24).later ((Below.refl (w.heap.size + 1) _).alloc (by simp) _) (by omega))
  have bB0 : Blk ((w.alloc (Obj.cells #[Value.string n.kind, Value.string n.text, Value.slice a n.kids.length cap] 24)).alloc (Obj.cells #[Value.slice none 0 0] 48)) (w.heap.size + 1) 48 #[Value.slice none 0 0] := by simpa using Blk.new (w.alloc (Obj.cells #[Value.string n.kind, Value.string n.text, Value.slice a n.kids.length cap] 24)) #[Value.slice none 0 0] 48
  have HD0 : Hid (Bd ((w.alloc (Obj.cells #[Value.string n.kind, Value.string n.text, Value.slice a n.kids.length cap] 24)).alloc (Obj.cells #[Value.slice none 0 0] 48)) (w.heap.size + 1)) := Lib.hid ⟨bB0.lt, none, 0, bB0.cell 0 _ rfl⟩
  have hs0 : (((w.alloc (Obj.cells #[Value.string n.kind, Value.string n.text, Value.slice a n.kids.length cap] 24)).alloc (Obj.cells #[Value.slice none 0 0] 48))).heap.size = w.heap.size + 2 := by simp
  have HS0 := Lib.hid hs0
  clear hk hel hs0 bB0
  unfold N.val
  go_enter Tryz.func18, Tryz.ntmps18
  have e00 := BN0.out.cell 0 _ rfl
  have e10 := BN0.out.cell 1 _ rfl
  have e20 := BN0.out.cell 2 _ rfl
  have en0 := BN0.out.lt
  go_wp2_with fail
  refine (next_any _ _ HD0.out).mono ?_
  rintro eq1 wq1 ⟨rfl, hq1⟩
  subst hq1
  go_wp2_with fail
  have HWc := Lib.hid HW0.out.drew
  have BNc := Lib.hid (BN0.out.later (drew_below _) BN0.out.lt)
  have HDc := Lib.hid (HD0.out.later (drew_below _))
  have hd0 : (((w.alloc (Obj.cells #[Value.string n.kind, Value.string n.text, Value.slice a n.kids.length cap] 24)).alloc (Obj.cells #[Value.slice none 0 0] 48))).drew.heap.size = w.heap.size + 2 := by simp [World.drew]
  have HD0S := Lib.hid hd0
  clear HW0 BN0 HD0 hd0
  go_region_law (first
        | (refine step_call (by rfl) 35 _ _ (by rfl) #[n.val (.slice a n.kids.length cap), .int .i64 0] (by simp [Act.eval, N.val]) (enters_of Tryz.func35 (by kernel_rfl) rfl) (kid_any n _ 0 x _ (HK.out.later HWc.out) (by rw [HX.out]; rfl)) ?_
           rintro ec wc ⟨vk, rfl, hbq, hkq⟩
           refine ⟨_, rfl, ?_⟩
           have szq := hbq.size
           have szc : w.heap.size + 2 ≤ wc.heap.size := by first | (have := HD0S.out; omega) | (simp only [World.drew, World.size_alloc] at szq; omega) | omega
           replace HWc := Lib.hid (HWc.out.trans (hbq.mono HWc.out.size))
           replace BNc := Lib.hid (BNc.out.later hbq BNc.out.lt)
           replace HDc := Lib.hid (HDc.out.later hbq)
           first | (replace RX := Lib.hid (RX.out.beneath hbq (Nat.le_refl _) (Nat.le_refl _) szq)) | skip
           first | (replace RS := Lib.hid (RS.out.beneath hbq (Nat.le_refl _) (Nat.le_refl _) szq)) | skip
           have q1 := BNc.out.cell 1 _ rfl
           have q0 := BNc.out.cell 0 _ rfl
           have q2 := BNc.out.cell 2 _ rfl
           have ql := BNc.out.lt
           have HKx := Lib.hid hkq
           clear hbq hkq)
        | (refine step_call (by rfl) 34 _ _ (by rfl) #[Pt (w.heap.size + 1), x.val vk] (by simp [Act.eval, N.val]) (enters_of Tryz.func34 (by kernel_rfl) rfl) (params_none _ x vk _ hmx HKx.out) ?_
           rintro ec wc ⟨rfl, hbq⟩
           refine ⟨_, rfl, ?_⟩
           have szq := hbq.size
           have szc : w.heap.size + 2 ≤ wc.heap.size := by first | (have := HD0S.out; omega) | (simp only [World.drew, World.size_alloc] at szq; omega) | omega
           replace HWc := Lib.hid (HWc.out.trans (hbq.mono HWc.out.size))
           replace BNc := Lib.hid (BNc.out.later hbq BNc.out.lt)
           replace HDc := Lib.hid (HDc.out.later hbq)
           first | (replace RX := Lib.hid (RX.out.beneath hbq (Nat.le_refl _) (Nat.le_refl _) szq)) | skip
           first | (replace RS := Lib.hid (RS.out.beneath hbq (Nat.le_refl _) (Nat.le_refl _) szq)) | skip
           have q1 := BNc.out.cell 1 _ rfl
           have q0 := BNc.out.cell 0 _ rfl
           have q2 := BNc.out.cell 2 _ rfl
           have ql := BNc.out.lt
           clear hbq)
        | (refine step_call (by rfl) 36 _ _ (by rfl) #[Pt (w.heap.size + 1), .string n.text] (by simp [Act.eval, N.val]) (enters_of Tryz.func36 (by kernel_rfl) rfl) (ident_any _ n.text _ HDc.out) ?_
           rintro ec wc ⟨ps, rfl, hbq, hrq⟩
           refine ⟨_, rfl, ?_⟩
           have szq := hbq.size
           have szc : w.heap.size + 2 ≤ wc.heap.size := by first | (have := HD0S.out; omega) | (simp only [World.drew, World.size_alloc] at szq; omega) | omega
           replace HWc := Lib.hid (HWc.out.trans (hbq.mono HWc.out.size))
           replace BNc := Lib.hid (BNc.out.later hbq BNc.out.lt)
           replace HDc := Lib.hid (HDc.out.later hbq)
           first | (replace RX := Lib.hid (RX.out.beneath hbq (Nat.le_refl _) (Nat.le_refl _) szq)) | skip
           first | (replace RS := Lib.hid (RS.out.beneath hbq (Nat.le_refl _) (Nat.le_refl _) szq)) | skip
           have q1 := BNc.out.cell 1 _ rfl
           have q0 := BNc.out.cell 0 _ rfl
           have q2 := BNc.out.cell 2 _ rfl
           have ql := BNc.out.lt
           first | (replace HKx := Lib.hid (HKx.out.later hbq)) | skip
           have RS := Lib.hid (hrq.wide (lo' := w.heap.size + 2) (by first | (have := HD0S.out; omega) | omega) (Nat.le_refl _))
           clear hbq hrq))
  all_goals
    have HW50 := HWc
    have BN50 := BNc
    have HD50 := HDc
    have RS50 := RS
    clear HWc BNc HDc RS q0 q1 q2 ql
    have sx61 : ((wc.alloc (Obj.cells #[Value.pointer none, Value.pointer none, Pt ps, Value.pointer none, Value.pointer none] 61))).heap.size = (wc).heap.size + 1 := by simp only [World.size_alloc]
    have HW61 := Lib.hid (HW50.out.alloc (by (try simp only [World.size_setCell, World.size_alloc]); omega) (Obj.cells #[Value.pointer none, Value.pointer none, Pt ps, Value.pointer none, Value.pointer none] 61))
    have BN61 := Lib.hid (BN50.out.later ((Below.refl (wc).heap.size wc).alloc (Nat.le_refl _) (Obj.cells #[Value.pointer none, Value.pointer none, Pt ps, Value.pointer none, Value.pointer none] 61)) (by (try simp only [World.size_setCell, World.size_alloc]); omega))
    have BX61 := Lib.hid (Blk.new wc #[Value.pointer none, Value.pointer none, Pt ps, Value.pointer none, Value.pointer none] 61)
    have RS61 := Lib.hid (RS50.out.beneath ((Below.refl (wc).heap.size wc).alloc (Nat.le_refl _) (Obj.cells #[Value.pointer none, Value.pointer none, Pt ps, Value.pointer none, Value.pointer none] 61)) (Nat.le_refl _) (by (try simp only [World.size_setCell, World.size_alloc]); omega) (Nat.le_refl _))
    clear HW50 BN50 RS50
    try simp only [World.size_setCell, World.size_alloc] at BX61 sx61
    have HD61 := Lib.hid (HD50.out.later ((Below.refl (wc).heap.size wc).alloc (Nat.le_refl _) (Obj.cells #[Value.pointer none, Value.pointer none, Pt ps, Value.pointer none, Value.pointer none] 61)))
    clear HD50
    have e061 := BN61.out.cell 0 _ rfl
    have e161 := BN61.out.cell 1 _ rfl
    have e261 := BN61.out.cell 2 _ rfl
    have en61 := BN61.out.lt
    go_wp2_with fail
    refine (kid_any n _ 1 y _ (HK.out.later HW61.out) (by rw [HX.out]; rfl)).mono ?_
    rintro ek62 wk62 ⟨vk62, rfl, hb62, hk62⟩
    have HK62 := Lib.hid hk62
    clear hk62
    have sz63 := hb62.size
    try simp only [World.size_setCell, World.size_alloc] at sz63
    have HW63 := Lib.hid (HW61.out.trans (hb62.mono (by (try simp only [World.size_setCell, World.size_alloc]); omega)))
    have BN63 := Lib.hid (BN61.out.later hb62 (by (try simp only [World.size_setCell, World.size_alloc]); omega))
    have BX63 := Lib.hid (BX61.out.later hb62 (by (try simp only [World.size_setCell, World.size_alloc]); omega))
    have RS63 := Lib.hid (RS61.out.beneath hb62 (Nat.le_refl _) (by (try simp only [World.size_setCell, World.size_alloc]); omega) (Nat.le_refl _))
    clear HW61 BN61 BX61 RS61 e061 e161 e261 en61
    have HD63 := Lib.hid (HD61.out.later hb62)
    clear HD61
    clear hb62
    go_wp2_with fail
    refine (sig_made 399 (b_all 399).1 (b_all 399).2 y vk62 _ 1 _ hys hky HSY.out HK62.out HD63.out).mono ?_
    rintro ec64 wc64 ⟨py, rfl, hb64, hr64⟩
    have szz64 := hb64.size
    try simp only [World.size_setCell, World.size_alloc] at szz64
    have sz65 := hb64.size
    try simp only [World.size_setCell, World.size_alloc] at sz65
    have HW65 := Lib.hid (HW63.out.trans (hb64.mono (by (try simp only [World.size_setCell, World.size_alloc]); omega)))
    have BN65 := Lib.hid (BN63.out.later hb64 (by (try simp only [World.size_setCell, World.size_alloc]); omega))
    have BX65 := Lib.hid (BX63.out.later hb64 (by (try simp only [World.size_setCell, World.size_alloc]); omega))
    have RS65 := Lib.hid (RS63.out.beneath hb64 (Nat.le_refl _) (by (try simp only [World.size_setCell, World.size_alloc]); omega) (Nat.le_refl _))
    clear HW63 BN63 BX63 RS63
    have HD65 := Lib.hid (HD63.out.later hb64)
    clear HD63
    try simp only [World.size_setCell, World.size_alloc] at hr64
    have Ry65 := Lib.hid hr64
    clear hb64 hr64
    have x365c := BX65.out.cell 3 _ rfl
    have x365f := BX65.out.frozen 3
    have x365l := BX65.out.lt
    have e065 := BN65.out.cell 0 _ rfl
    have e165 := BN65.out.cell 1 _ rfl
    have e265 := BN65.out.cell 2 _ rfl
    have en65 := BN65.out.lt
    have sb66 := BX65.out.lt
    have HW66 := Lib.hid (HW65.out.setCell (p := ⟨wc.heap.size, 3, none⟩) (by show w.heap.size ≤ wc.heap.size; omega) (Pt py))
    have BN66 := Lib.hid (BN65.out.other (wc.heap.size) 3 (Pt py) (by omega))
    have BX66 := Lib.hid (BX65.out.set 3 (Pt py))
    have RS66 := Lib.hid (RS65.out.setX (X := wc.heap.size) (i := 3) (u := (Pt py)) (by omega))
    have Ry66 := Lib.hid (Ry65.out.setX (X := wc.heap.size) (i := 3) (u := (Pt py)) (by omega))
    clear HW65 BN65 BX65 RS65 Ry65
    have HD66 := Lib.hid (HD65.out.set (X := wc.heap.size) (i := 3) (u := (Pt py)) (by omega))
    clear HD65
    go_wp2_with fail
    refine (kid_any n _ 2 z _ (HK.out.later HW66.out) (by rw [HX.out]; rfl)).mono ?_
    rintro ek67 wk67 ⟨vk67, rfl, hb67, hk67⟩
    have HK67 := Lib.hid hk67
    clear hk67
    have sz68 := hb67.size
    try simp only [World.size_setCell, World.size_alloc] at sz68
    have HW68 := Lib.hid (HW66.out.trans (hb67.mono (by (try simp only [World.size_setCell, World.size_alloc]); omega)))
    have BN68 := Lib.hid (BN66.out.later hb67 (by (try simp only [World.size_setCell, World.size_alloc]); omega))
    have BX68 := Lib.hid (BX66.out.later hb67 (by (try simp only [World.size_setCell, World.size_alloc]); omega))
    have RS68 := Lib.hid (RS66.out.beneath hb67 (Nat.le_refl _) (by (try simp only [World.size_setCell, World.size_alloc]); omega) (Nat.le_refl _))
    have Ry68 := Lib.hid (Ry66.out.beneath hb67 (Nat.le_refl _) (by (try simp only [World.size_setCell, World.size_alloc]); omega) (Nat.le_refl _))
    clear HW66 BN66 BX66 RS66 Ry66 x365c x365f x365l e065 e165 e265 en65
    have HD68 := Lib.hid (HD66.out.later hb67)
    clear HD66
    clear hb67
    obtain ⟨ak67, ck67, hvk67, hck67, hel67⟩ := id HK67.out.shape
    subst hvk67
    have HEL67 := Lib.hid hel67
    clear hel67
    unfold N.val
    have e068 := BN68.out.cell 0 _ rfl
    have e168 := BN68.out.cell 1 _ rfl
    have e268 := BN68.out.cell 2 _ rfl
    have en68 := BN68.out.lt
    go_wp2_with fail
    go_ret
    exact ⟨_, rfl, ⟨_, rfl⟩, HW68.out, .func n _ x y z _ _ _ _ _ _ HKB.out HX.out ⟨⟨by show w.heap.size ≤ wc.heap.size; omega, BX68.out.lt⟩, BX68.out.cell 0 _ rfl⟩ ⟨⟨by show w.heap.size ≤ wc.heap.size; omega, BX68.out.lt⟩, BX68.out.cell 1 _ rfl⟩ (.inl ⟨rfl, rfl⟩) (.none x hmx) ⟨⟨by show w.heap.size ≤ wc.heap.size; omega, BX68.out.lt⟩, BX68.out.cell 2 _ rfl⟩ (RS68.out.wide (by omega) (by (try simp only [World.size_setCell]); omega)) ⟨⟨by show w.heap.size ≤ wc.heap.size; omega, BX68.out.lt⟩, BX68.out.cell 3 _ rfl⟩ (Ry68.out.wide (by omega) (by (try simp only [World.size_setCell]); omega)) ⟨⟨by show w.heap.size ≤ wc.heap.size; omega, BX68.out.lt⟩, BX68.out.cell 4 _ rfl⟩ (.inl ⟨rfl, rfl⟩) (.none z hmz) ⟩
end Go.Proofs.YtoijkbkcfbbmfaaGreatDoor

