/- What is proved here: the builder, whole. Conditions: each theorem names its own. -/
import Derived.Deep.RegionHeld3
import Derived.Test.YtoijkbkcfbbmfaaGreatDoorMe
import Derived.Test.YtoijkbkcfbbmfaaGreatDoorMf
set_option linter.all false
set_option linter.unusedVariables false
set_option linter.unusedSimpArgs false
/- What is proved here: build: functions with a body. -/
namespace Go.Proofs.YtoijkbkcfbbmfaaGreatDoor
open Go.RowKit Go.Shelf
set_option linter.unusedSimpArgs false
set_option linter.unusedVariables false
attribute [local go_sem] fld_0 fld_1 fld_2
attribute [local go_sem ↓] Go.wp_at_zero Go.wp_at_succ

set_option maxHeartbeats 4000000 in
set_option maxRecDepth 100000 in
theorem build_func_00 (n : N) (v : Value) (w : World) (hn : n.size ≤ 400) (hkd : n.kind.toList = [102, 117, 110, 99]) (x y z : N) (hx : n.kids = [x, y, z]) (hsx : shF (shE 400) bare x = true) (hky : y.kind.toList = [115, 105, 103, 110, 97, 116, 117, 114, 101]) (hsy : shE 400 y = true) (hbz : bodyB z = true) (hk : KidsAt (· < w.heap.size) w v n.kids) :
    Calls Tryz.prog 18 #[n.val v, .slice none 0 0] w fun e w' => ∃ r, e = .returned r ∧ (∃ b, r = Nd 51 b) ∧ Made w w' n r := by
  have hkb : isK n [102, 117, 110, 99] = true := by simp [isK, hkd]
  have hxs : x.size ≤ 400 := by have := N.size_kid (m := n) (n := x) (i := 0) (by rw [hx]; rfl); omega
  have hys : y.size ≤ 400 := by have := N.size_kid (m := n) (n := y) (i := 1) (by rw [hx]; rfl); omega
  have HX := Lib.hid hx
  have HKB := Lib.hid hkb
  have HSY := Lib.hid hsy
  have hzk : z.kind.toList = [98, 111, 100, 121] := by
    have h := hbz
    simp only [bodyB, isK, Bool.and_eq_true, beq_iff_eq] at h
    exact h.1.1
  have HBZ := Lib.hid hbz
  clear hbz
  have HSX := Lib.hid hsx
  clear hsx
  clear hx hkb hsy
  have hE := (b_all 400).1
  have hS := (b_all 400).2
  have HE := Lib.hid hE
  have HS := Lib.hid hS
  clear hE hS
  obtain ⟨a, cap, rfl, hcap, hel⟩ := hk.shape
  have hlen := N.len_lt n
  have HK := Lib.hid hk
  have HW0 := Lib.hid (((Below.refl w.heap.size w).alloc (Nat.le_refl _) (Obj.cells #[Value.string n.kind, Value.string n.text, Value.slice a n.kids.length cap] 24)).alloc (by simp) (Obj.cells #[Value.slice none 0 0] 48))
  have BN0 : Hid (Blk ((w.alloc (Obj.cells #[Value.string n.kind, Value.string n.text, Value.slice a n.kids.length cap] 24)).alloc (Obj.cells #[Value.slice none 0 0] 48)) w.heap.size 24 #[Value.string n.kind, Value.string n.text, Value.slice a n.kids.length cap]) := Lib.hid ((Blk.new w _ 24).later ((Below.refl (w.heap.size + 1) _).alloc (by simp) _) (by omega))
  have bB0 : Blk ((w.alloc (Obj.cells #[Value.string n.kind, Value.string n.text, Value.slice a n.kids.length cap] 24)).alloc (Obj.cells #[Value.slice none 0 0] 48)) (w.heap.size + 1) 48 #[Value.slice none 0 0] := by simpa using Blk.new (w.alloc (Obj.cells #[Value.string n.kind, Value.string n.text, Value.slice a n.kids.length cap] 24)) #[Value.slice none 0 0] 48
  have HD0 : Hid (Bd ((w.alloc (Obj.cells #[Value.string n.kind, Value.string n.text, Value.slice a n.kids.length cap] 24)).alloc (Obj.cells #[Value.slice none 0 0] 48)) (w.heap.size + 1)) := Lib.hid ⟨bB0.lt, none, 0, bB0.cell 0 _ rfl⟩
  have hs0 : (((w.alloc (Obj.cells #[Value.string n.kind, Value.string n.text, Value.slice a n.kids.length cap] 24)).alloc (Obj.cells #[Value.slice none 0 0] 48))).heap.size = w.heap.size + 2 := by simp
  have HS0 := Lib.hid hs0
  clear hk hel hs0 bB0
  unfold N.val
  go_enter Tryz.func18, Tryz.ntmps18
  have e00 := BN0.out.cell 0 _ rfl
  have e10 := BN0.out.cell 1 _ rfl
  have e20 := BN0.out.cell 2 _ rfl
  have en0 := BN0.out.lt
  go_wp2_with fail
  refine (next_any _ _ HD0.out).mono ?_
  rintro eq1 wq1 ⟨rfl, hq1⟩
  subst hq1
  go_wp2_with fail
  have HWc := Lib.hid HW0.out.drew
  have BNc := Lib.hid (BN0.out.later (drew_below _) BN0.out.lt)
  have HDc := Lib.hid (HD0.out.later (drew_below _))
  have hd0 : (((w.alloc (Obj.cells #[Value.string n.kind, Value.string n.text, Value.slice a n.kids.length cap] 24)).alloc (Obj.cells #[Value.slice none 0 0] 48))).drew.heap.size = w.heap.size + 2 := by simp [World.drew]
  have HD0S := Lib.hid hd0
  clear HW0 BN0 HD0 hd0
  go_region_law (first
        | (refine step_call (by rfl) 35 _ _ (by rfl) #[n.val (.slice a n.kids.length cap), .int .i64 0] (by simp [Act.eval, N.val]) (enters_of Tryz.func35 (by kernel_rfl) rfl) (kid_any n _ 0 x _ (HK.out.later HWc.out) (by rw [HX.out]; rfl)) ?_
           rintro ec wc ⟨vk, rfl, hbq, hkq⟩
           refine ⟨_, rfl, ?_⟩
           have szq := hbq.size
           have szc : w.heap.size + 2 ≤ wc.heap.size := by first | (have := HD0S.out; omega) | (simp only [World.drew, World.size_alloc] at szq; omega) | omega
           replace HWc := Lib.hid (HWc.out.trans (hbq.mono HWc.out.size))
           replace BNc := Lib.hid (BNc.out.later hbq BNc.out.lt)
           replace HDc := Lib.hid (HDc.out.later hbq)
           first | (replace RX := Lib.hid (RX.out.beneath hbq (Nat.le_refl _) (Nat.le_refl _) szq)) | skip
           first | (replace RS := Lib.hid (RS.out.beneath hbq (Nat.le_refl _) (Nat.le_refl _) szq)) | skip
           have q1 := BNc.out.cell 1 _ rfl
           have q0 := BNc.out.cell 0 _ rfl
           have q2 := BNc.out.cell 2 _ rfl
           have ql := BNc.out.lt
           have HKx := Lib.hid hkq
           clear hbq hkq)
        | (refine step_call (by rfl) 34 _ _ (by rfl) #[Pt (w.heap.size + 1), x.val vk] (by simp [Act.eval, N.val]) (enters_of Tryz.func34 (by kernel_rfl) rfl) (params_made HE.out HS.out x vk _ _ hxs HSX.out HKx.out HDc.out) ?_
           rintro ec wc ⟨px, rfl, hbq, hrq⟩
           refine ⟨_, rfl, ?_⟩
           have szq := hbq.size
           have szc : w.heap.size + 2 ≤ wc.heap.size := by first | (have := HD0S.out; omega) | (simp only [World.drew, World.size_alloc] at szq; omega) | omega
           replace HWc := Lib.hid (HWc.out.trans (hbq.mono HWc.out.size))
           replace BNc := Lib.hid (BNc.out.later hbq BNc.out.lt)
           replace HDc := Lib.hid (HDc.out.later hbq)
           first | (replace RX := Lib.hid (RX.out.beneath hbq (Nat.le_refl _) (Nat.le_refl _) szq)) | skip
           first | (replace RS := Lib.hid (RS.out.beneath hbq (Nat.le_refl _) (Nat.le_refl _) szq)) | skip
           have q1 := BNc.out.cell 1 _ rfl
           have q0 := BNc.out.cell 0 _ rfl
           have q2 := BNc.out.cell 2 _ rfl
           have ql := BNc.out.lt
           have RX := Lib.hid (hrq.wide (lo' := w.heap.size + 2) (by first | (have := HD0S.out; omega) | omega) (Nat.le_refl _))
           clear hrq
           clear hbq)
        | (refine step_call (by rfl) 36 _ _ (by rfl) #[Pt (w.heap.size + 1), .string n.text] (by simp [Act.eval, N.val]) (enters_of Tryz.func36 (by kernel_rfl) rfl) (ident_any _ n.text _ HDc.out) ?_
           rintro ec wc ⟨ps, rfl, hbq, hrq⟩
           refine ⟨_, rfl, ?_⟩
           have szq := hbq.size
           have szc : w.heap.size + 2 ≤ wc.heap.size := by first | (have := HD0S.out; omega) | (simp only [World.drew, World.size_alloc] at szq; omega) | omega
           replace HWc := Lib.hid (HWc.out.trans (hbq.mono HWc.out.size))
           replace BNc := Lib.hid (BNc.out.later hbq BNc.out.lt)
           replace HDc := Lib.hid (HDc.out.later hbq)
           first | (replace RX := Lib.hid (RX.out.beneath hbq (Nat.le_refl _) (Nat.le_refl _) szq)) | skip
           first | (replace RS := Lib.hid (RS.out.beneath hbq (Nat.le_refl _) (Nat.le_refl _) szq)) | skip
           have q1 := BNc.out.cell 1 _ rfl
           have q0 := BNc.out.cell 0 _ rfl
           have q2 := BNc.out.cell 2 _ rfl
           have ql := BNc.out.lt
           first | (replace HKx := Lib.hid (HKx.out.later hbq)) | skip
           have RS := Lib.hid (hrq.wide (lo' := w.heap.size + 2) (by first | (have := HD0S.out; omega) | omega) (Nat.le_refl _))
           clear hbq hrq))
  all_goals
    have HW50 := HWc
    have BN50 := BNc
    have HD50 := HDc
    have RS50 := RS
    have RX50 := RX
    clear HWc BNc HDc RS RX q0 q1 q2 ql
    have sx61 : ((wc.alloc (Obj.cells #[Value.pointer none, Pt px, Pt ps, Value.pointer none, Value.pointer none] 61))).heap.size = (wc).heap.size + 1 := by simp only [World.size_alloc]
    have HW61 := Lib.hid (HW50.out.alloc (by (try simp only [World.size_setCell, World.size_alloc]); omega) (Obj.cells #[Value.pointer none, Pt px, Pt ps, Value.pointer none, Value.pointer none] 61))
    have BN61 := Lib.hid (BN50.out.later ((Below.refl (wc).heap.size wc).alloc (Nat.le_refl _) (Obj.cells #[Value.pointer none, Pt px, Pt ps, Value.pointer none, Value.pointer none] 61)) (by (try simp only [World.size_setCell, World.size_alloc]); omega))
    have BX61 := Lib.hid (Blk.new wc #[Value.pointer none, Pt px, Pt ps, Value.pointer none, Value.pointer none] 61)
    have RS61 := Lib.hid (RS50.out.beneath ((Below.refl (wc).heap.size wc).alloc (Nat.le_refl _) (Obj.cells #[Value.pointer none, Pt px, Pt ps, Value.pointer none, Value.pointer none] 61)) (Nat.le_refl _) (by (try simp only [World.size_setCell, World.size_alloc]); omega) (Nat.le_refl _))
    have RX61 := Lib.hid (RX50.out.beneath ((Below.refl (wc).heap.size wc).alloc (Nat.le_refl _) (Obj.cells #[Value.pointer none, Pt px, Pt ps, Value.pointer none, Value.pointer none] 61)) (Nat.le_refl _) (by (try simp only [World.size_setCell, World.size_alloc]); omega) (Nat.le_refl _))
    clear HW50 BN50 RS50 RX50
    try simp only [World.size_setCell, World.size_alloc] at BX61 sx61
    have HD61 := Lib.hid (HD50.out.later ((Below.refl (wc).heap.size wc).alloc (Nat.le_refl _) (Obj.cells #[Value.pointer none, Pt px, Pt ps, Value.pointer none, Value.pointer none] 61)))
    clear HD50
    have e061 := BN61.out.cell 0 _ rfl
    have e161 := BN61.out.cell 1 _ rfl
    have e261 := BN61.out.cell 2 _ rfl
    have en61 := BN61.out.lt
    go_wp2_with fail
    refine (kid_any n _ 1 y _ (HK.out.later HW61.out) (by rw [HX.out]; rfl)).mono ?_
    rintro ek62 wk62 ⟨vk62, rfl, hb62, hk62⟩
    have HK62 := Lib.hid hk62
    clear hk62
    have sz63 := hb62.size
    try simp only [World.size_setCell, World.size_alloc] at sz63
    have HW63 := Lib.hid (HW61.out.trans (hb62.mono (by (try simp only [World.size_setCell, World.size_alloc]); omega)))
    have BN63 := Lib.hid (BN61.out.later hb62 (by (try simp only [World.size_setCell, World.size_alloc]); omega))
    have BX63 := Lib.hid (BX61.out.later hb62 (by (try simp only [World.size_setCell, World.size_alloc]); omega))
    have RS63 := Lib.hid (RS61.out.beneath hb62 (Nat.le_refl _) (by (try simp only [World.size_setCell, World.size_alloc]); omega) (Nat.le_refl _))
    have RX63 := Lib.hid (RX61.out.beneath hb62 (Nat.le_refl _) (by (try simp only [World.size_setCell, World.size_alloc]); omega) (Nat.le_refl _))
    clear HW61 BN61 BX61 RS61 RX61 e061 e161 e261 en61
    have HD63 := Lib.hid (HD61.out.later hb62)
    clear HD61
    clear hb62
    go_wp2_with fail
    refine (sig_made 399 (b_all 399).1 (b_all 399).2 y vk62 _ 1 _ hys hky HSY.out HK62.out HD63.out).mono ?_
    rintro ec64 wc64 ⟨py, rfl, hb64, hr64⟩
    have szz64 := hb64.size
    try simp only [World.size_setCell, World.size_alloc] at szz64
    have sz65 := hb64.size
    try simp only [World.size_setCell, World.size_alloc] at sz65
    have HW65 := Lib.hid (HW63.out.trans (hb64.mono (by (try simp only [World.size_setCell, World.size_alloc]); omega)))
    have BN65 := Lib.hid (BN63.out.later hb64 (by (try simp only [World.size_setCell, World.size_alloc]); omega))
    have BX65 := Lib.hid (BX63.out.later hb64 (by (try simp only [World.size_setCell, World.size_alloc]); omega))
    have RS65 := Lib.hid (RS63.out.beneath hb64 (Nat.le_refl _) (by (try simp only [World.size_setCell, World.size_alloc]); omega) (Nat.le_refl _))
    have RX65 := Lib.hid (RX63.out.beneath hb64 (Nat.le_refl _) (by (try simp only [World.size_setCell, World.size_alloc]); omega) (Nat.le_refl _))
    clear HW63 BN63 BX63 RS63 RX63
    have HD65 := Lib.hid (HD63.out.later hb64)
    clear HD63
    try simp only [World.size_setCell, World.size_alloc] at hr64
    have Ry65 := Lib.hid hr64
    clear hb64 hr64
    have x365c := BX65.out.cell 3 _ rfl
    have x365f := BX65.out.frozen 3
    have x365l := BX65.out.lt
    have e065 := BN65.out.cell 0 _ rfl
    have e165 := BN65.out.cell 1 _ rfl
    have e265 := BN65.out.cell 2 _ rfl
    have en65 := BN65.out.lt
    have sb66 := BX65.out.lt
    have HW66 := Lib.hid (HW65.out.setCell (p := ⟨wc.heap.size, 3, none⟩) (by show w.heap.size ≤ wc.heap.size; omega) (Pt py))
    have BN66 := Lib.hid (BN65.out.other (wc.heap.size) 3 (Pt py) (by omega))
    have BX66 := Lib.hid (BX65.out.set 3 (Pt py))
    have RS66 := Lib.hid (RS65.out.setX (X := wc.heap.size) (i := 3) (u := (Pt py)) (by omega))
    have RX66 := Lib.hid (RX65.out.setX (X := wc.heap.size) (i := 3) (u := (Pt py)) (by omega))
    have Ry66 := Lib.hid (Ry65.out.setX (X := wc.heap.size) (i := 3) (u := (Pt py)) (by omega))
    clear HW65 BN65 BX65 RS65 RX65 Ry65
    have HD66 := Lib.hid (HD65.out.set (X := wc.heap.size) (i := 3) (u := (Pt py)) (by omega))
    clear HD65
    go_wp2_with fail
    refine (kid_any n _ 2 z _ (HK.out.later HW66.out) (by rw [HX.out]; rfl)).mono ?_
    rintro ek67 wk67 ⟨vk67, rfl, hb67, hk67⟩
    have HK67 := Lib.hid hk67
    clear hk67
    have sz68 := hb67.size
    try simp only [World.size_setCell, World.size_alloc] at sz68
    have HW68 := Lib.hid (HW66.out.trans (hb67.mono (by (try simp only [World.size_setCell, World.size_alloc]); omega)))
    have BN68 := Lib.hid (BN66.out.later hb67 (by (try simp only [World.size_setCell, World.size_alloc]); omega))
    have BX68 := Lib.hid (BX66.out.later hb67 (by (try simp only [World.size_setCell, World.size_alloc]); omega))
    have RS68 := Lib.hid (RS66.out.beneath hb67 (Nat.le_refl _) (by (try simp only [World.size_setCell, World.size_alloc]); omega) (Nat.le_refl _))
    have RX68 := Lib.hid (RX66.out.beneath hb67 (Nat.le_refl _) (by (try simp only [World.size_setCell, World.size_alloc]); omega) (Nat.le_refl _))
    have Ry68 := Lib.hid (Ry66.out.beneath hb67 (Nat.le_refl _) (by (try simp only [World.size_setCell, World.size_alloc]); omega) (Nat.le_refl _))
    clear HW66 BN66 BX66 RS66 RX66 Ry66 x365c x365f x365l e065 e165 e265 en65
    have HD68 := Lib.hid (HD66.out.later hb67)
    clear HD66
    clear hb67
    obtain ⟨ak67, ck67, hvk67, hck67, hel67⟩ := id HK67.out.shape
    subst hvk67
    have HEL67 := Lib.hid hel67
    clear hel67
    unfold N.val
    have e068 := BN68.out.cell 0 _ rfl
    have e168 := BN68.out.cell 1 _ rfl
    have e268 := BN68.out.cell 2 _ rfl
    have en68 := BN68.out.lt
    have x4c := BX68.out.cell 4 _ rfl
    have x4f := BX68.out.frozen 4
    have x4l := BX68.out.lt
    go_wp2_with fail
    refine (next_any _ _ HD68.out).mono ?_
    rintro eqn wqn ⟨rfl, hqn⟩
    subst wqn
    go_wp2_with fail
    have hszw := HW68.out.size
    have hWY := (HW68.out.setCell (p := ⟨wc.heap.size, 4, none⟩) (by show w.heap.size ≤ wc.heap.size; omega) (Pt wk67.heap.size)).alloc (by simp only [World.size_setCell]; omega) (Obj.cells #[Value.int .i64 1, Value.slice none 0 0, Value.int .i64 0] 65)
    have hBX := (BX68.out.set 4 (Pt wk67.heap.size)).later ((Below.refl _ _).alloc (Nat.le_refl _) (Obj.cells #[Value.int .i64 1, Value.slice none 0 0, Value.int .i64 0] 65)) (by simp only [World.size_setCell]; exact x4l)
    have hBY := Blk.new (wk67.setCell ⟨wc.heap.size, 4, none⟩ (Pt wk67.heap.size)) #[Value.int .i64 1, Value.slice none 0 0, Value.int .i64 0] 65
    have hHD := (HD68.out.set (X := wc.heap.size) (i := 4) (u := Pt wk67.heap.size) (by omega)).later ((Below.refl _ _).alloc (Nat.le_refl _) (Obj.cells #[Value.int .i64 1, Value.slice none 0 0, Value.int .i64 0] 65))
    have hRS := (RS68.out.setX (X := wc.heap.size) (i := 4) (u := Pt wk67.heap.size) (by omega)).beneath ((Below.refl _ _).alloc (Nat.le_refl _) (Obj.cells #[Value.int .i64 1, Value.slice none 0 0, Value.int .i64 0] 65)) (Nat.le_refl _) (by simp only [World.size_setCell]; omega) (Nat.le_refl _)
    have hRX := (RX68.out.setX (X := wc.heap.size) (i := 4) (u := Pt wk67.heap.size) (by omega)).beneath ((Below.refl _ _).alloc (Nat.le_refl _) (Obj.cells #[Value.int .i64 1, Value.slice none 0 0, Value.int .i64 0] 65)) (Nat.le_refl _) (by simp only [World.size_setCell]; omega) (Nat.le_refl _)
    have hRy := (Ry68.out.setX (X := wc.heap.size) (i := 4) (u := Pt wk67.heap.size) (by omega)).beneath ((Below.refl _ _).alloc (Nat.le_refl _) (Obj.cells #[Value.int .i64 1, Value.slice none 0 0, Value.int .i64 0] 65)) (Nat.le_refl _) (by simp only [World.size_setCell]; omega) (Nat.le_refl _)
    simp only [World.size_setCell] at hBY
    have hsY : ((wk67.setCell ⟨wc.heap.size, 4, none⟩ (Pt wk67.heap.size)).alloc (Obj.cells #[Value.int .i64 1, Value.slice none 0 0, Value.int .i64 0] 65)).heap.size = wk67.heap.size + 1 := by simp
    generalize (wk67.setCell ⟨wc.heap.size, 4, none⟩ (Pt wk67.heap.size)).alloc (Obj.cells #[Value.int .i64 1, Value.slice none 0 0, Value.int .i64 0] 65) = w7 at hWY hBX hBY hHD hsY hRS hRX hRy ⊢
    have hYX : wc.heap.size < wk67.heap.size := x4l
    have x4 := hBX.cell 4 (Pt wk67.heap.size) rfl
    have y2 := hBY.cell 2 (.int .i64 0) rfl
    have y2f := hBY.frozen 2
    have y2l := hBY.lt
    have lX := hBX.lt
    have nXY := Nat.ne_of_lt hYX
    have nYX := Ne.symm nXY
    have F1 := Lib.hid hWY
    have F2 := Lib.hid hBX
    have F3 := Lib.hid hBY
    have F4 := Lib.hid hHD
    have F5 := Lib.hid hsY
    have FS := Lib.hid hRS
    have FX := Lib.hid hRX
    have Fy := Lib.hid hRy
    clear hWY hBX hBY hHD hsY hRS hRX hRy
    go_region_held3 (fun w' => w'.cell? ⟨wc.heap.size, 4, none⟩ = some (Pt wk67.heap.size)) (go_keep) ((go_at_call 33; refine (next_any _ _ (F4.out.later (drew_below _))).mono ?_; rintro e w9 ⟨rfl, rfl⟩))
    all_goals go_wp2_with fail
    go_ret
    have hs7 := F5.out
    have hsF : ((w7.setCell ⟨wk67.heap.size, 2, none⟩ (Value.int .i64 1)).drew).heap.size = wk67.heap.size + 1 := by rw [← hs7]; show (w7.setCell _ _).heap.size = _; simp
    have G1 := (F1.out.setCell (p := ⟨wk67.heap.size, 2, none⟩) (by show w.heap.size ≤ wk67.heap.size; omega) (Value.int .i64 1)).drew
    have G2 : Blk ((w7.setCell ⟨wk67.heap.size, 2, none⟩ (Value.int .i64 1)).drew) wc.heap.size _ _ := (F2.out.other wk67.heap.size 2 (Value.int .i64 1) nXY).later (B := wk67.heap.size) ((Below.refl _ _).drew) (by omega)
    have G3 : Blk ((w7.setCell ⟨wk67.heap.size, 2, none⟩ (Value.int .i64 1)).drew) wk67.heap.size _ _ := (F3.out.set 2 (Value.int .i64 1)).later (B := wk67.heap.size + 1) ((Below.refl _ _).drew) (by omega)
    have GS := ((FS.out.setX (X := wk67.heap.size) (i := 2) (u := (Value.int .i64 1)) (by omega)).beneath (B := wk67.heap.size) (w' := (w7.setCell ⟨wk67.heap.size, 2, none⟩ (Value.int .i64 1)).drew) ((Below.refl _ _).drew) (Nat.le_refl _) (by omega) (Nat.le_refl _)).wide (lo' := w.heap.size) (hi' := ((w7.setCell ⟨wk67.heap.size, 2, none⟩ (Value.int .i64 1)).drew).heap.size) (by omega) (by omega)
    have GX := ((FX.out.setX (X := wk67.heap.size) (i := 2) (u := (Value.int .i64 1)) (by omega)).beneath (B := wk67.heap.size) (w' := (w7.setCell ⟨wk67.heap.size, 2, none⟩ (Value.int .i64 1)).drew) ((Below.refl _ _).drew) (Nat.le_refl _) (by omega) (Nat.le_refl _)).wide (lo' := w.heap.size) (hi' := ((w7.setCell ⟨wk67.heap.size, 2, none⟩ (Value.int .i64 1)).drew).heap.size) (by omega) (by omega)
    have Gy := ((Fy.out.setX (X := wk67.heap.size) (i := 2) (u := (Value.int .i64 1)) (by omega)).beneath (B := wk67.heap.size) (w' := (w7.setCell ⟨wk67.heap.size, 2, none⟩ (Value.int .i64 1)).drew) ((Below.refl _ _).drew) (Nat.le_refl _) (by omega) (Nat.le_refl _)).wide (lo' := w.heap.size) (hi' := ((w7.setCell ⟨wk67.heap.size, 2, none⟩ (Value.int .i64 1)).drew).heap.size) (by omega) (by omega)
    have hb3 := HBZ.out
    simp only [bodyB, Bool.and_eq_true, beq_iff_eq, List.length_eq_zero_iff] at hb3
    exact ⟨_, rfl, ⟨_, rfl⟩, G1, .func n _ x y z _ _ _ _ _ _ HKB.out HX.out ⟨⟨by show w.heap.size ≤ wc.heap.size; omega, by omega⟩, G2.cell 0 _ rfl⟩ ⟨⟨by show w.heap.size ≤ wc.heap.size; omega, by omega⟩, G2.cell 1 _ rfl⟩ (.inr ⟨_, rfl, rfl⟩) GX ⟨⟨by show w.heap.size ≤ wc.heap.size; omega, by omega⟩, G2.cell 2 _ rfl⟩ GS ⟨⟨by show w.heap.size ≤ wc.heap.size; omega, by omega⟩, G2.cell 3 _ rfl⟩ Gy ⟨⟨by show w.heap.size ≤ wc.heap.size; omega, by omega⟩, G2.cell 4 _ rfl⟩ (.inr ⟨_, rfl, rfl⟩) (.body z _ hb3.1.1 hb3.2 hb3.1.2 ⟨⟨by show w.heap.size ≤ wk67.heap.size; omega, by omega⟩, G3.cell 1 _ rfl⟩)⟩

set_option maxHeartbeats 4000000 in
set_option maxRecDepth 100000 in
theorem build_func_10 (n : N) (v : Value) (w : World) (hn : n.size ≤ 400) (hkd : n.kind.toList = [102, 117, 110, 99]) (x y z : N) (hx : n.kids = [x, y, z]) (hmx : missing x = true) (hky : y.kind.toList = [115, 105, 103, 110, 97, 116, 117, 114, 101]) (hsy : shE 400 y = true) (hbz : bodyB z = true) (hk : KidsAt (· < w.heap.size) w v n.kids) :
    Calls Tryz.prog 18 #[n.val v, .slice none 0 0] w fun e w' => ∃ r, e = .returned r ∧ (∃ b, r = Nd 51 b) ∧ Made w w' n r := by
  have hkb : isK n [102, 117, 110, 99] = true := by simp [isK, hkd]
  have hxs : x.size ≤ 400 := by have := N.size_kid (m := n) (n := x) (i := 0) (by rw [hx]; rfl); omega
  have hys : y.size ≤ 400 := by have := N.size_kid (m := n) (n := y) (i := 1) (by rw [hx]; rfl); omega
  have HX := Lib.hid hx
  have HKB := Lib.hid hkb
  have HSY := Lib.hid hsy
  have hzk : z.kind.toList = [98, 111, 100, 121] := by
    have h := hbz
    simp only [bodyB, isK, Bool.and_eq_true, beq_iff_eq] at h
    exact h.1.1
  have HBZ := Lib.hid hbz
  clear hbz
  clear hx hkb hsy
  have hE := (b_all 400).1
  have hS := (b_all 400).2
  have HE := Lib.hid hE
  have HS := Lib.hid hS
  clear hE hS
  obtain ⟨a, cap, rfl, hcap, hel⟩ := hk.shape
  have hlen := N.len_lt n
  have HK := Lib.hid hk
  have HW0 := Lib.hid (((Below.refl w.heap.size w).alloc (Nat.le_refl _) (Obj.cells #[Value.string n.kind, Value.string n.text, Value.slice a n.kids.length cap] 24)).alloc (by simp) (Obj.cells #[Value.slice none 0 0] 48))
  have BN0 : Hid (Blk ((w.alloc (Obj.cells #[Value.string n.kind, Value.string n.text, Value.slice a n.kids.length cap] 24)).alloc (Obj.cells #[Value.slice none 0 0] 48)) w.heap.size 24 #[Value.string n.kind, Value.string n.text, Value.slice a n.kids.length cap]) := Lib.hid ((Blk.new w _ 24).later ((Below.refl (w.heap.size + 1) _).alloc (by simp) _) (by omega))
  have bB0 : Blk ((w.alloc (Obj.cells #[Value.string n.kind, Value.string n.text, Value.slice a n.kids.length cap] 24)).alloc (Obj.cells #[Value.slice none 0 0] 48)) (w.heap.size + 1) 48 #[Value.slice none 0 0] := by simpa using Blk.new (w.alloc (Obj.cells #[Value.string n.kind, Value.string n.text, Value.slice a n.kids.length cap] 24)) #[Value.slice none 0 0] 48
  have HD0 : Hid (Bd ((w.alloc (Obj.cells #[Value.string n.kind, Value.string n.text, Value.slice a n.kids.length cap] 24)).alloc (Obj.cells #[Value.slice none 0 0] 48)) (w.heap.size + 1)) := Lib.hid ⟨bB0.lt, none, 0, bB0.cell 0 _ rfl⟩
  have hs0 : (((w.alloc (Obj.cells #[Value.string n.kind, Value.string n.text, Value.slice a n.kids.length cap] 24)).alloc (Obj.cells #[Value.slice none 0 0] 48))).heap.size = w.heap.size + 2 := by simp
  have HS0 := Lib.hid hs0
  clear hk hel hs0 bB0
  unfold N.val
  go_enter Tryz.func18, Tryz.ntmps18
  have e00 := BN0.out.cell 0 _ rfl
  have e10 := BN0.out.cell 1 _ rfl
  have e20 := BN0.out.cell 2 _ rfl
  have en0 := BN0.out.lt
  go_wp2_with fail
  refine (next_any _ _ HD0.out).mono ?_
  rintro eq1 wq1 ⟨rfl, hq1⟩
  subst hq1
  go_wp2_with fail
  have HWc := Lib.hid HW0.out.drew
  have BNc := Lib.hid (BN0.out.later (drew_below _) BN0.out.lt)
  have HDc := Lib.hid (HD0.out.later (drew_below _))
  have hd0 : (((w.alloc (Obj.cells #[Value.string n.kind, Value.string n.text, Value.slice a n.kids.length cap] 24)).alloc (Obj.cells #[Value.slice none 0 0] 48))).drew.heap.size = w.heap.size + 2 := by simp [World.drew]
  have HD0S := Lib.hid hd0
  clear HW0 BN0 HD0 hd0
  go_region_law (first
        | (refine step_call (by rfl) 35 _ _ (by rfl) #[n.val (.slice a n.kids.length cap), .int .i64 0] (by simp [Act.eval, N.val]) (enters_of Tryz.func35 (by kernel_rfl) rfl) (kid_any n _ 0 x _ (HK.out.later HWc.out) (by rw [HX.out]; rfl)) ?_
           rintro ec wc ⟨vk, rfl, hbq, hkq⟩
           refine ⟨_, rfl, ?_⟩
           have szq := hbq.size
           have szc : w.heap.size + 2 ≤ wc.heap.size := by first | (have := HD0S.out; omega) | (simp only [World.drew, World.size_alloc] at szq; omega) | omega
           replace HWc := Lib.hid (HWc.out.trans (hbq.mono HWc.out.size))
           replace BNc := Lib.hid (BNc.out.later hbq BNc.out.lt)
           replace HDc := Lib.hid (HDc.out.later hbq)
           first | (replace RX := Lib.hid (RX.out.beneath hbq (Nat.le_refl _) (Nat.le_refl _) szq)) | skip
           first | (replace RS := Lib.hid (RS.out.beneath hbq (Nat.le_refl _) (Nat.le_refl _) szq)) | skip
           have q1 := BNc.out.cell 1 _ rfl
           have q0 := BNc.out.cell 0 _ rfl
           have q2 := BNc.out.cell 2 _ rfl
           have ql := BNc.out.lt
           have HKx := Lib.hid hkq
           clear hbq hkq)
        | (refine step_call (by rfl) 34 _ _ (by rfl) #[Pt (w.heap.size + 1), x.val vk] (by simp [Act.eval, N.val]) (enters_of Tryz.func34 (by kernel_rfl) rfl) (params_none _ x vk _ hmx HKx.out) ?_
           rintro ec wc ⟨rfl, hbq⟩
           refine ⟨_, rfl, ?_⟩
           have szq := hbq.size
           have szc : w.heap.size + 2 ≤ wc.heap.size := by first | (have := HD0S.out; omega) | (simp only [World.drew, World.size_alloc] at szq; omega) | omega
           replace HWc := Lib.hid (HWc.out.trans (hbq.mono HWc.out.size))
           replace BNc := Lib.hid (BNc.out.later hbq BNc.out.lt)
           replace HDc := Lib.hid (HDc.out.later hbq)
           first | (replace RX := Lib.hid (RX.out.beneath hbq (Nat.le_refl _) (Nat.le_refl _) szq)) | skip
           first | (replace RS := Lib.hid (RS.out.beneath hbq (Nat.le_refl _) (Nat.le_refl _) szq)) | skip
           have q1 := BNc.out.cell 1 _ rfl
           have q0 := BNc.out.cell 0 _ rfl
           have q2 := BNc.out.cell 2 _ rfl
           have ql := BNc.out.lt
           clear hbq)
        | (refine step_call (by rfl) 36 _ _ (by rfl) #[Pt (w.heap.size + 1), .string n.text] (by simp [Act.eval, N.val]) (enters_of Tryz.func36 (by kernel_rfl) rfl) (ident_any _ n.text _ HDc.out) ?_
           rintro ec wc ⟨ps, rfl, hbq, hrq⟩
           refine ⟨_, rfl, ?_⟩
           have szq := hbq.size
           have szc : w.heap.size + 2 ≤ wc.heap.size := by first | (have := HD0S.out; omega) | (simp only [World.drew, World.size_alloc] at szq; omega) | omega
           replace HWc := Lib.hid (HWc.out.trans (hbq.mono HWc.out.size))
           replace BNc := Lib.hid (BNc.out.later hbq BNc.out.lt)
           replace HDc := Lib.hid (HDc.out.later hbq)
           first | (replace RX := Lib.hid (RX.out.beneath hbq (Nat.le_refl _) (Nat.le_refl _) szq)) | skip
           first | (replace RS := Lib.hid (RS.out.beneath hbq (Nat.le_refl _) (Nat.le_refl _) szq)) | skip
           have q1 := BNc.out.cell 1 _ rfl
           have q0 := BNc.out.cell 0 _ rfl
           have q2 := BNc.out.cell 2 _ rfl
           have ql := BNc.out.lt
           first | (replace HKx := Lib.hid (HKx.out.later hbq)) | skip
           have RS := Lib.hid (hrq.wide (lo' := w.heap.size + 2) (by first | (have := HD0S.out; omega) | omega) (Nat.le_refl _))
           clear hbq hrq))
  all_goals
    have HW50 := HWc
    have BN50 := BNc
    have HD50 := HDc
    have RS50 := RS
    clear HWc BNc HDc RS q0 q1 q2 ql
    have sx61 : ((wc.alloc (Obj.cells #[Value.pointer none, Value.pointer none, Pt ps, Value.pointer none, Value.pointer none] 61))).heap.size = (wc).heap.size + 1 := by simp only [World.size_alloc]
    have HW61 := Lib.hid (HW50.out.alloc (by (try simp only [World.size_setCell, World.size_alloc]); omega) (Obj.cells #[Value.pointer none, Value.pointer none, Pt ps, Value.pointer none, Value.pointer none] 61))
    have BN61 := Lib.hid (BN50.out.later ((Below.refl (wc).heap.size wc).alloc (Nat.le_refl _) (Obj.cells #[Value.pointer none, Value.pointer none, Pt ps, Value.pointer none, Value.pointer none] 61)) (by (try simp only [World.size_setCell, World.size_alloc]); omega))
    have BX61 := Lib.hid (Blk.new wc #[Value.pointer none, Value.pointer none, Pt ps, Value.pointer none, Value.pointer none] 61)
    have RS61 := Lib.hid (RS50.out.beneath ((Below.refl (wc).heap.size wc).alloc (Nat.le_refl _) (Obj.cells #[Value.pointer none, Value.pointer none, Pt ps, Value.pointer none, Value.pointer none] 61)) (Nat.le_refl _) (by (try simp only [World.size_setCell, World.size_alloc]); omega) (Nat.le_refl _))
    clear HW50 BN50 RS50
    try simp only [World.size_setCell, World.size_alloc] at BX61 sx61
    have HD61 := Lib.hid (HD50.out.later ((Below.refl (wc).heap.size wc).alloc (Nat.le_refl _) (Obj.cells #[Value.pointer none, Value.pointer none, Pt ps, Value.pointer none, Value.pointer none] 61)))
    clear HD50
    have e061 := BN61.out.cell 0 _ rfl
    have e161 := BN61.out.cell 1 _ rfl
    have e261 := BN61.out.cell 2 _ rfl
    have en61 := BN61.out.lt
    go_wp2_with fail
    refine (kid_any n _ 1 y _ (HK.out.later HW61.out) (by rw [HX.out]; rfl)).mono ?_
    rintro ek62 wk62 ⟨vk62, rfl, hb62, hk62⟩
    have HK62 := Lib.hid hk62
    clear hk62
    have sz63 := hb62.size
    try simp only [World.size_setCell, World.size_alloc] at sz63
    have HW63 := Lib.hid (HW61.out.trans (hb62.mono (by (try simp only [World.size_setCell, World.size_alloc]); omega)))
    have BN63 := Lib.hid (BN61.out.later hb62 (by (try simp only [World.size_setCell, World.size_alloc]); omega))
    have BX63 := Lib.hid (BX61.out.later hb62 (by (try simp only [World.size_setCell, World.size_alloc]); omega))
    have RS63 := Lib.hid (RS61.out.beneath hb62 (Nat.le_refl _) (by (try simp only [World.size_setCell, World.size_alloc]); omega) (Nat.le_refl _))
    clear HW61 BN61 BX61 RS61 e061 e161 e261 en61
    have HD63 := Lib.hid (HD61.out.later hb62)
    clear HD61
    clear hb62
    go_wp2_with fail
    refine (sig_made 399 (b_all 399).1 (b_all 399).2 y vk62 _ 1 _ hys hky HSY.out HK62.out HD63.out).mono ?_
    rintro ec64 wc64 ⟨py, rfl, hb64, hr64⟩
    have szz64 := hb64.size
    try simp only [World.size_setCell, World.size_alloc] at szz64
    have sz65 := hb64.size
    try simp only [World.size_setCell, World.size_alloc] at sz65
    have HW65 := Lib.hid (HW63.out.trans (hb64.mono (by (try simp only [World.size_setCell, World.size_alloc]); omega)))
    have BN65 := Lib.hid (BN63.out.later hb64 (by (try simp only [World.size_setCell, World.size_alloc]); omega))
    have BX65 := Lib.hid (BX63.out.later hb64 (by (try simp only [World.size_setCell, World.size_alloc]); omega))
    have RS65 := Lib.hid (RS63.out.beneath hb64 (Nat.le_refl _) (by (try simp only [World.size_setCell, World.size_alloc]); omega) (Nat.le_refl _))
    clear HW63 BN63 BX63 RS63
    have HD65 := Lib.hid (HD63.out.later hb64)
    clear HD63
    try simp only [World.size_setCell, World.size_alloc] at hr64
    have Ry65 := Lib.hid hr64
    clear hb64 hr64
    have x365c := BX65.out.cell 3 _ rfl
    have x365f := BX65.out.frozen 3
    have x365l := BX65.out.lt
    have e065 := BN65.out.cell 0 _ rfl
    have e165 := BN65.out.cell 1 _ rfl
    have e265 := BN65.out.cell 2 _ rfl
    have en65 := BN65.out.lt
    have sb66 := BX65.out.lt
    have HW66 := Lib.hid (HW65.out.setCell (p := ⟨wc.heap.size, 3, none⟩) (by show w.heap.size ≤ wc.heap.size; omega) (Pt py))
    have BN66 := Lib.hid (BN65.out.other (wc.heap.size) 3 (Pt py) (by omega))
    have BX66 := Lib.hid (BX65.out.set 3 (Pt py))
    have RS66 := Lib.hid (RS65.out.setX (X := wc.heap.size) (i := 3) (u := (Pt py)) (by omega))
    have Ry66 := Lib.hid (Ry65.out.setX (X := wc.heap.size) (i := 3) (u := (Pt py)) (by omega))
    clear HW65 BN65 BX65 RS65 Ry65
    have HD66 := Lib.hid (HD65.out.set (X := wc.heap.size) (i := 3) (u := (Pt py)) (by omega))
    clear HD65
    go_wp2_with fail
    refine (kid_any n _ 2 z _ (HK.out.later HW66.out) (by rw [HX.out]; rfl)).mono ?_
    rintro ek67 wk67 ⟨vk67, rfl, hb67, hk67⟩
    have HK67 := Lib.hid hk67
    clear hk67
    have sz68 := hb67.size
    try simp only [World.size_setCell, World.size_alloc] at sz68
    have HW68 := Lib.hid (HW66.out.trans (hb67.mono (by (try simp only [World.size_setCell, World.size_alloc]); omega)))
    have BN68 := Lib.hid (BN66.out.later hb67 (by (try simp only [World.size_setCell, World.size_alloc]); omega))
    have BX68 := Lib.hid (BX66.out.later hb67 (by (try simp only [World.size_setCell, World.size_alloc]); omega))
    have RS68 := Lib.hid (RS66.out.beneath hb67 (Nat.le_refl _) (by (try simp only [World.size_setCell, World.size_alloc]); omega) (Nat.le_refl _))
    have Ry68 := Lib.hid (Ry66.out.beneath hb67 (Nat.le_refl _) (by (try simp only [World.size_setCell, World.size_alloc]); omega) (Nat.le_refl _))
    clear HW66 BN66 BX66 RS66 Ry66 x365c x365f x365l e065 e165 e265 en65
    have HD68 := Lib.hid (HD66.out.later hb67)
    clear HD66
    clear hb67
    obtain ⟨ak67, ck67, hvk67, hck67, hel67⟩ := id HK67.out.shape
    subst hvk67
    have HEL67 := Lib.hid hel67
    clear hel67
    unfold N.val
    have e068 := BN68.out.cell 0 _ rfl
    have e168 := BN68.out.cell 1 _ rfl
    have e268 := BN68.out.cell 2 _ rfl
    have en68 := BN68.out.lt
    have x4c := BX68.out.cell 4 _ rfl
    have x4f := BX68.out.frozen 4
    have x4l := BX68.out.lt
    go_wp2_with fail
    refine (next_any _ _ HD68.out).mono ?_
    rintro eqn wqn ⟨rfl, hqn⟩
    subst wqn
    go_wp2_with fail
    have hszw := HW68.out.size
    have hWY := (HW68.out.setCell (p := ⟨wc.heap.size, 4, none⟩) (by show w.heap.size ≤ wc.heap.size; omega) (Pt wk67.heap.size)).alloc (by simp only [World.size_setCell]; omega) (Obj.cells #[Value.int .i64 1, Value.slice none 0 0, Value.int .i64 0] 65)
    have hBX := (BX68.out.set 4 (Pt wk67.heap.size)).later ((Below.refl _ _).alloc (Nat.le_refl _) (Obj.cells #[Value.int .i64 1, Value.slice none 0 0, Value.int .i64 0] 65)) (by simp only [World.size_setCell]; exact x4l)
    have hBY := Blk.new (wk67.setCell ⟨wc.heap.size, 4, none⟩ (Pt wk67.heap.size)) #[Value.int .i64 1, Value.slice none 0 0, Value.int .i64 0] 65
    have hHD := (HD68.out.set (X := wc.heap.size) (i := 4) (u := Pt wk67.heap.size) (by omega)).later ((Below.refl _ _).alloc (Nat.le_refl _) (Obj.cells #[Value.int .i64 1, Value.slice none 0 0, Value.int .i64 0] 65))
    have hRS := (RS68.out.setX (X := wc.heap.size) (i := 4) (u := Pt wk67.heap.size) (by omega)).beneath ((Below.refl _ _).alloc (Nat.le_refl _) (Obj.cells #[Value.int .i64 1, Value.slice none 0 0, Value.int .i64 0] 65)) (Nat.le_refl _) (by simp only [World.size_setCell]; omega) (Nat.le_refl _)
    have hRy := (Ry68.out.setX (X := wc.heap.size) (i := 4) (u := Pt wk67.heap.size) (by omega)).beneath ((Below.refl _ _).alloc (Nat.le_refl _) (Obj.cells #[Value.int .i64 1, Value.slice none 0 0, Value.int .i64 0] 65)) (Nat.le_refl _) (by simp only [World.size_setCell]; omega) (Nat.le_refl _)
    simp only [World.size_setCell] at hBY
    have hsY : ((wk67.setCell ⟨wc.heap.size, 4, none⟩ (Pt wk67.heap.size)).alloc (Obj.cells #[Value.int .i64 1, Value.slice none 0 0, Value.int .i64 0] 65)).heap.size = wk67.heap.size + 1 := by simp
    generalize (wk67.setCell ⟨wc.heap.size, 4, none⟩ (Pt wk67.heap.size)).alloc (Obj.cells #[Value.int .i64 1, Value.slice none 0 0, Value.int .i64 0] 65) = w7 at hWY hBX hBY hHD hsY hRS hRy ⊢
    have hYX : wc.heap.size < wk67.heap.size := x4l
    have x4 := hBX.cell 4 (Pt wk67.heap.size) rfl
    have y2 := hBY.cell 2 (.int .i64 0) rfl
    have y2f := hBY.frozen 2
    have y2l := hBY.lt
    have lX := hBX.lt
    have nXY := Nat.ne_of_lt hYX
    have nYX := Ne.symm nXY
    have F1 := Lib.hid hWY
    have F2 := Lib.hid hBX
    have F3 := Lib.hid hBY
    have F4 := Lib.hid hHD
    have F5 := Lib.hid hsY
    have FS := Lib.hid hRS
    have Fy := Lib.hid hRy
    clear hWY hBX hBY hHD hsY hRS hRy
    go_region_held3 (fun w' => w'.cell? ⟨wc.heap.size, 4, none⟩ = some (Pt wk67.heap.size)) (go_keep) ((go_at_call 33; refine (next_any _ _ (F4.out.later (drew_below _))).mono ?_; rintro e w9 ⟨rfl, rfl⟩))
    all_goals go_wp2_with fail
    go_ret
    have hs7 := F5.out
    have hsF : ((w7.setCell ⟨wk67.heap.size, 2, none⟩ (Value.int .i64 1)).drew).heap.size = wk67.heap.size + 1 := by rw [← hs7]; show (w7.setCell _ _).heap.size = _; simp
    have G1 := (F1.out.setCell (p := ⟨wk67.heap.size, 2, none⟩) (by show w.heap.size ≤ wk67.heap.size; omega) (Value.int .i64 1)).drew
    have G2 : Blk ((w7.setCell ⟨wk67.heap.size, 2, none⟩ (Value.int .i64 1)).drew) wc.heap.size _ _ := (F2.out.other wk67.heap.size 2 (Value.int .i64 1) nXY).later (B := wk67.heap.size) ((Below.refl _ _).drew) (by omega)
    have G3 : Blk ((w7.setCell ⟨wk67.heap.size, 2, none⟩ (Value.int .i64 1)).drew) wk67.heap.size _ _ := (F3.out.set 2 (Value.int .i64 1)).later (B := wk67.heap.size + 1) ((Below.refl _ _).drew) (by omega)
    have GS := ((FS.out.setX (X := wk67.heap.size) (i := 2) (u := (Value.int .i64 1)) (by omega)).beneath (B := wk67.heap.size) (w' := (w7.setCell ⟨wk67.heap.size, 2, none⟩ (Value.int .i64 1)).drew) ((Below.refl _ _).drew) (Nat.le_refl _) (by omega) (Nat.le_refl _)).wide (lo' := w.heap.size) (hi' := ((w7.setCell ⟨wk67.heap.size, 2, none⟩ (Value.int .i64 1)).drew).heap.size) (by omega) (by omega)
    have Gy := ((Fy.out.setX (X := wk67.heap.size) (i := 2) (u := (Value.int .i64 1)) (by omega)).beneath (B := wk67.heap.size) (w' := (w7.setCell ⟨wk67.heap.size, 2, none⟩ (Value.int .i64 1)).drew) ((Below.refl _ _).drew) (Nat.le_refl _) (by omega) (Nat.le_refl _)).wide (lo' := w.heap.size) (hi' := ((w7.setCell ⟨wk67.heap.size, 2, none⟩ (Value.int .i64 1)).drew).heap.size) (by omega) (by omega)
    have hb3 := HBZ.out
    simp only [bodyB, Bool.and_eq_true, beq_iff_eq, List.length_eq_zero_iff] at hb3
    exact ⟨_, rfl, ⟨_, rfl⟩, G1, .func n _ x y z _ _ _ _ _ _ HKB.out HX.out ⟨⟨by show w.heap.size ≤ wc.heap.size; omega, by omega⟩, G2.cell 0 _ rfl⟩ ⟨⟨by show w.heap.size ≤ wc.heap.size; omega, by omega⟩, G2.cell 1 _ rfl⟩ (.inl ⟨rfl, rfl⟩) (.none x hmx) ⟨⟨by show w.heap.size ≤ wc.heap.size; omega, by omega⟩, G2.cell 2 _ rfl⟩ GS ⟨⟨by show w.heap.size ≤ wc.heap.size; omega, by omega⟩, G2.cell 3 _ rfl⟩ Gy ⟨⟨by show w.heap.size ≤ wc.heap.size; omega, by omega⟩, G2.cell 4 _ rfl⟩ (.inr ⟨_, rfl, rfl⟩) (.body z _ hb3.1.1 hb3.2 hb3.1.2 ⟨⟨by show w.heap.size ≤ wk67.heap.size; omega, by omega⟩, G3.cell 1 _ rfl⟩)⟩
end Go.Proofs.YtoijkbkcfbbmfaaGreatDoor

/- What is proved here: build: the parts of declarations, joined. -/
namespace Go.Proofs.YtoijkbkcfbbmfaaGreatDoor
open Go.RowKit Go.Shelf

theorem item_made (n : N) (v : Value) (bb : Nat) (w : World) (hn : n.size ≤ 400) (h : pathB n = true ∨ valueB 400 n = true ∨ typeB 400 n = true) (hk : KidsAt (· < w.heap.size) w v n.kids) (hB : Bd w bb) :
    Calls Tryz.prog 39 #[Pt bb, n.val v] w fun e w' => ∃ r, e = .returned r ∧ isS r = true ∧ Made w w' n r := by
  obtain ⟨hE, hS⟩ := b_all 400
  rcases h with h | h | h
  · simp only [pathB, Bool.and_eq_true] at h
    obtain ⟨h1, h2⟩ := h
    obtain ⟨x, hx, h3⟩ := kid1B_ex h2
    unfold orB at h3
    cases hm : missing x with
    | true => exact i_path_bare 400 hE hS n v bb w hn (isK_eq h1) x hx (missing_kind hm) hm hk hB
    | false =>
      rw [hm] at h3
      have hnm : isName x = true := by simpa using h3
      have hxk : x.kind.toList = [110, 97, 109, 101] := by
        have := hnm
        simp only [isName, Bool.and_eq_true] at this
        exact isK_eq this.1
      exact i_path_named 400 hE hS n v bb w hn (isK_eq h1) x hx hxk hnm hk hB
  · simp only [valueB, Bool.and_eq_true] at h
    obtain ⟨⟨h1, htx⟩, h2⟩ := h
    match hks : n.kids, h2 with
    | [x, y, z], h2 =>
      simp only [kid3B, valueB3, Bool.and_eq_true] at h2
      obtain ⟨⟨⟨⟨a1, a2⟩, a3⟩, a4⟩, ⟨⟨⟨a5, a6⟩, a7⟩, a8⟩⟩ := h2
      cases hm : missing y with
      | true => exact i_value_none 400 hE hS n v bb w hn (isK_eq h1) htx x y z hks a1 a2 a3 a4 a6 a8 hm hk hB
      | false =>
        have hsy : shE 400 y = true := by
          unfold orB at a7
          rw [hm] at a7
          simpa using a7
        exact i_value_some 400 hE hS n v bb w hn (isK_eq h1) htx x y z hks a1 a2 a3 a4 a6 a8 hsy hk hB
  · simp only [typeB, Bool.and_eq_true, Bool.or_eq_true] at h
    obtain ⟨h1, h2⟩ := h
    obtain ⟨x, hx, h3⟩ := kid1B_ex h2
    rcases h1 with h1 | h1
    · exact i_type 400 hE hS n v bb w hn (isK_eq h1) x hx h3 hk hB
    · exact i_alias 400 hE hS n v bb w hn (isK_eq h1) x hx h3 hk hB
end Go.Proofs.YtoijkbkcfbbmfaaGreatDoor

/- What is proved here: build: general declarations. -/
namespace Go.Proofs.YtoijkbkcfbbmfaaGreatDoor
open Go.RowKit Go.Shelf
set_option linter.unusedSimpArgs false
set_option linter.unusedVariables false
attribute [local go_sem ↓] Go.wp_at_zero Go.wp_at_succ
theorem underSpecs : Tryz.prog.underlying 68 = some (.slice 73) := by kernel_rfl
theorem infoSpec : (Tryz.prog.info? 73).map (fun i => (i.zero, i.size, i.bytes)) = some (some .nilIface, 1, 16) := by kernel_rfl
theorem TokTab.later {w w' : World} (h : TokTab w) (h0 : 0 < w.heap.size) (hb : Below w.heap.size w w') : TokTab w' := fun i t hi => by
  obtain ⟨s, hs, hc⟩ := h i t hi
  exact ⟨s, hs, (hb.cell (p := ⟨0, 61 + i, none⟩) h0).trans hc⟩

set_option maxHeartbeats 4000000 in
set_option maxRecDepth 100000 in
theorem build_gen0 (n : N) (v : Value) (w : World) (hn : n.size ≤ 400) (i : Nat) (l : List UInt8) (hl : tokW[i]? = some l) (hkd : n.kind.toList = [100, 101, 99, 108, 97, 114, 101, 32] ++ l) (htx : n.text.toList = [])
    (hit : ∀ m ∈ n.kids, pathB m = true ∨ valueB 400 m = true ∨ typeB 400 m = true) (htk : tokOf n = some (61 + i)) (hT : TokTab w) (hk : KidsAt (· < w.heap.size) w v n.kids) (h0 : 0 < w.heap.size) :
    Calls Tryz.prog 18 #[n.val v, .slice none 0 0] w fun e w' => ∃ r, e = .returned r ∧ (∃ b, r = Nd 66 b) ∧ Made w w' n r := by
  obtain ⟨a, cap, rfl, hcap, hel⟩ := hk.shape
  have hlen := N.len_lt n
  have hi25 := tokW_len hl
  have hf : (n.kind.toList == [102, 117, 110, 99]) = false := by rw [hkd, beq_eq_false_iff_ne]; simp
  have hsz : n.kind.size = 8 + l.length := by
    have h1 := congrArg List.length hkd
    rw [ByteArray.toList_eq] at h1
    simp at h1
    omega
  have hlp : 0 < l.length := by
    have := tokW_some l (List.mem_of_getElem? hl)
    cases l with
    | nil => simp at this
    | cons => simp
  have hl1000 : l.length ≤ 1000 := by
    have hall : tokW.all (fun l => decide (l.length ≤ 1000)) = true := by decide
    simpa using List.all_eq_true.1 hall _ (List.mem_of_getElem? hl)
  have h8 : (8 : Int) < (n.kind.size : Int) := by omega
  have h8' : 8 ≤ n.kind.size := by omega
  have hbig : (n.kind.size : Int) ≤ 2000 := by omega
  have htx1 : n.text.toList.isEmpty = true := by rw [htx]; rfl
  have htx2 : (n.text.toList == []) = true := by rw [htx]; rfl
  have HTX := Lib.hid htx
  have HL := Lib.hid hl
  have HKD := Lib.hid hkd
  have HTK := Lib.hid htk
  have HT := Lib.hid hT
  have HEL := Lib.hid hel
  have HK := Lib.hid hk
  have HIT := Lib.hid hit
  have HSZ := Lib.hid hsz
  have BN0 : Hid (Blk ((w.alloc (Obj.cells #[Value.string n.kind, Value.string n.text, Value.slice a n.kids.length cap] 24)).alloc (Obj.cells #[Value.slice none 0 0] 48)) w.heap.size 24 #[Value.string n.kind, Value.string n.text, Value.slice a n.kids.length cap]) := Lib.hid ((Blk.new w _ _).later ((Below.refl (w.heap.size + 1) _).alloc (by simp) _) (by omega))
  have bB0 : Blk ((w.alloc (Obj.cells #[Value.string n.kind, Value.string n.text, Value.slice a n.kids.length cap] 24)).alloc (Obj.cells #[Value.slice none 0 0] 48)) (w.heap.size + 1) 48 #[Value.slice none 0 0] := by simpa using Blk.new (w.alloc (Obj.cells #[Value.string n.kind, Value.string n.text, Value.slice a n.kids.length cap] 24)) #[Value.slice none 0 0] 48
  have HD0 : Hid (Bd ((w.alloc (Obj.cells #[Value.string n.kind, Value.string n.text, Value.slice a n.kids.length cap] 24)).alloc (Obj.cells #[Value.slice none 0 0] 48)) (w.heap.size + 1)) := Lib.hid ⟨bB0.lt, none, 0, bB0.cell 0 _ rfl⟩
  clear bB0 hk hel htx hl hkd htk hT hit hsz
  unfold N.val
  go_enter Tryz.func18, Tryz.ntmps18
  go_wp2_with fail
  refine (next_any _ _ HD0.out).mono ?_
  rintro e0 w0 ⟨rfl, hw0⟩
  subst hw0
  go_wp2_with fail
  have hsl : (n.kind.extract 8 n.kind.size).toList = l := by
    have h1 := HKD.out
    rw [ByteArray.toList_eq] at h1 ⊢
    have h2 := HSZ.out
    have h3 : n.kind.data.toList.length = 8 + l.length := by rw [h1]; simp; omega
    rw [ByteArray.data_extract, Array.toList_extract, h1]
    simp [List.extract_eq_take_drop]
    rw [h2]
    simp
  have HSL : Hid (tokW[i]? = some (n.kind.extract 8 n.kind.size).toList) := Lib.hid (by rw [hsl]; exact HL.out)
  have HW3 := Lib.hid ((((Below.refl w.heap.size w).alloc (Nat.le_refl _) (Obj.cells #[Value.string n.kind, Value.string n.text, Value.slice a n.kids.length cap] 24)).alloc (by simp) (Obj.cells #[Value.slice none 0 0] 48)).alloc (by simp; omega) (Obj.cells #[Value.pointer none, Value.int .i64 1, Value.int .i64 0, Value.int .i64 0, Value.slice none 0 0, Value.int .i64 0] 70))
  refine (word_any i _ _ HSL.out (HT.out.later h0 HW3.out)).mono ?_
  rintro e1 w1 ⟨rfl, hw1⟩
  subst hw1
  clear hsl
  go_wp2_with fail
  have HW4 := Lib.hid ((((Below.refl w.heap.size w).alloc (Nat.le_refl _) (Obj.cells #[Value.string n.kind, Value.string n.text, Value.slice a n.kids.length cap] 24)).alloc (by simp) (Obj.cells #[Value.slice none 0 0] 48)).alloc (by simp; omega) (Obj.cells #[Value.pointer none, Value.int .i64 1, Value.int .i64 (61 + (i : Int)), Value.int .i64 0, Value.slice none 0 0, Value.int .i64 0] 70))
  have BN4 := Lib.hid (BN0.out.later ((Below.refl (w.heap.size + 2) _).alloc (by simp) (Obj.cells #[Value.pointer none, Value.int .i64 1, Value.int .i64 (61 + (i : Int)), Value.int .i64 0, Value.slice none 0 0, Value.int .i64 0] 70)) (by omega))
  have HD4 := Lib.hid (HD0.out.later ((Below.refl _ _).alloc (Nat.le_refl _) (Obj.cells #[Value.pointer none, Value.int .i64 1, Value.int .i64 (61 + (i : Int)), Value.int .i64 0, Value.slice none 0 0, Value.int .i64 0] 70)))
  have BX4 := Lib.hid (show Blk (((w.alloc (Obj.cells #[Value.string n.kind, Value.string n.text, Value.slice a n.kids.length cap] 24)).alloc (Obj.cells #[Value.slice none 0 0] 48)).alloc (Obj.cells #[Value.pointer none, Value.int .i64 1, Value.int .i64 (61 + (i : Int)), Value.int .i64 0, Value.slice none 0 0, Value.int .i64 0] 70)) (w.heap.size + 2) 70 #[Value.pointer none, Value.int .i64 1, Value.int .i64 (61 + (i : Int)), Value.int .i64 0, Value.slice none 0 0, Value.int .i64 0] from by simpa using Blk.new ((w.alloc (Obj.cells #[Value.string n.kind, Value.string n.text, Value.slice a n.kids.length cap] 24)).alloc (Obj.cells #[Value.slice none 0 0] 48)) #[Value.pointer none, Value.int .i64 1, Value.int .i64 (61 + (i : Int)), Value.int .i64 0, Value.slice none 0 0, Value.int .i64 0] 70)
  obtain ⟨i0, hi0, hz0, hz1, hz2⟩ := info_parts infoSpec
  have HI := Lib.hid (And.intro hi0 (And.intro hz0 (And.intro hz1 hz2)))
  clear hi0 hz0 hz1 hz2
  have hl400 : n.kids.length ≤ 400 := by omega
  go_loopw [84] (fun vi wr => ∃ (j : Nat) (M : List Value) (vv : Value), j ≤ n.kids.length ∧ vi = .int .i64 j ∧ Blk wr w.heap.size 24 #[Value.string n.kind, Value.string n.text, Value.slice a n.kids.length cap] ∧ Bd wr (w.heap.size + 1) ∧ Blk wr (w.heap.size + 1 + 1) 70 #[Value.pointer none, Value.int .i64 1, Value.int .i64 (61 + (i : Int)), Value.int .i64 0, vv, Value.int .i64 0] ∧ wr.ownsRow (w.heap.size + 3) 73 1 vv j M ∧ Below w.heap.size w wr ∧ w.heap.size + 3 ≤ wr.heap.size ∧ Elems (At (Ex vv (w.heap.size + 3) wr.heap.size) wr) ByS n.kids M)
    (fun vi _ => n.kids.length - (intOf vi).toNat)
  case atStart =>
    exact ⟨0, [], .slice none 0 0, Nat.zero_le _, rfl, BN4.out, HD4.out, BX4.out, World.ownsRow_nil _ _ _ _, HW4.out, by simp, Elems.nil _ _ _⟩
  case round =>
    obtain ⟨j, M, vv, hj, rfl, hbn, hbd, hblk, hown, hbel, hsr, hE2⟩ := hrel
    have HBN := Lib.hid hbn
    have HBD := Lib.hid hbd
    have HBLK := Lib.hid hblk
    have HOWN := Lib.hid hown
    have HBEL := Lib.hid hbel
    have HE2 := Lib.hid hE2
    clear hbn hbd hblk hown hbel hE2
    by_cases hjl : j < n.kids.length
    · have hjl' : (j : Int) < (n.kids.length : Int) := by omega
      obtain ⟨b, o, V, hae, hb, c0, c1, c2, hV⟩ := HEL.out j n.kids[j] (List.getElem?_eq_getElem hjl)
      subst hae
      have c0' := (HBEL.out.cell (p := ⟨b, o + j * 3, none⟩) hb).trans c0
      have c1' := (HBEL.out.cell (p := ⟨b, o + j * 3 + 1, none⟩) hb).trans c1
      have c2' := (HBEL.out.cell (p := ⟨b, o + j * 3 + 2, none⟩) hb).trans c2
      obtain ⟨a2, cap2, rfl, _, _⟩ := hV.shape
      have HV := Lib.hid (hV.later HBEL.out)
      have hgj : n.kids[j]? = some n.kids[j] := List.getElem?_eq_getElem hjl
      have hjs : n.kids[j].size ≤ 400 := by have := N.size_kid (m := n) hgj; omega
      have HGJ := Lib.hid hgj
      have HIJ := Lib.hid (HIT.out n.kids[j] (List.getElem_mem hjl))
      clear hV hgj c0 c1 c2
      have y1 := HBLK.out.cell 4 _ rfl
      have yf := HBLK.out.frozen 4
      have hltx := HBLK.out.lt
      go_wp2_with fail
      go_region_law (first
        | (refine step_call (by rfl) 39 _ _ (by rfl) #[Pt (w.heap.size + 1), n.kids[j].val (.slice a2 n.kids[j].kids.length cap2)] (by first | (simp [Act.eval, N.val]; done) | (simp [Act.eval, Act.put, N.val]; done) | rfl) (enters_of Tryz.func39 (by kernel_rfl) rfl) (item_made n.kids[j] (.slice a2 n.kids[j].kids.length cap2) (w.heap.size + 1) _ hjs HIJ.out (HV.out.later (((Below.refl _ _).alloc (Nat.le_refl _) _).drew)) (HBD.out.later (((Below.refl _ _).alloc (Nat.le_refl _) _).drew))) ?_
           rintro e w3 ⟨r3, rfl, he3, hb3, hr3⟩
           refine ⟨_, rfl, ?_⟩
           obtain ⟨t3, p3, rfl⟩ := hr3.nd (ne_of_isS he3)
           have hbA := (((Below.refl wr.heap.size wr).alloc (Nat.le_refl _) (Obj.cells #[Value.string n.kids[j].kind, Value.string n.kids[j].text, Value.slice a2 n.kids[j].kids.length cap2] 24)).drew).trans (hb3.mono (by simp))
           have hs3 : wr.heap.size ≤ w3.heap.size := hbA.size
           have hx3 := HBLK.out.later hbA hltx
           have z1 := hx3.cell 4 _ rfl
           have zf := hx3.frozen 4
           have lt3 := hx3.lt
           have HOWN3 := Lib.hid (owns_kept HOWN.out hbA)
           have HR3 := Lib.hid hr3
           have HEE := Lib.hid he3
           have HBA := Lib.hid hbA
           have HX3 := Lib.hid hx3
           clear hb3 hr3 hbA hx3 he3)
        | (refine step_append_lies _ (by rfl) (.tmp 92) (.tmp 96) 68 (by rfl) (w.heap.size + 3) 73 i0 .nilIface 1 16 underSpecs HI.out.1 HI.out.2.1 HI.out.2.2.1 HI.out.2.2.2 (by rfl) (by decide) vv j M (by first | (simp [Act.eval]; done) | rfl) (HOWN3.out.alloc _) ⟨w3.heap.size, 0, none⟩ 1 1 [.iface t3 (Pt p3)] (by first | (simp [Act.eval]; done) | rfl) (by rfl) (World.news_of_block (heap_alloc_new _ _)) (by simp [Value.oneCell']) (by decide) (by unfold maxLen; omega) (by omega) (by simp; omega) (w3.heap.size + 1) (by simp) ?_
           intro gg cap' w5 hown5 hgrow5 hat5 hlt5
           have hbC := HBA.out.alloc hs3 (.cells #[.iface t3 (Pt p3)] 73)
           have HE5 := Lib.hid (elems_step (n := j + 1) (cap := cap') HE2.out hsr (fun k hk => (HOWN.out.lt k hk).2) hbC (HR3.out.beneath ((Below.refl w3.heap.size w3).alloc (Nat.le_refl _) (.cells #[.iface t3 (Pt p3)] 73)) (by simp) (Nat.le_refl _) (by simp)) ⟨rfl, HEE.out⟩ hgrow5 (hat5.imp id (fun h => by simp; omega)) (by simpa using HOWN3.out.1) HGJ.out)
           have HB5 := Lib.hid ((HBEL.out.trans (hbC.mono HBEL.out.size)).grown hgrow5 (by simp; omega) (fun k hk => by have := (HOWN.out.lt k hk).1; omega))
           have hx5 : Blk w5 (w.heap.size + 1 + 1) 70 #[Value.pointer none, Value.int .i64 1, Value.int .i64 (61 + (i : Int)), Value.int .i64 0, vv, Value.int .i64 0] := (hgrow5.block _ (by simp; omega) (fun h => by have := (HOWN.out.lt _ h.symm).1; omega)).trans (HX3.out.later ((Below.refl w3.heap.size w3).alloc (Nat.le_refl _) (.cells #[.iface t3 (Pt p3)] 73)) HX3.out.lt)
           have hn5 : Blk w5 w.heap.size 24 _ := (hgrow5.block _ (by simp; omega) (fun h => by have := (HOWN.out.lt _ h.symm).1; omega)).trans (HBN.out.later hbC HBN.out.lt)
           have hd5 : Bd w5 (w.heap.size + 1) := by
             have h1 := HBD.out.later hbC
             obtain ⟨aa, cc, hc⟩ := h1.cell
             exact ⟨Nat.lt_of_lt_of_le h1.lt hgrow5.size, aa, cc, (World.cell?_of_block (hgrow5.block (w.heap.size + 1) h1.lt (fun h => by have := (HOWN.out.lt (w.heap.size + 1) h.symm).1; omega))).trans hc⟩
           have z1 := hx5.cell 4 _ rfl
           have zf := hx5.frozen 4
           have HX5 := Lib.hid hx5
           have HN5 := Lib.hid hn5
           have HD5 := Lib.hid hd5
           have HO5 := Lib.hid hown5
           have hsz5 : w.heap.size + 3 ≤ w5.heap.size := by have := hgrow5.size; simp at this; omega
           clear hown5 hgrow5 hat5 hbC hx5 hn5 hd5))
      all_goals
        go_wp2_with fail
        go_roundw
        case rel => exact ⟨j + 1, M ++ [.iface t3 (Pt p3)], .slice (some ⟨gg, 0, none⟩) (j + 1) cap', by omega, by go_num, HN5.out.other _ _ _ (by omega), HD5.out.set (by omega), HX5.out.set 4 _, ownsRow_setCell_below HO5.out (by first | (simp; done) | (simp; omega)) _, HB5.out.setCell (by first | (simp; done) | (simp; omega)) _, by simpa using hsz5, HE5.out.set (by omega)⟩
        case measure => simp [intOf]; omega
    · have hjl' : ¬ (j : Int) < (n.kids.length : Int) := by omega
      have hjj : j = n.kids.length := by omega
      subst hjj
      have n1 := HBN.out.cell 1 _ rfl
      have nl := HBN.out.lt
      have x5 := HBLK.out.cell 5 _ rfl
      have x5f := HBLK.out.frozen 5
      have x5l := HBLK.out.lt
      have hM : M.length = n.kids.length := by simpa using HOWN.out.1
      go_wp2_with fail
      go_ret
      have hBX := HBLK.out
      have hE3 := HE2.out
      have hO3 := HOWN.out
      have hel2 := (hE3.ex (lo' := w.heap.size) (by omega)).self (by omega)
      exact ⟨_, rfl, ⟨_, rfl⟩, HBEL.out, .gen n _ (fun i => M.getD i .nilIface) _ _ 0 HTK.out (.inl ⟨HTX.out, rfl⟩) ⟨⟨by omega, hBX.lt⟩, hBX.cell 0 _ rfl⟩ ⟨⟨by omega, hBX.lt⟩, (hBX.cell 2 _ rfl).trans (by simp)⟩ ⟨⟨by omega, hBX.lt⟩, hBX.cell 3 _ rfl⟩ ⟨⟨by omega, hBX.lt⟩, hBX.cell 4 _ rfl⟩ (lat_of_owns hO3 (by omega)) (fun i m hm => (hel2 i m hm).1) (fun i m hm => (hel2 i m hm).2)⟩

set_option maxHeartbeats 4000000 in
set_option maxRecDepth 100000 in
theorem build_gen1 (n : N) (v : Value) (w : World) (hn : n.size ≤ 400) (i : Nat) (l : List UInt8) (hl : tokW[i]? = some l) (hkd : n.kind.toList = [100, 101, 99, 108, 97, 114, 101, 32] ++ l) (htx : n.text.toList = [103, 114, 111, 117, 112])
    (hit : ∀ m ∈ n.kids, pathB m = true ∨ valueB 400 m = true ∨ typeB 400 m = true) (htk : tokOf n = some (61 + i)) (hT : TokTab w) (hk : KidsAt (· < w.heap.size) w v n.kids) (h0 : 0 < w.heap.size) :
    Calls Tryz.prog 18 #[n.val v, .slice none 0 0] w fun e w' => ∃ r, e = .returned r ∧ (∃ b, r = Nd 66 b) ∧ Made w w' n r := by
  obtain ⟨a, cap, rfl, hcap, hel⟩ := hk.shape
  have hlen := N.len_lt n
  have hi25 := tokW_len hl
  have hf : (n.kind.toList == [102, 117, 110, 99]) = false := by rw [hkd, beq_eq_false_iff_ne]; simp
  have hsz : n.kind.size = 8 + l.length := by
    have h1 := congrArg List.length hkd
    rw [ByteArray.toList_eq] at h1
    simp at h1
    omega
  have hlp : 0 < l.length := by
    have := tokW_some l (List.mem_of_getElem? hl)
    cases l with
    | nil => simp at this
    | cons => simp
  have hl1000 : l.length ≤ 1000 := by
    have hall : tokW.all (fun l => decide (l.length ≤ 1000)) = true := by decide
    simpa using List.all_eq_true.1 hall _ (List.mem_of_getElem? hl)
  have h8 : (8 : Int) < (n.kind.size : Int) := by omega
  have h8' : 8 ≤ n.kind.size := by omega
  have hbig : (n.kind.size : Int) ≤ 2000 := by omega
  have htx1 : n.text.toList.isEmpty = false := by rw [htx]; rfl
  have htx2 : (n.text.toList == []) = false := by rw [htx]; rfl
  have HTX := Lib.hid htx
  have HL := Lib.hid hl
  have HKD := Lib.hid hkd
  have HTK := Lib.hid htk
  have HT := Lib.hid hT
  have HEL := Lib.hid hel
  have HK := Lib.hid hk
  have HIT := Lib.hid hit
  have HSZ := Lib.hid hsz
  have BN0 : Hid (Blk ((w.alloc (Obj.cells #[Value.string n.kind, Value.string n.text, Value.slice a n.kids.length cap] 24)).alloc (Obj.cells #[Value.slice none 0 0] 48)) w.heap.size 24 #[Value.string n.kind, Value.string n.text, Value.slice a n.kids.length cap]) := Lib.hid ((Blk.new w _ _).later ((Below.refl (w.heap.size + 1) _).alloc (by simp) _) (by omega))
  have bB0 : Blk ((w.alloc (Obj.cells #[Value.string n.kind, Value.string n.text, Value.slice a n.kids.length cap] 24)).alloc (Obj.cells #[Value.slice none 0 0] 48)) (w.heap.size + 1) 48 #[Value.slice none 0 0] := by simpa using Blk.new (w.alloc (Obj.cells #[Value.string n.kind, Value.string n.text, Value.slice a n.kids.length cap] 24)) #[Value.slice none 0 0] 48
  have HD0 : Hid (Bd ((w.alloc (Obj.cells #[Value.string n.kind, Value.string n.text, Value.slice a n.kids.length cap] 24)).alloc (Obj.cells #[Value.slice none 0 0] 48)) (w.heap.size + 1)) := Lib.hid ⟨bB0.lt, none, 0, bB0.cell 0 _ rfl⟩
  clear bB0 hk hel htx hl hkd htk hT hit hsz
  unfold N.val
  go_enter Tryz.func18, Tryz.ntmps18
  go_wp2_with fail
  refine (next_any _ _ HD0.out).mono ?_
  rintro e0 w0 ⟨rfl, hw0⟩
  subst hw0
  go_wp2_with fail
  have hsl : (n.kind.extract 8 n.kind.size).toList = l := by
    have h1 := HKD.out
    rw [ByteArray.toList_eq] at h1 ⊢
    have h2 := HSZ.out
    have h3 : n.kind.data.toList.length = 8 + l.length := by rw [h1]; simp; omega
    rw [ByteArray.data_extract, Array.toList_extract, h1]
    simp [List.extract_eq_take_drop]
    rw [h2]
    simp
  have HSL : Hid (tokW[i]? = some (n.kind.extract 8 n.kind.size).toList) := Lib.hid (by rw [hsl]; exact HL.out)
  have HW3 := Lib.hid ((((Below.refl w.heap.size w).alloc (Nat.le_refl _) (Obj.cells #[Value.string n.kind, Value.string n.text, Value.slice a n.kids.length cap] 24)).alloc (by simp) (Obj.cells #[Value.slice none 0 0] 48)).alloc (by simp; omega) (Obj.cells #[Value.pointer none, Value.int .i64 1, Value.int .i64 0, Value.int .i64 0, Value.slice none 0 0, Value.int .i64 0] 70))
  refine (word_any i _ _ HSL.out (HT.out.later h0 HW3.out)).mono ?_
  rintro e1 w1 ⟨rfl, hw1⟩
  subst hw1
  clear hsl
  go_wp2_with fail
  refine (next_any _ _ (HD0.out.later ((Below.refl _ _).alloc (Nat.le_refl _) (Obj.cells #[Value.pointer none, Value.int .i64 1, Value.int .i64 (61 + (i : Int)), Value.int .i64 0, Value.slice none 0 0, Value.int .i64 0] 70)))).mono ?_
  rintro e2 w2 ⟨rfl, hw2⟩
  subst hw2
  go_wp2_with fail
  have HW4 := Lib.hid ((((Below.refl w.heap.size w).alloc (Nat.le_refl _) (Obj.cells #[Value.string n.kind, Value.string n.text, Value.slice a n.kids.length cap] 24)).alloc (by simp) (Obj.cells #[Value.slice none 0 0] 48)).alloc (by simp; omega) (Obj.cells #[Value.pointer none, Value.int .i64 1, Value.int .i64 (61 + (i : Int)), Value.int .i64 1, Value.slice none 0 0, Value.int .i64 0] 70))
  have BN4 := Lib.hid (BN0.out.later ((Below.refl (w.heap.size + 2) _).alloc (by simp) (Obj.cells #[Value.pointer none, Value.int .i64 1, Value.int .i64 (61 + (i : Int)), Value.int .i64 1, Value.slice none 0 0, Value.int .i64 0] 70)) (by omega))
  have HD4 := Lib.hid (HD0.out.later ((Below.refl _ _).alloc (Nat.le_refl _) (Obj.cells #[Value.pointer none, Value.int .i64 1, Value.int .i64 (61 + (i : Int)), Value.int .i64 1, Value.slice none 0 0, Value.int .i64 0] 70)))
  have BX4 := Lib.hid (show Blk (((w.alloc (Obj.cells #[Value.string n.kind, Value.string n.text, Value.slice a n.kids.length cap] 24)).alloc (Obj.cells #[Value.slice none 0 0] 48)).alloc (Obj.cells #[Value.pointer none, Value.int .i64 1, Value.int .i64 (61 + (i : Int)), Value.int .i64 1, Value.slice none 0 0, Value.int .i64 0] 70)) (w.heap.size + 2) 70 #[Value.pointer none, Value.int .i64 1, Value.int .i64 (61 + (i : Int)), Value.int .i64 1, Value.slice none 0 0, Value.int .i64 0] from by simpa using Blk.new ((w.alloc (Obj.cells #[Value.string n.kind, Value.string n.text, Value.slice a n.kids.length cap] 24)).alloc (Obj.cells #[Value.slice none 0 0] 48)) #[Value.pointer none, Value.int .i64 1, Value.int .i64 (61 + (i : Int)), Value.int .i64 1, Value.slice none 0 0, Value.int .i64 0] 70)
  obtain ⟨i0, hi0, hz0, hz1, hz2⟩ := info_parts infoSpec
  have HI := Lib.hid (And.intro hi0 (And.intro hz0 (And.intro hz1 hz2)))
  clear hi0 hz0 hz1 hz2
  have hl400 : n.kids.length ≤ 400 := by omega
  go_loopw [84] (fun vi wr => ∃ (j : Nat) (M : List Value) (vv : Value), j ≤ n.kids.length ∧ vi = .int .i64 j ∧ Blk wr w.heap.size 24 #[Value.string n.kind, Value.string n.text, Value.slice a n.kids.length cap] ∧ Bd wr (w.heap.size + 1) ∧ Blk wr (w.heap.size + 1 + 1) 70 #[Value.pointer none, Value.int .i64 1, Value.int .i64 (61 + (i : Int)), Value.int .i64 1, vv, Value.int .i64 0] ∧ wr.ownsRow (w.heap.size + 3) 73 1 vv j M ∧ Below w.heap.size w wr ∧ w.heap.size + 3 ≤ wr.heap.size ∧ Elems (At (Ex vv (w.heap.size + 3) wr.heap.size) wr) ByS n.kids M)
    (fun vi _ => n.kids.length - (intOf vi).toNat)
  case atStart =>
    exact ⟨0, [], .slice none 0 0, Nat.zero_le _, rfl, BN4.out, HD4.out, BX4.out, World.ownsRow_nil _ _ _ _, HW4.out, by simp, Elems.nil _ _ _⟩
  case round =>
    obtain ⟨j, M, vv, hj, rfl, hbn, hbd, hblk, hown, hbel, hsr, hE2⟩ := hrel
    have HBN := Lib.hid hbn
    have HBD := Lib.hid hbd
    have HBLK := Lib.hid hblk
    have HOWN := Lib.hid hown
    have HBEL := Lib.hid hbel
    have HE2 := Lib.hid hE2
    clear hbn hbd hblk hown hbel hE2
    by_cases hjl : j < n.kids.length
    · have hjl' : (j : Int) < (n.kids.length : Int) := by omega
      obtain ⟨b, o, V, hae, hb, c0, c1, c2, hV⟩ := HEL.out j n.kids[j] (List.getElem?_eq_getElem hjl)
      subst hae
      have c0' := (HBEL.out.cell (p := ⟨b, o + j * 3, none⟩) hb).trans c0
      have c1' := (HBEL.out.cell (p := ⟨b, o + j * 3 + 1, none⟩) hb).trans c1
      have c2' := (HBEL.out.cell (p := ⟨b, o + j * 3 + 2, none⟩) hb).trans c2
      obtain ⟨a2, cap2, rfl, _, _⟩ := hV.shape
      have HV := Lib.hid (hV.later HBEL.out)
      have hgj : n.kids[j]? = some n.kids[j] := List.getElem?_eq_getElem hjl
      have hjs : n.kids[j].size ≤ 400 := by have := N.size_kid (m := n) hgj; omega
      have HGJ := Lib.hid hgj
      have HIJ := Lib.hid (HIT.out n.kids[j] (List.getElem_mem hjl))
      clear hV hgj c0 c1 c2
      have y1 := HBLK.out.cell 4 _ rfl
      have yf := HBLK.out.frozen 4
      have hltx := HBLK.out.lt
      go_wp2_with fail
      go_region_law (first
        | (refine step_call (by rfl) 39 _ _ (by rfl) #[Pt (w.heap.size + 1), n.kids[j].val (.slice a2 n.kids[j].kids.length cap2)] (by first | (simp [Act.eval, N.val]; done) | (simp [Act.eval, Act.put, N.val]; done) | rfl) (enters_of Tryz.func39 (by kernel_rfl) rfl) (item_made n.kids[j] (.slice a2 n.kids[j].kids.length cap2) (w.heap.size + 1) _ hjs HIJ.out (HV.out.later (((Below.refl _ _).alloc (Nat.le_refl _) _).drew)) (HBD.out.later (((Below.refl _ _).alloc (Nat.le_refl _) _).drew))) ?_
           rintro e w3 ⟨r3, rfl, he3, hb3, hr3⟩
           refine ⟨_, rfl, ?_⟩
           obtain ⟨t3, p3, rfl⟩ := hr3.nd (ne_of_isS he3)
           have hbA := (((Below.refl wr.heap.size wr).alloc (Nat.le_refl _) (Obj.cells #[Value.string n.kids[j].kind, Value.string n.kids[j].text, Value.slice a2 n.kids[j].kids.length cap2] 24)).drew).trans (hb3.mono (by simp))
           have hs3 : wr.heap.size ≤ w3.heap.size := hbA.size
           have hx3 := HBLK.out.later hbA hltx
           have z1 := hx3.cell 4 _ rfl
           have zf := hx3.frozen 4
           have lt3 := hx3.lt
           have HOWN3 := Lib.hid (owns_kept HOWN.out hbA)
           have HR3 := Lib.hid hr3
           have HEE := Lib.hid he3
           have HBA := Lib.hid hbA
           have HX3 := Lib.hid hx3
           clear hb3 hr3 hbA hx3 he3)
        | (refine step_append_lies _ (by rfl) (.tmp 92) (.tmp 96) 68 (by rfl) (w.heap.size + 3) 73 i0 .nilIface 1 16 underSpecs HI.out.1 HI.out.2.1 HI.out.2.2.1 HI.out.2.2.2 (by rfl) (by decide) vv j M (by first | (simp [Act.eval]; done) | rfl) (HOWN3.out.alloc _) ⟨w3.heap.size, 0, none⟩ 1 1 [.iface t3 (Pt p3)] (by first | (simp [Act.eval]; done) | rfl) (by rfl) (World.news_of_block (heap_alloc_new _ _)) (by simp [Value.oneCell']) (by decide) (by unfold maxLen; omega) (by omega) (by simp; omega) (w3.heap.size + 1) (by simp) ?_
           intro gg cap' w5 hown5 hgrow5 hat5 hlt5
           have hbC := HBA.out.alloc hs3 (.cells #[.iface t3 (Pt p3)] 73)
           have HE5 := Lib.hid (elems_step (n := j + 1) (cap := cap') HE2.out hsr (fun k hk => (HOWN.out.lt k hk).2) hbC (HR3.out.beneath ((Below.refl w3.heap.size w3).alloc (Nat.le_refl _) (.cells #[.iface t3 (Pt p3)] 73)) (by simp) (Nat.le_refl _) (by simp)) ⟨rfl, HEE.out⟩ hgrow5 (hat5.imp id (fun h => by simp; omega)) (by simpa using HOWN3.out.1) HGJ.out)
           have HB5 := Lib.hid ((HBEL.out.trans (hbC.mono HBEL.out.size)).grown hgrow5 (by simp; omega) (fun k hk => by have := (HOWN.out.lt k hk).1; omega))
           have hx5 : Blk w5 (w.heap.size + 1 + 1) 70 #[Value.pointer none, Value.int .i64 1, Value.int .i64 (61 + (i : Int)), Value.int .i64 1, vv, Value.int .i64 0] := (hgrow5.block _ (by simp; omega) (fun h => by have := (HOWN.out.lt _ h.symm).1; omega)).trans (HX3.out.later ((Below.refl w3.heap.size w3).alloc (Nat.le_refl _) (.cells #[.iface t3 (Pt p3)] 73)) HX3.out.lt)
           have hn5 : Blk w5 w.heap.size 24 _ := (hgrow5.block _ (by simp; omega) (fun h => by have := (HOWN.out.lt _ h.symm).1; omega)).trans (HBN.out.later hbC HBN.out.lt)
           have hd5 : Bd w5 (w.heap.size + 1) := by
             have h1 := HBD.out.later hbC
             obtain ⟨aa, cc, hc⟩ := h1.cell
             exact ⟨Nat.lt_of_lt_of_le h1.lt hgrow5.size, aa, cc, (World.cell?_of_block (hgrow5.block (w.heap.size + 1) h1.lt (fun h => by have := (HOWN.out.lt (w.heap.size + 1) h.symm).1; omega))).trans hc⟩
           have z1 := hx5.cell 4 _ rfl
           have zf := hx5.frozen 4
           have HX5 := Lib.hid hx5
           have HN5 := Lib.hid hn5
           have HD5 := Lib.hid hd5
           have HO5 := Lib.hid hown5
           have hsz5 : w.heap.size + 3 ≤ w5.heap.size := by have := hgrow5.size; simp at this; omega
           clear hown5 hgrow5 hat5 hbC hx5 hn5 hd5))
      all_goals
        go_wp2_with fail
        go_roundw
        case rel => exact ⟨j + 1, M ++ [.iface t3 (Pt p3)], .slice (some ⟨gg, 0, none⟩) (j + 1) cap', by omega, by go_num, HN5.out.other _ _ _ (by omega), HD5.out.set (by omega), HX5.out.set 4 _, ownsRow_setCell_below HO5.out (by first | (simp; done) | (simp; omega)) _, HB5.out.setCell (by first | (simp; done) | (simp; omega)) _, by simpa using hsz5, HE5.out.set (by omega)⟩
        case measure => simp [intOf]; omega
    · have hjl' : ¬ (j : Int) < (n.kids.length : Int) := by omega
      have hjj : j = n.kids.length := by omega
      subst hjj
      have n1 := HBN.out.cell 1 _ rfl
      have nl := HBN.out.lt
      have x5 := HBLK.out.cell 5 _ rfl
      have x5f := HBLK.out.frozen 5
      have x5l := HBLK.out.lt
      have hM : M.length = n.kids.length := by simpa using HOWN.out.1
      go_wp2_with fail
      refine (next_any _ _ HBD.out).mono ?_
      rintro e9 w9 ⟨rfl, hw9⟩
      subst w9
      go_wp2_with fail
      go_ret
      have hBX := HBLK.out.set 5 (Value.int .i64 1)
      have hE3 := HE2.out.set (X := w.heap.size + 1 + 1) (i := 5) (u := Value.int .i64 1) (by omega)
      have hO3 := ownsRow_setCell_below (a := ⟨w.heap.size + 1 + 1, 5, none⟩) HOWN.out (by show w.heap.size + 1 + 1 < w.heap.size + 3; omega) (Value.int .i64 1)
      have hel2 := (hE3.ex (lo' := w.heap.size) (by omega)).self (by omega)
      exact ⟨_, rfl, ⟨_, rfl⟩, HBEL.out.setCell (by first | (simp; done) | (simp; omega)) _, .gen n _ (fun i => M.getD i .nilIface) _ _ 1 HTK.out (.inr ⟨HTX.out, rfl⟩) ⟨⟨by omega, hBX.lt⟩, hBX.cell 0 _ rfl⟩ ⟨⟨by omega, hBX.lt⟩, (hBX.cell 2 _ rfl).trans (by simp)⟩ ⟨⟨by omega, hBX.lt⟩, hBX.cell 3 _ rfl⟩ ⟨⟨by omega, hBX.lt⟩, hBX.cell 4 _ rfl⟩ (lat_of_owns hO3 (by omega)) (fun i m hm => (hel2 i m hm).1) (fun i m hm => (hel2 i m hm).2)⟩
end Go.Proofs.YtoijkbkcfbbmfaaGreatDoor

/- What is proved here: build makes, of every shaped tree, a declaration that lies in new memory as the tree. Conditions: the table of tokens lies as the program lays it. -/
namespace Go.Proofs.YtoijkbkcfbbmfaaGreatDoor
open Go.RowKit Go.Shelf

theorem orB_true {p : N → Bool} {x : N} (h : orB p x = true) (hm : missing x = false) : p x = true := by
  unfold orB at h
  rw [hm] at h
  simpa using h
theorem build_any (n : N) (v : Value) (w : World) (hs : shapedB n = true) (hk : KidsAt (· < w.heap.size) w v n.kids) (hT : TokTab w) (h0 : 0 < w.heap.size) :
    Calls Tryz.prog 18 #[n.val v, .slice none 0 0] w fun e w' => ∃ t b, e = .returned (Nd t b) ∧ (t = 66 ∨ t = 51) ∧ Made w w' n (Nd t b) := by
  have hn := shaped_small hs
  simp only [shapedB, Bool.and_eq_true, Bool.or_eq_true] at hs
  obtain ⟨⟨⟨_, _⟩, hd⟩, htx⟩ := hs
  have G : ∀ {w' : World} {e : Ending}, (∃ r, e = .returned r ∧ (∃ b, r = Nd 66 b) ∧ Made w w' n r) → ∃ t b, e = .returned (Nd t b) ∧ (t = 66 ∨ t = 51) ∧ Made w w' n (Nd t b) := by
    rintro w' e ⟨r, he, ⟨b, rfl⟩, hm⟩
    exact ⟨_, b, he, .inl rfl, hm⟩
  have F : ∀ {w' : World} {e : Ending}, (∃ r, e = .returned r ∧ (∃ b, r = Nd 51 b) ∧ Made w w' n r) → ∃ t b, e = .returned (Nd t b) ∧ (t = 66 ∨ t = 51) ∧ Made w w' n (Nd t b) := by
    rintro w' e ⟨r, he, ⟨b, rfl⟩, hm⟩
    exact ⟨_, b, he, .inr rfl, hm⟩
  have key : ∀ (i : Nat) (l : List UInt8), tokW[i]? = some l → isK n ([100, 101, 99, 108, 97, 114, 101, 32] ++ l) = true → tokOf n = some (61 + i) → (∀ m ∈ n.kids, pathB m = true ∨ valueB 400 m = true ∨ typeB 400 m = true) →
      Calls Tryz.prog 18 #[n.val v, .slice none 0 0] w fun e w' => ∃ t b, e = .returned (Nd t b) ∧ (t = 66 ∨ t = 51) ∧ Made w w' n (Nd t b) := by
    intro i l hl hkk htk hit
    have hkd := isK_eq hkk
    have hnf : isK n [102, 117, 110, 99] = false := by
      rw [isK, hkd]
      simp
    rw [hnf] at htx
    have htx2 : n.text.toList = [103, 114, 111, 117, 112] ∨ n.text.toList = [] := by
      rcases htx with h | h | h
      · cases h
      · exact .inl (beq_iff_eq.1 h)
      · exact .inr (by simpa using h.1)
    rcases htx2 with htx2 | htx2
    · exact (build_gen1 n v w hn i l hl hkd htx2 hit htk hT hk h0).mono fun e w' h => G h
    · exact (build_gen0 n v w hn i l hl hkd htx2 hit htk hT hk h0).mono fun e w' h => G h
  have tk : ∀ (i : Nat) (l : List UInt8), tokW[i]? = some l → isK n ([100, 101, 99, 108, 97, 114, 101, 32] ++ l) = true → (i = 14 ∨ i = 3 ∨ i = 23 ∨ i = 24) → tokOf n = some (61 + i) := by
    intro i l hl hkk hi
    have hkd := isK_eq hkk
    rcases hi with rfl | rfl | rfl | rfl <;> (cases hl; simp [tokOf, isK, hkd])
  unfold declB at hd
  split at hd
  · rename_i h1
    exact key 14 _ rfl h1 (tk 14 _ rfl h1 (by simp)) fun m hm => .inl (List.all_eq_true.1 hd m hm)
  · split at hd
    · rename_i h1
      rw [Bool.or_eq_true] at h1
      rcases h1 with h1 | h1
      · exact key 3 _ rfl h1 (tk 3 _ rfl h1 (by simp)) fun m hm => .inr (.inl (List.all_eq_true.1 hd m hm))
      · exact key 24 _ rfl h1 (tk 24 _ rfl h1 (by simp)) fun m hm => .inr (.inl (List.all_eq_true.1 hd m hm))
    · split at hd
      · rename_i h1
        exact key 23 _ rfl h1 (tk 23 _ rfl h1 (by simp)) fun m hm => .inr (.inr (List.all_eq_true.1 hd m hm))
      · split at hd
        · rename_i h1
          have hkd := isK_eq h1
          match hks : n.kids, hd with
          | [x, y, z], hd =>
            simp only [kid3B, funcB3, Bool.and_eq_true, Bool.or_eq_true] at hd
            obtain ⟨⟨⟨a1, a2⟩, a3⟩, a4⟩ := hd
            have hky := isK_eq a2
            cases hmx : missing x with
            | true =>
              rcases a4 with a4 | a4
              · exact (build_func_11 n v w hn hkd x y z hks hmx hky a3 a4 hk).mono fun e w' h => F h
              · exact (build_func_10 n v w hn hkd x y z hks hmx hky a3 a4 hk).mono fun e w' h => F h
            | false =>
              have hsx := orB_true a1 hmx
              rcases a4 with a4 | a4
              · exact (build_func_01 n v w hn hkd x y z hks hsx hky a3 a4 hk).mono fun e w' h => F h
              · exact (build_func_00 n v w hn hkd x y z hks hsx hky a3 a4 hk).mono fun e w' h => F h
        · cases hd
end Go.Proofs.YtoijkbkcfbbmfaaGreatDoor

