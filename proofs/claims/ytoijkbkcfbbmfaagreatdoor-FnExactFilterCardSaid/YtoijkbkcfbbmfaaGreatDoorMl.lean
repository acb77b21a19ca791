/- What is proved here: how the arguments and the listed tables read. Conditions: each theorem names its own. -/
import Derived.ProofKit
import Derived.OpenShut
import Derived.Test.YtoijkbkcfbbmfaaGreatDoorMa
set_option linter.all false
set_option linter.unusedVariables false
set_option linter.unusedSimpArgs false
/- What is proved here: a declaration that is handed in reads as a tree of nodes. -/
namespace Go.Proofs.YtoijkbkcfbbmfaaGreatDoor
open Go Go.RowKit
set_option linter.unusedVariables false

theorem shapeNode : (Tryz.prog.underlying 24).map (fun u => match u with | .struct fs => fs.toList.map (fun f => (f.type, f.offset)) | _ => []) = some [(9, 0), (9, 1), (22, 2)] := by kernel_rfl
set_option maxRecDepth 100000 in
theorem underNode : ∃ (fs : Array Field) (f0 f1 f2 : Field), Tryz.prog.underlying 24 = some (.struct fs) ∧ fs[0]? = some f0 ∧ fs[1]? = some f1 ∧ fs[2]? = some f2 ∧ fs.size = 3 ∧ f0.type = 9 ∧ f0.offset = 0 ∧ f1.type = 9 ∧ f1.offset = 1 ∧ f2.type = 22 ∧ f2.offset = 2 := by
  have h := shapeNode
  cases hu : Tryz.prog.underlying 24 with
  | none => rw [hu] at h; cases h
  | some u =>
    rw [hu] at h
    simp only [Option.map_some, Option.some.injEq] at h
    cases u with
    | struct fs =>
      obtain ⟨l⟩ := fs
      simp only at h
      match l, h with
      | [f0, f1, f2], h =>
        simp only [List.map_cons, List.map_nil, List.cons.injEq, Prod.mk.injEq, and_true] at h
        exact ⟨_, f0, f1, f2, rfl, rfl, rfl, rfl, rfl, h.1.1, h.1.2, h.2.1.1, h.2.1.2, h.2.2.1, h.2.2.2⟩
    | _ => simp at h
theorem underStr : Tryz.prog.underlying 9 = some .string := by kernel_rfl
theorem underNodes : Tryz.prog.underlying 22 = some (.slice 24) := by kernel_rfl
theorem cellsNode : Tryz.prog.cellsOf 24 = 3 := by kernel_rfl
theorem cellsStr : Tryz.prog.cellsOf 9 = 1 := by kernel_rfl
theorem cellsNodes : Tryz.prog.cellsOf 22 = 1 := by kernel_rfl
theorem add_none {a : Addr} {w : World} {v : Value} (h : w.cell? (a.add 0) = some v) : a = ⟨a.block, a.off, none⟩ := by
  have h0 : a.add 0 = a := by simp [Addr.add]
  rw [h0] at h
  have hs : a.spot = none := by
    unfold World.cell? at h
    split at h
    · split at h
      · cases h
      · rename_i hn; simpa using hn
    · cases h
  cases a
  simp only at hs
  subst hs
  rfl
theorem add_at (b o i j : Nat) : ((⟨b, o, none⟩ : Addr).add i).add j = ⟨b, o + i + j, none⟩ := by
  unfold Addr.add
  by_cases hi : i = 0 <;> by_cases hj : j = 0 <;> simp [hi, hj]
set_option maxRecDepth 100000 in
theorem open_node {H : Type} {enc : TypeId × Value → H} {w : World} {sp : Nat → Bool} {held : Bool} (fuel : Nat) : ∀ {cs : List Value} {x : DataW H × List MemPlace}, DataW.trod enc Tryz.prog w 0 sp held fuel 24 cs = some x →
    ∃ (n : N) (v : Value), cs = [.string n.kind, .string n.text, v] ∧ KidsAt (· < w.heap.size) w v n.kids := by
  induction fuel using Nat.strongRecOn with
  | _ fuel ih =>
    intro cs x h
    obtain ⟨fs, f0, f1, f2, hu, h0, h1, h2, hsz, t0, o0, t1, o1, t2, o2⟩ := underNode
    obtain ⟨xs, k, rfl, _, hlen, hxl, hx⟩ := DataW.trod_struct hu h
    rw [cellsNode] at hlen
    rw [hsz] at hxl
    match cs, hlen with
    | [c0, c1, c2], _ =>
      have a0 := hx 0 f0 h0
      have a1 := hx 1 f1 h1
      have a2 := hx 2 f2 h2
      rw [t0, o0, cellsStr] at a0
      rw [t1, o1, cellsStr] at a1
      rw [t2, o2, cellsNodes] at a2
      match xs, hxl with
      | [x0, x1, x2], _ =>
        have a0 : DataW.trod enc Tryz.prog w 0 sp held k 9 [c0] = some x0 := a0
        have a1 : DataW.trod enc Tryz.prog w 0 sp held k 9 [c1] = some x1 := a1
        have a2 : DataW.trod enc Tryz.prog w 0 sp held k 22 [c2] = some x2 := a2
        obtain ⟨s0, e0, _⟩ := DataW.trod_string underStr a0
        obtain ⟨s1, e1, _⟩ := DataW.trod_string underStr a1
        simp only [List.cons.injEq, and_true] at e0 e1
        subst e0
        subst e1
        rcases DataW.trod_slice underNodes a2 with ⟨e2, _⟩ | ⟨a, len, cap, elems, rest, m, rfl, e2, _, _, hlc, _, hel, hall, _⟩
        · obtain rfl : c2 = .slice none 0 0 := by first | exact e2 | exact List.head_eq_of_cons_eq e2
          exact ⟨.mk s0 s1 [], _, rfl, .nil none 0⟩
        · obtain rfl : c2 = .slice (some a) len cap := by first | exact e2 | exact List.head_eq_of_cons_eq e2
          rw [cellsNode] at hall
          have key : ∀ i, ∃ p : N × Value, i < len → w.cell? ((a.add (i * 3)).add 0) = some (.string p.1.kind) ∧ w.cell? ((a.add (i * 3)).add 1) = some (.string p.1.text) ∧ w.cell? ((a.add (i * 3)).add 2) = some p.2 ∧ KidsAt (· < w.heap.size) w p.2 p.1.kids := by
            intro i
            by_cases hi : i < len
            · have hb := hall i hi
              have hi' : i < elems.length := by omega
              rw [List.getElem?_eq_getElem hi', Option.bind_eq_some_iff] at hb
              obtain ⟨cs', hc', hb⟩ := hb
              obtain ⟨n, v, rfl, hk⟩ := ih m (by omega) hb
              obtain ⟨_, _, hc⟩ := World.cells?_some hc'
              exact ⟨(n, v), fun _ => ⟨hc 0 (by omega), hc 1 (by omega), hc 2 (by omega), hk⟩⟩
            · exact ⟨(.mk s0 s1 [], .nilIface), fun h => absurd h hi⟩
          obtain ⟨P, hP⟩ := Classical.skolem.1 key
          by_cases h0 : len = 0
          · subst h0
            exact ⟨.mk s0 s1 [], _, rfl, .nil _ _⟩
          · have hp0 := hP 0 (by omega)
            have ha : a = ⟨a.block, a.off, none⟩ := by
              have := hp0.1
              rw [show (0 * 3 : Nat) = 0 from rfl, show (a.add 0) = a from by simp [Addr.add]] at this
              exact add_none this
            have hblk : a.block < w.heap.size := by
              have h1 := World.block_lt_of_cell? w _ hp0.1
              rw [show (0 * 3 : Nat) = 0 from rfl, show ((a.add 0).add 0) = a from by simp [Addr.add]] at h1
              exact h1
            refine ⟨.mk s0 s1 ((List.range len).map fun i => (P i).1), _, rfl, ?_⟩
            have hl : ((List.range len).map fun i => (P i).1).length = len := by simp
            have hat : ∀ i n, ((List.range len).map fun i => (P i).1)[i]? = some n → i < len ∧ n = (P i).1 := by
              intro i n hi
              simp only [List.getElem?_map, Option.map_eq_some_iff] at hi
              obtain ⟨j, hj, rfl⟩ := hi
              obtain ⟨hlt, rfl⟩ := List.getElem?_eq_some_iff.1 hj
              simp at hlt
              exact ⟨hlt, by simp⟩
            have hr : KidsAt (· < w.heap.size) w (.slice (some ⟨a.block, a.off, none⟩) ((List.range len).map fun i => (P i).1).length cap) ((List.range len).map fun i => (P i).1) := by
              refine .cons a.block a.off cap _ (fun i => (P i).2) hblk (by omega) (by omega) (fun i n hi => ?_) (fun i n hi => ?_)
              · obtain ⟨hlt, rfl⟩ := hat i n hi
                have := hP i hlt
                rw [ha] at this
                simp only [add_at] at this
                exact ⟨this.1, this.2.1, this.2.2.1⟩
              · obtain ⟨hlt, rfl⟩ := hat i n hi
                exact (hP i hlt).2.2.2
            rw [hl] at hr
            show KidsAt _ _ (.slice (some a) len cap) _
            rw [ha]
            exact hr
end Go.Proofs.YtoijkbkcfbbmfaaGreatDoor

