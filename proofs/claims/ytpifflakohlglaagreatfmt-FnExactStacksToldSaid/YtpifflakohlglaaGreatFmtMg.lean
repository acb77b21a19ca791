/- What is proved here: the kinds of nodes, first part. Conditions: each theorem names its own. -/
import Derived.Deep.RegionHeld3
import Derived.Deep.RegionLaw
import Derived.Deep.DrawnRows
import Derived.Test.YtpifflakohlglaaGreatFmtMc
import Derived.Test.YtpifflakohlglaaGreatFmtMf
import Derived.Test.YtpifflakohlglaaGreatFmtMe
set_option linter.all false
set_option linter.unusedVariables false
set_option linter.unusedSimpArgs false
/- What is proved here: assertions of types, and the small functions that turn syntax into nodes again. -/
namespace Go.Proofs.YtpifflakohlglaaGreatFmt
open Go.RowKit Go.Shelf
set_option linter.unusedVariables false
set_option linter.unusedSimpArgs false

theorem as_IdentP (t X : TypeId) (u : Value) (w : World) : (Instr.typeAssert (.iface t u) X 82 true).run Tryz.prog w = .ok (if t = 82 then .tuple #[u, .bool true] else .tuple #[.pointer none, .bool false]) w := run_assert (by kernel_rfl) w
theorem as_BasicLitP (t X : TypeId) (u : Value) (w : World) : (Instr.typeAssert (.iface t u) X 78 true).run Tryz.prog w = .ok (if t = 78 then .tuple #[u, .bool true] else .tuple #[.pointer none, .bool false]) w := run_assert (by kernel_rfl) w
theorem as_SelectorExprP (t X : TypeId) (u : Value) (w : World) : (Instr.typeAssert (.iface t u) X 106 true).run Tryz.prog w = .ok (if t = 106 then .tuple #[u, .bool true] else .tuple #[.pointer none, .bool false]) w := run_assert (by kernel_rfl) w
theorem as_StarExprP (t X : TypeId) (u : Value) (w : World) : (Instr.typeAssert (.iface t u) X 124 true).run Tryz.prog w = .ok (if t = 124 then .tuple #[u, .bool true] else .tuple #[.pointer none, .bool false]) w := run_assert (by kernel_rfl) w
theorem as_ArrayTypeP (t X : TypeId) (u : Value) (w : World) : (Instr.typeAssert (.iface t u) X 137 true).run Tryz.prog w = .ok (if t = 137 then .tuple #[u, .bool true] else .tuple #[.pointer none, .bool false]) w := run_assert (by kernel_rfl) w
theorem as_MapTypeP (t X : TypeId) (u : Value) (w : World) : (Instr.typeAssert (.iface t u) X 148 true).run Tryz.prog w = .ok (if t = 148 then .tuple #[u, .bool true] else .tuple #[.pointer none, .bool false]) w := run_assert (by kernel_rfl) w
theorem as_ChanTypeP (t X : TypeId) (u : Value) (w : World) : (Instr.typeAssert (.iface t u) X 151 true).run Tryz.prog w = .ok (if t = 151 then .tuple #[u, .bool true] else .tuple #[.pointer none, .bool false]) w := run_assert (by kernel_rfl) w
theorem as_FuncTypeP (t X : TypeId) (u : Value) (w : World) : (Instr.typeAssert (.iface t u) X 94 true).run Tryz.prog w = .ok (if t = 94 then .tuple #[u, .bool true] else .tuple #[.pointer none, .bool false]) w := run_assert (by kernel_rfl) w
theorem as_StructTypeP (t X : TypeId) (u : Value) (w : World) : (Instr.typeAssert (.iface t u) X 140 true).run Tryz.prog w = .ok (if t = 140 then .tuple #[u, .bool true] else .tuple #[.pointer none, .bool false]) w := run_assert (by kernel_rfl) w
theorem as_InterfaceTypeP (t X : TypeId) (u : Value) (w : World) : (Instr.typeAssert (.iface t u) X 145 true).run Tryz.prog w = .ok (if t = 145 then .tuple #[u, .bool true] else .tuple #[.pointer none, .bool false]) w := run_assert (by kernel_rfl) w
theorem as_ImportSpecP (t X : TypeId) (u : Value) (w : World) : (Instr.typeAssert (.iface t u) X 217 true).run Tryz.prog w = .ok (if t = 217 then .tuple #[u, .bool true] else .tuple #[.pointer none, .bool false]) w := run_assert (by kernel_rfl) w
theorem as_ValueSpecP (t X : TypeId) (u : Value) (w : World) : (Instr.typeAssert (.iface t u) X 220 true).run Tryz.prog w = .ok (if t = 220 then .tuple #[u, .bool true] else .tuple #[.pointer none, .bool false]) w := run_assert (by kernel_rfl) w
theorem as_TypeSpecP (t X : TypeId) (u : Value) (w : World) : (Instr.typeAssert (.iface t u) X 223 true).run Tryz.prog w = .ok (if t = 223 then .tuple #[u, .bool true] else .tuple #[.pointer none, .bool false]) w := run_assert (by kernel_rfl) w
theorem as_GenDeclP (t X : TypeId) (u : Value) (w : World) : (Instr.typeAssert (.iface t u) X 227 true).run Tryz.prog w = .ok (if t = 227 then .tuple #[u, .bool true] else .tuple #[.pointer none, .bool false]) w := run_assert (by kernel_rfl) w
theorem as_FuncDeclP (t X : TypeId) (u : Value) (w : World) : (Instr.typeAssert (.iface t u) X 234 true).run Tryz.prog w = .ok (if t = 234 then .tuple #[u, .bool true] else .tuple #[.pointer none, .bool false]) w := run_assert (by kernel_rfl) w
theorem as_FieldListP (t X : TypeId) (u : Value) (w : World) : (Instr.typeAssert (.iface t u) X 83 true).run Tryz.prog w = .ok (if t = 83 then .tuple #[u, .bool true] else .tuple #[.pointer none, .bool false]) w := run_assert (by kernel_rfl) w
theorem as_FieldP (t X : TypeId) (u : Value) (w : World) : (Instr.typeAssert (.iface t u) X 74 true).run Tryz.prog w = .ok (if t = 74 then .tuple #[u, .bool true] else .tuple #[.pointer none, .bool false]) w := run_assert (by kernel_rfl) w
theorem as_BlockStmtP (t X : TypeId) (u : Value) (w : World) : (Instr.typeAssert (.iface t u) X 95 true).run Tryz.prog w = .ok (if t = 95 then .tuple #[u, .bool true] else .tuple #[.pointer none, .bool false]) w := run_assert (by kernel_rfl) w

section
variable {P : Program}
def lacks (want : Array (String × TypeId)) (got : Array Method) : List (String × TypeId) := want.toList.filter fun p => !got.any fun m => m.name == p.1 && m.sig == p.2
theorem missing_none {want : Array (String × TypeId)} {got : Array Method} (h : (lacks want got).isEmpty = true) : Instr.missingMethod want got = none := by
  have h0 : lacks want got = [] := by simpa using h
  unfold lacks at h0
  simp only [Instr.missingMethod]
  rw [h0]
  rfl
theorem least_some {l : List String} (h : l ≠ []) : ∃ s, Instr.least l = some s := by
  cases l with
  | nil => exact absurd rfl h
  | cons a r => exact ⟨_, rfl⟩
theorem least_or (p : String → Bool) (g : String → String) {l : List String} (h : l ≠ []) : ∃ s, (Instr.least (l.partition p).2 <|> Instr.least ((l.partition p).1.map g)) = some s := by
  have hp : (l.partition p).2 ≠ [] ∨ (l.partition p).1 ≠ [] := by
    cases l with
    | nil => exact absurd rfl h
    | cons a r =>
      simp only [List.partition_eq_filter_filter]
      by_cases hd : p a = true
      · right; simp [List.filter_cons, hd]
      · left; simp [List.filter_cons, hd]
  rcases hp with hp | hp
  · obtain ⟨s, hs⟩ := least_some hp
    exact ⟨s, by rw [hs]; rfl⟩
  · cases hq : Instr.least (l.partition p).2 with
    | some s => exact ⟨s, rfl⟩
    | none =>
      obtain ⟨s, hs⟩ := least_some (l := (l.partition p).1.map g) (by simpa using hp)
      exact ⟨s, by rw [hs]; rfl⟩
theorem missing_some {want : Array (String × TypeId)} {got : Array Method} (h : (lacks want got).isEmpty = false) : ∃ m, Instr.missingMethod want got = some m := by
  have h0 : (lacks want got).map (·.1) ≠ [] := by
    intro h1
    have h2 : lacks want got = [] := by simpa using h1
    rw [h2] at h
    cases h
  exact least_or _ _ h0
/-- Whether a type has what an interface asks; none if they are none. -/
def ifcHas (P : Program) (T t : TypeId) : Option Bool :=
  match P.underlying T, P.info? t with
  | some (.interface want), some i => some (lacks want i.methods).isEmpty
  | _, _ => none
def zeroNil (P : Program) (T : TypeId) : Bool :=
  ifcU P T && (match P.info? T with | some i => (match i.zero with | some .nilIface => true | _ => false) | none => false)
theorem run_ifc {T t X : TypeId} {u : Value} {b : Bool} (h : ifcHas P T t = some b) (hz : zeroNil P T = true) (w : World) :
    (Instr.typeAssert (.iface t u) X T true).run P w = .ok (if b then .tuple #[.iface t u, .bool true] else .tuple #[.nilIface, .bool false]) w := by
  unfold ifcHas at h
  split at h
  · rename_i want i hu hi
    have hr := run_underlying (w := w) hu
    have hi2 := run_typeInfo w hi
    cases hb : (lacks want i.methods).isEmpty with
    | true =>
      rw [hb] at h; cases h
      simp [Instr.typeAssert, hr, hi2, missing_none hb]
    | false =>
      rw [hb] at h; cases h
      obtain ⟨m, hm⟩ := missing_some hb
      unfold zeroNil at hz
      rw [Bool.and_eq_true] at hz
      obtain ⟨_, hz⟩ := hz
      split at hz
      · rename_i i2 hi3
        split at hz
        · rename_i hz2
          have hi4 := run_typeInfo w hi3
          simp [Instr.typeAssert, hr, hi2, hm, zeroValue, hi4, hz2]
        · cases hz
      · cases hz
  · cases h
theorem run_ifc_nil {T X : TypeId} (hz : zeroNil P T = true) (w : World) : (Instr.typeAssert .nilIface X T true).run P w = .ok (.tuple #[.nilIface, .bool false]) w := by
  unfold zeroNil ifcU at hz
  rw [Bool.and_eq_true] at hz
  obtain ⟨hu, hz⟩ := hz
  split at hu
  · rename_i ms hd
    split at hz
    · rename_i i2 hi3
      split at hz
      · rename_i hz2
        have hi4 := run_typeInfo w hi3
        simp [Instr.typeAssert, run_underlying (w := w) hd, zeroValue, hi4, hz2]
      · cases hz
    · cases hz
  · cases hu
theorem run_ptr_nil {T X : TypeId} (h : ptrT P T = true) (w : World) : (Instr.typeAssert .nilIface X T true).run P w = .ok (.tuple #[.pointer none, .bool false]) w := by
  unfold ptrT at h
  rw [Bool.and_eq_true] at h
  obtain ⟨h1, h2⟩ := h
  split at h1
  · rename_i e hu
    split at h2
    · rename_i i hi
      split at h2
      · rename_i hz
        have hi2 := run_typeInfo w hi
        simp [Instr.typeAssert, run_underlying (w := w) hu, zeroValue, hi2, hz]
      · cases h2
    · cases h2
  · cases h1
end
theorem in_Decl_IdentP (u : Value) (w : World) : (Instr.typeAssert (.iface 82 u) 55 48 true).run Tryz.prog w = .ok (.tuple #[.nilIface, .bool false]) w := run_ifc (b := false) (by kernel_rfl) (by kernel_rfl) w
theorem in_Decl_BasicLitP (u : Value) (w : World) : (Instr.typeAssert (.iface 78 u) 55 48 true).run Tryz.prog w = .ok (.tuple #[.nilIface, .bool false]) w := run_ifc (b := false) (by kernel_rfl) (by kernel_rfl) w
theorem in_Decl_SelectorExprP (u : Value) (w : World) : (Instr.typeAssert (.iface 106 u) 55 48 true).run Tryz.prog w = .ok (.tuple #[.nilIface, .bool false]) w := run_ifc (b := false) (by kernel_rfl) (by kernel_rfl) w
theorem in_Decl_StarExprP (u : Value) (w : World) : (Instr.typeAssert (.iface 124 u) 55 48 true).run Tryz.prog w = .ok (.tuple #[.nilIface, .bool false]) w := run_ifc (b := false) (by kernel_rfl) (by kernel_rfl) w
theorem in_Decl_ArrayTypeP (u : Value) (w : World) : (Instr.typeAssert (.iface 137 u) 55 48 true).run Tryz.prog w = .ok (.tuple #[.nilIface, .bool false]) w := run_ifc (b := false) (by kernel_rfl) (by kernel_rfl) w
theorem in_Decl_MapTypeP (u : Value) (w : World) : (Instr.typeAssert (.iface 148 u) 55 48 true).run Tryz.prog w = .ok (.tuple #[.nilIface, .bool false]) w := run_ifc (b := false) (by kernel_rfl) (by kernel_rfl) w
theorem in_Decl_ChanTypeP (u : Value) (w : World) : (Instr.typeAssert (.iface 151 u) 55 48 true).run Tryz.prog w = .ok (.tuple #[.nilIface, .bool false]) w := run_ifc (b := false) (by kernel_rfl) (by kernel_rfl) w
theorem in_Decl_FuncTypeP (u : Value) (w : World) : (Instr.typeAssert (.iface 94 u) 55 48 true).run Tryz.prog w = .ok (.tuple #[.nilIface, .bool false]) w := run_ifc (b := false) (by kernel_rfl) (by kernel_rfl) w
theorem in_Decl_StructTypeP (u : Value) (w : World) : (Instr.typeAssert (.iface 140 u) 55 48 true).run Tryz.prog w = .ok (.tuple #[.nilIface, .bool false]) w := run_ifc (b := false) (by kernel_rfl) (by kernel_rfl) w
theorem in_Decl_InterfaceTypeP (u : Value) (w : World) : (Instr.typeAssert (.iface 145 u) 55 48 true).run Tryz.prog w = .ok (.tuple #[.nilIface, .bool false]) w := run_ifc (b := false) (by kernel_rfl) (by kernel_rfl) w
theorem in_Decl_ImportSpecP (u : Value) (w : World) : (Instr.typeAssert (.iface 217 u) 55 48 true).run Tryz.prog w = .ok (.tuple #[.nilIface, .bool false]) w := run_ifc (b := false) (by kernel_rfl) (by kernel_rfl) w
theorem in_Decl_ValueSpecP (u : Value) (w : World) : (Instr.typeAssert (.iface 220 u) 55 48 true).run Tryz.prog w = .ok (.tuple #[.nilIface, .bool false]) w := run_ifc (b := false) (by kernel_rfl) (by kernel_rfl) w
theorem in_Decl_TypeSpecP (u : Value) (w : World) : (Instr.typeAssert (.iface 223 u) 55 48 true).run Tryz.prog w = .ok (.tuple #[.nilIface, .bool false]) w := run_ifc (b := false) (by kernel_rfl) (by kernel_rfl) w
theorem in_Decl_GenDeclP (u : Value) (w : World) : (Instr.typeAssert (.iface 227 u) 55 48 true).run Tryz.prog w = .ok (.tuple #[.iface 227 u, .bool true]) w := run_ifc (b := true) (by kernel_rfl) (by kernel_rfl) w
theorem in_Decl_FuncDeclP (u : Value) (w : World) : (Instr.typeAssert (.iface 234 u) 55 48 true).run Tryz.prog w = .ok (.tuple #[.iface 234 u, .bool true]) w := run_ifc (b := true) (by kernel_rfl) (by kernel_rfl) w
theorem in_Decl_FieldListP (u : Value) (w : World) : (Instr.typeAssert (.iface 83 u) 55 48 true).run Tryz.prog w = .ok (.tuple #[.nilIface, .bool false]) w := run_ifc (b := false) (by kernel_rfl) (by kernel_rfl) w
theorem in_Decl_FieldP (u : Value) (w : World) : (Instr.typeAssert (.iface 74 u) 55 48 true).run Tryz.prog w = .ok (.tuple #[.nilIface, .bool false]) w := run_ifc (b := false) (by kernel_rfl) (by kernel_rfl) w
theorem in_Decl_BlockStmtP (u : Value) (w : World) : (Instr.typeAssert (.iface 95 u) 55 48 true).run Tryz.prog w = .ok (.tuple #[.nilIface, .bool false]) w := run_ifc (b := false) (by kernel_rfl) (by kernel_rfl) w
theorem in_Decl_nil (w : World) : (Instr.typeAssert .nilIface 55 48 true).run Tryz.prog w = .ok (.tuple #[.nilIface, .bool false]) w := run_ifc_nil (by kernel_rfl) w
theorem in_Spec_IdentP (u : Value) (w : World) : (Instr.typeAssert (.iface 82 u) 55 233 true).run Tryz.prog w = .ok (.tuple #[.nilIface, .bool false]) w := run_ifc (b := false) (by kernel_rfl) (by kernel_rfl) w
theorem in_Spec_BasicLitP (u : Value) (w : World) : (Instr.typeAssert (.iface 78 u) 55 233 true).run Tryz.prog w = .ok (.tuple #[.nilIface, .bool false]) w := run_ifc (b := false) (by kernel_rfl) (by kernel_rfl) w
theorem in_Spec_SelectorExprP (u : Value) (w : World) : (Instr.typeAssert (.iface 106 u) 55 233 true).run Tryz.prog w = .ok (.tuple #[.nilIface, .bool false]) w := run_ifc (b := false) (by kernel_rfl) (by kernel_rfl) w
theorem in_Spec_StarExprP (u : Value) (w : World) : (Instr.typeAssert (.iface 124 u) 55 233 true).run Tryz.prog w = .ok (.tuple #[.nilIface, .bool false]) w := run_ifc (b := false) (by kernel_rfl) (by kernel_rfl) w
theorem in_Spec_ArrayTypeP (u : Value) (w : World) : (Instr.typeAssert (.iface 137 u) 55 233 true).run Tryz.prog w = .ok (.tuple #[.nilIface, .bool false]) w := run_ifc (b := false) (by kernel_rfl) (by kernel_rfl) w
theorem in_Spec_MapTypeP (u : Value) (w : World) : (Instr.typeAssert (.iface 148 u) 55 233 true).run Tryz.prog w = .ok (.tuple #[.nilIface, .bool false]) w := run_ifc (b := false) (by kernel_rfl) (by kernel_rfl) w
theorem in_Spec_ChanTypeP (u : Value) (w : World) : (Instr.typeAssert (.iface 151 u) 55 233 true).run Tryz.prog w = .ok (.tuple #[.nilIface, .bool false]) w := run_ifc (b := false) (by kernel_rfl) (by kernel_rfl) w
theorem in_Spec_FuncTypeP (u : Value) (w : World) : (Instr.typeAssert (.iface 94 u) 55 233 true).run Tryz.prog w = .ok (.tuple #[.nilIface, .bool false]) w := run_ifc (b := false) (by kernel_rfl) (by kernel_rfl) w
theorem in_Spec_StructTypeP (u : Value) (w : World) : (Instr.typeAssert (.iface 140 u) 55 233 true).run Tryz.prog w = .ok (.tuple #[.nilIface, .bool false]) w := run_ifc (b := false) (by kernel_rfl) (by kernel_rfl) w
theorem in_Spec_InterfaceTypeP (u : Value) (w : World) : (Instr.typeAssert (.iface 145 u) 55 233 true).run Tryz.prog w = .ok (.tuple #[.nilIface, .bool false]) w := run_ifc (b := false) (by kernel_rfl) (by kernel_rfl) w
theorem in_Spec_ImportSpecP (u : Value) (w : World) : (Instr.typeAssert (.iface 217 u) 55 233 true).run Tryz.prog w = .ok (.tuple #[.iface 217 u, .bool true]) w := run_ifc (b := true) (by kernel_rfl) (by kernel_rfl) w
theorem in_Spec_ValueSpecP (u : Value) (w : World) : (Instr.typeAssert (.iface 220 u) 55 233 true).run Tryz.prog w = .ok (.tuple #[.iface 220 u, .bool true]) w := run_ifc (b := true) (by kernel_rfl) (by kernel_rfl) w
theorem in_Spec_TypeSpecP (u : Value) (w : World) : (Instr.typeAssert (.iface 223 u) 55 233 true).run Tryz.prog w = .ok (.tuple #[.iface 223 u, .bool true]) w := run_ifc (b := true) (by kernel_rfl) (by kernel_rfl) w
theorem in_Spec_GenDeclP (u : Value) (w : World) : (Instr.typeAssert (.iface 227 u) 55 233 true).run Tryz.prog w = .ok (.tuple #[.nilIface, .bool false]) w := run_ifc (b := false) (by kernel_rfl) (by kernel_rfl) w
theorem in_Spec_FuncDeclP (u : Value) (w : World) : (Instr.typeAssert (.iface 234 u) 55 233 true).run Tryz.prog w = .ok (.tuple #[.nilIface, .bool false]) w := run_ifc (b := false) (by kernel_rfl) (by kernel_rfl) w
theorem in_Spec_FieldListP (u : Value) (w : World) : (Instr.typeAssert (.iface 83 u) 55 233 true).run Tryz.prog w = .ok (.tuple #[.nilIface, .bool false]) w := run_ifc (b := false) (by kernel_rfl) (by kernel_rfl) w
theorem in_Spec_FieldP (u : Value) (w : World) : (Instr.typeAssert (.iface 74 u) 55 233 true).run Tryz.prog w = .ok (.tuple #[.nilIface, .bool false]) w := run_ifc (b := false) (by kernel_rfl) (by kernel_rfl) w
theorem in_Spec_BlockStmtP (u : Value) (w : World) : (Instr.typeAssert (.iface 95 u) 55 233 true).run Tryz.prog w = .ok (.tuple #[.nilIface, .bool false]) w := run_ifc (b := false) (by kernel_rfl) (by kernel_rfl) w
theorem in_Spec_nil (w : World) : (Instr.typeAssert .nilIface 55 233 true).run Tryz.prog w = .ok (.tuple #[.nilIface, .bool false]) w := run_ifc_nil (by kernel_rfl) w
theorem in_Expr_IdentP (u : Value) (w : World) : (Instr.typeAssert (.iface 82 u) 55 77 true).run Tryz.prog w = .ok (.tuple #[.iface 82 u, .bool true]) w := run_ifc (b := true) (by kernel_rfl) (by kernel_rfl) w
theorem in_Expr_BasicLitP (u : Value) (w : World) : (Instr.typeAssert (.iface 78 u) 55 77 true).run Tryz.prog w = .ok (.tuple #[.iface 78 u, .bool true]) w := run_ifc (b := true) (by kernel_rfl) (by kernel_rfl) w
theorem in_Expr_SelectorExprP (u : Value) (w : World) : (Instr.typeAssert (.iface 106 u) 55 77 true).run Tryz.prog w = .ok (.tuple #[.iface 106 u, .bool true]) w := run_ifc (b := true) (by kernel_rfl) (by kernel_rfl) w
theorem in_Expr_StarExprP (u : Value) (w : World) : (Instr.typeAssert (.iface 124 u) 55 77 true).run Tryz.prog w = .ok (.tuple #[.iface 124 u, .bool true]) w := run_ifc (b := true) (by kernel_rfl) (by kernel_rfl) w
theorem in_Expr_ArrayTypeP (u : Value) (w : World) : (Instr.typeAssert (.iface 137 u) 55 77 true).run Tryz.prog w = .ok (.tuple #[.iface 137 u, .bool true]) w := run_ifc (b := true) (by kernel_rfl) (by kernel_rfl) w
theorem in_Expr_MapTypeP (u : Value) (w : World) : (Instr.typeAssert (.iface 148 u) 55 77 true).run Tryz.prog w = .ok (.tuple #[.iface 148 u, .bool true]) w := run_ifc (b := true) (by kernel_rfl) (by kernel_rfl) w
theorem in_Expr_ChanTypeP (u : Value) (w : World) : (Instr.typeAssert (.iface 151 u) 55 77 true).run Tryz.prog w = .ok (.tuple #[.iface 151 u, .bool true]) w := run_ifc (b := true) (by kernel_rfl) (by kernel_rfl) w
theorem in_Expr_FuncTypeP (u : Value) (w : World) : (Instr.typeAssert (.iface 94 u) 55 77 true).run Tryz.prog w = .ok (.tuple #[.iface 94 u, .bool true]) w := run_ifc (b := true) (by kernel_rfl) (by kernel_rfl) w
theorem in_Expr_StructTypeP (u : Value) (w : World) : (Instr.typeAssert (.iface 140 u) 55 77 true).run Tryz.prog w = .ok (.tuple #[.iface 140 u, .bool true]) w := run_ifc (b := true) (by kernel_rfl) (by kernel_rfl) w
theorem in_Expr_InterfaceTypeP (u : Value) (w : World) : (Instr.typeAssert (.iface 145 u) 55 77 true).run Tryz.prog w = .ok (.tuple #[.iface 145 u, .bool true]) w := run_ifc (b := true) (by kernel_rfl) (by kernel_rfl) w
theorem in_Expr_ImportSpecP (u : Value) (w : World) : (Instr.typeAssert (.iface 217 u) 55 77 true).run Tryz.prog w = .ok (.tuple #[.nilIface, .bool false]) w := run_ifc (b := false) (by kernel_rfl) (by kernel_rfl) w
theorem in_Expr_ValueSpecP (u : Value) (w : World) : (Instr.typeAssert (.iface 220 u) 55 77 true).run Tryz.prog w = .ok (.tuple #[.nilIface, .bool false]) w := run_ifc (b := false) (by kernel_rfl) (by kernel_rfl) w
theorem in_Expr_TypeSpecP (u : Value) (w : World) : (Instr.typeAssert (.iface 223 u) 55 77 true).run Tryz.prog w = .ok (.tuple #[.nilIface, .bool false]) w := run_ifc (b := false) (by kernel_rfl) (by kernel_rfl) w
theorem in_Expr_GenDeclP (u : Value) (w : World) : (Instr.typeAssert (.iface 227 u) 55 77 true).run Tryz.prog w = .ok (.tuple #[.nilIface, .bool false]) w := run_ifc (b := false) (by kernel_rfl) (by kernel_rfl) w
theorem in_Expr_FuncDeclP (u : Value) (w : World) : (Instr.typeAssert (.iface 234 u) 55 77 true).run Tryz.prog w = .ok (.tuple #[.nilIface, .bool false]) w := run_ifc (b := false) (by kernel_rfl) (by kernel_rfl) w
theorem in_Expr_FieldListP (u : Value) (w : World) : (Instr.typeAssert (.iface 83 u) 55 77 true).run Tryz.prog w = .ok (.tuple #[.nilIface, .bool false]) w := run_ifc (b := false) (by kernel_rfl) (by kernel_rfl) w
theorem in_Expr_FieldP (u : Value) (w : World) : (Instr.typeAssert (.iface 74 u) 55 77 true).run Tryz.prog w = .ok (.tuple #[.nilIface, .bool false]) w := run_ifc (b := false) (by kernel_rfl) (by kernel_rfl) w
theorem in_Expr_BlockStmtP (u : Value) (w : World) : (Instr.typeAssert (.iface 95 u) 55 77 true).run Tryz.prog w = .ok (.tuple #[.nilIface, .bool false]) w := run_ifc (b := false) (by kernel_rfl) (by kernel_rfl) w
theorem in_Expr_nil (w : World) : (Instr.typeAssert .nilIface 55 77 true).run Tryz.prog w = .ok (.tuple #[.nilIface, .bool false]) w := run_ifc_nil (by kernel_rfl) w
theorem nil_FieldListP (w : World) : (Instr.typeAssert .nilIface 55 83 true).run Tryz.prog w = .ok (.tuple #[.pointer none, .bool false]) w := run_ptr_nil (by kernel_rfl) w
theorem nil_FieldP (w : World) : (Instr.typeAssert .nilIface 55 74 true).run Tryz.prog w = .ok (.tuple #[.pointer none, .bool false]) w := run_ptr_nil (by kernel_rfl) w
theorem nil_BlockStmtP (w : World) : (Instr.typeAssert .nilIface 55 95 true).run Tryz.prog w = .ok (.tuple #[.pointer none, .bool false]) w := run_ptr_nil (by kernel_rfl) w

/-- A node as a function returns it, of a kind. -/
def NodeOf (k : ByteArray) (e : Ending) : Prop := ∃ (t : ByteArray) (a : Option Addr) (l c : Nat), e = .returned (.agg #[.string k, .string t, .slice a l c])
def Sees (C : Nat → Nat → Value → Prop) (w : World) : Prop := ∀ b o u, C b o u → w.cell? ⟨b, o, none⟩ = some u
theorem Sees.later {C : Nat → Nat → Value → Prop} {w w' : World} (h : Sees C w) (hb : Below w.heap.size w w') : Sees C w' := by
  intro b o u hc
  have h1 := h b o u hc
  have hlt : b < w.heap.size := by
    unfold World.cell? at h1
    cases hh : w.heap[b]? with
    | none => simp [hh] at h1
    | some x => exact (Array.getElem?_eq_some_iff.1 hh).1
  exact (hb.cell (p := ⟨b, o, none⟩) hlt).trans h1
theorem Sees.lt {C : Nat → Nat → Value → Prop} {w : World} (h : Sees C w) {b o : Nat} {u : Value} (hc : C b o u) : b < w.heap.size := by
  have h1 := h b o u hc
  unfold World.cell? at h1
  cases hh : w.heap[b]? with
  | none => simp [hh] at h1
  | some x => exact (Array.getElem?_eq_some_iff.1 hh).1
theorem valid_any (k : Int) (w : World) : Calls Tryz.prog 77 #[.int .i64 k] w fun e w' => e = .returned (.bool (k != 0)) ∧ w' = w := by
  go_enter Tryz.func77, Tryz.ntmps77
  go_wp2_with fail
  go_ret
  exact ⟨rfl, rfl⟩
theorem kids_id (v : Value) (w : World) : Calls Tryz.prog 78 #[v] w fun e w' => e = .returned v ∧ w' = w := by
  go_enter Tryz.func78, Tryz.ntmps78
  go_wp2_with fail
  go_ret
  exact ⟨rfl, rfl⟩
theorem direction_any (d : Nat) (hd : d = 1 ∨ d = 2 ∨ d = 3) (w : World) : Calls Tryz.prog 83 #[.int .i64 d] w fun e w' => (∃ t, e = .returned (.string t)) ∧ w' = w := by
  rcases hd with rfl | rfl | rfl
  all_goals
    go_enter Tryz.func83, Tryz.ntmps83
    go_wp2_with fail
    go_ret
    exact ⟨⟨_, rfl⟩, rfl⟩
theorem none_node (w : World) : Calls Tryz.prog 71 #[] w fun e w' => e = .returned (.agg #[.string ⟨#[110, 111, 110, 101]⟩, .string ⟨#[]⟩, .slice none 0 0]) ∧ Below w.heap.size w w' := by
  go_enter Tryz.func71, Tryz.ntmps71
  go_wp2_with fail
  refine bodyPost_ret (v := .agg #[.string ⟨#[110, 111, 110, 101]⟩, .string ⟨#[]⟩, .slice none 0 0]) (by simp [results, Tryz.f71, go_sem]) rfl ?_
  exact ⟨rfl, (Below.refl _ _).alloc (Nat.le_refl _) _⟩
end Go.Proofs.YtpifflakohlglaaGreatFmt

/- What is proved here: expr, turning a type or an expression into a node again, case by case: it answers with a node of its kind, in new memory alone. -/
namespace Go.Proofs.YtpifflakohlglaaGreatFmt
open Go.RowKit Go.Shelf
set_option linter.unusedVariables false
set_option linter.unusedSimpArgs false
attribute [local go_sem] as_IdentP as_BasicLitP as_SelectorExprP as_StarExprP as_ArrayTypeP as_MapTypeP as_ChanTypeP as_FuncTypeP as_StructTypeP as_InterfaceTypeP
attribute [local go_sem ↓] Go.wp_at_zero Go.wp_at_succ
theorem dsz (w : World) : w.drew.heap.size = w.heap.size := rfl
def AnyNode (e : Ending) : Prop := ∃ k, NodeOf k e
def ExOK (C : Nat → Nat → Value → Prop) (v : Value) : Prop := ∀ w, Sees C w → Calls Tryz.prog 61 #[v] w fun e w' => AnyNode e ∧ Below w.heap.size w w'
def FsOK (C : Nat → Nat → Value → Prop) (p : Value) : Prop := ∀ w, Sees C w → Calls Tryz.prog 79 #[p] w fun e w' => AnyNode e ∧ Below w.heap.size w w'
theorem ret_node {fn : Func} {k : Nat} (h : fn.results = #[.cell k 24]) (tmps : Array Value) {w : World} {X : Nat} {x y z : Value} (ht : tmps.getD k undef = Pt X) (hB : Blk w X 24 #[x, y, z]) : (results fn tmps).run Tryz.prog w = .ok (.agg #[x, y, z]) w := by
  have h0 := hB.cell 0 _ rfl
  have h1 := hB.cell 1 _ rfl
  have h2 := hB.cell 2 _ rfl
  simp at h0 h1 h2
  rw [Array.getD_eq_getD_getElem?] at ht
  simp [results, h, ht, go_sem, h0, h1, h2]
theorem Blk.node3 {w : World} {X T : Nat} {a b c x y z : Value} (h : Blk w X T #[x, y, z]) : Blk (((w.setCell ⟨X, 0, none⟩ a).setCell ⟨X, 1, none⟩ b).setCell ⟨X, 2, none⟩ c) X T #[a, b, c] := by
  have := ((h.set 0 a).set 1 b).set 2 c
  simpa using this
set_option maxHeartbeats 4000000 in
set_option maxRecDepth 100000 in
theorem x_select {C : Nat → Nat → Value → Prop} (b s : Nat) (vx : Value) (tt : ByteArray) (hx0 : ExOK C vx) (w : World) (hS : Sees C w) (c0 : C b 0 vx) (c1 : C b 1 (Pt s)) (c2 : C s 1 (Value.string tt)) :
    Calls Tryz.prog 61 #[Nd 106 b] w fun e w' => NodeOf ⟨#[115, 101, 108, 101, 99, 116]⟩ e ∧ Below w.heap.size w w' := by
  have h0 := hS _ _ _ c0
  have ltb := hS.lt c0
  have n0 := World.new_ne w ⟨b, 0, none⟩ h0
  have h1 := hS _ _ _ c1
  have n1 := World.new_ne w ⟨b, 1, none⟩ h1
  have h2 := hS _ _ _ c2
  have lts := hS.lt c2
  have n2 := World.new_ne w ⟨s, 1, none⟩ h2
  have HS := Lib.hid hS
  have BX : Blk (w.alloc (Obj.cells #[Value.string ⟨#[]⟩, Value.string ⟨#[]⟩, Value.slice none 0 0] 24)) w.heap.size 24 #[Value.string ⟨#[]⟩, Value.string ⟨#[]⟩, Value.slice none 0 0] := Blk.new w _ _
  clear hS c0 c1 c2
  go_enter Tryz.func61, Tryz.ntmps61
  go_wp2_with fail
  go_region_held3 (fun w' => w'.cell? ⟨b, 0, none⟩ = some (vx) ∧ w'.cell? ⟨b, 1, none⟩ = some (Pt s) ∧ w'.cell? ⟨s, 1, none⟩ = some (Value.string tt)) (go_keep)
    (first | (go_at_call 61; refine (hx0 _ (HS.out.later (by repeat (first | (with_reducible exact hbW) | (with_reducible exact Below.refl _ _) | (with_reducible refine Below.alloc ?_ (by first | (simp only [World.size_setCell, World.size_alloc, dsz]; omega) | omega) _) | (with_reducible refine Below.setCell ?_ (by first | (simp only [World.size_setCell, World.size_alloc, dsz]; omega) | omega) _) | (with_reducible refine Below.drew ?_))))).mono ?_; rintro e w2 ⟨⟨kk, t2, a2, l2, c2, rfl⟩, hb2⟩; have hbW := Below.trans (show Below w.heap.size w _ from (by repeat (first | (with_reducible exact hbW) | (with_reducible exact Below.refl _ _) | (with_reducible refine Below.alloc ?_ (by first | (simp only [World.size_setCell, World.size_alloc, dsz]; omega) | omega) _) | (with_reducible refine Below.setCell ?_ (by first | (simp only [World.size_setCell, World.size_alloc, dsz]; omega) | omega) _) | (with_reducible refine Below.drew ?_)))) (hb2.mono (by first | (simp only [World.size_setCell, World.size_alloc, dsz]; omega) | omega)); have hsz := hbW.size; have BX := BX.later (B := w.heap.size + 1) (Below.trans (by repeat (first | (with_reducible exact Below.refl _ _) | (with_reducible refine Below.alloc ?_ (by first | (simp only [World.size_setCell, World.size_alloc, dsz]; omega) | omega) _) | (with_reducible refine Below.drew ?_))) (hb2.mono (by first | (simp only [World.size_setCell, World.size_alloc, dsz]; omega) | omega))) (by omega); have bxl := BX.lt; have f0 := BX.frozen 0; have f1 := BX.frozen 1; have f2 := BX.frozen 2; have x0 := BX.cell 0 _ rfl; have x1 := BX.cell 1 _ rfl; have x2 := BX.cell 2 _ rfl; have k0 := (hbW.cell (p := ⟨b, 0, none⟩) ltb).trans h0; have k1 := (hbW.cell (p := ⟨b, 1, none⟩) ltb).trans h1; have k2 := (hbW.cell (p := ⟨s, 1, none⟩) lts).trans h2; clear hb2) | (go_at_call 78; refine (kids_id _ _).mono ?_; rintro e w3 ⟨rfl, rfl⟩))
  all_goals go_wp2_with fail
  refine bodyPost_ret (ret_node rfl _ rfl (by first | (with_reducible exact Blk.node3 BX) | (with_reducible exact Blk.new _ _ _) | (with_reducible exact (Blk.node3 BX).later ((Below.refl _ _).alloc (Nat.le_refl _) _) (by first | (simp only [World.size_setCell, World.size_alloc, dsz]; omega) | omega)))) rfl ⟨⟨_, _, _, _, rfl⟩, ?_⟩
  exact (by repeat (first | (with_reducible exact hbW) | (with_reducible exact Below.refl _ _) | (with_reducible refine Below.alloc ?_ (by first | (simp only [World.size_setCell, World.size_alloc, dsz]; omega) | omega) _) | (with_reducible refine Below.setCell ?_ (by first | (simp only [World.size_setCell, World.size_alloc, dsz]; omega) | omega) _) | (with_reducible refine Below.drew ?_)))
set_option maxHeartbeats 4000000 in
set_option maxRecDepth 100000 in
theorem x_star {C : Nat → Nat → Value → Prop} (b : Nat) (vx : Value) (hx0 : ExOK C vx) (w : World) (hS : Sees C w) (c0 : C b 1 vx) :
    Calls Tryz.prog 61 #[Nd 124 b] w fun e w' => NodeOf ⟨#[115, 116, 97, 114]⟩ e ∧ Below w.heap.size w w' := by
  have h0 := hS _ _ _ c0
  have ltb := hS.lt c0
  have n0 := World.new_ne w ⟨b, 1, none⟩ h0
  have HS := Lib.hid hS
  have BX : Blk (w.alloc (Obj.cells #[Value.string ⟨#[]⟩, Value.string ⟨#[]⟩, Value.slice none 0 0] 24)) w.heap.size 24 #[Value.string ⟨#[]⟩, Value.string ⟨#[]⟩, Value.slice none 0 0] := Blk.new w _ _
  clear hS c0
  go_enter Tryz.func61, Tryz.ntmps61
  go_wp2_with (first | (go_at_call 61; refine (hx0 _ (HS.out.later (by repeat (first | (with_reducible exact hbW) | (with_reducible exact Below.refl _ _) | (with_reducible refine Below.alloc ?_ (by first | (simp only [World.size_setCell, World.size_alloc, dsz]; omega) | omega) _) | (with_reducible refine Below.setCell ?_ (by first | (simp only [World.size_setCell, World.size_alloc, dsz]; omega) | omega) _) | (with_reducible refine Below.drew ?_))))).mono ?_; rintro e w2 ⟨⟨kk, t2, a2, l2, c2, rfl⟩, hb2⟩; have hbW := Below.trans (show Below w.heap.size w _ from (by repeat (first | (with_reducible exact hbW) | (with_reducible exact Below.refl _ _) | (with_reducible refine Below.alloc ?_ (by first | (simp only [World.size_setCell, World.size_alloc, dsz]; omega) | omega) _) | (with_reducible refine Below.setCell ?_ (by first | (simp only [World.size_setCell, World.size_alloc, dsz]; omega) | omega) _) | (with_reducible refine Below.drew ?_)))) (hb2.mono (by first | (simp only [World.size_setCell, World.size_alloc, dsz]; omega) | omega)); have hsz := hbW.size; have BX := BX.later (B := w.heap.size + 1) (Below.trans (by repeat (first | (with_reducible exact Below.refl _ _) | (with_reducible refine Below.alloc ?_ (by first | (simp only [World.size_setCell, World.size_alloc, dsz]; omega) | omega) _) | (with_reducible refine Below.drew ?_))) (hb2.mono (by first | (simp only [World.size_setCell, World.size_alloc, dsz]; omega) | omega))) (by omega); have bxl := BX.lt; have f0 := BX.frozen 0; have f1 := BX.frozen 1; have f2 := BX.frozen 2; have x0 := BX.cell 0 _ rfl; have x1 := BX.cell 1 _ rfl; have x2 := BX.cell 2 _ rfl; have k0 := (hbW.cell (p := ⟨b, 1, none⟩) ltb).trans h0; clear hb2) | (go_at_call 78; refine (kids_id _ _).mono ?_; rintro e w3 ⟨rfl, rfl⟩))
  refine bodyPost_ret (ret_node rfl _ rfl (by first | (with_reducible exact Blk.node3 BX) | (with_reducible exact Blk.new _ _ _) | (with_reducible exact (Blk.node3 BX).later ((Below.refl _ _).alloc (Nat.le_refl _) _) (by first | (simp only [World.size_setCell, World.size_alloc, dsz]; omega) | omega)))) rfl ⟨⟨_, _, _, _, rfl⟩, ?_⟩
  exact (by repeat (first | (with_reducible exact hbW) | (with_reducible exact Below.refl _ _) | (with_reducible refine Below.alloc ?_ (by first | (simp only [World.size_setCell, World.size_alloc, dsz]; omega) | omega) _) | (with_reducible refine Below.setCell ?_ (by first | (simp only [World.size_setCell, World.size_alloc, dsz]; omega) | omega) _) | (with_reducible refine Below.drew ?_)))
set_option maxHeartbeats 4000000 in
set_option maxRecDepth 100000 in
theorem x_array {C : Nat → Nat → Value → Prop} (b : Nat) (vx vy : Value) (hx0 : ∀ v, v = vx ∨ v = vy → ExOK C v) (w : World) (hS : Sees C w) (c0 : C b 1 vx) (c1 : C b 2 vy) :
    Calls Tryz.prog 61 #[Nd 137 b] w fun e w' => NodeOf ⟨#[97, 114, 114, 97, 121]⟩ e ∧ Below w.heap.size w w' := by
  have h0 := hS _ _ _ c0
  have ltb := hS.lt c0
  have n0 := World.new_ne w ⟨b, 1, none⟩ h0
  have h1 := hS _ _ _ c1
  have n1 := World.new_ne w ⟨b, 2, none⟩ h1
  have HS := Lib.hid hS
  have BX : Blk (w.alloc (Obj.cells #[Value.string ⟨#[]⟩, Value.string ⟨#[]⟩, Value.slice none 0 0] 24)) w.heap.size 24 #[Value.string ⟨#[]⟩, Value.string ⟨#[]⟩, Value.slice none 0 0] := Blk.new w _ _
  clear hS c0 c1
  go_enter Tryz.func61, Tryz.ntmps61
  go_wp2_with fail
  go_region_held3 (fun w' => w'.cell? ⟨b, 1, none⟩ = some (vx) ∧ w'.cell? ⟨b, 2, none⟩ = some (vy)) (go_keep)
    (first | (go_at_call 61; refine (hx0 _ (by first | exact .inl rfl | exact .inr rfl) _ (HS.out.later (by repeat (first | (with_reducible exact hbW) | (with_reducible exact Below.refl _ _) | (with_reducible refine Below.alloc ?_ (by first | (simp only [World.size_setCell, World.size_alloc, dsz]; omega) | omega) _) | (with_reducible refine Below.setCell ?_ (by first | (simp only [World.size_setCell, World.size_alloc, dsz]; omega) | omega) _) | (with_reducible refine Below.drew ?_))))).mono ?_; rintro e w2 ⟨⟨kk, t2, a2, l2, c2, rfl⟩, hb2⟩; have hbW := Below.trans (show Below w.heap.size w _ from (by repeat (first | (with_reducible exact hbW) | (with_reducible exact Below.refl _ _) | (with_reducible refine Below.alloc ?_ (by first | (simp only [World.size_setCell, World.size_alloc, dsz]; omega) | omega) _) | (with_reducible refine Below.setCell ?_ (by first | (simp only [World.size_setCell, World.size_alloc, dsz]; omega) | omega) _) | (with_reducible refine Below.drew ?_)))) (hb2.mono (by first | (simp only [World.size_setCell, World.size_alloc, dsz]; omega) | omega)); have hsz := hbW.size; have BX := BX.later (B := w.heap.size + 1) (Below.trans (by repeat (first | (with_reducible exact Below.refl _ _) | (with_reducible refine Below.alloc ?_ (by first | (simp only [World.size_setCell, World.size_alloc, dsz]; omega) | omega) _) | (with_reducible refine Below.drew ?_))) (hb2.mono (by first | (simp only [World.size_setCell, World.size_alloc, dsz]; omega) | omega))) (by omega); have bxl := BX.lt; have f0 := BX.frozen 0; have f1 := BX.frozen 1; have f2 := BX.frozen 2; have x0 := BX.cell 0 _ rfl; have x1 := BX.cell 1 _ rfl; have x2 := BX.cell 2 _ rfl; have k0 := (hbW.cell (p := ⟨b, 1, none⟩) ltb).trans h0; have k1 := (hbW.cell (p := ⟨b, 2, none⟩) ltb).trans h1; clear hb2) | (go_at_call 78; refine (kids_id _ _).mono ?_; rintro e w3 ⟨rfl, rfl⟩))
  all_goals go_wp2_with fail
  refine bodyPost_ret (ret_node rfl _ rfl (by first | (with_reducible exact Blk.node3 BX) | (with_reducible exact Blk.new _ _ _) | (with_reducible exact (Blk.node3 BX).later ((Below.refl _ _).alloc (Nat.le_refl _) _) (by first | (simp only [World.size_setCell, World.size_alloc, dsz]; omega) | omega)))) rfl ⟨⟨_, _, _, _, rfl⟩, ?_⟩
  exact (by repeat (first | (with_reducible exact hbW) | (with_reducible exact Below.refl _ _) | (with_reducible refine Below.alloc ?_ (by first | (simp only [World.size_setCell, World.size_alloc, dsz]; omega) | omega) _) | (with_reducible refine Below.setCell ?_ (by first | (simp only [World.size_setCell, World.size_alloc, dsz]; omega) | omega) _) | (with_reducible refine Below.drew ?_)))
set_option maxHeartbeats 4000000 in
set_option maxRecDepth 100000 in
theorem x_map {C : Nat → Nat → Value → Prop} (b : Nat) (vx vy : Value) (hx0 : ∀ v, v = vx ∨ v = vy → ExOK C v) (w : World) (hS : Sees C w) (c0 : C b 1 vx) (c1 : C b 2 vy) :
    Calls Tryz.prog 61 #[Nd 148 b] w fun e w' => NodeOf ⟨#[109, 97, 112]⟩ e ∧ Below w.heap.size w w' := by
  have h0 := hS _ _ _ c0
  have ltb := hS.lt c0
  have n0 := World.new_ne w ⟨b, 1, none⟩ h0
  have h1 := hS _ _ _ c1
  have n1 := World.new_ne w ⟨b, 2, none⟩ h1
  have HS := Lib.hid hS
  have BX : Blk (w.alloc (Obj.cells #[Value.string ⟨#[]⟩, Value.string ⟨#[]⟩, Value.slice none 0 0] 24)) w.heap.size 24 #[Value.string ⟨#[]⟩, Value.string ⟨#[]⟩, Value.slice none 0 0] := Blk.new w _ _
  clear hS c0 c1
  go_enter Tryz.func61, Tryz.ntmps61
  go_wp2_with fail
  go_region_held3 (fun w' => w'.cell? ⟨b, 1, none⟩ = some (vx) ∧ w'.cell? ⟨b, 2, none⟩ = some (vy)) (go_keep)
    (first | (go_at_call 61; refine (hx0 _ (by first | exact .inl rfl | exact .inr rfl) _ (HS.out.later (by repeat (first | (with_reducible exact hbW) | (with_reducible exact Below.refl _ _) | (with_reducible refine Below.alloc ?_ (by first | (simp only [World.size_setCell, World.size_alloc, dsz]; omega) | omega) _) | (with_reducible refine Below.setCell ?_ (by first | (simp only [World.size_setCell, World.size_alloc, dsz]; omega) | omega) _) | (with_reducible refine Below.drew ?_))))).mono ?_; rintro e w2 ⟨⟨kk, t2, a2, l2, c2, rfl⟩, hb2⟩; have hbW := Below.trans (show Below w.heap.size w _ from (by repeat (first | (with_reducible exact hbW) | (with_reducible exact Below.refl _ _) | (with_reducible refine Below.alloc ?_ (by first | (simp only [World.size_setCell, World.size_alloc, dsz]; omega) | omega) _) | (with_reducible refine Below.setCell ?_ (by first | (simp only [World.size_setCell, World.size_alloc, dsz]; omega) | omega) _) | (with_reducible refine Below.drew ?_)))) (hb2.mono (by first | (simp only [World.size_setCell, World.size_alloc, dsz]; omega) | omega)); have hsz := hbW.size; have BX := BX.later (B := w.heap.size + 1) (Below.trans (by repeat (first | (with_reducible exact Below.refl _ _) | (with_reducible refine Below.alloc ?_ (by first | (simp only [World.size_setCell, World.size_alloc, dsz]; omega) | omega) _) | (with_reducible refine Below.drew ?_))) (hb2.mono (by first | (simp only [World.size_setCell, World.size_alloc, dsz]; omega) | omega))) (by omega); have bxl := BX.lt; have f0 := BX.frozen 0; have f1 := BX.frozen 1; have f2 := BX.frozen 2; have x0 := BX.cell 0 _ rfl; have x1 := BX.cell 1 _ rfl; have x2 := BX.cell 2 _ rfl; have k0 := (hbW.cell (p := ⟨b, 1, none⟩) ltb).trans h0; have k1 := (hbW.cell (p := ⟨b, 2, none⟩) ltb).trans h1; clear hb2) | (go_at_call 78; refine (kids_id _ _).mono ?_; rintro e w3 ⟨rfl, rfl⟩))
  all_goals go_wp2_with fail
  refine bodyPost_ret (ret_node rfl _ rfl (by first | (with_reducible exact Blk.node3 BX) | (with_reducible exact Blk.new _ _ _) | (with_reducible exact (Blk.node3 BX).later ((Below.refl _ _).alloc (Nat.le_refl _) _) (by first | (simp only [World.size_setCell, World.size_alloc, dsz]; omega) | omega)))) rfl ⟨⟨_, _, _, _, rfl⟩, ?_⟩
  exact (by repeat (first | (with_reducible exact hbW) | (with_reducible exact Below.refl _ _) | (with_reducible refine Below.alloc ?_ (by first | (simp only [World.size_setCell, World.size_alloc, dsz]; omega) | omega) _) | (with_reducible refine Below.setCell ?_ (by first | (simp only [World.size_setCell, World.size_alloc, dsz]; omega) | omega) _) | (with_reducible refine Below.drew ?_)))
set_option maxHeartbeats 4000000 in
set_option maxRecDepth 100000 in
theorem x_struct {C : Nat → Nat → Value → Prop} (b px : Nat) (hx0 : FsOK C (Pt px)) (w : World) (hS : Sees C w) (c0 : C b 1 (Pt px)) :
    Calls Tryz.prog 61 #[Nd 140 b] w fun e w' => NodeOf ⟨#[115, 116, 114, 117, 99, 116]⟩ e ∧ Below w.heap.size w w' := by
  have h0 := hS _ _ _ c0
  have ltb := hS.lt c0
  have n0 := World.new_ne w ⟨b, 1, none⟩ h0
  have HS := Lib.hid hS
  have BX : Blk (w.alloc (Obj.cells #[Value.string ⟨#[]⟩, Value.string ⟨#[]⟩, Value.slice none 0 0] 24)) w.heap.size 24 #[Value.string ⟨#[]⟩, Value.string ⟨#[]⟩, Value.slice none 0 0] := Blk.new w _ _
  clear hS c0
  go_enter Tryz.func61, Tryz.ntmps61
  go_wp2_with (first | (go_at_call 79; refine (hx0 _ (HS.out.later (by repeat (first | (with_reducible exact hbW) | (with_reducible exact Below.refl _ _) | (with_reducible refine Below.alloc ?_ (by first | (simp only [World.size_setCell, World.size_alloc, dsz]; omega) | omega) _) | (with_reducible refine Below.setCell ?_ (by first | (simp only [World.size_setCell, World.size_alloc, dsz]; omega) | omega) _) | (with_reducible refine Below.drew ?_))))).mono ?_; rintro e w2 ⟨⟨kk, t2, a2, l2, c2, rfl⟩, hb2⟩; have hbW := Below.trans (show Below w.heap.size w _ from (by repeat (first | (with_reducible exact hbW) | (with_reducible exact Below.refl _ _) | (with_reducible refine Below.alloc ?_ (by first | (simp only [World.size_setCell, World.size_alloc, dsz]; omega) | omega) _) | (with_reducible refine Below.setCell ?_ (by first | (simp only [World.size_setCell, World.size_alloc, dsz]; omega) | omega) _) | (with_reducible refine Below.drew ?_)))) (hb2.mono (by first | (simp only [World.size_setCell, World.size_alloc, dsz]; omega) | omega)); have hsz := hbW.size; have BX := BX.later (B := w.heap.size + 1) (Below.trans (by repeat (first | (with_reducible exact Below.refl _ _) | (with_reducible refine Below.alloc ?_ (by first | (simp only [World.size_setCell, World.size_alloc, dsz]; omega) | omega) _) | (with_reducible refine Below.drew ?_))) (hb2.mono (by first | (simp only [World.size_setCell, World.size_alloc, dsz]; omega) | omega))) (by omega); have bxl := BX.lt; have f0 := BX.frozen 0; have f1 := BX.frozen 1; have f2 := BX.frozen 2; have x0 := BX.cell 0 _ rfl; have x1 := BX.cell 1 _ rfl; have x2 := BX.cell 2 _ rfl; have k0 := (hbW.cell (p := ⟨b, 1, none⟩) ltb).trans h0; clear hb2) | (go_at_call 78; refine (kids_id _ _).mono ?_; rintro e w3 ⟨rfl, rfl⟩))
  refine bodyPost_ret (ret_node rfl _ rfl (by first | (with_reducible exact Blk.node3 BX) | (with_reducible exact Blk.new _ _ _) | (with_reducible exact (Blk.node3 BX).later ((Below.refl _ _).alloc (Nat.le_refl _) _) (by first | (simp only [World.size_setCell, World.size_alloc, dsz]; omega) | omega)))) rfl ⟨⟨_, _, _, _, rfl⟩, ?_⟩
  exact (by repeat (first | (with_reducible exact hbW) | (with_reducible exact Below.refl _ _) | (with_reducible refine Below.alloc ?_ (by first | (simp only [World.size_setCell, World.size_alloc, dsz]; omega) | omega) _) | (with_reducible refine Below.setCell ?_ (by first | (simp only [World.size_setCell, World.size_alloc, dsz]; omega) | omega) _) | (with_reducible refine Below.drew ?_)))
set_option maxHeartbeats 4000000 in
set_option maxRecDepth 100000 in
theorem x_interface {C : Nat → Nat → Value → Prop} (b px : Nat) (hx0 : FsOK C (Pt px)) (w : World) (hS : Sees C w) (c0 : C b 1 (Pt px)) :
    Calls Tryz.prog 61 #[Nd 145 b] w fun e w' => NodeOf ⟨#[105, 110, 116, 101, 114, 102, 97, 99, 101]⟩ e ∧ Below w.heap.size w w' := by
  have h0 := hS _ _ _ c0
  have ltb := hS.lt c0
  have n0 := World.new_ne w ⟨b, 1, none⟩ h0
  have HS := Lib.hid hS
  have BX : Blk (w.alloc (Obj.cells #[Value.string ⟨#[]⟩, Value.string ⟨#[]⟩, Value.slice none 0 0] 24)) w.heap.size 24 #[Value.string ⟨#[]⟩, Value.string ⟨#[]⟩, Value.slice none 0 0] := Blk.new w _ _
  clear hS c0
  go_enter Tryz.func61, Tryz.ntmps61
  go_wp2_with (first | (go_at_call 79; refine (hx0 _ (HS.out.later (by repeat (first | (with_reducible exact hbW) | (with_reducible exact Below.refl _ _) | (with_reducible refine Below.alloc ?_ (by first | (simp only [World.size_setCell, World.size_alloc, dsz]; omega) | omega) _) | (with_reducible refine Below.setCell ?_ (by first | (simp only [World.size_setCell, World.size_alloc, dsz]; omega) | omega) _) | (with_reducible refine Below.drew ?_))))).mono ?_; rintro e w2 ⟨⟨kk, t2, a2, l2, c2, rfl⟩, hb2⟩; have hbW := Below.trans (show Below w.heap.size w _ from (by repeat (first | (with_reducible exact hbW) | (with_reducible exact Below.refl _ _) | (with_reducible refine Below.alloc ?_ (by first | (simp only [World.size_setCell, World.size_alloc, dsz]; omega) | omega) _) | (with_reducible refine Below.setCell ?_ (by first | (simp only [World.size_setCell, World.size_alloc, dsz]; omega) | omega) _) | (with_reducible refine Below.drew ?_)))) (hb2.mono (by first | (simp only [World.size_setCell, World.size_alloc, dsz]; omega) | omega)); have hsz := hbW.size; have BX := BX.later (B := w.heap.size + 1) (Below.trans (by repeat (first | (with_reducible exact Below.refl _ _) | (with_reducible refine Below.alloc ?_ (by first | (simp only [World.size_setCell, World.size_alloc, dsz]; omega) | omega) _) | (with_reducible refine Below.drew ?_))) (hb2.mono (by first | (simp only [World.size_setCell, World.size_alloc, dsz]; omega) | omega))) (by omega); have bxl := BX.lt; have f0 := BX.frozen 0; have f1 := BX.frozen 1; have f2 := BX.frozen 2; have x0 := BX.cell 0 _ rfl; have x1 := BX.cell 1 _ rfl; have x2 := BX.cell 2 _ rfl; have k0 := (hbW.cell (p := ⟨b, 1, none⟩) ltb).trans h0; clear hb2) | (go_at_call 78; refine (kids_id _ _).mono ?_; rintro e w3 ⟨rfl, rfl⟩))
  refine bodyPost_ret (ret_node rfl _ rfl (by first | (with_reducible exact Blk.node3 BX) | (with_reducible exact Blk.new _ _ _) | (with_reducible exact (Blk.node3 BX).later ((Below.refl _ _).alloc (Nat.le_refl _) _) (by first | (simp only [World.size_setCell, World.size_alloc, dsz]; omega) | omega)))) rfl ⟨⟨_, _, _, _, rfl⟩, ?_⟩
  exact (by repeat (first | (with_reducible exact hbW) | (with_reducible exact Below.refl _ _) | (with_reducible refine Below.alloc ?_ (by first | (simp only [World.size_setCell, World.size_alloc, dsz]; omega) | omega) _) | (with_reducible refine Below.setCell ?_ (by first | (simp only [World.size_setCell, World.size_alloc, dsz]; omega) | omega) _) | (with_reducible refine Below.drew ?_)))
set_option maxHeartbeats 4000000 in
set_option maxRecDepth 100000 in
theorem x_signature {C : Nat → Nat → Value → Prop} (b px : Nat) (py : Value) (hx0 : ∀ v, v = Pt px ∨ v = py → FsOK C v) (w : World) (hS : Sees C w) (c0 : C b 2 (Pt px)) (c1 : C b 3 py) :
    Calls Tryz.prog 61 #[Nd 94 b] w fun e w' => NodeOf ⟨#[115, 105, 103, 110, 97, 116, 117, 114, 101]⟩ e ∧ Below w.heap.size w w' := by
  have h0 := hS _ _ _ c0
  have ltb := hS.lt c0
  have n0 := World.new_ne w ⟨b, 2, none⟩ h0
  have h1 := hS _ _ _ c1
  have n1 := World.new_ne w ⟨b, 3, none⟩ h1
  have HS := Lib.hid hS
  have BX : Blk (w.alloc (Obj.cells #[Value.string ⟨#[]⟩, Value.string ⟨#[]⟩, Value.slice none 0 0] 24)) w.heap.size 24 #[Value.string ⟨#[]⟩, Value.string ⟨#[]⟩, Value.slice none 0 0] := Blk.new w _ _
  clear hS c0 c1
  go_enter Tryz.func61, Tryz.ntmps61
  go_wp2_with fail
  go_region_held3 (fun w' => w'.cell? ⟨b, 2, none⟩ = some (Pt px) ∧ w'.cell? ⟨b, 3, none⟩ = some (py)) (go_keep)
    (first | (go_at_call 79; refine (hx0 _ (by first | exact .inl rfl | exact .inr rfl) _ (HS.out.later (by repeat (first | (with_reducible exact hbW) | (with_reducible exact Below.refl _ _) | (with_reducible refine Below.alloc ?_ (by first | (simp only [World.size_setCell, World.size_alloc, dsz]; omega) | omega) _) | (with_reducible refine Below.setCell ?_ (by first | (simp only [World.size_setCell, World.size_alloc, dsz]; omega) | omega) _) | (with_reducible refine Below.drew ?_))))).mono ?_; rintro e w2 ⟨⟨kk, t2, a2, l2, c2, rfl⟩, hb2⟩; have hbW := Below.trans (show Below w.heap.size w _ from (by repeat (first | (with_reducible exact hbW) | (with_reducible exact Below.refl _ _) | (with_reducible refine Below.alloc ?_ (by first | (simp only [World.size_setCell, World.size_alloc, dsz]; omega) | omega) _) | (with_reducible refine Below.setCell ?_ (by first | (simp only [World.size_setCell, World.size_alloc, dsz]; omega) | omega) _) | (with_reducible refine Below.drew ?_)))) (hb2.mono (by first | (simp only [World.size_setCell, World.size_alloc, dsz]; omega) | omega)); have hsz := hbW.size; have BX := BX.later (B := w.heap.size + 1) (Below.trans (by repeat (first | (with_reducible exact Below.refl _ _) | (with_reducible refine Below.alloc ?_ (by first | (simp only [World.size_setCell, World.size_alloc, dsz]; omega) | omega) _) | (with_reducible refine Below.drew ?_))) (hb2.mono (by first | (simp only [World.size_setCell, World.size_alloc, dsz]; omega) | omega))) (by omega); have bxl := BX.lt; have f0 := BX.frozen 0; have f1 := BX.frozen 1; have f2 := BX.frozen 2; have x0 := BX.cell 0 _ rfl; have x1 := BX.cell 1 _ rfl; have x2 := BX.cell 2 _ rfl; have k0 := (hbW.cell (p := ⟨b, 2, none⟩) ltb).trans h0; have k1 := (hbW.cell (p := ⟨b, 3, none⟩) ltb).trans h1; clear hb2) | (go_at_call 78; refine (kids_id _ _).mono ?_; rintro e w3 ⟨rfl, rfl⟩))
  all_goals go_wp2_with fail
  refine bodyPost_ret (ret_node rfl _ rfl (by first | (with_reducible exact Blk.node3 BX) | (with_reducible exact Blk.new _ _ _) | (with_reducible exact (Blk.node3 BX).later ((Below.refl _ _).alloc (Nat.le_refl _) _) (by first | (simp only [World.size_setCell, World.size_alloc, dsz]; omega) | omega)))) rfl ⟨⟨_, _, _, _, rfl⟩, ?_⟩
  exact (by repeat (first | (with_reducible exact hbW) | (with_reducible exact Below.refl _ _) | (with_reducible refine Below.alloc ?_ (by first | (simp only [World.size_setCell, World.size_alloc, dsz]; omega) | omega) _) | (with_reducible refine Below.setCell ?_ (by first | (simp only [World.size_setCell, World.size_alloc, dsz]; omega) | omega) _) | (with_reducible refine Below.drew ?_)))
set_option maxHeartbeats 4000000 in
set_option maxRecDepth 100000 in
theorem x_chan {C : Nat → Nat → Value → Prop} (b d : Nat) (hd : d = 1 ∨ d = 2 ∨ d = 3) (vx : Value) (hx0 : ExOK C vx) (w : World) (hS : Sees C w) (c0 : C b 2 (Value.int .i64 (d : Int))) (c1 : C b 3 vx) :
    Calls Tryz.prog 61 #[Nd 151 b] w fun e w' => NodeOf ⟨#[99, 104, 97, 110]⟩ e ∧ Below w.heap.size w w' := by
  have h0 := hS _ _ _ c0
  have ltb := hS.lt c0
  have n0 := World.new_ne w ⟨b, 2, none⟩ h0
  have h1 := hS _ _ _ c1
  have n1 := World.new_ne w ⟨b, 3, none⟩ h1
  have HS := Lib.hid hS
  have BX : Blk (w.alloc (Obj.cells #[Value.string ⟨#[]⟩, Value.string ⟨#[]⟩, Value.slice none 0 0] 24)) w.heap.size 24 #[Value.string ⟨#[]⟩, Value.string ⟨#[]⟩, Value.slice none 0 0] := Blk.new w _ _
  clear hS c0 c1
  go_enter Tryz.func61, Tryz.ntmps61
  go_wp2_with fail
  go_region_held3 (fun w' => w'.cell? ⟨b, 2, none⟩ = some (Value.int .i64 (d : Int)) ∧ w'.cell? ⟨b, 3, none⟩ = some (vx)) (go_keep)
    (first | (go_at_call 61; refine (hx0 _ (HS.out.later (by repeat (first | (with_reducible exact hbW) | (with_reducible exact Below.refl _ _) | (with_reducible refine Below.alloc ?_ (by first | (simp only [World.size_setCell, World.size_alloc, dsz]; omega) | omega) _) | (with_reducible refine Below.setCell ?_ (by first | (simp only [World.size_setCell, World.size_alloc, dsz]; omega) | omega) _) | (with_reducible refine Below.drew ?_))))).mono ?_; rintro e w2 ⟨⟨kk, t2, a2, l2, c2, rfl⟩, hb2⟩; have hbW := Below.trans (show Below w.heap.size w _ from (by repeat (first | (with_reducible exact hbW) | (with_reducible exact Below.refl _ _) | (with_reducible refine Below.alloc ?_ (by first | (simp only [World.size_setCell, World.size_alloc, dsz]; omega) | omega) _) | (with_reducible refine Below.setCell ?_ (by first | (simp only [World.size_setCell, World.size_alloc, dsz]; omega) | omega) _) | (with_reducible refine Below.drew ?_)))) (hb2.mono (by first | (simp only [World.size_setCell, World.size_alloc, dsz]; omega) | omega)); have hsz := hbW.size; have BX := BX.later (B := w.heap.size + 1) (Below.trans (by repeat (first | (with_reducible exact Below.refl _ _) | (with_reducible refine Below.alloc ?_ (by first | (simp only [World.size_setCell, World.size_alloc, dsz]; omega) | omega) _) | (with_reducible refine Below.drew ?_))) (hb2.mono (by first | (simp only [World.size_setCell, World.size_alloc, dsz]; omega) | omega))) (by omega); have bxl := BX.lt; have f0 := BX.frozen 0; have f1 := BX.frozen 1; have f2 := BX.frozen 2; have x0 := BX.cell 0 _ rfl; have x1 := BX.cell 1 _ rfl; have x2 := BX.cell 2 _ rfl; have k0 := (hbW.cell (p := ⟨b, 2, none⟩) ltb).trans h0; have k1 := (hbW.cell (p := ⟨b, 3, none⟩) ltb).trans h1; clear hb2) | (go_at_call 83; refine (direction_any d hd _).mono ?_; rintro e w4 ⟨⟨td, rfl⟩, rfl⟩) | (go_at_call 78; refine (kids_id _ _).mono ?_; rintro e w3 ⟨rfl, rfl⟩))
  all_goals go_wp2_with fail
  refine bodyPost_ret (ret_node rfl _ rfl (by first | (with_reducible exact Blk.node3 BX) | (with_reducible exact Blk.new _ _ _) | (with_reducible exact (Blk.node3 BX).later ((Below.refl _ _).alloc (Nat.le_refl _) _) (by first | (simp only [World.size_setCell, World.size_alloc, dsz]; omega) | omega)))) rfl ⟨⟨_, _, _, _, rfl⟩, ?_⟩
  exact (by repeat (first | (with_reducible exact hbW) | (with_reducible exact Below.refl _ _) | (with_reducible refine Below.alloc ?_ (by first | (simp only [World.size_setCell, World.size_alloc, dsz]; omega) | omega) _) | (with_reducible refine Below.setCell ?_ (by first | (simp only [World.size_setCell, World.size_alloc, dsz]; omega) | omega) _) | (with_reducible refine Below.drew ?_)))
set_option maxHeartbeats 4000000 in
set_option maxRecDepth 100000 in
theorem x_literal {C : Nat → Nat → Value → Prop} (b : Nat) (tt : ByteArray) (w : World) (hS : Sees C w) (c0 : C b 3 (Value.string tt)) :
    Calls Tryz.prog 61 #[Nd 78 b] w fun e w' => NodeOf ⟨#[108, 105, 116, 101, 114, 97, 108]⟩ e ∧ Below w.heap.size w w' := by
  have h0 := hS _ _ _ c0
  have ltb := hS.lt c0
  have n0 := World.new_ne w ⟨b, 3, none⟩ h0
  have HS := Lib.hid hS
  have BX : Blk (w.alloc (Obj.cells #[Value.string ⟨#[]⟩, Value.string ⟨#[]⟩, Value.slice none 0 0] 24)) w.heap.size 24 #[Value.string ⟨#[]⟩, Value.string ⟨#[]⟩, Value.slice none 0 0] := Blk.new w _ _
  clear hS c0
  go_enter Tryz.func61, Tryz.ntmps61
  go_wp2_with (first | (go_at_call 78; refine (kids_id _ _).mono ?_; rintro e w3 ⟨rfl, rfl⟩))
  refine bodyPost_ret (ret_node rfl _ rfl (by first | (with_reducible exact Blk.node3 BX) | (with_reducible exact Blk.new _ _ _) | (with_reducible exact (Blk.node3 BX).later ((Below.refl _ _).alloc (Nat.le_refl _) _) (by first | (simp only [World.size_setCell, World.size_alloc, dsz]; omega) | omega)))) rfl ⟨⟨_, _, _, _, rfl⟩, ?_⟩
  exact (by repeat (first | (with_reducible exact hbW) | (with_reducible exact Below.refl _ _) | (with_reducible refine Below.alloc ?_ (by first | (simp only [World.size_setCell, World.size_alloc, dsz]; omega) | omega) _) | (with_reducible refine Below.setCell ?_ (by first | (simp only [World.size_setCell, World.size_alloc, dsz]; omega) | omega) _) | (with_reducible refine Below.drew ?_)))
set_option maxHeartbeats 4000000 in
set_option maxRecDepth 100000 in
theorem nm_some {C : Nat → Nat → Value → Prop} (s : Nat) (tt : ByteArray) (w : World) (hS : Sees C w) (c0 : C s 1 (Value.string tt)) :
    Calls Tryz.prog 80 #[Pt s] w fun e w' => NodeOf ⟨#[110, 97, 109, 101]⟩ e ∧ Below w.heap.size w w' := by
  have h0 := hS _ _ _ c0
  have lts := hS.lt c0
  have n0 := World.new_ne w ⟨s, 1, none⟩ h0
  have HS := Lib.hid hS
  have BX : Blk (w.alloc (Obj.cells #[Value.string ⟨#[]⟩, Value.string ⟨#[]⟩, Value.slice none 0 0] 24)) w.heap.size 24 #[Value.string ⟨#[]⟩, Value.string ⟨#[]⟩, Value.slice none 0 0] := Blk.new w _ _
  clear hS c0
  go_enter Tryz.func80, Tryz.ntmps80
  go_wp2_with (first | (go_at_call 78; refine (kids_id _ _).mono ?_; rintro e w3 ⟨rfl, rfl⟩))
  refine bodyPost_ret (ret_node rfl _ rfl (by first | (with_reducible exact Blk.node3 BX) | (with_reducible exact Blk.new _ _ _) | (with_reducible exact (Blk.node3 BX).later ((Below.refl _ _).alloc (Nat.le_refl _) _) (by first | (simp only [World.size_setCell, World.size_alloc, dsz]; omega) | omega)))) rfl ⟨⟨_, _, _, _, rfl⟩, ?_⟩
  exact (by repeat (first | (with_reducible exact hbW) | (with_reducible exact Below.refl _ _) | (with_reducible refine Below.alloc ?_ (by first | (simp only [World.size_setCell, World.size_alloc, dsz]; omega) | omega) _) | (with_reducible refine Below.setCell ?_ (by first | (simp only [World.size_setCell, World.size_alloc, dsz]; omega) | omega) _) | (with_reducible refine Below.drew ?_)))
set_option maxHeartbeats 4000000 in
set_option maxRecDepth 100000 in
theorem x_name {C : Nat → Nat → Value → Prop} (s : Nat) (hx0 : ∀ w, Sees C w → Calls Tryz.prog 80 #[Pt s] w fun e w' => NodeOf ⟨#[110, 97, 109, 101]⟩ e ∧ Below w.heap.size w w') (w : World) (hS : Sees C w)  :
    Calls Tryz.prog 61 #[Nd 82 s] w fun e w' => NodeOf ⟨#[110, 97, 109, 101]⟩ e ∧ Below w.heap.size w w' := by
  have HS := Lib.hid hS
  have BX : Blk (w.alloc (Obj.cells #[Value.string ⟨#[]⟩, Value.string ⟨#[]⟩, Value.slice none 0 0] 24)) w.heap.size 24 #[Value.string ⟨#[]⟩, Value.string ⟨#[]⟩, Value.slice none 0 0] := Blk.new w _ _
  clear hS 
  go_enter Tryz.func61, Tryz.ntmps61
  go_wp2_with (first | (go_at_call 80; refine (hx0 _ (HS.out.later (by repeat (first | (with_reducible exact hbW) | (with_reducible exact Below.refl _ _) | (with_reducible refine Below.alloc ?_ (by first | (simp only [World.size_setCell, World.size_alloc, dsz]; omega) | omega) _) | (with_reducible refine Below.setCell ?_ (by first | (simp only [World.size_setCell, World.size_alloc, dsz]; omega) | omega) _) | (with_reducible refine Below.drew ?_))))).mono ?_; rintro e w2 ⟨⟨t2, a2, l2, c2, rfl⟩, hb2⟩; have hbW := Below.trans (show Below w.heap.size w _ from (by repeat (first | (with_reducible exact hbW) | (with_reducible exact Below.refl _ _) | (with_reducible refine Below.alloc ?_ (by first | (simp only [World.size_setCell, World.size_alloc, dsz]; omega) | omega) _) | (with_reducible refine Below.setCell ?_ (by first | (simp only [World.size_setCell, World.size_alloc, dsz]; omega) | omega) _) | (with_reducible refine Below.drew ?_)))) (hb2.mono (by first | (simp only [World.size_setCell, World.size_alloc, dsz]; omega) | omega)); have hsz := hbW.size; have BX := BX.later (B := w.heap.size + 1) (Below.trans (by repeat (first | (with_reducible exact Below.refl _ _) | (with_reducible refine Below.alloc ?_ (by first | (simp only [World.size_setCell, World.size_alloc, dsz]; omega) | omega) _) | (with_reducible refine Below.drew ?_))) (hb2.mono (by first | (simp only [World.size_setCell, World.size_alloc, dsz]; omega) | omega))) (by omega); have bxl := BX.lt; have f0 := BX.frozen 0; have f1 := BX.frozen 1; have f2 := BX.frozen 2; have x0 := BX.cell 0 _ rfl; have x1 := BX.cell 1 _ rfl; have x2 := BX.cell 2 _ rfl; clear hb2) | (go_at_call 78; refine (kids_id _ _).mono ?_; rintro e w3 ⟨rfl, rfl⟩))
  refine bodyPost_ret (ret_node rfl _ rfl (by first | (with_reducible exact Blk.node3 BX) | (with_reducible exact Blk.new _ _ _) | (with_reducible exact (Blk.node3 BX).later ((Below.refl _ _).alloc (Nat.le_refl _) _) (by first | (simp only [World.size_setCell, World.size_alloc, dsz]; omega) | omega)))) rfl ⟨⟨_, _, _, _, rfl⟩, ?_⟩
  exact (by repeat (first | (with_reducible exact hbW) | (with_reducible exact Below.refl _ _) | (with_reducible refine Below.alloc ?_ (by first | (simp only [World.size_setCell, World.size_alloc, dsz]; omega) | omega) _) | (with_reducible refine Below.setCell ?_ (by first | (simp only [World.size_setCell, World.size_alloc, dsz]; omega) | omega) _) | (with_reducible refine Below.drew ?_)))
set_option maxHeartbeats 4000000 in
set_option maxRecDepth 100000 in
theorem nm_none {C : Nat → Nat → Value → Prop}  (w : World) (hS : Sees C w)  :
    Calls Tryz.prog 80 #[.pointer none] w fun e w' => NodeOf ⟨#[110, 111, 110, 101]⟩ e ∧ Below w.heap.size w w' := by
  have HS := Lib.hid hS
  have BX : Blk (w.alloc (Obj.cells #[Value.string ⟨#[]⟩, Value.string ⟨#[]⟩, Value.slice none 0 0] 24)) w.heap.size 24 #[Value.string ⟨#[]⟩, Value.string ⟨#[]⟩, Value.slice none 0 0] := Blk.new w _ _
  clear hS 
  go_enter Tryz.func80, Tryz.ntmps80
  go_wp2_with (first | (go_at_call 71; refine (none_node _).mono ?_; rintro e w2 ⟨rfl, hb2⟩; have hbW := Below.trans (show Below w.heap.size w _ from (by repeat (first | (with_reducible exact hbW) | (with_reducible exact Below.refl _ _) | (with_reducible refine Below.alloc ?_ (by first | (simp only [World.size_setCell, World.size_alloc, dsz]; omega) | omega) _) | (with_reducible refine Below.setCell ?_ (by first | (simp only [World.size_setCell, World.size_alloc, dsz]; omega) | omega) _) | (with_reducible refine Below.drew ?_)))) (hb2.mono (by first | (simp only [World.size_setCell, World.size_alloc, dsz]; omega) | omega)); have hsz := hbW.size; have BX := BX.later (B := w.heap.size + 1) (Below.trans (by repeat (first | (with_reducible exact Below.refl _ _) | (with_reducible refine Below.alloc ?_ (by first | (simp only [World.size_setCell, World.size_alloc, dsz]; omega) | omega) _) | (with_reducible refine Below.drew ?_))) (hb2.mono (by first | (simp only [World.size_setCell, World.size_alloc, dsz]; omega) | omega))) (by omega); have bxl := BX.lt; have f0 := BX.frozen 0; have f1 := BX.frozen 1; have f2 := BX.frozen 2; have x0 := BX.cell 0 _ rfl; have x1 := BX.cell 1 _ rfl; have x2 := BX.cell 2 _ rfl; clear hb2) | (go_at_call 78; refine (kids_id _ _).mono ?_; rintro e w3 ⟨rfl, rfl⟩))
  refine bodyPost_ret (ret_node rfl _ rfl (by first | (with_reducible exact Blk.node3 BX) | (with_reducible exact Blk.new _ _ _) | (with_reducible exact (Blk.node3 BX).later ((Below.refl _ _).alloc (Nat.le_refl _) _) (by first | (simp only [World.size_setCell, World.size_alloc, dsz]; omega) | omega)))) rfl ⟨⟨_, _, _, _, rfl⟩, ?_⟩
  exact (by repeat (first | (with_reducible exact hbW) | (with_reducible exact Below.refl _ _) | (with_reducible refine Below.alloc ?_ (by first | (simp only [World.size_setCell, World.size_alloc, dsz]; omega) | omega) _) | (with_reducible refine Below.setCell ?_ (by first | (simp only [World.size_setCell, World.size_alloc, dsz]; omega) | omega) _) | (with_reducible refine Below.drew ?_)))
set_option maxHeartbeats 4000000 in
set_option maxRecDepth 100000 in
theorem fs_none {C : Nat → Nat → Value → Prop}  (w : World) (hS : Sees C w)  :
    Calls Tryz.prog 79 #[.pointer none] w fun e w' => NodeOf ⟨#[110, 111, 110, 101]⟩ e ∧ Below w.heap.size w w' := by
  have HS := Lib.hid hS
  have BX : Blk (w.alloc (Obj.cells #[Value.string ⟨#[]⟩, Value.string ⟨#[]⟩, Value.slice none 0 0] 24)) w.heap.size 24 #[Value.string ⟨#[]⟩, Value.string ⟨#[]⟩, Value.slice none 0 0] := Blk.new w _ _
  clear hS 
  go_enter Tryz.func79, Tryz.ntmps79
  go_wp2_with (first | (go_at_call 71; refine (none_node _).mono ?_; rintro e w2 ⟨rfl, hb2⟩; have hbW := Below.trans (show Below w.heap.size w _ from (by repeat (first | (with_reducible exact hbW) | (with_reducible exact Below.refl _ _) | (with_reducible refine Below.alloc ?_ (by first | (simp only [World.size_setCell, World.size_alloc, dsz]; omega) | omega) _) | (with_reducible refine Below.setCell ?_ (by first | (simp only [World.size_setCell, World.size_alloc, dsz]; omega) | omega) _) | (with_reducible refine Below.drew ?_)))) (hb2.mono (by first | (simp only [World.size_setCell, World.size_alloc, dsz]; omega) | omega)); have hsz := hbW.size; have BX := BX.later (B := w.heap.size + 1) (Below.trans (by repeat (first | (with_reducible exact Below.refl _ _) | (with_reducible refine Below.alloc ?_ (by first | (simp only [World.size_setCell, World.size_alloc, dsz]; omega) | omega) _) | (with_reducible refine Below.drew ?_))) (hb2.mono (by first | (simp only [World.size_setCell, World.size_alloc, dsz]; omega) | omega))) (by omega); have bxl := BX.lt; have f0 := BX.frozen 0; have f1 := BX.frozen 1; have f2 := BX.frozen 2; have x0 := BX.cell 0 _ rfl; have x1 := BX.cell 1 _ rfl; have x2 := BX.cell 2 _ rfl; clear hb2) | (go_at_call 78; refine (kids_id _ _).mono ?_; rintro e w3 ⟨rfl, rfl⟩))
  refine bodyPost_ret (ret_node rfl _ rfl (by first | (with_reducible exact Blk.node3 BX) | (with_reducible exact Blk.new _ _ _) | (with_reducible exact (Blk.node3 BX).later ((Below.refl _ _).alloc (Nat.le_refl _) _) (by first | (simp only [World.size_setCell, World.size_alloc, dsz]; omega) | omega)))) rfl ⟨⟨_, _, _, _, rfl⟩, ?_⟩
  exact (by repeat (first | (with_reducible exact hbW) | (with_reducible exact Below.refl _ _) | (with_reducible refine Below.alloc ?_ (by first | (simp only [World.size_setCell, World.size_alloc, dsz]; omega) | omega) _) | (with_reducible refine Below.setCell ?_ (by first | (simp only [World.size_setCell, World.size_alloc, dsz]; omega) | omega) _) | (with_reducible refine Below.drew ?_)))
set_option maxHeartbeats 4000000 in
set_option maxRecDepth 100000 in
theorem x_nil {C : Nat → Nat → Value → Prop}  (w : World) (hS : Sees C w)  :
    Calls Tryz.prog 61 #[.nilIface] w fun e w' => NodeOf ⟨#[110, 111, 110, 101]⟩ e ∧ Below w.heap.size w w' := by
  have HS := Lib.hid hS
  have BX : Blk (w.alloc (Obj.cells #[Value.string ⟨#[]⟩, Value.string ⟨#[]⟩, Value.slice none 0 0] 24)) w.heap.size 24 #[Value.string ⟨#[]⟩, Value.string ⟨#[]⟩, Value.slice none 0 0] := Blk.new w _ _
  clear hS 
  go_enter Tryz.func61, Tryz.ntmps61
  go_wp2_with (first | (go_at_call 71; refine (none_node _).mono ?_; rintro e w2 ⟨rfl, hb2⟩; have hbW := Below.trans (show Below w.heap.size w _ from (by repeat (first | (with_reducible exact hbW) | (with_reducible exact Below.refl _ _) | (with_reducible refine Below.alloc ?_ (by first | (simp only [World.size_setCell, World.size_alloc, dsz]; omega) | omega) _) | (with_reducible refine Below.setCell ?_ (by first | (simp only [World.size_setCell, World.size_alloc, dsz]; omega) | omega) _) | (with_reducible refine Below.drew ?_)))) (hb2.mono (by first | (simp only [World.size_setCell, World.size_alloc, dsz]; omega) | omega)); have hsz := hbW.size; have BX := BX.later (B := w.heap.size + 1) (Below.trans (by repeat (first | (with_reducible exact Below.refl _ _) | (with_reducible refine Below.alloc ?_ (by first | (simp only [World.size_setCell, World.size_alloc, dsz]; omega) | omega) _) | (with_reducible refine Below.drew ?_))) (hb2.mono (by first | (simp only [World.size_setCell, World.size_alloc, dsz]; omega) | omega))) (by omega); have bxl := BX.lt; have f0 := BX.frozen 0; have f1 := BX.frozen 1; have f2 := BX.frozen 2; have x0 := BX.cell 0 _ rfl; have x1 := BX.cell 1 _ rfl; have x2 := BX.cell 2 _ rfl; clear hb2) | (go_at_call 78; refine (kids_id _ _).mono ?_; rintro e w3 ⟨rfl, rfl⟩))
  refine bodyPost_ret (ret_node rfl _ rfl (by first | (with_reducible exact Blk.node3 BX) | (with_reducible exact Blk.new _ _ _) | (with_reducible exact (Blk.node3 BX).later ((Below.refl _ _).alloc (Nat.le_refl _) _) (by first | (simp only [World.size_setCell, World.size_alloc, dsz]; omega) | omega)))) rfl ⟨⟨_, _, _, _, rfl⟩, ?_⟩
  exact (by repeat (first | (with_reducible exact hbW) | (with_reducible exact Below.refl _ _) | (with_reducible refine Below.alloc ?_ (by first | (simp only [World.size_setCell, World.size_alloc, dsz]; omega) | omega) _) | (with_reducible refine Below.setCell ?_ (by first | (simp only [World.size_setCell, World.size_alloc, dsz]; omega) | omega) _) | (with_reducible refine Below.drew ?_)))
set_option maxHeartbeats 4000000 in
set_option maxRecDepth 100000 in
theorem fs_some {C : Nat → Nat → Value → Prop} (p : Nat) (vl : Value) (hx0 : ∀ w, Sees C w → Calls Tryz.prog 89 #[.string ⟨#[102, 105, 101, 108, 100, 115]⟩, vl, .func (.func 90) #[] #[]] w fun e w' => NodeOf ⟨#[102, 105, 101, 108, 100, 115]⟩ e ∧ Below w.heap.size w w') (w : World) (hS : Sees C w) (c0 : C p 1 vl) :
    Calls Tryz.prog 79 #[Pt p] w fun e w' => NodeOf ⟨#[102, 105, 101, 108, 100, 115]⟩ e ∧ Below w.heap.size w w' := by
  have h0 := hS _ _ _ c0
  have ltp := hS.lt c0
  have n0 := World.new_ne w ⟨p, 1, none⟩ h0
  have HS := Lib.hid hS
  have BX : Blk (w.alloc (Obj.cells #[Value.string ⟨#[]⟩, Value.string ⟨#[]⟩, Value.slice none 0 0] 24)) w.heap.size 24 #[Value.string ⟨#[]⟩, Value.string ⟨#[]⟩, Value.slice none 0 0] := Blk.new w _ _
  clear hS c0
  go_enter Tryz.func79, Tryz.ntmps79
  go_wp2_with (first | (go_at_call 89; refine (hx0 _ (HS.out.later (by repeat (first | (with_reducible exact hbW) | (with_reducible exact Below.refl _ _) | (with_reducible refine Below.alloc ?_ (by first | (simp only [World.size_setCell, World.size_alloc, dsz]; omega) | omega) _) | (with_reducible refine Below.setCell ?_ (by first | (simp only [World.size_setCell, World.size_alloc, dsz]; omega) | omega) _) | (with_reducible refine Below.drew ?_))))).mono ?_; rintro e w2 ⟨⟨t2, a2, l2, c2, rfl⟩, hb2⟩; have hbW := Below.trans (show Below w.heap.size w _ from (by repeat (first | (with_reducible exact hbW) | (with_reducible exact Below.refl _ _) | (with_reducible refine Below.alloc ?_ (by first | (simp only [World.size_setCell, World.size_alloc, dsz]; omega) | omega) _) | (with_reducible refine Below.setCell ?_ (by first | (simp only [World.size_setCell, World.size_alloc, dsz]; omega) | omega) _) | (with_reducible refine Below.drew ?_)))) (hb2.mono (by first | (simp only [World.size_setCell, World.size_alloc, dsz]; omega) | omega)); have hsz := hbW.size; have BX := BX.later (B := w.heap.size + 1) (Below.trans (by repeat (first | (with_reducible exact Below.refl _ _) | (with_reducible refine Below.alloc ?_ (by first | (simp only [World.size_setCell, World.size_alloc, dsz]; omega) | omega) _) | (with_reducible refine Below.drew ?_))) (hb2.mono (by first | (simp only [World.size_setCell, World.size_alloc, dsz]; omega) | omega))) (by omega); have bxl := BX.lt; have f0 := BX.frozen 0; have f1 := BX.frozen 1; have f2 := BX.frozen 2; have x0 := BX.cell 0 _ rfl; have x1 := BX.cell 1 _ rfl; have x2 := BX.cell 2 _ rfl; have k0 := (hbW.cell (p := ⟨p, 1, none⟩) ltp).trans h0; clear hb2) | (go_at_call 78; refine (kids_id _ _).mono ?_; rintro e w3 ⟨rfl, rfl⟩))
  refine bodyPost_ret (ret_node rfl _ rfl (by first | (with_reducible exact Blk.node3 BX) | (with_reducible exact Blk.new _ _ _) | (with_reducible exact (Blk.node3 BX).later ((Below.refl _ _).alloc (Nat.le_refl _) _) (by first | (simp only [World.size_setCell, World.size_alloc, dsz]; omega) | omega)))) rfl ⟨⟨_, _, _, _, rfl⟩, ?_⟩
  exact (by repeat (first | (with_reducible exact hbW) | (with_reducible exact Below.refl _ _) | (with_reducible refine Below.alloc ?_ (by first | (simp only [World.size_setCell, World.size_alloc, dsz]; omega) | omega) _) | (with_reducible refine Below.setCell ?_ (by first | (simp only [World.size_setCell, World.size_alloc, dsz]; omega) | omega) _) | (with_reducible refine Below.drew ?_)))
end Go.Proofs.YtpifflakohlglaaGreatFmt

/- What is proved here: list, field, item and decl, turning syntax into nodes again: each answers with a node of its kind, in new memory alone. -/
namespace Go.Proofs.YtpifflakohlglaaGreatFmt
open Go.RowKit Go.Shelf
set_option linter.unusedVariables false
set_option linter.unusedSimpArgs false
attribute [local go_sem] as_ImportSpecP as_ValueSpecP as_TypeSpecP as_GenDeclP as_FuncDeclP
attribute [local go_sem ↓] Go.wp_at_zero Go.wp_at_succ
theorem under22 : Tryz.prog.underlying 22 = some (.slice 24) := by kernel_rfl
theorem info24 : (Tryz.prog.info? 24).map (fun i => (i.zero, i.size, i.bytes)) = some (some (.agg #[.string ⟨#[]⟩, .string ⟨#[]⟩, .slice none 0 0]), 3, 56) := by kernel_rfl
def NmOK (C : Nat → Nat → Value → Prop) (v : Value) : Prop := ∀ w, Sees C w → Calls Tryz.prog 80 #[v] w fun e w' => AnyNode e ∧ Below w.heap.size w w'
/-- What list makes of parts. -/
def LsOK (C : Nat → Nat → Value → Prop) (f : Nat) (k : ByteArray) (v : Value) (g : Nat) : Prop := ∀ w, Sees C w → Calls Tryz.prog f #[.string k, v, .func (.func g) #[] #[]] w fun e w' => NodeOf k e ∧ Below w.heap.size w w'
set_option maxHeartbeats 4000000 in
set_option maxRecDepth 100000 in
theorem s_path {C : Nat → Nat → Value → Prop} (b t : Nat) (px : Value) (tt : ByteArray) (hx0 : NmOK C px) (w : World) (hS : Sees C w) (c0 : C b 1 px) (c1 : C b 2 (Pt t)) (c2 : C t 3 (Value.string tt)) :
    Calls Tryz.prog 60 #[Nd 217 b] w fun e w' => NodeOf ⟨#[112, 97, 116, 104]⟩ e ∧ Below w.heap.size w w' := by
  have h0 := hS _ _ _ c0
  have ltb := hS.lt c0
  have n0 := World.new_ne w ⟨b, 1, none⟩ h0
  have h1 := hS _ _ _ c1
  have n1 := World.new_ne w ⟨b, 2, none⟩ h1
  have h2 := hS _ _ _ c2
  have ltt := hS.lt c2
  have n2 := World.new_ne w ⟨t, 3, none⟩ h2
  have HS := Lib.hid hS
  have BX : Blk (w.alloc (Obj.cells #[Value.string ⟨#[]⟩, Value.string ⟨#[]⟩, Value.slice none 0 0] 24)) w.heap.size 24 #[Value.string ⟨#[]⟩, Value.string ⟨#[]⟩, Value.slice none 0 0] := Blk.new w _ _
  clear hS c0 c1 c2
  go_enter Tryz.func60, Tryz.ntmps60
  go_wp2_with fail
  go_region_held3 (fun w' => w'.cell? ⟨b, 1, none⟩ = some (px) ∧ w'.cell? ⟨b, 2, none⟩ = some (Pt t) ∧ w'.cell? ⟨t, 3, none⟩ = some (Value.string tt)) (go_keep)
    (first | (go_at_call 80; refine (hx0 _ (HS.out.later (by repeat (first | (with_reducible exact hbW) | (with_reducible exact Below.refl _ _) | (with_reducible refine Below.alloc ?_ (by first | (simp only [World.size_setCell, World.size_alloc, dsz]; omega) | omega) _) | (with_reducible refine Below.setCell ?_ (by first | (simp only [World.size_setCell, World.size_alloc, dsz]; omega) | omega) _) | (with_reducible refine Below.drew ?_))))).mono ?_; rintro e w2 ⟨⟨kk, t2, a2, l2, c2, rfl⟩, hb2⟩; have hbW := Below.trans (show Below w.heap.size w _ from (by repeat (first | (with_reducible exact hbW) | (with_reducible exact Below.refl _ _) | (with_reducible refine Below.alloc ?_ (by first | (simp only [World.size_setCell, World.size_alloc, dsz]; omega) | omega) _) | (with_reducible refine Below.setCell ?_ (by first | (simp only [World.size_setCell, World.size_alloc, dsz]; omega) | omega) _) | (with_reducible refine Below.drew ?_)))) (hb2.mono (by first | (simp only [World.size_setCell, World.size_alloc, dsz]; omega) | omega)); have hsz := hbW.size; have BX := BX.later (B := w.heap.size + 1) (Below.trans (by repeat (first | (with_reducible exact Below.refl _ _) | (with_reducible refine Below.alloc ?_ (by first | (simp only [World.size_setCell, World.size_alloc, dsz]; omega) | omega) _) | (with_reducible refine Below.drew ?_))) (hb2.mono (by first | (simp only [World.size_setCell, World.size_alloc, dsz]; omega) | omega))) (by omega); have bxl := BX.lt; have f0 := BX.frozen 0; have f1 := BX.frozen 1; have f2 := BX.frozen 2; have x0 := BX.cell 0 _ rfl; have x1 := BX.cell 1 _ rfl; have x2 := BX.cell 2 _ rfl; have k0 := (hbW.cell (p := ⟨b, 1, none⟩) ltb).trans h0; have k1 := (hbW.cell (p := ⟨b, 2, none⟩) ltb).trans h1; have k2 := (hbW.cell (p := ⟨t, 3, none⟩) ltt).trans h2; clear hb2) | (go_at_call 78; refine (kids_id _ _).mono ?_; rintro e w3 ⟨rfl, rfl⟩))
  all_goals go_wp2_with fail
  refine bodyPost_ret (ret_node rfl _ rfl (by first | (with_reducible exact Blk.node3 BX) | (with_reducible exact Blk.new _ _ _) | (with_reducible exact (Blk.node3 BX).later ((Below.refl _ _).alloc (Nat.le_refl _) _) (by first | (simp only [World.size_setCell, World.size_alloc, dsz]; omega) | omega)))) rfl ⟨⟨_, _, _, _, rfl⟩, ?_⟩
  exact (by repeat (first | (with_reducible exact hbW) | (with_reducible exact Below.refl _ _) | (with_reducible refine Below.alloc ?_ (by first | (simp only [World.size_setCell, World.size_alloc, dsz]; omega) | omega) _) | (with_reducible refine Below.setCell ?_ (by first | (simp only [World.size_setCell, World.size_alloc, dsz]; omega) | omega) _) | (with_reducible refine Below.drew ?_)))
set_option maxHeartbeats 4000000 in
set_option maxRecDepth 100000 in
theorem s_value {C : Nat → Nat → Value → Prop} (b : Nat) (vl vy wl : Value) (hx0 : LsOK C 81 ⟨#[108, 105, 115, 116]⟩ vl 80) (hx1 : ExOK C vy) (hx2 : LsOK C 82 ⟨#[108, 105, 115, 116]⟩ wl 61) (w : World) (hS : Sees C w) (c0 : C b 1 vl) (c1 : C b 2 vy) (c2 : C b 3 wl) :
    Calls Tryz.prog 60 #[Nd 220 b] w fun e w' => NodeOf ⟨#[118, 97, 108, 117, 101]⟩ e ∧ Below w.heap.size w w' := by
  have h0 := hS _ _ _ c0
  have ltb := hS.lt c0
  have n0 := World.new_ne w ⟨b, 1, none⟩ h0
  have h1 := hS _ _ _ c1
  have n1 := World.new_ne w ⟨b, 2, none⟩ h1
  have h2 := hS _ _ _ c2
  have n2 := World.new_ne w ⟨b, 3, none⟩ h2
  have HS := Lib.hid hS
  have BX : Blk (w.alloc (Obj.cells #[Value.string ⟨#[]⟩, Value.string ⟨#[]⟩, Value.slice none 0 0] 24)) w.heap.size 24 #[Value.string ⟨#[]⟩, Value.string ⟨#[]⟩, Value.slice none 0 0] := Blk.new w _ _
  clear hS c0 c1 c2
  go_enter Tryz.func60, Tryz.ntmps60
  go_wp2_with fail
  go_region_held3 (fun w' => w'.cell? ⟨b, 1, none⟩ = some (vl) ∧ w'.cell? ⟨b, 2, none⟩ = some (vy) ∧ w'.cell? ⟨b, 3, none⟩ = some (wl)) (go_keep)
    (first | (go_at_call 81; refine (hx0 _ (HS.out.later (by repeat (first | (with_reducible exact hbW) | (with_reducible exact Below.refl _ _) | (with_reducible refine Below.alloc ?_ (by first | (simp only [World.size_setCell, World.size_alloc, dsz]; omega) | omega) _) | (with_reducible refine Below.setCell ?_ (by first | (simp only [World.size_setCell, World.size_alloc, dsz]; omega) | omega) _) | (with_reducible refine Below.drew ?_))))).mono ?_; rintro e w2 ⟨⟨t2, a2, l2, c2, rfl⟩, hb2⟩; have hbW := Below.trans (show Below w.heap.size w _ from (by repeat (first | (with_reducible exact hbW) | (with_reducible exact Below.refl _ _) | (with_reducible refine Below.alloc ?_ (by first | (simp only [World.size_setCell, World.size_alloc, dsz]; omega) | omega) _) | (with_reducible refine Below.setCell ?_ (by first | (simp only [World.size_setCell, World.size_alloc, dsz]; omega) | omega) _) | (with_reducible refine Below.drew ?_)))) (hb2.mono (by first | (simp only [World.size_setCell, World.size_alloc, dsz]; omega) | omega)); have hsz := hbW.size; have BX := BX.later (B := w.heap.size + 1) (Below.trans (by repeat (first | (with_reducible exact Below.refl _ _) | (with_reducible refine Below.alloc ?_ (by first | (simp only [World.size_setCell, World.size_alloc, dsz]; omega) | omega) _) | (with_reducible refine Below.drew ?_))) (hb2.mono (by first | (simp only [World.size_setCell, World.size_alloc, dsz]; omega) | omega))) (by omega); have bxl := BX.lt; have f0 := BX.frozen 0; have f1 := BX.frozen 1; have f2 := BX.frozen 2; have x0 := BX.cell 0 _ rfl; have x1 := BX.cell 1 _ rfl; have x2 := BX.cell 2 _ rfl; have k0 := (hbW.cell (p := ⟨b, 1, none⟩) ltb).trans h0; have k1 := (hbW.cell (p := ⟨b, 2, none⟩) ltb).trans h1; have k2 := (hbW.cell (p := ⟨b, 3, none⟩) ltb).trans h2; clear hb2) | (go_at_call 61; refine (hx1 _ (HS.out.later (by repeat (first | (with_reducible exact hbW) | (with_reducible exact Below.refl _ _) | (with_reducible refine Below.alloc ?_ (by first | (simp only [World.size_setCell, World.size_alloc, dsz]; omega) | omega) _) | (with_reducible refine Below.setCell ?_ (by first | (simp only [World.size_setCell, World.size_alloc, dsz]; omega) | omega) _) | (with_reducible refine Below.drew ?_))))).mono ?_; rintro e w2 ⟨⟨kk, t2, a2, l2, c2, rfl⟩, hb2⟩; have hbW := Below.trans (show Below w.heap.size w _ from (by repeat (first | (with_reducible exact hbW) | (with_reducible exact Below.refl _ _) | (with_reducible refine Below.alloc ?_ (by first | (simp only [World.size_setCell, World.size_alloc, dsz]; omega) | omega) _) | (with_reducible refine Below.setCell ?_ (by first | (simp only [World.size_setCell, World.size_alloc, dsz]; omega) | omega) _) | (with_reducible refine Below.drew ?_)))) (hb2.mono (by first | (simp only [World.size_setCell, World.size_alloc, dsz]; omega) | omega)); have hsz := hbW.size; have BX := BX.later (B := w.heap.size + 1) (Below.trans (by repeat (first | (with_reducible exact Below.refl _ _) | (with_reducible refine Below.alloc ?_ (by first | (simp only [World.size_setCell, World.size_alloc, dsz]; omega) | omega) _) | (with_reducible refine Below.drew ?_))) (hb2.mono (by first | (simp only [World.size_setCell, World.size_alloc, dsz]; omega) | omega))) (by omega); have bxl := BX.lt; have f0 := BX.frozen 0; have f1 := BX.frozen 1; have f2 := BX.frozen 2; have x0 := BX.cell 0 _ rfl; have x1 := BX.cell 1 _ rfl; have x2 := BX.cell 2 _ rfl; have k0 := (hbW.cell (p := ⟨b, 1, none⟩) ltb).trans h0; have k1 := (hbW.cell (p := ⟨b, 2, none⟩) ltb).trans h1; have k2 := (hbW.cell (p := ⟨b, 3, none⟩) ltb).trans h2; clear hb2) | (go_at_call 82; refine (hx2 _ (HS.out.later (by repeat (first | (with_reducible exact hbW) | (with_reducible exact Below.refl _ _) | (with_reducible refine Below.alloc ?_ (by first | (simp only [World.size_setCell, World.size_alloc, dsz]; omega) | omega) _) | (with_reducible refine Below.setCell ?_ (by first | (simp only [World.size_setCell, World.size_alloc, dsz]; omega) | omega) _) | (with_reducible refine Below.drew ?_))))).mono ?_; rintro e w2 ⟨⟨t2, a2, l2, c2, rfl⟩, hb2⟩; have hbW := Below.trans (show Below w.heap.size w _ from (by repeat (first | (with_reducible exact hbW) | (with_reducible exact Below.refl _ _) | (with_reducible refine Below.alloc ?_ (by first | (simp only [World.size_setCell, World.size_alloc, dsz]; omega) | omega) _) | (with_reducible refine Below.setCell ?_ (by first | (simp only [World.size_setCell, World.size_alloc, dsz]; omega) | omega) _) | (with_reducible refine Below.drew ?_)))) (hb2.mono (by first | (simp only [World.size_setCell, World.size_alloc, dsz]; omega) | omega)); have hsz := hbW.size; have BX := BX.later (B := w.heap.size + 1) (Below.trans (by repeat (first | (with_reducible exact Below.refl _ _) | (with_reducible refine Below.alloc ?_ (by first | (simp only [World.size_setCell, World.size_alloc, dsz]; omega) | omega) _) | (with_reducible refine Below.drew ?_))) (hb2.mono (by first | (simp only [World.size_setCell, World.size_alloc, dsz]; omega) | omega))) (by omega); have bxl := BX.lt; have f0 := BX.frozen 0; have f1 := BX.frozen 1; have f2 := BX.frozen 2; have x0 := BX.cell 0 _ rfl; have x1 := BX.cell 1 _ rfl; have x2 := BX.cell 2 _ rfl; have k0 := (hbW.cell (p := ⟨b, 1, none⟩) ltb).trans h0; have k1 := (hbW.cell (p := ⟨b, 2, none⟩) ltb).trans h1; have k2 := (hbW.cell (p := ⟨b, 3, none⟩) ltb).trans h2; clear hb2) | (go_at_call 78; refine (kids_id _ _).mono ?_; rintro e w3 ⟨rfl, rfl⟩))
  all_goals go_wp2_with fail
  refine bodyPost_ret (ret_node rfl _ rfl (by first | (with_reducible exact Blk.node3 BX) | (with_reducible exact Blk.new _ _ _) | (with_reducible exact (Blk.node3 BX).later ((Below.refl _ _).alloc (Nat.le_refl _) _) (by first | (simp only [World.size_setCell, World.size_alloc, dsz]; omega) | omega)))) rfl ⟨⟨_, _, _, _, rfl⟩, ?_⟩
  exact (by repeat (first | (with_reducible exact hbW) | (with_reducible exact Below.refl _ _) | (with_reducible refine Below.alloc ?_ (by first | (simp only [World.size_setCell, World.size_alloc, dsz]; omega) | omega) _) | (with_reducible refine Below.setCell ?_ (by first | (simp only [World.size_setCell, World.size_alloc, dsz]; omega) | omega) _) | (with_reducible refine Below.drew ?_)))
set_option maxHeartbeats 4000000 in
set_option maxRecDepth 100000 in
theorem s_type {C : Nat → Nat → Value → Prop} (b s : Nat) (vx : Value) (tt : ByteArray) (hx0 : ExOK C vx) (w : World) (hS : Sees C w) (c0 : C b 1 (Pt s)) (c1 : C s 1 (Value.string tt)) (c2 : C b 3 (Value.int .i64 0)) (c3 : C b 4 vx) :
    Calls Tryz.prog 60 #[Nd 223 b] w fun e w' => NodeOf ⟨#[116, 121, 112, 101]⟩ e ∧ Below w.heap.size w w' := by
  have h0 := hS _ _ _ c0
  have ltb := hS.lt c0
  have n0 := World.new_ne w ⟨b, 1, none⟩ h0
  have h1 := hS _ _ _ c1
  have lts := hS.lt c1
  have n1 := World.new_ne w ⟨s, 1, none⟩ h1
  have h2 := hS _ _ _ c2
  have n2 := World.new_ne w ⟨b, 3, none⟩ h2
  have h3 := hS _ _ _ c3
  have n3 := World.new_ne w ⟨b, 4, none⟩ h3
  have HS := Lib.hid hS
  have BX : Blk (w.alloc (Obj.cells #[Value.string ⟨#[]⟩, Value.string ⟨#[]⟩, Value.slice none 0 0] 24)) w.heap.size 24 #[Value.string ⟨#[]⟩, Value.string ⟨#[]⟩, Value.slice none 0 0] := Blk.new w _ _
  clear hS c0 c1 c2 c3
  go_enter Tryz.func60, Tryz.ntmps60
  go_wp2_with (first | (go_at_call 61; refine (hx0 _ (HS.out.later (by repeat (first | (with_reducible exact hbW) | (with_reducible exact Below.refl _ _) | (with_reducible refine Below.alloc ?_ (by first | (simp only [World.size_setCell, World.size_alloc, dsz]; omega) | omega) _) | (with_reducible refine Below.setCell ?_ (by first | (simp only [World.size_setCell, World.size_alloc, dsz]; omega) | omega) _) | (with_reducible refine Below.drew ?_))))).mono ?_; rintro e w2 ⟨⟨kk, t2, a2, l2, c2, rfl⟩, hb2⟩; have hbW := Below.trans (show Below w.heap.size w _ from (by repeat (first | (with_reducible exact hbW) | (with_reducible exact Below.refl _ _) | (with_reducible refine Below.alloc ?_ (by first | (simp only [World.size_setCell, World.size_alloc, dsz]; omega) | omega) _) | (with_reducible refine Below.setCell ?_ (by first | (simp only [World.size_setCell, World.size_alloc, dsz]; omega) | omega) _) | (with_reducible refine Below.drew ?_)))) (hb2.mono (by first | (simp only [World.size_setCell, World.size_alloc, dsz]; omega) | omega)); have hsz := hbW.size; have BX := BX.later (B := w.heap.size + 1) (Below.trans (by repeat (first | (with_reducible exact Below.refl _ _) | (with_reducible refine Below.alloc ?_ (by first | (simp only [World.size_setCell, World.size_alloc, dsz]; omega) | omega) _) | (with_reducible refine Below.drew ?_))) (hb2.mono (by first | (simp only [World.size_setCell, World.size_alloc, dsz]; omega) | omega))) (by omega); have bxl := BX.lt; have f0 := BX.frozen 0; have f1 := BX.frozen 1; have f2 := BX.frozen 2; have x0 := BX.cell 0 _ rfl; have x1 := BX.cell 1 _ rfl; have x2 := BX.cell 2 _ rfl; have k0 := (hbW.cell (p := ⟨b, 1, none⟩) ltb).trans h0; have k1 := (hbW.cell (p := ⟨s, 1, none⟩) lts).trans h1; have k2 := (hbW.cell (p := ⟨b, 3, none⟩) ltb).trans h2; have k3 := (hbW.cell (p := ⟨b, 4, none⟩) ltb).trans h3; clear hb2) | (go_at_call 77; refine (valid_any _ _).mono ?_; rintro e w4 ⟨rfl, rfl⟩) | (go_at_call 78; refine (kids_id _ _).mono ?_; rintro e w3 ⟨rfl, rfl⟩))
  refine bodyPost_ret (ret_node rfl _ rfl (by first | (with_reducible exact Blk.node3 BX) | (with_reducible exact Blk.new _ _ _) | (with_reducible exact (Blk.node3 BX).later ((Below.refl _ _).alloc (Nat.le_refl _) _) (by first | (simp only [World.size_setCell, World.size_alloc, dsz]; omega) | omega)))) rfl ⟨⟨_, _, _, _, rfl⟩, ?_⟩
  exact (by repeat (first | (with_reducible exact hbW) | (with_reducible exact Below.refl _ _) | (with_reducible refine Below.alloc ?_ (by first | (simp only [World.size_setCell, World.size_alloc, dsz]; omega) | omega) _) | (with_reducible refine Below.setCell ?_ (by first | (simp only [World.size_setCell, World.size_alloc, dsz]; omega) | omega) _) | (with_reducible refine Below.drew ?_)))
set_option maxHeartbeats 4000000 in
set_option maxRecDepth 100000 in
theorem s_alias {C : Nat → Nat → Value → Prop} (b s : Nat) (vx : Value) (tt : ByteArray) (hx0 : ExOK C vx) (w : World) (hS : Sees C w) (c0 : C b 1 (Pt s)) (c1 : C s 1 (Value.string tt)) (c2 : C b 3 (Value.int .i64 1)) (c3 : C b 4 vx) :
    Calls Tryz.prog 60 #[Nd 223 b] w fun e w' => NodeOf ⟨#[97, 108, 105, 97, 115]⟩ e ∧ Below w.heap.size w w' := by
  have h0 := hS _ _ _ c0
  have ltb := hS.lt c0
  have n0 := World.new_ne w ⟨b, 1, none⟩ h0
  have h1 := hS _ _ _ c1
  have lts := hS.lt c1
  have n1 := World.new_ne w ⟨s, 1, none⟩ h1
  have h2 := hS _ _ _ c2
  have n2 := World.new_ne w ⟨b, 3, none⟩ h2
  have h3 := hS _ _ _ c3
  have n3 := World.new_ne w ⟨b, 4, none⟩ h3
  have HS := Lib.hid hS
  have BX : Blk (w.alloc (Obj.cells #[Value.string ⟨#[]⟩, Value.string ⟨#[]⟩, Value.slice none 0 0] 24)) w.heap.size 24 #[Value.string ⟨#[]⟩, Value.string ⟨#[]⟩, Value.slice none 0 0] := Blk.new w _ _
  clear hS c0 c1 c2 c3
  go_enter Tryz.func60, Tryz.ntmps60
  go_wp2_with (first | (go_at_call 61; refine (hx0 _ (HS.out.later (by repeat (first | (with_reducible exact hbW) | (with_reducible exact Below.refl _ _) | (with_reducible refine Below.alloc ?_ (by first | (simp only [World.size_setCell, World.size_alloc, dsz]; omega) | omega) _) | (with_reducible refine Below.setCell ?_ (by first | (simp only [World.size_setCell, World.size_alloc, dsz]; omega) | omega) _) | (with_reducible refine Below.drew ?_))))).mono ?_; rintro e w2 ⟨⟨kk, t2, a2, l2, c2, rfl⟩, hb2⟩; have hbW := Below.trans (show Below w.heap.size w _ from (by repeat (first | (with_reducible exact hbW) | (with_reducible exact Below.refl _ _) | (with_reducible refine Below.alloc ?_ (by first | (simp only [World.size_setCell, World.size_alloc, dsz]; omega) | omega) _) | (with_reducible refine Below.setCell ?_ (by first | (simp only [World.size_setCell, World.size_alloc, dsz]; omega) | omega) _) | (with_reducible refine Below.drew ?_)))) (hb2.mono (by first | (simp only [World.size_setCell, World.size_alloc, dsz]; omega) | omega)); have hsz := hbW.size; have BX := BX.later (B := w.heap.size + 1) (Below.trans (by repeat (first | (with_reducible exact Below.refl _ _) | (with_reducible refine Below.alloc ?_ (by first | (simp only [World.size_setCell, World.size_alloc, dsz]; omega) | omega) _) | (with_reducible refine Below.drew ?_))) (hb2.mono (by first | (simp only [World.size_setCell, World.size_alloc, dsz]; omega) | omega))) (by omega); have bxl := BX.lt; have f0 := BX.frozen 0; have f1 := BX.frozen 1; have f2 := BX.frozen 2; have x0 := BX.cell 0 _ rfl; have x1 := BX.cell 1 _ rfl; have x2 := BX.cell 2 _ rfl; have k0 := (hbW.cell (p := ⟨b, 1, none⟩) ltb).trans h0; have k1 := (hbW.cell (p := ⟨s, 1, none⟩) lts).trans h1; have k2 := (hbW.cell (p := ⟨b, 3, none⟩) ltb).trans h2; have k3 := (hbW.cell (p := ⟨b, 4, none⟩) ltb).trans h3; clear hb2) | (go_at_call 77; refine (valid_any _ _).mono ?_; rintro e w4 ⟨rfl, rfl⟩) | (go_at_call 78; refine (kids_id _ _).mono ?_; rintro e w3 ⟨rfl, rfl⟩))
  refine bodyPost_ret (ret_node rfl _ rfl (by first | (with_reducible exact Blk.node3 BX) | (with_reducible exact Blk.new _ _ _) | (with_reducible exact (Blk.node3 BX).later ((Below.refl _ _).alloc (Nat.le_refl _) _) (by first | (simp only [World.size_setCell, World.size_alloc, dsz]; omega) | omega)))) rfl ⟨⟨_, _, _, _, rfl⟩, ?_⟩
  exact (by repeat (first | (with_reducible exact hbW) | (with_reducible exact Below.refl _ _) | (with_reducible refine Below.alloc ?_ (by first | (simp only [World.size_setCell, World.size_alloc, dsz]; omega) | omega) _) | (with_reducible refine Below.setCell ?_ (by first | (simp only [World.size_setCell, World.size_alloc, dsz]; omega) | omega) _) | (with_reducible refine Below.drew ?_)))
set_option maxHeartbeats 4000000 in
set_option maxRecDepth 100000 in
theorem d_func {C : Nat → Nat → Value → Prop} (b s t : Nat) (px pz : Value) (tt : ByteArray) (hz : pz = .pointer none ∨ ∃ q, pz = Pt q) (hx0 : FsOK C px) (hx1 : ExOK C (Nd 94 t)) (w : World) (hS : Sees C w) (c0 : C b 1 (px)) (c1 : C b 2 (Pt s)) (c2 : C s 1 (Value.string tt)) (c3 : C b 3 (Pt t)) (c4 : C b 4 (pz)) :
    Calls Tryz.prog 59 #[Nd 234 b] w fun e w' => NodeOf ⟨#[102, 117, 110, 99]⟩ e ∧ Below w.heap.size w w' := by
  have h0 := hS _ _ _ c0
  have ltb := hS.lt c0
  have n0 := World.new_ne w ⟨b, 1, none⟩ h0
  have h1 := hS _ _ _ c1
  have n1 := World.new_ne w ⟨b, 2, none⟩ h1
  have h2 := hS _ _ _ c2
  have lts := hS.lt c2
  have n2 := World.new_ne w ⟨s, 1, none⟩ h2
  have h3 := hS _ _ _ c3
  have n3 := World.new_ne w ⟨b, 3, none⟩ h3
  have h4 := hS _ _ _ c4
  have n4 := World.new_ne w ⟨b, 4, none⟩ h4
  have HS := Lib.hid hS
  have BX : Blk (w.alloc (Obj.cells #[Value.string ⟨#[]⟩, Value.string ⟨#[]⟩, Value.slice none 0 0] 24)) w.heap.size 24 #[Value.string ⟨#[]⟩, Value.string ⟨#[]⟩, Value.slice none 0 0] := Blk.new w _ _
  clear hS c0 c1 c2 c3 c4
  go_enter Tryz.func59, Tryz.ntmps59
  rcases hz with rfl | ⟨q, rfl⟩
  · go_wp2_with fail
    refine (none_node _).mono ?_; rintro e w2 ⟨rfl, hb2⟩; have hbW := Below.trans (show Below w.heap.size w _ from (by repeat (first | (with_reducible exact hbW) | (with_reducible exact Below.refl _ _) | (with_reducible refine Below.alloc ?_ (by first | (simp only [World.size_setCell, World.size_alloc, dsz]; omega) | omega) _) | (with_reducible refine Below.setCell ?_ (by first | (simp only [World.size_setCell, World.size_alloc, dsz]; omega) | omega) _) | (with_reducible refine Below.drew ?_)))) (hb2.mono (by first | (simp only [World.size_setCell, World.size_alloc, dsz]; omega) | omega)); have hsz := hbW.size; have BX := BX.later (B := w.heap.size + 1) (Below.trans (by repeat (first | (with_reducible exact Below.refl _ _) | (with_reducible refine Below.alloc ?_ (by first | (simp only [World.size_setCell, World.size_alloc, dsz]; omega) | omega) _) | (with_reducible refine Below.drew ?_))) (hb2.mono (by first | (simp only [World.size_setCell, World.size_alloc, dsz]; omega) | omega))) (by omega); have bxl := BX.lt; have f0 := BX.frozen 0; have f1 := BX.frozen 1; have f2 := BX.frozen 2; have x0 := BX.cell 0 _ rfl; have x1 := BX.cell 1 _ rfl; have x2 := BX.cell 2 _ rfl; have k0 := (hbW.cell (p := ⟨b, 1, none⟩) ltb).trans h0; have k1 := (hbW.cell (p := ⟨b, 2, none⟩) ltb).trans h1; have k2 := (hbW.cell (p := ⟨s, 1, none⟩) lts).trans h2; have k3 := (hbW.cell (p := ⟨b, 3, none⟩) ltb).trans h3; have k4 := (hbW.cell (p := ⟨b, 4, none⟩) ltb).trans h4; have m0 := World.new_ne w2 ⟨b, 1, none⟩ k0; have m2 := World.new_ne w2 ⟨s, 1, none⟩ k2; have mX := World.new_ne w2 ⟨w.heap.size, 0, none⟩ x0; have lb2 : b < w2.heap.size := (by omega); have ls2 : s < w2.heap.size := (by omega); clear hb2
    go_wp2_with fail
    have BY : Blk (w2.alloc (Obj.cells #[Value.string ⟨#[110, 111, 110, 101]⟩, Value.string ⟨#[]⟩, Value.slice none 0 0] 24)) w2.heap.size 24 #[Value.string ⟨#[110, 111, 110, 101]⟩, Value.string ⟨#[]⟩, Value.slice none 0 0] := Blk.new w2 _ _
    have nY : w.heap.size ≠ w2.heap.size := by omega
    have hsY := hsz
    obtain ⟨y0, y1, y2⟩ := And.intro (BY.cell 0 _ rfl) (And.intro (BY.cell 1 _ rfl) (BY.cell 2 _ rfl))
    go_region_held3 (fun w' => w'.cell? ⟨b, 1, none⟩ = some (px) ∧ w'.cell? ⟨b, 2, none⟩ = some (Pt s) ∧ w'.cell? ⟨s, 1, none⟩ = some (Value.string tt) ∧ w'.cell? ⟨b, 3, none⟩ = some (Pt t) ∧ w'.cell? ⟨w2.heap.size, 0, none⟩ = some (Value.string ⟨#[110, 111, 110, 101]⟩) ∧ w'.cell? ⟨w2.heap.size, 1, none⟩ = some (Value.string ⟨#[]⟩) ∧ w'.cell? ⟨w2.heap.size, 2, none⟩ = some (Value.slice none 0 0)) (go_keep)
      (first | (go_at_call 79; refine (hx0 _ (HS.out.later (by repeat (first | (with_reducible exact hbW) | (with_reducible exact Below.refl _ _) | (with_reducible refine Below.alloc ?_ (by first | (simp only [World.size_setCell, World.size_alloc, dsz]; omega) | omega) _) | (with_reducible refine Below.setCell ?_ (by first | (simp only [World.size_setCell, World.size_alloc, dsz]; omega) | omega) _) | (with_reducible refine Below.drew ?_))))).mono ?_; rintro e w3 ⟨⟨kk, t2, a2, l2, c2, rfl⟩, hb2⟩; have hbW := Below.trans (show Below w.heap.size w _ from (by repeat (first | (with_reducible exact hbW) | (with_reducible exact Below.refl _ _) | (with_reducible refine Below.alloc ?_ (by first | (simp only [World.size_setCell, World.size_alloc, dsz]; omega) | omega) _) | (with_reducible refine Below.setCell ?_ (by first | (simp only [World.size_setCell, World.size_alloc, dsz]; omega) | omega) _) | (with_reducible refine Below.drew ?_)))) (hb2.mono (by first | (simp only [World.size_setCell, World.size_alloc, dsz]; omega) | omega)); have hsz := hbW.size; have BX := BX.later (B := w.heap.size + 1) (Below.trans (by repeat (first | (with_reducible exact Below.refl _ _) | (with_reducible refine Below.alloc ?_ (by first | (simp only [World.size_setCell, World.size_alloc, dsz]; omega) | omega) _) | (with_reducible refine Below.drew ?_))) (hb2.mono (by first | (simp only [World.size_setCell, World.size_alloc, dsz]; omega) | omega))) (by omega); have BY := BY.later (B := w2.heap.size + 1) (Below.trans (by repeat (first | (with_reducible exact Below.refl _ _) | (with_reducible refine Below.alloc ?_ (by first | (simp only [World.size_setCell, World.size_alloc, dsz]; omega) | omega) _) | (with_reducible refine Below.drew ?_))) (hb2.mono (by first | (simp only [World.size_setCell, World.size_alloc, dsz]; omega) | omega))) (by omega); have byl := BY.lt; have y0 := BY.cell 0 _ rfl; have y1 := BY.cell 1 _ rfl; have y2 := BY.cell 2 _ rfl; have bxl := BX.lt; have f0 := BX.frozen 0; have f1 := BX.frozen 1; have f2 := BX.frozen 2; have x0 := BX.cell 0 _ rfl; have x1 := BX.cell 1 _ rfl; have x2 := BX.cell 2 _ rfl; have k0 := (hbW.cell (p := ⟨b, 1, none⟩) ltb).trans h0; have k1 := (hbW.cell (p := ⟨b, 2, none⟩) ltb).trans h1; have k2 := (hbW.cell (p := ⟨s, 1, none⟩) lts).trans h2; have k3 := (hbW.cell (p := ⟨b, 3, none⟩) ltb).trans h3; have k4 := (hbW.cell (p := ⟨b, 4, none⟩) ltb).trans h4; clear hb2) | (go_at_call 61; refine (hx1 _ (HS.out.later (by repeat (first | (with_reducible exact hbW) | (with_reducible exact Below.refl _ _) | (with_reducible refine Below.alloc ?_ (by first | (simp only [World.size_setCell, World.size_alloc, dsz]; omega) | omega) _) | (with_reducible refine Below.setCell ?_ (by first | (simp only [World.size_setCell, World.size_alloc, dsz]; omega) | omega) _) | (with_reducible refine Below.drew ?_))))).mono ?_; rintro e w3 ⟨⟨kk, t2, a2, l2, c2, rfl⟩, hb2⟩; have hbW := Below.trans (show Below w.heap.size w _ from (by repeat (first | (with_reducible exact hbW) | (with_reducible exact Below.refl _ _) | (with_reducible refine Below.alloc ?_ (by first | (simp only [World.size_setCell, World.size_alloc, dsz]; omega) | omega) _) | (with_reducible refine Below.setCell ?_ (by first | (simp only [World.size_setCell, World.size_alloc, dsz]; omega) | omega) _) | (with_reducible refine Below.drew ?_)))) (hb2.mono (by first | (simp only [World.size_setCell, World.size_alloc, dsz]; omega) | omega)); have hsz := hbW.size; have BX := BX.later (B := w.heap.size + 1) (Below.trans (by repeat (first | (with_reducible exact Below.refl _ _) | (with_reducible refine Below.alloc ?_ (by first | (simp only [World.size_setCell, World.size_alloc, dsz]; omega) | omega) _) | (with_reducible refine Below.drew ?_))) (hb2.mono (by first | (simp only [World.size_setCell, World.size_alloc, dsz]; omega) | omega))) (by omega); have BY := BY.later (B := w2.heap.size + 1) (Below.trans (by repeat (first | (with_reducible exact Below.refl _ _) | (with_reducible refine Below.alloc ?_ (by first | (simp only [World.size_setCell, World.size_alloc, dsz]; omega) | omega) _) | (with_reducible refine Below.drew ?_))) (hb2.mono (by first | (simp only [World.size_setCell, World.size_alloc, dsz]; omega) | omega))) (by omega); have byl := BY.lt; have y0 := BY.cell 0 _ rfl; have y1 := BY.cell 1 _ rfl; have y2 := BY.cell 2 _ rfl; have bxl := BX.lt; have f0 := BX.frozen 0; have f1 := BX.frozen 1; have f2 := BX.frozen 2; have x0 := BX.cell 0 _ rfl; have x1 := BX.cell 1 _ rfl; have x2 := BX.cell 2 _ rfl; have k0 := (hbW.cell (p := ⟨b, 1, none⟩) ltb).trans h0; have k1 := (hbW.cell (p := ⟨b, 2, none⟩) ltb).trans h1; have k2 := (hbW.cell (p := ⟨s, 1, none⟩) lts).trans h2; have k3 := (hbW.cell (p := ⟨b, 3, none⟩) ltb).trans h3; have k4 := (hbW.cell (p := ⟨b, 4, none⟩) ltb).trans h4; clear hb2) | (go_at_call 78; refine (kids_id _ _).mono ?_; rintro e w3 ⟨rfl, rfl⟩))
    all_goals go_wp2_with fail
    refine bodyPost_ret (ret_node rfl _ rfl (by first | (with_reducible exact Blk.node3 BX) | (with_reducible exact (Blk.node3 BX).later ((Below.refl _ _).alloc (Nat.le_refl _) _) (by first | (simp only [World.size_setCell, World.size_alloc, dsz]; omega) | omega)))) rfl ⟨⟨_, _, _, _, rfl⟩, ?_⟩
    exact (by repeat (first | (with_reducible exact hbW) | (with_reducible exact Below.refl _ _) | (with_reducible refine Below.alloc ?_ (by first | (simp only [World.size_setCell, World.size_alloc, dsz]; omega) | omega) _) | (with_reducible refine Below.setCell ?_ (by first | (simp only [World.size_setCell, World.size_alloc, dsz]; omega) | omega) _) | (with_reducible refine Below.drew ?_)))
  · go_wp2_with fail
    refine (none_node _).mono ?_; rintro e w2 ⟨rfl, hb2⟩; have hbW := Below.trans (show Below w.heap.size w _ from (by repeat (first | (with_reducible exact hbW) | (with_reducible exact Below.refl _ _) | (with_reducible refine Below.alloc ?_ (by first | (simp only [World.size_setCell, World.size_alloc, dsz]; omega) | omega) _) | (with_reducible refine Below.setCell ?_ (by first | (simp only [World.size_setCell, World.size_alloc, dsz]; omega) | omega) _) | (with_reducible refine Below.drew ?_)))) (hb2.mono (by first | (simp only [World.size_setCell, World.size_alloc, dsz]; omega) | omega)); have hsz := hbW.size; have BX := BX.later (B := w.heap.size + 1) (Below.trans (by repeat (first | (with_reducible exact Below.refl _ _) | (with_reducible refine Below.alloc ?_ (by first | (simp only [World.size_setCell, World.size_alloc, dsz]; omega) | omega) _) | (with_reducible refine Below.drew ?_))) (hb2.mono (by first | (simp only [World.size_setCell, World.size_alloc, dsz]; omega) | omega))) (by omega); have bxl := BX.lt; have f0 := BX.frozen 0; have f1 := BX.frozen 1; have f2 := BX.frozen 2; have x0 := BX.cell 0 _ rfl; have x1 := BX.cell 1 _ rfl; have x2 := BX.cell 2 _ rfl; have k0 := (hbW.cell (p := ⟨b, 1, none⟩) ltb).trans h0; have k1 := (hbW.cell (p := ⟨b, 2, none⟩) ltb).trans h1; have k2 := (hbW.cell (p := ⟨s, 1, none⟩) lts).trans h2; have k3 := (hbW.cell (p := ⟨b, 3, none⟩) ltb).trans h3; have k4 := (hbW.cell (p := ⟨b, 4, none⟩) ltb).trans h4; have m0 := World.new_ne w2 ⟨b, 1, none⟩ k0; have m2 := World.new_ne w2 ⟨s, 1, none⟩ k2; have mX := World.new_ne w2 ⟨w.heap.size, 0, none⟩ x0; have lb2 : b < w2.heap.size := (by omega); have ls2 : s < w2.heap.size := (by omega); clear hb2
    go_wp2_with fail
    have BY : Blk (w2.alloc (Obj.cells #[Value.string ⟨#[98, 111, 100, 121]⟩, Value.string ⟨#[]⟩, Value.slice none 0 0] 24)) w2.heap.size 24 #[Value.string ⟨#[98, 111, 100, 121]⟩, Value.string ⟨#[]⟩, Value.slice none 0 0] := Blk.new w2 _ _
    have nY : w.heap.size ≠ w2.heap.size := by omega
    have hsY := hsz
    obtain ⟨y0, y1, y2⟩ := And.intro (BY.cell 0 _ rfl) (And.intro (BY.cell 1 _ rfl) (BY.cell 2 _ rfl))
    go_region_held3 (fun w' => w'.cell? ⟨b, 1, none⟩ = some (px) ∧ w'.cell? ⟨b, 2, none⟩ = some (Pt s) ∧ w'.cell? ⟨s, 1, none⟩ = some (Value.string tt) ∧ w'.cell? ⟨b, 3, none⟩ = some (Pt t) ∧ w'.cell? ⟨w2.heap.size, 0, none⟩ = some (Value.string ⟨#[98, 111, 100, 121]⟩) ∧ w'.cell? ⟨w2.heap.size, 1, none⟩ = some (Value.string ⟨#[]⟩) ∧ w'.cell? ⟨w2.heap.size, 2, none⟩ = some (Value.slice none 0 0)) (go_keep)
      (first | (go_at_call 79; refine (hx0 _ (HS.out.later (by repeat (first | (with_reducible exact hbW) | (with_reducible exact Below.refl _ _) | (with_reducible refine Below.alloc ?_ (by first | (simp only [World.size_setCell, World.size_alloc, dsz]; omega) | omega) _) | (with_reducible refine Below.setCell ?_ (by first | (simp only [World.size_setCell, World.size_alloc, dsz]; omega) | omega) _) | (with_reducible refine Below.drew ?_))))).mono ?_; rintro e w3 ⟨⟨kk, t2, a2, l2, c2, rfl⟩, hb2⟩; have hbW := Below.trans (show Below w.heap.size w _ from (by repeat (first | (with_reducible exact hbW) | (with_reducible exact Below.refl _ _) | (with_reducible refine Below.alloc ?_ (by first | (simp only [World.size_setCell, World.size_alloc, dsz]; omega) | omega) _) | (with_reducible refine Below.setCell ?_ (by first | (simp only [World.size_setCell, World.size_alloc, dsz]; omega) | omega) _) | (with_reducible refine Below.drew ?_)))) (hb2.mono (by first | (simp only [World.size_setCell, World.size_alloc, dsz]; omega) | omega)); have hsz := hbW.size; have BX := BX.later (B := w.heap.size + 1) (Below.trans (by repeat (first | (with_reducible exact Below.refl _ _) | (with_reducible refine Below.alloc ?_ (by first | (simp only [World.size_setCell, World.size_alloc, dsz]; omega) | omega) _) | (with_reducible refine Below.drew ?_))) (hb2.mono (by first | (simp only [World.size_setCell, World.size_alloc, dsz]; omega) | omega))) (by omega); have BY := BY.later (B := w2.heap.size + 1) (Below.trans (by repeat (first | (with_reducible exact Below.refl _ _) | (with_reducible refine Below.alloc ?_ (by first | (simp only [World.size_setCell, World.size_alloc, dsz]; omega) | omega) _) | (with_reducible refine Below.drew ?_))) (hb2.mono (by first | (simp only [World.size_setCell, World.size_alloc, dsz]; omega) | omega))) (by omega); have byl := BY.lt; have y0 := BY.cell 0 _ rfl; have y1 := BY.cell 1 _ rfl; have y2 := BY.cell 2 _ rfl; have bxl := BX.lt; have f0 := BX.frozen 0; have f1 := BX.frozen 1; have f2 := BX.frozen 2; have x0 := BX.cell 0 _ rfl; have x1 := BX.cell 1 _ rfl; have x2 := BX.cell 2 _ rfl; have k0 := (hbW.cell (p := ⟨b, 1, none⟩) ltb).trans h0; have k1 := (hbW.cell (p := ⟨b, 2, none⟩) ltb).trans h1; have k2 := (hbW.cell (p := ⟨s, 1, none⟩) lts).trans h2; have k3 := (hbW.cell (p := ⟨b, 3, none⟩) ltb).trans h3; have k4 := (hbW.cell (p := ⟨b, 4, none⟩) ltb).trans h4; clear hb2) | (go_at_call 61; refine (hx1 _ (HS.out.later (by repeat (first | (with_reducible exact hbW) | (with_reducible exact Below.refl _ _) | (with_reducible refine Below.alloc ?_ (by first | (simp only [World.size_setCell, World.size_alloc, dsz]; omega) | omega) _) | (with_reducible refine Below.setCell ?_ (by first | (simp only [World.size_setCell, World.size_alloc, dsz]; omega) | omega) _) | (with_reducible refine Below.drew ?_))))).mono ?_; rintro e w3 ⟨⟨kk, t2, a2, l2, c2, rfl⟩, hb2⟩; have hbW := Below.trans (show Below w.heap.size w _ from (by repeat (first | (with_reducible exact hbW) | (with_reducible exact Below.refl _ _) | (with_reducible refine Below.alloc ?_ (by first | (simp only [World.size_setCell, World.size_alloc, dsz]; omega) | omega) _) | (with_reducible refine Below.setCell ?_ (by first | (simp only [World.size_setCell, World.size_alloc, dsz]; omega) | omega) _) | (with_reducible refine Below.drew ?_)))) (hb2.mono (by first | (simp only [World.size_setCell, World.size_alloc, dsz]; omega) | omega)); have hsz := hbW.size; have BX := BX.later (B := w.heap.size + 1) (Below.trans (by repeat (first | (with_reducible exact Below.refl _ _) | (with_reducible refine Below.alloc ?_ (by first | (simp only [World.size_setCell, World.size_alloc, dsz]; omega) | omega) _) | (with_reducible refine Below.drew ?_))) (hb2.mono (by first | (simp only [World.size_setCell, World.size_alloc, dsz]; omega) | omega))) (by omega); have BY := BY.later (B := w2.heap.size + 1) (Below.trans (by repeat (first | (with_reducible exact Below.refl _ _) | (with_reducible refine Below.alloc ?_ (by first | (simp only [World.size_setCell, World.size_alloc, dsz]; omega) | omega) _) | (with_reducible refine Below.drew ?_))) (hb2.mono (by first | (simp only [World.size_setCell, World.size_alloc, dsz]; omega) | omega))) (by omega); have byl := BY.lt; have y0 := BY.cell 0 _ rfl; have y1 := BY.cell 1 _ rfl; have y2 := BY.cell 2 _ rfl; have bxl := BX.lt; have f0 := BX.frozen 0; have f1 := BX.frozen 1; have f2 := BX.frozen 2; have x0 := BX.cell 0 _ rfl; have x1 := BX.cell 1 _ rfl; have x2 := BX.cell 2 _ rfl; have k0 := (hbW.cell (p := ⟨b, 1, none⟩) ltb).trans h0; have k1 := (hbW.cell (p := ⟨b, 2, none⟩) ltb).trans h1; have k2 := (hbW.cell (p := ⟨s, 1, none⟩) lts).trans h2; have k3 := (hbW.cell (p := ⟨b, 3, none⟩) ltb).trans h3; have k4 := (hbW.cell (p := ⟨b, 4, none⟩) ltb).trans h4; clear hb2) | (go_at_call 78; refine (kids_id _ _).mono ?_; rintro e w3 ⟨rfl, rfl⟩))
    all_goals go_wp2_with fail
    refine bodyPost_ret (ret_node rfl _ rfl (by first | (with_reducible exact Blk.node3 BX) | (with_reducible exact (Blk.node3 BX).later ((Below.refl _ _).alloc (Nat.le_refl _) _) (by first | (simp only [World.size_setCell, World.size_alloc, dsz]; omega) | omega)))) rfl ⟨⟨_, _, _, _, rfl⟩, ?_⟩
    exact (by repeat (first | (with_reducible exact hbW) | (with_reducible exact Below.refl _ _) | (with_reducible refine Below.alloc ?_ (by first | (simp only [World.size_setCell, World.size_alloc, dsz]; omega) | omega) _) | (with_reducible refine Below.setCell ?_ (by first | (simp only [World.size_setCell, World.size_alloc, dsz]; omega) | omega) _) | (with_reducible refine Below.drew ?_)))
set_option maxHeartbeats 4000000 in
set_option maxRecDepth 100000 in
theorem d_gen0 {C : Nat → Nat → Value → Prop} (b i : Nat) (wl : Value) (s : ByteArray) (hi : i < 25) (hs : s.toList.isEmpty = false) (hsz1 : s.size ≤ 1000) (hx0 : LsOK C 76 ⟨#[]⟩ wl 60) (w : World) (hg : w.cell? ⟨0, 61 + i, none⟩ = some (.string s)) (hS : Sees C w) (c0 : C b 4 (wl)) (c1 : C b 2 (Value.int .i64 (61 + (i : Int)))) (c2 : C b 3 (Value.int .i64 0)) :
    Calls Tryz.prog 59 #[Nd 227 b] w fun e w' => NodeOf (⟨#[100, 101, 99, 108, 97, 114, 101, 32]⟩ ++ s) e ∧ Below w.heap.size w w' := by
  have h0 := hS _ _ _ c0
  have h1 := hS _ _ _ c1
  have h2 := hS _ _ _ c2
  have ltb := hS.lt c0
  have n0 := World.new_ne w ⟨b, 4, none⟩ h0
  have lt0 : 0 < w.heap.size := by omega
  have HS := Lib.hid hS
  have HSE := Lib.hid hs
  have BX : Blk (w.alloc (Obj.cells #[Value.string ⟨#[]⟩, Value.string ⟨#[]⟩, Value.slice none 0 0] 24)) w.heap.size 24 #[Value.string ⟨#[]⟩, Value.string ⟨#[]⟩, Value.slice none 0 0] := Blk.new w _ _
  clear hS hs c0 c1 c2
  go_enter Tryz.func59, Tryz.ntmps59
  go_wp2_with fail
  refine (hx0 _ (HS.out.later (by repeat (first | (with_reducible exact hbW) | (with_reducible exact Below.refl _ _) | (with_reducible refine Below.alloc ?_ (by first | (simp only [World.size_setCell, World.size_alloc, dsz]; omega) | omega) _) | (with_reducible refine Below.setCell ?_ (by first | (simp only [World.size_setCell, World.size_alloc, dsz]; omega) | omega) _) | (with_reducible refine Below.drew ?_))))).mono ?_
  rintro e w2 ⟨⟨t2, a2, l2, c2, rfl⟩, hb2⟩
  have hbW := Below.trans (show Below w.heap.size w _ from (by repeat (first | (with_reducible exact hbW) | (with_reducible exact Below.refl _ _) | (with_reducible refine Below.alloc ?_ (by first | (simp only [World.size_setCell, World.size_alloc, dsz]; omega) | omega) _) | (with_reducible refine Below.setCell ?_ (by first | (simp only [World.size_setCell, World.size_alloc, dsz]; omega) | omega) _) | (with_reducible refine Below.drew ?_)))) (hb2.mono (by first | (simp only [World.size_setCell, World.size_alloc, dsz]; omega) | omega))
  have hsz := hbW.size
  have BX := BX.later (B := w.heap.size + 1) (Below.trans (by repeat (first | (with_reducible exact Below.refl _ _) | (with_reducible refine Below.alloc ?_ (by first | (simp only [World.size_setCell, World.size_alloc, dsz]; omega) | omega) _) | (with_reducible refine Below.drew ?_))) (hb2.mono (by first | (simp only [World.size_setCell, World.size_alloc, dsz]; omega) | omega))) (by omega)
  have bxl := BX.lt
  have f0 := BX.frozen 0
  have f1 := BX.frozen 1
  have f2 := BX.frozen 2
  have x0 := BX.cell 0 _ rfl
  have x1 := BX.cell 1 _ rfl
  have x2 := BX.cell 2 _ rfl
  have k0 := (hbW.cell (p := ⟨b, 4, none⟩) ltb).trans h0
  have k1 := (hbW.cell (p := ⟨b, 2, none⟩) ltb).trans h1
  have k2 := (hbW.cell (p := ⟨b, 3, none⟩) ltb).trans h2
  have kg := (hbW.cell (p := ⟨0, 61 + i, none⟩) lt0).trans hg
  have lb2 : b < w2.heap.size := by omega
  have mX := World.new_ne w2 ⟨w.heap.size, 0, none⟩ x0
  clear hb2
  go_wp2_with fail
  refine (token_any i s _ hi HSE.out ((Below.refl w2.heap.size w2).alloc (Nat.le_refl _) _ |>.cell (p := ⟨0, 61 + i, none⟩) (by show 0 < w2.heap.size; omega) |>.trans kg)).mono ?_
  rintro e w4 ⟨rfl, hw4⟩
  subst hw4
  go_wp2_with fail
  refine (valid_any _ _).mono ?_
  rintro e w4 ⟨rfl, hw4⟩
  subst hw4
  go_wp2_with fail
  refine bodyPost_ret (ret_node rfl _ rfl (by first | (with_reducible exact Blk.node3 BX) | (with_reducible exact (Blk.node3 BX).later ((Below.refl _ _).alloc (Nat.le_refl _) _) (by first | (simp only [World.size_setCell, World.size_alloc, dsz]; omega) | omega)))) rfl ⟨⟨_, _, _, _, rfl⟩, ?_⟩
  exact (by repeat (first | (with_reducible exact hbW) | (with_reducible exact Below.refl _ _) | (with_reducible refine Below.alloc ?_ (by first | (simp only [World.size_setCell, World.size_alloc, dsz]; omega) | omega) _) | (with_reducible refine Below.setCell ?_ (by first | (simp only [World.size_setCell, World.size_alloc, dsz]; omega) | omega) _) | (with_reducible refine Below.drew ?_)))
set_option maxHeartbeats 4000000 in
set_option maxRecDepth 100000 in
theorem d_gen1 {C : Nat → Nat → Value → Prop} (b i : Nat) (wl : Value) (s : ByteArray) (hi : i < 25) (hs : s.toList.isEmpty = false) (hsz1 : s.size ≤ 1000) (hx0 : LsOK C 76 ⟨#[]⟩ wl 60) (w : World) (hg : w.cell? ⟨0, 61 + i, none⟩ = some (.string s)) (hS : Sees C w) (c0 : C b 4 (wl)) (c1 : C b 2 (Value.int .i64 (61 + (i : Int)))) (c2 : C b 3 (Value.int .i64 1)) :
    Calls Tryz.prog 59 #[Nd 227 b] w fun e w' => NodeOf (⟨#[100, 101, 99, 108, 97, 114, 101, 32]⟩ ++ s) e ∧ Below w.heap.size w w' := by
  have h0 := hS _ _ _ c0
  have h1 := hS _ _ _ c1
  have h2 := hS _ _ _ c2
  have ltb := hS.lt c0
  have n0 := World.new_ne w ⟨b, 4, none⟩ h0
  have lt0 : 0 < w.heap.size := by omega
  have HS := Lib.hid hS
  have HSE := Lib.hid hs
  have BX : Blk (w.alloc (Obj.cells #[Value.string ⟨#[]⟩, Value.string ⟨#[]⟩, Value.slice none 0 0] 24)) w.heap.size 24 #[Value.string ⟨#[]⟩, Value.string ⟨#[]⟩, Value.slice none 0 0] := Blk.new w _ _
  clear hS hs c0 c1 c2
  go_enter Tryz.func59, Tryz.ntmps59
  go_wp2_with fail
  refine (hx0 _ (HS.out.later (by repeat (first | (with_reducible exact hbW) | (with_reducible exact Below.refl _ _) | (with_reducible refine Below.alloc ?_ (by first | (simp only [World.size_setCell, World.size_alloc, dsz]; omega) | omega) _) | (with_reducible refine Below.setCell ?_ (by first | (simp only [World.size_setCell, World.size_alloc, dsz]; omega) | omega) _) | (with_reducible refine Below.drew ?_))))).mono ?_
  rintro e w2 ⟨⟨t2, a2, l2, c2, rfl⟩, hb2⟩
  have hbW := Below.trans (show Below w.heap.size w _ from (by repeat (first | (with_reducible exact hbW) | (with_reducible exact Below.refl _ _) | (with_reducible refine Below.alloc ?_ (by first | (simp only [World.size_setCell, World.size_alloc, dsz]; omega) | omega) _) | (with_reducible refine Below.setCell ?_ (by first | (simp only [World.size_setCell, World.size_alloc, dsz]; omega) | omega) _) | (with_reducible refine Below.drew ?_)))) (hb2.mono (by first | (simp only [World.size_setCell, World.size_alloc, dsz]; omega) | omega))
  have hsz := hbW.size
  have BX := BX.later (B := w.heap.size + 1) (Below.trans (by repeat (first | (with_reducible exact Below.refl _ _) | (with_reducible refine Below.alloc ?_ (by first | (simp only [World.size_setCell, World.size_alloc, dsz]; omega) | omega) _) | (with_reducible refine Below.drew ?_))) (hb2.mono (by first | (simp only [World.size_setCell, World.size_alloc, dsz]; omega) | omega))) (by omega)
  have bxl := BX.lt
  have f0 := BX.frozen 0
  have f1 := BX.frozen 1
  have f2 := BX.frozen 2
  have x0 := BX.cell 0 _ rfl
  have x1 := BX.cell 1 _ rfl
  have x2 := BX.cell 2 _ rfl
  have k0 := (hbW.cell (p := ⟨b, 4, none⟩) ltb).trans h0
  have k1 := (hbW.cell (p := ⟨b, 2, none⟩) ltb).trans h1
  have k2 := (hbW.cell (p := ⟨b, 3, none⟩) ltb).trans h2
  have kg := (hbW.cell (p := ⟨0, 61 + i, none⟩) lt0).trans hg
  have lb2 : b < w2.heap.size := by omega
  have mX := World.new_ne w2 ⟨w.heap.size, 0, none⟩ x0
  clear hb2
  go_wp2_with fail
  refine (token_any i s _ hi HSE.out ((Below.refl w2.heap.size w2).alloc (Nat.le_refl _) _ |>.cell (p := ⟨0, 61 + i, none⟩) (by show 0 < w2.heap.size; omega) |>.trans kg)).mono ?_
  rintro e w4 ⟨rfl, hw4⟩
  subst hw4
  go_wp2_with fail
  refine (valid_any _ _).mono ?_
  rintro e w4 ⟨rfl, hw4⟩
  subst hw4
  go_wp2_with fail
  refine bodyPost_ret (ret_node rfl _ rfl (by first | (with_reducible exact Blk.node3 BX) | (with_reducible exact (Blk.node3 BX).later ((Below.refl _ _).alloc (Nat.le_refl _) _) (by first | (simp only [World.size_setCell, World.size_alloc, dsz]; omega) | omega)))) rfl ⟨⟨_, _, _, _, rfl⟩, ?_⟩
  exact (by repeat (first | (with_reducible exact hbW) | (with_reducible exact Below.refl _ _) | (with_reducible refine Below.alloc ?_ (by first | (simp only [World.size_setCell, World.size_alloc, dsz]; omega) | omega) _) | (with_reducible refine Below.setCell ?_ (by first | (simp only [World.size_setCell, World.size_alloc, dsz]; omega) | omega) _) | (with_reducible refine Below.drew ?_)))
end Go.Proofs.YtpifflakohlglaaGreatFmt

