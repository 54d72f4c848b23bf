/-
  A PROOF OF 'Rows.FnUndefinedTypeNameDistinctSaid' ('github.com/d5/tengo/v2/zzlaws_root_b1.FnUndefinedTypeNameDistinct').
  The frame (the row's step) was written by the kit's program for this function; the plain law and the walk are this seat's.
-/
import Derived.Test.YoefkwGreatRows
import Derived.WalkKit
import Derived.ProofKit
import Derived.OpenShut
import Derived.ShutString
namespace Go.Proofs.YoefkwGreat.fnUndefinedTypeNameDistinct
open Go.ChangeShapes Go.WideShapes Go.ChangeAt Go.RowKit
open Go.ChangeMaps (open_string shut_string)
set_option linter.unusedVariables false      -- a walk need not use every 'w<i>' (that an integer argument fits its kind)

theorem own : ownKnob Efkg.prog.godebug = none := by kernel_rfl

/-! ### THE PLAIN LAW: no Go in sight: neither composed name is the bytes of undefined, whatever the bytes behind its prefix -/

/-- The bytes of two strings laid end to end. -/
theorem bytes_append (a b : ByteArray) : (a ++ b).toList = a.toList ++ b.toList := by
  simp [ByteArray.toList_eq, ByteArray.data_append]

/-- 'undefined' is not 'builtin-function:' with s behind it: the first bytes differ (u, b). -/
theorem not_builtin (s : ByteArray) :
    ([117, 110, 100, 101, 102, 105, 110, 101, 100] == ((ByteArray.mk #[98, 117, 105, 108, 116, 105, 110, 45, 102, 117, 110, 99, 116, 105, 111, 110, 58]) ++ s).toList) = false := by
  rw [bytes_append, ByteArray.toList_eq]
  simp

/-- 'undefined' is not 'user-function:' with s behind it: the second bytes differ (n, s). -/
theorem not_user (s : ByteArray) :
    ([117, 110, 100, 101, 102, 105, 110, 101, 100] == ((ByteArray.mk #[117, 115, 101, 114, 45, 102, 117, 110, 99, 116, 105, 111, 110, 58]) ++ s).toList) = false := by
  rw [bytes_append, ByteArray.toList_eq]
  simp

/-! ### STEP 1: THE WALK: the Go text returns true. 'Grown w w'': the world has at most new blocks (Derived/RowKit3.lean). -/
set_option maxHeartbeats 1000000 in
theorem walk (a0 : ByteArray) (w0 : a0.size ≤ maxLen) (w : World) :
    Calls Efkg.prog 3 #[.string a0] w fun e w' => e = .returned (.bool true) ∧ Grown w w' := by
  by_cases h : a0.size ≤ 1048576
  · have hb := not_builtin a0
    have hu := not_user a0
    go_enter Efkg.func3, Efkg.ntmps3
    go_wp2
    go_ret
    refine ⟨rfl, ?_⟩
    repeat (first | refine Grown.alloc ?_ _ _ | exact Grown.refl _)
  · have h' : 1048576 < a0.size := by omega
    go_enter Efkg.func3, Efkg.ntmps3
    go_wp2
    go_ret
    exact ⟨rfl, by repeat (first | exact Grown.refl _ | apply Grown.drew | apply Grown.alloc)⟩

/-! ### THE ROW's STEP: WRITTEN OUT: LEAVE IT -/
set_option maxRecDepth 100000 in
theorem lifted (os : Os) (started : os.Started) (H : Type) (enc : TypeId × Value → H) :
    ReturnsInHanded {} Efkg.checked os 3 .any (Rows.fnUndefinedTypeNameDistinctSpec.pre6 enc Efkg.prog Efkg.f3 Rows.fnUndefinedTypeNameDistinctRow.domain false) (Rows.fnUndefinedTypeNameDistinctSpec.post enc Efkg.prog Efkg.f3 false true false false) := by
  refine returnsInHanded_of_change (C := Efkg.checked) own started (by kernel_rfl) Efkg.func3
    (ChangeSpec.witness6 (enc := enc) (C := Efkg.checked) false ⟨#[], #[.string ByteArray.empty], []⟩ 8 (by kernel_rfl) (by kernel_rfl) (by kernel_rfl) (by kernel_rfl)) ?_
  intro W base args ds gs before hval0 hW hcnd _
  have hval : ∀ (j : Nat) t v, Efkg.f3.params[j]? = some t → args[j]? = some v → Value.okWide Efkg.prog W .any base t v := hval0
  have hW' := hW
  obtain ⟨p, q, hA0, hV, rfl, hfz, hnd⟩ := hW
  have hA : DataW.TrodAll enc Efkg.prog W 0 (fun _ => true) true Efkg.f3.params.toList args.toList ds p := hA0
  rw [Efkg.params3] at hA hval
  obtain ⟨v0, vs0, d0, ds0, p0, q0, hargs, rfl, rfl, h0, r0⟩ := trodAll_cons hA
  obtain ⟨rfl, rfl, rfl⟩ := trodAll_nil r0
  obtain rfl : args = #[v0] := by cases args; simp_all
  obtain ⟨rfl, rfl⟩ := trodVars_none hV
  obtain ⟨a0, rfl, rfl, rfl, w0⟩ := open_string Efkg.underlying9 (hval 0 9 v0 rfl rfl) h0
  clear hA0 hval0
  simp only [List.append_nil] at hW'
  refine (walk a0 w0 W).mono fun e W' ⟨he, hg⟩ => ?_
  subst he
  exact ⟨_, rfl, post_of_same (pa := []) (pv := []) hW' (fun _ _ _ => (trodAll_cons_mk (shut_bool Efkg.underlying4 _) trodAll_mk0)) (fun sp _ => (trodAll_cons_mk (shut_string Efkg.underlying9 w0) trodAll_mk0)) (fun _ _ => rfl) rfl
    (hg.frame _) hg.2.1 (ok_one (by kernel_rfl) rfl (okWide_bool_mk Efkg.underlying4 _))⟩

theorem over : Rows.fnUndefinedTypeNameDistinctRow.holds Efkg.pinned (OpenSpec.ofChange Rows.fnUndefinedTypeNameDistinctSpec) :=
  OpenClaim.holds_of_wide 3 Efkg.f3 rfl rfl rfl rfl rfl rfl rfl ⟨rfl, rfl, rfl, rfl, rfl⟩ rfl rfl rfl rfl rfl (by kernel_rfl) Efkg.func3 (by kernel_rfl)
    (of_decide_eq_true (by kernel_rfl)) (by unfold Func.isWrapper; first | (rw [if_pos (by decide +kernel)]; kernel_rfl) | (rw [if_neg (by decide +kernel)]; exact ⟨rfl, rfl⟩))
    (fun os started H enc _ => lifted os started H enc)

end Go.Proofs.YoefkwGreat.fnUndefinedTypeNameDistinct

namespace Go.Proofs.YoefkwGreat
/-- ████ THE STATEMENT ████ -/
theorem fnUndefinedTypeNameDistinct_proved : Rows.FnUndefinedTypeNameDistinctSaid :=
  fnUndefinedTypeNameDistinct.over
end Go.Proofs.YoefkwGreat
