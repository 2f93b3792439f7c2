import PyProof.Rows.All
import Wide.All
import OpenK.AllK
import Wide.FinOn
import Lean
import PySem.Challenge.RW_ik0181_01
open PySem PySem.W PyProof.Rows
set_option Elab.async false
set_option compiler.extract_closed false
set_option genInjectivity false
set_option genSizeOfSpec false
set_option maxRecDepth 100000
set_option maxHeartbeats 8000000
set_option linter.unusedSimpArgs false
set_option linter.unusedVariables false
set_option pp.deepTerms false
set_option pp.maxSteps 100000
set_option pp.deepTerms.threshold 3
namespace Mine
def qv : Program := { PySem.Challenge.pw_ik0181_01 with main := { PySem.Challenge.pw_ik0181_01.main with body := [0, 2, 3, 5, 7, 9, 10, 11, 12, 13, 15, 16, 17, 18, 19, 20, 21, 22].filterMap fun i => PySem.Challenge.pw_ik0181_01.main.body[i]? } }
noncomputable def zHead (H : Hook) (hl) (k1) (hw) (hc) := holds_open (r := PySem.Challenge.rw_ik0181_01.row) (q := qv) (loose := [PySem.Str.ofString "filterfalse", PySem.Str.ofString "_NodeInfo"]) (Xt := fun s => xlAt qv [] s && recOk (RowW.records (OpenRow.toRowW PySem.Challenge.rw_ik0181_01.row)) s) (XP := XL qv []) (Yf := Hook.obs H) (Ya := Hook.val H) (YP := Hook.says H) (N := 3576) hl (Hook.of H) (Hook.keeps H) (fun s e => xl_of s (Bool.and_eq_true_iff.mp e).1) XL.keeps (by rfl) (by rfl) (by rfl) (fun s e => recFacts_of (Bool.and_eq_true_iff.mp e).2) (by rfl) k1 (by decide +kernel) ⟨rfl, rfl, rfl, rfl, rfl, by decide +kernel⟩ hw hc
local macro_rules | `(tactic| o_head $H) => `(tactic| (refine zHead $H ?hl ‹_› ?hw ?hc; (case hl => intro w; kernel_rfl)))
local macro_rules | `(tactic| o_law) => `(tactic| refine holds_law (by decide +kernel) fun said => ?_)
open_top hd for PySem.Challenge.rw_ik0181_01
end Mine
namespace Mine
open Spec Calls
open AutoSeq1 (wpAny_loadPart')
open MeetsSeq MeetsSeq3 PySem.F
theorem fillAll : (fun (_ : OpenLaw) (_ : Params → Frag) => True) PySem.Challenge.rw_ik0181_01 hd.heap_1 := by
  k_fill
  trivial
section
theorem nep {A B : Type} (i : Nonempty A) (j : Nonempty B) : Nonempty (A × B) := i.elim fun a => j.elim fun b => ⟨(a, b)⟩
@[irreducible] def zf {A B : Type} (p : A × B) : A := p.1
@[irreducible] def zs {A B : Type} (p : A × B) : B := p.2
theorem neW : Nonempty World := ⟨⟨fun _ _ => 0, { strHash := fun _ => 0, shareClass := fun _ => 0, mergeTok := fun _ => 0, idOf := fun _ => 0, idOfShared := fun _ _ => 0, followText := fun _ => false, idOfImm := fun _ => 0 }⟩⟩
theorem neS : Nonempty Shared := ⟨{}⟩
theorem neA : Nonempty Around := ⟨{}⟩
noncomputable def zwt {A : Type} (i : Nonempty A) (P : A → Prop) : A := Classical.epsilon (h := i) fun x => ¬ P x
theorem zk0 {A : Type} (i : Nonempty A) {P : A → Prop} (h : P (zwt i P)) : ∀ x, P x := fun x => Classical.byContradiction fun n => Classical.epsilon_spec (p := fun x => ¬ P x) ⟨x, n⟩ h
noncomputable def zG1 {T1 : Type} (P : T1 → Prop) (p : T1) : Prop := P p
theorem zG1.mk {T1 : Type} {P : T1 → Prop} {p : T1} (h : P p) : zG1 P p := h
theorem zk1 {T1 : Type} {P : T1 → Prop} (i : Nonempty (T1) := by walk_at "ne") (h : zG1 P (zwt i (zG1 P))) : ∀ a1, P a1 := by with_unfolding_all exact fun a1 => zk0 i (P := zG1 P) h (a1)
noncomputable def zG3 {T1 T2 T3 : Type} (P : T1 → T2 → T3 → Prop) (p : T1 × T2 × T3) : Prop := P (zf p) (zf (zs p)) (zs (zs p))
theorem zG3.mk {T1 T2 T3 : Type} {P : T1 → T2 → T3 → Prop} {p : T1 × T2 × T3} (h : P (zf p) (zf (zs p)) (zs (zs p))) : zG3 P p := h
theorem zk3 {T1 T2 T3 : Type} {P : T1 → T2 → T3 → Prop} (i : Nonempty (T1 × T2 × T3) := by walk_at "ne") (h : zG3 P (zwt i (zG3 P))) : ∀ a1 a2 a3, P a1 a2 a3 := by with_unfolding_all exact fun a1 a2 a3 => zk0 i (P := zG3 P) h (a1, a2, a3)
noncomputable def zG4 {T1 T2 T3 T4 : Type} (P : T1 → T2 → T3 → T4 → Prop) (p : T1 × T2 × T3 × T4) : Prop := P (zf p) (zf (zs p)) (zf (zs (zs p))) (zs (zs (zs p)))
theorem zG4.mk {T1 T2 T3 T4 : Type} {P : T1 → T2 → T3 → T4 → Prop} {p : T1 × T2 × T3 × T4} (h : P (zf p) (zf (zs p)) (zf (zs (zs p))) (zs (zs (zs p)))) : zG4 P p := h
theorem zk4 {T1 T2 T3 T4 : Type} {P : T1 → T2 → T3 → T4 → Prop} (i : Nonempty (T1 × T2 × T3 × T4) := by walk_at "ne") (h : zG4 P (zwt i (zG4 P))) : ∀ a1 a2 a3 a4, P a1 a2 a3 a4 := by with_unfolding_all exact fun a1 a2 a3 a4 => zk0 i (P := zG4 P) h (a1, a2, a3, a4)
noncomputable def zG5 {T1 T2 T3 T4 T5 : Type} (P : T1 → T2 → T3 → T4 → T5 → Prop) (p : T1 × T2 × T3 × T4 × T5) : Prop := P (zf p) (zf (zs p)) (zf (zs (zs p))) (zf (zs (zs (zs p)))) (zs (zs (zs (zs p))))
theorem zG5.mk {T1 T2 T3 T4 T5 : Type} {P : T1 → T2 → T3 → T4 → T5 → Prop} {p : T1 × T2 × T3 × T4 × T5} (h : P (zf p) (zf (zs p)) (zf (zs (zs p))) (zf (zs (zs (zs p)))) (zs (zs (zs (zs p))))) : zG5 P p := h
theorem zk5 {T1 T2 T3 T4 T5 : Type} {P : T1 → T2 → T3 → T4 → T5 → Prop} (i : Nonempty (T1 × T2 × T3 × T4 × T5) := by walk_at "ne") (h : zG5 P (zwt i (zG5 P))) : ∀ a1 a2 a3 a4 a5, P a1 a2 a3 a4 a5 := by with_unfolding_all exact fun a1 a2 a3 a4 a5 => zk0 i (P := zG5 P) h (a1, a2, a3, a4, a5)
noncomputable def zG6 {T1 T2 T3 T4 T5 T6 : Type} (P : T1 → T2 → T3 → T4 → T5 → T6 → Prop) (p : T1 × T2 × T3 × T4 × T5 × T6) : Prop := P (zf p) (zf (zs p)) (zf (zs (zs p))) (zf (zs (zs (zs p)))) (zf (zs (zs (zs (zs p))))) (zs (zs (zs (zs (zs p)))))
theorem zG6.mk {T1 T2 T3 T4 T5 T6 : Type} {P : T1 → T2 → T3 → T4 → T5 → T6 → Prop} {p : T1 × T2 × T3 × T4 × T5 × T6} (h : P (zf p) (zf (zs p)) (zf (zs (zs p))) (zf (zs (zs (zs p)))) (zf (zs (zs (zs (zs p))))) (zs (zs (zs (zs (zs p)))))) : zG6 P p := h
theorem zk6 {T1 T2 T3 T4 T5 T6 : Type} {P : T1 → T2 → T3 → T4 → T5 → T6 → Prop} (i : Nonempty (T1 × T2 × T3 × T4 × T5 × T6) := by walk_at "ne") (h : zG6 P (zwt i (zG6 P))) : ∀ a1 a2 a3 a4 a5 a6, P a1 a2 a3 a4 a5 a6 := by with_unfolding_all exact fun a1 a2 a3 a4 a5 a6 => zk0 i (P := zG6 P) h (a1, a2, a3, a4, a5, a6)
noncomputable def zG7 {T1 T2 T3 T4 T5 T6 T7 : Type} (P : T1 → T2 → T3 → T4 → T5 → T6 → T7 → Prop) (p : T1 × T2 × T3 × T4 × T5 × T6 × T7) : Prop := P (zf p) (zf (zs p)) (zf (zs (zs p))) (zf (zs (zs (zs p)))) (zf (zs (zs (zs (zs p))))) (zf (zs (zs (zs (zs (zs p)))))) (zs (zs (zs (zs (zs (zs p))))))
theorem zG7.mk {T1 T2 T3 T4 T5 T6 T7 : Type} {P : T1 → T2 → T3 → T4 → T5 → T6 → T7 → Prop} {p : T1 × T2 × T3 × T4 × T5 × T6 × T7} (h : P (zf p) (zf (zs p)) (zf (zs (zs p))) (zf (zs (zs (zs p)))) (zf (zs (zs (zs (zs p))))) (zf (zs (zs (zs (zs (zs p)))))) (zs (zs (zs (zs (zs (zs p))))))) : zG7 P p := h
theorem zk7 {T1 T2 T3 T4 T5 T6 T7 : Type} {P : T1 → T2 → T3 → T4 → T5 → T6 → T7 → Prop} (i : Nonempty (T1 × T2 × T3 × T4 × T5 × T6 × T7) := by walk_at "ne") (h : zG7 P (zwt i (zG7 P))) : ∀ a1 a2 a3 a4 a5 a6 a7, P a1 a2 a3 a4 a5 a6 a7 := by with_unfolding_all exact fun a1 a2 a3 a4 a5 a6 a7 => zk0 i (P := zG7 P) h (a1, a2, a3, a4, a5, a6, a7)
noncomputable def zG8 {T1 T2 T3 T4 T5 T6 T7 T8 : Type} (P : T1 → T2 → T3 → T4 → T5 → T6 → T7 → T8 → Prop) (p : T1 × T2 × T3 × T4 × T5 × T6 × T7 × T8) : Prop := P (zf p) (zf (zs p)) (zf (zs (zs p))) (zf (zs (zs (zs p)))) (zf (zs (zs (zs (zs p))))) (zf (zs (zs (zs (zs (zs p)))))) (zf (zs (zs (zs (zs (zs (zs p))))))) (zs (zs (zs (zs (zs (zs (zs p)))))))
theorem zG8.mk {T1 T2 T3 T4 T5 T6 T7 T8 : Type} {P : T1 → T2 → T3 → T4 → T5 → T6 → T7 → T8 → Prop} {p : T1 × T2 × T3 × T4 × T5 × T6 × T7 × T8} (h : P (zf p) (zf (zs p)) (zf (zs (zs p))) (zf (zs (zs (zs p)))) (zf (zs (zs (zs (zs p))))) (zf (zs (zs (zs (zs (zs p)))))) (zf (zs (zs (zs (zs (zs (zs p))))))) (zs (zs (zs (zs (zs (zs (zs p)))))))) : zG8 P p := h
theorem zk8 {T1 T2 T3 T4 T5 T6 T7 T8 : Type} {P : T1 → T2 → T3 → T4 → T5 → T6 → T7 → T8 → Prop} (i : Nonempty (T1 × T2 × T3 × T4 × T5 × T6 × T7 × T8) := by walk_at "ne") (h : zG8 P (zwt i (zG8 P))) : ∀ a1 a2 a3 a4 a5 a6 a7 a8, P a1 a2 a3 a4 a5 a6 a7 a8 := by with_unfolding_all exact fun a1 a2 a3 a4 a5 a6 a7 a8 => zk0 i (P := zG8 P) h (a1, a2, a3, a4, a5, a6, a7, a8)
noncomputable def zG9 {T1 T2 T3 T4 T5 T6 T7 T8 T9 : Type} (P : T1 → T2 → T3 → T4 → T5 → T6 → T7 → T8 → T9 → Prop) (p : T1 × T2 × T3 × T4 × T5 × T6 × T7 × T8 × T9) : Prop := P (zf p) (zf (zs p)) (zf (zs (zs p))) (zf (zs (zs (zs p)))) (zf (zs (zs (zs (zs p))))) (zf (zs (zs (zs (zs (zs p)))))) (zf (zs (zs (zs (zs (zs (zs p))))))) (zf (zs (zs (zs (zs (zs (zs (zs p)))))))) (zs (zs (zs (zs (zs (zs (zs (zs p))))))))
theorem zG9.mk {T1 T2 T3 T4 T5 T6 T7 T8 T9 : Type} {P : T1 → T2 → T3 → T4 → T5 → T6 → T7 → T8 → T9 → Prop} {p : T1 × T2 × T3 × T4 × T5 × T6 × T7 × T8 × T9} (h : P (zf p) (zf (zs p)) (zf (zs (zs p))) (zf (zs (zs (zs p)))) (zf (zs (zs (zs (zs p))))) (zf (zs (zs (zs (zs (zs p)))))) (zf (zs (zs (zs (zs (zs (zs p))))))) (zf (zs (zs (zs (zs (zs (zs (zs p)))))))) (zs (zs (zs (zs (zs (zs (zs (zs p))))))))) : zG9 P p := h
theorem zk9 {T1 T2 T3 T4 T5 T6 T7 T8 T9 : Type} {P : T1 → T2 → T3 → T4 → T5 → T6 → T7 → T8 → T9 → Prop} (i : Nonempty (T1 × T2 × T3 × T4 × T5 × T6 × T7 × T8 × T9) := by walk_at "ne") (h : zG9 P (zwt i (zG9 P))) : ∀ a1 a2 a3 a4 a5 a6 a7 a8 a9, P a1 a2 a3 a4 a5 a6 a7 a8 a9 := by with_unfolding_all exact fun a1 a2 a3 a4 a5 a6 a7 a8 a9 => zk0 i (P := zG9 P) h (a1, a2, a3, a4, a5, a6, a7, a8, a9)
noncomputable def zG10 {T1 T2 T3 T4 T5 T6 T7 T8 T9 T10 : Type} (P : T1 → T2 → T3 → T4 → T5 → T6 → T7 → T8 → T9 → T10 → Prop) (p : T1 × T2 × T3 × T4 × T5 × T6 × T7 × T8 × T9 × T10) : Prop := P (zf p) (zf (zs p)) (zf (zs (zs p))) (zf (zs (zs (zs p)))) (zf (zs (zs (zs (zs p))))) (zf (zs (zs (zs (zs (zs p)))))) (zf (zs (zs (zs (zs (zs (zs p))))))) (zf (zs (zs (zs (zs (zs (zs (zs p)))))))) (zf (zs (zs (zs (zs (zs (zs (zs (zs p))))))))) (zs (zs (zs (zs (zs (zs (zs (zs (zs p)))))))))
theorem zG10.mk {T1 T2 T3 T4 T5 T6 T7 T8 T9 T10 : Type} {P : T1 → T2 → T3 → T4 → T5 → T6 → T7 → T8 → T9 → T10 → Prop} {p : T1 × T2 × T3 × T4 × T5 × T6 × T7 × T8 × T9 × T10} (h : P (zf p) (zf (zs p)) (zf (zs (zs p))) (zf (zs (zs (zs p)))) (zf (zs (zs (zs (zs p))))) (zf (zs (zs (zs (zs (zs p)))))) (zf (zs (zs (zs (zs (zs (zs p))))))) (zf (zs (zs (zs (zs (zs (zs (zs p)))))))) (zf (zs (zs (zs (zs (zs (zs (zs (zs p))))))))) (zs (zs (zs (zs (zs (zs (zs (zs (zs p)))))))))) : zG10 P p := h
theorem zk10 {T1 T2 T3 T4 T5 T6 T7 T8 T9 T10 : Type} {P : T1 → T2 → T3 → T4 → T5 → T6 → T7 → T8 → T9 → T10 → Prop} (i : Nonempty (T1 × T2 × T3 × T4 × T5 × T6 × T7 × T8 × T9 × T10) := by walk_at "ne") (h : zG10 P (zwt i (zG10 P))) : ∀ a1 a2 a3 a4 a5 a6 a7 a8 a9 a10, P a1 a2 a3 a4 a5 a6 a7 a8 a9 a10 := by with_unfolding_all exact fun a1 a2 a3 a4 a5 a6 a7 a8 a9 a10 => zk0 i (P := zG10 P) h (a1, a2, a3, a4, a5, a6, a7, a8, a9, a10)
noncomputable def zG11 {T1 T2 T3 T4 T5 T6 T7 T8 T9 T10 T11 : Type} (P : T1 → T2 → T3 → T4 → T5 → T6 → T7 → T8 → T9 → T10 → T11 → Prop) (p : T1 × T2 × T3 × T4 × T5 × T6 × T7 × T8 × T9 × T10 × T11) : Prop := P (zf p) (zf (zs p)) (zf (zs (zs p))) (zf (zs (zs (zs p)))) (zf (zs (zs (zs (zs p))))) (zf (zs (zs (zs (zs (zs p)))))) (zf (zs (zs (zs (zs (zs (zs p))))))) (zf (zs (zs (zs (zs (zs (zs (zs p)))))))) (zf (zs (zs (zs (zs (zs (zs (zs (zs p))))))))) (zf (zs (zs (zs (zs (zs (zs (zs (zs (zs p)))))))))) (zs (zs (zs (zs (zs (zs (zs (zs (zs (zs p))))))))))
theorem zG11.mk {T1 T2 T3 T4 T5 T6 T7 T8 T9 T10 T11 : Type} {P : T1 → T2 → T3 → T4 → T5 → T6 → T7 → T8 → T9 → T10 → T11 → Prop} {p : T1 × T2 × T3 × T4 × T5 × T6 × T7 × T8 × T9 × T10 × T11} (h : P (zf p) (zf (zs p)) (zf (zs (zs p))) (zf (zs (zs (zs p)))) (zf (zs (zs (zs (zs p))))) (zf (zs (zs (zs (zs (zs p)))))) (zf (zs (zs (zs (zs (zs (zs p))))))) (zf (zs (zs (zs (zs (zs (zs (zs p)))))))) (zf (zs (zs (zs (zs (zs (zs (zs (zs p))))))))) (zf (zs (zs (zs (zs (zs (zs (zs (zs (zs p)))))))))) (zs (zs (zs (zs (zs (zs (zs (zs (zs (zs p))))))))))) : zG11 P p := h
theorem zk11 {T1 T2 T3 T4 T5 T6 T7 T8 T9 T10 T11 : Type} {P : T1 → T2 → T3 → T4 → T5 → T6 → T7 → T8 → T9 → T10 → T11 → Prop} (i : Nonempty (T1 × T2 × T3 × T4 × T5 × T6 × T7 × T8 × T9 × T10 × T11) := by walk_at "ne") (h : zG11 P (zwt i (zG11 P))) : ∀ a1 a2 a3 a4 a5 a6 a7 a8 a9 a10 a11, P a1 a2 a3 a4 a5 a6 a7 a8 a9 a10 a11 := by with_unfolding_all exact fun a1 a2 a3 a4 a5 a6 a7 a8 a9 a10 a11 => zk0 i (P := zG11 P) h (a1, a2, a3, a4, a5, a6, a7, a8, a9, a10, a11)
noncomputable def zG12 {T1 T2 T3 T4 T5 T6 T7 T8 T9 T10 T11 T12 : Type} (P : T1 → T2 → T3 → T4 → T5 → T6 → T7 → T8 → T9 → T10 → T11 → T12 → Prop) (p : T1 × T2 × T3 × T4 × T5 × T6 × T7 × T8 × T9 × T10 × T11 × T12) : Prop := P (zf p) (zf (zs p)) (zf (zs (zs p))) (zf (zs (zs (zs p)))) (zf (zs (zs (zs (zs p))))) (zf (zs (zs (zs (zs (zs p)))))) (zf (zs (zs (zs (zs (zs (zs p))))))) (zf (zs (zs (zs (zs (zs (zs (zs p)))))))) (zf (zs (zs (zs (zs (zs (zs (zs (zs p))))))))) (zf (zs (zs (zs (zs (zs (zs (zs (zs (zs p)))))))))) (zf (zs (zs (zs (zs (zs (zs (zs (zs (zs (zs p))))))))))) (zs (zs (zs (zs (zs (zs (zs (zs (zs (zs (zs p)))))))))))
theorem zG12.mk {T1 T2 T3 T4 T5 T6 T7 T8 T9 T10 T11 T12 : Type} {P : T1 → T2 → T3 → T4 → T5 → T6 → T7 → T8 → T9 → T10 → T11 → T12 → Prop} {p : T1 × T2 × T3 × T4 × T5 × T6 × T7 × T8 × T9 × T10 × T11 × T12} (h : P (zf p) (zf (zs p)) (zf (zs (zs p))) (zf (zs (zs (zs p)))) (zf (zs (zs (zs (zs p))))) (zf (zs (zs (zs (zs (zs p)))))) (zf (zs (zs (zs (zs (zs (zs p))))))) (zf (zs (zs (zs (zs (zs (zs (zs p)))))))) (zf (zs (zs (zs (zs (zs (zs (zs (zs p))))))))) (zf (zs (zs (zs (zs (zs (zs (zs (zs (zs p)))))))))) (zf (zs (zs (zs (zs (zs (zs (zs (zs (zs (zs p))))))))))) (zs (zs (zs (zs (zs (zs (zs (zs (zs (zs (zs p)))))))))))) : zG12 P p := h
theorem zk12 {T1 T2 T3 T4 T5 T6 T7 T8 T9 T10 T11 T12 : Type} {P : T1 → T2 → T3 → T4 → T5 → T6 → T7 → T8 → T9 → T10 → T11 → T12 → Prop} (i : Nonempty (T1 × T2 × T3 × T4 × T5 × T6 × T7 × T8 × T9 × T10 × T11 × T12) := by walk_at "ne") (h : zG12 P (zwt i (zG12 P))) : ∀ a1 a2 a3 a4 a5 a6 a7 a8 a9 a10 a11 a12, P a1 a2 a3 a4 a5 a6 a7 a8 a9 a10 a11 a12 := by with_unfolding_all exact fun a1 a2 a3 a4 a5 a6 a7 a8 a9 a10 a11 a12 => zk0 i (P := zG12 P) h (a1, a2, a3, a4, a5, a6, a7, a8, a9, a10, a11, a12)
noncomputable def zG13 {T1 T2 T3 T4 T5 T6 T7 T8 T9 T10 T11 T12 T13 : Type} (P : T1 → T2 → T3 → T4 → T5 → T6 → T7 → T8 → T9 → T10 → T11 → T12 → T13 → Prop) (p : T1 × T2 × T3 × T4 × T5 × T6 × T7 × T8 × T9 × T10 × T11 × T12 × T13) : Prop := P (zf p) (zf (zs p)) (zf (zs (zs p))) (zf (zs (zs (zs p)))) (zf (zs (zs (zs (zs p))))) (zf (zs (zs (zs (zs (zs p)))))) (zf (zs (zs (zs (zs (zs (zs p))))))) (zf (zs (zs (zs (zs (zs (zs (zs p)))))))) (zf (zs (zs (zs (zs (zs (zs (zs (zs p))))))))) (zf (zs (zs (zs (zs (zs (zs (zs (zs (zs p)))))))))) (zf (zs (zs (zs (zs (zs (zs (zs (zs (zs (zs p))))))))))) (zf (zs (zs (zs (zs (zs (zs (zs (zs (zs (zs (zs p)))))))))))) (zs (zs (zs (zs (zs (zs (zs (zs (zs (zs (zs (zs p))))))))))))
theorem zG13.mk {T1 T2 T3 T4 T5 T6 T7 T8 T9 T10 T11 T12 T13 : Type} {P : T1 → T2 → T3 → T4 → T5 → T6 → T7 → T8 → T9 → T10 → T11 → T12 → T13 → Prop} {p : T1 × T2 × T3 × T4 × T5 × T6 × T7 × T8 × T9 × T10 × T11 × T12 × T13} (h : P (zf p) (zf (zs p)) (zf (zs (zs p))) (zf (zs (zs (zs p)))) (zf (zs (zs (zs (zs p))))) (zf (zs (zs (zs (zs (zs p)))))) (zf (zs (zs (zs (zs (zs (zs p))))))) (zf (zs (zs (zs (zs (zs (zs (zs p)))))))) (zf (zs (zs (zs (zs (zs (zs (zs (zs p))))))))) (zf (zs (zs (zs (zs (zs (zs (zs (zs (zs p)))))))))) (zf (zs (zs (zs (zs (zs (zs (zs (zs (zs (zs p))))))))))) (zf (zs (zs (zs (zs (zs (zs (zs (zs (zs (zs (zs p)))))))))))) (zs (zs (zs (zs (zs (zs (zs (zs (zs (zs (zs (zs p))))))))))))) : zG13 P p := h
theorem zk13 {T1 T2 T3 T4 T5 T6 T7 T8 T9 T10 T11 T12 T13 : Type} {P : T1 → T2 → T3 → T4 → T5 → T6 → T7 → T8 → T9 → T10 → T11 → T12 → T13 → Prop} (i : Nonempty (T1 × T2 × T3 × T4 × T5 × T6 × T7 × T8 × T9 × T10 × T11 × T12 × T13) := by walk_at "ne") (h : zG13 P (zwt i (zG13 P))) : ∀ a1 a2 a3 a4 a5 a6 a7 a8 a9 a10 a11 a12 a13, P a1 a2 a3 a4 a5 a6 a7 a8 a9 a10 a11 a12 a13 := by with_unfolding_all exact fun a1 a2 a3 a4 a5 a6 a7 a8 a9 a10 a11 a12 a13 => zk0 i (P := zG13 P) h (a1, a2, a3, a4, a5, a6, a7, a8, a9, a10, a11, a12, a13)
noncomputable def zG14 {T1 T2 T3 T4 T5 T6 T7 T8 T9 T10 T11 T12 T13 T14 : Type} (P : T1 → T2 → T3 → T4 → T5 → T6 → T7 → T8 → T9 → T10 → T11 → T12 → T13 → T14 → Prop) (p : T1 × T2 × T3 × T4 × T5 × T6 × T7 × T8 × T9 × T10 × T11 × T12 × T13 × T14) : Prop := P (zf p) (zf (zs p)) (zf (zs (zs p))) (zf (zs (zs (zs p)))) (zf (zs (zs (zs (zs p))))) (zf (zs (zs (zs (zs (zs p)))))) (zf (zs (zs (zs (zs (zs (zs p))))))) (zf (zs (zs (zs (zs (zs (zs (zs p)))))))) (zf (zs (zs (zs (zs (zs (zs (zs (zs p))))))))) (zf (zs (zs (zs (zs (zs (zs (zs (zs (zs p)))))))))) (zf (zs (zs (zs (zs (zs (zs (zs (zs (zs (zs p))))))))))) (zf (zs (zs (zs (zs (zs (zs (zs (zs (zs (zs (zs p)))))))))))) (zf (zs (zs (zs (zs (zs (zs (zs (zs (zs (zs (zs (zs p))))))))))))) (zs (zs (zs (zs (zs (zs (zs (zs (zs (zs (zs (zs (zs p)))))))))))))
theorem zG14.mk {T1 T2 T3 T4 T5 T6 T7 T8 T9 T10 T11 T12 T13 T14 : Type} {P : T1 → T2 → T3 → T4 → T5 → T6 → T7 → T8 → T9 → T10 → T11 → T12 → T13 → T14 → Prop} {p : T1 × T2 × T3 × T4 × T5 × T6 × T7 × T8 × T9 × T10 × T11 × T12 × T13 × T14} (h : P (zf p) (zf (zs p)) (zf (zs (zs p))) (zf (zs (zs (zs p)))) (zf (zs (zs (zs (zs p))))) (zf (zs (zs (zs (zs (zs p)))))) (zf (zs (zs (zs (zs (zs (zs p))))))) (zf (zs (zs (zs (zs (zs (zs (zs p)))))))) (zf (zs (zs (zs (zs (zs (zs (zs (zs p))))))))) (zf (zs (zs (zs (zs (zs (zs (zs (zs (zs p)))))))))) (zf (zs (zs (zs (zs (zs (zs (zs (zs (zs (zs p))))))))))) (zf (zs (zs (zs (zs (zs (zs (zs (zs (zs (zs (zs p)))))))))))) (zf (zs (zs (zs (zs (zs (zs (zs (zs (zs (zs (zs (zs p))))))))))))) (zs (zs (zs (zs (zs (zs (zs (zs (zs (zs (zs (zs (zs p)))))))))))))) : zG14 P p := h
theorem zk14 {T1 T2 T3 T4 T5 T6 T7 T8 T9 T10 T11 T12 T13 T14 : Type} {P : T1 → T2 → T3 → T4 → T5 → T6 → T7 → T8 → T9 → T10 → T11 → T12 → T13 → T14 → Prop} (i : Nonempty (T1 × T2 × T3 × T4 × T5 × T6 × T7 × T8 × T9 × T10 × T11 × T12 × T13 × T14) := by walk_at "ne") (h : zG14 P (zwt i (zG14 P))) : ∀ a1 a2 a3 a4 a5 a6 a7 a8 a9 a10 a11 a12 a13 a14, P a1 a2 a3 a4 a5 a6 a7 a8 a9 a10 a11 a12 a13 a14 := by with_unfolding_all exact fun a1 a2 a3 a4 a5 a6 a7 a8 a9 a10 a11 a12 a13 a14 => zk0 i (P := zG14 P) h (a1, a2, a3, a4, a5, a6, a7, a8, a9, a10, a11, a12, a13, a14)
noncomputable def zG15 {T1 T2 T3 T4 T5 T6 T7 T8 T9 T10 T11 T12 T13 T14 T15 : Type} (P : T1 → T2 → T3 → T4 → T5 → T6 → T7 → T8 → T9 → T10 → T11 → T12 → T13 → T14 → T15 → Prop) (p : T1 × T2 × T3 × T4 × T5 × T6 × T7 × T8 × T9 × T10 × T11 × T12 × T13 × T14 × T15) : Prop := P (zf p) (zf (zs p)) (zf (zs (zs p))) (zf (zs (zs (zs p)))) (zf (zs (zs (zs (zs p))))) (zf (zs (zs (zs (zs (zs p)))))) (zf (zs (zs (zs (zs (zs (zs p))))))) (zf (zs (zs (zs (zs (zs (zs (zs p)))))))) (zf (zs (zs (zs (zs (zs (zs (zs (zs p))))))))) (zf (zs (zs (zs (zs (zs (zs (zs (zs (zs p)))))))))) (zf (zs (zs (zs (zs (zs (zs (zs (zs (zs (zs p))))))))))) (zf (zs (zs (zs (zs (zs (zs (zs (zs (zs (zs (zs p)))))))))))) (zf (zs (zs (zs (zs (zs (zs (zs (zs (zs (zs (zs (zs p))))))))))))) (zf (zs (zs (zs (zs (zs (zs (zs (zs (zs (zs (zs (zs (zs p)))))))))))))) (zs (zs (zs (zs (zs (zs (zs (zs (zs (zs (zs (zs (zs (zs p))))))))))))))
theorem zG15.mk {T1 T2 T3 T4 T5 T6 T7 T8 T9 T10 T11 T12 T13 T14 T15 : Type} {P : T1 → T2 → T3 → T4 → T5 → T6 → T7 → T8 → T9 → T10 → T11 → T12 → T13 → T14 → T15 → Prop} {p : T1 × T2 × T3 × T4 × T5 × T6 × T7 × T8 × T9 × T10 × T11 × T12 × T13 × T14 × T15} (h : P (zf p) (zf (zs p)) (zf (zs (zs p))) (zf (zs (zs (zs p)))) (zf (zs (zs (zs (zs p))))) (zf (zs (zs (zs (zs (zs p)))))) (zf (zs (zs (zs (zs (zs (zs p))))))) (zf (zs (zs (zs (zs (zs (zs (zs p)))))))) (zf (zs (zs (zs (zs (zs (zs (zs (zs p))))))))) (zf (zs (zs (zs (zs (zs (zs (zs (zs (zs p)))))))))) (zf (zs (zs (zs (zs (zs (zs (zs (zs (zs (zs p))))))))))) (zf (zs (zs (zs (zs (zs (zs (zs (zs (zs (zs (zs p)))))))))))) (zf (zs (zs (zs (zs (zs (zs (zs (zs (zs (zs (zs (zs p))))))))))))) (zf (zs (zs (zs (zs (zs (zs (zs (zs (zs (zs (zs (zs (zs p)))))))))))))) (zs (zs (zs (zs (zs (zs (zs (zs (zs (zs (zs (zs (zs (zs p))))))))))))))) : zG15 P p := h
theorem zk15 {T1 T2 T3 T4 T5 T6 T7 T8 T9 T10 T11 T12 T13 T14 T15 : Type} {P : T1 → T2 → T3 → T4 → T5 → T6 → T7 → T8 → T9 → T10 → T11 → T12 → T13 → T14 → T15 → Prop} (i : Nonempty (T1 × T2 × T3 × T4 × T5 × T6 × T7 × T8 × T9 × T10 × T11 × T12 × T13 × T14 × T15) := by walk_at "ne") (h : zG15 P (zwt i (zG15 P))) : ∀ a1 a2 a3 a4 a5 a6 a7 a8 a9 a10 a11 a12 a13 a14 a15, P a1 a2 a3 a4 a5 a6 a7 a8 a9 a10 a11 a12 a13 a14 a15 := by with_unfolding_all exact fun a1 a2 a3 a4 a5 a6 a7 a8 a9 a10 a11 a12 a13 a14 a15 => zk0 i (P := zG15 P) h (a1, a2, a3, a4, a5, a6, a7, a8, a9, a10, a11, a12, a13, a14, a15)
noncomputable def zG16 {T1 T2 T3 T4 T5 T6 T7 T8 T9 T10 T11 T12 T13 T14 T15 T16 : Type} (P : T1 → T2 → T3 → T4 → T5 → T6 → T7 → T8 → T9 → T10 → T11 → T12 → T13 → T14 → T15 → T16 → Prop) (p : T1 × T2 × T3 × T4 × T5 × T6 × T7 × T8 × T9 × T10 × T11 × T12 × T13 × T14 × T15 × T16) : Prop := P (zf p) (zf (zs p)) (zf (zs (zs p))) (zf (zs (zs (zs p)))) (zf (zs (zs (zs (zs p))))) (zf (zs (zs (zs (zs (zs p)))))) (zf (zs (zs (zs (zs (zs (zs p))))))) (zf (zs (zs (zs (zs (zs (zs (zs p)))))))) (zf (zs (zs (zs (zs (zs (zs (zs (zs p))))))))) (zf (zs (zs (zs (zs (zs (zs (zs (zs (zs p)))))))))) (zf (zs (zs (zs (zs (zs (zs (zs (zs (zs (zs p))))))))))) (zf (zs (zs (zs (zs (zs (zs (zs (zs (zs (zs (zs p)))))))))))) (zf (zs (zs (zs (zs (zs (zs (zs (zs (zs (zs (zs (zs p))))))))))))) (zf (zs (zs (zs (zs (zs (zs (zs (zs (zs (zs (zs (zs (zs p)))))))))))))) (zf (zs (zs (zs (zs (zs (zs (zs (zs (zs (zs (zs (zs (zs (zs p))))))))))))))) (zs (zs (zs (zs (zs (zs (zs (zs (zs (zs (zs (zs (zs (zs (zs p)))))))))))))))
theorem zG16.mk {T1 T2 T3 T4 T5 T6 T7 T8 T9 T10 T11 T12 T13 T14 T15 T16 : Type} {P : T1 → T2 → T3 → T4 → T5 → T6 → T7 → T8 → T9 → T10 → T11 → T12 → T13 → T14 → T15 → T16 → Prop} {p : T1 × T2 × T3 × T4 × T5 × T6 × T7 × T8 × T9 × T10 × T11 × T12 × T13 × T14 × T15 × T16} (h : P (zf p) (zf (zs p)) (zf (zs (zs p))) (zf (zs (zs (zs p)))) (zf (zs (zs (zs (zs p))))) (zf (zs (zs (zs (zs (zs p)))))) (zf (zs (zs (zs (zs (zs (zs p))))))) (zf (zs (zs (zs (zs (zs (zs (zs p)))))))) (zf (zs (zs (zs (zs (zs (zs (zs (zs p))))))))) (zf (zs (zs (zs (zs (zs (zs (zs (zs (zs p)))))))))) (zf (zs (zs (zs (zs (zs (zs (zs (zs (zs (zs p))))))))))) (zf (zs (zs (zs (zs (zs (zs (zs (zs (zs (zs (zs p)))))))))))) (zf (zs (zs (zs (zs (zs (zs (zs (zs (zs (zs (zs (zs p))))))))))))) (zf (zs (zs (zs (zs (zs (zs (zs (zs (zs (zs (zs (zs (zs p)))))))))))))) (zf (zs (zs (zs (zs (zs (zs (zs (zs (zs (zs (zs (zs (zs (zs p))))))))))))))) (zs (zs (zs (zs (zs (zs (zs (zs (zs (zs (zs (zs (zs (zs (zs p)))))))))))))))) : zG16 P p := h
theorem zk16 {T1 T2 T3 T4 T5 T6 T7 T8 T9 T10 T11 T12 T13 T14 T15 T16 : Type} {P : T1 → T2 → T3 → T4 → T5 → T6 → T7 → T8 → T9 → T10 → T11 → T12 → T13 → T14 → T15 → T16 → Prop} (i : Nonempty (T1 × T2 × T3 × T4 × T5 × T6 × T7 × T8 × T9 × T10 × T11 × T12 × T13 × T14 × T15 × T16) := by walk_at "ne") (h : zG16 P (zwt i (zG16 P))) : ∀ a1 a2 a3 a4 a5 a6 a7 a8 a9 a10 a11 a12 a13 a14 a15 a16, P a1 a2 a3 a4 a5 a6 a7 a8 a9 a10 a11 a12 a13 a14 a15 a16 := by with_unfolding_all exact fun a1 a2 a3 a4 a5 a6 a7 a8 a9 a10 a11 a12 a13 a14 a15 a16 => zk0 i (P := zG16 P) h (a1, a2, a3, a4, a5, a6, a7, a8, a9, a10, a11, a12, a13, a14, a15, a16)
noncomputable def zG32 {T1 T2 T3 T4 T5 T6 T7 T8 T9 T10 T11 T12 T13 T14 T15 T16 T17 T18 T19 T20 T21 T22 T23 T24 T25 T26 T27 T28 T29 T30 T31 T32 : Type} (P : T1 → T2 → T3 → T4 → T5 → T6 → T7 → T8 → T9 → T10 → T11 → T12 → T13 → T14 → T15 → T16 → T17 → T18 → T19 → T20 → T21 → T22 → T23 → T24 → T25 → T26 → T27 → T28 → T29 → T30 → T31 → T32 → Prop) (p : T1 × T2 × T3 × T4 × T5 × T6 × T7 × T8 × T9 × T10 × T11 × T12 × T13 × T14 × T15 × T16 × T17 × T18 × T19 × T20 × T21 × T22 × T23 × T24 × T25 × T26 × T27 × T28 × T29 × T30 × T31 × T32) : Prop := P (zf p) (zf (zs p)) (zf (zs (zs p))) (zf (zs (zs (zs p)))) (zf (zs (zs (zs (zs p))))) (zf (zs (zs (zs (zs (zs p)))))) (zf (zs (zs (zs (zs (zs (zs p))))))) (zf (zs (zs (zs (zs (zs (zs (zs p)))))))) (zf (zs (zs (zs (zs (zs (zs (zs (zs p))))))))) (zf (zs (zs (zs (zs (zs (zs (zs (zs (zs p)))))))))) (zf (zs (zs (zs (zs (zs (zs (zs (zs (zs (zs p))))))))))) (zf (zs (zs (zs (zs (zs (zs (zs (zs (zs (zs (zs p)))))))))))) (zf (zs (zs (zs (zs (zs (zs (zs (zs (zs (zs (zs (zs p))))))))))))) (zf (zs (zs (zs (zs (zs (zs (zs (zs (zs (zs (zs (zs (zs p)))))))))))))) (zf (zs (zs (zs (zs (zs (zs (zs (zs (zs (zs (zs (zs (zs (zs p))))))))))))))) (zf (zs (zs (zs (zs (zs (zs (zs (zs (zs (zs (zs (zs (zs (zs (zs p)))))))))))))))) (zf (zs (zs (zs (zs (zs (zs (zs (zs (zs (zs (zs (zs (zs (zs (zs (zs p))))))))))))))))) (zf (zs (zs (zs (zs (zs (zs (zs (zs (zs (zs (zs (zs (zs (zs (zs (zs (zs p)))))))))))))))))) (zf (zs (zs (zs (zs (zs (zs (zs (zs (zs (zs (zs (zs (zs (zs (zs (zs (zs (zs p))))))))))))))))))) (zf (zs (zs (zs (zs (zs (zs (zs (zs (zs (zs (zs (zs (zs (zs (zs (zs (zs (zs (zs p)))))))))))))))))))) (zf (zs (zs (zs (zs (zs (zs (zs (zs (zs (zs (zs (zs (zs (zs (zs (zs (zs (zs (zs (zs p))))))))))))))))))))) (zf (zs (zs (zs (zs (zs (zs (zs (zs (zs (zs (zs (zs (zs (zs (zs (zs (zs (zs (zs (zs (zs p)))))))))))))))))))))) (zf (zs (zs (zs (zs (zs (zs (zs (zs (zs (zs (zs (zs (zs (zs (zs (zs (zs (zs (zs (zs (zs (zs p))))))))))))))))))))))) (zf (zs (zs (zs (zs (zs (zs (zs (zs (zs (zs (zs (zs (zs (zs (zs (zs (zs (zs (zs (zs (zs (zs (zs p)))))))))))))))))))))))) (zf (zs (zs (zs (zs (zs (zs (zs (zs (zs (zs (zs (zs (zs (zs (zs (zs (zs (zs (zs (zs (zs (zs (zs (zs p))))))))))))))))))))))))) (zf (zs (zs (zs (zs (zs (zs (zs (zs (zs (zs (zs (zs (zs (zs (zs (zs (zs (zs (zs (zs (zs (zs (zs (zs (zs p)))))))))))))))))))))))))) (zf (zs (zs (zs (zs (zs (zs (zs (zs (zs (zs (zs (zs (zs (zs (zs (zs (zs (zs (zs (zs (zs (zs (zs (zs (zs (zs p))))))))))))))))))))))))))) (zf (zs (zs (zs (zs (zs (zs (zs (zs (zs (zs (zs (zs (zs (zs (zs (zs (zs (zs (zs (zs (zs (zs (zs (zs (zs (zs (zs p)))))))))))))))))))))))))))) (zf (zs (zs (zs (zs (zs (zs (zs (zs (zs (zs (zs (zs (zs (zs (zs (zs (zs (zs (zs (zs (zs (zs (zs (zs (zs (zs (zs (zs p))))))))))))))))))))))))))))) (zf (zs (zs (zs (zs (zs (zs (zs (zs (zs (zs (zs (zs (zs (zs (zs (zs (zs (zs (zs (zs (zs (zs (zs (zs (zs (zs (zs (zs (zs p)))))))))))))))))))))))))))))) (zf (zs (zs (zs (zs (zs (zs (zs (zs (zs (zs (zs (zs (zs (zs (zs (zs (zs (zs (zs (zs (zs (zs (zs (zs (zs (zs (zs (zs (zs (zs p))))))))))))))))))))))))))))))) (zs (zs (zs (zs (zs (zs (zs (zs (zs (zs (zs (zs (zs (zs (zs (zs (zs (zs (zs (zs (zs (zs (zs (zs (zs (zs (zs (zs (zs (zs (zs p)))))))))))))))))))))))))))))))
theorem zk32 {T1 T2 T3 T4 T5 T6 T7 T8 T9 T10 T11 T12 T13 T14 T15 T16 T17 T18 T19 T20 T21 T22 T23 T24 T25 T26 T27 T28 T29 T30 T31 T32 : Type} {P : T1 → T2 → T3 → T4 → T5 → T6 → T7 → T8 → T9 → T10 → T11 → T12 → T13 → T14 → T15 → T16 → T17 → T18 → T19 → T20 → T21 → T22 → T23 → T24 → T25 → T26 → T27 → T28 → T29 → T30 → T31 → T32 → Prop} (i : Nonempty (T1 × T2 × T3 × T4 × T5 × T6 × T7 × T8 × T9 × T10 × T11 × T12 × T13 × T14 × T15 × T16 × T17 × T18 × T19 × T20 × T21 × T22 × T23 × T24 × T25 × T26 × T27 × T28 × T29 × T30 × T31 × T32) := by walk_at "ne") (h : zG32 P (zwt i (zG32 P))) : ∀ a1 a2 a3 a4 a5 a6 a7 a8 a9 a10 a11 a12 a13 a14 a15 a16 a17 a18 a19 a20 a21 a22 a23 a24 a25 a26 a27 a28 a29 a30 a31 a32, P a1 a2 a3 a4 a5 a6 a7 a8 a9 a10 a11 a12 a13 a14 a15 a16 a17 a18 a19 a20 a21 a22 a23 a24 a25 a26 a27 a28 a29 a30 a31 a32 := by with_unfolding_all exact fun a1 a2 a3 a4 a5 a6 a7 a8 a9 a10 a11 a12 a13 a14 a15 a16 a17 a18 a19 a20 a21 a22 a23 a24 a25 a26 a27 a28 a29 a30 a31 a32 => zk0 i (P := zG32 P) h (a1, a2, a3, a4, a5, a6, a7, a8, a9, a10, a11, a12, a13, a14, a15, a16, a17, a18, a19, a20, a21, a22, a23, a24, a25, a26, a27, a28, a29, a30, a31, a32)
noncomputable def zG40 {T1 T2 T3 T4 T5 T6 T7 T8 T9 T10 T11 T12 T13 T14 T15 T16 T17 T18 T19 T20 T21 T22 T23 T24 T25 T26 T27 T28 T29 T30 T31 T32 T33 T34 T35 T36 T37 T38 T39 T40 : Type} (P : T1 → T2 → T3 → T4 → T5 → T6 → T7 → T8 → T9 → T10 → T11 → T12 → T13 → T14 → T15 → T16 → T17 → T18 → T19 → T20 → T21 → T22 → T23 → T24 → T25 → T26 → T27 → T28 → T29 → T30 → T31 → T32 → T33 → T34 → T35 → T36 → T37 → T38 → T39 → T40 → Prop) (p : T1 × T2 × T3 × T4 × T5 × T6 × T7 × T8 × T9 × T10 × T11 × T12 × T13 × T14 × T15 × T16 × T17 × T18 × T19 × T20 × T21 × T22 × T23 × T24 × T25 × T26 × T27 × T28 × T29 × T30 × T31 × T32 × T33 × T34 × T35 × T36 × T37 × T38 × T39 × T40) : Prop := P (zf p) (zf (zs p)) (zf (zs (zs p))) (zf (zs (zs (zs p)))) (zf (zs (zs (zs (zs p))))) (zf (zs (zs (zs (zs (zs p)))))) (zf (zs (zs (zs (zs (zs (zs p))))))) (zf (zs (zs (zs (zs (zs (zs (zs p)))))))) (zf (zs (zs (zs (zs (zs (zs (zs (zs p))))))))) (zf (zs (zs (zs (zs (zs (zs (zs (zs (zs p)))))))))) (zf (zs (zs (zs (zs (zs (zs (zs (zs (zs (zs p))))))))))) (zf (zs (zs (zs (zs (zs (zs (zs (zs (zs (zs (zs p)))))))))))) (zf (zs (zs (zs (zs (zs (zs (zs (zs (zs (zs (zs (zs p))))))))))))) (zf (zs (zs (zs (zs (zs (zs (zs (zs (zs (zs (zs (zs (zs p)))))))))))))) (zf (zs (zs (zs (zs (zs (zs (zs (zs (zs (zs (zs (zs (zs (zs p))))))))))))))) (zf (zs (zs (zs (zs (zs (zs (zs (zs (zs (zs (zs (zs (zs (zs (zs p)))))))))))))))) (zf (zs (zs (zs (zs (zs (zs (zs (zs (zs (zs (zs (zs (zs (zs (zs (zs p))))))))))))))))) (zf (zs (zs (zs (zs (zs (zs (zs (zs (zs (zs (zs (zs (zs (zs (zs (zs (zs p)))))))))))))))))) (zf (zs (zs (zs (zs (zs (zs (zs (zs (zs (zs (zs (zs (zs (zs (zs (zs (zs (zs p))))))))))))))))))) (zf (zs (zs (zs (zs (zs (zs (zs (zs (zs (zs (zs (zs (zs (zs (zs (zs (zs (zs (zs p)))))))))))))))))))) (zf (zs (zs (zs (zs (zs (zs (zs (zs (zs (zs (zs (zs (zs (zs (zs (zs (zs (zs (zs (zs p))))))))))))))))))))) (zf (zs (zs (zs (zs (zs (zs (zs (zs (zs (zs (zs (zs (zs (zs (zs (zs (zs (zs (zs (zs (zs p)))))))))))))))))))))) (zf (zs (zs (zs (zs (zs (zs (zs (zs (zs (zs (zs (zs (zs (zs (zs (zs (zs (zs (zs (zs (zs (zs p))))))))))))))))))))))) (zf (zs (zs (zs (zs (zs (zs (zs (zs (zs (zs (zs (zs (zs (zs (zs (zs (zs (zs (zs (zs (zs (zs (zs p)))))))))))))))))))))))) (zf (zs (zs (zs (zs (zs (zs (zs (zs (zs (zs (zs (zs (zs (zs (zs (zs (zs (zs (zs (zs (zs (zs (zs (zs p))))))))))))))))))))))))) (zf (zs (zs (zs (zs (zs (zs (zs (zs (zs (zs (zs (zs (zs (zs (zs (zs (zs (zs (zs (zs (zs (zs (zs (zs (zs p)))))))))))))))))))))))))) (zf (zs (zs (zs (zs (zs (zs (zs (zs (zs (zs (zs (zs (zs (zs (zs (zs (zs (zs (zs (zs (zs (zs (zs (zs (zs (zs p))))))))))))))))))))))))))) (zf (zs (zs (zs (zs (zs (zs (zs (zs (zs (zs (zs (zs (zs (zs (zs (zs (zs (zs (zs (zs (zs (zs (zs (zs (zs (zs (zs p)))))))))))))))))))))))))))) (zf (zs (zs (zs (zs (zs (zs (zs (zs (zs (zs (zs (zs (zs (zs (zs (zs (zs (zs (zs (zs (zs (zs (zs (zs (zs (zs (zs (zs p))))))))))))))))))))))))))))) (zf (zs (zs (zs (zs (zs (zs (zs (zs (zs (zs (zs (zs (zs (zs (zs (zs (zs (zs (zs (zs (zs (zs (zs (zs (zs (zs (zs (zs (zs p)))))))))))))))))))))))))))))) (zf (zs (zs (zs (zs (zs (zs (zs (zs (zs (zs (zs (zs (zs (zs (zs (zs (zs (zs (zs (zs (zs (zs (zs (zs (zs (zs (zs (zs (zs (zs p))))))))))))))))))))))))))))))) (zf (zs (zs (zs (zs (zs (zs (zs (zs (zs (zs (zs (zs (zs (zs (zs (zs (zs (zs (zs (zs (zs (zs (zs (zs (zs (zs (zs (zs (zs (zs (zs p)))))))))))))))))))))))))))))))) (zf (zs (zs (zs (zs (zs (zs (zs (zs (zs (zs (zs (zs (zs (zs (zs (zs (zs (zs (zs (zs (zs (zs (zs (zs (zs (zs (zs (zs (zs (zs (zs (zs p))))))))))))))))))))))))))))))))) (zf (zs (zs (zs (zs (zs (zs (zs (zs (zs (zs (zs (zs (zs (zs (zs (zs (zs (zs (zs (zs (zs (zs (zs (zs (zs (zs (zs (zs (zs (zs (zs (zs (zs p)))))))))))))))))))))))))))))))))) (zf (zs (zs (zs (zs (zs (zs (zs (zs (zs (zs (zs (zs (zs (zs (zs (zs (zs (zs (zs (zs (zs (zs (zs (zs (zs (zs (zs (zs (zs (zs (zs (zs (zs (zs p))))))))))))))))))))))))))))))))))) (zf (zs (zs (zs (zs (zs (zs (zs (zs (zs (zs (zs (zs (zs (zs (zs (zs (zs (zs (zs (zs (zs (zs (zs (zs (zs (zs (zs (zs (zs (zs (zs (zs (zs (zs (zs p)))))))))))))))))))))))))))))))))))) (zf (zs (zs (zs (zs (zs (zs (zs (zs (zs (zs (zs (zs (zs (zs (zs (zs (zs (zs (zs (zs (zs (zs (zs (zs (zs (zs (zs (zs (zs (zs (zs (zs (zs (zs (zs (zs p))))))))))))))))))))))))))))))))))))) (zf (zs (zs (zs (zs (zs (zs (zs (zs (zs (zs (zs (zs (zs (zs (zs (zs (zs (zs (zs (zs (zs (zs (zs (zs (zs (zs (zs (zs (zs (zs (zs (zs (zs (zs (zs (zs (zs p)))))))))))))))))))))))))))))))))))))) (zf (zs (zs (zs (zs (zs (zs (zs (zs (zs (zs (zs (zs (zs (zs (zs (zs (zs (zs (zs (zs (zs (zs (zs (zs (zs (zs (zs (zs (zs (zs (zs (zs (zs (zs (zs (zs (zs (zs p))))))))))))))))))))))))))))))))))))))) (zs (zs (zs (zs (zs (zs (zs (zs (zs (zs (zs (zs (zs (zs (zs (zs (zs (zs (zs (zs (zs (zs (zs (zs (zs (zs (zs (zs (zs (zs (zs (zs (zs (zs (zs (zs (zs (zs (zs p)))))))))))))))))))))))))))))))))))))))
theorem zk40 {T1 T2 T3 T4 T5 T6 T7 T8 T9 T10 T11 T12 T13 T14 T15 T16 T17 T18 T19 T20 T21 T22 T23 T24 T25 T26 T27 T28 T29 T30 T31 T32 T33 T34 T35 T36 T37 T38 T39 T40 : Type} {P : T1 → T2 → T3 → T4 → T5 → T6 → T7 → T8 → T9 → T10 → T11 → T12 → T13 → T14 → T15 → T16 → T17 → T18 → T19 → T20 → T21 → T22 → T23 → T24 → T25 → T26 → T27 → T28 → T29 → T30 → T31 → T32 → T33 → T34 → T35 → T36 → T37 → T38 → T39 → T40 → Prop} (i : Nonempty (T1 × T2 × T3 × T4 × T5 × T6 × T7 × T8 × T9 × T10 × T11 × T12 × T13 × T14 × T15 × T16 × T17 × T18 × T19 × T20 × T21 × T22 × T23 × T24 × T25 × T26 × T27 × T28 × T29 × T30 × T31 × T32 × T33 × T34 × T35 × T36 × T37 × T38 × T39 × T40) := by walk_at "ne") (h : zG40 P (zwt i (zG40 P))) : ∀ a1 a2 a3 a4 a5 a6 a7 a8 a9 a10 a11 a12 a13 a14 a15 a16 a17 a18 a19 a20 a21 a22 a23 a24 a25 a26 a27 a28 a29 a30 a31 a32 a33 a34 a35 a36 a37 a38 a39 a40, P a1 a2 a3 a4 a5 a6 a7 a8 a9 a10 a11 a12 a13 a14 a15 a16 a17 a18 a19 a20 a21 a22 a23 a24 a25 a26 a27 a28 a29 a30 a31 a32 a33 a34 a35 a36 a37 a38 a39 a40 := by with_unfolding_all exact fun a1 a2 a3 a4 a5 a6 a7 a8 a9 a10 a11 a12 a13 a14 a15 a16 a17 a18 a19 a20 a21 a22 a23 a24 a25 a26 a27 a28 a29 a30 a31 a32 a33 a34 a35 a36 a37 a38 a39 a40 => zk0 i (P := zG40 P) h (a1, a2, a3, a4, a5, a6, a7, a8, a9, a10, a11, a12, a13, a14, a15, a16, a17, a18, a19, a20, a21, a22, a23, a24, a25, a26, a27, a28, a29, a30, a31, a32, a33, a34, a35, a36, a37, a38, a39, a40)
noncomputable def zG48 {T1 T2 T3 T4 T5 T6 T7 T8 T9 T10 T11 T12 T13 T14 T15 T16 T17 T18 T19 T20 T21 T22 T23 T24 T25 T26 T27 T28 T29 T30 T31 T32 T33 T34 T35 T36 T37 T38 T39 T40 T41 T42 T43 T44 T45 T46 T47 T48 : Type} (P : T1 → T2 → T3 → T4 → T5 → T6 → T7 → T8 → T9 → T10 → T11 → T12 → T13 → T14 → T15 → T16 → T17 → T18 → T19 → T20 → T21 → T22 → T23 → T24 → T25 → T26 → T27 → T28 → T29 → T30 → T31 → T32 → T33 → T34 → T35 → T36 → T37 → T38 → T39 → T40 → T41 → T42 → T43 → T44 → T45 → T46 → T47 → T48 → Prop) (p : T1 × T2 × T3 × T4 × T5 × T6 × T7 × T8 × T9 × T10 × T11 × T12 × T13 × T14 × T15 × T16 × T17 × T18 × T19 × T20 × T21 × T22 × T23 × T24 × T25 × T26 × T27 × T28 × T29 × T30 × T31 × T32 × T33 × T34 × T35 × T36 × T37 × T38 × T39 × T40 × T41 × T42 × T43 × T44 × T45 × T46 × T47 × T48) : Prop := P (zf p) (zf (zs p)) (zf (zs (zs p))) (zf (zs (zs (zs p)))) (zf (zs (zs (zs (zs p))))) (zf (zs (zs (zs (zs (zs p)))))) (zf (zs (zs (zs (zs (zs (zs p))))))) (zf (zs (zs (zs (zs (zs (zs (zs p)))))))) (zf (zs (zs (zs (zs (zs (zs (zs (zs p))))))))) (zf (zs (zs (zs (zs (zs (zs (zs (zs (zs p)))))))))) (zf (zs (zs (zs (zs (zs (zs (zs (zs (zs (zs p))))))))))) (zf (zs (zs (zs (zs (zs (zs (zs (zs (zs (zs (zs p)))))))))))) (zf (zs (zs (zs (zs (zs (zs (zs (zs (zs (zs (zs (zs p))))))))))))) (zf (zs (zs (zs (zs (zs (zs (zs (zs (zs (zs (zs (zs (zs p)))))))))))))) (zf (zs (zs (zs (zs (zs (zs (zs (zs (zs (zs (zs (zs (zs (zs p))))))))))))))) (zf (zs (zs (zs (zs (zs (zs (zs (zs (zs (zs (zs (zs (zs (zs (zs p)))))))))))))))) (zf (zs (zs (zs (zs (zs (zs (zs (zs (zs (zs (zs (zs (zs (zs (zs (zs p))))))))))))))))) (zf (zs (zs (zs (zs (zs (zs (zs (zs (zs (zs (zs (zs (zs (zs (zs (zs (zs p)))))))))))))))))) (zf (zs (zs (zs (zs (zs (zs (zs (zs (zs (zs (zs (zs (zs (zs (zs (zs (zs (zs p))))))))))))))))))) (zf (zs (zs (zs (zs (zs (zs (zs (zs (zs (zs (zs (zs (zs (zs (zs (zs (zs (zs (zs p)))))))))))))))))))) (zf (zs (zs (zs (zs (zs (zs (zs (zs (zs (zs (zs (zs (zs (zs (zs (zs (zs (zs (zs (zs p))))))))))))))))))))) (zf (zs (zs (zs (zs (zs (zs (zs (zs (zs (zs (zs (zs (zs (zs (zs (zs (zs (zs (zs (zs (zs p)))))))))))))))))))))) (zf (zs (zs (zs (zs (zs (zs (zs (zs (zs (zs (zs (zs (zs (zs (zs (zs (zs (zs (zs (zs (zs (zs p))))))))))))))))))))))) (zf (zs (zs (zs (zs (zs (zs (zs (zs (zs (zs (zs (zs (zs (zs (zs (zs (zs (zs (zs (zs (zs (zs (zs p)))))))))))))))))))))))) (zf (zs (zs (zs (zs (zs (zs (zs (zs (zs (zs (zs (zs (zs (zs (zs (zs (zs (zs (zs (zs (zs (zs (zs (zs p))))))))))))))))))))))))) (zf (zs (zs (zs (zs (zs (zs (zs (zs (zs (zs (zs (zs (zs (zs (zs (zs (zs (zs (zs (zs (zs (zs (zs (zs (zs p)))))))))))))))))))))))))) (zf (zs (zs (zs (zs (zs (zs (zs (zs (zs (zs (zs (zs (zs (zs (zs (zs (zs (zs (zs (zs (zs (zs (zs (zs (zs (zs p))))))))))))))))))))))))))) (zf (zs (zs (zs (zs (zs (zs (zs (zs (zs (zs (zs (zs (zs (zs (zs (zs (zs (zs (zs (zs (zs (zs (zs (zs (zs (zs (zs p)))))))))))))))))))))))))))) (zf (zs (zs (zs (zs (zs (zs (zs (zs (zs (zs (zs (zs (zs (zs (zs (zs (zs (zs (zs (zs (zs (zs (zs (zs (zs (zs (zs (zs p))))))))))))))))))))))))))))) (zf (zs (zs (zs (zs (zs (zs (zs (zs (zs (zs (zs (zs (zs (zs (zs (zs (zs (zs (zs (zs (zs (zs (zs (zs (zs (zs (zs (zs (zs p)))))))))))))))))))))))))))))) (zf (zs (zs (zs (zs (zs (zs (zs (zs (zs (zs (zs (zs (zs (zs (zs (zs (zs (zs (zs (zs (zs (zs (zs (zs (zs (zs (zs (zs (zs (zs p))))))))))))))))))))))))))))))) (zf (zs (zs (zs (zs (zs (zs (zs (zs (zs (zs (zs (zs (zs (zs (zs (zs (zs (zs (zs (zs (zs (zs (zs (zs (zs (zs (zs (zs (zs (zs (zs p)))))))))))))))))))))))))))))))) (zf (zs (zs (zs (zs (zs (zs (zs (zs (zs (zs (zs (zs (zs (zs (zs (zs (zs (zs (zs (zs (zs (zs (zs (zs (zs (zs (zs (zs (zs (zs (zs (zs p))))))))))))))))))))))))))))))))) (zf (zs (zs (zs (zs (zs (zs (zs (zs (zs (zs (zs (zs (zs (zs (zs (zs (zs (zs (zs (zs (zs (zs (zs (zs (zs (zs (zs (zs (zs (zs (zs (zs (zs p)))))))))))))))))))))))))))))))))) (zf (zs (zs (zs (zs (zs (zs (zs (zs (zs (zs (zs (zs (zs (zs (zs (zs (zs (zs (zs (zs (zs (zs (zs (zs (zs (zs (zs (zs (zs (zs (zs (zs (zs (zs p))))))))))))))))))))))))))))))))))) (zf (zs (zs (zs (zs (zs (zs (zs (zs (zs (zs (zs (zs (zs (zs (zs (zs (zs (zs (zs (zs (zs (zs (zs (zs (zs (zs (zs (zs (zs (zs (zs (zs (zs (zs (zs p)))))))))))))))))))))))))))))))))))) (zf (zs (zs (zs (zs (zs (zs (zs (zs (zs (zs (zs (zs (zs (zs (zs (zs (zs (zs (zs (zs (zs (zs (zs (zs (zs (zs (zs (zs (zs (zs (zs (zs (zs (zs (zs (zs p))))))))))))))))))))))))))))))))))))) (zf (zs (zs (zs (zs (zs (zs (zs (zs (zs (zs (zs (zs (zs (zs (zs (zs (zs (zs (zs (zs (zs (zs (zs (zs (zs (zs (zs (zs (zs (zs (zs (zs (zs (zs (zs (zs (zs p)))))))))))))))))))))))))))))))))))))) (zf (zs (zs (zs (zs (zs (zs (zs (zs (zs (zs (zs (zs (zs (zs (zs (zs (zs (zs (zs (zs (zs (zs (zs (zs (zs (zs (zs (zs (zs (zs (zs (zs (zs (zs (zs (zs (zs (zs p))))))))))))))))))))))))))))))))))))))) (zf (zs (zs (zs (zs (zs (zs (zs (zs (zs (zs (zs (zs (zs (zs (zs (zs (zs (zs (zs (zs (zs (zs (zs (zs (zs (zs (zs (zs (zs (zs (zs (zs (zs (zs (zs (zs (zs (zs (zs p)))))))))))))))))))))))))))))))))))))))) (zf (zs (zs (zs (zs (zs (zs (zs (zs (zs (zs (zs (zs (zs (zs (zs (zs (zs (zs (zs (zs (zs (zs (zs (zs (zs (zs (zs (zs (zs (zs (zs (zs (zs (zs (zs (zs (zs (zs (zs (zs p))))))))))))))))))))))))))))))))))))))))) (zf (zs (zs (zs (zs (zs (zs (zs (zs (zs (zs (zs (zs (zs (zs (zs (zs (zs (zs (zs (zs (zs (zs (zs (zs (zs (zs (zs (zs (zs (zs (zs (zs (zs (zs (zs (zs (zs (zs (zs (zs (zs p)))))))))))))))))))))))))))))))))))))))))) (zf (zs (zs (zs (zs (zs (zs (zs (zs (zs (zs (zs (zs (zs (zs (zs (zs (zs (zs (zs (zs (zs (zs (zs (zs (zs (zs (zs (zs (zs (zs (zs (zs (zs (zs (zs (zs (zs (zs (zs (zs (zs (zs p))))))))))))))))))))))))))))))))))))))))))) (zf (zs (zs (zs (zs (zs (zs (zs (zs (zs (zs (zs (zs (zs (zs (zs (zs (zs (zs (zs (zs (zs (zs (zs (zs (zs (zs (zs (zs (zs (zs (zs (zs (zs (zs (zs (zs (zs (zs (zs (zs (zs (zs (zs p)))))))))))))))))))))))))))))))))))))))))))) (zf (zs (zs (zs (zs (zs (zs (zs (zs (zs (zs (zs (zs (zs (zs (zs (zs (zs (zs (zs (zs (zs (zs (zs (zs (zs (zs (zs (zs (zs (zs (zs (zs (zs (zs (zs (zs (zs (zs (zs (zs (zs (zs (zs (zs p))))))))))))))))))))))))))))))))))))))))))))) (zf (zs (zs (zs (zs (zs (zs (zs (zs (zs (zs (zs (zs (zs (zs (zs (zs (zs (zs (zs (zs (zs (zs (zs (zs (zs (zs (zs (zs (zs (zs (zs (zs (zs (zs (zs (zs (zs (zs (zs (zs (zs (zs (zs (zs (zs p)))))))))))))))))))))))))))))))))))))))))))))) (zf (zs (zs (zs (zs (zs (zs (zs (zs (zs (zs (zs (zs (zs (zs (zs (zs (zs (zs (zs (zs (zs (zs (zs (zs (zs (zs (zs (zs (zs (zs (zs (zs (zs (zs (zs (zs (zs (zs (zs (zs (zs (zs (zs (zs (zs (zs p))))))))))))))))))))))))))))))))))))))))))))))) (zs (zs (zs (zs (zs (zs (zs (zs (zs (zs (zs (zs (zs (zs (zs (zs (zs (zs (zs (zs (zs (zs (zs (zs (zs (zs (zs (zs (zs (zs (zs (zs (zs (zs (zs (zs (zs (zs (zs (zs (zs (zs (zs (zs (zs (zs (zs p)))))))))))))))))))))))))))))))))))))))))))))))
theorem zk48 {T1 T2 T3 T4 T5 T6 T7 T8 T9 T10 T11 T12 T13 T14 T15 T16 T17 T18 T19 T20 T21 T22 T23 T24 T25 T26 T27 T28 T29 T30 T31 T32 T33 T34 T35 T36 T37 T38 T39 T40 T41 T42 T43 T44 T45 T46 T47 T48 : Type} {P : T1 → T2 → T3 → T4 → T5 → T6 → T7 → T8 → T9 → T10 → T11 → T12 → T13 → T14 → T15 → T16 → T17 → T18 → T19 → T20 → T21 → T22 → T23 → T24 → T25 → T26 → T27 → T28 → T29 → T30 → T31 → T32 → T33 → T34 → T35 → T36 → T37 → T38 → T39 → T40 → T41 → T42 → T43 → T44 → T45 → T46 → T47 → T48 → Prop} (i : Nonempty (T1 × T2 × T3 × T4 × T5 × T6 × T7 × T8 × T9 × T10 × T11 × T12 × T13 × T14 × T15 × T16 × T17 × T18 × T19 × T20 × T21 × T22 × T23 × T24 × T25 × T26 × T27 × T28 × T29 × T30 × T31 × T32 × T33 × T34 × T35 × T36 × T37 × T38 × T39 × T40 × T41 × T42 × T43 × T44 × T45 × T46 × T47 × T48) := by walk_at "ne") (h : zG48 P (zwt i (zG48 P))) : ∀ a1 a2 a3 a4 a5 a6 a7 a8 a9 a10 a11 a12 a13 a14 a15 a16 a17 a18 a19 a20 a21 a22 a23 a24 a25 a26 a27 a28 a29 a30 a31 a32 a33 a34 a35 a36 a37 a38 a39 a40 a41 a42 a43 a44 a45 a46 a47 a48, P a1 a2 a3 a4 a5 a6 a7 a8 a9 a10 a11 a12 a13 a14 a15 a16 a17 a18 a19 a20 a21 a22 a23 a24 a25 a26 a27 a28 a29 a30 a31 a32 a33 a34 a35 a36 a37 a38 a39 a40 a41 a42 a43 a44 a45 a46 a47 a48 := by with_unfolding_all exact fun a1 a2 a3 a4 a5 a6 a7 a8 a9 a10 a11 a12 a13 a14 a15 a16 a17 a18 a19 a20 a21 a22 a23 a24 a25 a26 a27 a28 a29 a30 a31 a32 a33 a34 a35 a36 a37 a38 a39 a40 a41 a42 a43 a44 a45 a46 a47 a48 => zk0 i (P := zG48 P) h (a1, a2, a3, a4, a5, a6, a7, a8, a9, a10, a11, a12, a13, a14, a15, a16, a17, a18, a19, a20, a21, a22, a23, a24, a25, a26, a27, a28, a29, a30, a31, a32, a33, a34, a35, a36, a37, a38, a39, a40, a41, a42, a43, a44, a45, a46, a47, a48)
noncomputable def zG56 {T1 T2 T3 T4 T5 T6 T7 T8 T9 T10 T11 T12 T13 T14 T15 T16 T17 T18 T19 T20 T21 T22 T23 T24 T25 T26 T27 T28 T29 T30 T31 T32 T33 T34 T35 T36 T37 T38 T39 T40 T41 T42 T43 T44 T45 T46 T47 T48 T49 T50 T51 T52 T53 T54 T55 T56 : Type} (P : T1 → T2 → T3 → T4 → T5 → T6 → T7 → T8 → T9 → T10 → T11 → T12 → T13 → T14 → T15 → T16 → T17 → T18 → T19 → T20 → T21 → T22 → T23 → T24 → T25 → T26 → T27 → T28 → T29 → T30 → T31 → T32 → T33 → T34 → T35 → T36 → T37 → T38 → T39 → T40 → T41 → T42 → T43 → T44 → T45 → T46 → T47 → T48 → T49 → T50 → T51 → T52 → T53 → T54 → T55 → T56 → Prop) (p : T1 × T2 × T3 × T4 × T5 × T6 × T7 × T8 × T9 × T10 × T11 × T12 × T13 × T14 × T15 × T16 × T17 × T18 × T19 × T20 × T21 × T22 × T23 × T24 × T25 × T26 × T27 × T28 × T29 × T30 × T31 × T32 × T33 × T34 × T35 × T36 × T37 × T38 × T39 × T40 × T41 × T42 × T43 × T44 × T45 × T46 × T47 × T48 × T49 × T50 × T51 × T52 × T53 × T54 × T55 × T56) : Prop := P (zf p) (zf (zs p)) (zf (zs (zs p))) (zf (zs (zs (zs p)))) (zf (zs (zs (zs (zs p))))) (zf (zs (zs (zs (zs (zs p)))))) (zf (zs (zs (zs (zs (zs (zs p))))))) (zf (zs (zs (zs (zs (zs (zs (zs p)))))))) (zf (zs (zs (zs (zs (zs (zs (zs (zs p))))))))) (zf (zs (zs (zs (zs (zs (zs (zs (zs (zs p)))))))))) (zf (zs (zs (zs (zs (zs (zs (zs (zs (zs (zs p))))))))))) (zf (zs (zs (zs (zs (zs (zs (zs (zs (zs (zs (zs p)))))))))))) (zf (zs (zs (zs (zs (zs (zs (zs (zs (zs (zs (zs (zs p))))))))))))) (zf (zs (zs (zs (zs (zs (zs (zs (zs (zs (zs (zs (zs (zs p)))))))))))))) (zf (zs (zs (zs (zs (zs (zs (zs (zs (zs (zs (zs (zs (zs (zs p))))))))))))))) (zf (zs (zs (zs (zs (zs (zs (zs (zs (zs (zs (zs (zs (zs (zs (zs p)))))))))))))))) (zf (zs (zs (zs (zs (zs (zs (zs (zs (zs (zs (zs (zs (zs (zs (zs (zs p))))))))))))))))) (zf (zs (zs (zs (zs (zs (zs (zs (zs (zs (zs (zs (zs (zs (zs (zs (zs (zs p)))))))))))))))))) (zf (zs (zs (zs (zs (zs (zs (zs (zs (zs (zs (zs (zs (zs (zs (zs (zs (zs (zs p))))))))))))))))))) (zf (zs (zs (zs (zs (zs (zs (zs (zs (zs (zs (zs (zs (zs (zs (zs (zs (zs (zs (zs p)))))))))))))))))))) (zf (zs (zs (zs (zs (zs (zs (zs (zs (zs (zs (zs (zs (zs (zs (zs (zs (zs (zs (zs (zs p))))))))))))))))))))) (zf (zs (zs (zs (zs (zs (zs (zs (zs (zs (zs (zs (zs (zs (zs (zs (zs (zs (zs (zs (zs (zs p)))))))))))))))))))))) (zf (zs (zs (zs (zs (zs (zs (zs (zs (zs (zs (zs (zs (zs (zs (zs (zs (zs (zs (zs (zs (zs (zs p))))))))))))))))))))))) (zf (zs (zs (zs (zs (zs (zs (zs (zs (zs (zs (zs (zs (zs (zs (zs (zs (zs (zs (zs (zs (zs (zs (zs p)))))))))))))))))))))))) (zf (zs (zs (zs (zs (zs (zs (zs (zs (zs (zs (zs (zs (zs (zs (zs (zs (zs (zs (zs (zs (zs (zs (zs (zs p))))))))))))))))))))))))) (zf (zs (zs (zs (zs (zs (zs (zs (zs (zs (zs (zs (zs (zs (zs (zs (zs (zs (zs (zs (zs (zs (zs (zs (zs (zs p)))))))))))))))))))))))))) (zf (zs (zs (zs (zs (zs (zs (zs (zs (zs (zs (zs (zs (zs (zs (zs (zs (zs (zs (zs (zs (zs (zs (zs (zs (zs (zs p))))))))))))))))))))))))))) (zf (zs (zs (zs (zs (zs (zs (zs (zs (zs (zs (zs (zs (zs (zs (zs (zs (zs (zs (zs (zs (zs (zs (zs (zs (zs (zs (zs p)))))))))))))))))))))))))))) (zf (zs (zs (zs (zs (zs (zs (zs (zs (zs (zs (zs (zs (zs (zs (zs (zs (zs (zs (zs (zs (zs (zs (zs (zs (zs (zs (zs (zs p))))))))))))))))))))))))))))) (zf (zs (zs (zs (zs (zs (zs (zs (zs (zs (zs (zs (zs (zs (zs (zs (zs (zs (zs (zs (zs (zs (zs (zs (zs (zs (zs (zs (zs (zs p)))))))))))))))))))))))))))))) (zf (zs (zs (zs (zs (zs (zs (zs (zs (zs (zs (zs (zs (zs (zs (zs (zs (zs (zs (zs (zs (zs (zs (zs (zs (zs (zs (zs (zs (zs (zs p))))))))))))))))))))))))))))))) (zf (zs (zs (zs (zs (zs (zs (zs (zs (zs (zs (zs (zs (zs (zs (zs (zs (zs (zs (zs (zs (zs (zs (zs (zs (zs (zs (zs (zs (zs (zs (zs p)))))))))))))))))))))))))))))))) (zf (zs (zs (zs (zs (zs (zs (zs (zs (zs (zs (zs (zs (zs (zs (zs (zs (zs (zs (zs (zs (zs (zs (zs (zs (zs (zs (zs (zs (zs (zs (zs (zs p))))))))))))))))))))))))))))))))) (zf (zs (zs (zs (zs (zs (zs (zs (zs (zs (zs (zs (zs (zs (zs (zs (zs (zs (zs (zs (zs (zs (zs (zs (zs (zs (zs (zs (zs (zs (zs (zs (zs (zs p)))))))))))))))))))))))))))))))))) (zf (zs (zs (zs (zs (zs (zs (zs (zs (zs (zs (zs (zs (zs (zs (zs (zs (zs (zs (zs (zs (zs (zs (zs (zs (zs (zs (zs (zs (zs (zs (zs (zs (zs (zs p))))))))))))))))))))))))))))))))))) (zf (zs (zs (zs (zs (zs (zs (zs (zs (zs (zs (zs (zs (zs (zs (zs (zs (zs (zs (zs (zs (zs (zs (zs (zs (zs (zs (zs (zs (zs (zs (zs (zs (zs (zs (zs p)))))))))))))))))))))))))))))))))))) (zf (zs (zs (zs (zs (zs (zs (zs (zs (zs (zs (zs (zs (zs (zs (zs (zs (zs (zs (zs (zs (zs (zs (zs (zs (zs (zs (zs (zs (zs (zs (zs (zs (zs (zs (zs (zs p))))))))))))))))))))))))))))))))))))) (zf (zs (zs (zs (zs (zs (zs (zs (zs (zs (zs (zs (zs (zs (zs (zs (zs (zs (zs (zs (zs (zs (zs (zs (zs (zs (zs (zs (zs (zs (zs (zs (zs (zs (zs (zs (zs (zs p)))))))))))))))))))))))))))))))))))))) (zf (zs (zs (zs (zs (zs (zs (zs (zs (zs (zs (zs (zs (zs (zs (zs (zs (zs (zs (zs (zs (zs (zs (zs (zs (zs (zs (zs (zs (zs (zs (zs (zs (zs (zs (zs (zs (zs (zs p))))))))))))))))))))))))))))))))))))))) (zf (zs (zs (zs (zs (zs (zs (zs (zs (zs (zs (zs (zs (zs (zs (zs (zs (zs (zs (zs (zs (zs (zs (zs (zs (zs (zs (zs (zs (zs (zs (zs (zs (zs (zs (zs (zs (zs (zs (zs p)))))))))))))))))))))))))))))))))))))))) (zf (zs (zs (zs (zs (zs (zs (zs (zs (zs (zs (zs (zs (zs (zs (zs (zs (zs (zs (zs (zs (zs (zs (zs (zs (zs (zs (zs (zs (zs (zs (zs (zs (zs (zs (zs (zs (zs (zs (zs (zs p))))))))))))))))))))))))))))))))))))))))) (zf (zs (zs (zs (zs (zs (zs (zs (zs (zs (zs (zs (zs (zs (zs (zs (zs (zs (zs (zs (zs (zs (zs (zs (zs (zs (zs (zs (zs (zs (zs (zs (zs (zs (zs (zs (zs (zs (zs (zs (zs (zs p)))))))))))))))))))))))))))))))))))))))))) (zf (zs (zs (zs (zs (zs (zs (zs (zs (zs (zs (zs (zs (zs (zs (zs (zs (zs (zs (zs (zs (zs (zs (zs (zs (zs (zs (zs (zs (zs (zs (zs (zs (zs (zs (zs (zs (zs (zs (zs (zs (zs (zs p))))))))))))))))))))))))))))))))))))))))))) (zf (zs (zs (zs (zs (zs (zs (zs (zs (zs (zs (zs (zs (zs (zs (zs (zs (zs (zs (zs (zs (zs (zs (zs (zs (zs (zs (zs (zs (zs (zs (zs (zs (zs (zs (zs (zs (zs (zs (zs (zs (zs (zs (zs p)))))))))))))))))))))))))))))))))))))))))))) (zf (zs (zs (zs (zs (zs (zs (zs (zs (zs (zs (zs (zs (zs (zs (zs (zs (zs (zs (zs (zs (zs (zs (zs (zs (zs (zs (zs (zs (zs (zs (zs (zs (zs (zs (zs (zs (zs (zs (zs (zs (zs (zs (zs (zs p))))))))))))))))))))))))))))))))))))))))))))) (zf (zs (zs (zs (zs (zs (zs (zs (zs (zs (zs (zs (zs (zs (zs (zs (zs (zs (zs (zs (zs (zs (zs (zs (zs (zs (zs (zs (zs (zs (zs (zs (zs (zs (zs (zs (zs (zs (zs (zs (zs (zs (zs (zs (zs (zs p)))))))))))))))))))))))))))))))))))))))))))))) (zf (zs (zs (zs (zs (zs (zs (zs (zs (zs (zs (zs (zs (zs (zs (zs (zs (zs (zs (zs (zs (zs (zs (zs (zs (zs (zs (zs (zs (zs (zs (zs (zs (zs (zs (zs (zs (zs (zs (zs (zs (zs (zs (zs (zs (zs (zs p))))))))))))))))))))))))))))))))))))))))))))))) (zf (zs (zs (zs (zs (zs (zs (zs (zs (zs (zs (zs (zs (zs (zs (zs (zs (zs (zs (zs (zs (zs (zs (zs (zs (zs (zs (zs (zs (zs (zs (zs (zs (zs (zs (zs (zs (zs (zs (zs (zs (zs (zs (zs (zs (zs (zs (zs p)))))))))))))))))))))))))))))))))))))))))))))))) (zf (zs (zs (zs (zs (zs (zs (zs (zs (zs (zs (zs (zs (zs (zs (zs (zs (zs (zs (zs (zs (zs (zs (zs (zs (zs (zs (zs (zs (zs (zs (zs (zs (zs (zs (zs (zs (zs (zs (zs (zs (zs (zs (zs (zs (zs (zs (zs (zs p))))))))))))))))))))))))))))))))))))))))))))))))) (zf (zs (zs (zs (zs (zs (zs (zs (zs (zs (zs (zs (zs (zs (zs (zs (zs (zs (zs (zs (zs (zs (zs (zs (zs (zs (zs (zs (zs (zs (zs (zs (zs (zs (zs (zs (zs (zs (zs (zs (zs (zs (zs (zs (zs (zs (zs (zs (zs (zs p)))))))))))))))))))))))))))))))))))))))))))))))))) (zf (zs (zs (zs (zs (zs (zs (zs (zs (zs (zs (zs (zs (zs (zs (zs (zs (zs (zs (zs (zs (zs (zs (zs (zs (zs (zs (zs (zs (zs (zs (zs (zs (zs (zs (zs (zs (zs (zs (zs (zs (zs (zs (zs (zs (zs (zs (zs (zs (zs (zs p))))))))))))))))))))))))))))))))))))))))))))))))))) (zf (zs (zs (zs (zs (zs (zs (zs (zs (zs (zs (zs (zs (zs (zs (zs (zs (zs (zs (zs (zs (zs (zs (zs (zs (zs (zs (zs (zs (zs (zs (zs (zs (zs (zs (zs (zs (zs (zs (zs (zs (zs (zs (zs (zs (zs (zs (zs (zs (zs (zs (zs p)))))))))))))))))))))))))))))))))))))))))))))))))))) (zf (zs (zs (zs (zs (zs (zs (zs (zs (zs (zs (zs (zs (zs (zs (zs (zs (zs (zs (zs (zs (zs (zs (zs (zs (zs (zs (zs (zs (zs (zs (zs (zs (zs (zs (zs (zs (zs (zs (zs (zs (zs (zs (zs (zs (zs (zs (zs (zs (zs (zs (zs (zs p))))))))))))))))))))))))))))))))))))))))))))))))))))) (zf (zs (zs (zs (zs (zs (zs (zs (zs (zs (zs (zs (zs (zs (zs (zs (zs (zs (zs (zs (zs (zs (zs (zs (zs (zs (zs (zs (zs (zs (zs (zs (zs (zs (zs (zs (zs (zs (zs (zs (zs (zs (zs (zs (zs (zs (zs (zs (zs (zs (zs (zs (zs (zs p)))))))))))))))))))))))))))))))))))))))))))))))))))))) (zf (zs (zs (zs (zs (zs (zs (zs (zs (zs (zs (zs (zs (zs (zs (zs (zs (zs (zs (zs (zs (zs (zs (zs (zs (zs (zs (zs (zs (zs (zs (zs (zs (zs (zs (zs (zs (zs (zs (zs (zs (zs (zs (zs (zs (zs (zs (zs (zs (zs (zs (zs (zs (zs (zs p))))))))))))))))))))))))))))))))))))))))))))))))))))))) (zs (zs (zs (zs (zs (zs (zs (zs (zs (zs (zs (zs (zs (zs (zs (zs (zs (zs (zs (zs (zs (zs (zs (zs (zs (zs (zs (zs (zs (zs (zs (zs (zs (zs (zs (zs (zs (zs (zs (zs (zs (zs (zs (zs (zs (zs (zs (zs (zs (zs (zs (zs (zs (zs (zs p)))))))))))))))))))))))))))))))))))))))))))))))))))))))
theorem zk56 {T1 T2 T3 T4 T5 T6 T7 T8 T9 T10 T11 T12 T13 T14 T15 T16 T17 T18 T19 T20 T21 T22 T23 T24 T25 T26 T27 T28 T29 T30 T31 T32 T33 T34 T35 T36 T37 T38 T39 T40 T41 T42 T43 T44 T45 T46 T47 T48 T49 T50 T51 T52 T53 T54 T55 T56 : Type} {P : T1 → T2 → T3 → T4 → T5 → T6 → T7 → T8 → T9 → T10 → T11 → T12 → T13 → T14 → T15 → T16 → T17 → T18 → T19 → T20 → T21 → T22 → T23 → T24 → T25 → T26 → T27 → T28 → T29 → T30 → T31 → T32 → T33 → T34 → T35 → T36 → T37 → T38 → T39 → T40 → T41 → T42 → T43 → T44 → T45 → T46 → T47 → T48 → T49 → T50 → T51 → T52 → T53 → T54 → T55 → T56 → Prop} (i : Nonempty (T1 × T2 × T3 × T4 × T5 × T6 × T7 × T8 × T9 × T10 × T11 × T12 × T13 × T14 × T15 × T16 × T17 × T18 × T19 × T20 × T21 × T22 × T23 × T24 × T25 × T26 × T27 × T28 × T29 × T30 × T31 × T32 × T33 × T34 × T35 × T36 × T37 × T38 × T39 × T40 × T41 × T42 × T43 × T44 × T45 × T46 × T47 × T48 × T49 × T50 × T51 × T52 × T53 × T54 × T55 × T56) := by walk_at "ne") (h : zG56 P (zwt i (zG56 P))) : ∀ a1 a2 a3 a4 a5 a6 a7 a8 a9 a10 a11 a12 a13 a14 a15 a16 a17 a18 a19 a20 a21 a22 a23 a24 a25 a26 a27 a28 a29 a30 a31 a32 a33 a34 a35 a36 a37 a38 a39 a40 a41 a42 a43 a44 a45 a46 a47 a48 a49 a50 a51 a52 a53 a54 a55 a56, P a1 a2 a3 a4 a5 a6 a7 a8 a9 a10 a11 a12 a13 a14 a15 a16 a17 a18 a19 a20 a21 a22 a23 a24 a25 a26 a27 a28 a29 a30 a31 a32 a33 a34 a35 a36 a37 a38 a39 a40 a41 a42 a43 a44 a45 a46 a47 a48 a49 a50 a51 a52 a53 a54 a55 a56 := by with_unfolding_all exact fun a1 a2 a3 a4 a5 a6 a7 a8 a9 a10 a11 a12 a13 a14 a15 a16 a17 a18 a19 a20 a21 a22 a23 a24 a25 a26 a27 a28 a29 a30 a31 a32 a33 a34 a35 a36 a37 a38 a39 a40 a41 a42 a43 a44 a45 a46 a47 a48 a49 a50 a51 a52 a53 a54 a55 a56 => zk0 i (P := zG56 P) h (a1, a2, a3, a4, a5, a6, a7, a8, a9, a10, a11, a12, a13, a14, a15, a16, a17, a18, a19, a20, a21, a22, a23, a24, a25, a26, a27, a28, a29, a30, a31, a32, a33, a34, a35, a36, a37, a38, a39, a40, a41, a42, a43, a44, a45, a46, a47, a48, a49, a50, a51, a52, a53, a54, a55, a56)
end
theorem zr3 {a b c d : Prop} (h : a ∧ b ∧ c ∧ d) : d := h.2.2.2
theorem zr4 {a b c d e : Prop} (h : a ∧ b ∧ c ∧ d ∧ e) : e := h.2.2.2.2
theorem zr5 {a b c d e f : Prop} (h : a ∧ b ∧ c ∧ d ∧ e ∧ f) : f := h.2.2.2.2.2
theorem zr6 {a b c d e f g : Prop} (h : a ∧ b ∧ c ∧ d ∧ e ∧ f ∧ g) : g := h.2.2.2.2.2.2
theorem zr7 {a b c d e f g i : Prop} (h : a ∧ b ∧ c ∧ d ∧ e ∧ f ∧ g ∧ i) : i := h.2.2.2.2.2.2.2
def zt (k : Lean.Name) (s : String) (o : Bool) : Lean.Syntax.Tactic := ⟨.node .none k (if o then #[.atom .none s, .node .none `Lean.Parser.Tactic.optConfig #[.node .none `null #[]]] else #[.atom .none s])⟩
def zby (t : Lean.Syntax.Tactic) : Lean.MacroM Lean.Term := `(by $t:tactic)
def zhl : Lean.Term := ⟨.node .none `Lean.Parser.Term.hole #[.atom .none "_"]⟩
def zta : Lean.Syntax.Tactic := zt `Lean.Parser.Tactic.assumption "assumption" false
def ztm : Lean.Syntax.Tactic := zt `PySem.W.tacticK_mem "k_mem" false
def ztd : Lean.Syntax.Tactic := zt `Lean.Parser.Tactic.decide "decide" true
def zto : Lean.Syntax.Tactic := zt `Lean.Parser.Tactic.omega "omega" true
def zwa (s : String) : Lean.MacroM Lean.Syntax.Tactic := `(tactic| walk_at $(Lean.Syntax.mkStrLit s))
def zbn (f : Lean.Name) : Lean.MacroM Lean.Term := do return Lean.Syntax.mkApp (Lean.mkIdent f) #[← zby zta, ← zby ztm]
def zl (c : Char) : Lean.MacroM Lean.Term := do
  if c = 'a' then zby zta else if c = 'm' then zby ztm else if c = 'h' then `(?_) else if c = 'o' then zby zto else if c = 'd' then zby ztd
  else if c = 'u' then zby (zt `PySem.W.tacticK_updF "k_updF" false) else if c = 'U' then zby (zt `PySem.W.tacticK_upd "k_upd" false)
  else if c = 'i' then zby (← zwa "m isl") else if c = 'N' then zby (← zwa "m units")
  else if c = 'k' then return Lean.Syntax.mkApp (Lean.mkIdent `intKind_is) #[zhl, zhl, zhl, zhl]
  else if c = 'R' then return Lean.Syntax.mkApp (Lean.mkIdent `Value.ref) #[zhl]
  else if c = 'I' then return Lean.Syntax.mkApp (Lean.mkIdent `Value.int) #[zhl, zhl]
  else if c = 'Q' then zby (← zwa "m isq") else if c = 'z' then return Lean.Syntax.mkApp (Lean.mkIdent `zsz) #[← zby zto]
  else if c = 'S' then return Lean.Syntax.mkApp (Lean.mkIdent `zsb) #[← zby zto] else if c = 'Z' then return Lean.Syntax.mkApp (Lean.mkIdent `zsa) #[← zby zto]
  else if c = 'G' then zbn `News.get else if c = 'T' then zbn `News.isTup
  else if c = 'D' then return Lean.mkIdent `default
  else return zhl
def zap (f : Lean.Name) (c : String) : Lean.MacroM Lean.Term := return Lean.Syntax.mkApp (Lean.mkIdent f) (← c.toList.mapM zl).toArray
def zr (f : Lean.Name) (c : String) : Lean.MacroM Lean.Syntax.Tactic := do `(tactic| refine $(← zap f c))
def zsh (t : Lean.Term) : Lean.MacroM Lean.Syntax.Tactic := `(tactic| with_reducible show wpAny _ _ $t _ _ _)
def zv (f : Lean.Name) (c : String) : Lean.MacroM Lean.Syntax.Tactic := do zsh (← zap f c)
def zvs (f : Lean.Name) (c : String) : Lean.MacroM Lean.Syntax.Tactic := do zsh (Lean.Syntax.mkApp (Lean.mkIdent f) #[← zl 'R', Lean.Syntax.mkApp (Lean.mkIdent `PySem.Str.ofString) #[Lean.Syntax.mkStrLit c], zhl])
def zj (a b : Lean.MacroM Lean.Syntax.Tactic) : Lean.MacroM Lean.Syntax.Tactic := do `(tactic| ($(← a); $(← b)))
def zo (a b : Lean.MacroM Lean.Syntax.Tactic) : Lean.MacroM Lean.Syntax.Tactic := do `(tactic| first | $(← a):tactic | $(← b):tactic)
def zkd (a : Lean.MacroM Lean.Syntax.Tactic) : Lean.MacroM Lean.Syntax.Tactic := do `(tactic| k_dflt $(← a):tactic)
def zbk : Lean.MacroM Lean.Syntax.Tactic := zr `Blk.mk "h"
def zas : Lean.MacroM Lean.Syntax.Tactic := return zta
def zi1 : Lean.MacroM Lean.Syntax.Tactic := `(tactic| (intro q' h' F' N' l1; (try k_lt l1); (try k_sweep)))
def zi2 : Lean.MacroM Lean.Syntax.Tactic := `(tactic| (intro h' o' F' N' hd'; (try dsimp only at N')))
def zi5 : Lean.MacroM Lean.Syntax.Tactic := `(tactic| (intro h' F' N'; (try dsimp only at N'); (try k_sweep)))
def zd (l : List String) (m : List (String × Lean.MacroM Lean.Syntax.Tactic)) (s : Lean.TSyntax `str) : Lean.MacroM Lean.Syntax :=
  if l.contains s.getString then zbk else match m.lookup s.getString with
    | some m => m
    | none => Lean.Macro.throwUnsupported
theorem zsz {n : Nat} (h : n ≤ 16777216) : n ≤ sizeLine := sizeLine_eq ▸ h
theorem zsa {l : List Value} (h : l.length ≤ 16777216) : l.toArray.size ≤ sizeLine := sizeLine_eq ▸ h
theorem zsb {n : Nat} (h : n < 4096) : n < scanBound := h
def zhk (s : String) : Lean.MacroM Lean.Syntax.Tactic := do
  let t ← `(tactic| (refine no_implicit_lambda% ($(Lean.mkIdent (.mkSimple ("zk" ++ s))) (h := ?_)); generalize zwt _ _ = $(Lean.mkIdent `w_)))
  let g : Lean.Name := .mkSimple ("zG" ++ s)
  `(tactic| ($t; first | refine no_implicit_lambda% ($(Lean.mkIdent (g ++ `mk)) ?_) | delta $(Lean.mkIdent g):ident))
local macro_rules | `(tactic| walk_at $s) => if s.getString.front.isDigit then zhk s.getString else Lean.Macro.throwUnsupported
local macro_rules | `(tactic| walk_at "ne") => do `(tactic| (repeat' $(← zr `nep "hh"):tactic) <;> $(← zo (zr `Nonempty.intro "D") (zo (zr `neW "") (zo (zr `neS "") (zo (zr `neA "") `(tactic| exact ⟨by constructor <;> exact default⟩))))):tactic)
def zgm (s : String) (f g : Lean.Name) : Lean.MacroM Lean.Syntax.Tactic := zj (zvs `getMethod s) (do `(tactic| refine kl_method (by assumption) (by k_mem) $(Lean.mkIdent f) $(Lean.mkIdent g) ?_))
def zcmp (f : Lean.Name) : Lean.MacroM Lean.Syntax.Tactic := zj (zr f "iiNh") `(tactic| (intro _; dsimp only))
def zom : Lean.MacroM Lean.Syntax.Tactic := zo zas (zo (return ztd) (zo (zr `Nat.ne_of_gt "a") (zo (zr `Nat.ne_of_lt "a") (zo (zr `zlv "ad") (zo (zr `zlw "ad") (zo (zr `zl0 "a") (zo (zr `Nat.le_trans "ad") (zo (zr `Nat.lt_of_le_of_lt "ad") (zo (zr `zsu "a") (zo (zr `Nat.le_of_lt "a") (return zt `Lean.Parser.Tactic.lia "lia" true)))))))))))
def zisl1 : Lean.MacroM Lean.Syntax.Tactic := zo zas (zr `IsL.fr "aa")
def zunits : Lean.MacroM Lean.Syntax.Tactic := `(tactic| (simp only [Around.deeper_units, ktrTop]; omega))
def zcgt : Lean.MacroM Lean.Syntax.Tactic := zcmp `cgt_ints
def zclt : Lean.MacroM Lean.Syntax.Tactic := zcmp `clt_ints
def zisl2 : Lean.MacroM Lean.Syntax.Tactic := zo zas (zo (zr `IsL.fr "aa") (zo (zr `IsT.fr "aa") (zo (zr `IsL.fr2 "aaa") (zr `IsT.fr2 "aaa"))))
def zmwc : Lean.MacroM Lean.Syntax.Tactic := zj (zvs `getAttr "__contains__") (zj (zr `mwc_N "aaih") zi1)
def ziter : Lean.MacroM Lean.Syntax.Tactic := zj (zr `iterB "aaQh") zi1
def zisq : Lean.MacroM Lean.Syntax.Tactic := zo (zr `IsQ.fr "aa") (zr `IsQ.fr2 "aaa")
def zdget : Lean.MacroM Lean.Syntax.Tactic := zj (zkd (zr `kdg_get1 "amaak_ah")) `(tactic| try dsimp only [Option.getD])
def zdset : Lean.MacroM Lean.Syntax.Tactic := zj (zr `kda_set "aauakzh") zi2
def zsub : Lean.MacroM Lean.Syntax.Tactic := zj (zv `subscriptTail "__RI") (zkd (zr `kda_item "amakah"))
def ztf : Lean.MacroM Lean.Syntax.Tactic := zr `tail_off "a"
def zaa : Lean.MacroM Lean.Syntax.Tactic := zr `AllLt.all "a"
def zlen : Lean.MacroM Lean.Syntax.Tactic := zkd (zr `kun_lenT "Taah")
def zne1 : Lean.MacroM Lean.Syntax.Tactic := zo zas (zo (zr `Ne.symm "a") (zj (zr `neN "h") `(tactic| ((try dsimp only); omega))))
def zne2 : Lean.MacroM Lean.Syntax.Tactic := zo zas (zr `Ne.symm "a")
def zclr : Lean.MacroM Lean.Syntax.Tactic := zj (zr `clear_N "aauah") `(tactic| (intro h' n' F' N'; (try dsimp only at N'); (try k_sweep)))
def zapp : Lean.MacroM Lean.Syntax.Tactic := zj (zr `append_K "aaUhZ") `(tactic| (intro h' F' N'; (try k_sweep)))
def zgma : Lean.MacroM Lean.Syntax.Tactic := zgm "append" `PySem.F.slot_list_append `PySem.F.type_list_append
def zgmp : Lean.MacroM Lean.Syntax.Tactic := zgm "pop" `PySem.F.slot_list_pop `PySem.F.type_list_pop
def zgmc : Lean.MacroM Lean.Syntax.Tactic := zgm "clear" `PySem.F.slot_list_clear `PySem.F.type_list_clear
def zasg : Lean.MacroM Lean.Syntax.Tactic := `(tactic| (with_reducible refine wpAny_Assign_Subscript ?_ ?_; rotate_left; with_unfolding_all rfl))
def zif : Lean.MacroM Lean.Syntax.Tactic := zj (do `(tactic| rename $(Lean.mkIdent `FcMark):term => mkX)) zbk
def zfco : Lean.MacroM Lean.Syntax.Tactic := zj `(tactic| (simp only [List.mem_cons, not_or]; refine ⟨by k_ne, by k_ne, by k_ne, ?_⟩)) (zj (zr `AllLt.off "h") (zo (zr `zr3 "a") (zo (zr `zr4 "a") (zo (zr `zr5 "a") (zo (zr `zr6 "a") (zr `zr7 "a"))))))
def zcin : Lean.MacroM Lean.Syntax.Tactic := zkd (zo (zr `kse_inB "auaSah") (zr `kda_in "amaak_ah"))
def zgan : Lean.MacroM Lean.Syntax.Tactic := zj (zvs `getAttr "__next__") zbk
def zsub1 : Lean.MacroM Lean.Syntax.Tactic := zkd (zj `(tactic| with_reducible show wpAny _ _ (subscriptTail _ _ (Value.ref _) (Value.int (-1) _)) _ _ _) zbk)
def zcwr : Lean.MacroM Lean.Syntax.Tactic := zkd (do `(tactic| refine $(Lean.mkIdent `callWith_mw0) (id := "list_iterator.__next__") $(← zl 'G') ?_))
def zpop : Lean.MacroM Lean.Syntax.Tactic := zj (zr `pop_N "aauah") zi5
def zdel : Lean.MacroM Lean.Syntax.Tactic := zj (zr `kob_del "aauakaah") zi2
def zlen2 : Lean.MacroM Lean.Syntax.Tactic := zkd (zr `len_N "amoh")
def zky1 : Lean.MacroM Lean.Syntax.Tactic := zkd (zr `wpAny_BinOp "h")
def zky2 : Lean.MacroM Lean.Syntax.Tactic := zkd (zr `Call_ "h")
def zky3 : Lean.MacroM Lean.Syntax.Tactic := zkd (zr `MethodCall_ "h")
def zky4 : Lean.MacroM Lean.Syntax.Tactic := zkd (zr `Subscript_ "h")
def zky5 : Lean.MacroM Lean.Syntax.Tactic := zkd (zr `wpAny_isTrue_Compare1 "h")
def zky6 : Lean.MacroM Lean.Syntax.Tactic := zkd (zr `wpAny_Compare1 "h")
def zgmn : Lean.MacroM Lean.Syntax.Tactic := zj (zvs `getMethod "count") (zkd (do `(tactic| refine $(Lean.mkIdent `meth_list) (by assumption) PySem.F.slot_list_count PySem.F.type_list_count ?_)))
def zlcn : Lean.MacroM Lean.Syntax.Tactic := zkd `(tactic| refine count_list_ints ⟨_, by assumption, rfl, _, rfl⟩ (by assumption) ?_)
def zsubb : Lean.MacroM Lean.Syntax.Tactic := zj (zv `subscriptTail "__RI") zbk
def zasc : Lean.MacroM Lean.Syntax.Tactic := zj `(tactic| with_reducible show wpAny _ _ (exec (Stmt.Assign [Expr.Name (Str.ofString "code") _] _ _) _) _ _ _) zbk
theorem zlv {n a b c R : Nat} (h : n + a < R) (e : b + c ≤ a) : n + b + c < R := by omega
theorem zlw {n a b R : Nat} (h : n + a < R) (e : b ≤ a) : n + b < R := by omega
theorem zl0 {n a R : Nat} (h : n + a < R) : n < R := by omega
theorem zsu {n i : Nat} (h : i < n) : n - (i + 1) < n - i := by omega
local macro_rules | `(tactic| omega) => zom
section
noncomputable abbrev PG : Program := PySem.Challenge.pw_ik0181_01
noncomputable abbrev VW : Program := qv
noncomputable abbrev LS : List Str := looseW qv [(Str.ofString "filterfalse"), (Str.ofString "_NodeInfo")]
noncomputable def Blk (P : Prop) : Prop := P
theorem Blk.mk {P : Prop} (h : Blk P) : P := h
theorem Blk.out {P : Prop} (h : P) : Blk P := h
noncomputable def Stay (T : List Addr) (h h' : Heap) : Prop := ∀ b o, b ∉ T → h.get? b = some o → h'.get? b = some o
theorem Stay.refl {T : List Addr} {h : Heap} : Stay T h h := fun _ _ _ e => e
theorem Stay.trans {T : List Addr} {h h' h'' : Heap} (a : Stay T h h') (b : Stay T h' h'') : Stay T h h'' := fun x o n e => b x o n (a x o n e)
theorem Stay.mono {T T' : List Addr} {h h' : Heap} (a : Stay T h h') (s : ∀ x ∈ T, x ∈ T') : Stay T' h h' := fun x o n e => a x o (fun m => n (s x m)) e
theorem Stay.fr {T : List Addr} {h₀ h h' : Heap} {L : Addr} {m : Str → Option Value} (S : Stay T h h') (F : Fr h₀ L h m) (hL : L ∉ T) (hT : ∀ a ∈ T, h₀.get? a = none) : Fr h₀ L h' m := by
  obtain ⟨oL, es, ep, e, r⟩ := F.ns
  refine ⟨⟨oL, es, ep, S _ _ hL e, r⟩, fun b o e => S b o (fun q => ?_) (F.keep b o e), F.above⟩
  rw [hT b q] at e; cases e
theorem Stay.fr0 {h₀ h h' : Heap} {L : Addr} {m : Str → Option Value} (S : Stay [] h h') (F : Fr h₀ L h m) : Fr h₀ L h' m := S.fr F (by simp) (by simp)
theorem Stay.news0 {h₀ h h' : Heap} {L : Addr} {led : List (Addr × Obj)} (S : Stay [] h h') (N : News h₀ L h led) : News h₀ L h' led := fun p hp => ⟨S _ _ (by simp) (N p hp).1, (N p hp).2⟩
theorem Stay.news {T : List Addr} {h₀ h h' : Heap} {L : Addr} {led led' : List (Addr × Obj)} (S : Stay T h h') (N : News h₀ L h led) (s : ∀ p ∈ led', p ∈ led ∧ p.1 ∉ T) : News h₀ L h' led' :=
  fun p hp => ⟨S _ _ (s p hp).2 (N p (s p hp).1).1, (N p (s p hp).1).2⟩
theorem News.sub {h₀ h : Heap} {L : Addr} {led led' : List (Addr × Obj)} (N : News h₀ L h led) (s : ∀ p ∈ led', p ∈ led) : News h₀ L h led' := fun p hp => N p (s p hp)
theorem News.app {h₀ h : Heap} {L : Addr} {a b : List (Addr × Obj)} (N : News h₀ L h a) (M : News h₀ L h b) : News h₀ L h (a ++ b) := fun p hp => (List.mem_append.mp hp).elim (N p) (M p)
section
variable {prog : Program} {w : World} {A A₀ : Around} {E : Value → Shared → Prop} {s : Shared} {K : Frag} {C L : Addr} {h₀ base : Heap} {m mg mb : Str → Option Value} {news : List (Addr × Obj)} {p : Program} {loose : List Str} {mean : ExcName → Option Value} {Q : Value → Shared → Prop}
theorem enterP {env : Env} {outer : List Env} {R : Result → Shared → Prop} {name qual : Str} {params : Arguments} {body : List Stmt} {scope : Scope} {dV kV doc pm cdv ct oc : Value} {an od : Option Addr} {osl : Array (Option Value)} {f : Addr} {args : Args} {binds : List (Str × Value)}
    (B : Below A₀ base outer h₀) (F : Fr h₀ L s.heap m) (X₀ : K.In h₀) (N : News h₀ L s.heap news) (T : Top p loose mean mg mb h₀) (hA : A.frames = some (env :: outer)) (hf : env.frame = some L) (hke : env.scope.kind = .function)
    (ho : K.lookup f = some ⟨oc, od, .func (fnOf name qual params body scope dV kV doc pm an cdv ct), osl⟩) (hcd : codeIn K cdv qual = true) (hroom : A.depth < recursionLimit)
    (hbind : BindsTo s (fnOf name qual params body scope dV kV doc pm an cdv ct) args binds) (hloc : ∀ y ∈ binds, scope.names.lookup y.1 = some .local)
    (h : ∀ g L' h₁, Stay (news.map (·.1)) s.heap g → (∀ b o, g.get? b = some o → s.heap.get? b = some o) → L' = s.heap.objs.size → (∀ p ∈ news, p.1 < L') →
      Fr g L' h₁ (fun y => binds.reverse.lookup y) → News g L' h₁ news → Below A base (env :: outer) g → K.In g → Top p loose mean mg mb g →
      wpAny (model prog w) (A.deeper (envOf qual scope L' f cdv)) (execs body (envOf qual scope L' f cdv))
        (fun fl s' => R (.ok (.ret (match fl with | .ret v => v | _ => .none))) s')
        (fun e s' => wpAny (model prog w) (A.deeper (envOf qual scope L' f cdv)) (leaving (envOf qual scope L' f cdv) e) (fun _ s'' => R (.error e) s'') (fun e' s'' => R (.error e') s'') s')
        { s with heap := h₁, toks := s.toks + binds.length })
    (hco : scope.isCoroutine = false) (hgen : scope.isGenerator = false) (hk : scope.kind = .function)
    (hcell : ∀ x ∈ scope.names, x.2 ≠ .cell) : codeAny (model prog w) A (.call (.ref f) args) R s := by
  obtain ⟨FG, BG, st, _⟩ := groundX (R := R) B F N hA hf hke
  have X := X₀.keeps F.keep
  refine codeAny_call_def (fd := fnX name qual params body scope [] dV kV doc pm an cdv ct) (body := body) (binds := binds) hroom (X _ _ ho) rfl (T.nolimit.keeps F.keep) (codeRec_of X hcd) rfl hbind hcell hloc (fun h₁ hns hk₁ => ?_) hco hgen hk
  exact h _ s.heap.objs.size h₁ (fun b o n e => hideAll_get _ e n) (fun b o e => of_hideAll _ e) rfl (fun p hp => Heap.lt_size (N p hp).1) ⟨hns, fun b o e => hk₁ b o (of_hideAll _ e), Nat.le_of_eq (hideAll_size _ _)⟩
    (fun p hp => ⟨hk₁ _ _ (N p hp).1, Nat.ne_of_lt (Heap.lt_size (N p hp).1), hideAll_none _ (List.mem_map_of_mem hp)⟩) BG (X₀.keeps st) (T.keeps st)
theorem enterC {env : Env} {outer : List Env} {R : Result → Shared → Prop} {name qual : Str} {params : Arguments} {body : List Stmt} {scope : Scope} {dV kV doc pm cdv ct oc : Value} {an od : Option Addr} {osl : Array (Option Value)} {f : Addr} {args : Args} {binds : List (Str × Value)}
    (B : Below A₀ base outer h₀) (F : Fr h₀ L s.heap m) (X₀ : K.In h₀) (N : News h₀ L s.heap news) (T : Top p loose mean mg mb h₀) (hA : A.frames = some (env :: outer)) (hf : env.frame = some L) (hke : env.scope.kind = .function)
    (ho : K.lookup f = some ⟨oc, od, .func (fnOf name qual params body scope dV kV doc pm an cdv ct), osl⟩) (hcd : codeIn K cdv qual = true) (hroom : A.depth < recursionLimit)
    (hbind : BindsTo s (fnOf name qual params body scope dV kV doc pm an cdv ct) args binds) (hkind : (binds.all fun y => scope.names.lookup y.1 == some .local || scope.names.lookup y.1 == some .cell) = true)
    (hnd : ((cellsFrom 0 scope.names []).map (·.1)).Nodup)
    (h : ∀ g L' h₁ tk cells, Stay (news.map (·.1)) s.heap g → (∀ b o, g.get? b = some o → s.heap.get? b = some o) → L' = s.heap.objs.size → (∀ p ∈ news, p.1 < L') →
      Fr g L' h₁ (bindL (envOfC qual scope L' f cdv).kindOf binds fun _ => none) → News g L' h₁ (cells ++ news) →
      CellsAre (bindC (envOfC qual scope L' f cdv).kindOf binds fun _ => none) (cellsFrom (L' + 1) scope.names []) cells → Below A base (env :: outer) g → K.In g → Top p loose mean mg mb g →
      wpAny (model prog w) (A.deeper (envOfC qual scope L' f cdv)) (execs body (envOfC qual scope L' f cdv))
        (fun fl s' => R (.ok (.ret (match fl with | .ret v => v | _ => .none))) s')
        (fun e s' => wpAny (model prog w) (A.deeper (envOfC qual scope L' f cdv)) (leaving (envOfC qual scope L' f cdv) e) (fun _ s'' => R (.error e) s'') (fun e' s'' => R (.error e') s'') s')
        { s with heap := h₁, toks := tk })
    (hco : scope.isCoroutine = false) (hgen : scope.isGenerator = false) (hk : scope.kind = .function) : codeAny (model prog w) A (.call (.ref f) args) R s := by
  revert B F X₀ N T hA hf hke ho hcd hroom hbind hkind hnd h hco hgen hk
  revert prog w A A₀ s K L h₀ base m mg mb news p loose mean env outer R name qual params body scope dV kV doc pm cdv ct oc an od osl f args binds
  walk_at "16"; (iterate 7 (generalize zf w_ = p; generalize zs w_ = v_; clear w_; generalize zf v_ = p; generalize zs v_ = w_; clear v_)); generalize zf w_ = loose, zs w_ = mean; clear w_; rename_i prog w A A₀ s K L h₀ base m mg mb news
  walk_at "16"; (iterate 7 (generalize zf w_ = ct; generalize zs w_ = v_; clear w_; generalize zf v_ = ct; generalize zs v_ = w_; clear v_)); generalize zf w_ = oc, zs w_ = an; clear w_; rename_i env outer R name qual params body scope dV kV doc pm cdv
  walk_at "5"; generalize zf w_ = od, zf (zs w_) = osl, zf (zs (zs w_)) = f, zf (zs (zs (zs w_))) = args, zs (zs (zs (zs w_))) = binds
  intro B F X₀ N T hA hf hke ho hcd hroom hbind hkind hnd h hco hgen hk
  obtain ⟨FG, BG, st, _⟩ := groundX (R := R) B F N hA hf hke
  have X := X₀.keeps F.keep
  refine codeAny_call_function hroom (X _ _ ho) (fd := fnX name qual params body scope [] dV kV doc pm an cdv ct) rfl hco hgen rfl (codeRec_of X hcd) (hbind _ _ _ _ ?_)
  refine wpAny_newFunctionEnv_cells hk (kindsX hkind _) fun env' he s' x => ?_
  subst he
  refine ⟨(T.nolimit.keeps F.keep).keeps x.toInCall.keep, codeAny_func ?_⟩
  obtain ⟨h₁, tk, rfl, _⟩ := x.done
  have hk₁ := x.toInCall.keep
  obtain ⟨cells, NC, Y⟩ := Cl.news (h₀ := s.heap) (Nat.le_refl _) fun n c hm => ⟨x.cell n c (lookup_of_mem_nodup (cellsFrom_names scope.names 0 (s.heap.objs.size + 1) [] [] rfl ▸ hnd) hm), x.above n c hm⟩
  refine h _ s.heap.objs.size h₁ tk cells (fun b o n e => hideAll_get _ e n) (fun b o e => of_hideAll _ e) rfl (fun p hp => Heap.lt_size (N p hp).1) ⟨x.toInCall.ns, fun b o e => hk₁ b o (of_hideAll _ e), Nat.le_of_eq (hideAll_size _ _)⟩ (fun p hp => ?_) Y BG (X₀.keeps st) (T.keeps st)
  rcases List.mem_append.mp hp with hp | hp
  · refine ⟨(NC p hp).1, (NC p hp).2.1, ?_⟩
    cases q : (hideAll s.heap (news.map (·.1))).get? p.1 with
    | none => rfl
    | some o => have := of_hideAll _ q; rw [(NC p hp).2.2] at this; cases this
  · exact ⟨hk₁ _ _ (N p hp).1, Nat.ne_of_lt (Heap.lt_size (N p hp).1), hideAll_none _ (List.mem_map_of_mem hp)⟩
end
noncomputable def Con (w : World) (f : Addr) (lv : Nat) (mu : List (Addr × Obj)) (vs : List Value) (Post : Value → Heap → Prop) (h : Heap) : Prop :=
  ∀ {mean : ExcName → Option Value} {mg mb : Str → Option Value} {dp un : Nat} {gd : Option (List Code)} {cn : Str} {cs : Scope} {a : Addr} {ccd : Value} {cl : List (Str × Addr)} {outer : List Env} {A₀ : Around} {base h₀ : Heap} {L : Addr}
    {m : Str → Option Value} {s : Shared} {Q E : Value → Shared → Prop},
    s.heap = h → Below A₀ base outer h₀ → Fr h₀ L s.heap m → (hd.heap_1 w.params).In h₀ → News h₀ L s.heap mu → Top VW LS mean mg mb h₀ → cs.kind = .function → dp + lv < recursionLimit → un + lv < cLine →
    (∀ v h' tk', Post v h' → Q v { s with heap := h', toks := tk' }) →
    wpAny (model PG w) (ktrTop dp un gd cn cs L a ccd cl outer) (call (.ref f) vs) Q E s
theorem Con.use {w : World} {f : Addr} {lv : Nat} {mu : List (Addr × Obj)} {vs : List Value} {Post : Value → Heap → Prop}
    {mean : ExcName → Option Value} {mg mb : Str → Option Value} {dp un : Nat} {gd : Option (List Code)} {cn : Str} {cs : Scope} {a : Addr} {ccd : Value} {cl : List (Str × Addr)} {outer : List Env} {A₀ : Around} {base h₀ : Heap} {L : Addr}
    {m : Str → Option Value} {s : Shared} {Q E : Value → Shared → Prop} (c : Con w f lv mu vs Post s.heap)
    (B : Below A₀ base outer h₀) (F : Fr h₀ L s.heap m) (X : (hd.heap_1 w.params).In h₀) (N : News h₀ L s.heap mu) (T : Top VW LS mean mg mb h₀) (hk : cs.kind = .function) (hd : dp + lv < recursionLimit) (hu : un + lv < cLine)
    (h : ∀ v h' tk', Post v h' → Q v { s with heap := h', toks := tk' }) :
    wpAny (model PG w) (ktrTop dp un gd cn cs L a ccd cl outer) (call (.ref f) vs) Q E s := c rfl B F X N T hk hd hu h
noncomputable def IsL (h : Heap) (a : Addr) (xs : List Int) : Prop := ∃ vs c, h.get? a = some (listOf vs.toArray c) ∧ IntsAre vs xs
noncomputable def IsT (h : Heap) (a : Addr) (xs : List Int) : Prop := ∃ vs c, h.get? a = some ({ cls := .type "tuple", data := .seq vs.toArray c } : Obj) ∧ IntsAre vs xs
theorem IsL.stay {h h' : Heap} {a : Addr} {xs : List Int} {T : List Addr} (S : Stay T h h') (n : a ∉ T) (x : IsL h a xs) : IsL h' a xs := let ⟨vs, c, e, i⟩ := x; ⟨vs, c, S _ _ n e, i⟩
theorem IsT.stay {h h' : Heap} {a : Addr} {xs : List Int} {T : List Addr} (S : Stay T h h') (n : a ∉ T) (x : IsT h a xs) : IsT h' a xs := let ⟨vs, c, e, i⟩ := x; ⟨vs, c, S _ _ n e, i⟩
theorem IsL.fr {g h : Heap} {L a : Addr} {m : Str → Option Value} {xs : List Int} (F : Fr g L h m) (x : IsL g a xs) : IsL h a xs := let ⟨vs, c, e, i⟩ := x; ⟨vs, c, F.keep _ _ e, i⟩
theorem IsT.fr {g h : Heap} {L a : Addr} {m : Str → Option Value} {xs : List Int} (F : Fr g L h m) (x : IsT g a xs) : IsT h a xs := let ⟨vs, c, e, i⟩ := x; ⟨vs, c, F.keep _ _ e, i⟩
theorem IsL.fr2 {g h k : Heap} {L K a : Addr} {m n : Str → Option Value} {xs : List Int} (F : Fr g L h m) (G : Fr k K g n) (x : IsL k a xs) : IsL h a xs := (x.fr G).fr F
theorem IsT.fr2 {g h k : Heap} {L K a : Addr} {m n : Str → Option Value} {xs : List Int} (F : Fr g L h m) (G : Fr k K g n) (x : IsT k a xs) : IsT h a xs := (x.fr G).fr F
end
local macro_rules | `(tactic| k_room) => `(tactic| ((simp only [depth_under_make, depth_under_kw, depth_in1, depth_deeper, ktrTop]; omega)))
local macro_rules | `(tactic| k_units) => `(tactic| ((simp only [Around.deeper_units, Around.in1_units, Around.mark_units, ktrTop, cLine] at *; omega)))
section
theorem ndne {a b : Nat} {l : List Nat} (h : (a :: l).Nodup) (m : b ∈ l) : a ≠ b := fun e => (List.nodup_cons.mp h).1 (e ▸ m)
theorem ndt {a : Nat} {l : List Nat} (h : (a :: l).Nodup) : l.Nodup := (List.nodup_cons.mp h).2
theorem ndo0 {a : Nat} {r : List Nat} (h : (a :: r).Nodup) : a ∉ r := (List.nodup_cons.mp h).1
theorem ndo {a b : Nat} {r : List Nat} (h : a ∉ b :: r) : a ∉ r := fun z => h (.tail _ z)
theorem apartE3 {x0 x1 x2 : Nat} {r : List Nat} {G : Prop} (h0 : (x0 :: x1 :: x2 :: r).Nodup) (k : x0 ≠ x1 → x0 ≠ x2 → x1 ≠ x2 → x0 ∉ r → x1 ∉ r → x2 ∉ r → G) : G :=
  have h1 := ndt h0
  have h2 := ndt h1
  k (ndne h0 (.head _)) (ndne h0 (.tail _ (.head _))) (ndne h1 (.head _)) (ndo (ndo (ndo0 h0))) (ndo (ndo0 h1)) (ndo0 h2)
theorem apartE4 {x0 x1 x2 x3 : Nat} {r : List Nat} {G : Prop} (h0 : (x0 :: x1 :: x2 :: x3 :: r).Nodup) (k : x0 ≠ x1 → x0 ≠ x2 → x0 ≠ x3 → x1 ≠ x2 → x1 ≠ x3 → x2 ≠ x3 → x0 ∉ r → x1 ∉ r → x2 ∉ r → x3 ∉ r → G) : G :=
  have h1 := ndt h0
  have h2 := ndt h1
  have h3 := ndt h2
  k (ndne h0 (.head _)) (ndne h0 (.tail _ (.head _))) (ndne h0 (.tail _ (.tail _ (.head _)))) (ndne h1 (.head _)) (ndne h1 (.tail _ (.head _))) (ndne h2 (.head _)) (ndo (ndo (ndo (ndo0 h0)))) (ndo (ndo (ndo0 h1))) (ndo (ndo0 h2)) (ndo0 h3)
theorem apartE5 {x0 x1 x2 x3 x4 : Nat} {r : List Nat} {G : Prop} (h0 : (x0 :: x1 :: x2 :: x3 :: x4 :: r).Nodup) (k : x0 ≠ x1 → x0 ≠ x2 → x0 ≠ x3 → x0 ≠ x4 → x1 ≠ x2 → x1 ≠ x3 → x1 ≠ x4 → x2 ≠ x3 → x2 ≠ x4 → x3 ≠ x4 → x0 ∉ r → x1 ∉ r → x2 ∉ r → x3 ∉ r → x4 ∉ r → G) : G :=
  have h1 := ndt h0
  have h2 := ndt h1
  have h3 := ndt h2
  have h4 := ndt h3
  k (ndne h0 (.head _)) (ndne h0 (.tail _ (.head _))) (ndne h0 (.tail _ (.tail _ (.head _)))) (ndne h0 (.tail _ (.tail _ (.tail _ (.head _))))) (ndne h1 (.head _)) (ndne h1 (.tail _ (.head _))) (ndne h1 (.tail _ (.tail _ (.head _)))) (ndne h2 (.head _)) (ndne h2 (.tail _ (.head _))) (ndne h3 (.head _)) (ndo (ndo (ndo (ndo (ndo0 h0))))) (ndo (ndo (ndo (ndo0 h1)))) (ndo (ndo (ndo0 h2))) (ndo (ndo0 h3)) (ndo0 h4)
theorem apartE6 {x0 x1 x2 x3 x4 x5 : Nat} {r : List Nat} {G : Prop} (h0 : (x0 :: x1 :: x2 :: x3 :: x4 :: x5 :: r).Nodup) (k : x0 ≠ x1 → x0 ≠ x2 → x0 ≠ x3 → x0 ≠ x4 → x0 ≠ x5 → x1 ≠ x2 → x1 ≠ x3 → x1 ≠ x4 → x1 ≠ x5 → x2 ≠ x3 → x2 ≠ x4 → x2 ≠ x5 → x3 ≠ x4 → x3 ≠ x5 → x4 ≠ x5 → x0 ∉ r → x1 ∉ r → x2 ∉ r → x3 ∉ r → x4 ∉ r → x5 ∉ r → G) : G :=
  have h1 := ndt h0
  have h2 := ndt h1
  have h3 := ndt h2
  have h4 := ndt h3
  have h5 := ndt h4
  k (ndne h0 (.head _)) (ndne h0 (.tail _ (.head _))) (ndne h0 (.tail _ (.tail _ (.head _)))) (ndne h0 (.tail _ (.tail _ (.tail _ (.head _))))) (ndne h0 (.tail _ (.tail _ (.tail _ (.tail _ (.head _)))))) (ndne h1 (.head _)) (ndne h1 (.tail _ (.head _))) (ndne h1 (.tail _ (.tail _ (.head _)))) (ndne h1 (.tail _ (.tail _ (.tail _ (.head _))))) (ndne h2 (.head _)) (ndne h2 (.tail _ (.head _))) (ndne h2 (.tail _ (.tail _ (.head _)))) (ndne h3 (.head _)) (ndne h3 (.tail _ (.head _))) (ndne h4 (.head _)) (ndo (ndo (ndo (ndo (ndo (ndo0 h0)))))) (ndo (ndo (ndo (ndo (ndo0 h1))))) (ndo (ndo (ndo (ndo0 h2)))) (ndo (ndo (ndo0 h3))) (ndo (ndo0 h4)) (ndo0 h5)
theorem apartE7 {x0 x1 x2 x3 x4 x5 x6 : Nat} {r : List Nat} {G : Prop} (h0 : (x0 :: x1 :: x2 :: x3 :: x4 :: x5 :: x6 :: r).Nodup) (k : x0 ≠ x1 → x0 ≠ x2 → x0 ≠ x3 → x0 ≠ x4 → x0 ≠ x5 → x0 ≠ x6 → x1 ≠ x2 → x1 ≠ x3 → x1 ≠ x4 → x1 ≠ x5 → x1 ≠ x6 → x2 ≠ x3 → x2 ≠ x4 → x2 ≠ x5 → x2 ≠ x6 → x3 ≠ x4 → x3 ≠ x5 → x3 ≠ x6 → x4 ≠ x5 → x4 ≠ x6 → x5 ≠ x6 → x0 ∉ r → x1 ∉ r → x2 ∉ r → x3 ∉ r → x4 ∉ r → x5 ∉ r → x6 ∉ r → G) : G :=
  have h1 := ndt h0
  have h2 := ndt h1
  have h3 := ndt h2
  have h4 := ndt h3
  have h5 := ndt h4
  have h6 := ndt h5
  k (ndne h0 (.head _)) (ndne h0 (.tail _ (.head _))) (ndne h0 (.tail _ (.tail _ (.head _)))) (ndne h0 (.tail _ (.tail _ (.tail _ (.head _))))) (ndne h0 (.tail _ (.tail _ (.tail _ (.tail _ (.head _)))))) (ndne h0 (.tail _ (.tail _ (.tail _ (.tail _ (.tail _ (.head _))))))) (ndne h1 (.head _)) (ndne h1 (.tail _ (.head _))) (ndne h1 (.tail _ (.tail _ (.head _)))) (ndne h1 (.tail _ (.tail _ (.tail _ (.head _))))) (ndne h1 (.tail _ (.tail _ (.tail _ (.tail _ (.head _)))))) (ndne h2 (.head _)) (ndne h2 (.tail _ (.head _))) (ndne h2 (.tail _ (.tail _ (.head _)))) (ndne h2 (.tail _ (.tail _ (.tail _ (.head _))))) (ndne h3 (.head _)) (ndne h3 (.tail _ (.head _))) (ndne h3 (.tail _ (.tail _ (.head _)))) (ndne h4 (.head _)) (ndne h4 (.tail _ (.head _))) (ndne h5 (.head _)) (ndo (ndo (ndo (ndo (ndo (ndo (ndo0 h0))))))) (ndo (ndo (ndo (ndo (ndo (ndo0 h1)))))) (ndo (ndo (ndo (ndo (ndo0 h2))))) (ndo (ndo (ndo (ndo0 h3)))) (ndo (ndo (ndo0 h4))) (ndo (ndo0 h5)) (ndo0 h6)
theorem apartE8 {x0 x1 x2 x3 x4 x5 x6 x7 : Nat} {r : List Nat} {G : Prop} (h0 : (x0 :: x1 :: x2 :: x3 :: x4 :: x5 :: x6 :: x7 :: r).Nodup) (k : x0 ≠ x1 → x0 ≠ x2 → x0 ≠ x3 → x0 ≠ x4 → x0 ≠ x5 → x0 ≠ x6 → x0 ≠ x7 → x1 ≠ x2 → x1 ≠ x3 → x1 ≠ x4 → x1 ≠ x5 → x1 ≠ x6 → x1 ≠ x7 → x2 ≠ x3 → x2 ≠ x4 → x2 ≠ x5 → x2 ≠ x6 → x2 ≠ x7 → x3 ≠ x4 → x3 ≠ x5 → x3 ≠ x6 → x3 ≠ x7 → x4 ≠ x5 → x4 ≠ x6 → x4 ≠ x7 → x5 ≠ x6 → x5 ≠ x7 → x6 ≠ x7 → x0 ∉ r → x1 ∉ r → x2 ∉ r → x3 ∉ r → x4 ∉ r → x5 ∉ r → x6 ∉ r → x7 ∉ r → G) : G :=
  have h1 := ndt h0
  have h2 := ndt h1
  have h3 := ndt h2
  have h4 := ndt h3
  have h5 := ndt h4
  have h6 := ndt h5
  have h7 := ndt h6
  k (ndne h0 (.head _)) (ndne h0 (.tail _ (.head _))) (ndne h0 (.tail _ (.tail _ (.head _)))) (ndne h0 (.tail _ (.tail _ (.tail _ (.head _))))) (ndne h0 (.tail _ (.tail _ (.tail _ (.tail _ (.head _)))))) (ndne h0 (.tail _ (.tail _ (.tail _ (.tail _ (.tail _ (.head _))))))) (ndne h0 (.tail _ (.tail _ (.tail _ (.tail _ (.tail _ (.tail _ (.head _)))))))) (ndne h1 (.head _)) (ndne h1 (.tail _ (.head _))) (ndne h1 (.tail _ (.tail _ (.head _)))) (ndne h1 (.tail _ (.tail _ (.tail _ (.head _))))) (ndne h1 (.tail _ (.tail _ (.tail _ (.tail _ (.head _)))))) (ndne h1 (.tail _ (.tail _ (.tail _ (.tail _ (.tail _ (.head _))))))) (ndne h2 (.head _)) (ndne h2 (.tail _ (.head _))) (ndne h2 (.tail _ (.tail _ (.head _)))) (ndne h2 (.tail _ (.tail _ (.tail _ (.head _))))) (ndne h2 (.tail _ (.tail _ (.tail _ (.tail _ (.head _)))))) (ndne h3 (.head _)) (ndne h3 (.tail _ (.head _))) (ndne h3 (.tail _ (.tail _ (.head _)))) (ndne h3 (.tail _ (.tail _ (.tail _ (.head _))))) (ndne h4 (.head _)) (ndne h4 (.tail _ (.head _))) (ndne h4 (.tail _ (.tail _ (.head _)))) (ndne h5 (.head _)) (ndne h5 (.tail _ (.head _))) (ndne h6 (.head _)) (ndo (ndo (ndo (ndo (ndo (ndo (ndo (ndo0 h0)))))))) (ndo (ndo (ndo (ndo (ndo (ndo (ndo0 h1))))))) (ndo (ndo (ndo (ndo (ndo (ndo0 h2)))))) (ndo (ndo (ndo (ndo (ndo0 h3))))) (ndo (ndo (ndo (ndo0 h4)))) (ndo (ndo (ndo0 h5))) (ndo (ndo0 h6)) (ndo0 h7)
theorem apartE9 {x0 x1 x2 x3 x4 x5 x6 x7 x8 : Nat} {r : List Nat} {G : Prop} (h0 : (x0 :: x1 :: x2 :: x3 :: x4 :: x5 :: x6 :: x7 :: x8 :: r).Nodup) (k : x0 ≠ x1 → x0 ≠ x2 → x0 ≠ x3 → x0 ≠ x4 → x0 ≠ x5 → x0 ≠ x6 → x0 ≠ x7 → x0 ≠ x8 → x1 ≠ x2 → x1 ≠ x3 → x1 ≠ x4 → x1 ≠ x5 → x1 ≠ x6 → x1 ≠ x7 → x1 ≠ x8 → x2 ≠ x3 → x2 ≠ x4 → x2 ≠ x5 → x2 ≠ x6 → x2 ≠ x7 → x2 ≠ x8 → x3 ≠ x4 → x3 ≠ x5 → x3 ≠ x6 → x3 ≠ x7 → x3 ≠ x8 → x4 ≠ x5 → x4 ≠ x6 → x4 ≠ x7 → x4 ≠ x8 → x5 ≠ x6 → x5 ≠ x7 → x5 ≠ x8 → x6 ≠ x7 → x6 ≠ x8 → x7 ≠ x8 → x0 ∉ r → x1 ∉ r → x2 ∉ r → x3 ∉ r → x4 ∉ r → x5 ∉ r → x6 ∉ r → x7 ∉ r → x8 ∉ r → G) : G :=
  have h1 := ndt h0
  have h2 := ndt h1
  have h3 := ndt h2
  have h4 := ndt h3
  have h5 := ndt h4
  have h6 := ndt h5
  have h7 := ndt h6
  have h8 := ndt h7
  k (ndne h0 (.head _)) (ndne h0 (.tail _ (.head _))) (ndne h0 (.tail _ (.tail _ (.head _)))) (ndne h0 (.tail _ (.tail _ (.tail _ (.head _))))) (ndne h0 (.tail _ (.tail _ (.tail _ (.tail _ (.head _)))))) (ndne h0 (.tail _ (.tail _ (.tail _ (.tail _ (.tail _ (.head _))))))) (ndne h0 (.tail _ (.tail _ (.tail _ (.tail _ (.tail _ (.tail _ (.head _)))))))) (ndne h0 (.tail _ (.tail _ (.tail _ (.tail _ (.tail _ (.tail _ (.tail _ (.head _))))))))) (ndne h1 (.head _)) (ndne h1 (.tail _ (.head _))) (ndne h1 (.tail _ (.tail _ (.head _)))) (ndne h1 (.tail _ (.tail _ (.tail _ (.head _))))) (ndne h1 (.tail _ (.tail _ (.tail _ (.tail _ (.head _)))))) (ndne h1 (.tail _ (.tail _ (.tail _ (.tail _ (.tail _ (.head _))))))) (ndne h1 (.tail _ (.tail _ (.tail _ (.tail _ (.tail _ (.tail _ (.head _)))))))) (ndne h2 (.head _)) (ndne h2 (.tail _ (.head _))) (ndne h2 (.tail _ (.tail _ (.head _)))) (ndne h2 (.tail _ (.tail _ (.tail _ (.head _))))) (ndne h2 (.tail _ (.tail _ (.tail _ (.tail _ (.head _)))))) (ndne h2 (.tail _ (.tail _ (.tail _ (.tail _ (.tail _ (.head _))))))) (ndne h3 (.head _)) (ndne h3 (.tail _ (.head _))) (ndne h3 (.tail _ (.tail _ (.head _)))) (ndne h3 (.tail _ (.tail _ (.tail _ (.head _))))) (ndne h3 (.tail _ (.tail _ (.tail _ (.tail _ (.head _)))))) (ndne h4 (.head _)) (ndne h4 (.tail _ (.head _))) (ndne h4 (.tail _ (.tail _ (.head _)))) (ndne h4 (.tail _ (.tail _ (.tail _ (.head _))))) (ndne h5 (.head _)) (ndne h5 (.tail _ (.head _))) (ndne h5 (.tail _ (.tail _ (.head _)))) (ndne h6 (.head _)) (ndne h6 (.tail _ (.head _))) (ndne h7 (.head _)) (ndo (ndo (ndo (ndo (ndo (ndo (ndo (ndo (ndo0 h0))))))))) (ndo (ndo (ndo (ndo (ndo (ndo (ndo (ndo0 h1)))))))) (ndo (ndo (ndo (ndo (ndo (ndo (ndo0 h2))))))) (ndo (ndo (ndo (ndo (ndo (ndo0 h3)))))) (ndo (ndo (ndo (ndo (ndo0 h4))))) (ndo (ndo (ndo (ndo0 h5)))) (ndo (ndo (ndo0 h6))) (ndo (ndo0 h7)) (ndo0 h8)
theorem apartE10 {x0 x1 x2 x3 x4 x5 x6 x7 x8 x9 : Nat} {r : List Nat} {G : Prop} (h0 : (x0 :: x1 :: x2 :: x3 :: x4 :: x5 :: x6 :: x7 :: x8 :: x9 :: r).Nodup) (k : x0 ≠ x1 → x0 ≠ x2 → x0 ≠ x3 → x0 ≠ x4 → x0 ≠ x5 → x0 ≠ x6 → x0 ≠ x7 → x0 ≠ x8 → x0 ≠ x9 → x1 ≠ x2 → x1 ≠ x3 → x1 ≠ x4 → x1 ≠ x5 → x1 ≠ x6 → x1 ≠ x7 → x1 ≠ x8 → x1 ≠ x9 → x2 ≠ x3 → x2 ≠ x4 → x2 ≠ x5 → x2 ≠ x6 → x2 ≠ x7 → x2 ≠ x8 → x2 ≠ x9 → x3 ≠ x4 → x3 ≠ x5 → x3 ≠ x6 → x3 ≠ x7 → x3 ≠ x8 → x3 ≠ x9 → x4 ≠ x5 → x4 ≠ x6 → x4 ≠ x7 → x4 ≠ x8 → x4 ≠ x9 → x5 ≠ x6 → x5 ≠ x7 → x5 ≠ x8 → x5 ≠ x9 → x6 ≠ x7 → x6 ≠ x8 → x6 ≠ x9 → x7 ≠ x8 → x7 ≠ x9 → x8 ≠ x9 → x0 ∉ r → x1 ∉ r → x2 ∉ r → x3 ∉ r → x4 ∉ r → x5 ∉ r → x6 ∉ r → x7 ∉ r → x8 ∉ r → x9 ∉ r → G) : G :=
  have h1 := ndt h0
  have h2 := ndt h1
  have h3 := ndt h2
  have h4 := ndt h3
  have h5 := ndt h4
  have h6 := ndt h5
  have h7 := ndt h6
  have h8 := ndt h7
  have h9 := ndt h8
  k (ndne h0 (.head _)) (ndne h0 (.tail _ (.head _))) (ndne h0 (.tail _ (.tail _ (.head _)))) (ndne h0 (.tail _ (.tail _ (.tail _ (.head _))))) (ndne h0 (.tail _ (.tail _ (.tail _ (.tail _ (.head _)))))) (ndne h0 (.tail _ (.tail _ (.tail _ (.tail _ (.tail _ (.head _))))))) (ndne h0 (.tail _ (.tail _ (.tail _ (.tail _ (.tail _ (.tail _ (.head _)))))))) (ndne h0 (.tail _ (.tail _ (.tail _ (.tail _ (.tail _ (.tail _ (.tail _ (.head _))))))))) (ndne h0 (.tail _ (.tail _ (.tail _ (.tail _ (.tail _ (.tail _ (.tail _ (.tail _ (.head _)))))))))) (ndne h1 (.head _)) (ndne h1 (.tail _ (.head _))) (ndne h1 (.tail _ (.tail _ (.head _)))) (ndne h1 (.tail _ (.tail _ (.tail _ (.head _))))) (ndne h1 (.tail _ (.tail _ (.tail _ (.tail _ (.head _)))))) (ndne h1 (.tail _ (.tail _ (.tail _ (.tail _ (.tail _ (.head _))))))) (ndne h1 (.tail _ (.tail _ (.tail _ (.tail _ (.tail _ (.tail _ (.head _)))))))) (ndne h1 (.tail _ (.tail _ (.tail _ (.tail _ (.tail _ (.tail _ (.tail _ (.head _))))))))) (ndne h2 (.head _)) (ndne h2 (.tail _ (.head _))) (ndne h2 (.tail _ (.tail _ (.head _)))) (ndne h2 (.tail _ (.tail _ (.tail _ (.head _))))) (ndne h2 (.tail _ (.tail _ (.tail _ (.tail _ (.head _)))))) (ndne h2 (.tail _ (.tail _ (.tail _ (.tail _ (.tail _ (.head _))))))) (ndne h2 (.tail _ (.tail _ (.tail _ (.tail _ (.tail _ (.tail _ (.head _)))))))) (ndne h3 (.head _)) (ndne h3 (.tail _ (.head _))) (ndne h3 (.tail _ (.tail _ (.head _)))) (ndne h3 (.tail _ (.tail _ (.tail _ (.head _))))) (ndne h3 (.tail _ (.tail _ (.tail _ (.tail _ (.head _)))))) (ndne h3 (.tail _ (.tail _ (.tail _ (.tail _ (.tail _ (.head _))))))) (ndne h4 (.head _)) (ndne h4 (.tail _ (.head _))) (ndne h4 (.tail _ (.tail _ (.head _)))) (ndne h4 (.tail _ (.tail _ (.tail _ (.head _))))) (ndne h4 (.tail _ (.tail _ (.tail _ (.tail _ (.head _)))))) (ndne h5 (.head _)) (ndne h5 (.tail _ (.head _))) (ndne h5 (.tail _ (.tail _ (.head _)))) (ndne h5 (.tail _ (.tail _ (.tail _ (.head _))))) (ndne h6 (.head _)) (ndne h6 (.tail _ (.head _))) (ndne h6 (.tail _ (.tail _ (.head _)))) (ndne h7 (.head _)) (ndne h7 (.tail _ (.head _))) (ndne h8 (.head _)) (ndo (ndo (ndo (ndo (ndo (ndo (ndo (ndo (ndo (ndo0 h0)))))))))) (ndo (ndo (ndo (ndo (ndo (ndo (ndo (ndo (ndo0 h1))))))))) (ndo (ndo (ndo (ndo (ndo (ndo (ndo (ndo0 h2)))))))) (ndo (ndo (ndo (ndo (ndo (ndo (ndo0 h3))))))) (ndo (ndo (ndo (ndo (ndo (ndo0 h4)))))) (ndo (ndo (ndo (ndo (ndo0 h5))))) (ndo (ndo (ndo (ndo0 h6)))) (ndo (ndo (ndo0 h7))) (ndo (ndo0 h8)) (ndo0 h9)
theorem apartE11 {x0 x1 x2 x3 x4 x5 x6 x7 x8 x9 x10 : Nat} {r : List Nat} {G : Prop} (h0 : (x0 :: x1 :: x2 :: x3 :: x4 :: x5 :: x6 :: x7 :: x8 :: x9 :: x10 :: r).Nodup) (k : x0 ≠ x1 → x0 ≠ x2 → x0 ≠ x3 → x0 ≠ x4 → x0 ≠ x5 → x0 ≠ x6 → x0 ≠ x7 → x0 ≠ x8 → x0 ≠ x9 → x0 ≠ x10 → x1 ≠ x2 → x1 ≠ x3 → x1 ≠ x4 → x1 ≠ x5 → x1 ≠ x6 → x1 ≠ x7 → x1 ≠ x8 → x1 ≠ x9 → x1 ≠ x10 → x2 ≠ x3 → x2 ≠ x4 → x2 ≠ x5 → x2 ≠ x6 → x2 ≠ x7 → x2 ≠ x8 → x2 ≠ x9 → x2 ≠ x10 → x3 ≠ x4 → x3 ≠ x5 → x3 ≠ x6 → x3 ≠ x7 → x3 ≠ x8 → x3 ≠ x9 → x3 ≠ x10 → x4 ≠ x5 → x4 ≠ x6 → x4 ≠ x7 → x4 ≠ x8 → x4 ≠ x9 → x4 ≠ x10 → x5 ≠ x6 → x5 ≠ x7 → x5 ≠ x8 → x5 ≠ x9 → x5 ≠ x10 → x6 ≠ x7 → x6 ≠ x8 → x6 ≠ x9 → x6 ≠ x10 → x7 ≠ x8 → x7 ≠ x9 → x7 ≠ x10 → x8 ≠ x9 → x8 ≠ x10 → x9 ≠ x10 → x0 ∉ r → x1 ∉ r → x2 ∉ r → x3 ∉ r → x4 ∉ r → x5 ∉ r → x6 ∉ r → x7 ∉ r → x8 ∉ r → x9 ∉ r → x10 ∉ r → G) : G :=
  have h1 := ndt h0
  have h2 := ndt h1
  have h3 := ndt h2
  have h4 := ndt h3
  have h5 := ndt h4
  have h6 := ndt h5
  have h7 := ndt h6
  have h8 := ndt h7
  have h9 := ndt h8
  have h10 := ndt h9
  k (ndne h0 (.head _)) (ndne h0 (.tail _ (.head _))) (ndne h0 (.tail _ (.tail _ (.head _)))) (ndne h0 (.tail _ (.tail _ (.tail _ (.head _))))) (ndne h0 (.tail _ (.tail _ (.tail _ (.tail _ (.head _)))))) (ndne h0 (.tail _ (.tail _ (.tail _ (.tail _ (.tail _ (.head _))))))) (ndne h0 (.tail _ (.tail _ (.tail _ (.tail _ (.tail _ (.tail _ (.head _)))))))) (ndne h0 (.tail _ (.tail _ (.tail _ (.tail _ (.tail _ (.tail _ (.tail _ (.head _))))))))) (ndne h0 (.tail _ (.tail _ (.tail _ (.tail _ (.tail _ (.tail _ (.tail _ (.tail _ (.head _)))))))))) (ndne h0 (.tail _ (.tail _ (.tail _ (.tail _ (.tail _ (.tail _ (.tail _ (.tail _ (.tail _ (.head _))))))))))) (ndne h1 (.head _)) (ndne h1 (.tail _ (.head _))) (ndne h1 (.tail _ (.tail _ (.head _)))) (ndne h1 (.tail _ (.tail _ (.tail _ (.head _))))) (ndne h1 (.tail _ (.tail _ (.tail _ (.tail _ (.head _)))))) (ndne h1 (.tail _ (.tail _ (.tail _ (.tail _ (.tail _ (.head _))))))) (ndne h1 (.tail _ (.tail _ (.tail _ (.tail _ (.tail _ (.tail _ (.head _)))))))) (ndne h1 (.tail _ (.tail _ (.tail _ (.tail _ (.tail _ (.tail _ (.tail _ (.head _))))))))) (ndne h1 (.tail _ (.tail _ (.tail _ (.tail _ (.tail _ (.tail _ (.tail _ (.tail _ (.head _)))))))))) (ndne h2 (.head _)) (ndne h2 (.tail _ (.head _))) (ndne h2 (.tail _ (.tail _ (.head _)))) (ndne h2 (.tail _ (.tail _ (.tail _ (.head _))))) (ndne h2 (.tail _ (.tail _ (.tail _ (.tail _ (.head _)))))) (ndne h2 (.tail _ (.tail _ (.tail _ (.tail _ (.tail _ (.head _))))))) (ndne h2 (.tail _ (.tail _ (.tail _ (.tail _ (.tail _ (.tail _ (.head _)))))))) (ndne h2 (.tail _ (.tail _ (.tail _ (.tail _ (.tail _ (.tail _ (.tail _ (.head _))))))))) (ndne h3 (.head _)) (ndne h3 (.tail _ (.head _))) (ndne h3 (.tail _ (.tail _ (.head _)))) (ndne h3 (.tail _ (.tail _ (.tail _ (.head _))))) (ndne h3 (.tail _ (.tail _ (.tail _ (.tail _ (.head _)))))) (ndne h3 (.tail _ (.tail _ (.tail _ (.tail _ (.tail _ (.head _))))))) (ndne h3 (.tail _ (.tail _ (.tail _ (.tail _ (.tail _ (.tail _ (.head _)))))))) (ndne h4 (.head _)) (ndne h4 (.tail _ (.head _))) (ndne h4 (.tail _ (.tail _ (.head _)))) (ndne h4 (.tail _ (.tail _ (.tail _ (.head _))))) (ndne h4 (.tail _ (.tail _ (.tail _ (.tail _ (.head _)))))) (ndne h4 (.tail _ (.tail _ (.tail _ (.tail _ (.tail _ (.head _))))))) (ndne h5 (.head _)) (ndne h5 (.tail _ (.head _))) (ndne h5 (.tail _ (.tail _ (.head _)))) (ndne h5 (.tail _ (.tail _ (.tail _ (.head _))))) (ndne h5 (.tail _ (.tail _ (.tail _ (.tail _ (.head _)))))) (ndne h6 (.head _)) (ndne h6 (.tail _ (.head _))) (ndne h6 (.tail _ (.tail _ (.head _)))) (ndne h6 (.tail _ (.tail _ (.tail _ (.head _))))) (ndne h7 (.head _)) (ndne h7 (.tail _ (.head _))) (ndne h7 (.tail _ (.tail _ (.head _)))) (ndne h8 (.head _)) (ndne h8 (.tail _ (.head _))) (ndne h9 (.head _)) (ndo (ndo (ndo (ndo (ndo (ndo (ndo (ndo (ndo (ndo (ndo0 h0))))))))))) (ndo (ndo (ndo (ndo (ndo (ndo (ndo (ndo (ndo (ndo0 h1)))))))))) (ndo (ndo (ndo (ndo (ndo (ndo (ndo (ndo (ndo0 h2))))))))) (ndo (ndo (ndo (ndo (ndo (ndo (ndo (ndo0 h3)))))))) (ndo (ndo (ndo (ndo (ndo (ndo (ndo0 h4))))))) (ndo (ndo (ndo (ndo (ndo (ndo0 h5)))))) (ndo (ndo (ndo (ndo (ndo0 h6))))) (ndo (ndo (ndo (ndo0 h7)))) (ndo (ndo (ndo0 h8))) (ndo (ndo0 h9)) (ndo0 h10)
theorem exE1 {α : Sort _} {p : α → Prop} {G : Prop} (h : ∃ x, p x) (k : ∀ x, p x → G) : G := h.elim k
theorem exE2 {α β : Sort _} {p : α → β → Prop} {G : Prop} (h : ∃ x y, p x y) (k : ∀ x y, p x y → G) : G := h.elim fun x h => h.elim (k x)
theorem exE3 {α β γ : Sort _} {p : α → β → γ → Prop} {G : Prop} (h : ∃ x y z, p x y z) (k : ∀ x y z, p x y z → G) : G := h.elim fun x h => exE2 h (k x)
theorem exE4 {α β γ δ : Sort _} {p : α → β → γ → δ → Prop} {G : Prop} (h : ∃ x y z u, p x y z u) (k : ∀ x y z u, p x y z u → G) : G := h.elim fun x h => exE3 h (k x)
end
section
noncomputable def lexLt : List Int → List Int → Bool
  | _, [] => false
  | [], _ :: _ => true
  | x :: xs, y :: ys => if x = y then lexLt xs ys else decide (x < y)
theorem ints_at {vs : List Value} {xs : List Int} (h : IntsAre vs xs) : ∀ i (hi : i < xs.length), ∃ t, vs.toArray[i]? = some (.int xs[i] t) := by
  induction h with
  | nil => intro i hi; simp at hi
  | cons n t _ ih =>
    intro i hi
    cases i with
    | zero => exact ⟨t, by simp⟩
    | succ i => obtain ⟨u, hu⟩ := ih i (by simpa using hi); exact ⟨u, by simpa using hu⟩
theorem ints_out {vs : List Value} {xs : List Int} (h : IntsAre vs xs) {i : Nat} (hi : xs.length ≤ i) : vs.toArray[i]? = none := by
  have := h.length
  simp; omega
theorem clt_loop (l b : Addr) (vs us : List Value) (xs ys : List Int) (hv : IntsAre vs xs) (hu : IntsAre us ys) (n n2 : Nat) (k : Nat) :
    ∀ i : Nat, i ≤ xs.length → i ≤ ys.length → xs.length - i = k → Meets (Builtin.«list.__eq__.loop» ⟨[.ref l, .ref b, rawInt i, rawInt 0], []⟩)
      (fun _ R s => s.heap.get? l = some { cls := .type "list", dict := none, data := .seq vs.toArray n, slots := #[] } ∧ s.heap.get? b = some { cls := .type "list", dict := none, data := .seq us.toArray n2, slots := #[] } ∧ ∀ tk, R (.ok (.ret (.bool (lexLt (xs.drop i) (ys.drop i))))) { s with toks := tk }) := by
  have lx := hv.length
  have ly := hu.length
  induction k with
  | zero =>
    intro i ix iy hk prog w A R s h
    obtain ⟨hp, g, d, tk, os⟩ := s; obtain ⟨hl, hb, h⟩ := h
    have hi1 : vs.toArray[((i : Nat) : Int).toNat]? = none := ints_out hv (by simp; omega)
    have hd : xs.drop i = [] := by simp; omega
    have hx : xs.length = i := by omega
    rw [hd] at h
    wp_walk using wpAny_loadPart' hl, wpAny_loadPart' hb
    rw [hi1]
    wp_walk using wpAny_loadPart' hl, wpAny_loadPart' hb
    show R (.ok (.ret (.bool (decide (vs.toArray.size < us.toArray.size))))) _
    refine (congrArg (fun v => R (.ok (.ret (.bool v))) _) ?_).mp (h _)
    simp only [List.size_toArray, lx, ly, hx]
    cases he : ys.drop i with
    | nil => have : ys.length ≤ i := by simpa using he
             simp [lexLt]; omega
    | cons y r =>
      have : i < ys.length := by
        have := congrArg List.length he
        simp at this; omega
      simp [lexLt]; omega
  | succ k ih =>
    intro i ix iy hk prog w A R s h
    obtain ⟨hp, g, d, tk, os⟩ := s; obtain ⟨hl, hb, h⟩ := h
    have hlt : i < xs.length := by omega
    obtain ⟨t1, hi1⟩ := ints_at hv i hlt
    have hi1' : vs.toArray[((i : Nat) : Int).toNat]? = some (.int xs[i] t1) := hi1
    have hd : xs.drop i = xs[i] :: xs.drop (i + 1) := List.drop_eq_getElem_cons hlt
    wp_walk using wpAny_loadPart' hl, wpAny_loadPart' hb
    rw [hi1']
    by_cases hy : i < ys.length
    · obtain ⟨t2, hi2⟩ := ints_at hu i hy
      have hi2' : us.toArray[((i : Nat) : Int).toNat]? = some (.int ys[i] t2) := hi2
      have hd2 : ys.drop i = ys[i] :: ys.drop (i + 1) := List.drop_eq_getElem_cons hy
      have hc : ((i : Int) + 1) = ((i + 1 : Nat) : Int) := by push_cast; rfl
      rw [hd, hd2] at h
      rw [hi2']
      refine wpAny_bind (EqGives.int xs[i] ys[i] t1 t2 prog w _ _ _ _ ?_)
      by_cases he : xs[i] = ys[i]
      · rw [show (xs[i] == ys[i]) = true from by simp [he]]
        wp_walk
        rw [hc]
        exact ⟨plainId_quiet plain_eq_loop _, codeAny_builtin entry_eq_loop (by
          rw [Around.under_plainId plain_eq_loop _]
          refine ih (i + 1) (by omega) (by omega) (by omega) prog w A R _ ⟨hl, hb, ?_⟩
          intro tk
          have := h tk
          simpa [lexLt, he] using this)⟩
      · rw [show (xs[i] == ys[i]) = false from by simp [he]]
        wp_walk using wpAny_loadPart' hl, wpAny_loadPart' hb
        rw [hi1', hi2']
        dsimp only
        refine wpAny_bind (PyProof.Rows.lt_int ?_)
        wp_walk
        have he' : ¬ ys[i] = xs[i] := fun q => he q.symm
        first | simpa [lexLt, he] using h _ | simpa [lexLt, he'] using h _
    · have hi2 : us.toArray[((i : Nat) : Int).toNat]? = none := ints_out hu (by simp; omega)
      have hd2 : ys.drop i = [] := by simp; omega
      rw [hd, hd2] at h
      rw [hi2]
      wp_walk using wpAny_loadPart' hl, wpAny_loadPart' hb
      show R (.ok (.ret (.bool (decide (vs.toArray.size < us.toArray.size))))) _
      refine (congrArg (fun v => R (.ok (.ret (.bool v))) _) ?_).mp (h _)
      simp only [List.size_toArray, lx, ly]
      simp [lexLt]; omega
theorem clt_meets (l b : Addr) (vs us : List Value) (xs ys : List Int) (hv : IntsAre vs xs) (hu : IntsAre us ys) (n n2 : Nat) : Meets (Builtin.«list.__lt__» ⟨[.ref l, .ref b], []⟩)
      (fun _ R s => s.heap.get? l = some { cls := .type "list", dict := none, data := .seq vs.toArray n, slots := #[] } ∧ s.heap.get? b = some { cls := .type "list", dict := none, data := .seq us.toArray n2, slots := #[] } ∧ ∀ tk, R (.ok (.ret (.bool (lexLt xs ys)))) { s with toks := tk }) := by
  intro prog w A R s h
  obtain ⟨hp, g, d, tk, os⟩ := s; obtain ⟨hl, hb, h⟩ := h
  have f3 := AutoSeq1.sub_list_list
  wp_walk using wpAny_loadPart' hl, wpAny_loadPart' hb
  refine ⟨plainId_quiet plain_eq_loop _, codeAny_builtin entry_eq_loop ?_⟩
  rw [Around.under_plainId plain_eq_loop _]
  exact clt_loop l b vs us xs ys hv hu n n2 _ 0 (Nat.zero_le _) (Nat.zero_le _) rfl prog w _ _ _ ⟨hl, hb, by simpa using h⟩
theorem clt_ints {prog : Program} {w : World} {A : Around} {E : Value → Shared → Prop} {s : Shared} {l b : Addr} {xs ys : List Int} {Q : Value → Shared → Prop} (hx : IsL s.heap l xs) (hy : IsL s.heap b ys) (hu : A.units < cLine)
    (h : ∀ tk, Q (.bool (lexLt xs ys)) { s with toks := tk }) : wpAny (model prog w) A (compareOp .Lt (.ref l) (.ref b)) Q E s := by
  obtain ⟨vs, n, e1, i1⟩ := hx
  obtain ⟨us, n2, e2, i2⟩ := hy
  have Tl : s.TypeIs (.ref l) "list" := ⟨_, e1, rfl⟩
  have Tb : s.TypeIs (.ref b) "list" := ⟨_, e2, rfl⟩
  exact richCompare_meets_room (op := .Lt) Tl Tb slot_list_lt entry_list_lt (args_list_lt_2 _ _) (clt_meets l b vs us xs ys i1 i2 n n2) ⟨e1, e2, fun tk => ⟨by simp, h tk⟩⟩ hu
theorem cgt_loop (l b : Addr) (vs us : List Value) (xs ys : List Int) (hv : IntsAre vs xs) (hu : IntsAre us ys) (n n2 : Nat) (k : Nat) :
    ∀ i : Nat, i ≤ xs.length → i ≤ ys.length → xs.length - i = k → Meets (Builtin.«list.__eq__.loop» ⟨[.ref l, .ref b, rawInt i, rawInt 4], []⟩)
      (fun _ R s => s.heap.get? l = some { cls := .type "list", dict := none, data := .seq vs.toArray n, slots := #[] } ∧ s.heap.get? b = some { cls := .type "list", dict := none, data := .seq us.toArray n2, slots := #[] } ∧ ∀ tk, R (.ok (.ret (.bool (lexLt (ys.drop i) (xs.drop i))))) { s with toks := tk }) := by
  have lx := hv.length
  have ly := hu.length
  induction k with
  | zero =>
    intro i ix iy hk prog w A R s h
    obtain ⟨hp, g, d, tk, os⟩ := s; obtain ⟨hl, hb, h⟩ := h
    have hi1 : vs.toArray[((i : Nat) : Int).toNat]? = none := ints_out hv (by simp; omega)
    have hd : xs.drop i = [] := by simp; omega
    have hx : xs.length = i := by omega
    rw [hd] at h
    wp_walk using wpAny_loadPart' hl, wpAny_loadPart' hb
    rw [hi1]
    wp_walk using wpAny_loadPart' hl, wpAny_loadPart' hb
    show R (.ok (.ret (.bool (decide (us.toArray.size < vs.toArray.size))))) _
    refine (congrArg (fun v => R (.ok (.ret (.bool v))) _) ?_).mp (h _)
    simp only [List.size_toArray, lx, ly, hx]
    cases he : ys.drop i with
    | nil => have : ys.length ≤ i := by simpa using he
             simp [lexLt]; omega
    | cons y r =>
      have : i < ys.length := by
        have := congrArg List.length he
        simp at this; omega
      simp [lexLt]; omega
  | succ k ih =>
    intro i ix iy hk prog w A R s h
    obtain ⟨hp, g, d, tk, os⟩ := s; obtain ⟨hl, hb, h⟩ := h
    have hlt : i < xs.length := by omega
    obtain ⟨t1, hi1⟩ := ints_at hv i hlt
    have hi1' : vs.toArray[((i : Nat) : Int).toNat]? = some (.int xs[i] t1) := hi1
    have hd : xs.drop i = xs[i] :: xs.drop (i + 1) := List.drop_eq_getElem_cons hlt
    wp_walk using wpAny_loadPart' hl, wpAny_loadPart' hb
    rw [hi1']
    by_cases hy : i < ys.length
    · obtain ⟨t2, hi2⟩ := ints_at hu i hy
      have hi2' : us.toArray[((i : Nat) : Int).toNat]? = some (.int ys[i] t2) := hi2
      have hd2 : ys.drop i = ys[i] :: ys.drop (i + 1) := List.drop_eq_getElem_cons hy
      have hc : ((i : Int) + 1) = ((i + 1 : Nat) : Int) := by push_cast; rfl
      rw [hd, hd2] at h
      rw [hi2']
      refine wpAny_bind (EqGives.int xs[i] ys[i] t1 t2 prog w _ _ _ _ ?_)
      by_cases he : xs[i] = ys[i]
      · rw [show (xs[i] == ys[i]) = true from by simp [he]]
        wp_walk
        rw [hc]
        exact ⟨plainId_quiet plain_eq_loop _, codeAny_builtin entry_eq_loop (by
          rw [Around.under_plainId plain_eq_loop _]
          refine ih (i + 1) (by omega) (by omega) (by omega) prog w A R _ ⟨hl, hb, ?_⟩
          intro tk
          have := h tk
          simpa [lexLt, he] using this)⟩
      · rw [show (xs[i] == ys[i]) = false from by simp [he]]
        wp_walk using wpAny_loadPart' hl, wpAny_loadPart' hb
        rw [hi1', hi2']
        dsimp only
        refine wpAny_bind (PyProof.Rows.gt_int ?_)
        wp_walk
        have he' : ¬ ys[i] = xs[i] := fun q => he q.symm
        first | simpa [lexLt, he] using h _ | simpa [lexLt, he'] using h _
    · have hi2 : us.toArray[((i : Nat) : Int).toNat]? = none := ints_out hu (by simp; omega)
      have hd2 : ys.drop i = [] := by simp; omega
      rw [hd, hd2] at h
      rw [hi2]
      wp_walk using wpAny_loadPart' hl, wpAny_loadPart' hb
      show R (.ok (.ret (.bool (decide (us.toArray.size < vs.toArray.size))))) _
      refine (congrArg (fun v => R (.ok (.ret (.bool v))) _) ?_).mp (h _)
      simp only [List.size_toArray, lx, ly]
      simp [lexLt]; omega
theorem cgt_meets (l b : Addr) (vs us : List Value) (xs ys : List Int) (hv : IntsAre vs xs) (hu : IntsAre us ys) (n n2 : Nat) : Meets (Builtin.«list.__gt__» ⟨[.ref l, .ref b], []⟩)
      (fun _ R s => s.heap.get? l = some { cls := .type "list", dict := none, data := .seq vs.toArray n, slots := #[] } ∧ s.heap.get? b = some { cls := .type "list", dict := none, data := .seq us.toArray n2, slots := #[] } ∧ ∀ tk, R (.ok (.ret (.bool (lexLt ys xs)))) { s with toks := tk }) := by
  intro prog w A R s h
  obtain ⟨hp, g, d, tk, os⟩ := s; obtain ⟨hl, hb, h⟩ := h
  have f3 := AutoSeq1.sub_list_list
  wp_walk using wpAny_loadPart' hl, wpAny_loadPart' hb
  refine ⟨plainId_quiet plain_eq_loop _, codeAny_builtin entry_eq_loop ?_⟩
  rw [Around.under_plainId plain_eq_loop _]
  exact cgt_loop l b vs us xs ys hv hu n n2 _ 0 (Nat.zero_le _) (Nat.zero_le _) rfl prog w _ _ _ ⟨hl, hb, by simpa using h⟩
theorem cgt_ints {prog : Program} {w : World} {A : Around} {E : Value → Shared → Prop} {s : Shared} {l b : Addr} {xs ys : List Int} {Q : Value → Shared → Prop} (hx : IsL s.heap l xs) (hy : IsL s.heap b ys) (hu : A.units < cLine)
    (h : ∀ tk, Q (.bool (lexLt ys xs)) { s with toks := tk }) : wpAny (model prog w) A (compareOp .Gt (.ref l) (.ref b)) Q E s := by
  obtain ⟨vs, n, e1, i1⟩ := hx
  obtain ⟨us, n2, e2, i2⟩ := hy
  have Tl : s.TypeIs (.ref l) "list" := ⟨_, e1, rfl⟩
  have Tb : s.TypeIs (.ref b) "list" := ⟨_, e2, rfl⟩
  exact richCompare_meets_room (op := .Gt) Tl Tb slot_list_gt entry_list_gt (args_list_gt_2 _ _) (cgt_meets l b vs us xs ys i1 i2 n n2) ⟨e1, e2, fun tk => ⟨by simp, h tk⟩⟩ hu
end
section
noncomputable def cmp3 (xs ys : List Int) : Int := b2i (lexLt ys xs) - b2i (lexLt xs ys)
theorem Stay.done {T : List Addr} {h g h' : Heap} {L : Addr} {m : Str → Option Value} (S : Stay T h g) (F : Fr g L h' m) : Stay T h h' := fun b o n e => F.keep b o (S b o n e)
section
local macro_rules | `(tactic| walk_at $s) => zd [] [("m isl", zisl1), ("m units", zunits), ("compareOp Gt ref ref", zcgt), ("compareOp Lt ref ref", zclt)] s
theorem con_twc (w : World) {h : Heap} {x y : Addr} {xs ys : List Int} (hx : IsL h x xs) (hy : IsL h y ys) :
    Con w 35 10 [] [.ref x, .ref y] (fun v h' => (∃ t, v = .int (cmp3 xs ys) t) ∧ Stay [] h h') h := by
  intro mean mg mb dp un gd cn cs a ccd cl outer A₀ base h₀ L m s Q E hh B F X N T hk hdp hun hret
  subst hh
  (refine wpAny_call ?_; k_dflt (refine' enterP ?k1 ?k2 ?k3 ?k4 ?k5 ?kA ?kF ?kK ?k6 ?k7 ?k8 ?k9 ?kB ?_ ?c2 ?c3 ?c4 ?c5; (case kA => exact rfl); (case kF => exact rfl); (case kK => assumption); (case k1 => assumption); (case k2 => assumption); (case k3 => assumption); (case k4 => assumption); (case k5 => assumption); (case k6 => k_is); (case k7 => k_is); (case k8 => (dsimp only [ktrTop]; omega)); (case k9 => first | exact BindsTo.of_eq rfl | exact binds_K (by k_in) rfl (by k_is) rfl rfl rfl); (case c5 => decide); (case kB => exact locs rfl); (case c2 => exact rfl); (case c3 => exact rfl); (case c4 => exact rfl); k_whole))
  intro g L' h₁ sg gs eL lt F' N' B' X' T'
  (try dsimp only)
  refine wpAny_noRaise ?_
  have hx' : IsL g x xs := hx.stay sg (by simp)
  have hy' : IsL g y ys := hy.stay sg (by simp)
  clear lt
  k_steps
  refine hret _ _ _ ⟨⟨_, rfl⟩, ?_⟩
  exact sg.done F'
end
end
section
theorem entry_list_ga : entryFor table "list.__getattribute__" = some Builtin.«object.__getattribute__» := entryFor_alias (id' := "object.__getattribute__") (by rw [fastTable_eq_tree]; kernel_rfl) (by first | rfl | decide +kernel) (by decide +kernel) (by rw [fastTable_eq_tree]; kernel_rfl)
theorem entry_obj_ga : entryFor table "object.__getattribute__" = some Builtin.«object.__getattribute__» := by first | exact entryFor_of_tree (by kernel_rfl) | exact entryFor_of_fast (by kernel_rfl)
theorem entry_wd_get : entryFor table "wrapper_descriptor.__get__" = some Builtin.«wrapper_descriptor.__get__» := by first | exact entryFor_of_tree (by kernel_rfl) | exact entryFor_of_fast (by kernel_rfl)
theorem slot_wd_get : Slot "wrapper_descriptor" "__get__" "wrapper_descriptor.__get__" :=
  .of (owner := "wrapper_descriptor") (n := "__get__") (by rw [typeLookup_type, builtinLookup_eq_fast]; kernel_rfl) (by decide +kernel) (by decide +kernel) (by decide +kernel)
    (by first | exact .inl (by decide +kernel) | exact .inr (by decide +kernel)) (by rw [isSubtype_type]; kernel_rfl)
theorem args_wd_get (a b c : Value) : argsOk "wrapper_descriptor.__get__" ⟨[a, b, c], []⟩ := by unfold argsOk; kernel_rfl
theorem slot_li_ga : Slot "list_iterator" "__getattribute__" "object.__getattribute__" :=
  .of (owner := "object") (n := "__getattribute__") (by rw [typeLookup_type, builtinLookup_eq_fast]; kernel_rfl) (by decide +kernel) (by decide +kernel) (by decide +kernel)
    (by first | exact .inl (by decide +kernel) | exact .inr (by decide +kernel)) (by rw [isSubtype_type]; kernel_rfl)
theorem args_obj_ga (a b : Value) : argsOk "object.__getattribute__" ⟨[a, b], []⟩ := by unfold argsOk; kernel_rfl
noncomputable abbrev mwO (id : String) (self : Value) : Obj := { cls := .type "method-wrapper", data := .fields #[.builtin id, self] }
theorem mw_contains {prog : Program} {w : World} {A : Around} {E : Value → Shared → Prop} {s : Shared} {a : Addr} {o : Obj} {Q : Value → Shared → Prop} (e : s.heap.get? a = some o) (hc : o.cls = .type "list") (hd : notCls o = true) (hdn : o.dict = none)
    (h : Q (.ref s.heap.objs.size) { s with heap := s.heap.push (mwO "list.__contains__" (.ref a)), toks := s.toks + 1 }) : wpAny (model prog w) A (getAttr (.ref a) "__contains__" true) Q E s := by
  revert e hc hd hdn h
  revert prog w A E s a o Q
  walk_at "8"; (iterate 3 (generalize zf w_ = a; generalize zs w_ = v_; clear w_; generalize zf v_ = a; generalize zs v_ = w_; clear v_)); generalize zf w_ = o, zs w_ = Q; clear w_; rename_i prog w A E s
  intro e hc hd hdn h
  obtain ⟨hp, g, d, tk, os⟩ := s
  unfold getAttr
  refine wpAny_bind (wpAny_mkText ?_)
  unfold getAttrBy
  have L0 : Looks (model prog w) hp (typeOf (.ref a)) (.type "list") := hc ▸ (Looks.ld e).andThen .now
  have L1 : Looks (model prog w) hp (typeLookup (.type "list") "__getattribute__") (some (.builtin "list.__getattribute__")) := by
    refine Looks.of_pure ?_
    rw [typeLookup_type, builtinLookup_eq_fast]; kernel_rfl
  have L2 : Looks (model prog w) hp (typeOf (.builtin "list.__getattribute__")) (.type "wrapper_descriptor") := by
    refine Looks.of_pure ?_
    show builtinType _ = _
    rw [builtinType_eq_fast]; kernel_rfl
  have L3 : Looks (model prog w) hp (typeLookup (.type "list") "__contains__") (some (.builtin "list.__contains__")) := by
    refine Looks.of_pure ?_
    rw [typeLookup_type, builtinLookup_eq_fast]; kernel_rfl
  have L4a : Looks (model prog w) hp (typeOf (.builtin "list.__contains__")) (.type "wrapper_descriptor") := by
    refine Looks.of_pure ?_
    show builtinType _ = _
    rw [builtinType_eq_fast]; kernel_rfl
  have L4 : Looks (model prog w) hp (typeLookup (.type "wrapper_descriptor") "__get__") (some (.builtin "wrapper_descriptor.__get__")) := by
    refine Looks.of_pure ?_
    rw [typeLookup_type, builtinLookup_eq_fast]; kernel_rfl
  have L5 : Looks (model prog w) hp (typeLookup (.type "wrapper_descriptor") "__set__") none := by
    refine Looks.of_pure ?_
    rw [typeLookup_type, builtinLookup_eq_fast]; kernel_rfl
  have L6 : Looks (model prog w) hp (typeLookup (.type "wrapper_descriptor") "__delete__") none := by
    refine Looks.of_pure ?_
    rw [typeLookup_type, builtinLookup_eq_fast]; kernel_rfl
  have L7 : Looks (model prog w) hp (isSubtype (.type "list") (.type "list")) true := by
    refine Looks.of_pure ?_
    rw [isSubtype_type]; kernel_rfl
  have TIW : ∀ s' : Shared, s'.TypeIs (.builtin "list.__contains__") "wrapper_descriptor" := fun s' => by
    show builtinType _ = _
    rw [builtinType_eq_fast]; kernel_rfl
  have TI : Shared.TypeIs ⟨hp, g, d, tk + 1, os⟩ (.ref a) "list" := ⟨o, e, hc⟩
  refine wpAny_holding (wpAny_bind (L0.at (wpAny_bind (L1.at ?_))))
  show wpAny _ _ (getAttrByItsOwn _ _ _ _ _ _) _ _ _
  unfold getAttrByItsOwn
  refine wpAny_bind (wpAny_pure (wpAny_bind (wpAny_attempt (wpAny_holding ?_))))
  show wpAny _ _ (boundAndCalled _ _ _) _ _ _
  unfold boundAndCalled bindSpecial
  refine wpAny_bind (wpAny_bind (L2.at ?_))
  refine wpAny_pure ?_
  show wpAny _ _ (call (.builtin "list.__getattribute__") [.ref a, .str _ _]) _ _ _
  refine wpAny_call_entry slot_list_getattribute TI entry_list_ga ?_ (args_list_getattribute_2 _ _)
  unfold Builtin.«object.__getattribute__»
  have LF : Looks (model prog w) hp (Builtin.ObjectAttr.find (.ref a) (.type "list") "__contains__") (.bind (.builtin "wrapper_descriptor.__get__") (.builtin "list.__contains__")) := by
    have T0 : Looks (model prog w) hp (Builtin.ObjectAttr.takesStores (.builtin "list.__contains__")) false := by
      have S5 : Looks (model prog w) hp (specialOf (.builtin "list.__contains__") "__set__") none := L4a.andThen L5
      have S6 : Looks (model prog w) hp (specialOf (.builtin "list.__contains__") "__delete__") none := L4a.andThen L6
      exact S5.andThen (S6.andThen .now)
    have D0 : Looks (model prog w) hp (Builtin.ObjectAttr.dataDescriptor? (some (.builtin "list.__contains__")) (some (.builtin "wrapper_descriptor.__get__"))) none := T0.andThen .now
    have O0 : Looks (model prog w) hp (Builtin.ObjectAttr.inOwnDict "__contains__" (.ref a)) none := by
      obtain ⟨oc, od, oda, osl⟩ := o
      dsimp only at hc hdn
      subst hc hdn
      have I0 : Looks (model prog w) hp (instanceDict a false) none := (Looks.ld e).andThen .now
      have I1 : Looks (model prog w) hp (Builtin.ObjectAttr.ownDict a) none := by
        refine (Looks.ld e).andThen ?_
        cases oda <;> first | exact I0 | cases hd
      exact I1.andThen .now
    have S4 : Looks (model prog w) hp (specialOf (.builtin "list.__contains__") "__get__") (some (.builtin "wrapper_descriptor.__get__")) := L4a.andThen L4
    exact L3.andThen (S4.andThen (D0.andThen (O0.andThen ((Looks.now).andThen (Looks.tag .now)))))
  refine wpAny_bind (wpAny_pure (wpAny_bind (wpAny_pure (wpAny_bind (L0.at (wpAny_bind (LF.at ?_)))))))
  show wpAny _ _ (Builtin.ObjectAttr.bindTo _ _ _ _) _ _ _
  unfold Builtin.ObjectAttr.bindTo
  dsimp only
  refine wpAny_bind (wpAny_holding ?_)
  refine wpAny_call_entry slot_wd_get (TIW _) entry_wd_get ?_ (args_wd_get _ _ _)
  unfold Builtin.«wrapper_descriptor.__get__»
  repeat lk
  refine ⟨_, rfl, ?_⟩
  refine wpAny_pure ⟨_, rfl, ?_⟩
  exact wpAny_pure h
theorem mw_next {prog : Program} {w : World} {A : Around} {E : Value → Shared → Prop} {s : Shared} {a : Addr} {o : Obj} {Q : Value → Shared → Prop} (e : s.heap.get? a = some o) (hc : o.cls = .type "list_iterator") (hd : notCls o = true) (hdn : o.dict = none)
    (h : Q (.ref s.heap.objs.size) { s with heap := s.heap.push (mwO "list_iterator.__next__" (.ref a)), toks := s.toks + 1 }) : wpAny (model prog w) A (getAttr (.ref a) "__next__" true) Q E s := by
  revert e hc hd hdn h
  revert prog w A E s a o Q
  walk_at "8"; (iterate 3 (generalize zf w_ = a; generalize zs w_ = v_; clear w_; generalize zf v_ = a; generalize zs v_ = w_; clear v_)); generalize zf w_ = o, zs w_ = Q; clear w_; rename_i prog w A E s
  intro e hc hd hdn h
  obtain ⟨hp, g, d, tk, os⟩ := s
  unfold getAttr
  refine wpAny_bind (wpAny_mkText ?_)
  unfold getAttrBy
  have L0 : Looks (model prog w) hp (typeOf (.ref a)) (.type "list_iterator") := hc ▸ (Looks.ld e).andThen .now
  have L1 : Looks (model prog w) hp (typeLookup (.type "list_iterator") "__getattribute__") (some (.builtin "object.__getattribute__")) := by
    refine Looks.of_pure ?_
    rw [typeLookup_type, builtinLookup_eq_fast]; kernel_rfl
  have L2 : Looks (model prog w) hp (typeOf (.builtin "object.__getattribute__")) (.type "wrapper_descriptor") := by
    refine Looks.of_pure ?_
    show builtinType _ = _
    rw [builtinType_eq_fast]; kernel_rfl
  have L3 : Looks (model prog w) hp (typeLookup (.type "list_iterator") "__next__") (some (.builtin "list_iterator.__next__")) := by
    refine Looks.of_pure ?_
    rw [typeLookup_type, builtinLookup_eq_fast]; kernel_rfl
  have L4a : Looks (model prog w) hp (typeOf (.builtin "list_iterator.__next__")) (.type "wrapper_descriptor") := by
    refine Looks.of_pure ?_
    show builtinType _ = _
    rw [builtinType_eq_fast]; kernel_rfl
  have L4 : Looks (model prog w) hp (typeLookup (.type "wrapper_descriptor") "__get__") (some (.builtin "wrapper_descriptor.__get__")) := by
    refine Looks.of_pure ?_
    rw [typeLookup_type, builtinLookup_eq_fast]; kernel_rfl
  have L5 : Looks (model prog w) hp (typeLookup (.type "wrapper_descriptor") "__set__") none := by
    refine Looks.of_pure ?_
    rw [typeLookup_type, builtinLookup_eq_fast]; kernel_rfl
  have L6 : Looks (model prog w) hp (typeLookup (.type "wrapper_descriptor") "__delete__") none := by
    refine Looks.of_pure ?_
    rw [typeLookup_type, builtinLookup_eq_fast]; kernel_rfl
  have L7 : Looks (model prog w) hp (isSubtype (.type "list_iterator") (.type "list_iterator")) true := by
    refine Looks.of_pure ?_
    rw [isSubtype_type]; kernel_rfl
  have TIW : ∀ s' : Shared, s'.TypeIs (.builtin "list_iterator.__next__") "wrapper_descriptor" := fun s' => by
    show builtinType _ = _
    rw [builtinType_eq_fast]; kernel_rfl
  have TI : Shared.TypeIs ⟨hp, g, d, tk + 1, os⟩ (.ref a) "list_iterator" := ⟨o, e, hc⟩
  refine wpAny_holding (wpAny_bind (L0.at (wpAny_bind (L1.at ?_))))
  show wpAny _ _ (getAttrByItsOwn _ _ _ _ _ _) _ _ _
  unfold getAttrByItsOwn
  refine wpAny_bind (wpAny_pure (wpAny_bind (wpAny_attempt (wpAny_holding ?_))))
  show wpAny _ _ (boundAndCalled _ _ _) _ _ _
  unfold boundAndCalled bindSpecial
  refine wpAny_bind (wpAny_bind (L2.at ?_))
  refine wpAny_pure ?_
  show wpAny _ _ (call (.builtin "object.__getattribute__") [.ref a, .str _ _]) _ _ _
  refine wpAny_call_entry slot_li_ga TI entry_obj_ga ?_ (args_obj_ga _ _)
  unfold Builtin.«object.__getattribute__»
  have LF : Looks (model prog w) hp (Builtin.ObjectAttr.find (.ref a) (.type "list_iterator") "__next__") (.bind (.builtin "wrapper_descriptor.__get__") (.builtin "list_iterator.__next__")) := by
    have T0 : Looks (model prog w) hp (Builtin.ObjectAttr.takesStores (.builtin "list_iterator.__next__")) false := by
      have S5 : Looks (model prog w) hp (specialOf (.builtin "list_iterator.__next__") "__set__") none := L4a.andThen L5
      have S6 : Looks (model prog w) hp (specialOf (.builtin "list_iterator.__next__") "__delete__") none := L4a.andThen L6
      exact S5.andThen (S6.andThen .now)
    have D0 : Looks (model prog w) hp (Builtin.ObjectAttr.dataDescriptor? (some (.builtin "list_iterator.__next__")) (some (.builtin "wrapper_descriptor.__get__"))) none := T0.andThen .now
    have O0 : Looks (model prog w) hp (Builtin.ObjectAttr.inOwnDict "__next__" (.ref a)) none := by
      obtain ⟨oc, od, oda, osl⟩ := o
      dsimp only at hc hdn
      subst hc hdn
      have I0 : Looks (model prog w) hp (instanceDict a false) none := (Looks.ld e).andThen .now
      have I1 : Looks (model prog w) hp (Builtin.ObjectAttr.ownDict a) none := by
        refine (Looks.ld e).andThen ?_
        cases oda <;> first | exact I0 | cases hd
      exact I1.andThen .now
    have S4 : Looks (model prog w) hp (specialOf (.builtin "list_iterator.__next__") "__get__") (some (.builtin "wrapper_descriptor.__get__")) := L4a.andThen L4
    exact L3.andThen (S4.andThen (D0.andThen (O0.andThen ((Looks.now).andThen (Looks.tag .now)))))
  refine wpAny_bind (wpAny_pure (wpAny_bind (wpAny_pure (wpAny_bind (L0.at (wpAny_bind (LF.at ?_)))))))
  show wpAny _ _ (Builtin.ObjectAttr.bindTo _ _ _ _) _ _ _
  unfold Builtin.ObjectAttr.bindTo
  dsimp only
  refine wpAny_bind (wpAny_holding ?_)
  refine wpAny_call_entry slot_wd_get (TIW _) entry_wd_get ?_ (args_wd_get _ _ _)
  unfold Builtin.«wrapper_descriptor.__get__»
  repeat lk
  refine ⟨_, rfl, ?_⟩
  refine wpAny_pure ⟨_, rfl, ?_⟩
  exact wpAny_pure h
end
section
theorem frk {h₀ h : Heap} {L : Addr} {m : Str → Option Value} (F : Fr h₀ L h m) (l : List (Str × Value)) (hl : ∀ p ∈ l, m p.1 = some p.2) : Fr h₀ L h (fun y => (l.lookup y).or (m y)) := by
  have e : (fun y => (l.lookup y).or (m y)) = m := by
    funext y
    induction l with
    | nil => rfl
    | cons p r ih =>
      obtain ⟨n, v⟩ := p
      rw [List.lookup_cons]
      by_cases hy : (y == n) = true
      · have : y = n := by simpa using hy
        subst this
        simp only [hy]
        exact (hl _ (.head _)).symm
      · simp only [hy]
        exact ih fun q hq => hl q (.tail _ hq)
  rw [e]; exact F
theorem kn0 {m : Str → Option Value} : ∀ p ∈ ([] : List (Str × Value)), m p.1 = some p.2 := fun _ h => nomatch h
theorem kn1 {m : Str → Option Value} {n : Str} {v : Value} {l : List (Str × Value)} (h : m n = some v) (r : ∀ p ∈ l, m p.1 = some p.2) : ∀ p ∈ (n, v) :: l, m p.1 = some p.2 := fun p hp => by
  rcases List.mem_cons.mp hp with rfl | hp
  · exact h
  · exact r p hp
noncomputable def Again (I : Nat → Shared → Prop) (n : Nat) (s : Shared) : Prop := ∃ m, m < n ∧ I m s
section
variable {prog : Program} {w : World} {A : Around} {s : Shared} {env : Env} {Q : Flow → Shared → Prop}
theorem while_rule {test : Expr} {body orelse : List Stmt} {pos : Pos} (I : Nat → Shared → Prop)
    (turn : ∀ n s, I n s →
      wpAny (model prog w) A (isTrue test env (eval test env)) (fun b s₂ =>
        if b = true then wpAny (model prog w) A (execs body env) (fun f s₃ => match f with
            | .next => Again I n s₃
            | .cont => Again I n s₃
            | .brk => Q .next s₃
            | .ret v => Q (.ret v) s₃) (fun _ _ => False) s₂
        else wpAny (model prog w) A (execs orelse env) Q (fun _ _ => False) s₂)
        (fun _ _ => False) s)
    (n : Nat) (h : I n s) : wpAny (model prog w) A (exec (.While test body orelse pos) env) Q (fun _ _ => False) s := by
  refine wpAny_While (codeAny_whileLoop I (fun n s hI => ?_) n h)
  refine wpAny_mono (turn n s hI) (fun b s₂ h₂ => ?_) (fun _ _ x => x.elim)
  cases b with
  | true =>
    simp only [if_true] at h₂ ⊢
    refine wpAny_mono h₂ (fun f s₃ h₃ => ?_) (fun _ _ x => x.elim)
    cases f <;> exact h₃
  | false =>
    simp only [Bool.false_eq_true, if_false] at h₂ ⊢
    exact wpAny_mono h₂ (fun f s₃ h₃ => h₃) (fun _ _ x => x.elim)
end
end
section
theorem ints_erase {vs : List Value} {xs : List Int} (h : IntsAre vs xs) (k : Int) (hk : k ∈ xs) : ∃ j, ∃ (hj : j < vs.length), (∃ t, vs[j] = .int k t) ∧ (∀ m (hm : m < vs.length), m < j → ∃ n t, vs[m] = .int n t ∧ n ≠ k) ∧ IntsAre (vs.eraseIdx j) (xs.erase k) := by
  induction h with
  | nil => cases hk
  | cons n t r ih =>
    rename_i vs xs
    by_cases hn : n = k
    · subst hn
      refine ⟨0, by simp, ⟨t, rfl⟩, fun m _ h => absurd h (Nat.not_lt_zero _), ?_⟩
      simpa using r
    · have hk' : k ∈ xs := (List.mem_cons.mp hk).resolve_left (fun q => hn q.symm)
      obtain ⟨j, hj, ht, hno, hI⟩ := ih hk'
      refine ⟨j + 1, by simpa using hj, by simpa using ht, ?_, ?_⟩
      · intro m hm hmj
        cases m with
        | zero => exact ⟨n, t, rfl, hn⟩
        | succ m => simpa using hno m (by simpa using hm) (by omega)
      · rw [List.erase_cons_tail (by simpa using hn)]
        simpa using IntsAre.cons n t hI
noncomputable def eqI (k : Int) : Value → Bool
  | .int n _ => n == k
  | _ => false
theorem ints_gives {vs : List Value} {xs : List Int} (h : IntsAre vs xs) (k : Int) (u : Tok) : ∀ y, y ∈ vs.toArray → EqGives y (.int k u) (eqI k y) := by
  intro y hy
  have hy : y ∈ vs := by simpa using hy
  induction h with
  | nil => cases hy
  | cons n t r ih =>
    rcases List.mem_cons.mp hy with rfl | hy
    · exact EqGives.int n k t u
    · exact ih (by simpa using hy) hy
section
variable {prog : Program} {w : World} {A : Around} {E : Value → Shared → Prop} {s : Shared} {h₀ : Heap} {L D : Addr} {m : Str → Option Value} {news : List (Addr × Obj)} {g : Obj → List (Addr × Obj)} {n : Nat}
theorem remove_in {us : List Value} {l : List Int} {k : Int} {u : Tok} {Q : Value → Shared → Prop} (F : Fr h₀ L s.heap m) (N : News h₀ L s.heap news) (U : UpdF D (listOf us.toArray n) news g) (hi : IntsAre us l) (hk : k ∈ l) (hz : us.length ≤ sizeLine)
    (h : ∀ h' us' n', Fr h₀ L h' m → News h₀ L h' (g (listOf us'.toArray n')) → IntsAre us' (l.erase k) → Q .none { s with heap := h' }) : wpAny (model prog w) A (call (.builtin "list.remove") [.ref D, .int k u]) Q E s := by
  obtain ⟨pre, post, rfl, hg, h1, h2⟩ := U.split
  have e := (N (D, listOf us.toArray n) (List.mem_append_right _ (.head _))).1
  obtain ⟨j, hj, ⟨t, ht⟩, hno, hI⟩ := ints_erase hi k hk
  have T : s.TypeIs (.ref D) "list" := ⟨_, e, rfl⟩
  refine call_meets slot_list_remove T entry_list_remove (args_list_remove_2 _ _) (list_remove D us.toArray n (.int k u) (eqI k) (ints_gives hi k u) j (by simpa using hj) (by simp [ht, eqI]) (fun m hm hmj => ?_) (by simpa using hz)) ⟨e, ?_⟩
  · obtain ⟨n', t', e', hne⟩ := hno m (by simpa using hm) hmj
    simp [e', eqI, hne]
  · have hl : (Obj.mapSeq (fun xs => xs.eraseIdxIfInBounds j) (listOf us.toArray n)) = listOf (us.eraseIdx j).toArray (n + 1) := by
      have hs : (us.toArray.eraseIdxIfInBounds j) = (us.eraseIdx j).toArray := by
        unfold Array.eraseIdxIfInBounds
        rw [dif_pos (by simpa using hj)]
        simp
      have hsz : ¬ (us.eraseIdx j).length = us.length := by rw [List.length_eraseIdx]; split <;> omega
      show (⟨_, _, .seq (us.toArray.eraseIdxIfInBounds j) (if (us.toArray.eraseIdxIfInBounds j).size == us.toArray.size then n else n + 1), _⟩ : Obj) = _
      rw [hs]
      simp [hsz]
    obtain ⟨F', N'⟩ := news_upd F N h1 h2 hl rfl
    exact h _ _ _ F' (hg _ ▸ N') hI
theorem remove_out {us : List Value} {l : List Int} {k : Int} {u : Tok} {Q : Value → Shared → Prop} (hh : A.handled = none) (N : News h₀ L s.heap news) (hm : (D, listOf us.toArray n) ∈ news) (hi : IntsAre us l) (hk : k ∉ l)
    (h : ∀ h' tk e, Heap.NewExc s.heap h' e "ValueError" → E (.ref e) { s with heap := h', toks := tk }) : wpAny (model prog w) A (call (.builtin "list.remove") [.ref D, .int k u]) Q E s := by
  have e := (N _ hm).1
  have T : s.TypeIs (.ref D) "list" := ⟨_, e, rfl⟩
  refine call_meets slot_list_remove T entry_list_remove (args_list_remove_2 _ _) (list_remove_none D us.toArray n (.int k u) (eqI k) (ints_gives hi k u) ?_) ⟨e, hh, fun h' tk e' hn => h h' tk e' hn⟩
  intro m hm
  have hm : m < us.length := by simpa using hm
  have key : ∀ {vs : List Value} {xs : List Int}, IntsAre vs xs → k ∉ xs → ∀ m (hm : m < vs.length), eqI k vs[m] = false := by
    intro vs xs hI
    induction hI with
    | nil => intro _ m hm; simp at hm
    | cons n t r ih =>
      intro hk m hm
      cases m with
      | zero => simp only [List.getElem_cons_zero, eqI]; simpa using fun q => hk (by rw [q]; exact .head _)
      | succ m => simpa using ih (fun q => hk (.tail _ q)) m (by simpa using hm)
  simpa using key hi hk m hm
end
end
section
noncomputable abbrev fsOf (outer : List Env) : List Addr := outer.filterMap (·.frame)
noncomputable def Ev (T fs : List Addr) (h h' : Heap) : Prop := (∀ b o, b ∉ T → b ∉ fs → h.get? b = some o → h'.get? b = some o) ∧ ∀ b o, b ∈ fs → h.get? b = some o → ∃ sl, h'.get? b = some { o with slots := sl }
theorem Ev.of_keeps {T fs : List Addr} {h h' : Heap} (k : ∀ b o, h.get? b = some o → h'.get? b = some o) : Ev T fs h h' := ⟨fun b o _ _ e => k b o e, fun b o _ e => ⟨o.slots, k b o e⟩⟩
theorem Ev.trans {T fs : List Addr} {h h' h'' : Heap} (x : Ev T fs h h') (y : Ev T fs h' h'') : Ev T fs h h'' :=
  ⟨fun b o n m e => y.1 b o n m (x.1 b o n m e), fun b o m e => let ⟨_, e1⟩ := x.2 b o m e; let ⟨sl, e2⟩ := y.2 b _ m e1; ⟨sl, e2⟩⟩
theorem Ev.keeps {T fs : List Addr} {h h' h'' : Heap} (x : Ev T fs h h') (k : ∀ b o, h'.get? b = some o → h''.get? b = some o) : Ev T fs h h'' :=
  ⟨fun b o n m e => k _ _ (x.1 b o n m e), fun b o m e => let ⟨sl, e1⟩ := x.2 b o m e; ⟨sl, k _ _ e1⟩⟩
theorem Ev.mono {T T' fs fs' : List Addr} {h h' : Heap} (x : Ev T fs h h') (s : ∀ b ∈ T, b ∈ T') (t : ∀ b ∈ fs, b ∈ fs') (n : ∀ b ∈ fs', b ∉ T) : Ev T' fs' h h' :=
  ⟨fun b o n m e => x.1 b o (fun q => n (s b q)) (fun q => m (t b q)) e, fun b o m e => by
    by_cases q : b ∈ fs
    · exact x.2 b o q e
    · exact ⟨o.slots, x.1 b o (n b m) q e⟩⟩
structure Am (w : World) (mean : ExcName → Option Value) (mg mb : Str → Option Value) (A₀ : Around) (base : Heap) (outer : List Env) (g : Heap) : Prop where
  B : Below A₀ base outer g
  X : (hd.heap_1 w.params).In g
  T : Top VW LS mean mg mb g
  D : KtsDicts (fsOf outer) g
  XB : (hd.heap_1 w.params).In base
  TB : Top VW LS mean mg mb base
section
variable {w : World} {mean : ExcName → Option Value} {mg mb : Str → Option Value} {A₀ : Around} {base : Heap} {outer : List Env} {g h h' : Heap} {L : Addr} {m : Str → Option Value} {led : List (Addr × Obj)}
theorem Am.live (M : Am w mean mg mb A₀ base outer g) {b : Addr} (hb : b ∈ fsOf outer) : base.get? b = none ∧ ∃ o es n, g.get? b = some o ∧ o.data = .dict es n := by
  obtain ⟨o, es, n, e, d⟩ := M.D b hb
  exact ⟨(M.B.frames.mem hb).1, o, es, n, e, d⟩
theorem Am.turn (M : Am w mean mg mb A₀ base outer g) {T : List Addr} (F : Fr g L h m) (E : Ev T (L :: fsOf outer) h h') (nT : ∀ b ∈ T, g.get? b = none) (nL : L ∉ T) :
    ∃ g', KtsTurn (fsOf outer) g g' ∧ Am w mean mg mb A₀ base outer g' ∧ Fr g' L h' m ∧ ∀ b, g'.get? b = none ↔ g.get? b = none := by
  have self : g.get? L = none := kts_self F
  have nLf : L ∉ fsOf outer := fun q => by obtain ⟨_, o, _, _, e, _⟩ := M.live q; rw [self] at e; cases e
  obtain ⟨T₁, S₁⟩ := kts_turn_at (h := h') (fs := fsOf outer) (g := g)
    (fun b hb => by obtain ⟨_, o, _, _, e, _⟩ := M.live hb; exact ⟨o, e⟩)
    (fun b o e nm => E.1 b o (fun q => by rw [nT b q] at e; cases e) (fun q => by
      rcases List.mem_cons.mp q with rfl | q
      · rw [self] at e; cases e
      · exact nm q) (F.keep b o e))
    (fun b o e hm => E.2 b o (List.mem_cons_of_mem _ hm) (F.keep b o e))
  refine ⟨ktsHeap h' (fsOf outer) g, T₁, ?_, ?_, fun b => ⟨fun e => ?_, T₁.none_ b⟩⟩
  · have B₃ : Below A₀ base outer (ktsHeap h' (fsOf outer) g) := ⟨M.B.stack, fun b o e => T₁.other b o (M.B.stays b o e) (fun hm => by rw [(M.live hm).1] at e; cases e), M.B.frames.of_keeps fun b o e _ => by
      obtain ⟨sl', hs'⟩ := T₁.up e
      exact ⟨_, hs', rfl⟩⟩
    exact ⟨B₃, M.XB.keeps B₃.stays, M.TB.keeps B₃.stays, M.D.turn T₁, M.XB, M.TB⟩
  · obtain ⟨oL, es, ep, e, hd, r⟩ := F.ns
    obtain ⟨sl, e'⟩ := E.2 L oL (.head _) e
    exact ⟨⟨_, es, ep, e', hd, r⟩, S₁, by rw [T₁.size]; exact F.above⟩
  · cases q : g.get? b with
    | none => rfl
    | some o => obtain ⟨sl, e'⟩ := T₁.up q; rw [e] at e'; cases e'
theorem News.turn {g' : Heap} (M : Am w mean mg mb A₀ base outer g) {T : List Addr} (N : News g L h led) (E : Ev T (L :: fsOf outer) h h') (nT : ∀ p ∈ led, p.1 ∉ T) (hn : ∀ b, g'.get? b = none ↔ g.get? b = none) : News g' L h' led := fun p hp =>
  ⟨E.1 _ _ (nT p hp) (fun q => by
    rcases List.mem_cons.mp q with q | q
    · exact (N p hp).2.1 q
    · obtain ⟨_, o, _, _, e, _⟩ := M.live q
      rw [(N p hp).2.2] at e; cases e) (N p hp).1, (N p hp).2.1, (hn _).mpr (N p hp).2.2⟩
theorem IsL.turn {g' : Heap} {a : Addr} {xs : List Int} (M : Am w mean mg mb A₀ base outer g) (t : KtsTurn (fsOf outer) g g') (x : IsL g a xs) : IsL g' a xs := by
  obtain ⟨vs, c, e, i⟩ := x
  refine ⟨vs, c, t.other _ _ e (fun q => ?_), i⟩
  obtain ⟨_, o, _, _, e', d⟩ := M.live q
  rw [e] at e'; cases e'; cases d
theorem IsT.turn {g' : Heap} {a : Addr} {xs : List Int} (M : Am w mean mg mb A₀ base outer g) (t : KtsTurn (fsOf outer) g g') (x : IsT g a xs) : IsT g' a xs := by
  obtain ⟨vs, c, e, i⟩ := x
  refine ⟨vs, c, t.other _ _ e (fun q => ?_), i⟩
  obtain ⟨_, o, _, _, e', d⟩ := M.live q
  rw [e] at e'; cases e'; cases d
end
end
section
section
variable {w : World} {mean : ExcName → Option Value} {mg mb : Str → Option Value} {A A₀ : Around} {base : Heap} {outer : List Env} {g h : Heap} {L a : Addr} {m : Str → Option Value} {name : Str} {scope : Scope} {cd : Value} {cl : List (Str × Addr)} {e : Addr} {X : String} {s' : Shared}
theorem Am.frames (M : Am w mean mg mb A₀ base outer g) (F : Fr g L h m) (hk : scope.kind = .function) : h.FunFrames (hideAll h (L :: fsOf outer)) (envX name scope L a cd cl :: outer) := by
  refine Heap.FunFrames.cons (by show scope.kind ≠ .module; rw [hk]; decide) rfl F.ns (hideAll_none _ (.head _)) ?_
  have key : ∀ l : List Env, (∀ b ∈ fsOf l, b ∈ fsOf outer) → g.FunFrames base l → h.FunFrames (hideAll h (L :: fsOf outer)) l := by
    intro l
    induction l with
    | nil => intro _ _; trivial
    | cons env r ih =>
      rintro hs ⟨hk, ⟨L₁, o, hf, hn, ho, hd⟩, hr⟩
      refine ⟨hk, ⟨L₁, o, hf, hideAll_none _ (.tail _ (hs _ ?_)), F.keep _ _ ho, hd⟩, ih (fun b hb => hs b ?_) hr⟩
      · show L₁ ∈ List.filterMap (·.frame) (env :: r)
        rw [List.filterMap_cons, hf]; exact .head _
      · show b ∈ List.filterMap (·.frame) (env :: r)
        rw [List.filterMap_cons, hf]; exact .tail _ hb
  exact key outer (fun _ h => h) M.B.frames
theorem Am.ev (M : Am w mean mg mb A₀ base outer g) (F : Fr g L h m) {h₁ h' : Heap} {cls : Value} (hk : ∀ b o, h.get? b = some o → h₁.get? b = some o) (Lf : Heap.Left (hideAll h (L :: fsOf outer)) (envX name scope L a cd cl :: outer) e cls h₁ h') :
    Ev [] (L :: fsOf outer) h h' := by
  obtain ⟨k1, _, _, k4⟩ := Lf
  refine ⟨fun b o _ nb q => k1 b o (hideAll_get _ q nb), fun b o hb q => ?_⟩
  refine k4 b o (hk _ _ q) ?_
  rcases List.mem_cons.mp hb with rfl | hb
  · obtain ⟨oL, es, ep, eL, hd, _⟩ := F.ns
    rw [q] at eL; cases eL
    intro vs z; rw [hd] at z; cases z
  · obtain ⟨_, o', es, n, e', d⟩ := M.live hb
    rw [F.keep _ _ e'] at q; cases q
    intro vs z; rw [d] at z; cases z
theorem leave_new {E : Value → Shared → Prop} {Q : Unit → Shared → Prop} (M : Am w mean mg mb A₀ base outer g) (F : Fr g L h m) (hA : A.frames = some outer) (hk : scope.kind = .function) (hx : Heap.NewExc h s'.heap e X)
    (k : ∀ h', Ev [] (L :: fsOf outer) h h' → (∃ ob, h'.get? e = some ob ∧ ob.cls = .type X) → Q () { s' with heap := h' }) :
    wpAny (model PG w) (A.deeper (envX name scope L a cd cl)) (leaving (envX name scope L a cd cl) (.ref e)) Q E s' := by
  obtain ⟨ob, tp, he, hcls, hd⟩ := hx.there
  have hen : (hideAll h (L :: fsOf outer)).get? e = none := by
    cases q : (hideAll h (L :: fsOf outer)).get? e with
    | none => rfl
    | some o => have := of_hideAll _ q; rw [hx.new] at this; cases this
  refine wpAny_leaving_first (base := hideAll h (L :: fsOf outer)) (Around.frames_deeper hA) ((M.frames F hk).of_keeps fun b o hb _ => ⟨o, hx.keeps b o hb, rfl⟩) rfl he
    (fun b o q => hx.keeps _ _ (of_hideAll _ q)) hen hd rfl fun h' Lf => k h' (M.ev F hx.keeps Lf) ?_
  obtain ⟨_, _, ⟨oe, _, _, _, _, e1, e2, _⟩, _⟩ := Lf
  exact ⟨oe, e1, e2.trans hcls⟩
theorem caught_new {Q : Flow → Shared → Prop} {np pos : Pos} {b₀ : Stmt} {suite : List Stmt} (M : Am w mean mg mb A₀ base outer g) (F : Fr g L h m) (hA : A.frames = some outer) (hk : scope.kind = .function) (hx : Heap.NewExc h s'.heap e X)
    (hkey : (envX name scope L a cd cl).kindOf (Str.ofString X) = some .globalImplicit) (hns : nsIn (hd.heap_1 w.params) mainGlobals (Str.ofString X) = some none) (hv : bootBuiltins (Str.ofString X) = some (.type X)) (hne : Str.ofString X ≠ "__name__") (hdb : ((Str.ofString X) == ("__debug__" : Str)) = false)
    (hexc : isSubtype (.type X) (.type "BaseException") = pure true) (hnt : isSubtype (.type ((Manifest.find? X).elim "type" fun x => x.metatype)) (.type "tuple") = pure false) (hsub : isSubtype (.type X) (.type X) = pure true)
    (k : ∀ h', Ev [] (L :: fsOf outer) h h' → wpAny (model PG w) ((A.deeper (envX name scope L a cd cl)).mark (some (.ref e))) (execs (b₀ :: suite) (envX name scope L a cd cl)) Q (fun _ _ => False) { s' with heap := h' }) :
    wpAny (model PG w) (A.deeper (envX name scope L a cd cl)) (noteFrame (.ref e) (envX name scope L a cd cl)) (fun _ s₂ => wpAny (model PG w) (A.deeper (envX name scope L a cd cl)) (setFlight (.ref e) none)
      (fun _ s₃ => wpAny (model PG w) (A.deeper (envX name scope L a cd cl)) (handleBy (.ref e) (envX name scope L a cd cl) [.ExceptHandler (some (.Name (Str.ofString X) np)) none (b₀ :: suite) pos]) Q (fun _ _ => False) s₃) (fun _ _ => False) s₂) (fun _ _ => False) s' := by
  revert M F hA hk hx hkey hns hv hne hdb hexc hnt hsub k
  revert w mean mg mb A A₀ base outer g h L a m name scope cd cl e X s' Q np pos b₀ suite
  walk_at "16"; (iterate 7 (generalize zf w_ = name; generalize zs w_ = v_; clear w_; generalize zf v_ = name; generalize zs v_ = w_; clear v_)); generalize zf w_ = scope, zs w_ = cd; clear w_; rename_i w mean mg mb A A₀ base outer g h L a m
  walk_at "9"; (iterate 3 (generalize zf w_ = pos; generalize zs w_ = v_; clear w_; generalize zf v_ = pos; generalize zs v_ = w_; clear v_)); generalize zf w_ = pos; generalize zs w_ = v_; clear w_; generalize zf v_ = b₀, zs v_ = suite; clear v_; rename_i cl e X s' Q np
  intro M F hA hk hx hkey hns hv hne hdb hexc hnt hsub k
  obtain ⟨ob, tp, he, hcls, hd⟩ := hx.there
  have hen : (hideAll h (L :: fsOf outer)).get? e = none := by
    cases q : (hideAll h (L :: fsOf outer)).get? e with
    | none => rfl
    | some o => have := of_hideAll _ q; rw [hx.new] at this; cases this
  unfold noteFrame
  show wpAny _ _ (field (.ref e) 1 >>= _) _ _ _
  refine wpAny_bind (wpAny_field he hd (x := .none) rfl ?_)
  rw [if_neg (by decide)]
  refine wpAny_newEntry (base := hideAll h (L :: fsOf outer)) (Around.frames_deeper hA) ((M.frames F hk).of_keeps fun b o hb _ => ⟨o, hx.keeps b o hb, rfl⟩) rfl he
    (fun b o q => hx.keeps _ _ (of_hideAll _ q)) hen hd (by simp) fun h' Lf => ?_
  have EV := M.ev F hx.keeps Lf
  obtain ⟨k1, _, ⟨oe, vs, T, oT, ts, e1, e2, e3, e4, e5, e6, e7, e8, e9⟩, _⟩ := Lf
  have hT : (Shared.TypeIs { s' with heap := h' } (.ref e) X) := ⟨oe, e1, e2.trans hcls⟩
  obtain ⟨g', t', M', F', _⟩ := M.turn F EV (fun b q => nomatch q) (fun q => nomatch q)
  refine wpAny_handleBy_builtin (X := X) (T := X) (b := true) hexc hnt hsub ?_
  refine nameX_B F' M'.X (topRead_of M'.T) hns hv hne ⟨rfl, hT, ?_⟩ hk hkey hdb
  rw [if_pos rfl]
  refine wpAny_setFlight_none e1 e3 e4 e7 e8 (Array.getElem?_eq_some_iff.mp e9).1 ?_
  refine wpAny_noRaise (k _ ⟨fun b o _ nb q => ?_, fun b o hb q => ?_⟩)
  · have z : T ≠ b := fun z => by
      have := hideAll_get (L :: fsOf outer) q nb
      rw [← z, e5] at this; cases this
    rw [Heap.get?_update_other _ _ z]; exact EV.1 b o (fun z => nomatch z) nb q
  · obtain ⟨sl, q'⟩ := EV.2 b o hb q
    have z : T ≠ b := fun z => by
      rw [← z, e7] at q'
      cases q'
      rcases List.mem_cons.mp hb with y | hb
      · obtain ⟨oL, es, ep, eL, hd, _⟩ := F.ns
        rw [y, eL] at q; cases q
        rw [hd] at e8; cases e8
      · obtain ⟨_, o', es, n, e', d⟩ := M.live hb
        rw [F.keep _ _ e'] at q; cases q
        rw [d] at e8; cases e8
    exact ⟨sl, by rw [Heap.get?_update_other _ _ z]; exact q'⟩
end
end
section
noncomputable def ConX (w : World) (f : Addr) (lv : Nat) (mu : List (Addr × Obj)) (vs : List Value) (Post : Value → List (Addr × Obj) → Heap → Prop) (h : Heap) : Prop :=
  ∀ ⦃mean : ExcName → Option Value⦄ ⦃mg mb : Str → Option Value⦄ ⦃dp un : Nat⦄ ⦃gd : Option (List Code)⦄ ⦃cn : Str⦄ ⦃cs : Scope⦄ ⦃a : Addr⦄ ⦃ccd : Value⦄ ⦃cl : List (Str × Addr)⦄ ⦃outer : List Env⦄ ⦃A₀ : Around⦄ ⦃base h₀ : Heap⦄ ⦃L : Addr⦄
    ⦃m : Str → Option Value⦄ ⦃s : Shared⦄ ⦃Q E : Value → Shared → Prop⦄,
    s.heap = h → Am w mean mg mb A₀ base outer h₀ → Fr h₀ L s.heap m → News h₀ L s.heap mu → cs.kind = .function → dp + lv < recursionLimit → un + lv < cLine →
    (∀ v h' tk' led, Ev (mu.map (·.1)) (L :: fsOf outer) h h' → (∀ p ∈ led, h'.get? p.1 = some p.2 ∧ (p.1 ∈ mu.map (·.1) ∨ h.get? p.1 = none)) → Post v led h' → Q v { s with heap := h', toks := tk' }) →
    wpAny (model PG w) (ktrTop dp un gd cn cs L a ccd cl outer) (call (.ref f) vs) Q E s
section
variable {w : World} {mean : ExcName → Option Value} {mg mb : Str → Option Value} {A A₀ : Around} {base : Heap} {outer : List Env} {g g' h₀ h h' : Heap} {L L' a : Addr} {m m' : Str → Option Value} {mu led : List (Addr × Obj)}
theorem exitX (M : Am w mean mg mb A₀ base outer h₀) (F : Fr h₀ L h m) (N : News h₀ L h mu) (sg : ∀ b o, b ∉ mu.map (·.1) → h.get? b = some o → g.get? b = some o) (gs : ∀ b o, g.get? b = some o → h.get? b = some o)
    (t : KtsTurn (L :: fsOf outer) g g') (F' : Fr g' L' h' m') (N' : News g' L' h' led) :
    Ev (mu.map (·.1)) (L :: fsOf outer) h h' ∧ ∀ p ∈ led, h'.get? p.1 = some p.2 ∧ (p.1 ∈ mu.map (·.1) ∨ h.get? p.1 = none) := by
  have nf : ∀ b ∈ L :: fsOf outer, b ∉ mu.map (·.1) := fun b hb q => by
    obtain ⟨p, hp, rfl⟩ := List.mem_map.mp q
    rcases List.mem_cons.mp hb with e | hb
    · exact (N p hp).2.1 e
    · obtain ⟨_, o, _, _, e, _⟩ := M.live hb
      rw [(N p hp).2.2] at e; cases e
  refine ⟨⟨fun b o n nf e => F'.keep _ _ (t.other b o (sg b o n e) nf), fun b o hb e => ?_⟩, fun p hp => ⟨(N' p hp).1, ?_⟩⟩
  · obtain ⟨sl, e'⟩ := t.frame b o (sg b o (nf b hb) e) hb
    exact ⟨sl, F'.keep _ _ e'⟩
  · by_cases q : p.1 ∈ mu.map (·.1)
    · exact .inl q
    · refine .inr ?_
      cases z : h.get? p.1 with
      | none => rfl
      | some o =>
        obtain ⟨sl, e'⟩ := t.up (sg _ _ q z)
        have := (N' p hp).2.2
        rw [e'] at this; cases this
theorem ConX.use {f : Addr} {lv : Nat} {vs : List Value} {Post : Value → List (Addr × Obj) → Heap → Prop} {dp un : Nat} {gd : Option (List Code)} {cn : Str} {cs : Scope} {ccd : Value} {cl : List (Str × Addr)} {s : Shared} {Q E : Value → Shared → Prop} {all : List (Addr × Obj)}
    (c : ConX w f lv mu vs Post s.heap) (M : Am w mean mg mb A₀ base outer h₀) (F : Fr h₀ L s.heap m) (N : News h₀ L s.heap all) (hmu : ∀ p ∈ mu, p ∈ all) (rest : List (Addr × Obj)) (hrest : ∀ p ∈ rest, p ∈ all ∧ p.1 ∉ mu.map (·.1)) (hk : cs.kind = .function) (hd : dp + lv < recursionLimit) (hu : un + lv < cLine)
    (k : ∀ v h' tk' h₀' led, KtsTurn (fsOf outer) h₀ h₀' → Am w mean mg mb A₀ base outer h₀' → Fr h₀' L h' m → News h₀' L h' (led ++ rest) → (∀ p ∈ led, p.1 ∈ mu.map (·.1) ∨ s.heap.get? p.1 = none) → Post v led h' → Q v { s with heap := h', toks := tk' }) :
    wpAny (model PG w) (ktrTop dp un gd cn cs L a ccd cl outer) (call (.ref f) vs) Q E s := by
  have Nm : News h₀ L s.heap mu := fun p hp => N p (hmu p hp)
  refine c rfl M F Nm hk hd hu fun v h' tk' led EV hl hp => ?_
  obtain ⟨h₀', t, M', F', nn⟩ := M.turn F EV (fun b q => by obtain ⟨p, hp, rfl⟩ := List.mem_map.mp q; exact (Nm p hp).2.2) (fun q => by obtain ⟨p, hp, e⟩ := List.mem_map.mp q; exact (Nm p hp).2.1 e)
  have Nr : News h₀ L s.heap rest := fun p hp => N p (hrest p hp).1
  have N2 := News.turn M Nr EV (fun p hp => (hrest p hp).2) nn
  refine k v h' tk' h₀' led t M' F' (fun p hp => ?_) (fun p hp => (hl p hp).2) hp
  rcases List.mem_append.mp hp with hp | hp
  · obtain ⟨e, hor⟩ := hl p hp
    rcases hor with hor | hor
    · obtain ⟨q, hq, e'⟩ := List.mem_map.mp hor
      exact ⟨e, e' ▸ (Nm q hq).2.1, e' ▸ (nn _).mpr (Nm q hq).2.2⟩
    · refine ⟨e, fun z => ?_, (nn _).mpr ?_⟩
      · obtain ⟨oL, es, ep, eL, _⟩ := F.ns
        rw [z, eL] at hor; cases hor
      · cases z : h₀.get? p.1 with
        | none => rfl
        | some o => rw [F.keep _ _ z] at hor; cases hor
  · exact N2 p hp
end
section
variable {w : World} {A : Around} {E : Value → Shared → Prop} {s : Shared} {L : Addr} {h₀ : Heap} {m mg mb : Str → Option Value} {mean : ExcName → Option Value} {mu : List (Addr × Obj)}
theorem enterX {base : Heap} {A₀ : Around} {dp un : Nat} {gd : Option (List Code)} {cn : Str} {cs : Scope} {a : Addr} {ccd : Value} {cl : List (Str × Addr)} {outer : List Env} {R : Result → Shared → Prop} {name qual : Str} {params : Arguments} {body : List Stmt} {scope : Scope} {dV kV doc pm cdv ct oc : Value} {an od : Option Addr} {osl : Array (Option Value)} {f : Addr} {args : Args} {binds : List (Str × Value)}
    (M : Am w mean mg mb A₀ base outer h₀) (F : Fr h₀ L s.heap m) (N : News h₀ L s.heap mu) (hke : cs.kind = .function)
    (ho : (hd.heap_1 w.params).lookup f = some ⟨oc, od, .func (fnOf name qual params body scope dV kV doc pm an cdv ct), osl⟩) (hcd : codeIn (hd.heap_1 w.params) cdv qual = true) (hroom : dp < recursionLimit)
    (hbind : BindsTo s (fnOf name qual params body scope dV kV doc pm an cdv ct) args binds) (hloc : ∀ y ∈ binds, scope.names.lookup y.1 = some .local)
    (h : ∀ g L' h₁, (∀ b o, b ∉ mu.map (·.1) → s.heap.get? b = some o → g.get? b = some o) → (∀ b o, g.get? b = some o → s.heap.get? b = some o) → L' = s.heap.objs.size → (∀ p ∈ mu, p.1 < L') →
      Fr g L' h₁ (fun y => binds.reverse.lookup y) → News g L' h₁ mu → Am w mean mg mb (ktrTop dp un gd cn cs L a ccd cl outer) base (envX cn cs L a ccd cl :: outer) g →
      wpAny (model PG w) ((ktrTop dp un gd cn cs L a ccd cl outer).deeper (envOf qual scope L' f cdv)) (execs body (envOf qual scope L' f cdv))
        (fun fl s' => R (.ok (.ret (match fl with | .ret v => v | _ => .none))) s')
        (fun e s' => wpAny (model PG w) ((ktrTop dp un gd cn cs L a ccd cl outer).deeper (envOf qual scope L' f cdv)) (leaving (envOf qual scope L' f cdv) e) (fun _ s'' => R (.error e) s'') (fun e' s'' => R (.error e') s'') s')
        { s with heap := h₁, toks := s.toks + binds.length })
    (hco : scope.isCoroutine = false) (hgen : scope.isGenerator = false) (hk : scope.kind = .function)
    (hcell : ∀ x ∈ scope.names, x.2 ≠ .cell) : codeAny (model PG w) (ktrTop dp un gd cn cs L a ccd cl outer) (.call (.ref f) args) R s := by
  refine enterP M.B F M.X N M.T (env := envX cn cs L a ccd cl) (outer := outer) rfl rfl hke ho hcd hroom hbind hloc (fun g L' h₁ sg gs eL lt F' N' B' X' T' => ?_) hco hgen hk hcell
  refine h g L' h₁ (fun b o n e => sg b o n e) gs eL lt F' N' ⟨B', X', T', fun b hb => ?_, M.XB, M.TB⟩
  have hin : ∀ {b o}, s.heap.get? b = some o → b ∉ mu.map (·.1) → g.get? b = some o := fun e n => sg _ _ n e
  rcases List.mem_cons.mp hb with rfl | hb
  · obtain ⟨oL, es, ep, eL, hd, _⟩ := F.ns
    exact ⟨oL, es, ep, hin eL (fun q => by obtain ⟨p, hp, e⟩ := List.mem_map.mp q; exact (N p hp).2.1 e), hd⟩
  · obtain ⟨_, o, es, n, e, d⟩ := M.live hb
    exact ⟨o, es, n, hin (F.keep _ _ e) (fun q => by obtain ⟨p, hp, rfl⟩ := List.mem_map.mp q; rw [(N p hp).2.2] at e; cases e), d⟩
theorem enterXC {base : Heap} {A₀ : Around} {dp un : Nat} {gd : Option (List Code)} {cn : Str} {cs : Scope} {a : Addr} {ccd : Value} {cl : List (Str × Addr)} {outer : List Env} {R : Result → Shared → Prop} {name qual : Str} {params : Arguments} {body : List Stmt} {scope : Scope} {dV kV doc pm cdv ct oc : Value} {an od : Option Addr} {osl : Array (Option Value)} {f : Addr} {args : Args} {binds : List (Str × Value)}
    (M : Am w mean mg mb A₀ base outer h₀) (F : Fr h₀ L s.heap m) (N : News h₀ L s.heap mu) (hke : cs.kind = .function)
    (ho : (hd.heap_1 w.params).lookup f = some ⟨oc, od, .func (fnOf name qual params body scope dV kV doc pm an cdv ct), osl⟩) (hcd : codeIn (hd.heap_1 w.params) cdv qual = true) (hroom : dp < recursionLimit)
    (hbind : BindsTo s (fnOf name qual params body scope dV kV doc pm an cdv ct) args binds) (hkind : (binds.all fun y => scope.names.lookup y.1 == some .local || scope.names.lookup y.1 == some .cell) = true)
    (hnd : ((cellsFrom 0 scope.names []).map (·.1)).Nodup)
    (h : ∀ g L' h₁ tk cells, (∀ b o, b ∉ mu.map (·.1) → s.heap.get? b = some o → g.get? b = some o) → (∀ b o, g.get? b = some o → s.heap.get? b = some o) → L' = s.heap.objs.size → (∀ p ∈ mu, p.1 < L') →
      Fr g L' h₁ (bindL (envOfC qual scope L' f cdv).kindOf binds fun _ => none) → News g L' h₁ (cells ++ mu) →
      CellsAre (bindC (envOfC qual scope L' f cdv).kindOf binds fun _ => none) (cellsFrom (L' + 1) scope.names []) cells → Am w mean mg mb (ktrTop dp un gd cn cs L a ccd cl outer) base (envX cn cs L a ccd cl :: outer) g →
      wpAny (model PG w) ((ktrTop dp un gd cn cs L a ccd cl outer).deeper (envOfC qual scope L' f cdv)) (execs body (envOfC qual scope L' f cdv))
        (fun fl s' => R (.ok (.ret (match fl with | .ret v => v | _ => .none))) s')
        (fun e s' => wpAny (model PG w) ((ktrTop dp un gd cn cs L a ccd cl outer).deeper (envOfC qual scope L' f cdv)) (leaving (envOfC qual scope L' f cdv) e) (fun _ s'' => R (.error e) s'') (fun e' s'' => R (.error e') s'') s')
        { s with heap := h₁, toks := tk })
    (hco : scope.isCoroutine = false) (hgen : scope.isGenerator = false) (hk : scope.kind = .function) : codeAny (model PG w) (ktrTop dp un gd cn cs L a ccd cl outer) (.call (.ref f) args) R s := by
  refine enterC M.B F M.X N M.T (env := envX cn cs L a ccd cl) (outer := outer) rfl rfl hke ho hcd hroom hbind hkind hnd (fun g L' h₁ tk cells sg gs eL lt F' N' Y' B' X' T' => ?_) hco hgen hk
  refine h g L' h₁ tk cells (fun b o n e => sg b o n e) gs eL lt F' N' Y' ⟨B', X', T', fun b hb => ?_, M.XB, M.TB⟩
  have hin : ∀ {b o}, s.heap.get? b = some o → b ∉ mu.map (·.1) → g.get? b = some o := fun e n => sg _ _ n e
  rcases List.mem_cons.mp hb with rfl | hb
  · obtain ⟨oL, es, ep, eL, hd, _⟩ := F.ns
    exact ⟨oL, es, ep, hin eL (fun q => by obtain ⟨p, hp, e⟩ := List.mem_map.mp q; exact (N p hp).2.1 e), hd⟩
  · obtain ⟨_, o, es, n, e, d⟩ := M.live hb
    exact ⟨o, es, n, hin (F.keep _ _ e) (fun q => by obtain ⟨p, hp, rfl⟩ := List.mem_map.mp q; rw [(N p hp).2.2] at e; cases e), d⟩
end
end
section
structure Ld where
  mean : ExcName → Option Value
  mg : Str → Option Value
  mb : Str → Option Value
  dp : Nat
  un : Nat
  gd : Option (List Code)
  cn : Str
  cs : Scope
  a : Addr
  ccd : Value
  cl : List (Str × Addr)
  outer : List Env
  A₀ : Around
  base : Heap
  h₀ : Heap
  L : Addr
  m : Str → Option Value
  s : Shared
  Q : Value → Shared → Prop
  E : Value → Shared → Prop
theorem neLd : Nonempty Ld := ⟨⟨default, default, default, default, default, default, default, default, default, default, default, default, {}, default, default, default, default, {}, default, default⟩⟩
noncomputable def ConXat (w : World) (f : Addr) (lv : Nat) (mu : List (Addr × Obj)) (vs : List Value) (Post : Value → List (Addr × Obj) → Heap → Prop) (h : Heap) (c : Ld) : Prop :=
  c.s.heap = h → Am w c.mean c.mg c.mb c.A₀ c.base c.outer c.h₀ → Fr c.h₀ c.L c.s.heap c.m → News c.h₀ c.L c.s.heap mu → c.cs.kind = .function → c.dp + lv < recursionLimit → c.un + lv < cLine →
    (∀ v h' tk' led, Ev (mu.map (·.1)) (c.L :: fsOf c.outer) h h' → (∀ p ∈ led, h'.get? p.1 = some p.2 ∧ (p.1 ∈ mu.map (·.1) ∨ h.get? p.1 = none)) → Post v led h' → c.Q v { c.s with heap := h', toks := tk' }) →
    wpAny (model PG w) (ktrTop c.dp c.un c.gd c.cn c.cs c.L c.a c.ccd c.cl c.outer) (call (.ref f) vs) c.Q c.E c.s
noncomputable def wX (w : World) (f : Addr) (lv : Nat) (mu : List (Addr × Obj)) (vs : List Value) (Post : Value → List (Addr × Obj) → Heap → Prop) (h : Heap) : Ld := zwt neLd fun c => ConXat w f lv mu vs Post h c
theorem ConX.hk {w : World} {f : Addr} {lv : Nat} {mu : List (Addr × Obj)} {vs : List Value} {Post : Value → List (Addr × Obj) → Heap → Prop} {h : Heap} (H : ConXat w f lv mu vs Post h (wX w f lv mu vs Post h)) : ConX w f lv mu vs Post h := by
  have K : ∀ c, ConXat w f lv mu vs Post h c := zk0 neLd H
  intro mean mg mb dp un gd cn cs a ccd cl outer A₀ base h₀ L m s Q E
  exact K ⟨mean, mg, mb, dp, un, gd, cn, cs, a, ccd, cl, outer, A₀, base, h₀, L, m, s, Q, E⟩
end
section
noncomputable def uldR : List Int → List Int → List Int → List Int × List Int
  | [], ys, zs => (zs, ys)
  | x :: r, ys, zs => if x ∈ ys then uldR r (ys.erase x) zs else uldR r ys (zs ++ [x])
theorem split_last {xs : List Int} (h : 0 < xs.length) : ∃ l a, xs = l ++ [a] ∧ xs.getLastD 0 = a ∧ xs.dropLast = l := by
  rcases List.eq_nil_or_concat xs with rfl | ⟨l, a, rfl⟩
  · simp at h
  · exact ⟨l, a, by simp, by simp, by simp⟩
theorem uld_in {xs ys zs : List Int} (h : 0 < xs.length) (hk : xs.getLastD 0 ∈ ys) : uldR xs.reverse ys zs = uldR xs.dropLast.reverse (ys.erase (xs.getLastD 0)) zs := by
  obtain ⟨l, a, e1, e2, e3⟩ := split_last h
  rw [e2] at hk
  rw [e2, e3, e1, List.reverse_append]
  simp [uldR, hk]
theorem uld_out {xs ys zs : List Int} (h : 0 < xs.length) (hk : xs.getLastD 0 ∉ ys) : uldR xs.reverse ys zs = uldR xs.dropLast.reverse ys (zs ++ [xs.getLastD 0]) := by
  obtain ⟨l, a, e1, e2, e3⟩ := split_last h
  rw [e2] at hk
  rw [e2, e3, e1, List.reverse_append]
  simp [uldR, hk]
noncomputable abbrev tupO (vs : List Value) (c : Nat) : Obj := { cls := .type "tuple", data := .seq vs.toArray c }
section
local macro_rules | `(tactic| walk_at $s) => zd ["exec While Name cons nil", "call builtin:list.remove"] [] s
local macro_rules | `(tactic| walk_at $s) => zd [] [] s
theorem con_uld (w : World) {h : Heap} {x y : Addr} {vx vy : List Value} {cx cy : Nat} {xs ys : List Int} (ix : IntsAre vx xs) (iy : IntsAre vy ys) (hxy : x ≠ y) (bx : xs.length ≤ 1000) (by_ : ys.length ≤ 1000) :
    ConX w 28 10 [(x, listOf vx.toArray cx), (y, listOf vy.toArray cy)] [.ref x, .ref y]
      (fun v led h' => ∀ G_ : Prop, (∀ t c z vz cz cx va ca, (v = .ref t) → (led = [(t, tupO [.ref z, .ref y] c), (z, listOf vz.toArray cz), (x, listOf [].toArray cx), (y, listOf va.toArray ca)]) → (IntsAre vz (uldR xs.reverse ys []).1) → (IntsAre va (uldR xs.reverse ys []).2) → G_) → G_) h := by
  revert ix iy hxy bx by_
  revert w h x y vx vy cx cy xs ys
  walk_at "10"; (iterate 4 (generalize zf w_ = cy; generalize zs w_ = v_; clear w_; generalize zf v_ = cy; generalize zs v_ = w_; clear v_)); generalize zf w_ = xs, zs w_ = ys; clear w_; rename_i w h x y vx vy cx
  intro ix iy hxy bx by_
  refine ConX.hk ?_; generalize wX _ _ _ _ _ _ _ = c_; delta ConXat; generalize c_.mean = mean, c_.mg = mg, c_.mb = mb, c_.dp = dp, c_.un = un, c_.gd = gd, c_.cn = cn, c_.cs = cs, c_.a = a, c_.ccd = ccd, c_.cl = cl, c_.outer = outer, c_.A₀ = A₀, c_.base = base, c_.h₀ = h₀, c_.L = L, c_.m = m, c_.s = s, c_.Q = Q, c_.E = E
  intro hh M F N hk hdp hun hret
  subst hh
  have X := M.X
  (refine wpAny_call ?_; k_dflt (refine' enterX ?k1 ?k2 ?k4 ?kK ?k6 ?k7 ?k8 ?k9 ?kB ?_ ?c2 ?c3 ?c4 ?c5; (case kK => assumption); (case k1 => assumption); (case k2 => assumption); (case k4 => assumption); (case k6 => k_is); (case k7 => k_is); (case k8 => omega); (case k9 => first | exact BindsTo.of_eq rfl | exact binds_K (by k_in) rfl (by k_is) rfl rfl rfl); (case c5 => decide); (case kB => exact locs rfl); (case c2 => exact rfl); (case c3 => exact rfl); (case c4 => exact rfl); k_whole))
  walk_at "3"; generalize zf w_ = g, zf (zs w_) = L', zs (zs w_) = h₁
  intro sg gs eL lt F' N' M'
  (try dsimp only)
  refine wpAny_noRaise ?_
  have X' := M'.X
  have T' := M'.T
  k_lt lt
  k_steps
  refine Blk.out ?_
  obtain ⟨Iv1, hIv1⟩ : ∃ Iv1 : Nat → Shared → Prop, Iv1 = fun n s' => ∀ G_ : Prop, (∀ g2 h tk m' vx vy vz cx cy cz xs2 ys2 zs (z : Addr), (s' = { s with heap := h, toks := tk }) → (m' (Str.ofString "expected") = some (.ref x)) → (m' (Str.ofString "actual") = some (.ref y)) → (m' (Str.ofString "missing") = some (.ref z)) → (KtsTurn (L :: fsOf outer) g g2) → (Am w mean mg mb (ktrTop dp un gd cn cs L a ccd cl outer) base (envX cn cs L a ccd cl :: outer) g2) → (Fr g2 L' h m') → (News g2 L' h [(z, listOf vz.toArray cz), (x, listOf vx.toArray cx), (y, listOf vy.toArray cy)]) → (IntsAre vx xs2) → (IntsAre vy ys2) → (IntsAre vz zs) → (n = xs2.length) → (x ≠ z) → (y ≠ z) → (xs2.length + zs.length ≤ 1000) → (ys2.length ≤ 1000) → (uldR xs2.reverse ys2 zs = uldR xs.reverse ys []) → G_) → G_ := ⟨_, rfl⟩
  refine while_rule Iv1 ?_ xs.length ?_
  · intro n s' hI1_; (first | rw [hIv1] at hI1_ | skip); refine hI1_ _ ?_; clear hI1_; intro g2 h tk m' vx vy vz cx cy cz xs2 ys2 zs z e2_ m1 m2 m3 t2 M2 F2 N2 ix iy iz e3_ nxz nyz b1 b2 hR; subst e2_; subst e3_
    clear X' T' M'
    have X' := M2.X
    have T' := M2.T
    have F3 := frk F2 _ (kn1 m1 (kn1 m2 (kn1 m3 kn0)))
    clear F2; k_sweep
    have lvx := ix.length
    have lvy := iy.length
    have lvz := iz.length
    replace hxy := neN hxy
    replace nxz := neN nxz
    replace nyz := neN nyz
    k_steps
    · refine Blk.out ?_
      rename 0 < xs2.length => hpos
      by_cases hk : xs2.getLastD 0 ∈ ys2
      · refine' remove_in ?F ?N ?U iy hk ?z ?_
        (case F => assumption)
        (case N => assumption)
        (case U => k_updF)
        (case z => (rw [sizeLine_eq]; omega))
        intro h' us' n' F' N' hI'
        dsimp only at N' ⊢
        k_steps
        refine ⟨xs2.dropLast.length, by simp; omega, ?_⟩
        first | rw [hIv1]
        refine (fun _ k_ => k_ g2 _ _ _ _ _ _ _ _ _ xs2.dropLast (ys2.erase (xs2.getLastD 0)) zs z rfl rfl rfl rfl t2 M2 F' N' (by assumption) hI' iz rfl nxz nyz ?_ ?_ ?_)
        · simp; omega
        · have := List.length_erase_of_mem hk; omega
        · rw [← hR, uld_in hpos hk]
      · refine' remove_out rfl ?N ?U iy hk ?_
        (case N => assumption)
        (case U => k_mem)
        intro h' tk' e hn
        dsimp only
        refine caught_new (X := "ValueError") (outer := envX cn cs L a ccd cl :: outer) M2 (by assumption) rfl rfl hn rfl (by k_is) PyProof.Rows.Boot.«ValueError» (by decide) (by decide) PySem.F.isExc_ValueError PySem.F.notTuple_ValueError (by rw [isSubtype_type]; kernel_rfl) ?_
        intro h'' EV
        obtain ⟨g3, t3, M3, F3', nn⟩ := M2.turn (by assumption) EV (fun b q => nomatch q) (fun q => nomatch q)
        have N3 := News.turn M2 (by assumption) EV (fun p _ q => nomatch q) nn
        k_sweep
        have X'' := M3.X
        have T'' := M3.T
        k_steps
        rename News g3 L' _ _ => N4
        simp only [List.push_toArray] at N4
        refine ⟨xs2.dropLast.length, by simp; omega, ?_⟩
        first | rw [hIv1]
        refine (fun _ k_ => k_ g3 _ _ _ _ _ _ _ _ _ xs2.dropLast ys2 (zs ++ [xs2.getLastD 0]) z rfl rfl rfl rfl (t2.trans t3) M3 (by assumption) (by assumption) (by assumption) iy (IntsAre.append iz (.cons _ _ .nil)) rfl nxz nyz ?_ b2 ?_)
        · simp; omega
        · rw [← hR, uld_out hpos hk]
    · rename ¬ 0 < xs2.length => hneg
      have e0 : xs2 = [] := by cases xs2 with | nil => rfl | cons _ _ => simp at hneg
      subst e0
      cases ix
      obtain ⟨EV, hl⟩ := exitX M F N sg gs t2 (by assumption) (by assumption)
      refine hret _ _ _ _ EV hl (fun _ k_ => k_ _ _ _ _ _ _ _ _ rfl rfl ?_ ?_)
      · rw [← hR]; exact iz
      · rw [← hR]; exact iy
  · rw [hIv1]
    exact (fun _ k_ => k_ g _ _ _ _ _ _ _ _ _ xs ys ([]) _ rfl rfl rfl rfl KtsTurn.refl M' (by assumption) (by assumption) ix iy .nil rfl (by k_ne) (by k_ne) (by simpa using bx) by_ rfl)
end
end
section
section
variable {prog : Program} {w : World} {A : Around} {E : Value → Shared → Prop} {s : Shared} {h₀ : Heap} {L a : Addr} {m : Str → Option Value} {news : List (Addr × Obj)}
theorem mwc_N {xs : List Int} {Q : Value → Shared → Prop} (F : Fr h₀ L s.heap m) (N : News h₀ L s.heap news) (hx : IsL s.heap a xs)
    (h : ∀ q h', Fr h₀ L h' m → News h₀ L h' ((q, mwO "list.__contains__" (.ref a)) :: news) → (∀ p ∈ news, p.1 < q) → Q (.ref q) { s with heap := h', toks := s.toks + 1 }) : wpAny (model prog w) A (getAttr (.ref a) "__contains__" true) Q E s := by
  obtain ⟨vs, c, e, i⟩ := hx
  exact mw_contains e rfl rfl rfl (h _ _ (F.push _) (N.push F _) fun p hp => Heap.lt_size (N p hp).1)
end
end
section
noncomputable abbrev itO_l (l : Addr) (i : Nat) : Obj := { cls := .type "list_iterator", data := .fields #[.ref l, .int i 0] }
noncomputable abbrev itO_t (l : Addr) (i : Nat) : Obj := { cls := .type "tuple_iterator", data := .fields #[.ref l, .int i 0] }
noncomputable abbrev sqO_l (items : Array Value) (c : Nat) : Obj := { cls := .type "list", data := .seq items c }
noncomputable abbrev sqO_t (items : Array Value) (c : Nat) : Obj := { cls := .type "tuple", data := .seq items c }
theorem nextB_item_l {prog : Program} {w : World} {A : Around} {E : Value → Shared → Prop} {s : Shared} {it l : Addr} {i : Nat} {items : Array Value} {x : Value} {Q : Value → Shared → Prop} (ho : s.heap.get? it = some (itO_l l i)) (hl : ∃ c, s.heap.get? l = some (sqO_l items c)) (hx : items[i]? = some x)
    (hQ : Q x { s with heap := s.heap.update it (Obj.mapFields (·.setIfInBounds 1 (rawInt ((i : Int) + 1)))) }) : wpAny (model prog w) A (Builtin.«list_iterator.__next__» ⟨[.ref it], []⟩) (fun fin s' => ∃ v, fin = .done (.ret v) ∧ Q v s') E s := by
  obtain ⟨c, hol⟩ := hl
  show wpAny _ _ (field (.ref it) 0 >>= _) _ _ s
  refine wpAny_bind (wpAny_field ho rfl (x := .ref l) rfl ?_)
  show wpAny _ _ (if (Value.ref l == Value.none) = true then _ else _) _ _ s
  rw [if_neg (show ¬ ((Value.ref l == Value.none) = true) from Bool.false_ne_true)]
  show wpAny _ _ (field (.ref it) 1 >>= _) _ _ s
  refine wpAny_bind (wpAny_field ho rfl (x := .int i 0) rfl ?_)
  show wpAny _ _ (seqItems? (.ref l) >>= _) _ _ s
  refine wpAny_bind (wpAny_seqItems hol rfl ?_)
  simp only [Int.toNat_natCast, hx]
  exact wpAny_bind (wpAny_setField ho rfl (by simp) (wpAny_pure ⟨x, rfl, hQ⟩))
theorem nextB_end_l {prog : Program} {w : World} {A : Around} {E : Value → Shared → Prop} {s : Shared} {it l : Addr} {i : Nat} {items : Array Value} {Q : Value → Shared → Prop} (hh : A.handled = none) (ho : s.heap.get? it = some (itO_l l i)) (hl : ∃ c, s.heap.get? l = some (sqO_l items c)) (hx : items[i]? = none)
    (hE : ∀ h' e, Heap.NewExc (s.heap.update it (Obj.mapFields (·.setIfInBounds 0 .none))) h' e "StopIteration" → E (.ref e) { s with heap := h' }) : wpAny (model prog w) A (Builtin.«list_iterator.__next__» ⟨[.ref it], []⟩) (fun fin s' => ∃ v, fin = .done (.ret v) ∧ Q v s') E s := by
  revert hh ho hl hx hE
  revert prog w A E s it l i items Q
  walk_at "10"; (iterate 4 (generalize zf w_ = i; generalize zs w_ = v_; clear w_; generalize zf v_ = i; generalize zs v_ = w_; clear v_)); generalize zf w_ = items, zs w_ = Q; clear w_; rename_i prog w A E s it l
  intro hh ho hl hx hE
  obtain ⟨c, hol⟩ := hl
  show wpAny _ _ (field (.ref it) 0 >>= _) _ _ s
  refine wpAny_bind (wpAny_field ho rfl (x := .ref l) rfl ?_)
  show wpAny _ _ (if (Value.ref l == Value.none) = true then _ else _) _ _ s
  rw [if_neg (show ¬ ((Value.ref l == Value.none) = true) from Bool.false_ne_true)]
  show wpAny _ _ (field (.ref it) 1 >>= _) _ _ s
  refine wpAny_bind (wpAny_field ho rfl (x := .int i 0) rfl ?_)
  show wpAny _ _ (seqItems? (.ref l) >>= _) _ _ s
  refine wpAny_bind (wpAny_seqItems hol rfl ?_)
  simp only [Int.toNat_natCast, hx]
  refine wpAny_bind (wpAny_rule (wpAny_bind (wpAny_setField ho rfl (by simp) ?_)))
  show wpAny _ _ (newExc (.type "StopIteration") [] >>= _) _ _ _
  refine wpAny_bind ?_
  simp only [newExc, newTuple]
  refine wpAny_bind (wpAny_newObj_type ?_ (by size_fits))
  refine wpAny_bind (m := firstArgMember _ _) (wpAny_of_eq (a := Value.none) (by first | rfl | (simp only [firstArgMember]; rfl)) ?_)
  refine wpAny_newObj_type ?_ (by size_fits)
  simp only [raiseNew]
  refine wpAny_bind (wpAny_handled ?_)
  rw [hh]
  refine wpAny_bind (wpAny_pure (wpAny_throw (hE _ _ ⟨fun b o q => Heap.get?_push_of_some _ (Heap.get?_push_of_some _ q), ?_, ⟨_, _, Heap.get?_push_size _ rfl, rfl, rfl⟩⟩)))
  cases q : Heap.get? (s.heap.update it (Obj.mapFields (·.setIfInBounds 0 .none))) (Heap.objs (Heap.push (s.heap.update it (Obj.mapFields (·.setIfInBounds 0 .none))) { cls := .type "tuple", data := .seq ([] : List Value).toArray })).size with
  | none => rfl
  | some o => exact absurd (Heap.lt_size q) (by rw [Heap.size_push]; exact Nat.not_lt.mpr (Nat.le_succ _))
section
variable {prog : Program} {w : World} {A : Around} {E : Value → Shared → Prop} {s : Shared} {h₀ : Heap} {L it l : Addr} {m : Str → Option Value} {news : List (Addr × Obj)} {g : Obj → List (Addr × Obj)} {i : Nat} {xs : List Int}
theorem iterB_l {Q : Value → Shared → Prop} (F : Fr h₀ L s.heap m) (N : News h₀ L s.heap news) (hx : IsL s.heap l xs)
    (h : ∀ I h', Fr h₀ L h' m → News h₀ L h' ((I, itO_l l 0) :: news) → (∀ p ∈ news, p.1 < I) → Q (.ref I) { s with heap := h' }) : wpAny (model prog w) A (call (.builtin "iter") [.ref l]) Q E s := by
  obtain ⟨vs, c, e, _⟩ := hx
  refine call_function_entry (by decide +kernel) (by decide +kernel) kdk_entry_iter (kdk_args_iter _) ?_
  unfold Builtin.«iter»
  refine wpAny_bind (m := someArgs "iter" 1 2 _) (wpAny_of_eq (a := [Value.ref l]) (by first | rfl | kernel_rfl!) ?_)
  show wpAny _ _ (pyIter (.ref l) >>= _) _ _ _
  refine wpAny_bind (wpAny_pyIter_list (items := vs.toArray) ⟨_, e, rfl, c, rfl⟩ ?_)
  exact wpAny_pure ⟨_, rfl, h _ _ (F.push _) (News.push F N _ rfl) (fun q hq => Heap.lt_size (N q hq).1)⟩
theorem nextF_item_l {Q : Value → Shared → Prop} (F : Fr h₀ L s.heap m) (N : News h₀ L s.heap news) (U : UpdF it (itO_l l i) news g) (hx : IsL s.heap l xs) (hi : i < xs.length)
    (h : ∀ h' t, Fr h₀ L h' m → News h₀ L h' (g (itO_l l (i + 1))) → Q (.int xs[i] t) { s with heap := h' }) : wpAny (model prog w) A (call (.builtin "next") [.ref it]) Q E s := by
  obtain ⟨vs, c, e, hI⟩ := hx
  obtain ⟨pre, post, rfl, hg, h1, h2⟩ := U.split
  have hm := N (it, itO_l l i) (List.mem_append_right _ (.head _))
  have hT : s.TypeIs (.ref it) "list_iterator" := ⟨_, hm.1, rfl⟩
  obtain ⟨t, ht⟩ := ints_at hI i hi
  refine call_function_entry (by decide +kernel) (by decide +kernel) kdk_entry_next (kdk_args_next _) ?_
  unfold Builtin.«next»
  refine wpAny_bind (m := someArgs "next" 1 2 _) (wpAny_of_eq (a := [Value.ref it]) (by first | rfl | kernel_rfl!) ?_)
  dsimp only
  refine wpAny_bind (wpAny_specialOf (name := Str.ofString "__next__") hT slot_listiter_next.lookup ?_)
  refine wpAny_ite_split (fun hab => absurd hab (by decide)) (fun _ => ?_)
  refine wpAny_bind (wpAny_callSpecial?_slot (name := Str.ofString "__next__") hT slot_listiter_next (wpAny_call_entry slot_listiter_next hT entry_listiter_next (nextB_item_l hm.1 ⟨c, e⟩ ht ?_) (args_listiter_next _)))
  obtain ⟨F', N'⟩ := news_upd (f := Obj.mapFields (·.setIfInBounds 1 (rawInt ((i : Int) + 1)))) (o' := itO_l l (i + 1)) F N h1 h2 (by simp [Obj.mapFields, rawInt]) rfl
  exact wpAny_pure ⟨_, rfl, h _ t F' (hg _ ▸ N')⟩
theorem nextF_end_l {Q : Value → Shared → Prop} (hh : A.handled = none) (F : Fr h₀ L s.heap m) (N : News h₀ L s.heap news) (U : UpdF it (itO_l l i) news g) (hx : IsL s.heap l xs) (hi : xs.length ≤ i)
    (h : ∀ h₁ h' o' e, Fr h₀ L h₁ m → News h₀ L h₁ (g o') → Heap.NewExc h₁ h' e "StopIteration" → E (.ref e) { s with heap := h' }) : wpAny (model prog w) A (call (.builtin "next") [.ref it]) Q E s := by
  obtain ⟨vs, c, e, hI⟩ := hx
  obtain ⟨pre, post, rfl, hg, h1, h2⟩ := U.split
  have hm := N (it, itO_l l i) (List.mem_append_right _ (.head _))
  have hT : s.TypeIs (.ref it) "list_iterator" := ⟨_, hm.1, rfl⟩
  refine call_function_entry (by decide +kernel) (by decide +kernel) kdk_entry_next (kdk_args_next _) ?_
  unfold Builtin.«next»
  refine wpAny_bind (m := someArgs "next" 1 2 _) (wpAny_of_eq (a := [Value.ref it]) (by first | rfl | kernel_rfl!) ?_)
  dsimp only
  refine wpAny_bind (wpAny_specialOf (name := Str.ofString "__next__") hT slot_listiter_next.lookup ?_)
  refine wpAny_ite_split (fun hab => absurd hab (by decide)) (fun _ => ?_)
  refine wpAny_bind (wpAny_callSpecial?_slot (name := Str.ofString "__next__") hT slot_listiter_next (wpAny_call_entry slot_listiter_next hT entry_listiter_next (nextB_end_l hh hm.1 ⟨c, e⟩ (ints_out hI hi) fun h' e hn => ?_) (args_listiter_next _)))
  obtain ⟨F', N'⟩ := news_upd (f := Obj.mapFields (·.setIfInBounds 0 .none)) (o' := { cls := .type "list_iterator", data := .fields #[.none, .int i 0] }) F N h1 h2 (by simp [Obj.mapFields]) rfl
  exact h _ _ _ e F' (hg _ ▸ N') hn
end
theorem nextB_item_t {prog : Program} {w : World} {A : Around} {E : Value → Shared → Prop} {s : Shared} {it l : Addr} {i : Nat} {items : Array Value} {x : Value} {Q : Value → Shared → Prop} (ho : s.heap.get? it = some (itO_t l i)) (hl : ∃ c, s.heap.get? l = some (sqO_t items c)) (hx : items[i]? = some x)
    (hQ : Q x { s with heap := s.heap.update it (Obj.mapFields (·.setIfInBounds 1 (rawInt ((i : Int) + 1)))) }) : wpAny (model prog w) A (Builtin.«tuple_iterator.__next__» ⟨[.ref it], []⟩) (fun fin s' => ∃ v, fin = .done (.ret v) ∧ Q v s') E s := by
  obtain ⟨c, hol⟩ := hl
  show wpAny _ _ (field (.ref it) 0 >>= _) _ _ s
  refine wpAny_bind (wpAny_field ho rfl (x := .ref l) rfl ?_)
  show wpAny _ _ (if (Value.ref l == Value.none) = true then _ else _) _ _ s
  rw [if_neg (show ¬ ((Value.ref l == Value.none) = true) from Bool.false_ne_true)]
  show wpAny _ _ (field (.ref it) 1 >>= _) _ _ s
  refine wpAny_bind (wpAny_field ho rfl (x := .int i 0) rfl ?_)
  show wpAny _ _ (seqItems? (.ref l) >>= _) _ _ s
  refine wpAny_bind (wpAny_seqItems hol rfl ?_)
  simp only [Int.toNat_natCast, hx]
  exact wpAny_bind (wpAny_setField ho rfl (by simp) (wpAny_pure ⟨x, rfl, hQ⟩))
theorem nextB_end_t {prog : Program} {w : World} {A : Around} {E : Value → Shared → Prop} {s : Shared} {it l : Addr} {i : Nat} {items : Array Value} {Q : Value → Shared → Prop} (hh : A.handled = none) (ho : s.heap.get? it = some (itO_t l i)) (hl : ∃ c, s.heap.get? l = some (sqO_t items c)) (hx : items[i]? = none)
    (hE : ∀ h' e, Heap.NewExc (s.heap.update it (Obj.mapFields (·.setIfInBounds 0 .none))) h' e "StopIteration" → E (.ref e) { s with heap := h' }) : wpAny (model prog w) A (Builtin.«tuple_iterator.__next__» ⟨[.ref it], []⟩) (fun fin s' => ∃ v, fin = .done (.ret v) ∧ Q v s') E s := by
  obtain ⟨c, hol⟩ := hl
  show wpAny _ _ (field (.ref it) 0 >>= _) _ _ s
  refine wpAny_bind (wpAny_field ho rfl (x := .ref l) rfl ?_)
  show wpAny _ _ (if (Value.ref l == Value.none) = true then _ else _) _ _ s
  rw [if_neg (show ¬ ((Value.ref l == Value.none) = true) from Bool.false_ne_true)]
  show wpAny _ _ (field (.ref it) 1 >>= _) _ _ s
  refine wpAny_bind (wpAny_field ho rfl (x := .int i 0) rfl ?_)
  show wpAny _ _ (seqItems? (.ref l) >>= _) _ _ s
  refine wpAny_bind (wpAny_seqItems hol rfl ?_)
  simp only [Int.toNat_natCast, hx]
  refine wpAny_bind (wpAny_rule (wpAny_bind (wpAny_setField ho rfl (by simp) ?_)))
  show wpAny _ _ (newExc (.type "StopIteration") [] >>= _) _ _ _
  refine wpAny_bind ?_
  simp only [newExc, newTuple]
  refine wpAny_bind (wpAny_newObj_type ?_ (by size_fits))
  refine wpAny_bind (m := firstArgMember _ _) (wpAny_of_eq (a := Value.none) (by first | rfl | (simp only [firstArgMember]; rfl)) ?_)
  refine wpAny_newObj_type ?_ (by size_fits)
  simp only [raiseNew]
  refine wpAny_bind (wpAny_handled ?_)
  rw [hh]
  refine wpAny_bind (wpAny_pure (wpAny_throw (hE _ _ ⟨fun b o q => Heap.get?_push_of_some _ (Heap.get?_push_of_some _ q), ?_, ⟨_, _, Heap.get?_push_size _ rfl, rfl, rfl⟩⟩)))
  cases q : Heap.get? (s.heap.update it (Obj.mapFields (·.setIfInBounds 0 .none))) (Heap.objs (Heap.push (s.heap.update it (Obj.mapFields (·.setIfInBounds 0 .none))) { cls := .type "tuple", data := .seq ([] : List Value).toArray })).size with
  | none => rfl
  | some o => exact absurd (Heap.lt_size q) (by rw [Heap.size_push]; exact Nat.not_lt.mpr (Nat.le_succ _))
section
variable {prog : Program} {w : World} {A : Around} {E : Value → Shared → Prop} {s : Shared} {h₀ : Heap} {L it l : Addr} {m : Str → Option Value} {news : List (Addr × Obj)} {g : Obj → List (Addr × Obj)} {i : Nat} {xs : List Int}
theorem iterB_t {Q : Value → Shared → Prop} (F : Fr h₀ L s.heap m) (N : News h₀ L s.heap news) (hx : IsT s.heap l xs)
    (h : ∀ I h', Fr h₀ L h' m → News h₀ L h' ((I, itO_t l 0) :: news) → (∀ p ∈ news, p.1 < I) → Q (.ref I) { s with heap := h' }) : wpAny (model prog w) A (call (.builtin "iter") [.ref l]) Q E s := by
  obtain ⟨vs, c, e, _⟩ := hx
  refine call_function_entry (by decide +kernel) (by decide +kernel) kdk_entry_iter (kdk_args_iter _) ?_
  unfold Builtin.«iter»
  refine wpAny_bind (m := someArgs "iter" 1 2 _) (wpAny_of_eq (a := [Value.ref l]) (by first | rfl | kernel_rfl!) ?_)
  show wpAny _ _ (pyIter (.ref l) >>= _) _ _ _
  refine wpAny_bind (wpAny_pyIter_tuple (items := vs.toArray) ⟨_, e, rfl, c, rfl⟩ ?_)
  exact wpAny_pure ⟨_, rfl, h _ _ (F.push _) (News.push F N _ rfl) (fun q hq => Heap.lt_size (N q hq).1)⟩
theorem nextF_item_t {Q : Value → Shared → Prop} (F : Fr h₀ L s.heap m) (N : News h₀ L s.heap news) (U : UpdF it (itO_t l i) news g) (hx : IsT s.heap l xs) (hi : i < xs.length)
    (h : ∀ h' t, Fr h₀ L h' m → News h₀ L h' (g (itO_t l (i + 1))) → Q (.int xs[i] t) { s with heap := h' }) : wpAny (model prog w) A (call (.builtin "next") [.ref it]) Q E s := by
  obtain ⟨vs, c, e, hI⟩ := hx
  obtain ⟨pre, post, rfl, hg, h1, h2⟩ := U.split
  have hm := N (it, itO_t l i) (List.mem_append_right _ (.head _))
  have hT : s.TypeIs (.ref it) "tuple_iterator" := ⟨_, hm.1, rfl⟩
  obtain ⟨t, ht⟩ := ints_at hI i hi
  refine call_function_entry (by decide +kernel) (by decide +kernel) kdk_entry_next (kdk_args_next _) ?_
  unfold Builtin.«next»
  refine wpAny_bind (m := someArgs "next" 1 2 _) (wpAny_of_eq (a := [Value.ref it]) (by first | rfl | kernel_rfl!) ?_)
  dsimp only
  refine wpAny_bind (wpAny_specialOf (name := Str.ofString "__next__") hT PySem.F.slot_tuple_iterator_next.lookup ?_)
  refine wpAny_ite_split (fun hab => absurd hab (by decide)) (fun _ => ?_)
  refine wpAny_bind (wpAny_callSpecial?_slot (name := Str.ofString "__next__") hT PySem.F.slot_tuple_iterator_next (wpAny_call_entry PySem.F.slot_tuple_iterator_next hT PySem.F.entry_tuple_iterator_next (nextB_item_t hm.1 ⟨c, e⟩ ht ?_) (PySem.F.args_tuple_iterator_next_1 _)))
  obtain ⟨F', N'⟩ := news_upd (f := Obj.mapFields (·.setIfInBounds 1 (rawInt ((i : Int) + 1)))) (o' := itO_t l (i + 1)) F N h1 h2 (by simp [Obj.mapFields, rawInt]) rfl
  exact wpAny_pure ⟨_, rfl, h _ t F' (hg _ ▸ N')⟩
theorem nextF_end_t {Q : Value → Shared → Prop} (hh : A.handled = none) (F : Fr h₀ L s.heap m) (N : News h₀ L s.heap news) (U : UpdF it (itO_t l i) news g) (hx : IsT s.heap l xs) (hi : xs.length ≤ i)
    (h : ∀ h₁ h' o' e, Fr h₀ L h₁ m → News h₀ L h₁ (g o') → Heap.NewExc h₁ h' e "StopIteration" → E (.ref e) { s with heap := h' }) : wpAny (model prog w) A (call (.builtin "next") [.ref it]) Q E s := by
  obtain ⟨vs, c, e, hI⟩ := hx
  obtain ⟨pre, post, rfl, hg, h1, h2⟩ := U.split
  have hm := N (it, itO_t l i) (List.mem_append_right _ (.head _))
  have hT : s.TypeIs (.ref it) "tuple_iterator" := ⟨_, hm.1, rfl⟩
  refine call_function_entry (by decide +kernel) (by decide +kernel) kdk_entry_next (kdk_args_next _) ?_
  unfold Builtin.«next»
  refine wpAny_bind (m := someArgs "next" 1 2 _) (wpAny_of_eq (a := [Value.ref it]) (by first | rfl | kernel_rfl!) ?_)
  dsimp only
  refine wpAny_bind (wpAny_specialOf (name := Str.ofString "__next__") hT PySem.F.slot_tuple_iterator_next.lookup ?_)
  refine wpAny_ite_split (fun hab => absurd hab (by decide)) (fun _ => ?_)
  refine wpAny_bind (wpAny_callSpecial?_slot (name := Str.ofString "__next__") hT PySem.F.slot_tuple_iterator_next (wpAny_call_entry PySem.F.slot_tuple_iterator_next hT PySem.F.entry_tuple_iterator_next (nextB_end_t hh hm.1 ⟨c, e⟩ (ints_out hI hi) fun h' e hn => ?_) (PySem.F.args_tuple_iterator_next_1 _)))
  obtain ⟨F', N'⟩ := news_upd (f := Obj.mapFields (·.setIfInBounds 0 .none)) (o' := { cls := .type "tuple_iterator", data := .fields #[.none, .int i 0] }) F N h1 h2 (by simp [Obj.mapFields]) rfl
  exact h _ _ _ e F' (hg _ ▸ N') hn
end
end
section
open PySem PySem.W PyProof.Rows
noncomputable def itO (b : Bool) (l : Addr) (i : Nat) : Obj := { cls := .type (cond b "tuple_iterator" "list_iterator"), data := .fields #[.ref l, .int i 0] }
noncomputable def IsQ (b : Bool) (h : Heap) (a : Addr) (xs : List Int) : Prop := ∃ vs c, h.get? a = some ({ cls := .type (cond b "tuple" "list"), data := .seq vs.toArray c } : Obj) ∧ IntsAre vs xs
theorem IsQ.l {h : Heap} {a : Addr} {xs : List Int} (x : IsQ false h a xs) : IsL h a xs := x
theorem IsQ.t {h : Heap} {a : Addr} {xs : List Int} (x : IsQ true h a xs) : IsT h a xs := x
theorem IsQ.fr {b : Bool} {g h : Heap} {L a : Addr} {m : Str → Option Value} {xs : List Int} (F : Fr g L h m) (x : IsQ b g a xs) : IsQ b h a xs := let ⟨vs, c, e, i⟩ := x; ⟨vs, c, F.keep _ _ e, i⟩
theorem IsQ.fr2 {b : Bool} {g h k : Heap} {L K a : Addr} {m n : Str → Option Value} {xs : List Int} (F : Fr g L h m) (G : Fr k K g n) (x : IsQ b k a xs) : IsQ b h a xs := (x.fr G).fr F
theorem IsQ.mv {b : Bool} {g h : Heap} {a : Addr} {xs : List Int} (x : IsQ b g a xs) (k : ∀ o, g.get? a = some o → (∀ es n, o.data ≠ .dict es n) → (o.cls = .type "list" ∨ o.cls = .type "tuple") → h.get? a = some o) : IsQ b h a xs := by
  obtain ⟨vs, c, e, i⟩ := x
  exact ⟨vs, c, k _ e (fun _ _ z => nomatch z) (by cases b <;> simp), i⟩
section
variable {prog : Program} {w : World} {A : Around} {E : Value → Shared → Prop} {s : Shared} {h₀ : Heap} {L it l : Addr} {m : Str → Option Value} {news : List (Addr × Obj)} {g : Obj → List (Addr × Obj)} {i : Nat} {xs : List Int} {b : Bool}
theorem nextF_item {Q : Value → Shared → Prop} (F : Fr h₀ L s.heap m) (N : News h₀ L s.heap news) (U : UpdF it (itO b l i) news g) (hx : IsQ b s.heap l xs) (hi : i < xs.length)
    (h : ∀ h' t, Fr h₀ L h' m → News h₀ L h' (g (itO b l (i + 1))) → Q (.int xs[i] t) { s with heap := h' }) : wpAny (model prog w) A (call (.builtin "next") [.ref it]) Q E s := by
  cases b
  · exact nextF_item_l F N U hx.l hi h
  · exact nextF_item_t F N U hx.t hi h
theorem nextF_end {Q : Value → Shared → Prop} (hh : A.handled = none) (F : Fr h₀ L s.heap m) (N : News h₀ L s.heap news) (U : UpdF it (itO b l i) news g) (hx : IsQ b s.heap l xs) (hi : xs.length ≤ i)
    (h : ∀ h₁ h' o' e, Fr h₀ L h₁ m → News h₀ L h₁ (g o') → Heap.NewExc h₁ h' e "StopIteration" → E (.ref e) { s with heap := h' }) : wpAny (model prog w) A (call (.builtin "next") [.ref it]) Q E s := by
  cases b
  · exact nextF_end_l hh F N U hx.l hi h
  · exact nextF_end_t hh F N U hx.t hi h
theorem iterB {Q : Value → Shared → Prop} (F : Fr h₀ L s.heap m) (N : News h₀ L s.heap news) (hx : IsQ b s.heap l xs)
    (h : ∀ I h', Fr h₀ L h' m → News h₀ L h' ((I, itO b l 0) :: news) → (∀ p ∈ news, p.1 < I) → Q (.ref I) { s with heap := h' }) : wpAny (model prog w) A (call (.builtin "iter") [.ref l]) Q E s := by
  cases b
  · exact iterB_l F N hx.l h
  · exact iterB_t F N hx.t h
end
end
section
section
variable {prog : Program} {w : World} {A : Around} {E : Value → Shared → Prop} {s : Shared} {q l : Addr} {xs : List Int} {k : Int} {t : Tok}
theorem ints_any {vs : List Value} {xs : List Int} (h : IntsAre vs xs) (k : Int) : (vs.any (eqI k)) = decide (k ∈ xs) := by
  induction h with
  | nil => rfl
  | cons n t r ih =>
    simp only [List.any_cons, ih, eqI]
    by_cases hn : n = k
    · simp [hn]
    · have hn' : ¬ k = n := fun q => hn q.symm
      simp [hn, hn']
theorem call_mwc {Q : Value → Shared → Prop} (hq : s.heap.get? q = some (mwO "list.__contains__" (.ref l))) (hx : IsL s.heap l xs) (h : Q (.bool (decide (k ∈ xs))) s) : wpAny (model prog w) A (call (.ref q) [.int k t]) Q E s := by
  obtain ⟨vs, c, e, hI⟩ := hx
  refine wpAny_call (codeAny_of_tree ?_)
  show wpAny _ _ (callAny (.ref q) ⟨[.int k t], []⟩) _ _ _
  have hc : checkBoundCall "list.__contains__" ⟨[.ref l, .int k t], []⟩ = pure () := by kernel_rfl
  unfold callAny
  refine wpAny_bind (wpAny_load hq ?_)
  dsimp only
  rw [if_pos (by decide)]
  show wpAny _ _ (if (Value.type "method-wrapper" != Value.type "method") = true then _ else _) _ _ _
  rw [if_pos (by decide)]
  refine wpAny_bind (wpAny_of_eq hc ?_)
  refine wpAny_bind (wpAny_pure (wpAny_pure ⟨plainId_quiet (by decide +kernel) _, codeAny_builtin PySem.F.entry_list_contains ?_⟩))
  rw [Around.under_plainId (by decide +kernel) _]
  refine list_contains l vs.toArray c (.int k t) (eqI k) (ints_gives hI k t) prog w _ _ _ ⟨e, ?_⟩
  simp only [List.any_toArray, ints_any hI k]
  exact h
end
end
section
section
variable {prog : Program} {w : World} {A : Around} {s : Shared} {env : Env} {Q : Flow → Shared → Prop} {E : Value → Shared → Prop}
theorem while_ruleE {test : Expr} {body orelse : List Stmt} {pos : Pos} (I : Nat → Shared → Prop)
    (turn : ∀ n s, I n s →
      wpAny (model prog w) A (isTrue test env (eval test env)) (fun b s₂ =>
        if b = true then wpAny (model prog w) A (execs body env) (fun f s₃ => match f with
            | .next => Again I n s₃
            | .cont => Again I n s₃
            | .brk => Q .next s₃
            | .ret v => Q (.ret v) s₃) E s₂
        else wpAny (model prog w) A (execs orelse env) Q E s₂)
        E s)
    (n : Nat) (h : I n s) (hE : PassesOwn (model prog w) A env E := by passes_own) : wpAny (model prog w) A (exec (.While test body orelse pos) env) Q E s := by
  refine wpAny_While (codeAny_whileLoop I (fun n s hI => ?_) n h)
  refine wpAny_mono (turn n s hI) (fun b s₂ h₂ => ?_) hE
  cases b with
  | true =>
    simp only [if_true] at h₂ ⊢
    refine wpAny_mono h₂ (fun f s₃ h₃ => ?_) hE
    cases f <;> exact h₃
  | false =>
    simp only [Bool.false_eq_true, if_false] at h₂ ⊢
    exact wpAny_mono h₂ (fun f s₃ h₃ => h₃) hE
end
section
variable {M : Model} {A : Around} {E : Value → Shared → Prop} {s : Shared} {env : Env} {pos : Pos} {first : List Value} {Q : Value → Shared → Prop} {u : Addr} {id : String} {self : Value}
theorem callWith_mwF {args : List (Bool × Sem Value)} (hplain : args.any (·.1) = false)
    (h : wpAny M A (evalArgs (.ref u) true args []) (fun x s₁ => s₁.heap.get? u = some (mwO id self) ∧ wpAny M A (call (.ref u) (first ++ x.pos) x.kw) Q E s₁) E s) : wpAny M A (callWith pos (.ref u) first args []) Q E s := by
  unfold callWith
  refine wpAny_bind (wpAny_holding (wpAny_mono h (fun x s₁ h₁ => wpAny_bind (wpAny_standAt ?_)) fun _ _ x => x))
  obtain ⟨ho, hcall⟩ := h₁
  simp only [hplain, List.any_nil, Bool.or_false]
  refine wpAny_bind (m := keeperOf (.ref u)) ?_
  unfold keeperOf
  refine wpAny_bind (wpAny_load ho ?_)
  simp only [mwO, show (Value.type "method-wrapper" != Value.type "method") = true by decide, show (Value.type "method-wrapper" == Value.type "builtin_function_or_method" || Value.type "method-wrapper" == Value.type "method-wrapper") = true by decide, if_true]
  refine wpAny_pure ?_
  exact wpAny_bind (wpAny_mono hcall (fun r s₂ hr => wpAny_bind (wpAny_holding (wpAny_point (wpAny_pure hr)))) fun _ _ x => x)
theorem callWith_mw {e : Expr} {rest : List Expr}
    (h : wpAny M A (spliced (backTo pos (starEach (e :: rest) env))) (fun vs s₁ => s₁.heap.get? u = some (mwO id self) ∧ wpAny M A (call (.ref u) (first ++ vs)) Q E s₁) E s)
    (he : starEach (e :: rest) env = (false, eval e env) :: starEach rest env := by rfl) (hplain : (backTo pos (starEach rest env)).any (·.1) = false := by rfl) :
    wpAny M A (callWith pos (.ref u) first (backTo pos (starEach (e :: rest) env)) []) Q E s := by
  rw [he] at h ⊢
  refine callWith_mwF (id := id) (self := self) (by show (false || (backTo pos (starEach rest env)).any (·.1)) = false; rw [hplain]; rfl) ?_
  exact evalArgs_plain h
theorem callWith_mw0 (hq : s.heap.get? u = some (mwO id self)) (h : wpAny M A (call (.ref u) (first ++ [])) Q E s) : wpAny M A (callWith pos (.ref u) first (backTo pos (starEach [] env)) []) Q E s :=
  callWith_mwF rfl (evalArgs_nil3 ⟨hq, h⟩)
end
theorem not_led {g h : Heap} {L b : Addr} {o : Obj} {led : List (Addr × Obj)} (N : News g L h led) (e : h.get? b = some o) (hne : ∀ p ∈ led, p.2.cls ≠ o.cls) : b ∉ led.map (·.1) := fun q => by
  obtain ⟨p, hp, rfl⟩ := List.mem_map.mp q
  rw [(N p hp).1] at e
  exact hne p hp (congrArg Obj.cls (Option.some.inj e))
noncomputable abbrev ffO (dx q it : Addr) : Obj := { cls := .ref 68, dict := some dx, data := .plain, slots := #[some (.ref q), some (.ref it)] }
section
local macro_rules | `(tactic| walk_at $s) => zd ["exec While Constant cons nil", "call builtin:next"] [] s
end
section
local macro_rules | `(tactic| walk_at $s) => zd ["exec While Constant cons nil", "call builtin:next"] [] s
end
end
section
section
local macro_rules | `(tactic| walk_at $s) => zd ["exec While Constant cons nil", "call builtin:next"] [] s
theorem next_q (b : Bool) (w : World) {mean : ExcName → Option Value} {mg mb : Str → Option Value} {dp un : Nat} {gd : Option (List Code)} {cn : Str} {cs : Scope} {a : Addr} {ccd : Value} {cl : List (Str × Addr)} {outer : List Env} {A₀ : Around} {base h₀ : Heap} {L : Addr}
    {m : Str → Option Value} {s : Shared} {Q E : Value → Shared → Prop} {x dx q it l sk : Addr} {xs ys : List Int} {i : Nat}
    (M : Am w mean mg mb A₀ base outer h₀) (F : Fr h₀ L s.heap m) (N : News h₀ L s.heap [(it, itO b l i), (x, ffO dx q it), (dx, dictOf [] 0)]) (hxi : x ≠ it) (hdi : dx ≠ it) (hk : cs.kind = .function) (hdp : dp + 10 < recursionLimit) (hun : un + 10 < cLine)
    (hq : s.heap.get? q = some (mwO "list.__contains__" (.ref sk))) (ix : IsQ b s.heap l xs) (iy : IsL s.heap sk ys)
    (hQ : ∀ j t h' tk' (hj : j < xs.length), i ≤ j → (∀ k, i ≤ k → k < j → xs.getD k 0 ∈ ys) → xs[j] ∉ ys → Ev [it, x, dx] (L :: fsOf outer) s.heap h' → (∀ p ∈ [(it, itO b l (j + 1)), (x, ffO dx q it), (dx, dictOf [] 0)], h'.get? p.1 = some p.2) → Q (.int xs[j] t) { s with heap := h', toks := tk' })
    (hE : ∀ e h' tk', (∀ k, i ≤ k → k < xs.length → xs.getD k 0 ∈ ys) → Ev [it, x, dx] (L :: fsOf outer) s.heap h' → (∃ ob, h'.get? e = some ob ∧ ob.cls = .type "StopIteration") → E (.ref e) { s with heap := h', toks := tk' }) :
    wpAny (model PG w) (ktrTop dp un gd cn cs L a ccd cl outer) (call (.ref 64) [.ref x]) Q E s := by
  revert M F N hxi hdi hk hdp hun hq ix iy hQ hE
  revert b w mean mg mb dp un gd cn cs a ccd cl outer A₀ base h₀ L m s Q E x dx q it l sk xs ys i
  walk_at "16"; (iterate 7 (generalize zf w_ = outer; generalize zs w_ = v_; clear w_; generalize zf v_ = outer; generalize zs v_ = w_; clear v_)); generalize zf w_ = A₀, zs w_ = base; clear w_; rename_i b w mean mg mb dp un gd cn cs a ccd cl
  walk_at "15"; (iterate 6 (generalize zf w_ = xs; generalize zs w_ = v_; clear w_; generalize zf v_ = xs; generalize zs v_ = w_; clear v_)); generalize zf w_ = xs; generalize zs w_ = v_; clear w_; generalize zf v_ = ys, zs v_ = i; clear v_; rename_i h₀ L m s Q E x dx q it l sk
  intro M F N hxi hdi hk hdp hun hq ix iy hQ hE
  have X := M.X
  (refine wpAny_call ?_; k_dflt (refine' enterX ?k1 ?k2 ?k4 ?kK ?k6 ?k7 ?k8 ?k9 ?kB ?_ ?c2 ?c3 ?c4 ?c5; (case kK => assumption); (case k1 => assumption); (case k2 => assumption); (case k4 => assumption); (case k6 => k_is); (case k7 => k_is); (case k8 => omega); (case k9 => first | exact BindsTo.of_eq rfl | exact binds_K (by k_in) rfl (by k_is) rfl rfl rfl); (case c5 => decide); (case kB => exact locs rfl); (case c2 => exact rfl); (case c3 => exact rfl); (case c4 => exact rfl); k_whole))
  walk_at "3"; generalize zf w_ = g, zf (zs w_) = L', zs (zs w_) = h₁
  intro sg gs eL lt F' N' M'
  (try dsimp only)
  have B' := M'.B
  have X' := M'.X
  have T' := M'.T
  k_lt lt
  k_steps
  refine Blk.out ?_
  have gl : IsQ b g l xs := ix.mv fun o e _ hc => sg _ _ (not_led N e (by rcases hc with hc | hc <;> (rw [hc]; cases b <;> simp [itO, dictOf]))) e
  have gy : IsL g sk ys := by
    obtain ⟨vs, c, e, hI⟩ := iy
    exact ⟨vs, c, sg _ _ (not_led N e (by cases b <;> simp [itO, dictOf, W.listOf])) e, hI⟩
  have gq : g.get? q = some (mwO "list.__contains__" (.ref sk)) := sg _ _ (not_led N hq (by cases b <;> simp [itO, dictOf, mwO])) hq
  obtain ⟨Iv1, hIv1⟩ : ∃ Iv1 : Nat → Shared → Prop, Iv1 = fun n s' => ∀ G_ : Prop, (∀ k h tk m', (s' = { s with heap := h, toks := tk }) → (m' (Str.ofString "self") = some (.ref x)) → (m' (Str.ofString "func") = some (.ref q)) → (Fr g L' h m') → (News g L' h [(it, itO b l k), (x, ffO dx q it), (dx, dictOf [] 0)]) → (n = xs.length - k) → (i ≤ k) → ((∀ j, i ≤ j → j < k → xs.getD j 0 ∈ ys)) → G_) → G_ := ⟨_, rfl⟩
  refine while_ruleE Iv1 ?_ (xs.length - i) ?_
  · intro n s' hI1_; (first | rw [hIv1] at hI1_ | skip); refine hI1_ _ ?_; clear hI1_; intro k h tk m' e2_ m1 m2 F2 N2 e3_ hik hall; subst e2_; subst e3_
    have F3 := frk F2 _ (kn1 m1 (kn1 m2 kn0))
    clear F2
    k_sweep
    k_steps
    refine Blk.out ?_
    by_cases hkl : k < xs.length
    · refine' nextF_item ?F ?N ?U (gl.fr ?F) hkl ?_
      (case F => assumption)
      (case N => assumption)
      (case U => k_updF)
      intro h' t F5 N5
      dsimp only at N5 ⊢
      k_sweep
      k_steps
      refine callWith_mw (id := "list.__contains__") (self := .ref sk) ?_
      k_steps
      rename Fr g L' _ _ => F6
      rename News g L' _ _ => N6
      refine call_mwc (F6.keep _ _ gq) (gy.fr F6) ?_
      by_cases hin : xs[k] ∈ ys
      · simp only [hin, decide_true]
        k_steps
        refine ⟨xs.length - (k + 1), by omega, ?_⟩
        first | rw [hIv2] | rw [hIv1]
        refine (fun _ k_ => k_ (k + 1) _ _ _ rfl rfl rfl (by assumption) (by assumption) rfl (by omega) (fun j a b => ?_))
        rcases Nat.lt_or_eq_of_le (Nat.le_of_lt_succ b) with b | rfl
        · exact hall j a b
        · rw [List.getD_eq_getElem?_getD, List.getElem?_eq_getElem hkl]; exact hin
      · simp only [hin, decide_false]
        k_steps
        obtain ⟨EV, hl⟩ := exitX M F N sg gs KtsTurn.refl F6 N6
        exact hQ k t _ _ hkl hik hall hin EV (fun p hp => (hl p hp).1)
    · refine' nextF_end rfl ?F ?N ?U (gl.fr ?F) (Nat.le_of_not_lt hkl) ?_
      (case F => assumption)
      (case N => assumption)
      (case U => k_updF)
      intro h₂ h' o' e F5 N5 hn
      dsimp only
      refine leave_new (X := "StopIteration") (outer := envX cn cs L a ccd cl :: outer) M' F5 rfl rfl hn ?_
      intro h'' EV ho
      obtain ⟨EV₂, hl⟩ := exitX M F N sg gs KtsTurn.refl F5 N5
      refine hE e _ _ (fun j a b => hall j a (by omega)) ⟨fun b o n1 n2 q => ?_, fun b o hb q => ?_⟩ ho
      · have q2 := EV₂.1 b o n1 n2 q
        refine EV.1 b o (fun z => nomatch z) (fun z => ?_) q2
        rcases List.mem_cons.mp z with rfl | z
        · exact absurd (Heap.lt_size q) (by rw [eL]; exact Nat.lt_irrefl _)
        · exact n2 z
      · obtain ⟨sl, q2⟩ := EV₂.2 b o hb q
        obtain ⟨sl', q3⟩ := EV.2 b _ (List.mem_cons_of_mem _ hb) q2
        exact ⟨sl', q3⟩
  · rw [hIv1]
    exact (fun _ k_ => k_ i _ _ _ rfl rfl rfl (by assumption) (by assumption) rfl (Nat.le_refl _) (fun j a b => absurd b (Nat.not_lt.mpr a)))
end
section
local macro_rules | `(tactic| walk_at $s) => zd ["exec While Constant cons nil", "call builtin:next"] [] s
end
end
section
theorem con_iter (w : World) {h : Heap} {x : Addr} : Con w 57 10 [] [.ref x] (fun v h' => v = .ref x ∧ ∀ b o, h.get? b = some o → h'.get? b = some o) h := by
  intro mean mg mb dp un gd cn cs a ccd cl outer A₀ base h₀ L m s Q E hh B F X N T hk hdp hun hret
  subst hh
  (refine wpAny_call ?_; k_dflt (refine' enterP ?k1 ?k2 ?k3 ?k4 ?k5 ?kA ?kF ?kK ?k6 ?k7 ?k8 ?k9 ?kB ?_ ?c2 ?c3 ?c4 ?c5; (case kA => exact rfl); (case kF => exact rfl); (case kK => assumption); (case k1 => assumption); (case k2 => assumption); (case k3 => assumption); (case k4 => assumption); (case k5 => assumption); (case k6 => k_is); (case k7 => k_is); (case k8 => (dsimp only [ktrTop]; omega)); (case k9 => first | exact BindsTo.of_eq rfl | exact binds_K (by k_in) rfl (by k_is) rfl rfl rfl); (case c5 => decide); (case kB => exact locs rfl); (case c2 => exact rfl); (case c3 => exact rfl); (case c4 => exact rfl); k_whole))
  intro g L' h₁ sg gs eL lt F' N' B' X' T'
  (try dsimp only)
  refine wpAny_noRaise ?_
  k_steps
  rename Fr g L' _ _ => F6
  exact hret _ _ _ ⟨rfl, fun b o e => F6.keep _ _ (sg b o (fun q => nomatch q) e)⟩
theorem not_fr {w : World} {mean : ExcName → Option Value} {mg mb : Str → Option Value} {A₀ : Around} {base : Heap} {outer : List Env} {g h : Heap} {L b : Addr} {m : Str → Option Value} {o : Obj}
    (M : Am w mean mg mb A₀ base outer g) (F : Fr g L h m) (e : h.get? b = some o) (hd : ∀ es n, o.data ≠ .dict es n) : b ∉ L :: fsOf outer := fun q => by
  rcases List.mem_cons.mp q with rfl | q
  · obtain ⟨oL, es, ep, eL, d, _⟩ := F.ns
    rw [e] at eL; cases eL; exact hd _ _ d
  · obtain ⟨_, o', es, n, e', d⟩ := M.live q
    rw [F.keep _ _ e'] at e; cases e; exact hd _ _ d
end
section
theorem ff_loop_q (bq : Bool) (w : World) {mean : ExcName → Option Value} {mg mb : Str → Option Value} {dp un : Nat} {gd : Option (List Code)} {cn : Str} {cs : Scope} {a : Addr} {ccd : Value} {cl : List (Str × Addr)} {outer : List Env} {A₀ : Around} {base h₀ : Heap} {L : Addr}
    {m : Str → Option Value} {s : Shared} {R : Result → Shared → Prop} {S x dx q it l sk : Addr} {xs ys : List Int} {o1 o2 o3 o4 : Obj}
    (M : Am w mean mg mb A₀ base outer h₀) (F : Fr h₀ L s.heap m) (N : News h₀ L s.heap [(S, o1), (it, o2), (x, o3), (dx, o4)]) (nd : [S, it, x, dx].Nodup) (hk : cs.kind = .function) (hdp : dp + 10 < recursionLimit) (hun : un + 20 < cLine)
    (hq : s.heap.get? q = some (mwO "list.__contains__" (.ref sk))) (ix : IsQ bq s.heap l xs) (iy : IsL s.heap sk ys) (no : ∀ b ∈ [q, l, sk], b ∉ [S, it, x, dx]) (hlen : xs.length ≤ 1000)
    (hR : ∀ h' tk' vs c, IntsAre vs (xs.filter fun k => decide (k ∉ ys)) → Ev [S, it, x, dx] (L :: fsOf outer) s.heap h' → h'.get? S = some (W.listOf vs.toArray c) → R (.ok (.ret .none)) { s with heap := h', toks := tk' }) :
    ∀ (n i : Nat) (h : Heap) (tk : Nat) (vs : List Value) (c : Nat), n = xs.length - i → i ≤ xs.length → IntsAre vs ((xs.take i).filter fun k => decide (k ∉ ys)) → Ev [S, it, x, dx] (L :: fsOf outer) s.heap h →
      (∀ p ∈ [(S, W.listOf vs.toArray c), (it, itO bq l i), (x, ffO dx q it), (dx, dictOf [] 0)], h.get? p.1 = some p.2) →
      codeAny (model PG w) (ktrTop dp un gd cn cs L a ccd cl outer) (.builtin "list.extend.loop" ⟨[.ref S, .ref x, .none], []⟩) R { s with heap := h, toks := tk } := by
  have nfq := not_fr M F hq (by simp [mwO])
  have nfl : l ∉ L :: fsOf outer := by obtain ⟨_, _, e, _⟩ := ix; exact not_fr M F e (fun _ _ z => nomatch z)
  have nfs : sk ∉ L :: fsOf outer := by obtain ⟨_, _, e, _⟩ := iy; exact not_fr M F e (by simp [W.listOf])
  simp only [List.nodup_cons, List.mem_cons, List.not_mem_nil, or_false, not_or, List.nodup_nil, and_true, not_false_eq_true] at nd
  obtain ⟨⟨nSi, nSx, nSd⟩, ⟨nix, nid⟩, nxd⟩ := nd
  have hN : ∀ b ∈ [S, it, x, dx], b ≠ L ∧ h₀.get? b = none := fun b q => by
    obtain ⟨p, hp, rfl⟩ := List.mem_map.mp (show b ∈ [(S, o1), (it, o2), (x, o3), (dx, o4)].map (·.1) from q)
    exact (N p hp).2
  intro n
  induction n using Nat.strongRecOn with
  | ind n ih =>
  intro i h tk vs c en hi hv EV ent
  obtain ⟨g, t, M', F', nn⟩ := M.turn F EV (fun b q => (hN b q).2) (fun q => (hN _ q).1 rfl)
  have N' : News g L h [(S, W.listOf vs.toArray c), (it, itO bq l i), (x, ffO dx q it), (dx, dictOf [] 0)] := fun p hp => ⟨ent p hp, by
      have : p.1 ∈ [S, it, x, dx] := List.mem_map_of_mem (f := Prod.fst) hp
      exact ⟨(hN _ this).1, (nn _).mpr (hN _ this).2⟩⟩
  have hS : h.get? S = some (W.listOf vs.toArray c) := (N' (_, _) (.head _)).1
  have hX : h.get? x = some (ffO dx q it) := (N' (x, _) (.tail _ (.tail _ (.head _)))).1
  have hD : h.get? dx = some (dictOf [] 0) := (N' (dx, _) (.tail _ (.tail _ (.tail _ (.head _))))).1
  have I : InstAt h x (ffO dx q it) 68 (some (dictOf [] 0)) := ⟨hX, rfl, rfl, hD⟩
  have X := M'.X
  refine codeAny_builtin PySem.F.entry_extend_loop ?_
  rw [Around.under_plainId PySem.F.plain_extend_loop _]
  show wpAny _ (ktrTop dp (un + 1) gd cn cs L a ccd cl outer) (pyNext (.ref x) >>= _) _ _ _
  refine wpAny_bind (owit_next (s := { s with heap := h, toks := tk }) (f := 64) F' X I (by k_is) (by k_is) ?_)
  refine next_q bq w (s := { s with heap := h, toks := tk }) (i := i) (it := it) (l := l) (q := q) (dx := dx) (sk := sk) (xs := xs) (ys := ys) M' F' (News.sub N' (fun p hp => List.mem_cons_of_mem _ hp)) (fun z => nix z.symm) (fun z => nid z.symm) hk hdp (by omega)
    (EV.1 _ _ (no q (by simp)) nfq hq) ?_ ?_ ?_ ?_
  · obtain ⟨us, c', e, z⟩ := ix
    exact ⟨us, c', EV.1 _ _ (no l (by simp)) nfl e, z⟩
  · obtain ⟨us, c', e, z⟩ := iy
    exact ⟨us, c', EV.1 _ _ (no sk (by simp)) nfs e, z⟩
  · intro j t h' tk' hj hij hall hnot EV2 ent2
    have nfS : S ∉ L :: fsOf outer := not_fr M' F' hS (by simp [W.listOf])
    have hS' : h'.get? S = some (W.listOf vs.toArray c) := EV2.1 _ _ (by simp [nSi, nSx, nSd]) nfS hS
    have hlv := hv.length
    have hle : ((xs.take i).filter fun k => decide (k ∉ ys)).length ≤ 1000 := Nat.le_trans (List.length_filter_le _ _) (by rw [List.length_take]; omega)
    show wpAny _ _ (updateSeq S (·.push (Value.int xs[j] t)) >>= _) _ _ _
    refine wpAny_bind (wpAny_updateSeq (s := { s with heap := h', toks := tk' }) hS' rfl (wpAny_pure ⟨plainId_quiet PySem.F.plain_extend_loop _, ?_⟩) (by simp [sizeLine]; omega) (by simp [sizeLine]; omega))
    have hup : (h'.update S (Obj.mapSeq (·.push (Value.int xs[j] t)))).get? S = some (W.listOf (vs ++ [Value.int xs[j] t]).toArray (c + 1)) := by
      refine (Heap.get?_update_self (Obj.mapSeq (·.push (Value.int xs[j] t))) hS' rfl).trans ?_
      simp [W.listOf, Obj.mapSeq]
    have oth : ∀ b o, b ≠ S → h'.get? b = some o → (h'.update S (Obj.mapSeq (·.push (Value.int xs[j] t)))).get? b = some o := fun b o hb e => (Heap.get?_update_other _ _ (Ne.symm hb)).trans e
    refine ih (xs.length - (j + 1)) (by omega) (j + 1) _ _ (vs ++ [Value.int xs[j] t]) (c + 1) rfl hj ?_ ?_ ?_
    · have : (xs.take (j + 1)).filter (fun k => decide (k ∉ ys)) = (xs.take i).filter (fun k => decide (k ∉ ys)) ++ [xs[j]] := by
        rw [List.take_succ_eq_append_getElem hj, List.filter_append]
        congr 1
        · rw [show xs.take j = xs.take i ++ (xs.take j).drop i by (conv => lhs; rw [← List.take_append_drop i (xs.take j), List.take_take, Nat.min_eq_left hij]), List.filter_append]
          have : ((xs.take j).drop i).filter (fun k => decide (k ∉ ys)) = [] := by
            rw [List.filter_eq_nil_iff]
            intro k hk
            obtain ⟨p, hp, rfl⟩ := List.getElem_of_mem hk
            simp only [List.length_drop, List.length_take] at hp
            have hp' : i + p < xs.length := by omega
            have := hall (i + p) (by omega) (by omega)
            rw [List.getD_eq_getElem?_getD, List.getElem?_eq_getElem hp'] at this
            simpa using this
          rw [this, List.append_nil]
        · simp [hnot]
      rw [this]
      exact IntsAre.append hv (.cons _ _ .nil)
    · refine ⟨fun b o n1 n2 e => oth _ _ (fun z => n1 (by simp [z])) (EV2.1 b o (fun z => n1 (List.mem_cons_of_mem _ z)) n2 (EV.1 b o n1 n2 e)), fun b o hb e => ?_⟩
      obtain ⟨sl, e1⟩ := EV.2 b o hb e
      obtain ⟨sl2, e2⟩ := EV2.2 b _ hb e1
      exact ⟨sl2, oth _ _ (fun z => nfS (z ▸ hb)) e2⟩
    · intro p hp
      simp only [List.mem_cons, List.not_mem_nil, or_false] at hp
      rcases hp with rfl | rfl | rfl | rfl
      · exact hup
      · exact oth _ _ (fun z => nSi z.symm) (ent2 (_, _) (.head _))
      · exact oth _ _ (fun z => nSx z.symm) (ent2 (x, _) (.tail _ (.head _)))
      · exact oth _ _ (fun z => nSd z.symm) (ent2 (dx, _) (.tail _ (.tail _ (.head _))))
  · intro e h' tk' hall EV2 ho
    have nfS : S ∉ L :: fsOf outer := not_fr M' F' hS (by simp [W.listOf])
    have hS' : h'.get? S = some (W.listOf vs.toArray c) := EV2.1 _ _ (by simp [nSi, nSx, nSd]) nfS hS
    unfold OwitStop
    refine wpAny_isInstance (T := "StopIteration") (b := true) (s := { s with heap := h', toks := tk' }) ho (by rw [isSubtype_type]; kernel_rfl) ?_
    refine wpAny_pure (hR _ _ vs c ?_ ⟨fun b o n1 n2 e => EV2.1 b o (fun z => n1 (List.mem_cons_of_mem _ z)) n2 (EV.1 b o n1 n2 e), fun b o hb e => ?_⟩ hS')
    · have : xs.filter (fun k => decide (k ∉ ys)) = (xs.take i).filter (fun k => decide (k ∉ ys)) := by
        rw [show xs.filter (fun k => decide (k ∉ ys)) = (xs.take i ++ xs.drop i).filter (fun k => decide (k ∉ ys)) by rw [List.take_append_drop], List.filter_append]
        have : (xs.drop i).filter (fun k => decide (k ∉ ys)) = [] := by
          rw [List.filter_eq_nil_iff]
          intro k hk
          obtain ⟨p, hp, rfl⟩ := List.getElem_of_mem hk
          simp only [List.length_drop] at hp
          have hp' : i + p < xs.length := by omega
          have := hall (i + p) (by omega) hp'
          rw [List.getD_eq_getElem?_getD, List.getElem?_eq_getElem hp'] at this
          simpa using this
        rw [this, List.append_nil]
      rw [this]; exact hv
    · obtain ⟨sl, e1⟩ := EV.2 b o hb e
      obtain ⟨sl2, e2⟩ := EV2.2 b _ hb e1
      exact ⟨sl2, e2⟩
end
section
section
variable {w : World} {mean : ExcName → Option Value} {mg mb : Str → Option Value} {dp un : Nat} {gd : Option (List Code)} {cn : Str} {cs : Scope} {a : Addr} {ccd : Value} {cl : List (Str × Addr)} {outer : List Env} {A₀ : Around} {base h₀ : Heap} {L : Addr}
    {m : Str → Option Value} {s : Shared} {Q E : Value → Shared → Prop} {x dx q it l sk : Addr} {xs ys : List Int}
theorem list_ff_q (bq : Bool)
    (M : Am w mean mg mb A₀ base outer h₀) (F : Fr h₀ L s.heap m) (N : News h₀ L s.heap [(it, itO bq l 0), (x, ffO dx q it), (dx, dictOf [] 0)]) (nd : [it, x, dx].Nodup) (hk : cs.kind = .function) (hdp : dp + 20 < recursionLimit) (hun : un + 40 < cLine)
    (hq : s.heap.get? q = some (mwO "list.__contains__" (.ref sk))) (ix : IsQ bq s.heap l xs) (iy : IsL s.heap sk ys) (hlen : xs.length ≤ 1000)
    (hQ : ∀ S h' tk' vs c, s.heap.get? S = none → IntsAre vs (xs.filter fun k => decide (k ∉ ys)) → Ev [it, x, dx] (L :: fsOf outer) s.heap h' → h'.get? S = some (W.listOf vs.toArray c) → Q (.ref S) { s with heap := h', toks := tk' }) :
    wpAny (model PG w) (ktrTop dp un gd cn cs L a ccd cl outer) (call (.type "list") [.ref x]) Q E s := by
  revert M F N nd hk hdp hun hq ix iy hlen hQ
  revert w mean mg mb dp un gd cn cs a ccd cl outer A₀ base h₀ L m s Q E x dx q it l sk xs ys bq
  walk_at "16"; (iterate 7 (generalize zf w_ = A₀; generalize zs w_ = v_; clear w_; generalize zf v_ = A₀; generalize zs v_ = w_; clear v_)); generalize zf w_ = base, zs w_ = h₀; clear w_; rename_i w mean mg mb dp un gd cn cs a ccd cl outer
  walk_at "14"; (iterate 6 (generalize zf w_ = xs; generalize zs w_ = v_; clear w_; generalize zf v_ = xs; generalize zs v_ = w_; clear v_)); generalize zf w_ = ys, zs w_ = bq; clear w_; rename_i L m s Q E x dx q it l sk
  intro M F N nd hk hdp hun hq ix iy hlen hQ
  refine callType_codes (Q₁ := fun obj s₁ => obj = .ref s.heap.objs.size ∧ s₁ = { s with heap := s.heap.push { cls := .type "list", data := .seq #[] } }) PySem.F.called_list (PySem.F.typeCall_list_1 _) PySem.F.entry_list_init
    (code_list_new _ ⟨rfl, rfl⟩) fun obj s₁ h₁ => ?_
  obtain ⟨rfl, rfl⟩ := h₁
  have hS : (s.heap.push { cls := .type "list", data := .seq #[] }).get? s.heap.objs.size = some { cls := .type "list", data := .seq #[] } := Heap.get?_push_size _ rfl
  have F1 : Fr h₀ L (s.heap.push { cls := .type "list", data := .seq #[] }) m := F.push _
  have N1 := News.push F N { cls := .type "list", data := .seq #[] } rfl
  have lt : ∀ b o, s.heap.get? b = some o → b ≠ s.heap.objs.size := fun b o e => Nat.ne_of_lt (Heap.lt_size e)
  have n1 := lt _ _ (N (it, itO bq l 0) (by simp)).1
  have n2 := lt _ _ (N (x, ffO dx q it) (by simp)).1
  have n3 := lt _ _ (N (dx, dictOf [] 0) (by simp)).1
  have hsn : s.heap.get? s.heap.objs.size = none := by
    cases z : s.heap.get? s.heap.objs.size with
    | none => rfl
    | some o => exact absurd (Heap.lt_size z) (Nat.lt_irrefl _)
  refine ⟨⟨_, hS, rfl⟩, PySem.F.args_list_init_2 _ _, ?_⟩
  show wpAny _ _ (do let old ← Builtin.List.listItems (.ref s.heap.objs.size); Builtin.List.listUpdate (.ref s.heap.objs.size) (fun _ => #[]); letGo old.toList.reverse; Builtin.List.listExtendWith (.ref s.heap.objs.size) (.ref x) .none) _ _ _
  refine wpAny_bind ?_
  unfold Builtin.List.listItems
  refine wpAny_bind (wpAny_seqItems hS rfl (wpAny_pure ?_))
  show wpAny _ _ (updateSeq s.heap.objs.size (fun _ => #[]) >>= fun _ => letGo (#[] : Array Value).toList.reverse >>= fun _ => Builtin.List.listExtendWith (.ref s.heap.objs.size) (.ref x) .none) _ _ _
  refine wpAny_bind (wpAny_updateSeq hS rfl ?_)
  have hS₂ := Heap.get?_update_self (Obj.mapSeq (fun _ => (#[] : Array Value))) hS rfl
  generalize hgS : s.heap.objs.size = S at *
  generalize hg2 : (s.heap.push { cls := .type "list", data := .seq #[] }).update S (Obj.mapSeq (fun _ => (#[] : Array Value))) = h2 at *
  have k2 : ∀ b o, s.heap.get? b = some o → h2.get? b = some o := fun b o e => by
    rw [← hg2]; exact (Heap.get?_update_other _ _ (Ne.symm (lt _ _ e))).trans (Heap.get?_push_of_some _ e)
  refine wpAny_bind (wpAny_letGo ?_)
  have hX : ∀ h, (∀ b o, s.heap.get? b = some o → h.get? b = some o) → InstAt h x (ffO dx q it) 68 (some (dictOf [] 0)) := fun h k => ⟨k _ _ (N (x, ffO dx q it) (by simp)).1, rfl, rfl, k _ _ (N (dx, dictOf [] 0) (by simp)).1⟩
  have XF : ∀ h, (∀ b o, s.heap.get? b = some o → h.get? b = some o) → (hd.heap_1 w.params).In h := fun h k => M.X.keeps fun b o e => k _ _ (F.keep _ _ e)
  unfold Builtin.List.listExtendWith
  refine wpAny_bind ((hX _ k2).type.here ?_)
  have h1 : Builtin.List.listSameRef (.ref S) (.ref x) = false := by simp [Builtin.List.listSameRef, Ne.symm n2]
  have h2' : (Value.ref 68 == Value.type "list") = false := by decide
  have h3 : (Value.ref 68 == Value.type "tuple") = false := by decide
  simp only [h1, h2', h3, Bool.or_false, Bool.false_eq_true, if_false]
  refine wpAny_bind (owit_iter (K := hd.heap_1 w.params) (h₀ := h₀) (s := { s with heap := h2 }) (f := 57) (L := L) (m := m) (F.keeps k2) M.X (hX _ k2) (by k_is) (by k_is) ?_)
  refine Con.use (con_iter w) (dp := dp) (un := un + 1 + 1) (h₀ := h₀) (m := m) M.B (F.keeps k2) M.X (fun _ h => nomatch h) M.T hk (by omega) (by omega) ?_
  rintro v h3 tk3 ⟨rfl, k3⟩
  have k03 : ∀ b o, s.heap.get? b = some o → h3.get? b = some o := fun b o e => k3 _ _ (k2 _ _ e)
  refine owit_it (K := hd.heap_1 w.params) (h₀ := h₀) (L := L) (m := m) (g := .ref 64) (s := { s with heap := h3, toks := tk3 }) (F.keeps k03) M.X (hX _ k03) (by k_is) ?_
  have no_len : ∀ h, (∀ b o, s.heap.get? b = some o → h.get? b = some o) → Looks (model PG w) h (specialOf (.ref x) "__len__") none := fun h k => (hX _ k).type.andThen (looks_findIn (XF _ k) (by k_is))
  have no_hint : ∀ h, (∀ b o, s.heap.get? b = some o → h.get? b = some o) → Looks (model PG w) h (specialOf (.ref x) "__length_hint__") none := fun h k => (hX _ k).type.andThen (looks_findIn (XF _ k) (by k_is))
  refine wpAny_bind (wpAny_holding ?_)
  unfold Builtin.List.listLengthHint
  refine wpAny_bind ((no_len _ k03).here ?_)
  refine wpAny_bind ((no_hint _ k03).here ?_)
  refine wpAny_pure ?_
  show wpAny _ _ (rule "list.extend.makes-room" >>= fun _ => Builtin.List.listTouch (.ref S) >>= fun _ => again (.builtin "list.extend.loop" ⟨[.ref S, .ref x, .none], []⟩)) _ _ _
  refine wpAny_bind (wpAny_rule ?_)
  refine wpAny_bind ?_
  have hS3 := k3 _ _ hS₂
  show wpAny _ _ (updateSeq S (·.push .none) >>= fun _ => updateSeq S (·.pop)) _ _ _
  refine wpAny_bind (wpAny_updateSeq hS3 rfl ?_)
  have hS₄ := Heap.get?_update_self (Obj.mapSeq (·.push Value.none)) hS3 rfl
  refine wpAny_updateSeq (hz := by seq_fits) hS₄ rfl ?_
  have hS5 := Heap.get?_update_self (Obj.mapSeq (·.pop)) hS₄ rfl
  have k5 : ∀ b o, s.heap.get? b = some o → ((h3.update S (Obj.mapSeq (·.push Value.none))).update S (Obj.mapSeq (·.pop))).get? b = some o :=
    fun b o e => (Heap.get?_update_other _ _ (Ne.symm (lt _ _ e))).trans ((Heap.get?_update_other _ _ (Ne.symm (lt _ _ e))).trans (k03 _ _ e))
  generalize hg5 : (h3.update S (Obj.mapSeq (·.push Value.none))).update S (Obj.mapSeq (·.pop)) = h5 at *
  have hLS : S ≠ L := by
    obtain ⟨oL, es, ep, eL, _⟩ := F.ns
    exact (lt _ _ eL).symm
  have h0S : h₀.get? S = none := by
    cases z : h₀.get? S with
    | none => rfl
    | some o => exact absurd rfl (lt _ _ (F.keep _ _ z))
  have N5 : News h₀ L h5 [(S, _), (it, itO bq l 0), (x, ffO dx q it), (dx, dictOf [] 0)] := fun p hp => by
    rcases List.mem_cons.mp hp with rfl | hp
    · exact ⟨hS5, hLS, h0S⟩
    · exact ⟨k5 _ _ (N p hp).1, (N p hp).2⟩
  refine wpAny_pure ⟨plainId_quiet PySem.F.plain_extend_loop _, ?_⟩
  refine ff_loop_q bq w (dp := dp) (un := un + 1) (s := { s with heap := h5, toks := tk3 }) (xs := xs) (ys := ys) (l := l) (sk := sk) M (F.keeps k5) N5 (List.nodup_cons.mpr ⟨by simp [Ne.symm n1, Ne.symm n2, Ne.symm n3], nd⟩) hk (by omega) (by omega) (k5 _ _ hq) ?_ ?_ ?_ hlen ?_ _ 0 h5 tk3 [] _ rfl (Nat.zero_le _) .nil ⟨fun b o _ _ e => e, fun b o _ e => ⟨o.slots, e⟩⟩ (fun p hp => (N5 p hp).1)
  · obtain ⟨us, c', e, z⟩ := ix
    exact ⟨us, c', k5 _ _ e, z⟩
  · obtain ⟨us, c', e, z⟩ := iy
    exact ⟨us, c', k5 _ _ e, z⟩
  · have key : ∀ b o, s.heap.get? b = some o → (∀ p ∈ [(it, itO bq l 0), (x, ffO dx q it), (dx, dictOf [] 0)], p.2.cls ≠ o.cls) → b ∉ [S, it, x, dx] := fun b o e hc z => by
      rcases List.mem_cons.mp z with rfl | z
      · exact lt _ _ e rfl
      · exact not_led N e hc z
    intro b hb
    simp only [List.mem_cons, List.not_mem_nil, or_false] at hb
    rcases hb with rfl | rfl | rfl
    · exact key _ _ hq (by cases bq <;> simp [itO, mwO, dictOf])
    · obtain ⟨us, c', e, z⟩ := ix
      exact key _ _ e (by cases bq <;> simp [itO, dictOf])
    · obtain ⟨us, c', e, z⟩ := iy
      exact key _ _ e (by cases bq <;> simp [itO, W.listOf, dictOf])
  · intro h' tk' vs c hv EV hS'
    refine ⟨rfl, hQ S h' tk' vs c hsn hv ⟨fun b o n1 n2 e => EV.1 b o (fun z => ?_) n2 (k5 _ _ e), fun b o hb e => EV.2 b o hb (k5 _ _ e)⟩ hS'⟩
    rcases List.mem_cons.mp z with rfl | z
    · exact lt _ _ e rfl
    · exact n1 z
end
end
section
section
theorem News.head3 {g h : Heap} {L : Addr} {a b c : Addr × Obj} {r : List (Addr × Obj)} (N : News g L h (a :: b :: c :: r)) : News g L h [a, b, c] := fun p hp => N p (by
  simp only [List.mem_cons, List.not_mem_nil, or_false] at hp ⊢
  rcases hp with rfl | rfl | rfl <;> simp)
theorem get_size {h : Heap} {L : Addr} (e : L = h.objs.size) : h.get? L = none := by
  cases z : h.get? L with
  | none => rfl
  | some o => exact absurd (Heap.lt_size z) (by rw [e]; exact Nat.lt_irrefl _)
theorem Ev.andThen {T T2 fs : List Addr} {L' : Addr} {h h5 h' : Heap} (a : Ev T fs h h5) (b : Ev T2 (L' :: fs) h5 h') (hn : ∀ x ∈ T2, h.get? x = none ∨ x ∈ T) (hL : h.get? L' = none) : Ev T fs h h' :=
  ⟨fun x o n1 n2 e => b.1 x o (fun z => by rcases hn x z with q | q; (rw [q] at e; cases e); exact n1 q) (fun z => by
      rcases List.mem_cons.mp z with rfl | z
      · rw [hL] at e; cases e
      · exact n2 z) (a.1 x o n1 n2 e),
   fun x o hx e => by
      obtain ⟨sl, e1⟩ := a.2 x o hx e
      obtain ⟨sl', e2⟩ := b.2 x _ (List.mem_cons_of_mem _ hx) e1
      exact ⟨sl', e2⟩⟩
end
section
local macro_rules | `(tactic| walk_at $s) => zd ["call type:list ref", "call type:list"] [("m isl", zisl2), ("getAttr ref", zmwc), ("call builtin:iter", ziter), ("m isq", zisq)] s
theorem con_filter_q (b : Bool) (w : World) {h : Heap} {x y : Addr} {xs ys : List Int} (ix : IsQ b h x xs) (iy : IsL h y ys) (bx : xs.length ≤ 1000) :
    ConX w 79 60 [] [.ref x, .ref y] (fun v led h' => ∀ G_ : Prop, (∀ S vs c, (v = .ref S) → (led = [(S, W.listOf vs.toArray c)]) → (IntsAre vs (xs.filter fun k => decide (k ∉ ys))) → G_) → G_) h := by
  revert ix iy bx
  revert b w h x y xs ys
  walk_at "7"; (iterate 2 (generalize zf w_ = y; generalize zs w_ = v_; clear w_; generalize zf v_ = y; generalize zs v_ = w_; clear v_)); generalize zf w_ = y; generalize zs w_ = v_; clear w_; generalize zf v_ = xs, zs v_ = ys; clear v_; rename_i b w h x
  intro ix iy bx
  refine ConX.hk ?_; generalize wX _ _ _ _ _ _ _ = c_; delta ConXat; generalize c_.mean = mean, c_.mg = mg, c_.mb = mb, c_.dp = dp, c_.un = un, c_.gd = gd, c_.cn = cn, c_.cs = cs, c_.a = a, c_.ccd = ccd, c_.cl = cl, c_.outer = outer, c_.A₀ = A₀, c_.base = base, c_.h₀ = h₀, c_.L = L, c_.m = m, c_.s = s, c_.Q = Q, c_.E = E
  intro hh M F N hk hdp hun hret
  subst hh
  have X := M.X
  (refine wpAny_call ?_; k_dflt (refine' enterX ?k1 ?k2 ?k4 ?kK ?k6 ?k7 ?k8 ?k9 ?kB ?_ ?c2 ?c3 ?c4 ?c5; (case kK => assumption); (case k1 => assumption); (case k2 => assumption); (case k4 => assumption); (case k6 => k_is); (case k7 => k_is); (case k8 => omega); (case k9 => first | exact BindsTo.of_eq rfl | exact binds_K (by k_in) rfl (by k_is) rfl rfl rfl); (case c5 => decide); (case kB => exact locs rfl); (case c2 => exact rfl); (case c3 => exact rfl); (case c4 => exact rfl); k_whole))
  walk_at "3"; generalize zf w_ = g, zf (zs w_) = L', zs (zs w_) = h₁
  intro sg gs eL lt F' N' M'
  (try dsimp only)
  refine wpAny_noRaise ?_
  have B' := M'.B
  have X' := M'.X
  have T' := M'.T
  have hx' : IsQ b g x xs := let ⟨vs, c, e, i⟩ := ix; ⟨vs, c, sg _ _ (by simp) e, i⟩
  have hy' : IsL g y ys := let ⟨vs, c, e, i⟩ := iy; ⟨vs, c, sg _ _ (by simp) e, i⟩
  k_lt lt
  k_steps
  refine Blk.out ?_
  rename Fr g L' _ _ => F5
  rename News g L' _ _ => N5
  obtain ⟨EV1, hl⟩ := exitX M F N sg gs KtsTurn.refl F5 N5
  refine list_ff_q b (dp := dp + 1) (un := un + 3) M' F5 (News.head3 N5) ?_ rfl (by omega) (by omega) ((N5 _ (.tail _ (.tail _ (.tail _ (.head _))))).1) (hx'.fr F5) (hy'.fr F5) bx ?_
  · simp only [List.nodup_cons, List.mem_cons, List.not_mem_nil, or_false, not_or, List.nodup_nil, and_true, not_false_eq_true]
    refine ⟨⟨?_, ?_⟩, ?_⟩ <;> k_ne
  · intro S h' tk' vs c hn hv EV2 hS
    have hS0 : s.heap.get? S = none := by
      cases z : s.heap.get? S with
      | none => rfl
      | some o => have := F5.keep _ _ (sg _ _ (by simp) z); rw [hn] at this; cases this
    refine hret _ _ _ [(S, W.listOf vs.toArray c)] (EV1.andThen EV2 (fun b hb => ?_) (get_size eL)) (fun p hp => ?_) (fun _ k_ => k_ S vs c rfl rfl hv)
    · simp only [List.mem_cons, List.not_mem_nil, or_false] at hb
      rcases hb with rfl | rfl | rfl
      · exact (hl _ (.head _)).2.symm
      · exact (hl _ (.tail _ (.head _))).2.symm
      · exact (hl _ (.tail _ (.tail _ (.head _)))).2.symm
    · obtain rfl := List.mem_singleton.mp hp
      exact ⟨hS, .inr hS0⟩
end
theorem con_filter_l (w : World) {h : Heap} {x y : Addr} {xs ys : List Int} (ix : IsL h x xs) (iy : IsL h y ys) (bx : xs.length ≤ 1000) :
    ConX w 79 60 [] [.ref x, .ref y] (fun v led h' => ∀ G_ : Prop, (∀ S vs c, (v = .ref S) → (led = [(S, W.listOf vs.toArray c)]) → (IntsAre vs (xs.filter fun k => decide (k ∉ ys))) → G_) → G_) h := con_filter_q false w ix iy bx
theorem con_filter_t (w : World) {h : Heap} {x y : Addr} {xs ys : List Int} (ix : IsT h x xs) (iy : IsL h y ys) (bx : xs.length ≤ 1000) :
    ConX w 79 60 [] [.ref x, .ref y] (fun v led h' => ∀ G_ : Prop, (∀ S vs c, (v = .ref S) → (led = [(S, W.listOf vs.toArray c)]) → (IntsAre vs (xs.filter fun k => decide (k ∉ ys))) → G_) → G_) h := con_filter_q true w ix iy bx
end
section
noncomputable abbrev sorterD (h1 h2 h3 h4 : Int) (t1 t2 t3 t4 t5 t6 : Tok) (D : Addr) (rv : Value) (po nf : Int) : Obj :=
  dictOf [⟨h1, .str (Str.ofString "_node2info") t1, .ref D⟩, ⟨h2, .str (Str.ofString "_ready_nodes") t2, rv⟩, ⟨h3, .str (Str.ofString "_npassedout") t3, .int po t5⟩, ⟨h4, .str (Str.ofString "_nfinished") t4, .int nf t6⟩] 4
theorem stored_new {kvs : List (Int × Value)} {k : Int} {v : Value} (h : valueAt kvs k = none) : stored kvs k v = kvs ++ [(k, v)] := by
  have : (kvs.any fun kv => kv.1 = k) = false := by
    simp only [valueAt, Option.map_eq_none_iff, List.find?_eq_none] at h
    rw [List.any_eq_false]; exact h
  simp [stored, this]
noncomputable abbrev infoO (d l : Addr) (np : Int) (nt : Tok) (k : Int) (kt : Tok) : Obj := { cls := .ref 98, dict := some d, data := .plain, slots := #[some (.int k kt), some (.int np nt), some (.ref l)] }
section
local macro_rules | `(tactic| walk_at $s) => zd [] [("call builtin:dict.get", zdget), ("setItem ref int", zdset), ("subscriptTail", zsub)] s
variable {w : World} {h : Heap} {S dS D : Addr} {h1 h2 h3 h4 : Int} {t1 t2 t3 t4 t5 t6 : Tok} {po nf : Int} {rv : Value} {oD : Obj} {kvs : List (Int × Value)} {k : Int} {kt : Tok}
local macro_rules | `(tactic| walk_at $s) => zd [] [] s
theorem con_gni_there {a : Addr} (lo : (D == sysModules) = false) (hD : oD.IsDictOf (intKind PG w) kvs) (hv : valueAt kvs k = some (.ref a)) (n1 : S ≠ dS) (n2 : S ≠ D) (n3 : dS ≠ D) :
    ConX w 138 20 [(S, instObj 195 dS), (dS, sorterD h1 h2 h3 h4 t1 t2 t3 t4 t5 t6 D rv po nf), (D, oD)] [.ref S, .int k kt]
      (fun v led h' => v = .ref a ∧ led = [(S, instObj 195 dS), (dS, sorterD h1 h2 h3 h4 t1 t2 t3 t4 t5 t6 D rv po nf), (D, oD)]) h := by
  revert lo hD hv n1 n2 n3
  revert w h S dS D h1 h2 h3 h4 t1 t2 t3 t4 t5 t6 po nf rv oD kvs k kt a
  walk_at "16"; (iterate 7 (generalize zf w_ = t5; generalize zs w_ = v_; clear w_; generalize zf v_ = t5; generalize zs v_ = w_; clear v_)); generalize zf w_ = t6, zs w_ = po; clear w_; rename_i w h S dS D h1 h2 h3 h4 t1 t2 t3 t4
  walk_at "7"; (iterate 2 (generalize zf w_ = k; generalize zs w_ = v_; clear w_; generalize zf v_ = k; generalize zs v_ = w_; clear v_)); generalize zf w_ = k; generalize zs w_ = v_; clear w_; generalize zf v_ = kt, zs v_ = a; clear v_; rename_i nf rv oD kvs
  intro lo hD hv n1 n2 n3
  refine ConX.hk ?_; generalize wX _ _ _ _ _ _ _ = c_; delta ConXat; generalize c_.mean = mean, c_.mg = mg, c_.mb = mb, c_.dp = dp, c_.un = un, c_.gd = gd, c_.cn = cn, c_.cs = cs, c_.a = a, c_.ccd = ccd, c_.cl = cl, c_.outer = outer, c_.A₀ = A₀, c_.base = base, c_.h₀ = h₀, c_.L = L, c_.m = m, c_.s = s, c_.Q = Q, c_.E = E
  intro hh M F N hk hdp hun hret
  subst hh
  have X := M.X
  (refine wpAny_call ?_; k_dflt (refine' enterX ?k1 ?k2 ?k4 ?kK ?k6 ?k7 ?k8 ?k9 ?kB ?_ ?c2 ?c3 ?c4 ?c5; (case kK => assumption); (case k1 => assumption); (case k2 => assumption); (case k4 => assumption); (case k6 => k_is); (case k7 => k_is); (case k8 => omega); (case k9 => first | exact BindsTo.of_eq rfl | exact binds_K (by k_in) rfl (by k_is) rfl rfl rfl); (case c5 => decide); (case kB => exact locs rfl); (case c2 => exact rfl); (case c3 => exact rfl); (case c4 => exact rfl); k_whole))
  walk_at "3"; generalize zf w_ = g, zf (zs w_) = L', zs (zs w_) = h₁
  intro sg gs eL lt F' N' M'
  (try dsimp only)
  refine wpAny_noRaise ?_
  have B' := M'.B
  have X' := M'.X
  have T' := M'.T
  k_lt lt
  k_steps
  rename Fr g L' _ _ => F5
  rename News g L' _ _ => N5
  obtain ⟨EV1, hl⟩ := exitX M F N sg gs KtsTurn.refl F5 N5
  exact hret _ _ _ _ EV1 hl ⟨rfl, rfl⟩
theorem con_gni_new (lo : (D == sysModules) = false) (hD : oD.IsDictOf (intKind PG w) kvs) (hv : valueAt kvs k = none) (hz : kvs.length ≤ 1000) (n1 : S ≠ dS) (n2 : S ≠ D) (n3 : dS ≠ D) :
    ConX w 138 30 [(S, instObj 195 dS), (dS, sorterD h1 h2 h3 h4 t1 t2 t3 t4 t5 t6 D rv po nf), (D, oD)] [.ref S, .int k kt]
      (fun v led h' => ∀ G_ : Prop, (∀ a d l t c oD', (v = .ref a) → (oD'.IsDictOf (intKind PG w) (kvs ++ [(k, .ref a)])) → (led = [(l, W.listOf #[] c), (a, infoO d l 0 t k kt), (d, dictOf [] 0), (S, instObj 195 dS), (dS, sorterD h1 h2 h3 h4 t1 t2 t3 t4 t5 t6 D rv po nf), (D, oD')]) → ([l, a, d, S, dS, D].Nodup) → G_) → G_) h := by
  revert lo hD hv hz n1 n2 n3
  revert w h S dS D h1 h2 h3 h4 t1 t2 t3 t4 t5 t6 po nf rv oD kvs k kt
  walk_at "16"; (iterate 7 (generalize zf w_ = t5; generalize zs w_ = v_; clear w_; generalize zf v_ = t5; generalize zs v_ = w_; clear v_)); generalize zf w_ = t6, zs w_ = po; clear w_; rename_i w h S dS D h1 h2 h3 h4 t1 t2 t3 t4
  walk_at "6"; generalize zf w_ = nf, zf (zs w_) = rv, zf (zs (zs w_)) = oD, zf (zs (zs (zs w_))) = kvs, zf (zs (zs (zs (zs w_)))) = k, zs (zs (zs (zs (zs w_)))) = kt
  intro lo hD hv hz n1 n2 n3
  refine ConX.hk ?_; generalize wX _ _ _ _ _ _ _ = c_; delta ConXat; generalize c_.mean = mean, c_.mg = mg, c_.mb = mb, c_.dp = dp, c_.un = un, c_.gd = gd, c_.cn = cn, c_.cs = cs, c_.a = a, c_.ccd = ccd, c_.cl = cl, c_.outer = outer, c_.A₀ = A₀, c_.base = base, c_.h₀ = h₀, c_.L = L, c_.m = m, c_.s = s, c_.Q = Q, c_.E = E
  intro hh M F N hk hdp hun hret
  subst hh
  have X := M.X
  (refine wpAny_call ?_; k_dflt (refine' enterX ?k1 ?k2 ?k4 ?kK ?k6 ?k7 ?k8 ?k9 ?kB ?_ ?c2 ?c3 ?c4 ?c5; (case kK => assumption); (case k1 => assumption); (case k2 => assumption); (case k4 => assumption); (case k6 => k_is); (case k7 => k_is); (case k8 => omega); (case k9 => first | exact BindsTo.of_eq rfl | exact binds_K (by k_in) rfl (by k_is) rfl rfl rfl); (case c5 => decide); (case kB => exact locs rfl); (case c2 => exact rfl); (case c3 => exact rfl); (case c4 => exact rfl); k_whole))
  walk_at "3"; generalize zf w_ = g, zf (zs w_) = L', zs (zs w_) = h₁
  intro sg gs eL lt F' N' M'
  (try dsimp only)
  refine wpAny_noRaise ?_
  have B' := M'.B
  have X' := M'.X
  have T' := M'.T
  k_lt lt
  k_steps
  rename Fr g L' _ _ => F5
  rename News g L' _ _ => N5
  rename Obj.IsDictOf _ _ _ => hD'
  rw [stored_new hv] at hD'
  obtain ⟨EV1, hl⟩ := exitX M F N sg gs KtsTurn.refl F5 N5
  refine hret _ _ _ _ EV1 hl (fun _ k_ => k_ _ _ _ _ _ _ rfl hD' rfl ?_)
  simp only [List.nodup_cons, List.mem_cons, List.not_mem_nil, or_false, not_or, List.nodup_nil, and_true, not_false_eq_true]
  (repeat' apply And.intro) <;> k_ne
end
end
section
section
variable {prog : Program} {w : World} {A : Around} {s : Shared} {env : Env} {E : Value → Shared → Prop}
noncomputable def ForTurn (prog : Program) (w : World) (A : Around) (E : Value → Shared → Prop) (env : Env) (target : PySem.Expr) (body : List Stmt) (Q : Flow → Shared → Prop) (I : Nat → Shared → Prop) (n : Nat) (r : Option Value) (s₁ : Shared) : Prop := match r with
  | none => Q .next s₁
  | some y => wpAny (model prog w) A (assign target env y) (fun _ s₂ => wpAny (model prog w) A (execs body env) (fun f s₃ => match f with
      | .next => Again I n s₃
      | .cont => Again I n s₃
      | .brk => Q .next s₃
      | .ret v => Q (.ret v) s₃) E s₂) E s₁
theorem for_raw {target iter : PySem.Expr} {pos : Pos} {body : List Stmt} {Q : Flow → Shared → Prop}
    (h : wpAny (model prog w) A (eval iter env) (fun xv s₁ => wpAny (model prog w) A (pyIter xv) (fun itv s₂ => ∃ (I : Nat → Shared → Prop) (n : Nat), I n s₂ ∧ ∀ n s, I n s → wpAny (model prog w) A (pyNext itv) (ForTurn prog w A E env target body Q I n) E s) E s₁) E s)
    (ht : ∀ it v, letOwnedTupleGo target it v = pure () := by intro _ _; rfl)
    (hs : ∀ x, foldedSetIterable iter env x = pure x := by intro _; rfl) (hE : PassesOwn (model prog w) A env E := by passes_own) :
    wpAny (model prog w) A (exec (.For target iter body [] pos) env) Q E s := by
  refine wpAny_For (wpAny_mono h (fun xv s₁ h₁ => wpAny_mono h₁ (fun it s₂ h₂ => ?_) fun _ _ z => z) fun _ _ z => z) hs
  obtain ⟨I, n, h0, turn⟩ := h₂
  refine codeAny_forLoop (R := fun r s' => match r with | .ok f => Q f s' | .error e => cameBackBy (model prog w) A env E e s') I ?_ n h0 (ht _)
  intro n s' hI
  refine wpAny_passesOwn hE (wpAny_mono (turn n s' hI) (fun r s₁ hr => ?_) fun _ _ z => z)
  cases r with
  | none => exact wpAny_execs_nil hr
  | some y =>
    refine wpAny_passesOwn hE (wpAny_mono hr (fun _ s₂ h₂ => ?_) fun _ _ z => z)
    refine wpAny_passesOwn hE (wpAny_mono h₂ (fun f s₃ h₃ => ?_) fun _ _ z => z)
    cases f with
    | next => exact h₃
    | cont => exact h₃
    | brk => exact h₃
    | ret _ => exact h₃
noncomputable def ForTurnK (prog : Program) (w : World) (A : Around) (E : Value → Shared → Prop) (env : Env) (target : PySem.Expr) (body : List Stmt) (Q K : Flow → Shared → Prop) (r : Option Value) (s₁ : Shared) : Prop :=
  match r with
  | none => Q .next s₁
  | some v => wpAny (model prog w) A (assign target env v) (fun _ s₂ => wpAny (model prog w) A (execs body env) K E s₂) E s₁
theorem for_rawK {target iter : PySem.Expr} {pos : Pos} {body : List Stmt} {Q : Flow → Shared → Prop}
    (h : wpAny (model prog w) A (eval iter env) (fun xv s₁ => wpAny (model prog w) A (pyIter xv) (fun itv s₂ => ∃ (I : Nat → Shared → Prop) (n : Nat), I n s₂ ∧ ∀ n s, I n s → ∀ K : Flow → Shared → Prop, (∀ n' s', n' < n → I n' s' → K .next s' ∧ K .cont s') → (∀ s', Q .next s' → K .brk s') → (∀ v s', Q (.ret v) s' → K (.ret v) s') →
      wpAny (model prog w) A (pyNext itv) (ForTurnK prog w A E env target body Q K) E s) E s₁) E s)
    (ht : ∀ it v, letOwnedTupleGo target it v = pure () := by intro _ _; rfl)
    (hs : ∀ x, foldedSetIterable iter env x = pure x := by intro _; rfl) (hE : PassesOwn (model prog w) A env E := by passes_own) :
    wpAny (model prog w) A (exec (.For target iter body [] pos) env) Q E s := by
  refine for_raw (wpAny_mono h (fun xv s₁ h₁ => wpAny_mono h₁ (fun it s₂ h₂ => ?_) fun _ _ z => z) fun _ _ z => z) ht hs hE
  obtain ⟨I, n, h0, turn⟩ := h₂
  refine ⟨I, n, h0, fun n s hI => wpAny_mono (turn n s hI (fun f s' => match f with | .next => Again I n s' | .cont => Again I n s' | .brk => Q .next s' | .ret v => Q (.ret v) s') (fun n' s' a b => ⟨⟨n', a, b⟩, ⟨n', a, b⟩⟩) (fun _ x => x) (fun _ _ x => x)) (fun r s₁ hr => ?_) fun _ _ z => z⟩
  cases r with
  | none => exact hr
  | some v => exact hr
end
section
variable {prog : Program} {w : World} {A : Around} {E : Value → Shared → Prop} {s : Shared} {h₀ : Heap} {L it : Addr} {m : Str → Option Value} {news : List (Addr × Obj)} {g : Obj → List (Addr × Obj)} {fp : List Addr} {n i : Nat} {P : Nat → Value → Prop} {St : Nat → Heap → Prop} {o : Obj}
theorem walk_item {Q : Option Value → Shared → Prop} (W : Walks prog w A it fp [it] n P St) (hS : ∀ i h, St i h → ∃ o, h.get? it = some o) (F : Fr h₀ L s.heap m) (N : News h₀ L s.heap news) (U : UpdF it o news g) (hst : St i s.heap) (hi : i < n)
    (h : ∀ v h' tk' o', P i v → St (i + 1) h' → Fr h₀ L h' m → News h₀ L h' (g o') → Q (some v) { s with heap := h', toks := tk' }) : wpAny (model prog w) A (pyNext (.ref it)) Q E s := by
  obtain ⟨pre, post, rfl, hg, h1, h2⟩ := U.split
  have hm := N (it, o) (List.mem_append_right _ (.head _))
  refine W.item i s Q E hi hst fun v h' tk' hP hst' hk => ?_
  obtain ⟨o', ho'⟩ := hS _ _ hst'
  have F' : Fr h₀ L h' m := by
    obtain ⟨oL, es, ep, eL, r⟩ := F.ns
    refine ⟨⟨oL, es, ep, hk _ _ (fun z => hm.2.1 (List.mem_singleton.mp z).symm) eL, r⟩, fun b ob e => hk b ob (fun z => ?_) (F.keep b ob e), F.above⟩
    rw [List.mem_singleton.mp z, hm.2.2] at e; cases e
  refine h v h' tk' o' hP hst' F' (hg o' ▸ fun p hp => ?_)
  rcases List.mem_append.mp hp with hp | hp
  · have := N p (List.mem_append_left _ hp)
    exact ⟨hk _ _ (fun z => h1 p hp (List.mem_singleton.mp z)) this.1, this.2⟩
  · rcases List.mem_cons.mp hp with rfl | hp
    · exact ⟨ho', hm.2⟩
    · have := N p (List.mem_append_right _ (.tail _ hp))
      exact ⟨hk _ _ (fun z => h2 p hp (List.mem_singleton.mp z)) this.1, this.2⟩
theorem walk_done {Q : Option Value → Shared → Prop} (W : Walks prog w A it fp [it] n P St) {rest : List (Addr × Obj)} (F : Fr h₀ L s.heap m) (N : News h₀ L s.heap news) (hn : ∀ p ∈ rest, p ∈ news ∧ p.1 ≠ it) (hst : St n s.heap) (hit : it ≠ L) (h0 : h₀.get? it = none)
    (h : ∀ h' tk', Fr h₀ L h' m → News h₀ L h' rest → Q none { s with heap := h', toks := tk' }) : wpAny (model prog w) A (pyNext (.ref it)) Q E s := by
  refine W.done s Q E hst fun h' tk' hk => ?_
  refine h h' tk' ?_ fun p hp => ?_
  · obtain ⟨oL, es, ep, eL, r⟩ := F.ns
    refine ⟨⟨oL, es, ep, hk _ _ (fun z => hit (List.mem_singleton.mp z).symm) eL, r⟩, fun b ob e => hk b ob (fun z => ?_) (F.keep b ob e), F.above⟩
    rw [List.mem_singleton.mp z, h0] at e; cases e
  · have := N p (hn p hp).1
    exact ⟨hk _ _ (fun z => (hn p hp).2 (List.mem_singleton.mp z)) this.1, this.2⟩
noncomputable def ItO (St : Nat → Heap → Prop) (it d : Addr) (o od : Obj) (i : Nat) : Prop := ∀ h : Heap, h.get? it = some o → h.get? d = some od → St i h
theorem ItO.of {St : Nat → Heap → Prop} {it d : Addr} {o od : Obj} {i : Nat} {h : Heap} (W : Walks prog w A it [it, d] [it] n P St) (st : St i h) (e1 : h.get? it = some o) (e2 : h.get? d = some od) : ItO St it d o od i := fun h' f1 f2 => W.frame i h h' st fun b hb o' e => by
  simp only [List.mem_cons, List.not_mem_nil, or_false] at hb
  rcases hb with rfl | rfl
  · rw [e1] at e; cases e; exact f1
  · rw [e2] at e; cases e; exact f2
end
noncomputable def tSt (I T : Addr) (vs : List Value) (i : Nat) (h : Heap) : Prop := h.IsTupleIter I T i ∧ h.IsTuple T vs.toArray
noncomputable def lSt (I T : Addr) (vs : List Value) (i : Nat) (h : Heap) : Prop := h.IsListIter I T i ∧ h.IsList T vs.toArray
theorem tSt.get {I T : Addr} {vs : List Value} : ∀ i h, tSt I T vs i h → ∃ o, h.get? I = some o := fun _ _ st => let ⟨⟨o, e, _⟩, _⟩ := st; ⟨o, e⟩
theorem lSt.get {I T : Addr} {vs : List Value} : ∀ i h, lSt I T vs i h → ∃ o, h.get? I = some o := fun _ _ st => let ⟨⟨o, e, _⟩, _⟩ := st; ⟨o, e⟩
section
variable {prog : Program} {w : World} {A : Around} {E : Value → Shared → Prop} {s : Shared} {h₀ : Heap} {L T : Addr} {m : Str → Option Value} {news : List (Addr × Obj)} {vs : List Value} {c : Nat}
theorem it_tup {Q : Value → Shared → Prop} (hh : A.handled = none) (F : Fr h₀ L s.heap m) (N : News h₀ L s.heap news) (e : s.heap.get? T = some { cls := .type "tuple", data := .seq vs.toArray c })
    (h : ∀ I h' oI, Fr h₀ L h' m → News h₀ L h' ((I, oI) :: news) → (∀ p ∈ news, p.1 < I) → T < I → Walks prog w A I [I, T] [I] vs.length (fun i v => vs[i]? = some v) (tSt I T vs) → ItO (tSt I T vs) I T oI { cls := .type "tuple", data := .seq vs.toArray c } 0 → Q (.ref I) { s with heap := h' }) :
    wpAny (model prog w) A (pyIter (.ref T)) Q E s := by
  have lt := Heap.lt_size e
  refine wpAny_pyIter_tuple (items := vs.toArray) ⟨_, e, rfl, _, rfl⟩ ?_
  have W : Walks prog w A s.heap.objs.size [s.heap.objs.size, T] [s.heap.objs.size] vs.length (fun i v => vs[i]? = some v) (tSt s.heap.objs.size T vs) := by
    have := Walks.tuple (prog := prog) (w := w) hh s.heap.objs.size T (Nat.ne_of_lt lt) vs.toArray
    simp only [List.size_toArray, List.getElem?_toArray] at this
    exact this
  refine h _ _ _ (F.push _) (News.push F N _ rfl) (fun p hp => Heap.lt_size (N p hp).1) lt W ?_
  exact ItO.of W ⟨⟨_, Heap.get?_push_size _ rfl, rfl, rfl⟩, _, Heap.get?_push_of_some _ e, rfl, _, rfl⟩ (Heap.get?_push_size _ rfl) (Heap.get?_push_of_some _ e)
theorem it_list {Q : Value → Shared → Prop} (hh : A.handled = none) (F : Fr h₀ L s.heap m) (N : News h₀ L s.heap news) (e : s.heap.get? T = some (W.listOf vs.toArray c))
    (h : ∀ I h' oI, Fr h₀ L h' m → News h₀ L h' ((I, oI) :: news) → (∀ p ∈ news, p.1 < I) → T < I → Walks prog w A I [I, T] [I] vs.length (fun i v => vs[i]? = some v) (lSt I T vs) → ItO (lSt I T vs) I T oI (W.listOf vs.toArray c) 0 → Q (.ref I) { s with heap := h' }) :
    wpAny (model prog w) A (pyIter (.ref T)) Q E s := by
  have lt := Heap.lt_size e
  refine wpAny_pyIter_list (items := vs.toArray) ⟨_, e, rfl, _, rfl⟩ ?_
  have W : Walks prog w A s.heap.objs.size [s.heap.objs.size, T] [s.heap.objs.size] vs.length (fun i v => vs[i]? = some v) (lSt s.heap.objs.size T vs) := by
    have := Walks.list (prog := prog) (w := w) hh s.heap.objs.size T (Nat.ne_of_lt lt) vs.toArray
    simp only [List.size_toArray, List.getElem?_toArray] at this
    exact this
  refine h _ _ _ (F.push _) (News.push F N _ rfl) (fun p hp => Heap.lt_size (N p hp).1) lt W ?_
  exact ItO.of W ⟨⟨_, Heap.get?_push_size _ rfl, rfl, rfl⟩, _, Heap.get?_push_of_some _ e, rfl, _, rfl⟩ (Heap.get?_push_size _ rfl) (Heap.get?_push_of_some _ e)
end
end
section
theorem push_inv {h : Heap} {b : Addr} {o o' : Obj} (e : (h.push o').get? b = some o) (n : b ≠ h.objs.size) : h.get? b = some o := by
  obtain ⟨e1, e2⟩ := Heap.get?_some_iff.mp e
  refine Heap.get?_some_iff.mpr ⟨?_, e2⟩
  cases h
  simp only [Heap.push] at e1 n
  rw [Array.getElem?_push, if_neg n] at e1
  exact e1
noncomputable abbrev tupE (vs : List Value) : Obj := { cls := .type "tuple", data := .seq vs.toArray }
theorem wp_peekP {α : Type} {K : Frag} {M : Model} {A : Around} {E : Value → Shared → Prop} {Q : α → Shared → Prop} {s : Shared} {o : Obj} {r : Addr → α}
    (X : K.In s.heap) (q : Q (r s.heap.objs.size) { s with heap := s.heap.push o }) :
    ∀ (t : Sem α) (g : Addr → Option α), peek1 K ⟨M.prog, M.w.params⟩ t = some (o, g) → (∀ D, g D = some (r D)) → wpAny M A t Q E s := by
  intro t
  induction t with
  | rule _ k ih => intro g e hg Γ p hΓ; exact ih () g e hg Γ p hΓ
  | point _ k ih => intro g e hg Γ p hΓ; exact ih () g e hg Γ p hΓ
  | ask k ih => intro g e hg Γ p hΓ; exact ih _ g e hg Γ p hΓ
  | load a _ k ih =>
    intro g e hg Γ p hΓ
    simp only [peek1] at e
    split at e
    · rename_i ob ho; exact ⟨ob, X _ _ ho, ih ob g e hg Γ p hΓ⟩
    · cases e
  | alloc ob k _ =>
    intro g e hg
    have e : some (ob, fun D => peek K ⟨M.prog, M.w.params⟩ (k D)) = some (o, g) := e
    obtain ⟨e1, e2⟩ := Prod.mk.inj (Option.some.inj e)
    subst e1
    subst e2
    have X' : K.In (s.heap.push ob) := X.keeps fun b x hb => Heap.get?_push_of_some _ hb
    show wpAny M A (alloc ob >>= k) Q E s
    refine wpAny_bind (wpAny_alloc ?_)
    exact (Looks.of_peek (M := M) (h := s.heap.push ob) X' (hg s.heap.objs.size)).here (s := { s with heap := s.heap.push ob }) q
  | _ => intro g e; cases e
section
variable {prog : Program} {w : World} {A A₀ : Around} {E : Value → Shared → Prop} {s : Shared} {K : Frag} {C L : Addr} {h₀ base : Heap} {m mg mb : Str → Option Value} {news : List (Addr × Obj)} {p : Program} {loose : List Str} {mean : ExcName → Option Value} {Q : Value → Shared → Prop}
theorem enterV {env : Env} {outer : List Env} {R : Result → Shared → Prop} {name qual : Str} {params : Arguments} {body : List Stmt} {scope : Scope} {dV kV doc pm cdv ct oc : Value} {an od : Option Addr} {osl : Array (Option Value)} {f : Addr} {args : Args} {vs : List Value} {g₁ : Addr → Option (List (Str × Value))} {binds : Addr → List (Str × Value)}
    (B : Below A₀ base outer h₀) (F : Fr h₀ L s.heap m) (X₀ : K.In h₀) (N : News h₀ L s.heap news) (T : Top p loose mean mg mb h₀) (hA : A.frames = some (env :: outer)) (hf : env.frame = some L) (hke : env.scope.kind = .function)
    (ho : K.lookup f = some ⟨oc, od, .func (fnOf name qual params body scope dV kV doc pm an cdv ct), osl⟩) (hcd : codeIn K cdv qual = true) (hroom : A.depth < recursionLimit)
    (hp : peek1 K ⟨prog, w.params⟩ (bindArgs (fnOf name qual params body scope dV kV doc pm an cdv ct) args) = some (tupE vs, g₁))
    (hg : ∀ D, g₁ D = some (binds D)) (hloc : ∀ D, ∀ y ∈ binds D, scope.names.lookup y.1 = some .local)
    (h : ∀ D g L' h₁, Stay (news.map (·.1)) s.heap g → (∀ b o, g.get? b = some o → s.heap.get? b = some o) → D = s.heap.objs.size → L' = D + 1 → (∀ p ∈ news, p.1 < D) →
      Fr g L' h₁ (fun y => (binds D).reverse.lookup y) → News g L' h₁ ((D, tupE vs) :: news) → Below A base (env :: outer) g → K.In g → Top p loose mean mg mb g →
      wpAny (model prog w) (A.deeper (envOf qual scope L' f cdv)) (execs body (envOf qual scope L' f cdv))
        (fun fl s' => R (.ok (.ret (match fl with | .ret v => v | _ => .none))) s')
        (fun e s' => wpAny (model prog w) (A.deeper (envOf qual scope L' f cdv)) (leaving (envOf qual scope L' f cdv) e) (fun _ s'' => R (.error e) s'') (fun e' s'' => R (.error e') s'') s')
        { s with heap := h₁, toks := s.toks + (binds D).length })
    (hco : scope.isCoroutine = false) (hgen : scope.isGenerator = false) (hk : scope.kind = .function)
    (hcell : ∀ x ∈ scope.names, x.2 ≠ .cell) : codeAny (model prog w) A (.call (.ref f) args) R s := by
  have X := X₀.keeps F.keep
  refine codeAny_call_function (fd := fnX name qual params body scope [] dV kV doc pm an cdv ct) (body := body) hroom (X _ _ ho) rfl hco hgen rfl (codeRec_of X hcd) ?_
  refine wp_peekP (o := tupE vs) X (r := binds) ?_ _ g₁ hp hg
  have lt : ∀ p ∈ news, p.1 < s.heap.objs.size := fun p hp => Heap.lt_size (N p hp).1
  have F1 : Fr h₀ L (s.heap.push (tupE vs)) m := F.push _
  have N1 : News h₀ L (s.heap.push (tupE vs)) ((s.heap.objs.size, tupE vs) :: news) := News.push F N _ rfl
  obtain ⟨FG, BG, st, _⟩ := groundX (R := R) (s := { s with heap := s.heap.push (tupE vs) }) B F1 N1 hA hf hke
  refine wpAny_newFunctionEnv (s := { s with heap := s.heap.push (tupE vs) }) hcell (hloc _) (fun h₁ hns hsb => ⟨(T.nolimit.keeps F1.keep).fresh _ hsb, codeAny_func ?_⟩) hk
  have hk₁ : ∀ b o, (s.heap.push (tupE vs)).get? b = some o → h₁.get? b = some o := fun b o e => hsb.extBut b o (Nat.ne_of_lt (Heap.lt_size e)) (Heap.get?_push_of_some _ e)
  refine h s.heap.objs.size _ (s.heap.push (tupE vs)).objs.size h₁ (fun b o n e => ?_) (fun b o e => ?_) rfl (by rw [Heap.size_push]) lt ⟨hns, fun b o e => hk₁ b o (of_hideAll _ e), Nat.le_of_eq (hideAll_size _ _)⟩
    (fun p hp => ⟨hk₁ _ _ (N1 p hp).1, Nat.ne_of_lt (Heap.lt_size (N1 p hp).1), hideAll_none _ (List.mem_map_of_mem hp)⟩) BG (X₀.keeps st) (T.keeps st)
  · refine hideAll_get _ (Heap.get?_push_of_some _ e) (fun z => ?_)
    rcases List.mem_cons.mp z with z | z
    · exact absurd (Heap.lt_size e) (by rw [z]; exact Nat.lt_irrefl _)
    · exact n z
  · by_cases z : b = s.heap.objs.size
    · rw [z] at e
      have := hideAll_none (h := s.heap.push (tupE vs)) (((s.heap.objs.size, tupE vs) :: news).map (·.1)) (.head _)
      rw [this] at e; cases e
    · have := of_hideAll _ e
      exact push_inv this z
end
section
variable {w : World} {A : Around} {E : Value → Shared → Prop} {s : Shared} {L : Addr} {h₀ : Heap} {m mg mb : Str → Option Value} {mean : ExcName → Option Value} {mu : List (Addr × Obj)}
theorem enterXV {base : Heap} {A₀ : Around} {dp un : Nat} {gd : Option (List Code)} {cn : Str} {cs : Scope} {a : Addr} {ccd : Value} {cl : List (Str × Addr)} {outer : List Env} {R : Result → Shared → Prop} {name qual : Str} {params : Arguments} {body : List Stmt} {scope : Scope} {dV kV doc pm cdv ct oc : Value} {an od : Option Addr} {osl : Array (Option Value)} {f : Addr} {args : Args} {vs : List Value} {g₁ : Addr → Option (List (Str × Value))} {binds : Addr → List (Str × Value)}
    (M : Am w mean mg mb A₀ base outer h₀) (F : Fr h₀ L s.heap m) (N : News h₀ L s.heap mu) (hke : cs.kind = .function)
    (ho : (hd.heap_1 w.params).lookup f = some ⟨oc, od, .func (fnOf name qual params body scope dV kV doc pm an cdv ct), osl⟩) (hcd : codeIn (hd.heap_1 w.params) cdv qual = true) (hroom : dp < recursionLimit)
    (hp : peek1 (hd.heap_1 w.params) ⟨PG, w.params⟩ (bindArgs (fnOf name qual params body scope dV kV doc pm an cdv ct) args) = some (tupE vs, g₁))
    (hg : ∀ D, g₁ D = some (binds D)) (hloc : ∀ D, ∀ y ∈ binds D, scope.names.lookup y.1 = some .local)
    (h : ∀ D g L' h₁, (∀ b o, b ∉ mu.map (·.1) → s.heap.get? b = some o → g.get? b = some o) → (∀ b o, g.get? b = some o → s.heap.get? b = some o) → D = s.heap.objs.size → L' = D + 1 → (∀ p ∈ mu, p.1 < D) →
      Fr g L' h₁ (fun y => (binds D).reverse.lookup y) → News g L' h₁ ((D, tupE vs) :: mu) → Am w mean mg mb (ktrTop dp un gd cn cs L a ccd cl outer) base (envX cn cs L a ccd cl :: outer) g →
      wpAny (model PG w) ((ktrTop dp un gd cn cs L a ccd cl outer).deeper (envOf qual scope L' f cdv)) (execs body (envOf qual scope L' f cdv))
        (fun fl s' => R (.ok (.ret (match fl with | .ret v => v | _ => .none))) s')
        (fun e s' => wpAny (model PG w) ((ktrTop dp un gd cn cs L a ccd cl outer).deeper (envOf qual scope L' f cdv)) (leaving (envOf qual scope L' f cdv) e) (fun _ s'' => R (.error e) s'') (fun e' s'' => R (.error e') s'') s')
        { s with heap := h₁, toks := s.toks + (binds D).length })
    (hco : scope.isCoroutine = false) (hgen : scope.isGenerator = false) (hk : scope.kind = .function)
    (hcell : ∀ x ∈ scope.names, x.2 ≠ .cell) : codeAny (model PG w) (ktrTop dp un gd cn cs L a ccd cl outer) (.call (.ref f) args) R s := by
  refine enterV M.B F M.X N M.T (env := envX cn cs L a ccd cl) (outer := outer) rfl rfl hke ho hcd hroom hp hg hloc (fun D g L' h₁ sg gs eD eL lt F' N' B' X' T' => ?_) hco hgen hk hcell
  refine h D g L' h₁ (fun b o n e => sg b o n e) gs eD eL lt F' N' ⟨B', X', T', fun b hb => ?_, M.XB, M.TB⟩
  have hin : ∀ {b o}, s.heap.get? b = some o → b ∉ mu.map (·.1) → g.get? b = some o := fun e n => sg _ _ n e
  rcases List.mem_cons.mp hb with rfl | hb
  · obtain ⟨oL, es, ep, eL, hd, _⟩ := F.ns
    exact ⟨oL, es, ep, hin eL (fun q => by obtain ⟨p, hp, e⟩ := List.mem_map.mp q; exact (N p hp).2.1 e), hd⟩
  · obtain ⟨_, o, es, n, e, d⟩ := M.live hb
    exact ⟨o, es, n, hin (F.keep _ _ e) (fun q => by obtain ⟨p, hp, rfl⟩ := List.mem_map.mp q; rw [(N p hp).2.2] at e; cases e), d⟩
end
end
section
theorem ConX.mono {w : World} {f : Addr} {lv : Nat} {mu : List (Addr × Obj)} {vs : List Value} {P P' : Value → List (Addr × Obj) → Heap → Prop} {h : Heap} (c : ConX w f lv mu vs P h) (k : ∀ v led h', P v led h' → P' v led h') : ConX w f lv mu vs P' h := by
  intro mean mg mb dp un gd cn cs a ccd cl outer A₀ base h₀ L m s Q E hh M F N hk hdp hun hret
  exact c hh M F N hk hdp hun fun v h' tk' led EV hl hp => hret v h' tk' led EV hl (k _ _ _ hp)
theorem ConX.reled {w : World} {f : Addr} {lv : Nat} {mu : List (Addr × Obj)} {vs : List Value} {P P' : Value → List (Addr × Obj) → Heap → Prop} {h : Heap} (c : ConX w f lv mu vs P h) (k : ∀ v led h', P v led h' → ∃ led', (∀ p ∈ led', p ∈ led) ∧ P' v led' h') : ConX w f lv mu vs P' h := by
  intro mean mg mb dp un gd cn cs a ccd cl outer A₀ base h₀ L m s Q E hh M F N hk hdp hun hret
  refine c hh M F N hk hdp hun fun v h' tk' led EV hl hp => ?_
  obtain ⟨led', hs, hp'⟩ := k _ _ _ hp
  exact hret v h' tk' led' EV (fun p hp => hl p (hs p hp)) hp'
theorem ConX.level {w : World} {f : Addr} {lv lv' : Nat} {mu : List (Addr × Obj)} {vs : List Value} {P : Value → List (Addr × Obj) → Heap → Prop} {h : Heap} (c : ConX w f lv mu vs P h) (k : lv ≤ lv') : ConX w f lv' mu vs P h := by
  intro mean mg mb dp un gd cn cs a ccd cl outer A₀ base h₀ L m s Q E hh M F N hk hdp hun hret
  exact c hh M F N hk (by omega) (by omega) hret
theorem ConX.widen {w : World} {f : Addr} {lv : Nat} {mu rest : List (Addr × Obj)} {vs : List Value} {P : Value → List (Addr × Obj) → Heap → Prop} {h : Heap} (c : ConX w f lv mu vs P h) (dj : ∀ p ∈ rest, p.1 ∉ mu.map (·.1)) :
    ConX w f lv (mu ++ rest) vs (fun v led h' => ∃ led0, led = led0 ++ rest ∧ P v led0 h' ∧ (∀ p ∈ led0, p.1 ∈ mu.map (·.1) ∨ p.1 ∉ rest.map (·.1))) h := by
  intro mean mg mb dp un gd cn cs a ccd cl outer A₀ base h₀ L m s Q E hh M F N hk hdp hun hret
  refine c hh M F (News.sub N fun p hp => List.mem_append_left _ hp) hk hdp hun fun v h' tk' led EV hl hp => ?_
  refine hret v h' tk' (led ++ rest) ⟨fun b o n1 n2 e => EV.1 b o (fun z => n1 (by rw [List.map_append]; exact List.mem_append_left _ z)) n2 e, EV.2⟩ (fun p hp => ?_) ⟨led, rfl, hp, fun p hp => ?_⟩
  · rcases List.mem_append.mp hp with hp | hp
    · exact ⟨(hl p hp).1, (hl p hp).2.imp (fun z => by rw [List.map_append]; exact List.mem_append_left _ z) id⟩
    · have := N p (List.mem_append_right _ hp)
      subst hh
      refine ⟨EV.1 _ _ (dj p hp) (fun z => ?_) this.1, .inl (by rw [List.map_append]; exact List.mem_append_right _ (List.mem_map_of_mem hp))⟩
      rcases List.mem_cons.mp z with z | z
      · exact this.2.1 z
      · obtain ⟨_, o, _, _, e, _⟩ := M.live z
        rw [this.2.2] at e; cases e
  · refine (hl p hp).2.imp id fun z q => ?_
    obtain ⟨r, hr, e⟩ := List.mem_map.mp q
    have := (N r (List.mem_append_right _ hr)).1
    subst hh
    rw [e, z] at this; cases this
structure Nod where
  k : Int
  kt : Tok
  np : Int
  nt : Tok
  vs : List Value
  sc : List Int
  c : Nat
  a : Addr
  d : Addr
  l : Addr
noncomputable def Nod.ents (x : Nod) : List (Addr × Obj) := [(x.a, infoO x.d x.l x.np x.nt x.k x.kt), (x.d, dictOf [] 0), (x.l, W.listOf x.vs.toArray x.c)]
noncomputable def entsN (ns : List Nod) : List (Addr × Obj) := ns.flatMap Nod.ents
noncomputable def kvsN (ns : List Nod) : List (Int × Value) := ns.map fun x => (x.k, .ref x.a)
noncomputable def Nod.abs (x : Nod) : Int × Int × List Int := (x.k, x.np, x.sc)
structure Hd where
  S : Addr
  dS : Addr
  D : Addr
  h1 : Int
  h2 : Int
  h3 : Int
  h4 : Int
  t1 : Tok
  t2 : Tok
  t3 : Tok
  t4 : Tok
noncomputable abbrev Hd.dict (c : Hd) (rv : Value) (po nf : Int) (t5 t6 : Tok) : Obj := sorterD c.h1 c.h2 c.h3 c.h4 c.t1 c.t2 c.t3 c.t4 t5 t6 c.D rv po nf
noncomputable def srtL (c : Hd) (rv : Value) (po nf : Int) (t5 t6 : Tok) (oD : Obj) (ns : List Nod) : List (Addr × Obj) := (c.S, instObj 195 c.dS) :: (c.dS, c.dict rv po nf t5 t6) :: (c.D, oD) :: entsN ns
structure SrtOk (w : World) (c : Hd) (oD : Obj) (ns : List Nod) : Prop where
  lo : (c.D == sysModules) = false
  dict : oD.IsDictOf (intKind PG w) (kvsN ns)
  hi : ∀ x ∈ ns, IntsAre x.vs x.sc
  nd : (c.S :: c.dS :: c.D :: (entsN ns).map (·.1)).Nodup
  kn : (ns.map (·.k)).Nodup
theorem entsN_app (a b : List Nod) : entsN (a ++ b) = entsN a ++ entsN b := by simp [entsN]
theorem entsN_one (x : Nod) : entsN [x] = x.ents := by simp [entsN]
theorem entsN_cons (x : Nod) (b : List Nod) : entsN (x :: b) = x.ents ++ entsN b := by simp [entsN]
theorem valueAt_none {ns : List Nod} {k : Int} (h : k ∉ ns.map (·.k)) : valueAt (kvsN ns) k = none := by
  simp only [valueAt, kvsN, List.find?_map, Option.map_map, Option.map_eq_none_iff, List.find?_eq_none]
  intro x hx
  simp only [Function.comp, decide_eq_true_eq]
  exact fun z => h (z ▸ List.mem_map_of_mem hx)
theorem valueAt_some {ns : List Nod} {x : Nod} (hx : x ∈ ns) (kn : (ns.map (·.k)).Nodup) : valueAt (kvsN ns) x.k = some (.ref x.a) := by
  induction ns with
  | nil => cases hx
  | cons y r ih =>
    simp only [List.map_cons, List.nodup_cons] at kn
    rcases List.mem_cons.mp hx with rfl | hx
    · simp [valueAt, kvsN]
    · have hne : ¬ y.k = x.k := fun z => kn.1 (z ▸ List.mem_map_of_mem hx)
      have := ih hx kn.2
      simp only [valueAt, kvsN, List.map_cons, List.find?_cons, hne, decide_false] at this ⊢
      exact this
noncomputable def gniA (as : List (Int × Int × List Int)) (k : Int) : List (Int × Int × List Int) := if k ∈ as.map (·.1) then as else as ++ [(k, 0, [])]
theorem abs_keys (ns : List Nod) : (ns.map Nod.abs).map (·.1) = ns.map (·.k) := by simp [Nod.abs, Function.comp_def]
theorem con_gni {w : World} {h : Heap} {c : Hd} {rv : Value} {po nf : Int} {t5 t6 : Tok} {oD : Obj} {ns : List Nod} {k : Int} {kt : Tok} (ok : SrtOk w c oD ns) (hz : ns.length ≤ 1000) :
    ConX w 138 30 (srtL c rv po nf t5 t6 oD ns) [.ref c.S, .int k kt]
      (fun v led h' => ∀ G_ : Prop, (∀ oD' ns' x, (v = .ref x.a) → (x ∈ ns') → (x.k = k) → (ns'.map Nod.abs = gniA (ns.map Nod.abs) k) → (led = srtL c rv po nf t5 t6 oD' ns') → (SrtOk w c oD' ns') → G_) → G_) h := by
  revert ok hz
  revert w h c rv po nf t5 t6 oD ns k kt
  walk_at "12"; (iterate 5 (generalize zf w_ = ns; generalize zs w_ = v_; clear w_; generalize zf v_ = ns; generalize zs v_ = w_; clear v_)); generalize zf w_ = k, zs w_ = kt; clear w_; rename_i w h c rv po nf t5 t6 oD
  intro ok hz
  have nd := ok.nd
  simp only [List.nodup_cons, List.mem_cons, not_or] at nd
  obtain ⟨⟨n1, n2, nS⟩, ⟨n3, ndS⟩, nD, nE⟩ := nd
  have dj : ∀ p ∈ entsN ns, p.1 ∉ [(c.S, instObj 195 c.dS), (c.dS, c.dict rv po nf t5 t6), (c.D, oD)].map (·.1) := fun p hp z => by
    have hp' := List.mem_map_of_mem (f := fun x => x.1) hp
    simp only [List.map_cons, List.map_nil, List.mem_cons, List.not_mem_nil, or_false] at z
    rcases z with z | z | z
    · exact nS (z ▸ hp')
    · exact ndS (z ▸ hp')
    · exact nD (z ▸ hp')
  rcases Classical.em (k ∈ ns.map (·.k)) with hk | hk
  · obtain ⟨x, hx, rfl⟩ := List.mem_map.mp hk
    rw [show srtL c rv po nf t5 t6 oD ns = [(c.S, instObj 195 c.dS), (c.dS, c.dict rv po nf t5 t6), (c.D, oD)] ++ entsN ns from rfl]
    refine ConX.reled (ConX.widen (ConX.level (lv := 20) (lv' := 30) (con_gni_there (h := h) (h1 := c.h1) (h2 := c.h2) (h3 := c.h3) (h4 := c.h4) (t1 := c.t1) (t2 := c.t2) (t3 := c.t3) (t4 := c.t4) (t5 := t5) (t6 := t6) (po := po) (nf := nf) (rv := rv) (kt := kt) ok.lo ok.dict (valueAt_some hx ok.kn) n1 n2 n3) (by omega)) dj) ?_
    rintro v led h' ⟨led0, rfl, ⟨rfl, rfl⟩, _⟩
    refine ⟨_, fun p hp => hp, fun _ k_ => k_ oD ns x rfl hx rfl ?_ rfl ok⟩
    rw [gniA, if_pos (by rw [abs_keys]; exact hk)]
  · rw [show srtL c rv po nf t5 t6 oD ns = [(c.S, instObj 195 c.dS), (c.dS, c.dict rv po nf t5 t6), (c.D, oD)] ++ entsN ns from rfl]
    refine ConX.reled (ConX.widen (ConX.level (lv := 30) (lv' := 30) (con_gni_new (h := h) (h1 := c.h1) (h2 := c.h2) (h3 := c.h3) (h4 := c.h4) (t1 := c.t1) (t2 := c.t2) (t3 := c.t3) (t4 := c.t4) (t5 := t5) (t6 := t6) (po := po) (nf := nf) (rv := rv) (kt := kt) ok.lo ok.dict (valueAt_none hk) (by simpa [kvsN] using hz) n1 n2 n3) (by omega)) dj) ?_
    rintro v led h' ⟨led0, rfl, hq, hnew⟩
    revert hnew
    refine hq _ ?_
    intro a d l t cc oD' e1 hD' e2 hnd hnew
    subst e1; subst e2
    simp only [List.nodup_cons, List.mem_cons, List.not_mem_nil, or_false, not_or, List.nodup_nil, and_true, not_false_eq_true] at hnd
    obtain ⟨⟨l1, l2, l3, l4, l5⟩, ⟨a1, a2, a3, a4⟩, ⟨d1, d2, d3⟩, _⟩ := hnd
    have fl : l ∉ (entsN ns).map (·.1) := (hnew (l, _) (.head _)).resolve_left (by simp [l3, l4, l5])
    have fa : a ∉ (entsN ns).map (·.1) := (hnew (a, _) (.tail _ (.head _))).resolve_left (by simp [a2, a3, a4])
    have fd : d ∉ (entsN ns).map (·.1) := (hnew (d, _) (.tail _ (.tail _ (.head _)))).resolve_left (by simp [d1, d2, d3])
    refine ⟨srtL c rv po nf t5 t6 oD' (ns ++ [⟨k, kt, 0, t, [], [], cc, a, d, l⟩]), fun p hp => ?_, fun _ k_ => k_ oD' _ ⟨k, kt, 0, t, [], [], cc, a, d, l⟩ rfl (by simp) rfl ?_ rfl ⟨ok.lo, ?_, ?_, ?_, ?_⟩⟩
    · simp only [srtL, entsN_app, entsN_one, Nod.ents, List.mem_cons, List.mem_append, List.not_mem_nil, or_false] at hp ⊢
      rcases hp with h | h | h | h | h | h | h <;> first | ((repeat' first | exact h | exact Or.inl h | apply Or.inr); done) | simp [h]
    · rw [gniA, if_neg (by rw [abs_keys]; exact hk)]
      simp [Nod.abs]
    · simpa [kvsN] using hD'
    · intro x hx
      rcases List.mem_append.mp hx with hx | hx
      · exact ok.hi x hx
      · rw [List.mem_singleton.mp hx]; exact .nil
    · simp only [entsN_app, entsN_one, Nod.ents, List.map_append, List.map_cons, List.map_nil]
      have E : ((entsN ns).map (·.1) ++ [a, d, l]).Nodup := by
        rw [List.nodup_append]
        refine ⟨nE, by simp [a1, Ne.symm l2, Ne.symm l1], fun x hx y hy => ?_⟩
        simp only [List.mem_cons, List.not_mem_nil, or_false] at hy
        rintro rfl
        rcases hy with rfl | rfl | rfl
        · exact fa hx
        · exact fd hx
        · exact fl hx
      refine List.nodup_cons.mpr ⟨?_, List.nodup_cons.mpr ⟨?_, List.nodup_cons.mpr ⟨?_, E⟩⟩⟩
      · simp only [List.mem_cons, List.mem_append, not_or, List.not_mem_nil, not_false_eq_true, and_true]
        exact ⟨n1, n2, nS, Ne.symm a2, Ne.symm d1, Ne.symm l3⟩
      · simp only [List.mem_cons, List.mem_append, not_or, List.not_mem_nil, not_false_eq_true, and_true]
        exact ⟨n3, ndS, Ne.symm a3, Ne.symm d2, Ne.symm l4⟩
      · simp only [List.mem_cons, List.mem_append, not_or, List.not_mem_nil, not_false_eq_true, and_true]
        exact ⟨nD, Ne.symm a4, Ne.symm d3, Ne.symm l5⟩
    · rw [List.map_append, List.nodup_append]
      refine ⟨ok.kn, by simp, fun x hx y hy => ?_⟩
      simp only [List.map_cons, List.map_nil, List.mem_cons, List.not_mem_nil, or_false] at hy
      rintro rfl
      exact hk (hy ▸ hx)
end
local macro_rules | `(tactic| walk_at $s) => zd ["pyIter ref"] [] s
section
noncomputable def npA (as : List (Int × Int × List Int)) (k : Int) (n : Int) : List (Int × Int × List Int) := as.map fun e => if e.1 = k then (e.1, e.2.1 + n, e.2.2) else e
noncomputable def scA (as : List (Int × Int × List Int)) (p k : Int) : List (Int × Int × List Int) := as.map fun e => if e.1 = p then (e.1, e.2.1, e.2.2 ++ [k]) else e
noncomputable def addStep (k : Int) (as : List (Int × Int × List Int)) (p : Int) : List (Int × Int × List Int) := scA (gniA as p) p k
noncomputable def addA (as : List (Int × Int × List Int)) (k : Int) (ps : List Int) : List (Int × Int × List Int) := ps.foldl (addStep k) (npA (gniA as k) k ps.length)
noncomputable def Bnd (B : Nat) (as : List (Int × Int × List Int)) : Prop := ∀ e ∈ as, e.2.2.length ≤ B
theorem Bnd.gni {B : Nat} {as : List (Int × Int × List Int)} (h : Bnd B as) (k : Int) : Bnd B (gniA as k) := by
  unfold gniA; split
  · exact h
  · intro e he
    rcases List.mem_append.mp he with he | he
    · exact h e he
    · rw [List.mem_singleton.mp he]; exact Nat.zero_le _
theorem Bnd.npA {B : Nat} {as : List (Int × Int × List Int)} (h : Bnd B as) (k n : Int) : Bnd B (npA as k n) := fun e he => by
  obtain ⟨y, hy, rfl⟩ := List.mem_map.mp he
  split <;> exact h y hy
theorem Bnd.scA {B : Nat} {as : List (Int × Int × List Int)} (h : Bnd B as) (p k : Int) : Bnd (B + 1) (scA as p k) := fun e he => by
  obtain ⟨y, hy, rfl⟩ := List.mem_map.mp he
  have := h y hy
  split
  · simp only [List.length_append, List.length_cons, List.length_nil]; omega
  · omega
theorem Bnd.fold {k : Int} : ∀ (l : List Int) {B : Nat} {as : List (Int × Int × List Int)}, Bnd B as → Bnd (B + l.length) (l.foldl (addStep k) as)
  | [], _, _, h => h
  | p :: r, B, _, h => by
    have := Bnd.fold (k := k) r ((h.gni p).scA p k)
    intro e he
    have := this e he
    simp only [List.length_cons]
    omega
theorem AllLt.all {rest : List (Addr × Obj)} {d : Addr} (h : AllLt d rest) : ∀ p ∈ rest, p.1 ≠ d := by
  induction rest with
  | nil => intro p hp; cases hp
  | cons y r ih =>
    simp only [AllLt] at h
    intro p hp
    rcases List.mem_cons.mp hp with rfl | hp
    · exact Nat.ne_of_lt h.1
    · exact ih h.2 p hp
theorem tail_off {rest : List (Addr × Obj)} {T : Addr} (h : T ∉ rest.map (·.1)) : ∀ p ∈ rest, p.1 ≠ T := fun p hp e => h (e ▸ List.mem_map_of_mem hp)
theorem led_off {g h : Heap} {L : Addr} {mu rest led : List (Addr × Obj)} (N : News g L h rest) (dj : ∀ p ∈ rest, p.1 ∉ mu.map (·.1)) (hled : ∀ p ∈ led, p.1 ∈ mu.map (·.1) ∨ h.get? p.1 = none) : ∀ p ∈ rest, p.1 ∉ led.map (·.1) := fun p hp z => by
  obtain ⟨q, hq, e⟩ := List.mem_map.mp z
  have e : q.1 = p.1 := e
  rcases hled q hq with y | y
  · exact dj p hp (e ▸ y)
  · rw [e, (N p hp).1] at y; cases y
theorem SrtOk.apart {w : World} {c : Hd} {oD : Obj} {pre post : List Nod} {x : Nod} (ok : SrtOk w c oD (pre ++ x :: post)) : (c.S :: c.dS :: c.D :: x.a :: x.d :: x.l :: (entsN pre ++ entsN post).map (·.1)).Nodup := by
  refine (List.Perm.nodup_iff ?_).mp ok.nd
  refine List.Perm.cons _ (List.Perm.cons _ (List.Perm.cons _ ?_))
  rw [entsN_app, entsN_cons, List.map_append, List.map_append, List.map_append]
  refine List.Perm.trans (List.perm_append_comm_assoc _ _ _) ?_
  simp [Nod.ents]
theorem mixOut {α : Type} {h P e Q r : List α} {p : α} (hp : p ∈ h ++ (e ++ (r ++ (P ++ Q)))) : p ∈ r ++ (h ++ (P ++ (e ++ Q))) := by
  simp only [List.mem_append] at hp ⊢
  rcases hp with a | a | a | a | a
  · exact .inr (.inl a)
  · exact .inr (.inr (.inr (.inl a)))
  · exact .inl a
  · exact .inr (.inr (.inl a))
  · exact .inr (.inr (.inr (.inr a)))
theorem mixIn {α : Type} {h P e Q r1 r2 : List α} {p : α} (hp : p ∈ (r1 ++ r2) ++ (h ++ (P ++ (e ++ Q)))) : p ∈ r1 ++ (h ++ (e ++ (r2 ++ (P ++ Q)))) := by
  simp only [List.mem_append] at hp ⊢
  rcases hp with (a | a) | a | a | a | a
  · exact .inl a
  · exact .inr (.inr (.inr (.inl a)))
  · exact .inr (.inl a)
  · exact .inr (.inr (.inr (.inr (.inl a))))
  · exact .inr (.inr (.inl a))
  · exact .inr (.inr (.inr (.inr (.inr a))))
theorem mem_swap {α : Type} {a b : List α} {p : α} (h : p ∈ a ++ b) : p ∈ b ++ a := List.mem_append.mpr (List.mem_append.mp h).symm
theorem entsN_mid (pre post : List Nod) (x : Nod) : entsN (pre ++ x :: post) = entsN pre ++ (x.ents ++ entsN post) := (entsN_app _ _).trans (congrArg _ (entsN_cons _ _))
theorem srt_out {c : Hd} {rv : Value} {po nf : Int} {t5 t6 : Tok} {oD : Obj} {pre post : List Nod} {x : Nod} {g h : Heap} {L : Addr} (r : List (Addr × Obj)) (N : News g L h (r ++ srtL c rv po nf t5 t6 oD (pre ++ x :: post))) :
    News g L h ((c.S, instObj 195 c.dS) :: (c.dS, c.dict rv po nf t5 t6) :: (c.D, oD) :: (x.a, infoO x.d x.l x.np x.nt x.k x.kt) :: (x.d, dictOf [] 0) :: (x.l, W.listOf x.vs.toArray x.c) :: (r ++ (entsN pre ++ entsN post))) := by
  unfold srtL at N
  rw [entsN_mid] at N
  exact News.sub N fun p hp => mixOut (h := [(c.S, instObj 195 c.dS), (c.dS, c.dict rv po nf t5 t6), (c.D, oD)]) (e := x.ents) hp
theorem srt_in {c : Hd} {rv : Value} {po nf : Int} {t5 t6 : Tok} {oD : Obj} {pre post : List Nod} {x : Nod} {g h : Heap} {L : Addr} (r1 r2 : List (Addr × Obj)) (N : News g L h (r1 ++ (c.S, instObj 195 c.dS) :: (c.dS, c.dict rv po nf t5 t6) :: (c.D, oD) :: (x.a, infoO x.d x.l x.np x.nt x.k x.kt) :: (x.d, dictOf [] 0) :: (x.l, W.listOf x.vs.toArray x.c) :: (r2 ++ (entsN pre ++ entsN post)))) :
    News g L h (r1 ++ r2 ++ srtL c rv po nf t5 t6 oD (pre ++ x :: post)) := by
  unfold srtL
  rw [entsN_mid]
  exact News.sub N fun p hp => mixIn (h := [(c.S, instObj 195 c.dS), (c.dS, c.dict rv po nf t5 t6), (c.D, oD)]) (e := x.ents) hp
theorem srt_split {c : Hd} {rv : Value} {po nf : Int} {t5 t6 : Tok} {oD : Obj} {pre post : List Nod} {x : Nod} {r : List (Addr × Obj)} {g h : Heap} {L : Addr} (N : News g L h (srtL c rv po nf t5 t6 oD (pre ++ x :: post) ++ r)) :
    News g L h ((c.S, instObj 195 c.dS) :: (c.dS, c.dict rv po nf t5 t6) :: (c.D, oD) :: (x.a, infoO x.d x.l x.np x.nt x.k x.kt) :: (x.d, dictOf [] 0) :: (x.l, W.listOf x.vs.toArray x.c) :: (r ++ (entsN pre ++ entsN post))) :=
  srt_out r (News.sub N fun _ => mem_swap)
theorem srt_off {c : Hd} {rv : Value} {po nf : Int} {t5 t6 : Tok} {oD : Obj} {pre post : List Nod} {x : Nod} {T : Addr} (h : T ∉ (srtL c rv po nf t5 t6 oD (pre ++ x :: post)).map (·.1)) : T ∉ (c.S :: c.dS :: c.D :: x.a :: x.d :: x.l :: (entsN pre ++ entsN post).map (·.1)) := fun z => h (by
  obtain ⟨p, hp, e⟩ := List.mem_map.mp (show T ∈ List.map (·.1) ([(c.S, instObj 195 c.dS), (c.dS, c.dict rv po nf t5 t6), (c.D, oD)] ++ (x.ents ++ ([] ++ (entsN pre ++ entsN post)))) from z)
  unfold srtL
  rw [entsN_mid]
  exact List.mem_map.mpr ⟨p, mixOut hp, e⟩)
theorem kvsN_upd {pre post : List Nod} {x y : Nod} (h : y.k = x.k) (h2 : y.a = x.a) : kvsN (pre ++ y :: post) = kvsN (pre ++ x :: post) := by
  unfold kvsN
  rw [List.map_append, List.map_append, List.map_cons, List.map_cons, h, h2]
theorem ents_upd {pre post : List Nod} {x y : Nod} (h : y.ents.map (·.1) = x.ents.map (·.1)) : (entsN (pre ++ y :: post)).map (·.1) = (entsN (pre ++ x :: post)).map (·.1) := by
  rw [entsN_mid, entsN_mid, List.map_append, List.map_append, List.map_append, List.map_append, h]
theorem srt_addr {c : Hd} {rv rv' : Value} {po nf po' nf' : Int} {t5 t6 t5' t6' : Tok} {oD oD' : Obj} {pre post : List Nod} {x : Nod} (np : Int) (nt : Tok) (vs : List Value) (sc : List Int) (cc : Nat) :
    (srtL c rv po nf t5 t6 oD (pre ++ { x with np := np, nt := nt, vs := vs, sc := sc, c := cc } :: post)).map (·.1) = (srtL c rv' po' nf' t5' t6' oD' (pre ++ x :: post)).map (·.1) :=
  congrArg (fun l => c.S :: c.dS :: c.D :: l) (ents_upd rfl)
theorem SrtOk.upd {w : World} {c : Hd} {oD : Obj} {pre post : List Nod} {x : Nod} (ok : SrtOk w c oD (pre ++ x :: post)) (np : Int) (nt : Tok) (vs : List Value) (sc : List Int) (cc : Nat) (hi : IntsAre vs sc) :
    SrtOk w c oD (pre ++ { x with np := np, nt := nt, vs := vs, sc := sc, c := cc } :: post) where
  lo := ok.lo
  dict := (kvsN_upd (pre := pre) (post := post) (x := x) (y := { x with np := np, nt := nt, vs := vs, sc := sc, c := cc }) rfl rfl).symm ▸ ok.dict
  hi := fun y hy => by
    rcases List.mem_append.mp hy with hy | hy
    · exact ok.hi y (List.mem_append_left _ hy)
    · rcases List.mem_cons.mp hy with rfl | hy
      · exact hi
      · exact ok.hi y (List.mem_append_right _ (.tail _ hy))
  nd := (ents_upd (pre := pre) (post := post) (x := x) (y := { x with np := np, nt := nt, vs := vs, sc := sc, c := cc }) rfl).symm ▸ ok.nd
  kn := by rw [List.map_append, List.map_cons]; have := ok.kn; rw [List.map_append, List.map_cons] at this; exact this
theorem gniA_len (as : List (Int × Int × List Int)) (k : Int) : (gniA as k).length ≤ as.length + 1 := by
  unfold gniA; split
  · omega
  · simp
theorem npA_len (as : List (Int × Int × List Int)) (k n : Int) : (npA as k n).length = as.length := by simp [npA]
theorem scA_len (as : List (Int × Int × List Int)) (p k : Int) : (scA as p k).length = as.length := by simp [scA]
theorem npA_split {pre post : List Nod} {x : Nod} (kn : ((pre ++ x :: post).map (·.k)).Nodup) (n : Int) (nt : Tok) : (pre ++ { x with np := x.np + n, nt := nt } :: post).map Nod.abs = npA ((pre ++ x :: post).map Nod.abs) x.k n := by
  rw [List.map_append, List.map_cons, List.nodup_append] at kn
  obtain ⟨_, k2, k3⟩ := kn
  have hp : ∀ y ∈ pre, y.k ≠ x.k := fun y hy => k3 _ (List.mem_map_of_mem hy) _ (.head _)
  have hq : ∀ y ∈ post, y.k ≠ x.k := fun y hy e => (List.nodup_cons.mp k2).1 (e ▸ List.mem_map_of_mem hy)
  simp only [npA, List.map_append, List.map_cons, List.map_map, Nod.abs]
  congr 1
  · refine List.map_congr_left fun y hy => ?_
    exact (if_neg (hp y hy)).symm
  · simp only [if_true]
    congr 1
    refine List.map_congr_left fun y hy => ?_
    exact (if_neg (hq y hy)).symm
theorem scA_split {pre post : List Nod} {x : Nod} (kn : ((pre ++ x :: post).map (·.k)).Nodup) (k : Int) (vs : List Value) (cc : Nat) : (pre ++ { x with vs := vs, sc := x.sc ++ [k], c := cc } :: post).map Nod.abs = scA ((pre ++ x :: post).map Nod.abs) x.k k := by
  rw [List.map_append, List.map_cons, List.nodup_append] at kn
  obtain ⟨_, k2, k3⟩ := kn
  have hp : ∀ y ∈ pre, y.k ≠ x.k := fun y hy => k3 _ (List.mem_map_of_mem hy) _ (.head _)
  have hq : ∀ y ∈ post, y.k ≠ x.k := fun y hy e => (List.nodup_cons.mp k2).1 (e ▸ List.mem_map_of_mem hy)
  simp only [scA, List.map_append, List.map_cons, List.map_map, Nod.abs]
  congr 1
  · refine List.map_congr_left fun y hy => ?_
    exact (if_neg (hp y hy)).symm
  · simp only [if_true]
    congr 1
    refine List.map_congr_left fun y hy => ?_
    exact (if_neg (hq y hy)).symm
theorem nodup_new {I : Addr} {l l' : List (Addr × Obj)} (lt : ∀ p ∈ l, p.1 < I) (hs : ∀ z ∈ l'.map (·.1), z ∈ l.map (·.1)) (nd : (l'.map (·.1)).Nodup) : (I :: l'.map (·.1)).Nodup :=
  List.nodup_cons.mpr ⟨fun z => by
    obtain ⟨p, hp, e⟩ := List.mem_map.mp (hs _ z)
    exact absurd (lt p hp) (by rw [show p.1 = I from e]; exact Nat.lt_irrefl _), nd⟩
noncomputable def ConXc (w : World) (f : Addr) (lv : Nat) (mu : List (Addr × Obj)) (vs : List Value) (Post : Value → List (Addr × Obj) → Heap → Prop) (h : Heap) : Prop :=
  ∀ ⦃mean : ExcName → Option Value⦄ ⦃mg mb : Str → Option Value⦄ ⦃dp un : Nat⦄ ⦃gd : Option (List Code)⦄ ⦃cn : Str⦄ ⦃cs : Scope⦄ ⦃a : Addr⦄ ⦃ccd : Value⦄ ⦃cl : List (Str × Addr)⦄ ⦃outer : List Env⦄ ⦃A₀ : Around⦄ ⦃base h₀ : Heap⦄ ⦃L : Addr⦄
    ⦃m : Str → Option Value⦄ ⦃s : Shared⦄ ⦃R : Result → Shared → Prop⦄,
    s.heap = h → Am w mean mg mb A₀ base outer h₀ → Fr h₀ L s.heap m → News h₀ L s.heap mu → cs.kind = .function → dp + lv < recursionLimit → un + lv < cLine →
    (∀ v h' tk' led, Ev (mu.map (·.1)) (L :: fsOf outer) h h' → (∀ p ∈ led, h'.get? p.1 = some p.2 ∧ (p.1 ∈ mu.map (·.1) ∨ h.get? p.1 = none)) → Post v led h' → R (.ok (.ret v)) { s with heap := h', toks := tk' }) →
    codeAny (model PG w) (ktrTop dp un gd cn cs L a ccd cl outer) (.call (.ref f) ⟨vs, []⟩) R s
structure Lc where
  mean : ExcName → Option Value
  mg : Str → Option Value
  mb : Str → Option Value
  dp : Nat
  un : Nat
  gd : Option (List Code)
  cn : Str
  cs : Scope
  a : Addr
  ccd : Value
  cl : List (Str × Addr)
  outer : List Env
  A₀ : Around
  base : Heap
  h₀ : Heap
  L : Addr
  m : Str → Option Value
  s : Shared
  R : Result → Shared → Prop
theorem neLc : Nonempty Lc := ⟨⟨default, default, default, default, default, default, default, default, default, default, default, default, {}, default, default, default, default, {}, default⟩⟩
noncomputable def ConXcat (w : World) (f : Addr) (lv : Nat) (mu : List (Addr × Obj)) (vs : List Value) (Post : Value → List (Addr × Obj) → Heap → Prop) (h : Heap) (c : Lc) : Prop :=
  c.s.heap = h → Am w c.mean c.mg c.mb c.A₀ c.base c.outer c.h₀ → Fr c.h₀ c.L c.s.heap c.m → News c.h₀ c.L c.s.heap mu → c.cs.kind = .function → c.dp + lv < recursionLimit → c.un + lv < cLine →
    (∀ v h' tk' led, Ev (mu.map (·.1)) (c.L :: fsOf c.outer) h h' → (∀ p ∈ led, h'.get? p.1 = some p.2 ∧ (p.1 ∈ mu.map (·.1) ∨ h.get? p.1 = none)) → Post v led h' → c.R (.ok (.ret v)) { c.s with heap := h', toks := tk' }) →
    codeAny (model PG w) (ktrTop c.dp c.un c.gd c.cn c.cs c.L c.a c.ccd c.cl c.outer) (.call (.ref f) ⟨vs, []⟩) c.R c.s
noncomputable def wXc (w : World) (f : Addr) (lv : Nat) (mu : List (Addr × Obj)) (vs : List Value) (Post : Value → List (Addr × Obj) → Heap → Prop) (h : Heap) : Lc := zwt neLc fun c => ConXcat w f lv mu vs Post h c
theorem ConXc.hk {w : World} {f : Addr} {lv : Nat} {mu : List (Addr × Obj)} {vs : List Value} {Post : Value → List (Addr × Obj) → Heap → Prop} {h : Heap} (H : ConXcat w f lv mu vs Post h (wXc w f lv mu vs Post h)) : ConXc w f lv mu vs Post h := by
  have K : ∀ c, ConXcat w f lv mu vs Post h c := zk0 neLc H
  intro mean mg mb dp un gd cn cs a ccd cl outer A₀ base h₀ L m s R
  exact K ⟨mean, mg, mb, dp, un, gd, cn, cs, a, ccd, cl, outer, A₀, base, h₀, L, m, s, R⟩
theorem ConXc.con {w : World} {f : Addr} {lv : Nat} {mu : List (Addr × Obj)} {vs : List Value} {Post : Value → List (Addr × Obj) → Heap → Prop} {h : Heap} (c : ConXc w f lv mu vs Post h) : ConX w f lv mu vs Post h := by
  intro mean mg mb dp un gd cn cs a ccd cl outer A₀ base h₀ L m s Q E hh M F N hk hdp hun hret
  exact wpAny_call (c hh M F N hk hdp hun hret)
section
local macro_rules | `(tactic| k_all) => ztf
local macro_rules | `(tactic| k_all) => zaa
local macro_rules | `(tactic| walk_at $s) => zd ["call ref", "exec For Name Name cons nil"] [("call builtin:len", zlen)] s
local macro_rules | `(tactic| walk_at $s) => zd [] [] s
theorem con_addc {w : World} {h : Heap} {c : Hd} {po nf : Int} {t5 t6 : Tok} {oD : Obj} {ns : List Nod} {k : Int} {kt : Tok} {vs : List Value} {ps : List Int} (ok : SrtOk w c oD ns) (hz : ns.length ≤ 900) (h5 : ps.length ≤ 5) (hB : Bnd 900 (ns.map Nod.abs)) (iv : IntsAre vs ps) :
    ConXc w 145 50 (srtL c .none po nf t5 t6 oD ns) (.ref c.S :: .int k kt :: vs)
      (fun v led h' => ∀ G_ : Prop, (∀ oD' ns', (v = .none) → (ns'.map Nod.abs = addA (ns.map Nod.abs) k ps) → (led = srtL c .none po nf t5 t6 oD' ns') → (SrtOk w c oD' ns') → G_) → G_) h := by
  revert ok hz h5 hB iv
  revert w h c po nf t5 t6 oD ns k kt vs ps
  walk_at "13"; (iterate 5 (generalize zf w_ = kt; generalize zs w_ = v_; clear w_; generalize zf v_ = kt; generalize zs v_ = w_; clear v_)); generalize zf w_ = kt; generalize zs w_ = v_; clear w_; generalize zf v_ = vs, zs v_ = ps; clear v_; rename_i w h c po nf t5 t6 oD ns k
  intro ok hz h5 hB iv
  refine ConXc.hk ?_; generalize wXc _ _ _ _ _ _ _ = c_; delta ConXcat; generalize c_.mean = mean, c_.mg = mg, c_.mb = mb, c_.dp = dp, c_.un = un, c_.gd = gd, c_.cn = cn, c_.cs = cs, c_.a = a, c_.ccd = ccd, c_.cl = cl, c_.outer = outer, c_.A₀ = A₀, c_.base = base, c_.h₀ = h₀, c_.L = L, c_.m = m, c_.s = s, c_.R = Rz
  intro hh M F N hk hdp hun hret
  subst hh
  have X := M.X
  refine' enterXV (vs := vs) (g₁ := fun D => some [(Str.ofString "self", .ref c.S), (Str.ofString "node", .int k kt), (Str.ofString "predecessors", .ref D)]) ?k1 ?k2 ?k4 ?kK ?k6 ?k7 ?k8 ?kP ?kG ?kB ?_ ?c2 ?c3 ?c4 ?c5
  (case kK => assumption)
  (case k1 => assumption)
  (case k2 => assumption)
  (case k4 => assumption)
  (case k6 => k_is)
  (case k7 => k_is)
  (case k8 => omega)
  (case c5 => decide)
  (case kP =>
    have hl := iv.length
    rcases vs with _ | ⟨v1, _ | ⟨v2, _ | ⟨v3, _ | ⟨v4, _ | ⟨v5, _ | ⟨v6, r⟩⟩⟩⟩⟩⟩
    · exact rfl
    · exact rfl
    · exact rfl
    · exact rfl
    · exact rfl
    · exact rfl
    · simp only [List.length_cons] at hl; omega)
  (case kG => exact fun _ => rfl)
  (case kB => exact fun _ => locs rfl)
  (case c2 => exact rfl)
  (case c3 => exact rfl)
  (case c4 => exact rfl)
  walk_at "4"; generalize zf w_ = T, zf (zs w_) = g, zf (zs (zs w_)) = L', zs (zs (zs w_)) = h₁
  intro sg gs eT eL lt F' N' M'
  (try dsimp only)
  refine wpAny_noRaise ?_
  have B' := M'.B
  have X' := M'.X
  have T' := M'.T
  dsimp only [srtL] at lt N'
  k_lt lt
  k_steps
  refine Blk.out ?_
  have ndT : T ∉ (srtL c .none po nf t5 t6 oD ns).map (·.1) := fun z => by
    obtain ⟨p, hp, e⟩ := List.mem_map.mp z
    exact absurd (Heap.lt_size (N p hp).1) (by rw [e, eT]; exact Nat.lt_irrefl _)
  refine ConX.use (dp := dp + 1) (un := un + 3) (all := (T, tupE vs) :: srtL c .none po nf t5 t6 oD ns) (con_gni (kt := kt) (k := k) (rv := .none) (po := po) (nf := nf) (t5 := t5) (t6 := t6) ok (by omega)) M' (by assumption) (by assumption) (fun p hp => List.mem_cons_of_mem _ hp) [(T, tupE vs)] (fun p hp => ?_) rfl (by omega) (by omega) ?_
  · obtain rfl := List.mem_singleton.mp hp
    exact ⟨.head _, ndT⟩
  intro v h2 tk2 g2 led t2 M2 F2 N2 hled hI10_; (first | rw [hIv0] at hI10_ | skip); refine hI10_ _ ?_; clear hI10_; intro oD2 ns2 x e11_ hx hxk ab2 e12_ ok2; subst e11_; subst e12_
  have ndT2 : T ∉ (srtL c .none po nf t5 t6 oD2 ns2).map (·.1) := led_off (mu := srtL c .none po nf t5 t6 oD ns) (News.sub (‹News g L' h₁ _›) (led' := [(T, tupE vs)]) (by simp)) (by simpa using ndT) hled _ (.head _)
  obtain ⟨pre, post, rfl⟩ := List.append_of_mem hx
  have N3 := srt_split N2
  clear N2
  refine apartE7 (List.nodup_cons.mpr ⟨srt_off ndT2, ok2.apart⟩) ?_; intro q0_1 q0_2 q0_3 q0_4 q0_5 q0_6 q1_2 q1_3 q1_4 q1_5 q1_6 q2_3 q2_4 q2_5 q2_6 q3_4 q3_5 q3_6 q4_5 q4_6 q5_6 qm0 qm1 qm2 qm3 qm4 qm5 qm6
  k_sweep
  dsimp only
  simp only [List.cons_append, List.nil_append] at N3
  clear X' T' B'
  have X' := M2.X
  have T' := M2.T
  have lenE : (vs.toArray.size : Int) = ps.length := by rw [List.size_toArray, iv.length]
  have lenB : (ps.length : Int) ≤ 16384 := by omega
  k_steps
  refine Blk.out ?_
  refine for_raw ?_
  k_steps
  refine Blk.out ?_
  rename Fr g2 L' _ _ => F5
  rename News g2 L' _ _ => N5
  refine it_tup (T := T) (vs := vs) (c := 0) rfl F5 N5 (News.sub N5 (led' := [(T, tupE vs)]) (by simp) _ (.head _)).1 ?_
  intro I h6 oI F6 N6 lt6 ltI W hO
  have okA := ok2.upd (x.np + ps.length) x.nt x.vs x.sc x.c (ok2.hi x hx)
  have kk : ∀ nt, ((pre ++ { x with np := x.np + ps.length, nt := nt } :: post).map Nod.abs) = npA (gniA (ns.map Nod.abs) k) k ps.length := fun nt => by rw [npA_split ok2.kn, ab2, hxk]
  obtain ⟨Iv1, hIv1⟩ : ∃ Iv1 : Nat → Shared → Prop, Iv1 = fun n s' => ∀ G_ : Prop, (∀ i g3 h tk m' oD3 ns3 oI, (s' = { s with heap := h, toks := tk }) → (m' (Str.ofString "self") = some (.ref c.S)) → (m' (Str.ofString "node") = some (.int k kt)) → (KtsTurn (L :: fsOf outer) g g3) → (Am w mean mg mb (ktrTop dp un gd cn cs L a ccd cl outer) base (envX cn cs L a ccd cl :: outer) g3) → (Fr g3 L' h m') → (News g3 L' h ([(I, oI), (T, tupE vs)] ++ srtL c .none po nf t5 t6 oD3 ns3)) → (SrtOk w c oD3 ns3) → ((I :: T :: (srtL c .none po nf t5 t6 oD3 ns3).map (·.1)).Nodup) → (ItO (tSt I T vs) I T oI (tupE vs) i) → (i ≤ vs.length) → (n = vs.length - i) → (ns3.map Nod.abs = (ps.take i).foldl (addStep k) (npA (gniA (ns.map Nod.abs) k) k ps.length)) → (ns3.length ≤ ns.length + 1 + i) → G_) → G_ := ⟨_, rfl⟩
  refine ⟨Iv1, vs.length, ?_, ?_⟩
  rw [hIv1]
  refine (fun _ k_ => k_ 0 g2 h6 _ _ oD2 (pre ++ { x with np := x.np + ps.length, nt := _ } :: post) oI rfl rfl rfl t2 M2 F6 (srt_in [(I, oI)] [(T, tupE vs)] (x := { x with np := x.np + ps.length, nt := _ }) N6) (ok2.upd _ _ _ _ _ (ok2.hi x hx)) ?_ hO (Nat.zero_le _) rfl (kk _) ?_)
  · refine nodup_new (l' := (T, tupE vs) :: srtL c .none po nf t5 t6 oD2 (pre ++ { x with np := x.np + ps.length, nt := _ } :: post)) lt6 (fun z hz => ?_) (List.nodup_cons.mpr ⟨?_, (ok2.upd _ _ _ _ _ (ok2.hi x hx)).nd⟩)
    · simp only [srtL, entsN_app, entsN_cons, Nod.ents, List.map_cons, List.map_append, List.map_nil, List.mem_cons, List.mem_append, List.not_mem_nil, or_false, or_assoc, List.cons_append, List.nil_append] at hz ⊢
      rcases hz with h | h | h | h | h | h | h | h | h <;> first | ((repeat' first | exact h | exact Or.inl h | apply Or.inr); done) | simp [h]
    · rw [srt_addr (rv' := .none) (po' := po) (nf' := nf) (t5' := t5) (t6' := t6) (oD' := oD2)]
      exact ndT2
  · have := congrArg List.length (kk 0)
    rw [List.length_map, npA_len] at this
    have h2 := gniA_len (ns.map Nod.abs) k
    rw [List.length_map] at h2
    simp only [List.length_append, List.length_cons] at this ⊢
    omega
  intro n s' hI13_; (first | rw [hIv1] at hI13_ | skip); refine hI13_ _ ?_; clear hI13_; intro i g3 h tk m' oD3 ns3 oI3 e14_ m1 m2 t3 M3 F3 N3 ok3 nd3 hO3 hi e15_ ab3 ln3; subst e14_; subst e15_
  have st := hO3 h (N3 (I, oI3) (.head _)).1 (N3 (T, tupE vs) (.tail _ (.head _))).1
  have ndI := (List.nodup_cons.mp nd3).1
  have ndT3 := (List.nodup_cons.mp (List.nodup_cons.mp nd3).2).1
  have F3' := frk F3 _ (kn1 m1 (kn1 m2 kn0))
  by_cases hil : i < vs.length
  · refine walk_item W tSt.get F3' N3 (UpdF.head (tail_off ndI)) st hil ?_
    intro v h4 tk4 oI4 hv st4 F4 N4
    have hO4 : ItO (tSt I T vs) I T oI4 (tupE vs) (i + 1) := ItO.of W st4 (N4 _ (.head _)).1 (N4 (T, tupE vs) (.tail _ (.head _))).1
    have hip : i < ps.length := by rw [← iv.length]; exact hil
    refine exE1 (ints_at iv i hip) fun t ht => ?_
    rw [List.getElem?_toArray, hv] at ht
    obtain rfl := Option.some.inj ht
    dsimp only [ForTurn]
    clear N5 F5 N6 F6 N3 F3 F3' X' T'
    have X' := M3.X
    have T' := M3.T
    k_steps
    refine Blk.out ?_
    rename Fr g3 L' _ _ => F5
    rename News g3 L' _ _ => N5
    refine ConX.use (dp := dp + 1) (un := un + 3) (all := [(I, oI4), (T, tupE vs)] ++ srtL c .none po nf t5 t6 oD3 ns3) (con_gni (kt := t) (k := ps[i]) (rv := .none) (po := po) (nf := nf) (t5 := t5) (t6 := t6) ok3 (by omega)) M3 F5 N5 (fun p hp => List.mem_append_right _ hp) [(I, oI4), (T, tupE vs)] (fun p hp => ⟨List.mem_append_left _ hp, ?_⟩) rfl (by omega) (by omega) ?_
    · simp only [List.mem_cons, List.not_mem_nil, or_false] at hp
      rcases hp with rfl | rfl
      · exact fun z => ndI (.tail _ z)
      · exact ndT3
    intro v h5 tk5 g5 led t5' M5 F6 N6 hled hI16_; (first | rw [hIv1] at hI16_ | skip); refine hI16_ _ ?_; clear hI16_; intro oD5 ns5 y e17_ hy hyk ab5 e18_ ok5; subst e17_; subst e18_
    have off := led_off (mu := srtL c .none po nf t5 t6 oD3 ns3) (News.sub N5 (led' := [(I, oI4), (T, tupE vs)]) (fun p hp => List.mem_append_left _ hp)) (fun p hp => by
      simp only [List.mem_cons, List.not_mem_nil, or_false] at hp
      rcases hp with rfl | rfl
      · exact fun z => ndI (.tail _ z)
      · exact ndT3) hled
    have oI' := off _ (.head _)
    have oT' := off _ (.tail _ (.head _))
    have neIT : I ≠ T := fun z => ndI (z ▸ .head _)
    obtain ⟨pre', post', rfl⟩ := List.append_of_mem hy
    have N7 := srt_split N6
    clear N6
    refine apartE8 (List.nodup_cons.mpr ⟨fun z => (List.mem_cons.mp z).elim neIT (srt_off oI'), List.nodup_cons.mpr ⟨srt_off oT', ok5.apart⟩⟩) ?_; intro q0_1 q0_2 q0_3 q0_4 q0_5 q0_6 q0_7 q1_2 q1_3 q1_4 q1_5 q1_6 q1_7 q2_3 q2_4 q2_5 q2_6 q2_7 q3_4 q3_5 q3_6 q3_7 q4_5 q4_6 q4_7 q5_6 q5_7 q6_7 qm0 qm1 qm2 qm3 qm4 qm5 qm6 qm7
    k_sweep
    dsimp only
    simp only [List.cons_append, List.nil_append] at N7
    clear X' T' N5 F5
    have X' := M5.X
    have T' := M5.T
    have lvy := (ok5.hi y hy).length
    have lvb : y.sc.length ≤ 900 + (ps.take i).length := by
      have h1 := Bnd.fold (k := k) (ps.take i) ((hB.gni k).npA k ps.length)
      rw [← ab3] at h1
      have h2 := h1.gni ps[i]
      rw [← ab5] at h2
      exact h2 _ (List.mem_map_of_mem hy)
    rw [List.length_take] at lvb
    k_steps
    rename Fr g5 L' _ _ => F8
    rename News g5 L' _ _ => N8
    simp only [List.push_toArray] at N8
    have abN : (pre' ++ { y with vs := y.vs ++ [.int k kt], sc := y.sc ++ [k], c := y.c + 1 } :: post').map Nod.abs = (ps.take (i + 1)).foldl (addStep k) (npA (gniA (ns.map Nod.abs) k) k ps.length) := by
      rw [scA_split ok5.kn, ab5, ab3, List.take_succ_eq_append_getElem hip, List.foldl_append, hyk]
      rfl
    refine ⟨vs.length - (i + 1), by omega, ?_⟩
    first | rw [hIv1]
    refine (fun _ k_ => k_ (i + 1) g5 _ _ _ oD5 (pre' ++ { y with vs := y.vs ++ [.int k kt], sc := y.sc ++ [k], c := y.c + 1 } :: post') oI4 rfl rfl rfl (t3.trans t5') M5 F8 (srt_in [] [(I, oI4), (T, tupE vs)] (x := { y with vs := y.vs ++ [.int k kt], sc := y.sc ++ [k], c := y.c + 1 }) N8) (ok5.upd _ _ _ _ _ (IntsAre.append (ok5.hi y hy) (.cons _ _ .nil))) ?_ hO4 hil rfl abN ?_)
    · refine List.nodup_cons.mpr ⟨fun z => (List.mem_cons.mp z).elim neIT (fun z => ?_), List.nodup_cons.mpr ⟨fun z => ?_, (ok5.upd _ _ _ _ _ (IntsAre.append (ok5.hi y hy) (.cons _ _ .nil))).nd⟩⟩
      · rw [srt_addr (rv' := .none) (po' := po) (nf' := nf) (t5' := t5) (t6' := t6) (oD' := oD5)] at z
        exact oI' z
      · rw [srt_addr (rv' := .none) (po' := po) (nf' := nf) (t5' := t5) (t6' := t6) (oD' := oD5)] at z
        exact oT' z
    · have h1 := congrArg List.length ab5
      have h2 := gniA_len (ns3.map Nod.abs) ps[i]
      simp only [List.length_map] at h1 h2
      simp only [List.length_append, List.length_cons] at h1 ⊢
      omega
  · have ei : i = vs.length := by omega
    subst ei
    refine walk_done W (rest := (T, tupE vs) :: srtL c .none po nf t5 t6 oD3 ns3) F3' N3 (fun p hp => ⟨List.mem_cons_of_mem _ hp, tail_off ndI p hp⟩) st (N3 (I, oI3) (.head _)).2.1 (N3 (I, oI3) (.head _)).2.2 ?_
    intro h4 tk4 F4 N4
    dsimp only [ForTurn]
    clear N5 F5 N6 F6 N3 F3 F3' X' T'
    have X' := M3.X
    have T' := M3.T
    k_steps
    obtain ⟨EV, hl⟩ := exitX M F N sg gs t3 F4 (News.sub N4 (fun p hp => List.mem_cons_of_mem _ hp))
    refine hret _ _ _ _ EV hl (fun _ k_ => k_ oD3 ns3 rfl ?_ rfl ok3)
    rw [ab3, iv.length, List.take_length]
    rfl
end
end
local macro_rules | `(tactic| k_all) => ztf
local macro_rules | `(tactic| k_all) => zaa
local macro_rules | `(tactic| walk_at $s) => zd [] [("call builtin:dict.get", zdget), ("setItem ref int", zdset), ("subscriptTail", zsub)] s
section
noncomputable abbrev AS := List (Int × Int × List Int)
noncomputable def npOf (as : AS) (k : Int) : Int := ((as.find? fun e => e.1 = k).map (·.2.1)).getD 0
noncomputable def scOf (as : AS) (k : Int) : List Int := ((as.find? fun e => e.1 = k).map (·.2.2)).getD []
noncomputable def setA (as : AS) (k v : Int) : AS := as.map fun e => if e.1 = k then (e.1, v, e.2.2) else e
noncomputable def decStep (st : AS × List Int) (s : Int) : AS × List Int := (setA st.1 s (npOf st.1 s - 1), if npOf st.1 s - 1 = 0 then st.2 ++ [s] else st.2)
noncomputable def done1 (st : AS × List Int) (n : Int) : AS × List Int := (scOf st.1 n).foldl decStep (setA st.1 n (-2), st.2)
noncomputable def doneA (st : AS × List Int) (ks : List Int) : AS × List Int := ks.foldl done1 st
theorem doneA_app (st : AS × List Int) (l : List Int) (k : Int) : doneA st (l ++ [k]) = done1 (doneA st l) k := by simp [doneA]
theorem find_abs {ns : List Nod} {x : Nod} (hx : x ∈ ns) (kn : (ns.map (·.k)).Nodup) : (ns.map Nod.abs).find? (fun e => e.1 = x.k) = some x.abs := by
  induction ns with
  | nil => cases hx
  | cons y r ih =>
    simp only [List.map_cons, List.nodup_cons] at kn
    rcases List.mem_cons.mp hx with rfl | hx
    · simp [Nod.abs]
    · have hne : ¬ y.k = x.k := fun z => kn.1 (z ▸ List.mem_map_of_mem hx)
      rw [List.map_cons, List.find?_cons_of_neg (by simp [Nod.abs, hne])]
      exact ih hx kn.2
theorem npOf_abs {ns : List Nod} {x : Nod} (hx : x ∈ ns) (kn : (ns.map (·.k)).Nodup) : npOf (ns.map Nod.abs) x.k = x.np := by rw [npOf, find_abs hx kn]; rfl
theorem scOf_abs {ns : List Nod} {x : Nod} (hx : x ∈ ns) (kn : (ns.map (·.k)).Nodup) : scOf (ns.map Nod.abs) x.k = x.sc := by rw [scOf, find_abs hx kn]; rfl
theorem setA_split {pre post : List Nod} {x : Nod} (kn : ((pre ++ x :: post).map (·.k)).Nodup) (v : Int) (nt : Tok) : (pre ++ { x with np := v, nt := nt } :: post).map Nod.abs = setA ((pre ++ x :: post).map Nod.abs) x.k v := by
  rw [List.map_append, List.map_cons, List.nodup_append] at kn
  obtain ⟨_, k2, k3⟩ := kn
  have hp : ∀ y ∈ pre, y.k ≠ x.k := fun y hy => k3 _ (List.mem_map_of_mem hy) _ (.head _)
  have hq : ∀ y ∈ post, y.k ≠ x.k := fun y hy e => (List.nodup_cons.mp k2).1 (e ▸ List.mem_map_of_mem hy)
  simp only [setA, List.map_append, List.map_cons, List.map_map, Nod.abs]
  congr 1
  · refine List.map_congr_left fun y hy => ?_
    exact (if_neg (hp y hy)).symm
  · simp only [if_true]
    congr 1
    refine List.map_congr_left fun y hy => ?_
    exact (if_neg (hq y hy)).symm
theorem setA_keys (as : AS) (k v : Int) : (setA as k v).map (·.1) = as.map (·.1) := by
  simp only [setA, List.map_map]
  refine List.map_congr_left fun e _ => ?_
  simp only [Function.comp]
  split <;> rfl
theorem Bnd.set {B : Nat} {as : AS} (h : Bnd B as) (k v : Int) : Bnd B (setA as k v) := fun e he => by
  obtain ⟨y, hy, rfl⟩ := List.mem_map.mp he
  split <;> exact h y hy
theorem dec_fold : ∀ (l : List Int) (st : AS × List Int) {B : Nat}, Bnd B st.1 → Bnd B (l.foldl decStep st).1 ∧ (l.foldl decStep st).1.map (·.1) = st.1.map (·.1) ∧ (l.foldl decStep st).2.length ≤ st.2.length + l.length
  | [], _, _, h => ⟨h, rfl, Nat.le_refl _⟩
  | s :: r, st, B, h => by
    obtain ⟨a, b, c⟩ := dec_fold r (decStep st s) (B := B) (h.set _ _)
    refine ⟨a, b.trans (setA_keys _ _ _), Nat.le_trans c ?_⟩
    have : (decStep st s).2.length ≤ st.2.length + 1 := by
      simp only [decStep]; split <;> simp
    simp only [List.length_cons]; omega
theorem scOf_bnd {B : Nat} {as : AS} (h : Bnd B as) (k : Int) : (scOf as k).length ≤ B := by
  unfold scOf
  cases e : as.find? fun e => e.1 = k with
  | none => exact Nat.zero_le _
  | some y => exact h y (List.mem_of_find?_eq_some e)
theorem done_fold : ∀ (l : List Int) (st : AS × List Int) {B : Nat}, Bnd B st.1 → Bnd B (doneA st l).1 ∧ (doneA st l).1.map (·.1) = st.1.map (·.1) ∧ (doneA st l).2.length ≤ st.2.length + l.length * B
  | [], _, _, h => ⟨h, rfl, by simp [doneA]⟩
  | s :: r, st, B, h => by
    obtain ⟨a1, b1, c1⟩ := dec_fold (scOf st.1 s) (setA st.1 s (-2), st.2) (B := B) (h.set _ _)
    obtain ⟨a, b, c⟩ := done_fold r (done1 st s) (B := B) a1
    have h2 := scOf_bnd h s
    refine ⟨a, b.trans (b1.trans (setA_keys _ _ _)), Nat.le_trans c ?_⟩
    simp only [done1, List.length_cons, Nat.succ_mul] at c1 ⊢
    omega
theorem srt_nd3 {I T R S dS D : Addr} {pre post : List Nod} {x : Nod} (h : (I :: T :: R :: S :: dS :: D :: (entsN (pre ++ x :: post)).map (·.1)).Nodup) : (I :: T :: R :: S :: dS :: D :: x.a :: x.d :: x.l :: (entsN pre ++ entsN post).map (·.1)).Nodup := by
  refine (List.Perm.nodup_iff ?_).mp h
  refine List.Perm.cons _ (List.Perm.cons _ (List.Perm.cons _ (List.Perm.cons _ (List.Perm.cons _ (List.Perm.cons _ ?_)))))
  rw [entsN_app, entsN_cons, List.map_append, List.map_append, List.map_append]
  refine List.Perm.trans (List.perm_append_comm_assoc _ _ _) ?_
  simp [Nod.ents]
theorem mem_ents {pre post : List Nod} {x : Nod} {q : Addr} {o : Obj} (np : Int) (nt : Tok) (h : (q, o) ∈ entsN (pre ++ x :: post)) (hq : q ≠ x.a) : (q, o) ∈ entsN (pre ++ { x with np := np, nt := nt } :: post) := by
  simp only [entsN_app, entsN_cons, Nod.ents, List.mem_append, List.mem_cons, List.not_mem_nil, or_false, Prod.mk.injEq] at h ⊢
  rcases h with h | h | h
  · exact .inl h
  · rcases h with h | h | h
    · exact absurd h.1 hq
    · exact .inr (.inl (.inr (.inl h)))
    · exact .inr (.inl (.inr (.inr h)))
  · exact .inr (.inr h)
theorem nd_ents {l : List Addr} {pre post : List Nod} {x : Nod} {np : Int} {nt : Tok} (h : (l ++ (entsN (pre ++ x :: post)).map (·.1)).Nodup) : (l ++ (entsN (pre ++ { x with np := np, nt := nt } :: post)).map (·.1)).Nodup := by
  simp only [entsN_app, entsN_cons, Nod.ents, List.map_append, List.map_cons, List.map_nil] at h ⊢
  exact h
theorem srt_nd4 {J I T R S dS D : Addr} {pre post : List Nod} {x : Nod} (h : (J :: I :: T :: R :: S :: dS :: D :: (entsN (pre ++ x :: post)).map (·.1)).Nodup) : (J :: I :: T :: R :: S :: dS :: D :: x.a :: x.d :: x.l :: (entsN pre ++ entsN post).map (·.1)).Nodup := by
  refine (List.Perm.nodup_iff ?_).mp h
  refine List.Perm.cons _ (List.Perm.cons _ (List.Perm.cons _ (List.Perm.cons _ (List.Perm.cons _ (List.Perm.cons _ (List.Perm.cons _ ?_))))))
  rw [entsN_app, entsN_cons, List.map_append, List.map_append, List.map_append]
  refine List.Perm.trans (List.perm_append_comm_assoc _ _ _) ?_
  simp [Nod.ents]
section
local macro_rules | `(tactic| k_ne) => zne1
local macro_rules | `(tactic| walk_at $s) => zd ["exec For Name Name cons nil", "exec For Name Attribute cons nil"] [] s
local macro_rules | `(tactic| walk_at $s) => zd [] [] s
theorem con_donec {w : World} {h : Heap} {c : Hd} {R : Addr} {po nf : Int} {t5 t6 : Tok} {oD : Obj} {ns : List Nod} {vs rv : List Value} {cr : Nat} {ks rs : List Int} (ok : SrtOk w c oD ns) (hR : R ∉ c.S :: c.dS :: c.D :: (entsN ns).map (·.1)) (ir : IntsAre rv rs) (hrs : rs.length ≤ 100) (iv : IntsAre vs ks) (h5 : ks.length ≤ 5) (hB : Bnd 100 (ns.map Nod.abs))
    (hcl : ∀ x ∈ ns, ∀ s ∈ x.sc, s ∈ ns.map (·.k)) (hout : ∀ i (hi : i < ks.length), ks[i] ∈ ns.map (·.k) ∧ npOf (doneA (ns.map Nod.abs, rs) (ks.take i)).1 ks[i] = -1) :
    ConXc w 178 30 ((R, W.listOf rv.toArray cr) :: srtL c (.ref R) po nf t5 t6 oD ns) (.ref c.S :: vs)
      (fun v led h' => ∀ G_ : Prop, (∀ nf' t6' rv' cr' rs' ns', (v = .none) → ((ns'.map Nod.abs, rs') = doneA (ns.map Nod.abs, rs) ks) → (led = (R, W.listOf rv'.toArray cr') :: srtL c (.ref R) po nf' t5 t6' oD ns') → (SrtOk w c oD ns') → (R ∉ c.S :: c.dS :: c.D :: (entsN ns').map (·.1)) → (IntsAre rv' rs') → G_) → G_) h := by
  revert ok hR ir hrs iv h5 hB hcl hout
  revert w h c R po nf t5 t6 oD ns vs rv cr ks rs
  walk_at "15"; (iterate 6 (generalize zf w_ = cr; generalize zs w_ = v_; clear w_; generalize zf v_ = cr; generalize zs v_ = w_; clear v_)); generalize zf w_ = cr; generalize zs w_ = v_; clear w_; generalize zf v_ = ks, zs v_ = rs; clear v_; rename_i w h c R po nf t5 t6 oD ns vs rv
  intro ok hR ir hrs iv h5 hB hcl hout
  refine ConXc.hk ?_; generalize wXc _ _ _ _ _ _ _ = c_; delta ConXcat; generalize c_.mean = mean, c_.mg = mg, c_.mb = mb, c_.dp = dp, c_.un = un, c_.gd = gd, c_.cn = cn, c_.cs = cs, c_.a = a, c_.ccd = ccd, c_.cl = cl, c_.outer = outer, c_.A₀ = A₀, c_.base = base, c_.h₀ = h₀, c_.L = L, c_.m = m, c_.s = s, c_.R = Rz
  intro hh M F N hk hdp hun hret
  subst hh
  have X := M.X
  refine' enterXV (vs := vs) (g₁ := fun D => some [(Str.ofString "self", .ref c.S), (Str.ofString "nodes", .ref D)]) ?k1 ?k2 ?k4 ?kK ?k6 ?k7 ?k8 ?kP ?kG ?kB ?_ ?c2 ?c3 ?c4 ?c5
  (case kK => assumption)
  (case k1 => assumption)
  (case k2 => assumption)
  (case k4 => assumption)
  (case k6 => k_is)
  (case k7 => k_is)
  (case k8 => omega)
  (case c5 => decide)
  (case kP =>
    have hl := iv.length
    rcases vs with _ | ⟨v1, _ | ⟨v2, _ | ⟨v3, _ | ⟨v4, _ | ⟨v5, _ | ⟨v6, r⟩⟩⟩⟩⟩⟩
    · exact rfl
    · exact rfl
    · exact rfl
    · exact rfl
    · exact rfl
    · exact rfl
    · simp only [List.length_cons] at hl; omega)
  (case kG => exact fun _ => rfl)
  (case kB => exact fun _ => locs rfl)
  (case c2 => exact rfl)
  (case c3 => exact rfl)
  (case c4 => exact rfl)
  walk_at "4"; generalize zf w_ = T, zf (zs w_) = g, zf (zs (zs w_)) = L', zs (zs (zs w_)) = h₁
  intro sg gs eT eL lt F' N' M'
  (try dsimp only)
  refine wpAny_noRaise ?_
  have B' := M'.B
  have X' := M'.X
  have T' := M'.T
  have ndT : T ∉ ((R, W.listOf rv.toArray cr) :: srtL c (.ref R) po nf t5 t6 oD ns).map (·.1) := fun z => by
    obtain ⟨p, hp, e⟩ := List.mem_map.mp z
    exact absurd (Heap.lt_size (N p hp).1) (by rw [e, eT]; exact Nat.lt_irrefl _)
  dsimp only [srtL] at lt N'
  k_lt lt
  k_steps
  refine Blk.out ?_
  refine for_raw ?_
  k_steps
  refine Blk.out ?_
  rename Fr g L' _ _ => F5
  rename News g L' _ _ => N5
  refine it_tup (T := T) (vs := vs) (c := 0) rfl F5 N5 (News.sub N5 (led' := [(T, tupE vs)]) (by simp) _ (.head _)).1 ?_
  intro I h6 oI F6 N6 lt6 ltI Wk hO
  obtain ⟨Iv1, hIv1⟩ : ∃ Iv1 : Nat → Shared → Prop, Iv1 = fun n s' => ∀ G_ : Prop, (∀ i h tk m' ns3 oI nf3 t63 rv3 cr3 rs3, (s' = { s with heap := h, toks := tk }) → (m' (Str.ofString "self") = some (.ref c.S)) → (m' (Str.ofString "n2i") = some (.ref c.D)) → (Fr g L' h m') → (News g L' h ((I, oI) :: (T, tupE vs) :: (R, W.listOf rv3.toArray cr3) :: srtL c (.ref R) po nf3 t5 t63 oD ns3)) → (SrtOk w c oD ns3) → ((I :: T :: R :: c.S :: c.dS :: c.D :: (entsN ns3).map (·.1)).Nodup) → (ItO (tSt I T vs) I T oI (tupE vs) i) → (i ≤ vs.length) → (n = vs.length - i) → (IntsAre rv3 rs3) → ((ns3.map Nod.abs, rs3) = doneA (ns.map Nod.abs, rs) (ks.take i)) → (ns3.map (·.k) = ns.map (·.k)) → (ns3.map (·.sc) = ns.map (·.sc)) → G_) → G_ := ⟨_, rfl⟩
  refine ⟨Iv1, vs.length, ?_, ?_⟩
  rw [hIv1]
  refine (fun _ k_ => k_ 0 h6 _ _ ns oI nf t6 rv cr rs rfl rfl rfl F6 N6 ok ?_ hO (Nat.zero_le _) rfl ir rfl rfl rfl)
  · exact nodup_new (l' := (T, tupE vs) :: (R, W.listOf rv.toArray cr) :: srtL c (.ref R) po nf t5 t6 oD ns) lt6 (fun z hz => hz) (List.nodup_cons.mpr ⟨ndT, List.nodup_cons.mpr ⟨hR, ok.nd⟩⟩)
  intro n s' hI19_; (first | rw [hIv1] at hI19_ | skip); refine hI19_ _ ?_; clear hI19_; intro i h tk m' ns3 oI3 nf3 t63 rv3 cr3 rs3 e20_ m1 m2 F3 N3 ok3 nd3 hO3 hi e21_ ir3 ab3 ks3 sc3; subst e20_; subst e21_
  have st := hO3 h (N3 (I, oI3) (.head _)).1 (N3 (T, tupE vs) (.tail _ (.head _))).1
  have ndI := (List.nodup_cons.mp nd3).1
  have F3' := frk F3 _ (kn1 m1 (kn1 m2 kn0))
  by_cases hil : i < vs.length
  · refine walk_item Wk tSt.get F3' N3 (UpdF.head (tail_off ndI)) st hil ?_
    intro v h4 tk4 oI4 hv st4 F4 N4
    have hO4 : ItO (tSt I T vs) I T oI4 (tupE vs) (i + 1) := ItO.of Wk st4 (N4 _ (.head _)).1 (N4 (T, tupE vs) (.tail _ (.head _))).1
    have hip : i < ks.length := by rw [← iv.length]; exact hil
    refine exE1 (ints_at iv i hip) fun t ht => ?_
    rw [List.getElem?_toArray, hv] at ht
    obtain rfl := Option.some.inj ht
    have h198_ := hout i hip
    have hin := h198_.1
    have hnp := h198_.2
    rw [← ks3] at hin
    refine exE1 (List.mem_map.mp hin) fun x h200_1 => ?_
    have hx := h200_1.1
    have hxk := h200_1.2
    have ab3' : ns3.map Nod.abs = (doneA (ns.map Nod.abs, rs) (ks.take i)).1 := congrArg Prod.fst ab3
    rw [← ab3', ← hxk, npOf_abs hx ok3.kn] at hnp
    have hva := valueAt_some hx ok3.kn
    obtain ⟨pre, post, rfl⟩ := List.append_of_mem hx
    obtain ⟨xk, xkt, xnp, xnt, xvs, xsc, xc, xa, xd, xl⟩ := x
    dsimp only at hxk hnp hva
    subst hxk hnp
    have nd4 := srt_nd3 nd3
    dsimp only at nd4
    have N5' := srt_out [(I, oI4), (T, tupE vs), (R, W.listOf rv3.toArray cr3)] N4
    refine apartE9 nd4 ?_; intro q0_1 q0_2 q0_3 q0_4 q0_5 q0_6 q0_7 q0_8 q1_2 q1_3 q1_4 q1_5 q1_6 q1_7 q1_8 q2_3 q2_4 q2_5 q2_6 q2_7 q2_8 q3_4 q3_5 q3_6 q3_7 q3_8 q4_5 q4_6 q4_7 q4_8 q5_6 q5_7 q5_8 q6_7 q6_8 q7_8 qm0 qm1 qm2 qm3 qm4 qm5 qm6 qm7 qm8
    dsimp only [ForTurn]
    clear N5 F5 N6 F6 N3 F3 F3' N4
    simp only [List.cons_append, List.nil_append] at N5'
    (try dsimp only at N5')
    have dictX := ok3.dict
    have loX := ok3.lo
    k_steps
    refine Blk.out ?_
    refine for_raw ?_
    k_steps
    refine Blk.out ?_
    rename Fr g L' _ _ => F6
    rename News g L' _ _ => N6
    refine it_list (T := xl) (vs := xvs) (c := xc) rfl F6 N6 (N6 (xl, W.listOf xvs.toArray xc) (by simp)).1 ?_
    intro J h7 oJ F7 N7 lt7 ltJ Wj hOJ
    have ixs := ok3.hi _ hx
    dsimp only at ixs
    have ok4 := fun nt => ok3.upd (-2) nt xvs xsc xc ixs
    obtain ⟨Iv2, hIv2⟩ : ∃ Iv2 : Nat → Shared → Prop, Iv2 = fun n s' => ∀ G_ : Prop, (∀ j h tk m' ns4 oJ rv4 cr4 rs4, (s' = { s with heap := h, toks := tk }) → (m' (Str.ofString "self") = some (.ref c.S)) → (m' (Str.ofString "n2i") = some (.ref c.D)) → (Fr g L' h m') → (News g L' h ((J, oJ) :: (I, oI4) :: (T, tupE vs) :: (R, W.listOf rv4.toArray cr4) :: srtL c (.ref R) po nf3 t5 t63 oD ns4)) → (SrtOk w c oD ns4) → ((J :: I :: T :: R :: c.S :: c.dS :: c.D :: (entsN ns4).map (·.1)).Nodup) → (ItO (lSt J xl xvs) J xl oJ (W.listOf xvs.toArray xc) j) → ((xl, W.listOf xvs.toArray xc) ∈ entsN ns4) → (j ≤ xvs.length) → (n = xvs.length - j) → (IntsAre rv4 rs4) → ((ns4.map Nod.abs, rs4) = (xsc.take j).foldl decStep (setA (doneA (ns.map Nod.abs, rs) (ks.take i)).1 ks[i] (-2), rs3)) → (ns4.map (·.k) = ns.map (·.k)) → (ns4.map (·.sc) = ns.map (·.sc)) → G_) → G_ := ⟨_, rfl⟩
    refine ⟨Iv2, xvs.length, ?_, ?_⟩
    rw [hIv2]
    refine (fun _ k_ => k_ 0 h7 _ _ _ oJ rv3 cr3 rs3 rfl rfl rfl F7 (srt_in [(J, oJ)] [(I, oI4), (T, tupE vs), (R, W.listOf rv3.toArray cr3)] (x := ⟨ks[i], xkt, -2, _, xvs, xsc, xc, xa, xd, xl⟩) N7) (ok4 _) ?_ hOJ ?_ (Nat.zero_le _) rfl ir3 ?_ ?_ ?_)
    · refine nodup_new (l' := (I, oI4) :: (T, tupE vs) :: (R, W.listOf rv3.toArray cr3) :: srtL c (.ref R) po nf3 t5 t63 oD (pre ++ ⟨ks[i], xkt, -2, _, xvs, xsc, xc, xa, xd, xl⟩ :: post)) lt7 (fun z hz => ?_) ?_
      · simp only [srtL, entsN_app, entsN_cons, Nod.ents, List.map_cons, List.map_append, List.map_nil, List.mem_cons, List.mem_append, List.not_mem_nil, or_false, or_assoc, List.cons_append, List.nil_append] at hz ⊢
        rcases hz with h | h | h | h | h | h | h | h | h | h | h <;> first | ((repeat' first | exact h | exact Or.inl h | apply Or.inr); done) | simp [h]
      · have := nd3
        simp only [entsN_app, entsN_cons, Nod.ents, List.map_append, List.map_cons, List.map_nil, srtL] at this ⊢
        exact this
    · simp [entsN_app, entsN_cons, Nod.ents]
    · rw [List.take_zero, List.foldl_nil, ← ab3']
      exact congrArg (·, rs3) (setA_split ok3.kn (-2) _)
    · rw [← ks3]; simp
    · rw [← sc3]; simp
    intro n s' hI22_; (first | rw [hIv2] at hI22_ | skip); refine hI22_ _ ?_; clear hI22_; intro j h8 tk8 m8 ns4 oJ8 rv4 cr4 rs4 e23_ m81 m82 F8 N8 ok8 nd8 hO8 hm8 hj e24_ ir4 ab4 ks4 sc4; subst e23_; subst e24_
    have N8l : News g L' h8 [(xl, W.listOf xvs.toArray xc)] := News.sub N8 fun p hp => by
      rw [List.mem_singleton.mp hp]
      simp only [srtL, List.mem_cons]
      exact .inr (.inr (.inr (.inr (.inr (.inr (.inr hm8))))))
    have st8 := hO8 h8 (N8 (J, oJ8) (.head _)).1 (N8l _ (.head _)).1
    have ndJ := (List.nodup_cons.mp nd8).1
    have F8' := frk F8 _ (kn1 m81 (kn1 m82 kn0))
    by_cases hjl : j < xvs.length
    · refine walk_item Wj lSt.get F8' N8 (UpdF.head (tail_off ndJ)) st8 hjl ?_
      intro v h9 tk9 oJ9 hv9 st9 F9 N9
      have hjp : j < xsc.length := by rw [← ixs.length]; exact hjl
      refine exE1 (ints_at ixs j hjp) fun t' ht' => ?_
      rw [List.getElem?_toArray, hv9] at ht'
      obtain rfl := Option.some.inj ht'
      have N9l : News g L' h9 [(xl, W.listOf xvs.toArray xc)] := News.sub N9 fun p hp => by
        rw [List.mem_singleton.mp hp]
        simp only [srtL, List.mem_cons]
        exact .inr (.inr (.inr (.inr (.inr (.inr (.inr hm8))))))
      have hO9 : ItO (lSt J xl xvs) J xl oJ9 (W.listOf xvs.toArray xc) (j + 1) := ItO.of Wj st9 (N9 _ (.head _)).1 (N9l _ (.head _)).1
      have hyin : xsc[j] ∈ ns4.map (·.k) := by
        rw [ks4]
        have : xsc ∈ (pre ++ (⟨ks[i], xkt, -1, xnt, xvs, xsc, xc, xa, xd, xl⟩ : Nod) :: post).map (·.sc) := by simp
        rw [sc3] at this
        obtain ⟨z, hz, ez⟩ := List.mem_map.mp this
        exact hcl z hz _ (by rw [ez]; exact List.getElem_mem hjp)
      refine exE1 (List.mem_map.mp hyin) fun y h271_1 => ?_
      have hy := h271_1.1
      have hyk := h271_1.2
      have hva9 := valueAt_some hy ok8.kn
      have hnp9 := npOf_abs hy ok8.kn
      rw [hyk] at hva9 hnp9
      have hlya : xl ≠ y.a := fun e => by
        have h1 := (N9l _ (.head _)).1
        have h2 : News g L' h9 [(y.a, infoO y.d y.l y.np y.nt y.k y.kt)] := News.sub N9 fun p hp => by
          rw [List.mem_singleton.mp hp]
          simp only [srtL, List.mem_cons]
          refine .inr (.inr (.inr (.inr (.inr (.inr (.inr ?_))))))
          exact List.mem_flatMap.mpr ⟨y, hy, .head _⟩
        have h3 := (h2 _ (.head _)).1
        dsimp only at h1 h3
        rw [e, h3] at h1
        exact absurd (congrArg Obj.cls (Option.some.inj h1)) (by simp [W.listOf])
      obtain ⟨pre', post', rfl⟩ := List.append_of_mem hy
      have nd10 := srt_nd4 nd8
      have N10 := srt_out [(J, oJ9), (I, oI4), (T, tupE vs), (R, W.listOf rv4.toArray cr4)] N9
      refine apartE10 nd10 ?_; intro p0_1 p0_2 p0_3 p0_4 p0_5 p0_6 p0_7 p0_8 p0_9 p1_2 p1_3 p1_4 p1_5 p1_6 p1_7 p1_8 p1_9 p2_3 p2_4 p2_5 p2_6 p2_7 p2_8 p2_9 p3_4 p3_5 p3_6 p3_7 p3_8 p3_9 p4_5 p4_6 p4_7 p4_8 p4_9 p5_6 p5_7 p5_8 p5_9 p6_7 p6_8 p6_9 p7_8 p7_9 p8_9 pm0 pm1 pm2 pm3 pm4 pm5 pm6 pm7 pm8 pm9
      dsimp only [ForTurn]
      clear N6 F6 N7 F7 N8 F8 F8' N9 nd4
      simp only [List.cons_append, List.nil_append] at N10
      have dictY := ok8.dict
      have lrv := ir4.length
      have lrb : rs4.length ≤ 900 := by
        obtain ⟨b1, _, b3⟩ := done_fold (ks.take i) (ns.map Nod.abs, rs) hB
        obtain ⟨_, _, d3⟩ := dec_fold (xsc.take j) (setA (doneA (ns.map Nod.abs, rs) (ks.take i)).1 ks[i] (-2), rs3) (b1.set _ _)
        rw [← ab4] at d3
        rw [← ab3] at b1 b3
        have hxl : xsc.length ≤ 100 := b1 _ (List.mem_map_of_mem (f := Nod.abs) hx)
        simp only [List.length_take] at d3 b3
        omega
      clear dictX
      k_steps
      · rename y.np - 1 = 0 => hz
        rename Fr g L' _ _ => F11
        rename News g L' _ _ => N11
        simp only [List.push_toArray] at N11
        refine ⟨xvs.length - (j + 1), by omega, ?_⟩
        first | rw [hIv2] | rw [hIv1]
        refine (fun _ k_ => k_ (j + 1) _ _ _ (pre' ++ { y with np := y.np - 1, nt := _ } :: post') oJ9 (rv4 ++ [Value.int xsc[j] t']) _ (rs4 ++ [xsc[j]]) rfl rfl rfl F11 (srt_in [] [(J, oJ9), (I, oI4), (T, tupE vs), (R, W.listOf (rv4 ++ [Value.int xsc[j] t']).toArray _)] (x := { y with np := y.np - 1, nt := _ }) N11) (ok8.upd _ _ _ _ _ (ok8.hi y hy)) ?_ hO9 (mem_ents _ _ hm8 hlya) hjl rfl (IntsAre.append ir4 (.cons _ _ .nil)) ?_ ?_ ?_)
        · exact nd_ents (l := [J, I, T, R, c.S, c.dS, c.D]) nd8
        · rw [List.take_succ_eq_append_getElem hjp, List.foldl_append, ← ab4, List.foldl_cons, List.foldl_nil, decStep, hnp9, if_pos hz, ← hyk, setA_split ok8.kn]
        · rw [← ks4]; simp
        · rw [← sc4]; simp
      · rename ¬ y.np - 1 = 0 => hz
        rename Fr g L' _ _ => F11
        rename News g L' _ _ => N11
        refine ⟨xvs.length - (j + 1), by omega, ?_⟩
        first | rw [hIv2] | rw [hIv1]
        refine (fun _ k_ => k_ (j + 1) _ _ _ (pre' ++ { y with np := y.np - 1, nt := _ } :: post') oJ9 rv4 _ rs4 rfl rfl rfl F11 (srt_in [] [(J, oJ9), (I, oI4), (T, tupE vs), (R, W.listOf rv4.toArray _)] (x := { y with np := y.np - 1, nt := _ }) N11) (ok8.upd _ _ _ _ _ (ok8.hi y hy)) ?_ hO9 (mem_ents _ _ hm8 hlya) hjl rfl ir4 ?_ ?_ ?_)
        · exact nd_ents (l := [J, I, T, R, c.S, c.dS, c.D]) nd8
        · rw [List.take_succ_eq_append_getElem hjp, List.foldl_append, ← ab4, List.foldl_cons, List.foldl_nil, decStep, hnp9, if_neg hz, ← hyk, setA_split ok8.kn]
        · rw [← ks4]; simp
        · rw [← sc4]; simp
    · have ej : j = xvs.length := by omega
      subst ej
      refine walk_done Wj (rest := (I, oI4) :: (T, tupE vs) :: (R, W.listOf rv4.toArray cr4) :: srtL c (.ref R) po nf3 t5 t63 oD ns4) F8' N8 (fun p hp => ⟨List.mem_cons_of_mem _ hp, tail_off ndJ p hp⟩) st8 (N8 (J, oJ8) (.head _)).2.1 (N8 (J, oJ8) (.head _)).2.2 ?_
      intro h9 tk9 F9 N9
      refine apartE6 (List.nodup_cons.mp nd8).2 ?_; intro z0_1 z0_2 z0_3 z0_4 z0_5 z1_2 z1_3 z1_4 z1_5 z2_3 z2_4 z2_5 z3_4 z3_5 z4_5 zm0 zm1 zm2 zm3 zm4 zm5
      dsimp only [ForTurn]
      dsimp only [srtL] at N9
      clear N6 F6 N7 F7 N8 F8 F8' nd4
      k_steps
      rename Fr g L' _ _ => F10
      rename News g L' _ _ => N10
      refine ⟨vs.length - (i + 1), by omega, ?_⟩
      first | rw [hIv2] | rw [hIv1]
      refine (fun _ k_ => k_ (i + 1) _ _ _ ns4 oI4 (nf3 + 1) _ rv4 cr4 rs4 rfl rfl rfl F10 N10 ok8 ((List.nodup_cons.mp nd8).2) hO4 hil rfl ir4 ?_ ks4 sc4)
      have hsc : scOf (doneA (ns.map Nod.abs, rs) (ks.take i)).1 ks[i] = xsc := by
        rw [← ab3']
        exact scOf_abs hx ok3.kn
      have hrs3 : rs3 = (doneA (ns.map Nod.abs, rs) (ks.take i)).2 := congrArg Prod.snd ab3
      rw [ab4, ixs.length, List.take_length, List.take_succ_eq_append_getElem hip, doneA_app]
      rw [done1, hsc, hrs3]
  · have ei : i = vs.length := by omega
    subst ei
    refine walk_done Wk (rest := (T, tupE vs) :: (R, W.listOf rv3.toArray cr3) :: srtL c (.ref R) po nf3 t5 t63 oD ns3) F3' N3 (fun p hp => ⟨List.mem_cons_of_mem _ hp, tail_off ndI p hp⟩) st (N3 (I, oI3) (.head _)).2.1 (N3 (I, oI3) (.head _)).2.2 ?_
    intro h4 tk4 F4 N4
    dsimp only [ForTurn]
    clear N5 F5 N6 F6 N3 F3 F3'
    k_steps
    obtain ⟨EV, hl⟩ := exitX M F N sg gs KtsTurn.refl F4 (News.sub N4 (fun p hp => List.mem_cons_of_mem _ hp))
    refine hret _ _ _ _ EV hl (fun _ k_ => k_ nf3 t63 rv3 cr3 rs3 ns3 rfl ?_ rfl ok3 ((List.nodup_cons.mp (List.nodup_cons.mp (List.nodup_cons.mp nd3).2).2).1) ir3)
    rw [ab3, iv.length, List.take_length]
end
end
section
noncomputable def outA (as : AS) (ks : List Int) : AS := ks.foldl (fun a k => setA a k (-1)) as
theorem tup_N {prog : Program} {w : World} {A : Around} {E : Value → Shared → Prop} {s : Shared} {h₀ : Heap} {L l : Addr} {m : Str → Option Value} {news : List (Addr × Obj)} {vs : List Value} {c : Nat} {Q : Value → Shared → Prop} (F : Fr h₀ L s.heap m) (N : News h₀ L s.heap news) (hl : s.heap.get? l = some (W.listOf vs.toArray c)) (hz : vs.length ≤ 16384)
    (h : ∀ T h', Fr h₀ L h' m → News h₀ L h' ((T, tupE vs) :: news) → (∀ p ∈ news, p.1 < T) → Q (.ref T) { s with heap := h' }) : wpAny (model prog w) A (call (.type "tuple") [.ref l]) Q E s := by
  refine call_tuple_list (items := vs.toArray) ⟨_, hl, rfl, c, rfl⟩ (fun h' hk => ?_) (by rw [List.size_toArray, sizeLine_eq]; omega)
  have F' : Fr h₀ L h' m := F.keeps hk
  have N' : News h₀ L h' news := fun p hp => ⟨hk _ _ (N p hp).1, (N p hp).2⟩
  exact h _ _ (F'.push _) (News.push F' N' _ rfl) fun p hp => Heap.lt_size (N' p hp).1
theorem clear_N {prog : Program} {w : World} {A : Around} {E : Value → Shared → Prop} {s : Shared} {h₀ : Heap} {L D : Addr} {m : Str → Option Value} {news : List (Addr × Obj)} {g : Obj → List (Addr × Obj)} {n : Nat} {us : List Value} {Q : Value → Shared → Prop} (F : Fr h₀ L s.heap m) (N : News h₀ L s.heap news) (U : UpdF D (W.listOf us.toArray n) news g) (hz : us.length ≤ 16384)
    (h : ∀ h' n', Fr h₀ L h' m → News h₀ L h' (g (W.listOf [].toArray n')) → Q .none { s with heap := h' }) : wpAny (model prog w) A (call (.builtin "list.clear") [.ref D]) Q E s := by
  obtain ⟨pre, post, rfl, hg, h1, h2⟩ := U.split
  have e := (N (D, W.listOf us.toArray n) (List.mem_append_right _ (.head _))).1
  have T : s.TypeIs (.ref D) "list" := ⟨_, e, rfl⟩
  refine call_meets PySem.F.slot_list_clear T PySem.F.entry_list_clear (PySem.F.args_list_clear_1 _) (PySem.AutoSeq1.list_clear_list_0 D us.toArray n (by rw [List.size_toArray, sizeLine_eq]; omega)) ⟨e, ?_⟩
  obtain ⟨F', N'⟩ := news_upd (f := Obj.mapSeq fun _ => #[]) (o' := W.listOf [].toArray (if (0 == us.toArray.size) = true then n else n + 1)) F N h1 h2 rfl rfl
  exact h _ _ F' (hg _ ▸ N')
section
local macro_rules | `(tactic| k_ne) => zne2
local macro_rules | `(tactic| walk_at $s) => zd ["exec For Name Name cons nil", "call type:tuple"] [("call builtin:list.clear", zclr), ("call builtin:len", zlen)] s
theorem con_ready {w : World} {h : Heap} {c : Hd} {R : Addr} {po nf : Int} {t5 t6 : Tok} {oD : Obj} {ns : List Nod} {rv : List Value} {cr : Nat} {rs : List Int} (ok : SrtOk w c oD ns) (hR : R ∉ c.S :: c.dS :: c.D :: (entsN ns).map (·.1)) (ir : IntsAre rv rs) (hrs : rs.length ≤ 900)
    (hin : ∀ k ∈ rs, k ∈ ns.map (·.k)) :
    ConX w 157 30 ((R, W.listOf rv.toArray cr) :: srtL c (.ref R) po nf t5 t6 oD ns) [.ref c.S]
      (fun v led h' => ∀ G_ : Prop, (∀ T po' t5' cr' ns', (v = .ref T) → (ns'.map Nod.abs = outA (ns.map Nod.abs) rs) → (led = (T, tupE rv) :: (R, W.listOf [].toArray cr') :: srtL c (.ref R) po' nf t5' t6 oD ns') → (SrtOk w c oD ns') → ((T :: R :: c.S :: c.dS :: c.D :: (entsN ns').map (·.1)).Nodup) → G_) → G_) h := by
  revert ok hR ir hrs hin
  revert w h c R po nf t5 t6 oD ns rv cr rs
  walk_at "13"; (iterate 5 (generalize zf w_ = rv; generalize zs w_ = v_; clear w_; generalize zf v_ = rv; generalize zs v_ = w_; clear v_)); generalize zf w_ = rv; generalize zs w_ = v_; clear w_; generalize zf v_ = cr, zs v_ = rs; clear v_; rename_i w h c R po nf t5 t6 oD ns
  intro ok hR ir hrs hin
  refine ConX.hk ?_; generalize wX _ _ _ _ _ _ _ = c_; delta ConXat; generalize c_.mean = mean, c_.mg = mg, c_.mb = mb, c_.dp = dp, c_.un = un, c_.gd = gd, c_.cn = cn, c_.cs = cs, c_.a = a, c_.ccd = ccd, c_.cl = cl, c_.outer = outer, c_.A₀ = A₀, c_.base = base, c_.h₀ = h₀, c_.L = L, c_.m = m, c_.s = s, c_.Q = Q, c_.E = E
  intro hh M F N hk hdp hun hret
  subst hh
  have X := M.X
  (refine wpAny_call ?_; k_dflt (refine' enterX ?k1 ?k2 ?k4 ?kK ?k6 ?k7 ?k8 ?k9 ?kB ?_ ?c2 ?c3 ?c4 ?c5; (case kK => assumption); (case k1 => assumption); (case k2 => assumption); (case k4 => assumption); (case k6 => k_is); (case k7 => k_is); (case k8 => omega); (case k9 => first | exact BindsTo.of_eq rfl | exact binds_K (by k_in) rfl (by k_is) rfl rfl rfl); (case c5 => decide); (case kB => exact locs rfl); (case c2 => exact rfl); (case c3 => exact rfl); (case c4 => exact rfl); k_whole))
  walk_at "3"; generalize zf w_ = g, zf (zs w_) = L', zs (zs w_) = h₁
  intro sg gs eL lt F' N' M'
  (try dsimp only)
  refine wpAny_noRaise ?_
  have B' := M'.B
  have X' := M'.X
  have T' := M'.T
  dsimp only [srtL] at lt N'
  k_lt lt
  refine apartE4 (List.nodup_cons.mpr ⟨hR, ok.nd⟩) ?_; intro q0_1 q0_2 q0_3 q1_2 q1_3 q2_3 qm0 qm1 qm2 qm3
  k_steps
  refine Blk.out ?_
  rename Fr g L' _ _ => F5
  rename News g L' _ _ => N5
  refine tup_N F5 N5 (N5 (R, W.listOf rv.toArray cr) (by simp)).1 (by rw [ir.length]; omega) ?_
  intro T h5 F5 N5 ltT
  k_sweep
  have ltT' := ltT
  k_lt ltT'
  k_steps
  refine Blk.out ?_
  refine for_raw ?_
  k_steps
  refine Blk.out ?_
  rename Fr g L' _ _ => F5
  rename News g L' _ _ => N5
  refine it_tup (T := T) (vs := rv) (c := 0) rfl F5 N5 (News.sub N5 (led' := [(T, tupE rv)]) (by simp) _ (.head _)).1 ?_
  intro I h6 oI F6 N6 lt6 ltI Wk hO
  obtain ⟨Iv1, hIv1⟩ : ∃ Iv1 : Nat → Shared → Prop, Iv1 = fun n s' => ∀ G_ : Prop, (∀ i h tk m' ns3 oI, (s' = { s with heap := h, toks := tk }) → (m' (Str.ofString "self") = some (.ref c.S)) → (m' (Str.ofString "n2i") = some (.ref c.D)) → (m' (Str.ofString "result") = some (.ref T)) → (Fr g L' h m') → (News g L' h ((I, oI) :: (T, tupE rv) :: (R, W.listOf rv.toArray cr) :: srtL c (.ref R) po nf t5 t6 oD ns3)) → (SrtOk w c oD ns3) → ((I :: T :: R :: c.S :: c.dS :: c.D :: (entsN ns3).map (·.1)).Nodup) → (ItO (tSt I T rv) I T oI (tupE rv) i) → (i ≤ rv.length) → (n = rv.length - i) → (ns3.map Nod.abs = outA (ns.map Nod.abs) (rs.take i)) → (ns3.map (·.k) = ns.map (·.k)) → G_) → G_ := ⟨_, rfl⟩
  refine ⟨Iv1, rv.length, ?_, ?_⟩
  rw [hIv1]
  refine (fun _ k_ => k_ 0 h6 _ _ ns oI rfl rfl rfl rfl F6 N6 ok ?_ hO (Nat.zero_le _) rfl rfl rfl)
  · refine nodup_new (l' := (T, tupE rv) :: (R, W.listOf rv.toArray cr) :: srtL c (.ref R) po nf t5 t6 oD ns) lt6 (fun z hz => hz) ?_
    exact nodup_new (l' := (R, W.listOf rv.toArray cr) :: srtL c (.ref R) po nf t5 t6 oD ns) ltT (fun z hz => hz) (List.nodup_cons.mpr ⟨hR, ok.nd⟩)
  intro n s' hI25_; (first | rw [hIv1] at hI25_ | skip); refine hI25_ _ ?_; clear hI25_; intro i h tk m' ns3 oI3 e26_ m1 m2 m3 F3 N3 ok3 nd3 hO3 hi e27_ ab3 ks3; subst e26_; subst e27_
  have st := hO3 h (N3 (I, oI3) (.head _)).1 (N3 (T, tupE rv) (.tail _ (.head _))).1
  have ndI := (List.nodup_cons.mp nd3).1
  have F3' := frk F3 _ (kn1 m1 (kn1 m2 (kn1 m3 kn0)))
  by_cases hil : i < rv.length
  · refine walk_item Wk tSt.get F3' N3 (UpdF.head (tail_off ndI)) st hil ?_
    intro v h4 tk4 oI4 hv st4 F4 N4
    have hO4 : ItO (tSt I T rv) I T oI4 (tupE rv) (i + 1) := ItO.of Wk st4 (N4 _ (.head _)).1 (N4 (T, tupE rv) (.tail _ (.head _))).1
    have hip : i < rs.length := by rw [← ir.length]; exact hil
    refine exE1 (ints_at ir i hip) fun t ht => ?_
    rw [List.getElem?_toArray, hv] at ht
    obtain rfl := Option.some.inj ht
    have hin' := hin _ (List.getElem_mem hip)
    rw [← ks3] at hin'
    refine exE1 (List.mem_map.mp hin') fun x h115_1 => ?_
    have hx := h115_1.1
    have hxk := h115_1.2
    have hva := valueAt_some hx ok3.kn
    rw [hxk] at hva
    obtain ⟨pre, post, rfl⟩ := List.append_of_mem hx
    have nd4 := srt_nd3 nd3
    have N5' := srt_out [(I, oI4), (T, tupE rv), (R, W.listOf rv.toArray cr)] N4
    refine apartE9 nd4 ?_; intro p0_1 p0_2 p0_3 p0_4 p0_5 p0_6 p0_7 p0_8 p1_2 p1_3 p1_4 p1_5 p1_6 p1_7 p1_8 p2_3 p2_4 p2_5 p2_6 p2_7 p2_8 p3_4 p3_5 p3_6 p3_7 p3_8 p4_5 p4_6 p4_7 p4_8 p5_6 p5_7 p5_8 p6_7 p6_8 p7_8 pm0 pm1 pm2 pm3 pm4 pm5 pm6 pm7 pm8
    dsimp only [ForTurn]
    clear N5 F5 N6 F6 N3 F3 F3' N4
    simp only [List.cons_append, List.nil_append] at N5'
    have dictX := ok3.dict
    k_steps
    rename Fr g L' _ _ => F6
    rename News g L' _ _ => N6
    refine ⟨rv.length - (i + 1), by omega, ?_⟩
    first | rw [hIv1]
    refine (fun _ k_ => k_ (i + 1) _ _ _ (pre ++ { x with np := -1, nt := _ } :: post) oI4 rfl rfl rfl rfl F6 (srt_in [] [(I, oI4), (T, tupE rv), (R, W.listOf rv.toArray cr)] (x := { x with np := -1, nt := _ }) N6) (ok3.upd _ _ _ _ _ (ok3.hi x hx)) ?_ hO4 hil rfl ?_ ?_)
    · exact nd_ents (l := [I, T, R, c.S, c.dS, c.D]) nd3
    · rw [List.take_succ_eq_append_getElem hip, outA, List.foldl_append, List.foldl_cons, List.foldl_nil, setA_split ok3.kn, ab3, hxk]
      rfl
    · rw [← ks3]; simp
  · have ei : i = rv.length := by omega
    subst ei
    refine walk_done Wk (rest := (T, tupE rv) :: (R, W.listOf rv.toArray cr) :: srtL c (.ref R) po nf t5 t6 oD ns3) F3' N3 (fun p hp => ⟨List.mem_cons_of_mem _ hp, tail_off ndI p hp⟩) st (N3 (I, oI3) (.head _)).2.1 (N3 (I, oI3) (.head _)).2.2 ?_
    intro h4 tk4 F4 N4
    have nd5 := (List.nodup_cons.mp nd3).2
    refine apartE5 nd5 ?_; intro z0_1 z0_2 z0_3 z0_4 z1_2 z1_3 z1_4 z2_3 z2_4 z3_4 zm0 zm1 zm2 zm3 zm4
    dsimp only [ForTurn]
    dsimp only [srtL] at N4
    clear N5 F5 N6 F6 N3 F3 F3'
    have lenR : rv.length ≤ 16384 := by rw [ir.length]; omega
    have lenE : (rv.toArray.size : Int) = rs.length := by rw [List.size_toArray, ir.length]
    have lenB : (rs.length : Int) ≤ 16384 := by omega
    k_steps
    rename Fr g L' _ _ => F6
    rename News g L' _ _ => N6
    obtain ⟨EV, hl⟩ := exitX M F N sg gs KtsTurn.refl F6 (News.sub N6 (led' := (T, tupE rv) :: (R, W.listOf [].toArray _) :: srtL c (.ref R) _ nf _ t6 oD ns3) (fun p hp => hp))
    refine hret _ _ _ _ EV hl (fun _ k_ => k_ T _ _ _ ns3 rfl ?_ rfl ok3 nd5)
    rw [ab3, ir.length, List.take_length]
end
end
section
noncomputable def CompTurn (prog : Program) (w : World) (A : Around) (env : Env) (target elt : PySem.Expr) (ifs : List PySem.Expr) (D C : Addr) (Q : Value → Shared → Prop) (I : Nat → Shared → Prop) (n : Nat) (r : Option Value) (s₁ : Shared) : Prop := match r with
  | none => ∃ m, s₁.heap.Ns C m ∧ ∀ h', Heap.SameBut C s₁.heap h' → Q (.ref D) { s₁ with heap := h' }
  | some v => wpAny (model prog w) A (assign target env v) (fun _ s₂ =>
      wpAny (model prog w) A (forIn ifs true fun c r => if r = true then do let ok ← isTrue c env (eval c env); pure (ForInStep.yield ok) else pure (ForInStep.yield r)) (fun ok s₃ =>
        if ok = true then wpAny (model prog w) A (eval elt env) (fun x s₄ => wpAny (model prog w) A (call (.builtin "list.append") [.ref D, x]) (fun _ s₅ => Again I n s₅) (fun _ _ => False) s₄) (fun _ _ => False) s₃
        else Again I n s₃) (fun _ _ => False) s₂) (fun _ _ => False) s₁
section
variable {prog : Program} {w : World} {A : Around} {s : Shared} {env : Env}
theorem comp_raw {elt target iter : PySem.Expr} {ifs : List PySem.Expr} {scope : Scope} {cl : List (Str × Addr)} {pos : Pos} {Q : Value → Shared → Prop}
    (hclos : closureFor scope env = pure cl) (hcell : ∀ y ∈ scope.names, y.2 ≠ .cell) (hkind : scope.kind = .function)
    (hnames : ∀ y ∈ scope.names, y.2 = .local → scope.names.lookup y.1 = some .local)
    (h : wpAny (model prog w) A (eval iter env) (fun xv s₁ => wpAny (model prog w) A (pyIter xv) (fun itv s₂ =>
      ∀ D C h₂ tk, D = s₂.heap.objs.size → C = D + 1 → (∀ b o, s₂.heap.get? b = some o → h₂.get? b = some o) → h₂.get? D = some (W.listOf #[] 0) → h₂.Ns C (fun _ => none) →
        ∃ (I : Nat → Shared → Prop) (n : Nat), I n { s₂ with heap := h₂, toks := tk } ∧ (∀ (n : Nat) (s : Shared) (Q' : Value → Shared → Prop) (E' : Value → Shared → Prop), I n s → Q' itv s → wpAny (model prog w) A (pyIter itv) Q' E' s) ∧
          ∀ n s, I n s → wpAny (model prog w) A (pyNext itv) (CompTurn prog w A (compEnvC scope cl C env) target elt ifs D C Q I n) (fun _ _ => False) s) (fun _ _ => False) s₁) (fun _ _ => False) s)
    (ht : ∀ it v, letOwnedTupleGo target it v = pure () := by intro _ _; rfl)
    (hs : ∀ x, foldedSetIterable iter env x = pure x := by intro _; rfl) :
    wpAny (model prog w) A (eval (.ListComp elt [⟨target, iter, ifs, 0⟩] scope pos) env) Q (fun _ _ => False) s := by
  revert hclos hcell hkind hnames h ht hs
  revert prog w A s env elt target iter ifs scope cl pos Q
  walk_at "13"; (iterate 5 (generalize zf w_ = cl; generalize zs w_ = v_; clear w_; generalize zf v_ = cl; generalize zs v_ = w_; clear v_)); generalize zf w_ = cl; generalize zs w_ = v_; clear w_; generalize zf v_ = pos, zs v_ = Q; clear v_; rename_i prog w A s env elt target iter ifs scope
  intro hclos hcell hkind hnames h ht hs
  rw [eval_ListComp]
  refine wpAny_comprehension_free (use := none) rfl hs hclos hkind hnames (wpAny_mono h (fun xv s₁ h₁ => wpAny_mono h₁ (fun itv s₂ h₂ => ?_) fun _ _ e => e) fun _ _ e => e)
  refine wpAny_newObj_type (wpAny_newFunctionEnv hcell (by intro y hy; simp at hy) (fun h₁ hns₁ hsb₁ => ?_) hkind)
  dsimp only at hns₁ hsb₁ ⊢
  have hC : (s₂.heap.push { cls := .type "list", dict := none, data := .seq ([] : List Value).toArray }).objs.size = s₂.heap.objs.size + 1 := by rw [Heap.size_push]
  have old : ∀ b o, s₂.heap.get? b = some o → h₁.get? b = some o := fun b o e => hsb₁.extBut b o (by rw [hC]; exact Nat.ne_of_lt (Nat.lt_succ_of_lt (Heap.lt_size e))) (Heap.get?_push_of_some _ (Heap.get?_push_of_some _ e))
  have hD : h₁.get? s₂.heap.objs.size = some (W.listOf #[] 0) := hsb₁.extBut _ _ (by rw [hC]; exact Nat.ne_of_lt (Nat.lt_succ_self _)) (Heap.get?_push_of_some _ (Heap.get?_push_size _ rfl))
  obtain ⟨I, n, hI, hself, turn⟩ := h₂ s₂.heap.objs.size _ h₁ (s₂.toks + ([] : List (Str × Value)).length) rfl hC old hD hns₁
  have loop : codeAny (model prog w) A (.compLoop (.ListComp elt [⟨target, iter, ifs, 0⟩] scope pos) 0 itv (.ref s₂.heap.objs.size) (compEnvC scope cl (s₂.heap.push { cls := .type "list", dict := none, data := .seq ([] : List Value).toArray }).objs.size env))
      (compPost (model prog w) A (fun _ _ => False) none Q (.ref s₂.heap.objs.size) (s₂.heap.push { cls := .type "list", dict := none, data := .seq ([] : List Value).toArray }).objs.size) { s₂ with heap := h₁, toks := s₂.toks + ([] : List (Str × Value)).length } := by
    refine codeAny_compLoop_tests I (fun n s hI => ?_) n hI (ht _)
    refine wpAny_mono (turn n s hI) (fun r s₁ hr => ?_) (fun _ _ e => e.elim)
    cases r with
    | none => exact hr
    | some v =>
      refine wpAny_mono hr (fun _ s₂ h₂ => wpAny_mono h₂ (fun ok s₃ h₃ => ?_) (fun _ _ e => e.elim)) (fun _ _ e => e.elim)
      cases ok with
      | false => simp only [Bool.false_eq_true, if_false] at h₃ ⊢; exact h₃
      | true =>
        simp only [if_true] at h₃ ⊢
        exact wpAny_mono h₃ (fun x s₄ h₄ => wpAny_mono h₄ (fun _ s₅ h₅ => h₅) (fun _ _ e => e.elim)) (fun _ _ e => e.elim)
  exact codeAny_compStart_list loop (hself n _ _ _ hI loop)
theorem ifs_nil {env : Env} {Q : Bool → Shared → Prop} {E : Value → Shared → Prop} (h : Q true s) : wpAny (model prog w) A (forIn ([] : List PySem.Expr) true fun c r => if r = true then do let ok ← isTrue c env (eval c env); pure (ForInStep.yield ok) else pure (ForInStep.yield r)) Q E s := wpAny_pure h
theorem ifs_one {env : Env} {c : PySem.Expr} {Q : Bool → Shared → Prop} {E : Value → Shared → Prop} (h : wpAny (model prog w) A (isTrue c env (eval c env)) Q E s) : wpAny (model prog w) A (forIn [c] true fun c r => if r = true then do let ok ← isTrue c env (eval c env); pure (ForInStep.yield ok) else pure (ForInStep.yield r)) Q E s := by
  show wpAny _ _ ((isTrue c env (eval c env) >>= fun ok => pure (ForInStep.yield ok)) >>= _) _ _ _
  exact wpAny_bind (wpAny_bind (wpAny_mono h (fun ok s' h' => wpAny_pure (wpAny_pure h')) (fun _ _ e => e)))
end
noncomputable def NsObj (o : Obj) (m : Str → Option Value) : Prop := ∃ es ep, o.data = .dict es ep ∧ StrKeys es ∧ ∀ name, nsFind es name = m name
theorem Fr.obj {g h : Heap} {L : Addr} {m : Str → Option Value} (F : Fr g L h m) : ∃ oL, NsObj oL m ∧ h.get? L = some oL := by
  obtain ⟨oL, es, ep, eL, d, k, f⟩ := F.ns
  exact ⟨oL, ⟨es, ep, d, k, f⟩, eL⟩
end
section
theorem Upd.of {d : Addr} {o o' : Obj} : ∀ {pre post : List (Addr × Obj)}, (∀ p ∈ pre, p.1 ≠ d) → (∀ p ∈ post, p.1 ≠ d) → Upd d o o' (pre ++ (d, o) :: post) (pre ++ (d, o') :: post)
  | [], _, _, h => Upd.head h
  | p :: r, _, h1, h2 => Upd.tail (h1 p (.head _)) (Upd.of (fun q hq => h1 q (.tail _ hq)) h2)
theorem kl_last_app (us : List Value) (v : Value) : kl_last (us ++ [v]) = some (us, v) := by
  induction us with
  | nil => rfl
  | cons x r ih => simp [kl_last, ih]
section
variable {prog : Program} {w : World} {A : Around} {E : Value → Shared → Prop} {s : Shared} {h₀ : Heap} {L D it l q : Addr} {m : Str → Option Value} {news : List (Addr × Obj)} {g : Obj → List (Addr × Obj)} {us : List Value} {v x : Value} {n i : Nat} {items : Array Value}
theorem pop_N {Q : Value → Shared → Prop} (F : Fr h₀ L s.heap m) (N : News h₀ L s.heap news) (U : UpdF D (W.listOf (us ++ [v]).toArray n) news g) (hz : us.length ≤ 16000)
    (h : ∀ h', Fr h₀ L h' m → News h₀ L h' (g (W.listOf us.toArray (n + 1))) → Q v { s with heap := h' }) : wpAny (model prog w) A (call (.builtin "list.pop") [.ref D]) Q E s := by
  obtain ⟨pre, post, rfl, hg, h1, h2⟩ := U.split
  refine kl_pop (p := us) (y := v) F N (by simpa using kl_last_app us v) (Upd.of h1 h2) ?_ ?_
  · simp [sizeLine_eq]; omega
  · intro h' F' N'
    exact h h' F' (hg _ ▸ N')
theorem last_N {value slice : PySem.Expr} {u : Tok} {Q : Value → Shared → Prop} (hl : s.heap.get? D = some (W.listOf (us ++ [v]).toArray n)) (h : Q v s)
    (hs : subscripted slice false (.ref D) (.int (-1) u) = operate [.ref D, .int (-1) u] (getItem (.ref D) (.int (-1) u)) := by with_unfolding_all rfl) :
    wpAny (model prog w) A (subscriptTail value slice (.ref D) (.int (-1) u)) Q E s := by
  refine kde_neg (vs := us ++ [v]) (j := us.length) ⟨_, hl, rfl, n, rfl⟩ (by decide) (by decide) ?_ (by simp) h hs
  simp [seqIndex?]; omega
theorem call_mwn {R : Value → Shared → Prop} (hq : s.heap.get? q = some (mwO "list_iterator.__next__" (.ref it))) (h : wpAny (model prog w) A.in1 (Builtin.«list_iterator.__next__» ⟨[.ref it], []⟩) (fun fin s' => ∃ v, fin = .done (.ret v) ∧ R v s') E s) : wpAny (model prog w) A (call (.ref q) []) R E s := by
  refine wpAny_call (codeAny_of_tree ?_)
  show wpAny _ _ (callAny (.ref q) ⟨[], []⟩) _ _ _
  have hc : checkBoundCall "list_iterator.__next__" ⟨[.ref it], []⟩ = pure () := by kernel_rfl
  unfold callAny
  refine wpAny_bind (wpAny_load hq ?_)
  dsimp only
  rw [if_pos (by decide)]
  show wpAny _ _ (if (Value.type "method-wrapper" != Value.type "method") = true then _ else _) _ _ _
  rw [if_pos (by decide)]
  refine wpAny_bind (wpAny_of_eq hc ?_)
  refine wpAny_bind (wpAny_pure (wpAny_pure ⟨plainId_quiet (by decide +kernel) _, codeAny_builtin entry_listiter_next ?_⟩))
  rw [Around.under_plainId (by decide +kernel) _]
  refine wpAny_mono h (fun fin s' hf => ?_) (fun e s' he => he)
  obtain ⟨v, rfl, hv⟩ := hf
  exact hv
theorem mwn_item {Q : Value → Shared → Prop} (hq : s.heap.get? q = some (mwO "list_iterator.__next__" (.ref it))) (F : Fr h₀ L s.heap m) (N : News h₀ L s.heap news) (U : UpdF it (itO_l l i) news g) (hl : ∃ c, s.heap.get? l = some (sqO_l items c)) (hx : items[i]? = some x)
    (h : ∀ h', Fr h₀ L h' m → News h₀ L h' (g (itO_l l (i + 1))) → Q x { s with heap := h' }) : wpAny (model prog w) A (call (.ref q) []) Q E s := by
  obtain ⟨pre, post, rfl, hg, h1, h2⟩ := U.split
  have hm := N (it, itO_l l i) (List.mem_append_right _ (.head _))
  refine call_mwn hq (nextB_item_l hm.1 hl hx ?_)
  obtain ⟨F', N'⟩ := news_upd (f := Obj.mapFields (·.setIfInBounds 1 (rawInt ((i : Int) + 1)))) (o' := itO_l l (i + 1)) F N h1 h2 (by simp [Obj.mapFields, rawInt]) rfl
  exact h _ F' (hg _ ▸ N')
theorem mwn_end {Q : Value → Shared → Prop} (hh : A.handled = none) (hq : s.heap.get? q = some (mwO "list_iterator.__next__" (.ref it))) (F : Fr h₀ L s.heap m) (N : News h₀ L s.heap news) (U : UpdF it (itO_l l i) news g) (hl : ∃ c, s.heap.get? l = some (sqO_l items c)) (hx : items[i]? = none)
    (h : ∀ h₁ h' o' e, Fr h₀ L h₁ m → News h₀ L h₁ (g o') → Heap.NewExc h₁ h' e "StopIteration" → E (.ref e) { s with heap := h' }) : wpAny (model prog w) A (call (.ref q) []) Q E s := by
  obtain ⟨pre, post, rfl, hg, h1, h2⟩ := U.split
  have hm := N (it, itO_l l i) (List.mem_append_right _ (.head _))
  refine call_mwn hq (nextB_end_l hh hm.1 hl hx fun h' e hn => ?_)
  obtain ⟨F', N'⟩ := news_upd (f := Obj.mapFields (·.setIfInBounds 0 .none)) (o' := { cls := .type "list_iterator", data := .fields #[.none, .int i 0] }) F N h1 h2 (by simp [Obj.mapFields]) rfl
  exact h _ _ _ e F' (hg _ ▸ N') hn
theorem mwn_N {Q : Value → Shared → Prop} (F : Fr h₀ L s.heap m) (N : News h₀ L s.heap news) (hm : (it, itO_l l i) ∈ news)
    (h : ∀ q' h', Fr h₀ L h' m → News h₀ L h' ((q', mwO "list_iterator.__next__" (.ref it)) :: news) → (∀ p ∈ news, p.1 < q') → Q (.ref q') { s with heap := h', toks := s.toks + 1 }) : wpAny (model prog w) A (getAttr (.ref it) "__next__" true) Q E s := by
  exact mw_next (N _ hm).1 rfl rfl rfl (h _ _ (F.push _) (N.push F _ rfl) fun p hp => Heap.lt_size (N p hp).1)
end
end
local macro_rules | `(tactic| k_ne) => zne1
local macro_rules | `(tactic| walk_at $s) => zd [] [("call builtin:list.append", zapp), ("getMethod ref", zgma)] s
local macro_rules | `(tactic| walk_at $s) => zd [] [("getMethod ref", zgmp)] s
local macro_rules | `(tactic| walk_at $s) => zd [] [("getMethod ref", zgmc), ("exec Assign", zasg)] s
section
noncomputable def kSt (I d : Addr) (kvs : List (Int × Value)) (ep : Nat) (w : World) (i : Nat) (h : Heap) : Prop := h.IsKeyIter I d i kvs.length ep ∧ h.DictAt (intKind PG w) d kvs ep
theorem kSt.get {I d : Addr} {kvs : List (Int × Value)} {ep : Nat} {w : World} : ∀ i h, kSt I d kvs ep w i h → ∃ o, h.get? I = some o := fun _ _ st => let ⟨⟨o, e, _⟩, _⟩ := st; ⟨o, e⟩
theorem it_keys {w : World} {A : Around} {E : Value → Shared → Prop} {s : Shared} {h₀ : Heap} {L d : Addr} {m : Str → Option Value} {news : List (Addr × Obj)} {kvs : List (Int × Value)} {od : Obj} {Q : Value → Shared → Prop} (hh : A.handled = none) (F : Fr h₀ L s.heap m) (N : News h₀ L s.heap news) (lo : (d == sysModules) = false) (e : s.heap.get? d = some od) (hd : od.IsDictOf (intKind PG w) kvs)
    (h : ∀ I h' oI ep, Fr h₀ L h' m → News h₀ L h' ((I, oI) :: news) → (∀ p ∈ news, p.1 < I) → d < I → Walks PG w A I [I, d] [I] kvs.length (fun i v => ∃ k t x, kvs[i]? = some (k, x) ∧ v = .int k t) (kSt I d kvs ep w) → ItO (kSt I d kvs ep w) I d oI od 0 → Q (.ref I) { s with heap := h' }) :
    wpAny (model PG w) A (pyIter (.ref d)) Q E s := by
  have lt := Heap.lt_size e
  obtain ⟨ep, hat⟩ := (Heap.dictOf_iff.mpr ⟨od, e, hd⟩).dictAt
  refine wpAny_pyIter_dict lo hat ?_
  have W0 := Walks.dictKeys (knd := intKind PG w) hh s.heap.objs.size d (Nat.ne_of_lt lt) kvs ep
  have W : Walks PG w A s.heap.objs.size [s.heap.objs.size, d] [s.heap.objs.size] kvs.length (fun i v => ∃ k t x, kvs[i]? = some (k, x) ∧ v = .int k t) (kSt s.heap.objs.size d kvs ep w) := {
    sub := W0.sub
    frame := W0.frame
    item := fun i s Q E hi st hQ => W0.item i s Q E hi st fun v h' tk hP st' hk => hQ v h' tk (by
      obtain ⟨k, x, e1, e2⟩ := hP
      obtain ⟨t, rfl⟩ := Value.isInt_shape e2
      exact ⟨k, t, x, e1, rfl⟩) st' hk
    done := W0.done
    self := W0.self }
  refine h _ _ _ ep (F.push _) (News.push F N _ rfl) (fun p hp => Heap.lt_size (N p hp).1) lt W ?_
  exact ItO.of W ⟨⟨_, Heap.get?_push_size _ rfl, rfl, rfl⟩, hat.push _⟩ (Heap.get?_push_size _ rfl) (Heap.get?_push_of_some _ e)
structure Sf where
  x : Nod
  t : Tok
  nv : Value
  mw : Addr
  it : Addr
  p : Nat
noncomputable def Sf.ents (f : Sf) : List (Addr × Obj) := [(f.mw, mwO "list_iterator.__next__" (.ref f.it)), (f.it, itO_l f.x.l f.p)]
noncomputable def sfEnts (fs : List Sf) : List (Addr × Obj) := fs.flatMap Sf.ents
noncomputable def skVals (fs : List Sf) : List Value := fs.reverse.map fun f => .int f.x.k f.t
noncomputable def itVals (fs : List Sf) : List Value := fs.reverse.map fun f => .ref f.mw
noncomputable def ndVals (fs : List Sf) : List (Int × Value) := fs.reverse.map fun f => (f.x.k, f.nv)
noncomputable def wtS (S : Int → Bool) (ns : List Nod) : Nat := (ns.map fun x => if S x.k then 0 else x.sc.length + 1).sum
noncomputable def ctS (S : Int → Bool) (ns : List Nod) : Nat := (ns.map fun x => if S x.k then 0 else 1).sum
noncomputable def remS (fs : List Sf) : Nat := (fs.map fun f => f.x.sc.length - f.p).sum
theorem skVals_cons (f : Sf) (fs : List Sf) : skVals (f :: fs) = skVals fs ++ [.int f.x.k f.t] := by simp [skVals]
theorem itVals_cons (f : Sf) (fs : List Sf) : itVals (f :: fs) = itVals fs ++ [.ref f.mw] := by simp [itVals]
theorem ndVals_cons (f : Sf) (fs : List Sf) : ndVals (f :: fs) = ndVals fs ++ [(f.x.k, f.nv)] := by simp [ndVals]
theorem wt_le {S : Int → Bool} {k : Int} : ∀ (ns : List Nod), wtS (fun j => S j || decide (j = k)) ns ≤ wtS S ns ∧ ctS (fun j => S j || decide (j = k)) ns ≤ ctS S ns
  | [] => ⟨Nat.le_refl _, Nat.le_refl _⟩
  | y :: r => by
    obtain ⟨a, b⟩ := wt_le (S := S) (k := k) r
    have e : ∀ n : Nat, (if (S y.k || decide (y.k = k)) = true then 0 else n) ≤ (if S y.k = true then 0 else n) := fun n => by
      by_cases h : S y.k = true <;> by_cases h2 : y.k = k <;> simp [h, h2]
    have e1 := e (y.sc.length + 1)
    have e2 := e 1
    simp only [wtS, ctS, List.map_cons, List.sum_cons] at a b ⊢
    omega
theorem wt_lt {S : Int → Bool} {x : Nod} (hS : S x.k = false) : ∀ {ns : List Nod}, x ∈ ns → wtS (fun j => S j || decide (j = x.k)) ns + (x.sc.length + 1) ≤ wtS S ns ∧ ctS (fun j => S j || decide (j = x.k)) ns + 1 ≤ ctS S ns
  | y :: r, hx => by
    rcases List.mem_cons.mp hx with rfl | hx
    · obtain ⟨a, b⟩ := wt_le (S := S) (k := x.k) r
      simp only [wtS, ctS, List.map_cons, List.sum_cons, hS, decide_true, Bool.or_true, if_true, Bool.false_eq_true, if_false] at a b ⊢
      omega
    · obtain ⟨a, b⟩ := wt_lt hS hx
      have e : ∀ n : Nat, (if (S y.k || decide (y.k = x.k)) = true then 0 else n) ≤ (if S y.k = true then 0 else n) := fun n => by
        by_cases h : S y.k = true <;> by_cases h2 : y.k = x.k <;> simp [h, h2]
      have e1 := e (y.sc.length + 1)
      have e2 := e 1
      simp only [wtS, ctS, List.map_cons, List.sum_cons] at a b ⊢
      omega
theorem valueAt_nd {fs : List Sf} {k : Int} (h : ∀ f ∈ fs, f.x.k ≠ k) : valueAt (ndVals fs) k = none := by
  simp only [valueAt, ndVals, List.find?_map, Option.map_map, Option.map_eq_none_iff, List.find?_eq_none]
  intro x hx
  simp only [Function.comp, decide_eq_true_eq]
  exact h x (List.mem_reverse.mp hx)
theorem ch_len {ρ : Int → Nat} {B : Nat} : ∀ {fs : List Sf}, fs.Pairwise (fun a b => ρ b.x.k < ρ a.x.k) → (∀ f ∈ fs, ρ f.x.k < B) → fs.length ≤ B
  | [], _, _ => Nat.zero_le _
  | f :: r, hp, hb => by
    obtain ⟨h1, h2⟩ := List.pairwise_cons.mp hp
    have := ch_len (B := ρ f.x.k) h2 h1
    have := hb f (.head _)
    simp only [List.length_cons]; omega
theorem kse_inB {w : World} {A : Around} {E : Value → Shared → Prop} {s : Shared} {h₀ : Heap} {L sa : Addr} {news : List (Addr × Obj)} {g : Obj → List (Addr × Obj)} {so : Obj} {S : Int → Bool} {n : Nat} {k : Int} {t : Tok} {b : Bool} {Q : Value → Shared → Prop} (N : News h₀ L s.heap news) (U : UpdF sa so news g) (hso : so.SetObjOf (intKind PG w) S n) (hb : n < scanBound) (hS : S k = b) (h : Q (.bool b) { s with toks := s.toks + 1 }) :
    wpAny (model PG w) A (compareOp .In (.int k t) (.ref sa)) Q E s := kse_in N U hso hb (intKind_is _ _ _ _) rfl (by rw [hS]; exact h)
theorem iterN_l {prog : Program} {w : World} {A : Around} {E : Value → Shared → Prop} {s : Shared} {h₀ : Heap} {L l : Addr} {m : Str → Option Value} {news : List (Addr × Obj)} {us : List Value} {c : Nat} {Q : Value → Shared → Prop} (F : Fr h₀ L s.heap m) (N : News h₀ L s.heap news) (hm : (l, W.listOf us.toArray c) ∈ news)
    (h : ∀ I h', Fr h₀ L h' m → News h₀ L h' ((I, itO_l l 0) :: news) → (∀ p ∈ news, p.1 < I) → Q (.ref I) { s with heap := h' }) : wpAny (model prog w) A (call (.builtin "iter") [.ref l]) Q E s := by
  have e := (N _ hm).1
  refine call_function_entry (by decide +kernel) (by decide +kernel) kdk_entry_iter (kdk_args_iter _) ?_
  unfold Builtin.«iter»
  refine wpAny_bind (m := someArgs "iter" 1 2 _) (wpAny_of_eq (a := [Value.ref l]) (by first | rfl | kernel_rfl!) ?_)
  show wpAny _ _ (pyIter (.ref l) >>= _) _ _ _
  refine wpAny_bind (wpAny_pyIter_list (items := us.toArray) ⟨_, e, rfl, c, rfl⟩ ?_)
  exact wpAny_pure ⟨_, rfl, h _ _ (F.push _) (News.push F N _ rfl) (fun q hq => Heap.lt_size (N q hq).1)⟩
theorem perm3 {α : Type} {a b c : α} (l1 l2 l3 : List α) : (l1 ++ (l2 ++ a :: b :: c :: l3)).Perm (a :: b :: c :: (l1 ++ (l2 ++ l3))) := by
  have := List.perm_append_comm_assoc (l1 ++ l2) [a, b, c] l3
  simpa using this
theorem fc_dict {w : World} {o : Obj} {fs : List Sf} {x : Nod} {t : Tok} {v : Value} {u q : Addr} {p : Nat} (h : o.IsDictOf (intKind PG w) (ndVals fs ++ [(x.k, v)])) : o.IsDictOf (intKind PG w) (ndVals (⟨x, t, v, u, q, p⟩ :: fs)) := by
  rw [ndVals_cons]; exact h
theorem fc_perm {J ND SE IS ST : Addr} {c : Hd} {rv : Value} {po nf : Int} {t5 t6 : Tok} {oD : Obj} {fs : List Sf} {pre post : List Nod} {x : Nod} : (J :: ND :: SE :: IS :: ST :: (sfEnts fs ++ srtL c rv po nf t5 t6 oD (pre ++ x :: post)).map (·.1)).Perm
    (J :: ND :: SE :: IS :: ST :: c.S :: c.dS :: c.D :: x.a :: x.d :: x.l :: (sfEnts fs ++ (entsN pre ++ entsN post)).map (·.1)) := by
  refine List.Perm.cons _ (List.Perm.cons _ (List.Perm.cons _ (List.Perm.cons _ (List.Perm.cons _ ?_))))
  simp only [srtL, entsN_app, entsN_cons, Nod.ents, List.map_append, List.map_cons, List.map_nil, List.cons_append, List.nil_append]
  refine List.Perm.trans (List.perm_append_comm_assoc _ [c.S, c.dS, c.D] _) ?_
  simp only [List.cons_append, List.nil_append]
  refine List.Perm.cons _ (List.Perm.cons _ (List.Perm.cons _ ?_))
  exact perm3 _ _ _
theorem fc_nd3 {J ND SE IS ST : Addr} {c : Hd} {rv : Value} {po nf : Int} {t5 t6 : Tok} {oD : Obj} {fs : List Sf} {pre post : List Nod} {x : Nod} (h : (J :: ND :: SE :: IS :: ST :: (sfEnts fs ++ srtL c rv po nf t5 t6 oD (pre ++ x :: post)).map (·.1)).Nodup) :
    (J :: ND :: SE :: IS :: ST :: c.S :: c.dS :: c.D :: x.a :: x.d :: x.l :: (sfEnts fs ++ (entsN pre ++ entsN post)).map (·.1)).Nodup := fc_perm.nodup_iff.mp h
theorem News.perm3 {g h : Heap} {L : Addr} {a b c d : List (Addr × Obj)} (N : News g L h (a ++ (b ++ c) ++ d)) : News g L h (b ++ (a ++ c) ++ d) := News.sub N fun p hp => by
  simp only [List.mem_append] at hp ⊢
  rcases hp with (h | h | h) | h
  · exact .inl (.inr (.inl h))
  · exact .inl (.inl h)
  · exact .inl (.inr (.inr h))
  · exact .inr h
theorem lt_off {l r : List (Addr × Obj)} {q : Addr} (h : ∀ p ∈ l, p.1 < q) (hs : ∀ p ∈ r, p ∈ l) : q ∉ r.map (·.1) := fun z => by
  obtain ⟨p, hp, e⟩ := List.mem_map.mp z
  exact absurd (h p (hs p hp)) (by rw [show p.1 = q from e]; exact Nat.lt_irrefl _)
theorem AllLt.off {rest : List (Addr × Obj)} {d : Addr} (h : AllLt d rest) : d ∉ rest.map (·.1) := fun z => by
  obtain ⟨p, hp, e⟩ := List.mem_map.mp z
  exact AllLt.all h p hp e
theorem fc_nd {g h : Heap} {L ND SE IS ST : Addr} {c : Hd} {ns : List Nod} {o1 o2 o3 o4 o5 o6 o7 : Obj} (_N : News g L h ((ND, o1) :: (SE, o2) :: (IS, o3) :: (ST, o4) :: (c.S, o5) :: (c.dS, o6) :: (c.D, o7) :: entsN ns)) (nd : (c.S :: c.dS :: c.D :: (entsN ns).map (·.1)).Nodup)
    (a1 : ND ∉ c.S :: c.dS :: c.D :: (entsN ns).map (·.1)) (a2 : SE ∉ c.S :: c.dS :: c.D :: (entsN ns).map (·.1)) (a3 : IS ∉ c.S :: c.dS :: c.D :: (entsN ns).map (·.1)) (a4 : ST ∉ c.S :: c.dS :: c.D :: (entsN ns).map (·.1))
    (b1 : ND ≠ SE) (b2 : ND ≠ IS) (b3 : ND ≠ ST) (b4 : SE ≠ IS) (b5 : SE ≠ ST) (b6 : IS ≠ ST) : (ND :: SE :: IS :: ST :: c.S :: c.dS :: c.D :: (entsN ns).map (·.1)).Nodup := by
  rw [List.nodup_cons, List.nodup_cons, List.nodup_cons, List.nodup_cons]
  refine ⟨fun z => ?_, fun z => ?_, fun z => ?_, a4, nd⟩
  · rcases List.mem_cons.mp z with z | z
    · exact b1 z
    rcases List.mem_cons.mp z with z | z
    · exact b2 z
    rcases List.mem_cons.mp z with z | z
    · exact b3 z
    exact a1 z
  · rcases List.mem_cons.mp z with z | z
    · exact b4 z
    rcases List.mem_cons.mp z with z | z
    · exact b5 z
    exact a2 z
  · rcases List.mem_cons.mp z with z | z
    · exact b6 z
    exact a3 z
theorem truthy_nilN {prog : Program} {w : World} {A : Around} {E : Value → Shared → Prop} {s : Shared} {h₀ : Heap} {L l : Addr} {news : List (Addr × Obj)} {c : Nat} {Q : Bool → Shared → Prop} (N : News h₀ L s.heap news) (hm : (l, W.listOf [].toArray c) ∈ news)
    (h : Q false { s with toks := s.toks + 1 + 1 }) : wpAny (model prog w) A (truthy (.ref l)) Q E s :=
  wpAny_truthy_list (items := #[]) ⟨_, (N _ hm).1, rfl, c, rfl⟩ (by decide) h
theorem truthy_snocN {prog : Program} {w : World} {A : Around} {E : Value → Shared → Prop} {s : Shared} {h₀ : Heap} {L l : Addr} {news : List (Addr × Obj)} {us : List Value} {v : Value} {c : Nat} {Q : Bool → Shared → Prop} (N : News h₀ L s.heap news) (hm : (l, W.listOf (us ++ [v]).toArray c) ∈ news) (hz : us.length ≤ 16000)
    (h : Q true { s with toks := s.toks + 1 + 1 }) : wpAny (model prog w) A (truthy (.ref l)) Q E s :=
  wpAny_truthy_list (items := (us ++ [v]).toArray) ⟨_, (N _ hm).1, rfl, c, rfl⟩ (by simp; omega) (by
    have : (!(us ++ [v]).toArray.isEmpty) = true := by simp
    rw [this]; exact h)
theorem len_N {prog : Program} {w : World} {A : Around} {E : Value → Shared → Prop} {s : Shared} {h₀ : Heap} {L l : Addr} {news : List (Addr × Obj)} {us : List Value} {c : Nat} {Q : Value → Shared → Prop} (N : News h₀ L s.heap news) (hm : (l, W.listOf us.toArray c) ∈ news) (hz : us.length ≤ 16000)
    (h : Q (.int us.length (s.toks + 1)) { s with toks := s.toks + 1 + 1 }) : wpAny (model prog w) A (call (.builtin "len") [.ref l]) Q E s :=
  kun_lenL (items := us.toArray) ⟨_, (N _ hm).1, rfl, c, rfl⟩ (by rw [List.size_toArray]) (by omega) h
noncomputable def FcMark : Prop := True
theorem isExcStop : isSubtype (.type "StopIteration") (.type "BaseException") = pure true := by rw [isSubtype_type]; kernel_rfl
theorem notTupStop : isSubtype (.type ((Manifest.find? "StopIteration").elim "type" fun x => x.metatype)) (.type "tuple") = pure false := by
  rw [isSubtype_type]; kernel_rfl
section
local macro_rules | `(tactic| walk_at $s) => zd ["call builtin:iter", "truthy ref", "call ref", "exec For Name Name cons nil", "exec While Constant cons nil", "exec While Name cons cons"] [("exec If", zif), ("fc off", zfco), ("compareOp In int ref", zcin), ("getAttr ref", zgan), ("subscriptTail", zsub1), ("subscriptTail Name UnaryOp ref int", zsub1), ("callWith ref", zcwr), ("call builtin:list.pop", zpop), ("delItem ref int", zdel), ("call builtin:len", zlen2)] s
theorem con_fc {w : World} {h : Heap} {c : Hd} {rv : Value} {po nf : Int} {t5 t6 : Tok} {oD : Obj} {ns : List Nod} {ρ : Int → Nat} (ok : SrtOk w c oD ns) (hz : ns.length ≤ 100) (hw : wtS (fun _ => false) ns ≤ 1000)
    (hρ : ∀ x ∈ ns, ρ x.k < 100) (hac : ∀ x ∈ ns, ∀ s ∈ x.sc, s ∈ ns.map (·.k) ∧ ρ x.k < ρ s) :
    ConX w 185 60 (srtL c rv po nf t5 t6 oD ns) [.ref c.S] (fun v led h' => v = .none ∧ led = srtL c rv po nf t5 t6 oD ns) h := by
  revert ok hz hw hρ hac
  revert w h c rv po nf t5 t6 oD ns ρ
  walk_at "11"; (iterate 4 (generalize zf w_ = oD; generalize zs w_ = v_; clear w_; generalize zf v_ = oD; generalize zs v_ = w_; clear v_)); generalize zf w_ = oD; generalize zs w_ = v_; clear w_; generalize zf v_ = ns, zs v_ = ρ; clear v_; rename_i w h c rv po nf t5 t6
  intro ok hz hw hρ hac
  refine ConX.hk ?_; generalize wX _ _ _ _ _ _ _ = c_; delta ConXat; generalize c_.mean = mean, c_.mg = mg, c_.mb = mb, c_.dp = dp, c_.un = un, c_.gd = gd, c_.cn = cn, c_.cs = cs, c_.a = a, c_.ccd = ccd, c_.cl = cl, c_.outer = outer, c_.A₀ = A₀, c_.base = base, c_.h₀ = h₀, c_.L = L, c_.m = m, c_.s = s, c_.Q = Q, c_.E = E
  intro hh M F N hk hdp hun hret
  subst hh
  have X := M.X
  (refine wpAny_call ?_; k_dflt (refine' enterX ?k1 ?k2 ?k4 ?kK ?k6 ?k7 ?k8 ?k9 ?kB ?_ ?c2 ?c3 ?c4 ?c5; (case kK => assumption); (case k1 => assumption); (case k2 => assumption); (case k4 => assumption); (case k6 => k_is); (case k7 => k_is); (case k8 => omega); (case k9 => first | exact BindsTo.of_eq rfl | exact binds_K (by k_in) rfl (by k_is) rfl rfl rfl); (case c5 => decide); (case kB => exact locs rfl); (case c2 => exact rfl); (case c3 => exact rfl); (case c4 => exact rfl); k_whole))
  walk_at "3"; generalize zf w_ = g, zf (zs w_) = L', zs (zs w_) = h₁
  intro sg gs eL lt F' N' M'
  (try dsimp only)
  refine wpAny_noRaise ?_
  have B' := M'.B
  have X' := M'.X
  have T' := M'.T
  dsimp only [srtL] at lt N'
  k_lt lt
  k_steps
  refine Blk.out ?_
  refine for_raw ?_
  k_steps
  refine Blk.out ?_
  rename Fr g L' _ _ => F5
  rename News g L' _ _ => N5
  rename Obj.IsDictOf (PySem.strKind PG w) _ _ => junk1
  rename Obj.SetObjOf (PySem.strKind PG w) _ _ _ => junk2
  rename Obj.IsDictOf (PySem.intKind PG w) _ _ => hND
  rename Obj.SetObjOf (PySem.intKind PG w) _ _ _ => hSE
  rename (_ == sysModules) = false => loN
  clear junk1 junk2
  have nd0 := fc_nd (c := c) (ns := ns) N5 ok.nd (by walk_at "fc off") (by walk_at "fc off") (by walk_at "fc off") (by walk_at "fc off") (by k_ne) (by k_ne) (by k_ne) (by k_ne) (by k_ne) (by k_ne)
  refine it_keys (kvs := kvsN ns) rfl F5 N5 ok.lo (N5 (c.D, oD) (by simp)).1 ok.dict ?_
  intro J h6 oI ep F6 N6 lt6 ltJ Wk hO
  rename_i ST a1 a2 a3 a4 IS a5 a6 a7 SE a8 a9 a10 a11 ND a12 oND0 fsJ fiJ a13 a14
  clear fsJ fiJ a1 a2 a3 a4 a5 a6 a7 a8 a10 a11 a12 a13
  have ndX : (J :: ND :: SE :: IS :: ST :: c.S :: c.dS :: c.D :: (entsN ns).map (·.1)).Nodup :=
    nodup_new (l' := (ND, oND0) :: (SE, oI) :: (IS, oI) :: (ST, oI) :: srtL c rv po nf t5 t6 oD ns) lt6 (fun z hz => hz) nd0
  obtain ⟨Iv3, hIv3⟩ : ∃ Iv3 : Nat → Shared → Prop, Iv3 = fun n s' => ∀ G_ : Prop, (∀ i g2 h tk m' c1 c2 so Sn nn oN oI, (s' = { s with heap := h, toks := tk }) → (m' (Str.ofString "n2i") = some (.ref c.D)) → (m' (Str.ofString "stack") = some (.ref ST)) → (m' (Str.ofString "itstack") = some (.ref IS)) → (m' (Str.ofString "seen") = some (.ref SE)) → (m' (Str.ofString "node2stacki") = some (.ref ND)) → (KtsTurn (L :: fsOf outer) g g2) → (Am w mean mg mb (ktrTop dp un gd cn cs L a ccd cl outer) base (envX cn cs L a ccd cl :: outer) g2) → (Fr g2 L' h m') → (News g2 L' h ((J, oI) :: (ND, oN) :: (SE, so) :: (IS, W.listOf [].toArray c2) :: (ST, W.listOf [].toArray c1) :: srtL c rv po nf t5 t6 oD ns)) → (so.SetObjOf (intKind PG w) Sn nn) → (nn + ctS Sn ns ≤ 100) → (oN.IsDictOf (intKind PG w) []) → (ItO (kSt J c.D (kvsN ns) ep w) J c.D oI oD i) → (i ≤ (kvsN ns).length) → (n = (kvsN ns).length - i) → G_) → G_ := ⟨_, rfl⟩
  refine ⟨Iv3, (kvsN ns).length, ?_, ?_⟩
  rw [hIv3]
  refine (fun _ k_ => k_ 0 g h6 _ _ _ _ _ _ 0 _ oI rfl rfl rfl rfl rfl rfl KtsTurn.refl M' F6 N6 hSE ?_ hND hO (Nat.zero_le _) rfl)
  · have : ∀ l : List Nod, ctS (fun _ => false) l ≤ l.length := fun l => by
      induction l with
      | nil => exact Nat.le_refl _
      | cons y r ih => simp only [ctS, List.map_cons, List.sum_cons, List.length_cons] at ih ⊢; simp at ih ⊢; omega
    have := this ns
    omega
  intro n s' hI1_; (first | rw [hIv3] at hI1_ | skip); refine hI1_ _ ?_; clear hI1_; intro i g2 h tk m' c1 c2 so Sn nn oN oI2 e2_ m1 m2 m3 m4 m5 t2 M2 F2 N2 hSE2 hct hND2 hO2 hi e3_; subst e2_; subst e3_
  have st := hO2 h (N2 (J, oI2) (.head _)).1 (N2 (c.D, oD) (by simp [srtL])).1
  have ndJ := (List.nodup_cons.mp ndX).1
  have F2' := frk F2 _ (kn1 m1 (kn1 m2 (kn1 m3 (kn1 m4 (kn1 m5 kn0)))))
  by_cases hil : i < (kvsN ns).length
  · refine walk_item Wk kSt.get F2' N2 (UpdF.head (tail_off ndJ)) st hil ?_
    intro v h4 tk4 oI4 hv st4 F4 N4
    have hO4 : ItO (kSt J c.D (kvsN ns) ep w) J c.D oI4 oD (i + 1) := ItO.of Wk st4 (N4 _ (.head _)).1 (N4 (c.D, oD) (by simp [srtL])).1
    obtain ⟨k, t, xv, hkx, rfl⟩ := hv
    have hkin : k ∈ ns.map (·.k) := by
      have := List.mem_of_getElem? hkx
      simp only [kvsN, List.mem_map] at this
      obtain ⟨y, hy, e⟩ := this
      exact List.mem_map.mpr ⟨y, hy, congrArg Prod.fst e⟩
    refine apartE8 ndX ?_; intro q0_1 q0_2 q0_3 q0_4 q0_5 q0_6 q0_7 q1_2 q1_3 q1_4 q1_5 q1_6 q1_7 q2_3 q2_4 q2_5 q2_6 q2_7 q3_4 q3_5 q3_6 q3_7 q4_5 q4_6 q4_7 q5_6 q5_7 q6_7 qm0 qm1 qm2 qm3 qm4 qm5 qm6 qm7
    dsimp only [ForTurn]
    dsimp only [srtL] at N4
    clear N5 F5 N6 F6 F2 F2' N2 X' T' B'
    have X' := M2.X
    have T' := M2.T
    rcases Bool.eq_false_or_eq_true (Sn k) with hS | hS
    · k_steps
      rename Fr g2 L' _ _ => F5
      rename News g2 L' _ _ => N5
      refine ⟨(kvsN ns).length - (i + 1), by omega, ?_⟩
      first | rw [hIv3] | rw [hIv2] | rw [hIv1]
      refine (fun _ k_ => k_ (i + 1) g2 _ _ _ c1 c2 so Sn nn oN oI4 rfl rfl rfl rfl rfl rfl t2 M2 F5 N5 hSE2 hct hND2 hO4 hil rfl)
    · k_steps
      refine Blk.out ?_
      rename Fr g2 L' _ _ => F5
      rename News g2 L' _ _ => N5
      obtain ⟨Iv1, hIv1⟩ : ∃ Iv1 : Nat → Shared → Prop, Iv1 = fun n s' => ∀ G_ : Prop, (∀ g2 h tk m' c1 c2 so Sn nn oN fs k t, (s' = { s with heap := h, toks := tk }) → (m' (Str.ofString "n2i") = some (.ref c.D)) → (m' (Str.ofString "stack") = some (.ref ST)) → (m' (Str.ofString "itstack") = some (.ref IS)) → (m' (Str.ofString "seen") = some (.ref SE)) → (m' (Str.ofString "node2stacki") = some (.ref ND)) → (m' (Str.ofString "node") = some (.int k t)) → (KtsTurn (L :: fsOf outer) g g2) → (Am w mean mg mb (ktrTop dp un gd cn cs L a ccd cl outer) base (envX cn cs L a ccd cl :: outer) g2) → (Fr g2 L' h m') → (News g2 L' h ([(J, oI4), (ND, oN), (SE, so), (IS, W.listOf (itVals fs).toArray c2), (ST, W.listOf (skVals fs).toArray c1)] ++ sfEnts fs ++ srtL c rv po nf t5 t6 oD ns)) → (so.SetObjOf (intKind PG w) Sn nn) → (nn + ctS Sn ns ≤ 100) → (oN.IsDictOf (intKind PG w) (ndVals fs)) → ((∀ f ∈ fs, f.x ∈ ns ∧ f.p ≤ f.x.sc.length)) → (fs.Pairwise (fun a b => ρ b.x.k < ρ a.x.k)) → ((∀ f ∈ fs, ρ f.x.k < ρ k)) → (k ∈ ns.map (·.k)) → ((J :: ND :: SE :: IS :: ST :: (sfEnts fs ++ srtL c rv po nf t5 t6 oD ns).map (·.1)).Nodup) → (n = wtS Sn ns + remS fs) → G_) → G_ := ⟨_, rfl⟩
      refine while_rule Iv1 ?_ _ (by rw [hIv1]; exact (fun _ k_ => k_ g2 _ _ _ c1 c2 so Sn nn oN ([]) k t rfl rfl rfl rfl rfl rfl rfl t2 M2 F5 N5 hSE2 hct hND2 (fun _ h => nomatch h) .nil (fun _ h => nomatch h) hkin ndX rfl))
      intro n s' hI4_; (first | rw [hIv1] at hI4_ | skip); refine hI4_ _ ?_; clear hI4_; intro g3 h6 tk6 m6 d1 d2 so3 S3 n3 oN3 fs k3 t3 e5_ e1 e2 e3 e4 e5 e6 t3' M3 F3 N3 hSE3 hct3 hND3 hfs hch hlt3 hk3 nd3 e6_; subst e5_; subst e6_
      have F3' := frk F3 _ (kn1 e1 (kn1 e2 (kn1 e3 (kn1 e4 (kn1 e5 (kn1 e6 kn0))))))
      clear N5 F5 F3 q0_1 q0_2 q0_3 q0_4 q0_5 q0_6 q0_7 q1_2 q1_3 q1_4 q1_5 q1_6 q1_7 q2_3 q2_4 q2_5 q2_6 q2_7 q3_4 q3_5 q3_6 q3_7 q4_5 q4_6 q4_7 q5_6 q5_7 q6_7 qm0 qm1 qm2 qm3 qm4 qm5 qm6 qm7
      clear X' T'
      have X' := M3.X
      have T' := M3.T
      obtain ⟨x, hx, hxk⟩ := List.mem_map.mp hk3
      obtain ⟨pre, post, rfl⟩ := List.append_of_mem hx
      have N3' := srt_out ([(J, oI4), (ND, oN3), (SE, so3), (IS, W.listOf (itVals fs).toArray d2), (ST, W.listOf (skVals fs).toArray d1)] ++ sfEnts fs) N3
      simp only [List.cons_append, List.nil_append, List.append_assoc] at N3'
      have nd3' := fc_nd3 nd3
      refine apartE11 nd3' ?_; intro p0_1 p0_2 p0_3 p0_4 p0_5 p0_6 p0_7 p0_8 p0_9 p0_10 p1_2 p1_3 p1_4 p1_5 p1_6 p1_7 p1_8 p1_9 p1_10 p2_3 p2_4 p2_5 p2_6 p2_7 p2_8 p2_9 p2_10 p3_4 p3_5 p3_6 p3_7 p3_8 p3_9 p3_10 p4_5 p4_6 p4_7 p4_8 p4_9 p4_10 p5_6 p5_7 p5_8 p5_9 p5_10 p6_7 p6_8 p6_9 p6_10 p7_8 p7_9 p7_10 p8_9 p8_10 p9_10 pm0 pm1 pm2 pm3 pm4 pm5 pm6 pm7 pm8 pm9 pm10
      clear N3
      have fl : fs.length ≤ 100 := ch_len hch fun f hf => hρ _ (hfs f hf).1
      have hva := valueAt_some hx ok.kn
      rw [hxk] at hva
      have dictX := ok.dict
      generalize hNN : wtS S3 (pre ++ x :: post) + remS fs = NN
      have mk : FcMark := trivial
      k_steps
      rename FcMark => mk
      clear mk
      refine Blk.out ?_
      refine wpAny_mono (Q := fun f s' => Blk (f = Flow.next ∧ ∃ g2 h tk m' c1 c2 so Sn nn oN fs, s' = { s with heap := h, toks := tk } ∧ m' (Str.ofString "n2i") = some (.ref c.D) ∧ m' (Str.ofString "stack") = some (.ref ST) ∧ m' (Str.ofString "itstack") = some (.ref IS) ∧ m' (Str.ofString "seen") = some (.ref SE) ∧ m' (Str.ofString "node2stacki") = some (.ref ND) ∧ KtsTurn (L :: fsOf outer) g g2 ∧ Am w mean mg mb (ktrTop dp un gd cn cs L a ccd cl outer) base (envX cn cs L a ccd cl :: outer) g2 ∧ Fr g2 L' h m' ∧ News g2 L' h ([(J, oI4), (ND, oN), (SE, so), (IS, W.listOf (itVals fs).toArray c2), (ST, W.listOf (skVals fs).toArray c1)] ++ sfEnts fs ++ srtL c rv po nf t5 t6 oD (pre ++ x :: post)) ∧ so.SetObjOf (intKind PG w) Sn nn ∧ nn + ctS Sn (pre ++ x :: post) ≤ 100 ∧ oN.IsDictOf (intKind PG w) (ndVals fs) ∧ (∀ f ∈ fs, f.x ∈ pre ++ x :: post ∧ f.p ≤ f.x.sc.length) ∧ fs.Pairwise (fun a b => ρ b.x.k < ρ a.x.k) ∧ (J :: ND :: SE :: IS :: ST :: (sfEnts fs ++ srtL c rv po nf t5 t6 oD (pre ++ x :: post)).map (·.1)).Nodup ∧ wtS Sn (pre ++ x :: post) + remS fs ≤ NN)) ?_ ?_ (fun _ _ z => z)
      · rcases Bool.eq_false_or_eq_true (S3 k3) with hS3 | hS3
        · have hv3 : (valueAt (ndVals fs) k3).isSome = false := by
            rw [valueAt_nd (fun f hf e => absurd (hlt3 f hf) (by rw [e]; exact Nat.lt_irrefl _))]; rfl
          k_steps
          rename Fr g3 L' _ _ => F5
          rename News g3 L' _ _ => N5
          exact Blk.mk ⟨rfl, g3, _, _, _, d1, d2, so3, S3, n3, oN3, fs, rfl, rfl, rfl, rfl, rfl, rfl, t3', M3, F5, srt_in [] ([(J, oI4), (ND, oN3), (SE, so3), (IS, W.listOf (itVals fs).toArray d2), (ST, W.listOf (skVals fs).toArray d1)] ++ sfEnts fs) (x := x) N5, hSE3, hct3, hND3, hfs, hch, nd3, Nat.le_of_eq hNN⟩
        · have lenI : (itVals fs).length ≤ 100 := by simpa [itVals] using fl
          have lenS : ((skVals fs).toArray.size : Int) = fs.length := by simp [skVals]
          have lenS' : (fs.length : Int) ≤ 16384 := by omega
          have lenS2 : (skVals fs).length ≤ 100 := by simpa [skVals] using fl
          have lenN : (ndVals fs).length ≤ 100 := by simpa [ndVals] using fl
          k_steps
          refine Blk.out ?_
          rename Fr g3 L' _ _ => F5
          rename News g3 L' _ _ => N5
          rename Obj.SetObjOf (PySem.intKind PG w) _ (fun k' => S3 k' || decide (k' = k3)) _ => hSE5
          refine iterN_l (us := x.vs) (c := x.c) F5 N5 (by k_mem) ?_
          intro q h7 F7 N7 ltq
          have hq0 : q ≠ c.S := Nat.ne_of_gt (ltq _ (.head _))
          have hq1 : q ≠ c.dS := Nat.ne_of_gt (ltq _ (.tail _ (.head _)))
          have hq2 : q ≠ c.D := Nat.ne_of_gt (ltq _ (.tail _ (.tail _ (.head _))))
          have hq3 : q ≠ x.a := Nat.ne_of_gt (ltq _ (.tail _ (.tail _ (.tail _ (.head _)))))
          have hq4 : q ≠ x.d := Nat.ne_of_gt (ltq _ (.tail _ (.tail _ (.tail _ (.tail _ (.head _))))))
          have hq5 : q ≠ x.l := Nat.ne_of_gt (ltq _ (.tail _ (.tail _ (.tail _ (.tail _ (.tail _ (.head _)))))))
          have hq6 : q ≠ J := Nat.ne_of_gt (ltq _ (.tail _ (.tail _ (.tail _ (.tail _ (.tail _ (.tail _ (.head _))))))))
          have hq7 : q ≠ ND := Nat.ne_of_gt (ltq _ (.tail _ (.tail _ (.tail _ (.tail _ (.tail _ (.tail _ (.tail _ (.head _)))))))))
          have hq8 : q ≠ SE := Nat.ne_of_gt (ltq _ (.tail _ (.tail _ (.tail _ (.tail _ (.tail _ (.tail _ (.tail _ (.tail _ (.head _))))))))))
          have hq9 : q ≠ IS := Nat.ne_of_gt (ltq _ (.tail _ (.tail _ (.tail _ (.tail _ (.tail _ (.tail _ (.tail _ (.tail _ (.tail _ (.head _)))))))))))
          have hq10 : q ≠ ST := Nat.ne_of_gt (ltq _ (.tail _ (.tail _ (.tail _ (.tail _ (.tail _ (.tail _ (.tail _ (.tail _ (.tail _ (.tail _ (.head _))))))))))))
          have hqt : q ∉ (sfEnts fs ++ (entsN pre ++ entsN post)).map (·.1) := lt_off ltq fun p hp => by simp only [List.mem_cons]; exact .inr (.inr (.inr (.inr (.inr (.inr (.inr (.inr (.inr (.inr (.inr hp))))))))))
          clear F5 N5
          k_steps
          refine Blk.out ?_
          rename Fr g3 L' _ _ => F8
          rename News g3 L' _ _ => N8
          refine mwn_N (l := x.l) (i := 0) F8 N8 (by k_mem) ?_
          intro u h9 F9 N9 ltu
          have hu0 : u ≠ q := Nat.ne_of_gt (ltu _ (.head _))
          have hu1 : u ≠ c.S := Nat.ne_of_gt (ltu _ (.tail _ (.head _)))
          have hu2 : u ≠ c.dS := Nat.ne_of_gt (ltu _ (.tail _ (.tail _ (.head _))))
          have hu3 : u ≠ c.D := Nat.ne_of_gt (ltu _ (.tail _ (.tail _ (.tail _ (.head _)))))
          have hu4 : u ≠ x.a := Nat.ne_of_gt (ltu _ (.tail _ (.tail _ (.tail _ (.tail _ (.head _))))))
          have hu5 : u ≠ x.d := Nat.ne_of_gt (ltu _ (.tail _ (.tail _ (.tail _ (.tail _ (.tail _ (.head _)))))))
          have hu6 : u ≠ x.l := Nat.ne_of_gt (ltu _ (.tail _ (.tail _ (.tail _ (.tail _ (.tail _ (.tail _ (.head _))))))))
          have hu7 : u ≠ J := Nat.ne_of_gt (ltu _ (.tail _ (.tail _ (.tail _ (.tail _ (.tail _ (.tail _ (.tail _ (.head _)))))))))
          have hu8 : u ≠ ND := Nat.ne_of_gt (ltu _ (.tail _ (.tail _ (.tail _ (.tail _ (.tail _ (.tail _ (.tail _ (.tail _ (.head _))))))))))
          have hu9 : u ≠ SE := Nat.ne_of_gt (ltu _ (.tail _ (.tail _ (.tail _ (.tail _ (.tail _ (.tail _ (.tail _ (.tail _ (.tail _ (.head _)))))))))))
          have hu10 : u ≠ IS := Nat.ne_of_gt (ltu _ (.tail _ (.tail _ (.tail _ (.tail _ (.tail _ (.tail _ (.tail _ (.tail _ (.tail _ (.tail _ (.head _))))))))))))
          have hu11 : u ≠ ST := Nat.ne_of_gt (ltu _ (.tail _ (.tail _ (.tail _ (.tail _ (.tail _ (.tail _ (.tail _ (.tail _ (.tail _ (.tail _ (.tail _ (.head _)))))))))))))
          have hut : u ∉ (sfEnts fs ++ (entsN pre ++ entsN post)).map (·.1) := lt_off ltu fun p hp => by simp only [List.mem_cons]; exact .inr (.inr (.inr (.inr (.inr (.inr (.inr (.inr (.inr (.inr (.inr (.inr hp)))))))))))
          clear F8 N8
          k_steps
          rename Fr g3 L' _ _ => F10
          rename News g3 L' _ _ => N10
          rename Obj.IsDictOf (PySem.intKind PG w) _ (stored _ _ _) => hND5
          simp only [List.push_toArray] at N10
          subst hxk
          rw [stored_new (valueAt_nd (fun f hf e => absurd (hlt3 f hf) (by rw [e]; exact Nat.lt_irrefl _)))] at hND5
          obtain ⟨w1, w2⟩ := wt_lt hS3 hx
          refine Blk.mk ⟨rfl, g3, _, _, _, d1 + 1, d2 + 1, _, _, _, _, (⟨x, t3, _, u, q, 0⟩ : Sf) :: fs, rfl, rfl, rfl, rfl, rfl, rfl, t3', M3, F10, ?_, hSE5, ?_, fc_dict hND5, ?_, ?_, ?_, ?_⟩
          · rw [itVals_cons, skVals_cons]
            exact News.perm3 (srt_in [(u, mwO "list_iterator.__next__" (.ref q)), (q, itO_l x.l 0)] ([(J, oI4), (ND, _), (SE, _), (IS, W.listOf (itVals fs ++ [Value.ref u]).toArray (d2 + 1)), (ST, W.listOf (skVals fs ++ [Value.int x.k t3]).toArray (d1 + 1))] ++ sfEnts fs) (x := x) N10)
          · rw [if_neg (by rw [hS3]; exact Bool.false_ne_true)]; omega
          · intro f hf
            rcases List.mem_cons.mp hf with rfl | hf
            · exact ⟨hx, Nat.zero_le _⟩
            · exact hfs f hf
          · exact List.pairwise_cons.mpr ⟨fun f hf => hlt3 f hf, hch⟩
          · have hq : q ∉ (J :: ND :: SE :: IS :: ST :: (sfEnts fs ++ srtL c rv po nf t5 t6 oD (pre ++ x :: post)).map (·.1)) := fun z => by
              have := (fc_perm (rv := rv) (po := po) (nf := nf) (t5 := t5) (t6 := t6) (oD := oD) (fs := fs) (pre := pre) (post := post) (x := x)).mem_iff.mp z
              simp only [List.mem_cons] at this
              rcases this with e | e | e | e | e | e | e | e | e | e | e | e
              · exact hq6 e
              · exact hq7 e
              · exact hq8 e
              · exact hq9 e
              · exact hq10 e
              · exact hq0 e
              · exact hq1 e
              · exact hq2 e
              · exact hq3 e
              · exact hq4 e
              · exact hq5 e
              · exact hqt e
            have hu : u ∉ (q :: J :: ND :: SE :: IS :: ST :: (sfEnts fs ++ srtL c rv po nf t5 t6 oD (pre ++ x :: post)).map (·.1)) := fun z => by
              rcases List.mem_cons.mp z with z | z
              · exact hu0 z
              have := (fc_perm (rv := rv) (po := po) (nf := nf) (t5 := t5) (t6 := t6) (oD := oD) (fs := fs) (pre := pre) (post := post) (x := x)).mem_iff.mp z
              simp only [List.mem_cons] at this
              rcases this with e | e | e | e | e | e | e | e | e | e | e | e
              · exact hu7 e
              · exact hu8 e
              · exact hu9 e
              · exact hu10 e
              · exact hu11 e
              · exact hu1 e
              · exact hu2 e
              · exact hu3 e
              · exact hu4 e
              · exact hu5 e
              · exact hu6 e
              · exact hut e
            refine (List.Perm.nodup_iff ?_).mp (List.nodup_cons.mpr ⟨hu, List.nodup_cons.mpr ⟨hq, nd3⟩⟩)
            exact (List.perm_append_comm_assoc [J, ND, SE, IS, ST] [u, q] ((sfEnts fs ++ srtL c rv po nf t5 t6 oD (pre ++ x :: post)).map (·.1))).symm
          · rw [← hNN]
            simp only [remS, List.map_cons, List.sum_cons, Nat.sub_zero]
            have : remS fs = (fs.map fun f => f.x.sc.length - f.p).sum := rfl
            omega
      rintro fl s' hmid
      obtain ⟨efl, g4, h4', tk4', m4', c14, c24, so4, S4, n4, oN4, fs4, es4, y1, y2, y3, y4, y5, t4', M4, F4', N4', hSE4, hct4, hND4, hfs4, hch4, nd4, hm4⟩ := hmid
      subst efl
      subst es4
      dsimp only
      k_steps
      refine Blk.out ?_
      obtain ⟨Iv2, hIv2⟩ : ∃ Iv2 : Nat → Shared → Prop, Iv2 = fun n s' => ∀ G_ : Prop, (∀ g2 h tk m' c1 c2 so Sn nn oN fs, (s' = { s with heap := h, toks := tk }) → (m' (Str.ofString "n2i") = some (.ref c.D)) → (m' (Str.ofString "stack") = some (.ref ST)) → (m' (Str.ofString "itstack") = some (.ref IS)) → (m' (Str.ofString "seen") = some (.ref SE)) → (m' (Str.ofString "node2stacki") = some (.ref ND)) → (KtsTurn (L :: fsOf outer) g g2) → (Am w mean mg mb (ktrTop dp un gd cn cs L a ccd cl outer) base (envX cn cs L a ccd cl :: outer) g2) → (Fr g2 L' h m') → (News g2 L' h ([(J, oI4), (ND, oN), (SE, so), (IS, W.listOf (itVals fs).toArray c2), (ST, W.listOf (skVals fs).toArray c1)] ++ sfEnts fs ++ srtL c rv po nf t5 t6 oD (pre ++ x :: post))) → (so.SetObjOf (intKind PG w) Sn nn) → (nn + ctS Sn (pre ++ x :: post) ≤ 100) → (oN.IsDictOf (intKind PG w) (ndVals fs)) → ((∀ f ∈ fs, f.x ∈ pre ++ x :: post ∧ f.p ≤ f.x.sc.length)) → (fs.Pairwise (fun a b => ρ b.x.k < ρ a.x.k)) → ((J :: ND :: SE :: IS :: ST :: (sfEnts fs ++ srtL c rv po nf t5 t6 oD (pre ++ x :: post)).map (·.1)).Nodup) → (wtS Sn (pre ++ x :: post) + remS fs ≤ NN) → (n = fs.length) → G_) → G_ := ⟨_, rfl⟩
      refine while_rule Iv2 ?_ _ (by rw [hIv2]; exact (fun _ k_ => k_ g4 h4' tk4' m4' c14 c24 so4 S4 n4 oN4 fs4 rfl y1 y2 y3 y4 y5 t4' M4 F4' N4' hSE4 hct4 hND4 hfs4 hch4 nd4 hm4 rfl))
      clear hfs hch hlt3 hk3 hND3 hSE3 hct3 nd3 N3' F3' e1 e2 e3 e4 e5 e6 hva dictX p0_1 p0_2 p0_3 p0_4 p0_5 p0_6 p0_7 p0_8 p0_9 p0_10 p1_2 p1_3 p1_4 p1_5 p1_6 p1_7 p1_8 p1_9 p1_10 p2_3 p2_4 p2_5 p2_6 p2_7 p2_8 p2_9 p2_10 p3_4 p3_5 p3_6 p3_7 p3_8 p3_9 p3_10 p4_5 p4_6 p4_7 p4_8 p4_9 p4_10 p5_6 p5_7 p5_8 p5_9 p5_10 p6_7 p6_8 p6_9 p6_10 p7_8 p7_9 p7_10 p8_9 p8_10 p9_10 pm0 pm1 pm2 pm3 pm4 pm5 pm6 pm7 pm8 pm9 pm10
      intro n s'' hI7_; (first | rw [hIv2] at hI7_ | skip); refine hI7_ _ ?_; clear hI7_; intro g5 h5 tk5 m5 b1 b2 so5 S5 n5 oN5 fs e8_ z1 z2 z3 z4 z5 t5' M5 F5 N5 hSE5 hct5 hND5 hfs5 hch5 nd5 hm5 e9_; subst e8_; subst e9_
      have F5' := frk F5 _ (kn1 z1 (kn1 z2 (kn1 z3 (kn1 z4 (kn1 z5 kn0)))))
      clear F5 X' T'
      have X' := M5.X
      have T' := M5.T
      rcases fs with _ | ⟨f, r⟩
      · clear N4' F4' hSE4 hND4 hfs4 hch4 nd4 hm4 hct4 y1 y2 y3 y4 y5 t4' M4 nd0 hO hO2 st st4 hSE2 hND2 hct hi ndX lt6 ltJ lt m1 m2 m3 m4 t2 M2 loN hSE hND hw X gs M F N hdp hun hk eL ndJ nd3' fl hNN hkin hS t3' M3 Wk sg
        have N5' : News g5 L' h5 ((J, oI4) :: (ND, oN5) :: (SE, so5) :: (IS, W.listOf [].toArray b2) :: (ST, W.listOf [].toArray b1) :: srtL c rv po nf t5 t6 oD (pre ++ x :: post)) := N5
        clear N5
        k_steps
        refine Blk.out ?_
        rename Fr g5 L' _ _ => F6
        rename News g5 L' _ _ => N6
        refine truthy_nilN N6 (.tail _ (.tail _ (.tail _ (.tail _ (.head _))))) ?_
        k_steps
        dsimp only
        refine ⟨(kvsN (pre ++ x :: post)).length - (i + 1), by omega, ?_⟩
        first | rw [hIv3] | rw [hIv2] | rw [hIv1]
        refine (fun _ k_ => k_ (i + 1) g5 _ _ _ b1 b2 so5 S5 n5 oN5 oI4 rfl rfl rfl rfl rfl rfl t5' M5 F6 N6 hSE5 hct5 hND5 hO4 hil rfl)
      · clear N4' F4' hSE4 hND4 hfs4 hch4 nd4 hm4 hct4 y1 y2 y3 y4 y5 t4' M4 nd0 hO hO2 st st4 hSE2 hND2 hct hi ndX lt6 ltJ lt m1 m2 m3 m4 t2 M2 hil loN hSE hND hw X gs M F N hdp hun hk eL ndJ nd3' fl hNN hkin hkx hS t3' M3 hO4 Wk sg
        rw [itVals_cons, skVals_cons] at N5
        rw [ndVals_cons] at hND5
        have N5' : News g5 L' h5 ((J, oI4) :: (ND, oN5) :: (SE, so5) :: (IS, W.listOf (itVals r ++ [Value.ref f.mw]).toArray b2) :: (ST, W.listOf (skVals r ++ [Value.int f.x.k f.t]).toArray b1) :: (f.mw, mwO "list_iterator.__next__" (.ref f.it)) :: (f.it, itO_l f.x.l f.p) :: (sfEnts r ++ srtL c rv po nf t5 t6 oD (pre ++ x :: post))) := N5
        clear N5
        have rl : r.length ≤ 100 := ch_len (List.pairwise_cons.mp hch5).2 fun f hf => hρ _ (hfs5 f (.tail _ hf)).1
        have rS : (skVals r).length ≤ 16000 := by simp [skVals]; omega
        have rI : (itVals r).length ≤ 16000 := by simp [itVals]; omega
        refine apartE7 (x5 := f.mw) (x6 := f.it) (r := (sfEnts r ++ srtL c rv po nf t5 t6 oD (pre ++ x :: post)).map (·.1)) nd5 ?_; intro v0_1 v0_2 v0_3 v0_4 v0_5 v0_6 v1_2 v1_3 v1_4 v1_5 v1_6 v2_3 v2_4 v2_5 v2_6 v3_4 v3_5 v3_6 v4_5 v4_6 v5_6 vm0 vm1 vm2 vm3 vm4 vm5 vm6
        k_steps
        refine Blk.out ?_
        rename Fr g5 L' _ _ => F6
        rename News g5 L' _ _ => N6
        refine truthy_snocN N6 (.tail _ (.tail _ (.tail _ (.tail _ (.head _))))) rS ?_
        k_steps
        refine Blk.out ?_
        dsimp only
        refine' last_N (us := itVals r) (v := .ref f.mw) (n := b2) ?hl ?_ ?hs
        (case hl => exact (N6 _ (.tail _ (.tail _ (.tail _ (.head _))))).1)
        (case hs => rfl)
        rcases Nat.lt_or_ge f.p f.x.vs.length with hp | hp
        · k_steps
          refine Blk.out ?_
          rename Fr g5 L' _ _ => F7
          rename News g5 L' _ _ => N7
          obtain ⟨hfx, hfp⟩ := hfs5 f (.head _)
          have iv := ok.hi f.x hfx
          have hp' : f.p < f.x.sc.length := by rw [← iv.length]; exact hp
          obtain ⟨tv, htv⟩ := ints_at iv f.p hp'
          have hml : (f.x.l, W.listOf f.x.vs.toArray f.x.c) ∈ entsN (pre ++ x :: post) := List.mem_flatMap.mpr ⟨f.x, hfx, by simp [Nod.ents]⟩
          refine mwn_item (it := f.it) (l := f.x.l) (i := f.p) (N7 _ (.tail _ (.tail _ (.tail _ (.tail _ (.tail _ (.head _))))))).1 F7 N7 (by k_updF) ⟨f.x.c, (N7 _ (.tail _ (.tail _ (.tail _ (.tail _ (.tail _ (.tail _ (.tail _ (List.mem_append_right _ (.tail _ (.tail _ (.tail _ hml)))))))))))).1⟩ htv ?_
          intro h' F8 N8
          clear F7 N7
          try dsimp only at N8
          k_steps
          dsimp only
          rename Fr g5 L' _ _ => F9
          rename News g5 L' _ _ => N9
          obtain ⟨ac1, ac2⟩ := hac f.x hfx _ (List.getElem_mem hp')
          obtain ⟨ch1, ch2⟩ := List.pairwise_cons.mp hch5
          rw [← ndVals_cons] at hND5
          refine ⟨wtS S5 (pre ++ x :: post) + remS ({ f with p := f.p + 1 } :: r), (by simp only [remS, List.map_cons, List.sum_cons] at hm5 ⊢; omega), ?_⟩
          rw [hIv1]
          refine (fun _ k_ => k_ g5 _ _ _ b1 b2 so5 S5 n5 oN5 ({ f with p := f.p + 1 } :: r) f.x.sc[f.p] tv rfl rfl rfl rfl rfl rfl rfl t5' M5 F9 ?_ hSE5 hct5 ?_ ?_ ?_ ?_ ac1 nd5 rfl)
          · rw [itVals_cons, skVals_cons]
            exact N9
          · rw [ndVals_cons] at hND5 ⊢
            exact hND5
          · intro f' hf'
            rcases List.mem_cons.mp hf' with rfl | hf'
            · exact ⟨hfx, hp'⟩
            · exact hfs5 f' (.tail _ hf')
          · exact List.pairwise_cons.mpr ⟨ch1, ch2⟩
          · intro f' hf'
            rcases List.mem_cons.mp hf' with rfl | hf'
            · exact ac2
            · exact Nat.lt_trans (ch1 f' hf') ac2
        · k_steps
          refine Blk.out ?_
          rename Fr g5 L' _ _ => F7
          rename News g5 L' _ _ => N7
          obtain ⟨hfx, hfp⟩ := hfs5 f (.head _)
          have iv := ok.hi f.x hfx
          have hml : (f.x.l, W.listOf f.x.vs.toArray f.x.c) ∈ entsN (pre ++ x :: post) := List.mem_flatMap.mpr ⟨f.x, hfx, by simp [Nod.ents]⟩
          refine mwn_end (it := f.it) (l := f.x.l) (i := f.p) (items := f.x.vs.toArray) rfl (N7 _ (.tail _ (.tail _ (.tail _ (.tail _ (.tail _ (.head _))))))).1 F7 N7 (by k_updF) ⟨f.x.c, (N7 _ (.tail _ (.tail _ (.tail _ (.tail _ (.tail _ (.tail _ (.tail _ (List.mem_append_right _ (.tail _ (.tail _ (.tail _ hml)))))))))))).1⟩ (by simp; omega) ?_
          intro h' h'' oit e F8 N8 hexc
          clear F7 N7
          try dsimp only at N8
          refine caught_new (X := "StopIteration") (outer := envX cn cs L a ccd cl :: outer) M5 F8 rfl rfl hexc rfl (by k_is) PyProof.Rows.Boot.«StopIteration» (by decide) (by decide) isExcStop notTupStop (by rw [isSubtype_type]; kernel_rfl) ?_
          intro h3 EV
          obtain ⟨g6, tt6, M6, F9, nn⟩ := M5.turn F8 EV (fun b q => nomatch q) (fun q => nomatch q)
          have N9 := News.turn M5 N8 EV (fun p _ q => nomatch q) nn
          have N9' := News.sub N9 (led' := (J, oI4) :: (ND, oN5) :: (SE, so5) :: (IS, W.listOf (itVals r ++ [Value.ref f.mw]).toArray b2) :: (ST, W.listOf (skVals r ++ [Value.int f.x.k f.t]).toArray b1) :: (sfEnts r ++ srtL c rv po nf t5 t6 oD (pre ++ x :: post))) (fun p hp => by
            simp only [List.mem_cons] at hp ⊢
            rcases hp with h | h | h | h | h | h <;> first | ((repeat' first | exact h | exact Or.inl h | apply Or.inr); done) | simp [h])
          clear N9 N8 F8 X' T'
          have X' := M6.X
          have T' := M6.T
          have hdel : (valueAt (ndVals r ++ [(f.x.k, f.nv)]) f.x.k).isSome = true := by
            simp [valueAt]
          have lenN : (ndVals r ++ [(f.x.k, f.nv)]).length ≤ sizeLine := by
            rw [sizeLine_eq]; simp [ndVals]; omega
          have hwo : without (ndVals r ++ [(f.x.k, f.nv)]) f.x.k = ndVals r := by
            have := (List.pairwise_cons.mp hch5).1
            unfold without
            rw [List.filter_append, List.filter_eq_self.mpr]
            · simp
            · intro p hp
              simp only [ndVals, List.mem_map, List.mem_reverse] at hp
              obtain ⟨y, hy, rfl⟩ := hp
              have := this y hy
              simp only [decide_eq_true_eq]
              intro e
              rw [e] at this; omega
          clear hexc EV nn
          k_steps
          rename Obj.IsDictOf (PySem.intKind PG w) _ (without _ _) => hND6
          rename Fr g6 L' _ _ => F10
          rename News g6 L' _ _ => N10
          dsimp only
          rw [hwo] at hND6
          refine ⟨r.length, Nat.lt_succ_self _, ?_⟩
          rw [hIv2]
          refine (fun _ k_ => k_ g6 _ _ _ _ _ so5 S5 n5 _ r rfl rfl rfl rfl rfl rfl (t5'.trans tt6) M6 F10 N10 hSE5 hct5 hND6 (fun f' hf' => hfs5 f' (.tail _ hf')) (List.pairwise_cons.mp hch5).2 ?_ ?_ rfl)
          · refine List.Nodup.sublist ?_ nd5
            exact List.Sublist.cons_cons _ (List.Sublist.cons_cons _ (List.Sublist.cons_cons _ (List.Sublist.cons_cons _ (List.Sublist.cons_cons _ ((List.Sublist.refl _).cons _ |>.cons _)))))
          · refine Nat.le_trans ?_ hm5
            simp only [remS, List.map_cons, List.sum_cons]
            omega
  · have ei : i = (kvsN ns).length := by omega
    refine walk_done Wk (rest := srtL c rv po nf t5 t6 oD ns) F2' N2 (fun p hp => ⟨.tail _ (.tail _ (.tail _ (.tail _ (.tail _ hp)))), tail_off (rest := (ND, oN) :: (SE, so) :: (IS, W.listOf [].toArray c2) :: (ST, W.listOf [].toArray c1) :: srtL c rv po nf t5 t6 oD ns) ndJ p (.tail _ (.tail _ (.tail _ (.tail _ hp))))⟩) (ei ▸ st) (N2 (J, oI2) (.head _)).2.1 (N2 (J, oI2) (.head _)).2.2 ?_
    intro h4 tk4 F4 N4
    dsimp only [ForTurn]
    clear N5 F5 N6 F6 F2 F2' N2 X' T' B'
    have X' := M2.X
    have T' := M2.T
    k_steps
    rename Fr g2 L' _ _ => F6
    rename News g2 L' _ _ => N6
    obtain ⟨EV, hl⟩ := exitX M F N sg gs t2 F6 N6
    exact hret _ _ _ _ EV hl ⟨rfl, rfl⟩
end
end
section
theorem UpdF.of {d : Addr} {o : Obj} : ∀ {pre post : List (Addr × Obj)}, (∀ p ∈ pre, p.1 ≠ d) → (∀ p ∈ post, p.1 ≠ d) → UpdF d o (pre ++ (d, o) :: post) (fun o' => pre ++ (d, o') :: post)
  | [], _, _, h => UpdF.head h
  | p :: r, _, h1, h2 => UpdF.tail (h1 p (.head _)) (UpdF.of (fun q hq => h1 q (.tail _ hq)) h2)
noncomputable def CompEnd (s : Shared) (G : Heap → Prop) (C L it D : Addr) (m : Str → Option Value) (oI : Obj) (news : List (Addr × Obj)) (Inv : List Value → Prop) (s₅ : Shared) : Prop :=
  ∃ g2 h tk mC oC acc c, s₅ = { s with heap := h, toks := tk } ∧ G g2 ∧ LCg.NsObj oC mC ∧ Fr g2 L h m ∧ News g2 L h ((C, oC) :: (D, W.listOf acc.toArray c) :: (it, oI) :: news) ∧ Inv acc
section
variable {prog : Program} {w : World} {A : Around} {s : Shared} {env : Env}
theorem comp_leafG {elt target : PySem.Expr} {ifs : List PySem.Expr} {scope : Scope} {cl : List (Str × Addr)} {Q : Value → Shared → Prop} {L it d : Addr} {g : Heap} {m : Str → Option Value} {oI od : Obj} {news : List (Addr × Obj)} {n : Nat} {P : Nat → Value → Prop} {St : Nat → Heap → Prop}
    (F : Fr g L s.heap m) (N : News g L s.heap ((it, oI) :: news)) (ndi : ∀ p ∈ news, p.1 ≠ it) (Wk : Walks prog w A it [it, d] [it] n P St) (stg : ∀ i h, St i h → ∃ o, h.get? it = some o) (hO : ItO St it d oI od 0) (G : Heap → Prop) (hd : ∀ g2 h, G g2 → Fr g2 L h m → News g2 L h news → h.get? d = some od)
    (hG : G g) (hGn : ∀ g2, G g2 → (∀ b, g2.get? b = none ↔ g.get? b = none) ∧ g2.objs.size = g.objs.size)
    (Inv : Nat → List Value → Prop) (h0 : Inv 0 [])
    (turn : ∀ i v acc c D C g2 oC h tk mC oI', i < n → P i v → Inv i acc → G g2 → LCg.NsObj oC mC → Fr g2 L h m → News g2 L h ((C, oC) :: (D, W.listOf acc.toArray c) :: (it, oI') :: news) → (∀ p ∈ news, p.1 < D) → it < D → C = D + 1 →
      wpAny (model prog w) A (assign target (compEnvC scope cl C env) v) (fun _ s₂ =>
        wpAny (model prog w) A (forIn ifs true fun c r => if r = true then do let ok ← isTrue c (compEnvC scope cl C env) (eval c (compEnvC scope cl C env)); pure (ForInStep.yield ok) else pure (ForInStep.yield r)) (fun ok s₃ =>
          if ok = true then wpAny (model prog w) A (eval elt (compEnvC scope cl C env)) (fun x s₄ => wpAny (model prog w) A (call (.builtin "list.append") [.ref D, x]) (fun _ s₅ => CompEnd s G C L it D m oI' news (Inv (i + 1)) s₅) (fun _ _ => False) s₄) (fun _ _ => False) s₃
          else CompEnd s G C L it D m oI' news (Inv (i + 1)) s₃) (fun _ _ => False) s₂) (fun _ _ => False) { s with heap := h, toks := tk })
    (done : ∀ acc c D g2 h tk, Inv n acc → G g2 → Fr g2 L h m → News g2 L h ((D, W.listOf acc.toArray c) :: news) → (∀ p ∈ news, p.1 < D) → Q (.ref D) { s with heap := h, toks := tk }) :
    ∀ D C h₂ tk, D = s.heap.objs.size → C = D + 1 → (∀ b o, s.heap.get? b = some o → h₂.get? b = some o) → h₂.get? D = some (W.listOf #[] 0) → h₂.Ns C (fun _ => none) →
      ∃ (I : Nat → Shared → Prop) (n : Nat), I n { s with heap := h₂, toks := tk } ∧ (∀ (n : Nat) (s : Shared) (Q' : Value → Shared → Prop) (E' : Value → Shared → Prop), I n s → Q' (.ref it) s → wpAny (model prog w) A (pyIter (.ref it)) Q' E' s) ∧
          ∀ n s, I n s → wpAny (model prog w) A (pyNext (.ref it)) (CompTurn prog w A (compEnvC scope cl C env) target elt ifs D C Q I n) (fun _ _ => False) s := by
  intro D C h₂ tk eD eC hk hDl hC
  have eD' : @Eq Nat D s.heap.objs.size := eD
  have eC' : @Eq Nat C (D + 1) := eC
  obtain ⟨oL0, _, eL0⟩ := Fr.obj F
  obtain ⟨oC0, eC0, hoC0⟩ := LCg.ns_obj hC
  have gsz : g.objs.size ≤ s.heap.objs.size := Nat.le_of_lt (Nat.lt_of_le_of_lt F.above (Heap.lt_size eL0))
  have lt : ∀ p ∈ news, p.1 < D := fun p hp => eD ▸ Heap.lt_size (N p (.tail _ hp)).1
  have lti : it < D := eD ▸ Heap.lt_size (N _ (.head _)).1
  have ltL : L < D := eD ▸ Heap.lt_size eL0
  have nof : ∀ b : Addr, g.objs.size ≤ b → g.get? b = none := fun b hb => by
    cases z : g.get? b with
    | none => rfl
    | some o => exact absurd (Heap.lt_size z) (Nat.not_lt.mpr hb)
  have nD : g.get? D = none := nof _ (by rw [eD']; exact gsz)
  have nC : g.get? C = none := nof _ (by rw [eC', eD']; exact Nat.le_succ_of_le gsz)
  have CL : C ≠ L := Nat.ne_of_gt (by rw [eC']; exact Nat.lt_succ_of_lt ltL)
  have Ci : C ≠ it := Nat.ne_of_gt (by rw [eC']; exact Nat.lt_succ_of_lt lti)
  refine ⟨fun k s' => ∃ i oI', i ≤ n ∧ k = n - i ∧ ItO St it d oI' od i ∧ CompEnd s G C L it D m oI' news (Inv i) s', n, ⟨0, oI, Nat.zero_le _, rfl, hO, g, h₂, tk, fun _ => none, oC0, [], 0, rfl, hG, hoC0, ⟨?_, fun b o e => hk b o (F.keep b o e), F.above⟩, ?_, h0⟩, ?_, ?_⟩
  · obtain ⟨oL, es, ep, e, r⟩ := F.ns
    exact ⟨oL, es, ep, hk _ _ e, r⟩
  · intro p hp
    rcases List.mem_cons.mp hp with rfl | hp
    · exact ⟨eC0, CL, nC⟩
    rcases List.mem_cons.mp hp with rfl | hp
    · exact ⟨hDl, Nat.ne_of_gt ltL, nD⟩
    · exact ⟨hk _ _ (N p hp).1, (N p hp).2.1, (N p hp).2.2⟩
  · rintro k s' Q' E' ⟨i, oI', hi, rfl, hO', g2, h, tk', mC, oL, acc, c, rfl, hG2, hoL, FC, NC, hI⟩ q
    exact Wk.self i _ _ _ (hO' h (NC _ (.tail _ (.tail _ (.head _)))).1 (hd g2 h hG2 FC (News.sub NC fun p hp => .tail _ (.tail _ (.tail _ hp))))) q
  · rintro k s' ⟨i, oI', hi, rfl, hO', g2, h, tk', mC, oC, acc, c, rfl, hG2, hoC, FC, NC, hI⟩
    have st := hO' h (NC _ (.tail _ (.tail _ (.head _)))).1 (hd g2 h hG2 FC (News.sub NC fun p hp => .tail _ (.tail _ (.tail _ hp))))
    obtain ⟨gn, gs⟩ := hGn g2 hG2
    have U : UpdF it oI' ((C, oC) :: (D, W.listOf acc.toArray c) :: (it, oI') :: news) (fun o' => (C, oC) :: (D, W.listOf acc.toArray c) :: (it, o') :: news) :=
      UpdF.tail Ci (UpdF.tail (fun z => absurd (show D = it from z) (Nat.ne_of_gt lti)) (UpdF.head ndi))
    by_cases hin : i < n
    · refine walk_item Wk stg FC NC U st hin ?_
      intro v h4 tk4 oI4 hv st4 F4 N4
      have hO4 : ItO St it d oI4 od (i + 1) := ItO.of Wk st4 (N4 _ (.tail _ (.tail _ (.head _)))).1 (hd g2 h4 hG2 F4 (News.sub N4 fun p hp => .tail _ (.tail _ (.tail _ hp))))
      dsimp only [CompTurn]
      refine wpAny_mono (turn i v acc c D C g2 oC h4 tk4 mC oI4 hin hv hI hG2 hoC F4 N4 lt lti eC) (fun _ s₂ h2 => wpAny_mono h2 (fun ok s₃ h3 => ?_) fun _ _ z => z) fun _ _ z => z
      have fin : ∀ s₅, CompEnd s G C L it D m oI4 news (Inv (i + 1)) s₅ → Again (fun k s' => ∃ i oI', i ≤ n ∧ k = n - i ∧ ItO St it d oI' od i ∧ CompEnd s G C L it D m oI' news (Inv i) s') (n - i) s₅ :=
        fun s₅ h5 => ⟨n - (i + 1), by omega, i + 1, oI4, hin, rfl, hO4, h5⟩
      split
      · rename_i hok
        rw [if_pos hok] at h3
        exact wpAny_mono h3 (fun x s₄ h4 => wpAny_mono h4 (fun _ s₅ h5 => fin s₅ h5) fun _ _ z => z) fun _ _ z => z
      · rename_i hok
        rw [if_neg hok] at h3
        exact fin _ h3
    · have ei : i = n := by omega
      subst ei
      refine walk_done Wk (rest := (C, oC) :: (D, W.listOf acc.toArray c) :: news) FC NC (fun p hp => ?_) st (NC _ (.tail _ (.tail _ (.head _)))).2.1 (NC _ (.tail _ (.tail _ (.head _)))).2.2 ?_
      · rcases List.mem_cons.mp hp with rfl | hp
        · exact ⟨.head _, Ci⟩
        rcases List.mem_cons.mp hp with rfl | hp
        · exact ⟨.tail _ (.head _), fun z => absurd (show D = it from z) (Nat.ne_of_gt lti)⟩
        · exact ⟨.tail _ (.tail _ (.tail _ hp)), ndi p hp⟩
      intro h4 tk4 F4 N4
      dsimp only [CompTurn]
      refine ⟨mC, hoC.ns (N4 _ (.head _)).1, fun h' hs => ?_⟩
      have F' : Fr g2 L h' m := ⟨F4.ns.sameBut hs CL.symm, fun b o e => (hs.2 b (fun z => by rw [z, (gn C).mpr nC] at e; cases e)).trans (F4.keep b o e), F4.above⟩
      refine done acc c D g2 h' tk4 hI hG2 F' (fun p hp => ?_) lt
      have q := N4 p (.tail _ hp)
      refine ⟨(hs.2 _ (fun z => ?_)).trans q.1, q.2⟩
      rcases List.mem_cons.mp hp with rfl | hp
      · exact absurd (show (D : Nat) = C from z) (by rw [eC']; exact Nat.ne_of_lt (Nat.lt_succ_self _))
      · have := lt p hp
        rw [z, eC'] at this
        exact absurd this (Nat.not_lt.mpr (Nat.le_succ _))
theorem comp_leafK {elt target : PySem.Expr} {ifs : List PySem.Expr} {scope : Scope} {cl : List (Str × Addr)} {Q : Value → Shared → Prop} {L it d : Addr} {g : Heap} {m : Str → Option Value} {oI od : Obj} {news : List (Addr × Obj)} {n : Nat} {P : Nat → Value → Prop} {St : Nat → Heap → Prop}
    (F : Fr g L s.heap m) (N : News g L s.heap ((it, oI) :: news)) (ndi : ∀ p ∈ news, p.1 ≠ it) (Wk : Walks prog w A it [it, d] [it] n P St) (stg : ∀ i h, St i h → ∃ o, h.get? it = some o) (hO : ItO St it d oI od 0) (hd : ∀ h, Fr g L h m → News g L h news → h.get? d = some od)
    (Inv : Nat → List Value → Prop) (h0 : Inv 0 [])
    (turn : ∀ i v acc c D C oC h tk mC oI', i < n → P i v → Inv i acc → LCg.NsObj oC mC → Fr g L h m → News g L h ((C, oC) :: (D, W.listOf acc.toArray c) :: (it, oI') :: news) → (∀ p ∈ news, p.1 < D) → it < D → C = D + 1 →
      ∀ K : Shared → Prop, (∀ h tk mC oC acc c, LCg.NsObj oC mC → Fr g L h m → News g L h ((C, oC) :: (D, W.listOf acc.toArray c) :: (it, oI') :: news) → Inv (i + 1) acc → K { s with heap := h, toks := tk }) →
      wpAny (model prog w) A (assign target (compEnvC scope cl C env) v) (fun _ s₂ =>
        wpAny (model prog w) A (forIn ifs true fun c r => if r = true then do let ok ← isTrue c (compEnvC scope cl C env) (eval c (compEnvC scope cl C env)); pure (ForInStep.yield ok) else pure (ForInStep.yield r)) (fun ok s₃ =>
          if ok = true then wpAny (model prog w) A (eval elt (compEnvC scope cl C env)) (fun x s₄ => wpAny (model prog w) A (call (.builtin "list.append") [.ref D, x]) (fun _ s₅ => K s₅) (fun _ _ => False) s₄) (fun _ _ => False) s₃
          else K s₃) (fun _ _ => False) s₂) (fun _ _ => False) { s with heap := h, toks := tk })
    (done : ∀ acc c D h tk, Inv n acc → Fr g L h m → News g L h ((D, W.listOf acc.toArray c) :: news) → (∀ p ∈ news, p.1 < D) → Q (.ref D) { s with heap := h, toks := tk }) :
    ∀ D C h₂ tk, D = s.heap.objs.size → C = D + 1 → (∀ b o, s.heap.get? b = some o → h₂.get? b = some o) → h₂.get? D = some (W.listOf #[] 0) → h₂.Ns C (fun _ => none) →
      ∃ (I : Nat → Shared → Prop) (n : Nat), I n { s with heap := h₂, toks := tk } ∧ (∀ (n : Nat) (s : Shared) (Q' : Value → Shared → Prop) (E' : Value → Shared → Prop), I n s → Q' (.ref it) s → wpAny (model prog w) A (pyIter (.ref it)) Q' E' s) ∧
          ∀ n s, I n s → wpAny (model prog w) A (pyNext (.ref it)) (CompTurn prog w A (compEnvC scope cl C env) target elt ifs D C Q I n) (fun _ _ => False) s := by
  refine comp_leafG F N ndi Wk stg hO (fun g2 => g2 = g) (fun g2 h hG => hG ▸ hd h) rfl (fun g2 hG => hG ▸ ⟨fun _ => Iff.rfl, rfl⟩) Inv h0 ?_ ?_
  · intro i v acc c D C g2 oC h tk mC oI' a1 a2 a3 hG a4 a5 a6 a7 a8 a9
    subst hG
    exact turn i v acc c D C oC h tk mC oI' a1 a2 a3 a4 a5 a6 a7 a8 a9 _ fun h tk mC oC acc c e2 e3 e4 e5 => ⟨g2, h, tk, mC, oC, acc, c, rfl, rfl, e2, e3, e4, e5⟩
  · intro acc c D g2 h tk a1 hG
    subst hG
    exact done acc c D h tk a1
theorem assign_own {x : Str} {px : Pos} {scope : Scope} {cl : List (Str × Addr)} {C L : Addr} {g : Heap} {m mC : Str → Option Value} {oC : Obj} {rest : List (Addr × Obj)} {v : Value} {Q : Unit → Shared → Prop} {E : Value → Shared → Prop}
    (F : Fr g L s.heap m) (N : News g L s.heap ((C, oC) :: rest)) (hC : LCg.NsObj oC mC) (nd : ∀ p ∈ rest, p.1 ≠ C)
    (h : ∀ h' oC' tk', Fr g L h' m → News g L h' ((C, oC') :: rest) → LCg.NsObj oC' (fun y => if y = x then some v else mC y) → Q () { s with heap := h', toks := tk' })
    (hx : scope.names.lookup x = some .local := by rfl) (hkind : scope.kind = .function := by rfl) :
    wpAny (model prog w) A (assign (.Name x px) (compEnvC scope cl C env) v) Q E s := by
  have q := N _ (.head _)
  refine wpAny_assign_Name (wpAny_storeName_local (lookup_relabel_local hx) (hC.ns q.1) (fun h₃ hn₃ hs₃ => ?_) (by simp [compEnvC, relabel, hkind]))
  obtain ⟨oC', eC', hoC'⟩ := LCg.ns_obj hn₃
  have hs₃ : Heap.SameBut C s.heap h₃ := hs₃
  refine h h₃ oC' _ ⟨F.ns.sameBut hs₃ (fun z => q.2.1 z.symm), fun b o e => (hs₃.2 b (fun z => by have := q.2.2; dsimp only at this; rw [z, this] at e; cases e)).trans (F.keep b o e), F.above⟩ (fun p hp => ?_) hoC'
  rcases List.mem_cons.mp hp with rfl | hp
  · exact ⟨eC', q.2⟩
  · exact ⟨(hs₃.2 _ (nd p hp)).trans (N p (.tail _ hp)).1, (N p (.tail _ hp)).2⟩
end
end
local macro_rules | `(tactic| walk_at $s) => zd ["call ref"] [] s
section
noncomputable def vSt (I d : Addr) (kvs : List (Int × Value)) (ep : Nat) (w : World) (i : Nat) (h : Heap) : Prop := h.IsValIter I d i kvs.length ep ∧ h.DictAt (intKind PG w) d kvs ep
theorem vSt.get {I d : Addr} {kvs : List (Int × Value)} {ep : Nat} {w : World} : ∀ i h, vSt I d kvs ep w i h → ∃ o, h.get? I = some o := fun _ _ st => let ⟨⟨o, e, _⟩, _⟩ := st; ⟨o, e⟩
theorem it_vals {w : World} {A : Around} {E : Value → Shared → Prop} {s : Shared} {h₀ : Heap} {L d v : Addr} {m : Str → Option Value} {news : List (Addr × Obj)} {kvs : List (Int × Value)} {od : Obj} {Q : Value → Shared → Prop} (hh : A.handled = none) (F : Fr h₀ L s.heap m) (N : News h₀ L s.heap news) (e : s.heap.get? d = some od) (hd : od.IsDictOf (intKind PG w) kvs) (hv : s.heap.get? v = some { cls := .type "dict_values", data := .fields #[.ref d] })
    (h : ∀ I h' oI ep, Fr h₀ L h' m → News h₀ L h' ((I, oI) :: news) → (∀ p ∈ news, p.1 < I) → d < I → Walks PG w A I [I, d] [I] kvs.length (fun i v => ∃ k, kvs[i]? = some (k, v)) (vSt I d kvs ep w) → ItO (vSt I d kvs ep w) I d oI od 0 → Q (.ref I) { s with heap := h' }) :
    wpAny (model PG w) A (pyIter (.ref v)) Q E s := by
  have lt := Heap.lt_size e
  obtain ⟨ep, hat⟩ := (Heap.dictOf_iff.mpr ⟨od, e, hd⟩).dictAt
  refine wpAny_pyIter_values ⟨_, hv, rfl, rfl⟩ hat ?_
  have W : Walks PG w A s.heap.objs.size [s.heap.objs.size, d] [s.heap.objs.size] kvs.length (fun i v => ∃ k, kvs[i]? = some (k, v)) (vSt s.heap.objs.size d kvs ep w) := Walks.dictValues (knd := intKind PG w) hh s.heap.objs.size d (Nat.ne_of_lt lt) kvs ep
  refine h _ _ _ ep (F.push _) (News.push F N _ rfl) (fun p hp => Heap.lt_size (N p hp).1) lt W ?_
  exact ItO.of W ⟨⟨_, Heap.get?_push_size _ rfl, rfl, rfl⟩, hat.push _⟩ (Heap.get?_push_size _ rfl) (Heap.get?_push_of_some _ e)
section
local macro_rules | `(tactic| walk_at $s) => zd ["eval ListComp Attribute"] [] s
theorem con_prep {w : World} {h : Heap} {c : Hd} {po nf : Int} {t5 t6 : Tok} {oD : Obj} {ns : List Nod} {ρ : Int → Nat} (ok : SrtOk w c oD ns) (hz : ns.length ≤ 100) (hw : wtS (fun _ => false) ns ≤ 1000)
    (hρ : ∀ x ∈ ns, ρ x.k < 100) (hac : ∀ x ∈ ns, ∀ s ∈ x.sc, s ∈ ns.map (·.k) ∧ ρ x.k < ρ s) :
    ConX w 150 80 (srtL c .none po nf t5 t6 oD ns) [.ref c.S] (fun v led h' => ∀ G_ : Prop, (∀ R rv cr, (v = .none) → (led = (R, W.listOf rv.toArray cr) :: srtL c (.ref R) po nf t5 t6 oD ns) → (R ∉ c.S :: c.dS :: c.D :: (entsN ns).map (·.1)) → (IntsAre rv ((ns.filter fun x => decide (x.np = 0)).map (·.k))) → G_) → G_) h := by
  revert ok hz hw hρ hac
  revert w h c po nf t5 t6 oD ns ρ
  walk_at "10"; (iterate 4 (generalize zf w_ = oD; generalize zs w_ = v_; clear w_; generalize zf v_ = oD; generalize zs v_ = w_; clear v_)); generalize zf w_ = ns, zs w_ = ρ; clear w_; rename_i w h c po nf t5 t6
  intro ok hz hw hρ hac
  refine ConX.hk ?_; generalize wX _ _ _ _ _ _ _ = c_; delta ConXat; generalize c_.mean = mean, c_.mg = mg, c_.mb = mb, c_.dp = dp, c_.un = un, c_.gd = gd, c_.cn = cn, c_.cs = cs, c_.a = a, c_.ccd = ccd, c_.cl = cl, c_.outer = outer, c_.A₀ = A₀, c_.base = base, c_.h₀ = h₀, c_.L = L, c_.m = m, c_.s = s, c_.Q = Q, c_.E = E
  intro hh M F N hk hdp hun hret
  subst hh
  have X := M.X
  (refine wpAny_call ?_; k_dflt (refine' enterX ?k1 ?k2 ?k4 ?kK ?k6 ?k7 ?k8 ?k9 ?kB ?_ ?c2 ?c3 ?c4 ?c5; (case kK => assumption); (case k1 => assumption); (case k2 => assumption); (case k4 => assumption); (case k6 => k_is); (case k7 => k_is); (case k8 => omega); (case k9 => first | exact BindsTo.of_eq rfl | exact binds_K (by k_in) rfl (by k_is) rfl rfl rfl); (case c5 => decide); (case kB => exact locs rfl); (case c2 => exact rfl); (case c3 => exact rfl); (case c4 => exact rfl); k_whole))
  walk_at "3"; generalize zf w_ = g, zf (zs w_) = L', zs (zs w_) = h₁
  intro sg gs eL lt F' N' M'
  (try dsimp only)
  refine wpAny_noRaise ?_
  have B' := M'.B
  have X' := M'.X
  have T' := M'.T
  dsimp only [srtL] at lt N'
  k_lt lt
  have dictX := ok.dict
  have loX := ok.lo
  k_steps
  refine Blk.out ?_
  refine comp_raw (cl := []) rfl (by decide) rfl (by decide) ?_
  k_steps
  refine Blk.out ?_
  rename Fr g L' _ _ => F5
  rename News g L' _ _ => N5
  rename_i V h5 l1
  refine it_vals (v := V) (d := c.D) (kvs := kvsN ns) rfl F5 N5 (N5 (c.D, oD) (by simp)).1 ok.dict (N5 _ (.head _)).1 ?_
  intro I h6 oI ep F6 N6 lt6 ltd Wk hO
  refine comp_leafK (news := (V, { cls := .type "dict_values", data := .fields #[.ref c.D] }) :: srtL c .none po nf t5 t6 oD ns) F6 N6 (fun p hp => Nat.ne_of_lt (lt6 p hp)) Wk vSt.get hO (fun h _ N => (N (c.D, oD) (.tail _ (.tail _ (.tail _ (.head _))))).1)
    (fun i acc => IntsAre acc (((ns.take i).filter fun x => decide (x.np = 0)).map (·.k))) .nil ?_ ?_
  · intro i v acc cc D C oC h tk2 mC oI' hin hv hI hoC FC NC ltD ltI eC K hK
    refine exE1 hv fun k hkv => ?_
    have hin' : i < ns.length := by simpa [kvsN] using hin
    have hxi : ns[i] ∈ ns := List.getElem_mem hin'
    generalize hx : ns[i] = x at hxi
    have ev : v = .ref x.a := by
      simp only [kvsN, List.getElem?_map, List.getElem?_eq_getElem hin', hx, Option.map_some, Option.some.injEq, Prod.mk.injEq] at hkv
      exact hkv.2.symm
    subst ev
    have etk : ns.take (i + 1) = ns.take i ++ [x] := by rw [List.take_succ_eq_append_getElem hin', hx]
    refine exE2 (List.append_of_mem hxi) fun pre post ens => ?_
    subst ens
    have ltC : ∀ p ∈ ((D, W.listOf acc.toArray cc) :: (I, oI') :: (V, ({ cls := .type "dict_values", data := .fields #[.ref c.D] } : Obj)) :: srtL c .none po nf t5 t6 oD (pre ++ x :: post)), p.1 ≠ C := fun p hp => by
      refine Nat.ne_of_lt (Nat.lt_of_le_of_lt ?_ (Nat.lt_of_lt_of_eq (Nat.lt_succ_self _) eC.symm))
      rcases List.mem_cons.mp hp with rfl | hp
      · exact Nat.le_refl _
      rcases List.mem_cons.mp hp with rfl | hp
      · exact Nat.le_of_lt ltI
      · exact Nat.le_of_lt (ltD p hp)
    refine assign_own FC NC hoC ltC ?_
    intro h7 oC7 tk7 F7 N7 hoC7
    obtain ⟨mC7, hoC8, hmi⟩ : ∃ mC', LCg.NsObj oC7 mC' ∧ mC' (Str.ofString "i") = some (.ref x.a) := ⟨_, hoC7, if_pos rfl⟩
    clear hoC7 hoC FC NC
    have NC' := srt_out [(C, oC7), (D, W.listOf acc.toArray cc), (I, oI'), (V, _)] N7
    simp only [List.cons_append, List.nil_append] at NC'
    have X' := M'.X
    have T' := M'.T
    clear N7 N5 F5 N6 F6 N' F'
    have ltR : ∀ p ∈ ((V, ({ cls := .type "dict_values", data := .fields #[.ref c.D] } : Obj)) :: srtL c .none po nf t5 t6 oD (pre ++ x :: post)), p.1 ≠ D := fun p hp => Nat.ne_of_lt (ltD p hp)
    have e0 : D ≠ c.S := Nat.ne_of_gt (ltD _ (.tail _ (.head _)))
    have e1 : D ≠ c.dS := Nat.ne_of_gt (ltD _ (.tail _ (.tail _ (.head _))))
    have e2 : D ≠ c.D := Nat.ne_of_gt (ltD _ (.tail _ (.tail _ (.tail _ (.head _)))))
    have e3 : D ≠ V := Nat.ne_of_gt (ltD _ (.head _))
    have e4 : D ≠ C := Nat.ne_of_lt (Nat.lt_of_lt_of_eq (Nat.lt_succ_self _) eC.symm)
    have e5 : D ≠ I := Nat.ne_of_gt ltI
    have e6 : D ≠ x.a := Nat.ne_of_gt (ltD (x.a, infoO x.d x.l x.np x.nt x.k x.kt) (.tail _ (.tail _ (.tail _ (.tail _ (List.mem_flatMap.mpr ⟨x, hxi, by simp [Nod.ents]⟩))))))
    have e7 : D ≠ x.d := Nat.ne_of_gt (ltD (x.d, dictOf [] 0) (.tail _ (.tail _ (.tail _ (.tail _ (List.mem_flatMap.mpr ⟨x, hxi, by simp [Nod.ents]⟩))))))
    have e8 : D ≠ x.l := Nat.ne_of_gt (ltD (x.l, W.listOf x.vs.toArray x.c) (.tail _ (.tail _ (.tail _ (.tail _ (List.mem_flatMap.mpr ⟨x, hxi, by simp [Nod.ents]⟩))))))
    have e9 : D ∉ (entsN pre ++ entsN post).map (·.1) := fun z => by
      obtain ⟨p, hp, e⟩ := List.mem_map.mp z
      refine Nat.ne_of_gt (ltD p (.tail _ (.tail _ (.tail _ (.tail _ ?_))))) e.symm
      show p ∈ entsN (pre ++ x :: post)
      rcases List.mem_append.mp hp with hp | hp <;> simp [entsN_app, entsN_cons, hp]
    have lacc : acc.length ≤ 100 := by
      rw [hI.length, List.length_map]
      refine Nat.le_trans (List.length_filter_le _ _) (Nat.le_trans (List.length_take_le _ _) ?_)
      omega
    clear lt6 ltd Wk hO lt sg ltR
    refine ifs_one ?_
    k_steps
    · rename x.np = 0 => hnp
      rename Fr g L' _ _ => F8
      rename News g L' _ _ => N8
      simp only [List.push_toArray] at N8
      refine hK _ _ mC7 oC7 (acc ++ [Value.int x.k x.kt]) _ hoC8 F8 (srt_in [] [(C, oC7), (D, W.listOf (acc ++ [Value.int x.k x.kt]).toArray _), (I, oI'), (V, { cls := .type "dict_values", data := .fields #[.ref c.D] })] N8) ?_
      rw [etk, List.filter_append, List.map_append, List.filter_cons_of_pos (by simpa using hnp), List.filter_nil]
      exact IntsAre.append hI (.cons _ _ .nil)
    · rename x.np ≠ 0 => hnp
      refine hK _ _ mC7 oC7 (acc) _ hoC8 F7 (srt_in [] [(C, oC7), (D, W.listOf acc.toArray cc), (I, oI'), (V, { cls := .type "dict_values", data := .fields #[.ref c.D] })] NC') ?_
      rw [etk, List.filter_append, List.map_append, List.filter_cons_of_neg (by simpa using hnp), List.filter_nil]
      simpa using hI
  · intro acc cc D h tk2 hI F7 N7 ltD
    rw [show (kvsN ns).length = ns.length by simp [kvsN], List.take_length] at hI
    have N8 := News.sub N7 (led' := (D, W.listOf acc.toArray cc) :: srtL c .none po nf t5 t6 oD ns) (fun p hp => by
      rcases List.mem_cons.mp hp with rfl | hp
      · exact .head _
      · exact .tail _ (.tail _ hp))
    have lt8 : ∀ p ∈ srtL c .none po nf t5 t6 oD ns, p.1 < D := fun p hp => ltD p (.tail _ hp)
    have ndD : D ∉ c.S :: c.dS :: c.D :: (entsN ns).map (·.1) := lt_off lt8 (r := srtL c .none po nf t5 t6 oD ns) fun p hp => hp
    dsimp only [srtL] at N8 lt8
    k_lt lt8
    clear N7 N5 F5 N6 F6 N' F' ltD lt6 lt Wk hO
    refine apartE4 (List.nodup_cons.mpr ⟨ndD, ok.nd⟩) ?_; intro q0_1 q0_2 q0_3 q1_2 q1_3 q2_3 qm0 qm1 qm2 qm3
    k_steps
    refine Blk.out ?_
    rename Fr g L' _ _ => F9
    rename News g L' _ _ => N9
    refine ConX.use (dp := dp + 1) (un := un + 3) (all := (D, W.listOf acc.toArray cc) :: srtL c (.ref D) po nf t5 t6 oD ns) (con_fc (c := c) (rv := .ref D) (po := po) (nf := nf) (t5 := t5) (t6 := t6) ok hz hw hρ hac) M' F9 N9 (fun p hp => List.mem_cons_of_mem _ hp) [(D, W.listOf acc.toArray cc)] (fun p hp => ?_) rfl (by omega) (by omega) ?_
    · obtain rfl := List.mem_singleton.mp hp
      exact ⟨.head _, ndD⟩
    rintro v h7 tk7 g7 led t7 M7 F7 N7 hled ⟨rfl, rfl⟩
    clear X' T' B'
    have X' := M7.X
    have T' := M7.T
    k_steps
    rename Fr g7 L' _ _ => F10
    rename News g7 L' _ _ => N10
    obtain ⟨EV, hl⟩ := exitX M F N sg gs t7 F10 (News.sub N10 (led' := (D, W.listOf acc.toArray cc) :: srtL c (.ref D) po nf t5 t6 oD ns) (fun p hp => by
      rcases List.mem_cons.mp hp with rfl | hp
      · exact List.mem_append_right _ (.head _)
      · exact List.mem_append_left _ hp))
    exact hret _ _ _ _ EV hl (fun _ k_ => k_ D acc cc rfl rfl ndD hI)
end
end
section
section
variable {prog : Program} {w : World} {A : Around} {s : Shared} {env : Env} {E : Value → Shared → Prop}
noncomputable def ForTurnG (prog : Program) (w : World) (A : Around) (E : Value → Shared → Prop) (env : Env) (target : PySem.Expr) (body : List Stmt) (Q : Flow → Shared → Prop) (I : Nat → Shared → Prop) (n : Nat) (itv : Value) (r : Option Value) (s₁ : Shared) : Prop := match r with
  | none => Q .next s₁
  | some y => wpAny (model prog w) A (letOwnedTupleGo target itv y) (fun _ s₀ => wpAny (model prog w) A (assign target env y) (fun _ s₂ => wpAny (model prog w) A (execs body env) (fun f s₃ => match f with
      | .next => Again I n s₃
      | .cont => Again I n s₃
      | .brk => Q .next s₃
      | .ret v => Q (.ret v) s₃) E s₂) E s₀) E s₁
theorem for_rawG {target iter : PySem.Expr} {pos : Pos} {body : List Stmt} {Q : Flow → Shared → Prop}
    (h : wpAny (model prog w) A (eval iter env) (fun xv s₁ => wpAny (model prog w) A (pyIter xv) (fun itv s₂ => ∃ (I : Nat → Shared → Prop) (n : Nat), I n s₂ ∧ ∀ n s, I n s → wpAny (model prog w) A (pyNext itv) (ForTurnG prog w A E env target body Q I n itv) E s) E s₁) E s)
    (hs : ∀ x, foldedSetIterable iter env x = pure x := by intro _; rfl) (hE : PassesOwn (model prog w) A env E := by passes_own) :
    wpAny (model prog w) A (exec (.For target iter body [] pos) env) Q E s := by
  refine wpAny_For (wpAny_mono h (fun xv s₁ h₁ => wpAny_mono h₁ (fun it s₂ h₂ => ?_) fun _ _ z => z) fun _ _ z => z) hs
  obtain ⟨I, n, h0, turn⟩ := h₂
  refine codeAny_forLoop_any (R := fun r s' => match r with | .ok f => Q f s' | .error e => cameBackBy (model prog w) A env E e s') I ?_ n h0
  intro n s' hI
  refine wpAny_passesOwn hE (wpAny_mono (turn n s' hI) (fun r s₁ hr => ?_) fun _ _ z => z)
  cases r with
  | none => exact wpAny_execs_nil hr
  | some y =>
    refine wpAny_passesOwn hE (wpAny_mono hr (fun _ s₀ h₀ => ?_) fun _ _ z => z)
    refine wpAny_passesOwn hE (wpAny_mono h₀ (fun _ s₂ h₂ => ?_) fun _ _ z => z)
    refine wpAny_passesOwn hE (wpAny_mono h₂ (fun f s₃ h₃ => ?_) fun _ _ z => z)
    cases f with
    | next => exact h₃
    | cont => exact h₃
    | brk => exact h₃
    | ret _ => exact h₃
end
noncomputable def iSt (I d : Addr) (kvs : List (Int × Value)) (ep : Nat) (w : World) (i : Nat) (h : Heap) : Prop := (∃ ok ov, IsItemIter h I d i kvs.length ep ok ov) ∧ h.DictAt (intKind PG w) d kvs ep
section
variable {w : World} {A : Around} {E : Value → Shared → Prop} {s : Shared} {g : Heap} {L d v it : Addr} {m : Str → Option Value} {news : List (Addr × Obj)} {kvs : List (Int × Value)} {oI od : Obj} {ep i : Nat}
theorem iSt.of {h h' : Heap} (st : iSt it d kvs ep w i h) (e1 : h.get? it = some oI) (e2 : h.get? d = some od) (f1 : h'.get? it = some oI) (f2 : h'.get? d = some od) : iSt it d kvs ep w i h' := by
  obtain ⟨⟨ok, ov, hi⟩, hd⟩ := st
  refine ⟨⟨ok, ov, ?_⟩, hd.at fun o e => ?_⟩
  · show h'.get? it = _
    have hi : h.get? it = _ := hi
    rw [e1] at hi
    rw [f1, hi]
  · rw [e2] at e; cases e; exact f2
theorem it_items {Q : Value → Shared → Prop} (F : Fr g L s.heap m) (N : News g L s.heap news) (e : s.heap.get? d = some od) (hd : od.IsDictOf (intKind PG w) kvs) (hv : s.heap.get? v = some { cls := .type "dict_items", data := .fields #[.ref d] })
    (h : ∀ I h' oI ep, Fr g L h' m → News g L h' ((I, oI) :: news) → (∀ p ∈ news, p.1 < I) → d < I → ItO (iSt I d kvs ep w) I d oI od 0 → Q (.ref I) { s with heap := h' }) :
    wpAny (model PG w) A (pyIter (.ref v)) Q E s := by
  have lt := Heap.lt_size e
  obtain ⟨ep, hat⟩ := (Heap.dictOf_iff.mpr ⟨od, e, hd⟩).dictAt
  refine wpAny_pyIter_items ⟨_, hv, rfl, rfl⟩ hat ?_
  refine h _ _ _ ep (F.push _) (News.push F N _ rfl) (fun p hp => Heap.lt_size (N p hp).1) lt ?_
  intro h' f1 f2
  exact iSt.of (h := s.heap.push _) ⟨⟨.none, .none, Heap.get?_push_size _ rfl⟩, hat.push _⟩ (Heap.get?_push_size _ rfl) (Heap.get?_push_of_some _ e) f1 f2
theorem items_done {Q : Option Value → Shared → Prop} (hh : A.handled = none) {rest : List (Addr × Obj)} (F : Fr g L s.heap m) (N : News g L s.heap news) (hn : ∀ p ∈ rest, p ∈ news ∧ p.1 ≠ it) (st : iSt it d kvs ep w kvs.length s.heap) (hit : it ≠ L) (h0 : g.get? it = none)
    (h : ∀ h', Fr g L h' m → News g L h' rest → Q none { s with heap := h' }) : wpAny (model PG w) A (pyNext (.ref it)) Q E s := by
  obtain ⟨⟨ok, ov, hi⟩, hd⟩ := st
  refine wpAny_pyNext_items_end hh hi hd (by simp) fun h' hk => ?_
  refine h h' ?_ fun p hp => ?_
  · refine ⟨F.ns.extBut hk (Ne.symm hit), fun b ob e => hk b ob (fun z => ?_) (F.keep b ob e), F.above⟩
    rw [z, h0] at e; cases e
  · have := N p (hn p hp).1
    exact ⟨hk _ _ (hn p hp).2 this.1, this.2⟩
theorem items_item {env : Env} {xk xv : Str} {pk pv pt : Pos} {x1} {body : List Stmt} {Q : Flow → Shared → Prop} {I : Nat → Shared → Prop} {n : Nat} {k : Int} {x : Value}
    (hh : A.handled = none) (eL : env.locals = L) (F : Fr g L s.heap m) (N : News g L s.heap ((it, oI) :: news)) (ndi : ∀ p ∈ news, p.1 ≠ it) (hd : (d, od) ∈ news) (st : iSt it d kvs ep w i s.heap) (hx : kvs[i]? = some (k, x))
    (h : ∀ t h' tk' oI', ItO (iSt it d kvs ep w) it d oI' od (i + 1) → Fr g L h' (fun y => if y = xv then some x else if y = xk then some (.int k t) else m y) → News g L h' ((it, oI') :: news) →
      wpAny (model PG w) A (execs body env) (fun f s₃ => match f with
        | .next => Again I n s₃
        | .cont => Again I n s₃
        | .brk => Q .next s₃
        | .ret v => Q (.ret v) s₃) E { s with heap := h', toks := tk' })
    (hxk : env.kindOf xk = some .local := by rfl) (hxv : env.kindOf xv = some .local := by rfl) (hp : (env.scope.kind == .class || (env.scope.kind == .module && env.locals != env.globals)) = false := by rfl) :
    wpAny (model PG w) A (pyNext (.ref it)) (ForTurnG PG w A E env (.Tuple [.Name xk pk, .Name xv pv] x1 pt) body Q I n (.ref it)) E s := by
  revert hh eL F N ndi hd st hx h hxk hxv hp
  revert w A E s g L d it m news kvs oI od ep i env xk xv pk pv pt x1 body Q I n k x
  walk_at "16"; (iterate 7 (generalize zf w_ = ep; generalize zs w_ = v_; clear w_; generalize zf v_ = ep; generalize zs v_ = w_; clear v_)); generalize zf w_ = i, zs w_ = env; clear w_; rename_i w A E s g L d it m news kvs oI od
  walk_at "12"; (iterate 5 (generalize zf w_ = n; generalize zs w_ = v_; clear w_; generalize zf v_ = n; generalize zs v_ = w_; clear v_)); generalize zf w_ = k, zs w_ = x; clear w_; rename_i xk xv pk pv pt x1 body Q I
  intro hh eL F N ndi hd st hx h hxk hxv hp
  subst eL
  have hiN := N _ (.head _)
  have hdN := N _ (.tail _ hd)
  have hdi : d ≠ it := ndi _ hd
  have hiL : it ≠ env.locals := hiN.2.1
  have hdL : d ≠ env.locals := hdN.2.1
  have hin : g.get? it = none := hiN.2.2
  obtain ⟨⟨ok, ov, hit'⟩, hm'⟩ := st
  have oldNe : ∀ b o, g.get? b = some o → b ≠ it := fun b o e q => by rw [q, hin] at e; cases e
  have hiH : it < s.heap.objs.size := Heap.lt_size hiN.1
  have hLH : env.locals < s.heap.objs.size := F.ns.lt
  have hdH : d < s.heap.objs.size := Heap.lt_size hdN.1
  refine wpAny_pyNext_items_item hit' hm' hx fun key h₁ hkey heo ht₁ hz₁ hk₁ => ?_
  dsimp only [ForTurnG]
  refine wpAny_letOwnedTupleGo_items heo fun h₂ he₂ hs₂ => ?_
  replace hs₂ : Heap.SameBut it h₁ h₂ := hs₂
  have ht₂ : h₂.IsTuple s.heap.objs.size #[key, x] := ⟨_, (hs₂.2 _ (Nat.ne_of_gt hiH)).trans ht₁, rfl, _, rfl⟩
  have hz₂ : h₂.objs.size = s.heap.objs.size + 1 := hs₂.1.trans hz₁
  refine wpAny_assign_Tuple hh ht₂ rfl rfl fun h₃ hx₃ => ?_
  replace hx₃ : Heap.ExtBut h₂.objs.size h₂ h₃ := hx₃
  have old₃ : ∀ b o, b < s.heap.objs.size → h₂.get? b = some o → h₃.get? b = some o := fun b o hb x => hx₃ b o (by rw [hz₂]; exact Nat.ne_of_lt (Nat.lt_succ_of_lt hb)) x
  have up₃ : ∀ b o, b ≠ it → s.heap.get? b = some o → h₃.get? b = some o := fun b o hb x => old₃ b o (Heap.lt_size x) (hs₂.extBut b o hb (hk₁ b o hb x))
  have F₃ : Fr g env.locals h₃ m := ⟨F.ns.at fun o x => up₃ _ o (Ne.symm hiL) x, fun b o e => up₃ b o (oldNe b o e) (F.keep b o e), F.above⟩
  have N₃ : News g env.locals h₃ news := fun p hp => ⟨up₃ _ _ (ndi p hp) (N p (.tail _ hp)).1, (N p (.tail _ hp)).2⟩
  obtain ⟨t, rfl⟩ := Value.isInt_shape hkey
  show wpAny _ _ (do holding [x] (assign (.Name xk pk) env (.int k t)); do holding [] (assign (.Name xv pv) env x); pure ()) _ _ _
  refine wpAny_bind (wpAny_holding (wpAny_assign_Name (wpAny_storeName_local hxk F₃.ns (fun h₄ hn₄ hs₄ => ?_) hp)))
  replace hs₄ : Heap.SameBut env.locals h₃ h₄ := hs₄
  have F₄ := F₃.set hn₄ hs₄
  refine wpAny_bind (wpAny_holding (wpAny_assign_Name (wpAny_storeName_local hxv F₄.ns (fun h₅ hn₅ hs₅ => wpAny_pure ?_) hp)))
  replace hs₅ : Heap.SameBut env.locals h₄ h₅ := hs₅
  have F₅ := F₄.set hn₅ hs₅
  have N₅ : News g env.locals h₅ news := (N₃.set hs₄).set hs₅
  have up₅ : ∀ b o, b ≠ env.locals → b < s.heap.objs.size → h₂.get? b = some o → h₅.get? b = some o := fun b o hbL hb x => hs₅.extBut b o hbL (hs₄.extBut b o hbL (old₃ b o hb x))
  have hm₂ : h₂.DictAt (intKind PG w) d kvs ep := (hm'.at fun o x => hk₁ d o hdi x).extBut hs₂.extBut hdi
  have hm₅ : h₅.DictAt (intKind PG w) d kvs ep := hm₂.at fun o x => up₅ d o hdL hdH x
  have hit₅ := up₅ it _ hiL hiH he₂
  exact h t h₅ _ _ (fun h' f1 f2 => iSt.of ⟨⟨_, _, hit₅⟩, hm₅⟩ hit₅ (N₅ _ hd).1 f1 f2) F₅ (fun p hp => by
    rcases List.mem_cons.mp hp with rfl | hp
    · exact ⟨hit₅, hiL, hin⟩
    · exact N₅ p hp)
end
end
section
section
variable {M : Model} {A : Around} {E : Value → Shared → Prop} {s : Shared}
theorem eval_MethodStar {env : Env} {o : PySem.Expr} {name : Str} {apos pos : Pos} {args : List PySem.Expr} {Q : Value → Shared → Prop}
    (h : wpAny M A (eval o env) (fun ov s₁ => wpAny M A (getAttr ov name true) (fun f s₂ => wpAny M A (callWith pos f [] (backTo pos (starEach args env)) []) Q E s₂) E s₁) E s)
    (hbase : attributeBase o name env (eval o env) = eval o env := by rfl) (hform : methodCallForm args.length (backTo pos (starEach args env)) [] = false := by rfl) :
    wpAny M A (eval (.Call (.Attribute o name apos) args [] pos) env) Q E s := by
  rw [arm_eval_Call, hbase]
  refine wpAny_bind (wpAny_mono h (fun ov s₁ h₁ => wpAny_bind (wpAny_standAt ?_)) fun _ _ e => e)
  have hform' : methodCallForm (args.length + ([] : List Keyword).length) (backTo pos (starEach args env)) (backToKw pos (keywordEach [] env)) = false := hform
  have hpos : methodCallPos false o env apos pos = pure pos := by unfold methodCallPos; simp
  unfold methodCall
  rw [hform']
  unfold calleeOf
  refine wpAny_bind (wpAny_holding ?_)
  rw [if_neg (by decide)]
  exact wpAny_bind (wpAny_mono h₁ (fun f s₂ h₂ => wpAny_pure (wpAny_bind (wpAny_of_eq hpos h₂))) fun _ _ e => e)
theorem callWith_MS2 {K : Frag} {env : Env} {pos : Pos} {q g : Addr} {self : Value} {first : List Value} {e : PySem.Expr} {rest : List PySem.Expr} {Q : Value → Shared → Prop} (hf : fnIn K g = true)
    (h : wpAny M A (spliced (backTo pos (starEach (e :: rest) env))) (fun vs s₁ => MethP K q g self s₁.heap ∧ wpAny M A (call (.ref q) (first ++ vs)) Q E s₁) E s)
    (he : starEach (e :: rest) env = (false, eval e env) :: starEach rest env := by rfl) (hst : (backTo pos (starEach rest env)).any (·.1) = true := by rfl) :
    wpAny M A (callWith pos (.ref q) first (backTo pos (starEach (e :: rest) env)) []) Q E s := by
  rw [he] at h ⊢
  exact ks_call (by show (false || (backTo pos (starEach rest env)).any (·.1)) = true; rw [hst]; rfl) (keeps_M hf) (evalArgs_plain h)
theorem callWith_MS {K : Frag} {env : Env} {pos p : Pos} {q g : Addr} {self : Value} {first : List Value} {e : PySem.Expr} {Q : Value → Shared → Prop} (hf : fnIn K g = true)
    (h : wpAny M A (eval e env) (fun v s₁ => StarOf M A E v (fun vs s₂ => MethP K q g self s₂.heap ∧ wpAny M A (call (.ref q) (first ++ vs)) Q E s₂) s₁) E s)
    (he : starEach [.Starred e p] env = [(true, eval e env)] := by rfl) :
    wpAny M A (callWith pos (.ref q) first (backTo pos (starEach [.Starred e p] env)) []) Q E s := by
  rw [he]
  exact ks_call rfl (keeps_M hf) (ks_lone h)
theorem star_g {prog : Program} {w : World} {h₀ : Heap} {L a : Addr} {m : Str → Option Value} {news : List (Addr × Obj)} {vs : List Value} {c : Nat} {Q : List Value → Shared → Prop} (F : Fr h₀ L s.heap m) (N : News h₀ L s.heap news) (D : s.heap.get? a = some (W.listOf vs.toArray c))
    (hz : vs.length ≤ 16384) (h : ∀ h', Fr h₀ L h' m → News h₀ L h' news → Q vs { s with heap := h' }) : StarOf (model prog w) A E (.ref a) Q s := by
  have hT' : s.TypeIs (.ref a) "list" := ⟨_, D, rfl⟩
  have z : wpAny (model prog w) A (collect (.ref a)) Q E s := by
    refine wpAny_collect_seq a (.inl rfl) D rfl rfl (fun h' hk => h h' ?_ fun p hp => ⟨hk _ _ (N p hp).1, (N p hp).2⟩) (by rw [List.size_toArray, sizeLine_eq]; omega)
    obtain ⟨oL, es, ep, hL, r⟩ := F.ns
    exact ⟨⟨oL, es, ep, hk _ _ hL, r⟩, fun b x q => hk _ _ (F.keep b x q), F.above⟩
  unfold StarOf notIterableAtAll
  exact wpAny_bind (wpAny_specialOf hT' PySem.F.slot_list_iter.lookup (wpAny_pure ⟨rfl, z⟩))
end
theorem fold_len {k : Int} : ∀ (l : List Int) (as : List (Int × Int × List Int)), (l.foldl (addStep k) as).length ≤ as.length + l.length
  | [], _ => Nat.le_refl _
  | p :: r, as => by
    have h1 := fold_len (k := k) r (addStep k as p)
    have h2 := gniA_len as p
    have h3 := scA_len (gniA as p) p k
    simp only [List.foldl_cons, List.length_cons]
    unfold addStep at h1 ⊢
    omega
theorem addA_len (as : List (Int × Int × List Int)) (k : Int) (ps : List Int) : (addA as k ps).length ≤ as.length + 1 + ps.length := by
  have h1 := fold_len (k := k) ps (npA (gniA as k) k ps.length)
  have h2 := gniA_len as k
  rw [npA_len] at h1
  unfold addA
  omega
theorem addA_bnd {B : Nat} {as : List (Int × Int × List Int)} (h : Bnd B as) (k : Int) (ps : List Int) : Bnd (B + ps.length) (addA as k ps) := Bnd.fold ps ((h.gni k).npA k ps.length)
theorem ConXc.use {w : World} {mean : ExcName → Option Value} {mg mb : Str → Option Value} {A₀ : Around} {base : Heap} {outer : List Env} {h₀ : Heap} {L a : Addr} {m : Str → Option Value} {mu : List (Addr × Obj)} {f : Addr} {lv : Nat} {vs : List Value} {Post : Value → List (Addr × Obj) → Heap → Prop} {dp un : Nat} {gd : Option (List Code)} {cn : Str} {cs : Scope} {ccd : Value} {cl : List (Str × Addr)} {s : Shared} {R : Result → Shared → Prop} {all : List (Addr × Obj)}
    (c : ConXc w f lv mu vs Post s.heap) (M : Am w mean mg mb A₀ base outer h₀) (F : Fr h₀ L s.heap m) (N : News h₀ L s.heap all) (hmu : ∀ p ∈ mu, p ∈ all) (rest : List (Addr × Obj)) (hrest : ∀ p ∈ rest, p ∈ all ∧ p.1 ∉ mu.map (·.1)) (hk : cs.kind = .function) (hd : dp + lv < recursionLimit) (hu : un + lv < cLine)
    (k : ∀ v h' tk' h₀' led, KtsTurn (fsOf outer) h₀ h₀' → Am w mean mg mb A₀ base outer h₀' → Fr h₀' L h' m → News h₀' L h' (led ++ rest) → (∀ p ∈ led, p.1 ∈ mu.map (·.1) ∨ s.heap.get? p.1 = none) → Post v led h' → R (.ok (.ret v)) { s with heap := h', toks := tk' }) :
    codeAny (model PG w) (ktrTop dp un gd cn cs L a ccd cl outer) (.call (.ref f) ⟨vs, []⟩) R s := by
  have Nm : News h₀ L s.heap mu := fun p hp => N p (hmu p hp)
  refine c rfl M F Nm hk hd hu fun v h' tk' led EV hl hp => ?_
  obtain ⟨h₀', t, M', F', nn⟩ := M.turn F EV (fun b q => by obtain ⟨p, hp, rfl⟩ := List.mem_map.mp q; exact (Nm p hp).2.2) (fun q => by obtain ⟨p, hp, e⟩ := List.mem_map.mp q; exact (Nm p hp).2.1 e)
  have Nr : News h₀ L s.heap rest := fun p hp => N p (hrest p hp).1
  have N2 := News.turn M Nr EV (fun p hp => (hrest p hp).2) nn
  refine k v h' tk' h₀' led t M' F' (fun p hp => ?_) (fun p hp => (hl p hp).2) hp
  rcases List.mem_append.mp hp with hp | hp
  · obtain ⟨e, hor⟩ := hl p hp
    rcases hor with hor | hor
    · obtain ⟨q, hq, e'⟩ := List.mem_map.mp hor
      exact ⟨e, e' ▸ (Nm q hq).2.1, e' ▸ (nn _).mpr (Nm q hq).2.2⟩
    · refine ⟨e, fun z => ?_, (nn _).mpr ?_⟩
      · obtain ⟨oL, es, ep, eL, _⟩ := F.ns
        rw [z, eL] at hor; cases hor
      · cases z : h₀.get? p.1 with
        | none => rfl
        | some o => rw [F.keep _ _ z] at hor; cases hor
  · exact N2 p hp
theorem items_N {w : World} {A : Around} {E : Value → Shared → Prop} {s : Shared} {g : Heap} {L d : Addr} {m : Str → Option Value} {news : List (Addr × Obj)} {kvs : List (Int × Value)} {o : Obj} {Q : Value → Shared → Prop} (F : Fr g L s.heap m) (N : News g L s.heap news) (hp : (d, o) ∈ news) (hd : o.IsDictOf (intKind PG w) kvs) (lo : (d == sysModules) = false)
    (h : ∀ (D : Addr) h', Fr g L h' m → News g L h' ((D, { cls := .type "dict_items", data := .fields #[.ref d] }) :: news) → (∀ q ∈ news, q.1 < D) → Q (.ref D) { s with heap := h' }) :
    wpAny (model PG w) A (call (.builtin "dict.items") [.ref d]) Q E s :=
  have hD := kda_dict N hp hd
  call_meetsIn PySem.F.slot_dict_items hD.typeIs PySem.F.entry_dict_items (PySem.F.args_dict_items_1 _) (meets_dict_items (intKind PG w) d lo) ⟨⟨kvs, hD⟩, h _ _ (F.push _) (News.push F N _) fun q hq => Heap.lt_size (N q hq).1⟩
theorem under_call {dp un : Nat} {gd : Option (List Code)} {cn : Str} {cs : Scope} {L a : Addr} {ccd : Value} {cl : List (Str × Addr)} {outer : List Env} {C : Addr} {pos : List Value} {kw : List (Str × Value)} : (ktrTop dp un gd cn cs L a ccd cl outer).under (.builtin "type.__call__" ⟨.ref C :: pos, kw⟩) = ktrTop (dp + 1) (un + 1) gd cn cs L a ccd cl outer := rfl
section
local macro_rules | `(tactic| walk_at $s) => zd ["call builtin:dict.items", "exec For Tuple Call cons nil", "StarOf ref"] [] s
noncomputable abbrev NeedL := List (Int × List Int × Addr)
noncomputable def kvsOf (nd : NeedL) : List (Int × Value) := nd.map fun e => (e.1, .ref e.2.2)
local macro_rules | `(tactic| walk_at $s) => zd [] [] s
theorem con_init {w : World} {h : Heap} {G S dS : Addr} {oG : Obj} {nd : NeedL} (hG : oG.IsDictOf (intKind PG w) (kvsOf nd)) (hnd : ∀ e ∈ nd, IsL h e.2.2 e.2.1 ∧ e.2.1.length ≤ 5) (hz : nd.length ≤ 50) (loG : (G == sysModules) = false) (n1 : S ≠ dS) (n2 : S ≠ G) (n3 : dS ≠ G) :
    ConXc w 131 100 [(S, instObj 195 dS), (dS, dictOf [] 0), (G, oG)] [.ref S, .ref G] (fun v led h' => ∀ G_ : Prop, (∀ c oD ns t5 t6, (v = .none) → (c.S = S) → (ns.map Nod.abs = nd.foldl (fun as e => addA as e.1 e.2.1) []) → (led = (G, oG) :: srtL c .none 0 0 t5 t6 oD ns) → (SrtOk w c oD ns) → (G ∉ (srtL c .none 0 0 t5 t6 oD ns).map (·.1)) → G_) → G_) h := by
  revert hG hnd hz loG n1 n2 n3
  revert w h G S dS oG nd
  walk_at "7"; (iterate 2 (generalize zf w_ = dS; generalize zs w_ = v_; clear w_; generalize zf v_ = dS; generalize zs v_ = w_; clear v_)); generalize zf w_ = dS; generalize zs w_ = v_; clear w_; generalize zf v_ = oG, zs v_ = nd; clear v_; rename_i w h G S
  intro hG hnd hz loG n1 n2 n3
  refine ConXc.hk ?_; generalize wXc _ _ _ _ _ _ _ = c_; delta ConXcat; generalize c_.mean = mean, c_.mg = mg, c_.mb = mb, c_.dp = dp, c_.un = un, c_.gd = gd, c_.cn = cn, c_.cs = cs, c_.a = a, c_.ccd = ccd, c_.cl = cl, c_.outer = outer, c_.A₀ = A₀, c_.base = base, c_.h₀ = h₀, c_.L = L, c_.m = m, c_.s = s, c_.R = R
  intro hh M F N hk hdp hun hret
  subst hh
  have X := M.X
  (k_dflt (refine' enterX ?k1 ?k2 ?k4 ?kK ?k6 ?k7 ?k8 ?k9 ?kB ?_ ?c2 ?c3 ?c4 ?c5; (case kK => assumption); (case k1 => assumption); (case k2 => assumption); (case k4 => assumption); (case k6 => k_is); (case k7 => k_is); (case k8 => omega); (case k9 => first | exact BindsTo.of_eq rfl | exact binds_K (by k_in) rfl (by k_is) rfl rfl rfl); (case c5 => decide); (case kB => exact locs rfl); (case c2 => exact rfl); (case c3 => exact rfl); (case c4 => exact rfl); k_whole))
  walk_at "3"; generalize zf w_ = g, zf (zs w_) = L', zs (zs w_) = h₁
  intro sg gs eL lt F' N' M'
  (try dsimp only)
  refine wpAny_noRaise ?_
  have B' := M'.B
  have X' := M'.X
  have T' := M'.T
  k_lt lt
  k_steps
  refine Blk.out ?_
  refine for_rawG ?_
  k_steps
  refine Blk.out ?_
  rename Fr g L' _ _ => F5
  rename News g L' _ _ => N5
  rename_i D h5 oD lo1 hsD fsD hiD fiD l1 h6 h7 h8 h9
  clear hsD fsD fiD
  refine items_N F5 N5 (by k_mem) hG loG ?_
  intro V hV FV NV ltV
  dsimp only
  refine it_items (v := V) (d := G) FV NV (NV (G, oG) (by simp)).1 hG (NV _ (.head _)).1 ?_
  intro I hI oI ep F6 N6 lt6 ltI hO
  have l11 := l1.1
  have l12 := l1.2.1
  have l13 := l1.2.2
  obtain ⟨c, t5, t6, cS, cD, cdS, N7⟩ : ∃ (c : Hd) (t5 t6 : Tok), c.S = S ∧ c.D = D ∧ c.dS = dS ∧ News g L' hI ((I, oI) :: (V, { cls := .type "dict_items", data := .fields #[.ref G] }) :: (D, oD) :: (S, instObj 195 dS) :: (dS, c.dict .none 0 0 t5 t6) :: (G, oG) :: []) := by
    exact ⟨⟨S, dS, D, _, _, _, _, _, _, _, _⟩, _, _, rfl, rfl, rfl, N6⟩
  subst cS cD cdS
  have N8 := News.sub N7 (led' := (I, oI) :: (G, oG) :: srtL c .none 0 0 t5 t6 oD []) (fun p hp => by
    simp only [srtL, entsN, List.flatMap_nil, List.mem_cons, List.not_mem_nil, or_false] at hp ⊢
    rcases hp with h | h | h | h | h <;> first | ((repeat' first | exact h | exact Or.inl h | apply Or.inr); done) | simp [h])
  have ok0 : SrtOk w c oD [] := ⟨lo1, hiD, (fun _ h => nomatch h), by simp [entsN, n1, Nat.ne_of_lt l11, Nat.ne_of_lt l12], List.nodup_nil⟩
  have nd0 : (I :: G :: (srtL c .none 0 0 t5 t6 oD []).map (·.1)).Nodup := by
    refine nodup_new (l' := (G, oG) :: srtL c .none 0 0 t5 t6 oD []) lt6 (fun z hz => ?_) ?_
    · simp only [srtL, entsN, List.flatMap_nil, List.map_cons, List.map_nil, List.mem_cons, List.not_mem_nil, or_false] at hz ⊢
      rcases hz with h | h | h | h <;> first | ((repeat' first | exact h | exact Or.inl h | apply Or.inr); done) | simp [h]
    · simp [srtL, entsN, n1, n2.symm, n3.symm, Nat.ne_of_lt l11, Nat.ne_of_lt l12, Nat.ne_of_lt l13]
  have ilG : ∀ e ∈ nd, IsL g e.2.2 e.2.1 ∧ e.2.1.length ≤ 5 := fun e he => by
    obtain ⟨⟨vs, cc, e1, e2⟩, e3⟩ := hnd e he
    refine ⟨⟨vs, cc, sg _ _ (fun z => ?_) e1, e2⟩, e3⟩
    obtain ⟨p, hp, ep⟩ := List.mem_map.mp z
    have := (N p hp).1
    rw [ep, e1] at this
    have d := congrArg Obj.data (Option.some.inj this)
    simp only [List.mem_cons, List.not_mem_nil, or_false] at hp
    rcases hp with rfl | rfl | rfl
    · cases d
    · cases d
    · obtain ⟨es, q0, q1, q2, _⟩ := hG
      dsimp only at d
      rw [q2] at d
      cases d
  clear N7 N6 NV N5 F5 FV
  obtain ⟨Iv1, hIv1⟩ : ∃ Iv1 : Nat → Shared → Prop, Iv1 = fun n s' => ∀ G_ : Prop, (∀ i g3 h tk m' oD3 ns3 oI t5 t6, (s' = { s with heap := h, toks := tk }) → (m' (Str.ofString "self") = some (.ref c.S)) → (KtsTurn (L :: fsOf outer) g g3) → (Am w mean mg mb (ktrTop dp un gd cn cs L a ccd cl outer) base (envX cn cs L a ccd cl :: outer) g3) → (Fr g3 L' h m') → (News g3 L' h ([(I, oI), (G, oG)] ++ srtL c .none 0 0 t5 t6 oD3 ns3)) → (SrtOk w c oD3 ns3) → ((I :: G :: (srtL c .none 0 0 t5 t6 oD3 ns3).map (·.1)).Nodup) → (ItO (iSt I G (kvsOf nd) ep w) I G oI oG i) → (i ≤ nd.length) → (n = nd.length - i) → (ns3.map Nod.abs = (nd.take i).foldl (fun as e => addA as e.1 e.2.1) []) → (ns3.length ≤ 6 * i) → (Bnd (5 * i) (ns3.map Nod.abs)) → ((∀ e ∈ nd, IsL g3 e.2.2 e.2.1 ∧ e.2.1.length ≤ 5)) → G_) → G_ := ⟨_, rfl⟩
  refine ⟨Iv1, nd.length, ?_, ?_⟩
  rw [hIv1]
  refine (fun _ k_ => k_ 0 g hI _ _ oD ([]) oI t5 t6 rfl rfl KtsTurn.refl M' F6 N8 ok0 nd0 hO (Nat.zero_le _) rfl rfl (Nat.zero_le _) (fun _ h => nomatch h) ilG)
  clear N8 nd0 ok0 ilG hO F6
  intro n s' hI44_; (first | rw [hIv1] at hI44_ | skip); refine hI44_ _ ?_; clear hI44_; intro i g3 h tk m' oD3 ns3 oI3 t5 t6 e45_ m1 t3 M3 F3 N3 ok3 nd3 hO3 hi e46_ ab3 ln3 bn3 il3; subst e45_; subst e46_
  have st := hO3 h (N3 (I, oI3) (.head _)).1 (N3 (G, oG) (.tail _ (.head _))).1
  have F3' := frk F3 _ (kn1 m1 kn0)
  have ndI := (List.nodup_cons.mp nd3).1
  have ndG := (List.nodup_cons.mp (List.nodup_cons.mp nd3).2).1
  by_cases hil : i < nd.length
  · have hx : (kvsOf nd)[i]? = some (nd[i].1, .ref nd[i].2.2) := by
      simp [kvsOf, hil]
    have hmem := List.getElem_mem hil
    obtain ⟨⟨vs, cc, el, iv⟩, l5⟩ := il3 _ hmem
    refine items_item (it := I) (oI := oI3) (news := (G, oG) :: srtL c .none 0 0 t5 t6 oD3 ns3) rfl rfl F3' N3 (tail_off ndI) (.head _) st hx ?_
    intro kt h4 tk4 oI4 hO4 F4 N4
    have F5 : Fr g3 L' h4 _ := F4
    have N5 : News g3 L' h4 ((I, oI4) :: (G, oG) :: srtL c .none 0 0 t5 t6 oD3 ns3) := N4
    clear F3 F3' N3 X' T' B' F4 N4
    have X' := M3.X
    have T' := M3.T
    dsimp only [srtL] at N5
    k_steps
    refine eval_MethodStar ?_
    k_steps
    rename_i q hq7 F7 N7 lq
    refine callWith_MS2 (K := hd.heap_1 w.params) (g := 145) (self := .ref c.S) (by k_is) ?_
    k_steps
    refine Blk.out ?_
    rename Fr g3 L' _ _ => F6
    rename News g3 L' _ _ => N6
    dsimp only
    refine star_g (vs := vs) (c := cc) F6 N6 (F6.keep _ _ el) (by rw [iv.length]; omega) ?_
    intro h8 F7 N7
    clear F6 N6
    k_steps
    refine Blk.out ?_
    simp only [List.append_nil]
    refine call_meth N7 (.head _) ?_
    have hz9 : ns3.length ≤ 900 := by omega
    have i50 : 5 * i ≤ 900 := by omega
    have hB9 : Bnd 900 (ns3.map Nod.abs) := fun e he => Nat.le_trans (bn3 e he) i50
    have ndI' : I ∉ (srtL c .none 0 0 t5 t6 oD3 ns3).map (·.1) := fun z => ndI (.tail _ z)
    refine ConXc.use (lv := 50) (dp := dp + 1) (un := un + 3) (all := (q, methodObj (.ref 145) (.ref c.S)) :: (I, oI4) :: (G, oG) :: srtL c .none 0 0 t5 t6 oD3 ns3) (con_addc (kt := kt) (k := nd[i].1) (vs := vs) (ps := nd[i].2.1) (po := 0) (nf := 0) (t5 := t5) (t6 := t6) ok3 hz9 l5 hB9 iv) M3 F7 N7
      (fun p hp => .tail _ (.tail _ (.tail _ hp))) [(I, oI4), (G, oG)] (fun p hp => ?_) rfl (by omega) (by omega) ?_
    · simp only [List.mem_cons, List.not_mem_nil, or_false] at hp
      rcases hp with rfl | rfl
      · exact ⟨.tail _ (.head _), ndI'⟩
      · exact ⟨.tail _ (.tail _ (.head _)), ndG⟩
    intro v h5 tk5 g5 led t5' M5 F8 N8 hled hI47_; (first | rw [hIv1] at hI47_ | skip); refine hI47_ _ ?_; clear hI47_; intro oD5 ns5 e48_ ab5 e49_ ok5; subst e48_; subst e49_
    have off := led_off (mu := srtL c .none 0 0 t5 t6 oD3 ns3) (News.sub N7 (led' := [(I, oI4), (G, oG)]) (fun p hp => by
      simp only [List.mem_cons, List.not_mem_nil, or_false] at hp
      rcases hp with rfl | rfl
      · exact .tail _ (.head _)
      · exact .tail _ (.tail _ (.head _)))) (fun p hp => by
      simp only [List.mem_cons, List.not_mem_nil, or_false] at hp
      rcases hp with rfl | rfl
      · exact ndI'
      · exact ndG) hled
    have oI' := off _ (.head _)
    have oG' := off _ (.tail _ (.head _))
    have neIG : I ≠ G := fun z => ndI (z ▸ .head _)
    clear X' T' N7 F7
    have X' := M5.X
    have T' := M5.T
    dsimp only
    k_steps
    dsimp only
    refine ⟨nd.length - (i + 1), by omega, ?_⟩
    first | rw [hIv1]
    refine (fun _ k_ => k_ (i + 1) g5 _ _ _ oD5 ns5 oI4 t5 t6 rfl rfl (t3.trans t5') M5 F8 (News.sub N8 (fun p hp => ?_)) ok5 ?_ hO4 hil rfl ?_ ?_ ?_ (fun e he => ⟨IsL.turn M3 t5' (il3 e he).1, (il3 e he).2⟩))
    · rcases List.mem_cons.mp hp with rfl | hp
      · exact List.mem_append_right _ (.head _)
      rcases List.mem_cons.mp hp with rfl | hp
      · exact List.mem_append_right _ (.tail _ (.head _))
      · exact List.mem_append_left _ hp
    · exact List.nodup_cons.mpr ⟨fun z => (List.mem_cons.mp z).elim neIG oI', List.nodup_cons.mpr ⟨oG', ok5.nd⟩⟩
    · rw [List.take_succ_eq_append_getElem hil, List.foldl_append, ← ab3, ab5]
      rfl
    · have h1 := addA_len (ns3.map Nod.abs) nd[i].1 nd[i].2.1
      rw [← ab5, List.length_map, List.length_map] at h1
      omega
    · have h1 := addA_bnd bn3 nd[i].1 nd[i].2.1
      rw [← ab5] at h1
      exact fun e he => Nat.le_trans (h1 e he) (by omega)
  · have ei : i = nd.length := by omega
    have st' : iSt I G (kvsOf nd) ep w (kvsOf nd).length h := by
      rw [show (kvsOf nd).length = i by simp [kvsOf, ei]]; exact st
    refine items_done rfl (rest := (G, oG) :: srtL c .none 0 0 t5 t6 oD3 ns3) F3' N3 (fun p hp => ⟨.tail _ hp, tail_off (rest := (G, oG) :: srtL c .none 0 0 t5 t6 oD3 ns3) ndI p hp⟩) st' (N3 (I, oI3) (.head _)).2.1 (N3 (I, oI3) (.head _)).2.2 ?_
    intro h4 F4 N4
    dsimp only [ForTurnG]
    clear F3 F3' N3 X' T' B'
    have X' := M3.X
    have T' := M3.T
    k_steps
    obtain ⟨EV, hl⟩ := exitX M F N sg gs t3 F4 N4
    refine hret _ _ _ _ EV hl (fun _ k_ => k_ c oD3 ns3 t5 t6 rfl rfl ?_ rfl ok3 ndG)
    rw [ab3, ei, List.take_length]
end
end
section
theorem call_clsk {prog : Program} {w : World} {A : Around} {E : Value → Shared → Prop} {s : Shared} {K : Frag} {C L : Addr} {h₀ : Heap} {m : Str → Option Value} {news : List (Addr × Obj)} {Q : Value → Shared → Prop} {pos : List Value} {kw : List (Str × Value)} {fI : Addr} (F : Fr h₀ L s.heap m) (X₀ : K.In h₀) (N : News h₀ L s.heap news) (hm : makesIn K C = true) (hi : findIn K (.ref C) "__init__" = some (some (.ref fI))) (hf : isFn K (.ref fI) = true)
    (h : ∀ x dx h', Fr h₀ L h' m → News h₀ L h' ((x, instObj C dx) :: (dx, dictOf [] 0) :: news) → (∀ p ∈ news, p.1 < dx) → dx < x → (∀ b o, s.heap.get? b = some o → h'.get? b = some o) → (∀ b o, s.heap.get? b = some o → b < dx) →
      codeAny (model prog w) (A.under (.builtin "type.__call__" ⟨.ref C :: pos, kw⟩)) (.call (.ref fI) ⟨.ref x :: pos, kw⟩) (InitBack x fun r s' => match r with | .ok (.ret v) => Q v s' | .ok _ => False | .error e => E e s') { s with heap := h' }) :
    wpAny (model prog w) A (call (.ref C) pos kw) Q E s := by
  have X := X₀.keeps F.keep
  refine wpAny_call ?_
  obtain ⟨hh, g, d, t, os⟩ := s
  refine make_core (makes_of X hm) (looks_findIn X hi) (fun self => bind_fn X self (beq_iff_eq.mp hf)) (.inl rfl) (h _ hh.objs.size _ ((F.push _).push _) ?_ (fun p hp => Heap.lt_size (N p hp).1) (Nat.lt_succ_self _) (fun b o e => Heap.get?_push_of_some _ (Heap.get?_push_of_some _ e)) (fun b o e => Heap.lt_size e))
  have := (N.push F emptyDict).push (F.push _) (instObj C hh.objs.size)
  rwa [Heap.size_push] at this
theorem con_new {w : World} {h : Heap} {G : Addr} {oG : Obj} {nd : NeedL} (hG : oG.IsDictOf (intKind PG w) (kvsOf nd)) (hnd : ∀ e ∈ nd, IsL h e.2.2 e.2.1 ∧ e.2.1.length ≤ 5) (hz : nd.length ≤ 50) (loG : (G == sysModules) = false) :
    ConX w 195 110 [(G, oG)] [.ref G] (fun v led h' => ∀ G_ : Prop, (∀ c oD ns t5 t6, (v = .ref c.S) → (ns.map Nod.abs = nd.foldl (fun as e => addA as e.1 e.2.1) []) → (led = (G, oG) :: srtL c .none 0 0 t5 t6 oD ns) → (SrtOk w c oD ns) → (G ∉ (srtL c .none 0 0 t5 t6 oD ns).map (·.1)) → G_) → G_) h := by
  intro mean mg mb dp un gd cn cs a ccd cl outer A₀ base h₀ L m s Q E hh M F N hk hdp hun hret
  subst hh
  have X := M.X
  refine call_clsk (K := hd.heap_1 w.params) F X N (by k_is) (fI := 131) (by k_is) (by k_is) ?_
  intro S dS h1 F1 N1 l1 l2 kp lts
  rw [under_call]
  have lG : G < dS := l1 (G, oG) (.head _)
  have nS : s.heap.get? S = none := by
    cases z : s.heap.get? S with
    | none => rfl
    | some o => exact absurd (lts _ _ z) (Nat.not_lt.mpr (Nat.le_of_lt l2))
  have ndS : s.heap.get? dS = none := by
    cases z : s.heap.get? dS with
    | none => rfl
    | some o => exact absurd (lts _ _ z) (Nat.lt_irrefl _)
  refine con_init (S := S) (dS := dS) (h := h1) hG (fun e he => ?_) hz loG (Nat.ne_of_gt l2) (Nat.ne_of_gt (Nat.lt_trans lG l2)) (Nat.ne_of_gt lG) (s := { s with heap := h1 }) rfl M F1 N1 hk (by omega) (by omega) ?_
  · obtain ⟨⟨vs, c, e1, e2⟩, e3⟩ := hnd e he
    exact ⟨⟨vs, c, kp _ _ e1, e2⟩, e3⟩
  intro v h' tk' led EV hl hI1_; refine hI1_ _ ?_; clear hI1_; intro c oD ns t5 t6 e2_ e3_ ab e4_ ok ndG; subst e2_; subst e3_; subst e4_
  refine ⟨rfl, hret _ h' tk' _ ⟨fun b o n1 n2 e => ?_, fun b o hb e => EV.2 b o hb (kp _ _ e)⟩ (fun p hp => ⟨(hl p hp).1, ?_⟩) (fun _ k_ => k_ c oD ns t5 t6 rfl ab rfl ok ndG)⟩
  · refine EV.1 b o (fun z => ?_) n2 (kp _ _ e)
    simp only [List.map_cons, List.map_nil, List.mem_cons, List.not_mem_nil, or_false] at z n1
    rcases z with rfl | rfl | rfl
    · rw [nS] at e; cases e
    · rw [ndS] at e; cases e
    · exact n1 rfl
  · rcases (hl p hp).2 with z | z
    · simp only [List.map_cons, List.map_nil, List.mem_cons, List.not_mem_nil, or_false] at z ⊢
      rcases z with z | z | z
      · exact .inr (z ▸ nS)
      · exact .inr (z ▸ ndS)
      · exact .inl z
    · refine .inr ?_
      cases q : s.heap.get? p.1 with
      | none => rfl
      | some o => rw [kp _ _ q] at z; cases z
end
section
inductive Drain (kept : List Int) : AS → List Int → List Int → AS → Prop
  | stop {as : AS} {rs : List Int} : (∀ k ∈ rs, k ∈ as.map (·.1)) → rs.length ≤ 100 → (rs.filter fun k => decide (k ∉ kept)) = [] → Drain kept as rs [] (outA as rs)
  | more {as as' : AS} {rs ws told : List Int} : (∀ k ∈ rs, k ∈ as.map (·.1)) → rs.length ≤ 100 → (rs.filter fun k => decide (k ∉ kept)) = ws → ws ≠ [] → ws.length ≤ 5 → Bnd 100 (outA as rs) →
      (∀ e ∈ outA as rs, ∀ s ∈ e.2.2, s ∈ (outA as rs).map (·.1)) → (∀ i (hi : i < ws.length), ws[i] ∈ (outA as rs).map (·.1) ∧ npOf (doneA (outA as rs, []) (ws.take i)).1 ws[i] = -1) →
      Drain kept (doneA (outA as rs, []) ws).1 (doneA (outA as rs, []) ws).2 told as' → Drain kept as rs (ws ++ told) as'
theorem Drain.keys {kept : List Int} {as as' : AS} {rs told : List Int} (d : Drain kept as rs told as') : (∀ k ∈ rs, k ∈ as.map (·.1)) ∧ rs.length ≤ 100 := by cases d <;> exact ⟨‹_›, ‹_›⟩
noncomputable abbrev nodA (c : Hd) (ns : List Nod) : List Addr := c.S :: c.dS :: c.D :: (entsN ns).map (·.1)
section
local macro_rules | `(tactic| walk_at $s) => zd ["exec While Compare cons nil", "exec While Compare cons cons", "StarOf ref", "compareOp NotEq ref ref", "binaryOp Add ref ref"] [] s
theorem con_drained {w : World} {h : Heap} {c : Hd} {R Kp : Addr} {po nf : Int} {t5 t6 : Tok} {oD : Obj} {ns : List Nod} {rv : List Value} {cr : Nat} {rs kept told : List Int} {as' : AS} (ok : SrtOk w c oD ns) (hR : R ∉ nodA c ns) (ir : IntsAre rv rs)
    (dr : Drain kept (ns.map Nod.abs) rs told as') (ht : told.length ≤ 100) (iK : IsL h Kp kept) (nK : Kp ∉ R :: nodA c ns) :
    ConX w 213 130 ((R, W.listOf rv.toArray cr) :: srtL c (.ref R) po nf t5 t6 oD ns) [.ref c.S, .ref Kp]
      (fun v led h' => ∀ G_ : Prop, (∀ T tv ct po' nf' t5' t6' cr' ns', (v = .ref T) → (IntsAre tv told) → (ns'.map Nod.abs = as') → (led = (T, W.listOf tv.toArray ct) :: (R, W.listOf [].toArray cr') :: srtL c (.ref R) po' nf' t5' t6' oD ns') → (SrtOk w c oD ns') → ((T :: R :: nodA c ns').Nodup) → G_) → G_) h := by
  revert ok hR ir dr ht iK nK
  revert w h c R Kp po nf t5 t6 oD ns rv cr rs kept told as'
  walk_at "16"; (iterate 7 (generalize zf w_ = rs; generalize zs w_ = v_; clear w_; generalize zf v_ = rs; generalize zs v_ = w_; clear v_)); generalize zf w_ = kept, zs w_ = told; clear w_; rename_i w h c R Kp po nf t5 t6 oD ns rv cr
  walk_at "1"; generalize w_ = as'
  intro ok hR ir dr ht iK nK
  refine ConX.hk ?_; generalize wX _ _ _ _ _ _ _ = c_; delta ConXat; generalize c_.mean = mean, c_.mg = mg, c_.mb = mb, c_.dp = dp, c_.un = un, c_.gd = gd, c_.cn = cn, c_.cs = cs, c_.a = a, c_.ccd = ccd, c_.cl = cl, c_.outer = outer, c_.A₀ = A₀, c_.base = base, c_.h₀ = h₀, c_.L = L, c_.m = m, c_.s = s, c_.Q = Q, c_.E = E
  intro hh M F N hk hdp hun hret
  subst hh
  have X := M.X
  (refine wpAny_call ?_; k_dflt (refine' enterX ?k1 ?k2 ?k4 ?kK ?k6 ?k7 ?k8 ?k9 ?kB ?_ ?c2 ?c3 ?c4 ?c5; (case kK => assumption); (case k1 => assumption); (case k2 => assumption); (case k4 => assumption); (case k6 => k_is); (case k7 => k_is); (case k8 => omega); (case k9 => first | exact BindsTo.of_eq rfl | exact binds_K (by k_in) rfl (by k_is) rfl rfl rfl); (case c5 => decide); (case kB => exact locs rfl); (case c2 => exact rfl); (case c3 => exact rfl); (case c4 => exact rfl); k_whole))
  walk_at "3"; generalize zf w_ = g, zf (zs w_) = L', zs (zs w_) = h₁
  intro sg gs eL lt F' N' M'
  (try dsimp only)
  refine wpAny_noRaise ?_
  have B' := M'.B
  have X' := M'.X
  have T' := M'.T
  dsimp only [srtL] at lt N'
  k_lt lt
  have iK' : IsL g Kp kept := by
    obtain ⟨vs, cc, e, i⟩ := iK
    exact ⟨vs, cc, sg _ _ nK e, i⟩
  k_steps
  refine Blk.out ?_
  rename Fr g L' _ _ => F5
  rename News g L' _ _ => N5
  rename_i T0 hT0 l1 h6
  have hin := dr.keys.1
  have hlen := dr.keys.2
  have ndT0 : T0 ∉ ((R, W.listOf rv.toArray cr) :: srtL c (.ref R) po nf t5 t6 oD ns).map (·.1) := AllLt.off (rest := (R, W.listOf rv.toArray cr) :: srtL c (.ref R) po nf t5 t6 oD ns) l1
  refine ConX.use (lv := 30) (dp := dp + 1) (un := un + 3) (con_ready (c := c) (R := R) (po := po) (nf := nf) (t5 := t5) (t6 := t6) (oD := oD) (ns := ns) (rv := rv) (cr := cr) ok hR ir (Nat.le_trans hlen (by decide)) (fun k hk => by rw [← abs_keys]; exact hin k hk)) M' F5 N5 (fun p hp => .tail _ hp) [(T0, W.listOf [].toArray 0)] (fun p hp => ?_) rfl (by omega) (by omega) ?_
  · obtain rfl := List.mem_singleton.mp hp
    exact ⟨.head _, ndT0⟩
  intro v h2 tk2 g2 led t2 M2 F2 N2 hled hI11_; (first | rw [hIv0] at hI11_ | skip); refine hI11_ _ ?_; clear hI11_; intro T po2 t52 cr2 ns2 e12_ ab2 e13_ ok2 nd2; subst e12_; subst e13_
  have oT0 : T0 ∉ ((T, tupE rv) :: (R, W.listOf [].toArray cr2) :: srtL c (.ref R) po2 nf t52 t6 oD ns2).map (·.1) := led_off (mu := (R, W.listOf rv.toArray cr) :: srtL c (.ref R) po nf t5 t6 oD ns) (News.sub N5 (led' := [(T0, W.listOf [].toArray 0)]) (fun p hp => by obtain rfl := List.mem_singleton.mp hp; exact .head _)) (fun p hp => by obtain rfl := List.mem_singleton.mp hp; exact ndT0) hled (T0, W.listOf [].toArray 0) (.head _)
  have iK2 := IsL.turn M' t2 iK'
  clear X' T' F5 N5
  have X' := M2.X
  have T' := M2.T
  dsimp only
  k_steps
  refine Blk.out ?_
  rename Fr g2 L' _ _ => F5
  rename News g2 L' _ _ => N5
  refine ConX.use (lv := 60) (dp := dp + 1) (un := un + 3) (mu := []) (con_filter_t w (x := T) (y := Kp) (xs := rs) (ys := kept) ⟨rv, _, (N5 _ (.head _)).1, ir⟩ (iK2.fr F5) (Nat.le_trans hlen (by decide))) M2 F5 N5 (fun p hp => nomatch hp) ((T0, W.listOf [].toArray 0) :: (R, W.listOf [].toArray cr2) :: srtL c (.ref R) po2 nf t52 t6 oD ns2) (fun p hp => ⟨?_, fun z => nomatch z⟩) rfl (by omega) (by omega) ?_
  · rcases List.mem_cons.mp hp with rfl | hp
    · exact List.mem_append_right _ (.head _)
    · exact List.mem_append_left _ (.tail _ hp)
  intro v h3 tk3 g3 led t3 M3 F3 N3 hled3 hI14_; (first | rw [hIv0] at hI14_ | skip); refine hI14_ _ ?_; clear hI14_; intro Wd wv cw e15_ e16_ iw; subst e15_; subst e16_
  have ndW : (Wd :: T0 :: R :: nodA c ns2).Nodup := by
    refine List.nodup_cons.mpr ⟨fun z => ?_, List.nodup_cons.mpr ⟨fun z => oT0 (.tail _ z), (List.nodup_cons.mp nd2).2⟩⟩
    have hw := (hled3 (Wd, W.listOf wv.toArray cw) (.head _)).resolve_left (fun z => nomatch z)
    obtain ⟨p, hp, e⟩ := List.mem_map.mp (show Wd ∈ ((T0, W.listOf [].toArray 0) :: (R, W.listOf [].toArray cr2) :: srtL c (.ref R) po2 nf t52 t6 oD ns2).map (·.1) from z)
    have := (N5 p (by
      rcases List.mem_cons.mp hp with rfl | hp
      · exact List.mem_append_right _ (.head _)
      · exact List.mem_append_left _ (.tail _ hp))).1
    have e : p.1 = Wd := e
    have hw : h2.get? Wd = none := hw
    have this : h2.get? p.1 = some p.2 := this
    rw [e, hw] at this; cases this
  have iK3 := IsL.turn M2 t3 iK2
  clear X' T' F5 N5
  have X' := M3.X
  have T' := M3.T
  dsimp only
  k_steps
  refine Blk.out ?_
  rename Fr g3 L' _ _ => F5
  rename News g3 L' _ _ => N5
  have N6 : News g3 L' _ ((Wd, W.listOf wv.toArray cw) :: (T0, W.listOf [].toArray 0) :: (R, W.listOf [].toArray cr2) :: srtL c (.ref R) po2 nf t52 t6 oD ns2) := News.sub N5 (fun p hp => hp)
  obtain ⟨Iv1, hIv1⟩ : ∃ Iv1 : Nat → Shared → Prop, Iv1 = fun n s' => ∀ G_ : Prop, (∀ g2 h tk m' T0 Wd tv c0 wv cw cr' po nf t5 t6 ns2 told1 as0 rs0 rest, (s' = { s with heap := h, toks := tk }) → (m' (Str.ofString "sorter") = some (.ref c.S)) → (m' (Str.ofString "kept") = some (.ref Kp)) → (m' (Str.ofString "told") = some (.ref T0)) → (m' (Str.ofString "waiting") = some (.ref Wd)) → (KtsTurn (L :: fsOf outer) g g2) → (Am w mean mg mb (ktrTop dp un gd cn cs L a ccd cl outer) base (envX cn cs L a ccd cl :: outer) g2) → (Fr g2 L' h m') → (News g2 L' h ((Wd, W.listOf wv.toArray cw) :: (T0, W.listOf tv.toArray c0) :: (R, W.listOf [].toArray cr') :: srtL c (.ref R) po nf t5 t6 oD ns2)) → (SrtOk w c oD ns2) → ((Wd :: T0 :: R :: nodA c ns2).Nodup) → (IntsAre tv told1) → (IntsAre wv (rs0.filter fun k => decide (k ∉ kept))) → (ns2.map Nod.abs = outA as0 rs0) → (Drain kept as0 rs0 rest as') → (told1 ++ rest = told) → (IsL g2 Kp kept) → (n = rest.length) → G_) → G_ := ⟨_, rfl⟩
  refine while_rule Iv1 ?_ told.length (by rw [hIv1]; exact (fun _ k_ => k_ g3 _ _ _ T0 Wd ([]) 0 wv cw cr2 po2 nf t52 t6 ns2 ([]) (ns.map Nod.abs) rs told rfl rfl rfl rfl rfl (t2.trans t3) M3 F5 N6 ok2 ndW .nil iw ab2 dr rfl iK3 rfl))
  clear t2 t3 M3 F5 N5 N6 ok2 ndW iw ab2 iK3 iK2 iK' M2 hled hled3 oT0 nd2 X' T' l1 ndT0 hin hlen lt M' B' t52 ns2 cr2 po2 dr hR ir ok nK
  intro n s' hI17_; (first | rw [hIv1] at hI17_ | skip); refine hI17_ _ ?_; clear hI17_; intro g4 h4 tk4 m4 T1 W1 tv c1 wv1 cw1 cr1 po1 nf1 t51 t61 ns4 told1 as0 rs0 rest e18_ m41 m42 m43 m44 t4 M4 F4 N4 ok4 nd4 itv iwv ab4 dr4 etold iK4 e19_; subst e18_; subst e19_
  have F4' := frk F4 _ (kn1 m41 (kn1 m42 (kn1 m43 (kn1 m44 kn0))))
  have X' := M4.X
  have T' := M4.T
  clear F4
  dsimp only [srtL] at N4
  k_steps
  refine Blk.out ?_
  rename Fr g4 L' _ _ => F5
  rename News g4 L' _ _ => N5
  rename_i En h5 l1
  refine ne_intsK (vs := wv1) (us := []) (ns := rs0.filter fun k => decide (k ∉ kept)) (ms := []) ⟨_, (N5 (W1, _) (.tail _ (.head _))).1, rfl, _, rfl⟩ iwv ⟨_, (N5 (En, _) (.head _)).1, rfl, _, rfl⟩ .nil (by show un + 3 + 64 < cLine; omega) ?_
  have N6 : News g4 L' h5 ((W1, W.listOf wv1.toArray cw1) :: (T1, W.listOf tv.toArray c1) :: (R, W.listOf [].toArray cr1) :: srtL c (.ref R) po1 nf1 t51 t61 oD ns4) := News.sub N5 (fun p hp => .tail _ hp)
  clear N5 l1
  cases dr4 with
  | stop hin hlen hws =>
    rw [hws]
    rw [show (!decide (([] : List Int) = [])) = false from rfl]
    k_steps
    rename Fr g4 L' _ _ => F7
    rename News g4 L' _ _ => N7
    obtain ⟨EV, hl⟩ := exitX M F N sg gs t4 F7 (News.sub N7 (led' := (T1, W.listOf tv.toArray c1) :: (R, W.listOf [].toArray cr1) :: srtL c (.ref R) po1 nf1 t51 t61 oD ns4) (fun p hp => .tail _ hp))
    refine hret _ _ _ _ EV hl (fun _ k_ => k_ T1 tv c1 po1 nf1 t51 t61 cr1 ns4 rfl ?_ ab4 rfl ok4 ((List.nodup_cons.mp nd4).2))
    rw [← etold, List.append_nil]
    exact itv
  | more hin hlen hws hne h5w hB hcl hout dr5 =>
    rename_i ws told2
    subst hws
    rw [show (!decide (rs0.filter (fun k => decide (k ∉ kept)) = [])) = true by simp only [hne, decide_false, Bool.not_false]]
    k_steps
    refine Blk.out ?_
    rename Fr g4 L' _ _ => F5
    rename News g4 L' _ _ => N5
    have lt1 : told1.length ≤ 100 := by
      have := congrArg List.length etold
      simp only [List.length_append] at this
      omega
    refine kmk_add_ints F5 N5 ⟨_, (N5 (T1, W.listOf tv.toArray c1) (.tail _ (.head _))).1, rfl, _, rfl⟩ ⟨_, (N5 (W1, W.listOf wv1.toArray cw1) (.head _)).1, rfl, _, rfl⟩ itv iwv ?_ (by rw [sizeLine_eq]; omega)
    intro T3 uv h6 F6 N6 ltT iuv
    have ndT3 : T3 ∉ (W1 :: T1 :: R :: nodA c ns4) := lt_off (r := (W1, W.listOf wv1.toArray cw1) :: (T1, W.listOf tv.toArray c1) :: (R, W.listOf [].toArray cr1) :: srtL c (.ref R) po1 nf1 t51 t61 oD ns4) ltT fun p hp => hp
    have N7 : News g4 L' h6 ((T3, W.listOf uv.toArray 0) :: (W1, W.listOf wv1.toArray cw1) :: (R, W.listOf [].toArray cr1) :: srtL c (.ref R) po1 nf1 t51 t61 oD ns4) := News.sub N6 (fun p hp => by
      rcases List.mem_cons.mp hp with rfl | hp
      · exact .head _
      rcases List.mem_cons.mp hp with rfl | hp
      · exact .tail _ (.head _)
      · exact .tail _ (.tail _ (.tail _ hp)))
    clear N6 N5 F5
    dsimp only [srtL] at N7
    k_steps
    refine eval_MethodStar ?_
    k_steps
    rename_i q hq7 F7 N8 lq
    refine callWith_MS (K := hd.heap_1 w.params) (g := 178) (self := .ref c.S) (by k_is) ?_
    k_steps
    refine Blk.out ?_
    refine star_g (vs := wv1) (c := cw1) F7 N8 (N8 (W1, W.listOf wv1.toArray cw1) (.tail _ (.tail _ (.head _)))).1 (by rw [iwv.length]; omega) ?_
    intro h8 F8 N9
    clear F7 N8
    refine ⟨methP N9 (.head _) (X'.keeps F8.keep), ?_⟩
    simp only [List.nil_append]
    refine call_meth N9 (.head _) ?_
    have hcl' : ∀ x ∈ ns4, ∀ s ∈ x.sc, s ∈ ns4.map (·.k) := fun x hx s hs => by
      rw [← abs_keys, ab4]
      refine hcl x.abs ?_ s hs
      rw [← ab4]
      exact List.mem_map_of_mem hx
    have hR4 : R ∉ nodA c ns4 := (List.nodup_cons.mp (List.nodup_cons.mp (List.nodup_cons.mp nd4).2).2).1
    have ndT3' : T3 ∉ R :: nodA c ns4 := fun z => ndT3 (.tail _ (.tail _ z))
    have hB4 : Bnd 100 (ns4.map Nod.abs) := by rw [ab4]; exact hB
    refine ConXc.use (lv := 30) (dp := dp + 1) (un := un + 3) (con_donec (c := c) (R := R) (po := po1) (nf := nf1) (t5 := t51) (t6 := t61) (oD := oD) (ns := ns4) (vs := wv1) (rv := []) (cr := cr1) (ks := rs0.filter fun k => decide (k ∉ kept)) (rs := []) ok4 hR4 .nil (Nat.zero_le _) iwv h5w hB4 hcl' (fun i hi => by
      rw [← abs_keys, ab4]; exact hout i hi)) M4 F8 N9 (fun p hp => .tail _ (.tail _ (.tail _ hp))) [(T3, W.listOf uv.toArray 0)] (fun p hp => ?_) rfl (by omega) (by omega) ?_
    · obtain rfl := List.mem_singleton.mp hp
      exact ⟨.tail _ (.head _), ndT3'⟩
    intro v h9 tk9 g5 led t5' M5 F9 N10 hled hI20_; (first | rw [hIv1] at hI20_ | skip); refine hI20_ _ ?_; clear hI20_; intro nf5 t65 rv5 cr5 rs5 ns5 e21_ ab5 e22_ ok5 hR5 ir5; subst e21_; subst e22_
    have oT3 : T3 ∉ R :: nodA c ns5 := led_off (mu := (R, W.listOf [].toArray cr1) :: srtL c (.ref R) po1 nf1 t51 t61 oD ns4) (News.sub N9 (led' := [(T3, W.listOf uv.toArray 0)]) (fun p hp => by obtain rfl := List.mem_singleton.mp hp; exact .tail _ (.head _))) (fun p hp => by obtain rfl := List.mem_singleton.mp hp; exact ndT3') hled (T3, W.listOf uv.toArray 0) (.head _)
    have iK5 := IsL.turn M4 t5' iK4
    rw [← ab4, ← ab5] at dr5
    clear X' T' F8 N9
    have X' := M5.X
    have T' := M5.T
    dsimp only at dr5 ⊢
    have N11 : News g5 L' h9 ((T3, W.listOf uv.toArray 0) :: (R, W.listOf rv5.toArray cr5) :: srtL c (.ref R) po1 nf5 t51 t65 oD ns5) := News.sub N10 (fun p hp => by
      rcases List.mem_cons.mp hp with rfl | hp
      · exact List.mem_append_right _ (.head _)
      · exact List.mem_append_left _ hp)
    clear N10
    dsimp only [srtL] at N11
    k_steps
    refine Blk.out ?_
    rename Fr g5 L' _ _ => F5
    rename News g5 L' _ _ => N5
    have hin5 := dr5.keys.1
    have hlen5 := dr5.keys.2
    refine ConX.use (lv := 30) (dp := dp + 1) (un := un + 3) (con_ready (c := c) (R := R) (po := po1) (nf := nf5) (t5 := t51) (t6 := t65) (oD := oD) (ns := ns5) (rv := rv5) (cr := cr5) ok5 hR5 ir5 (Nat.le_trans hlen5 (by decide)) (fun k hk => by rw [← abs_keys]; exact hin5 k hk)) M5 F5 N5 (fun p hp => .tail _ hp) [(T3, W.listOf uv.toArray 0)] (fun p hp => ?_) rfl (by omega) (by omega) ?_
    · obtain rfl := List.mem_singleton.mp hp
      exact ⟨.head _, oT3⟩
    intro v h2 tk2 g6 led t6' M6 F2 N2 hled hI23_; (first | rw [hIv1] at hI23_ | skip); refine hI23_ _ ?_; clear hI23_; intro T po6 t56 cr6 ns6 e24_ ab6 e25_ ok6 nd6; subst e24_; subst e25_
    have oT6 : T3 ∉ ((T, tupE rv5) :: (R, W.listOf [].toArray cr6) :: srtL c (.ref R) po6 nf5 t56 t65 oD ns6).map (·.1) := led_off (mu := (R, W.listOf rv5.toArray cr5) :: srtL c (.ref R) po1 nf5 t51 t65 oD ns5) (News.sub N5 (led' := [(T3, W.listOf uv.toArray 0)]) (fun p hp => by obtain rfl := List.mem_singleton.mp hp; exact .head _)) (fun p hp => by obtain rfl := List.mem_singleton.mp hp; exact oT3) hled (T3, W.listOf uv.toArray 0) (.head _)
    have iK6 := IsL.turn M5 t6' iK5
    clear X' T' F5 N5
    have X' := M6.X
    have T' := M6.T
    dsimp only
    k_steps
    refine Blk.out ?_
    rename Fr g6 L' _ _ => F5
    rename News g6 L' _ _ => N5
    refine ConX.use (lv := 60) (dp := dp + 1) (un := un + 3) (mu := []) (con_filter_t w (x := T) (y := Kp) (xs := rs5) (ys := kept) ⟨rv5, _, (N5 _ (.head _)).1, ir5⟩ (iK6.fr F5) (Nat.le_trans hlen5 (by decide))) M6 F5 N5 (fun p hp => nomatch hp) ((T3, W.listOf uv.toArray 0) :: (R, W.listOf [].toArray cr6) :: srtL c (.ref R) po6 nf5 t56 t65 oD ns6) (fun p hp => ⟨?_, fun z => nomatch z⟩) rfl (by omega) (by omega) ?_
    · rcases List.mem_cons.mp hp with rfl | hp
      · exact List.mem_append_right _ (.head _)
      · exact List.mem_append_left _ (.tail _ hp)
    intro v h3 tk3 g7 led t7' M7 F3 N3 hled3 hI26_; (first | rw [hIv1] at hI26_ | skip); refine hI26_ _ ?_; clear hI26_; intro W7 wv7 cw7 e27_ e28_ iw7; subst e27_; subst e28_
    have ndW : (W7 :: T3 :: R :: nodA c ns6).Nodup := by
      refine List.nodup_cons.mpr ⟨fun z => ?_, List.nodup_cons.mpr ⟨fun z => oT6 (.tail _ z), (List.nodup_cons.mp nd6).2⟩⟩
      have hw := (hled3 (W7, W.listOf wv7.toArray cw7) (.head _)).resolve_left (fun z => nomatch z)
      obtain ⟨p, hp, e⟩ := List.mem_map.mp (show W7 ∈ ((T3, W.listOf uv.toArray 0) :: (R, W.listOf [].toArray cr6) :: srtL c (.ref R) po6 nf5 t56 t65 oD ns6).map (·.1) from z)
      have := (N5 p (by
        rcases List.mem_cons.mp hp with rfl | hp
        · exact List.mem_append_right _ (.head _)
        · exact List.mem_append_left _ (.tail _ hp))).1
      have e : p.1 = W7 := e
      have hw : h2.get? W7 = none := hw
      have this : h2.get? p.1 = some p.2 := this
      rw [e, hw] at this; cases this
    have iK7 := IsL.turn M6 t7' iK6
    clear X' T' F5 N5
    have X' := M7.X
    have T' := M7.T
    dsimp only
    k_steps
    rename Fr g7 L' _ _ => F5
    rename News g7 L' _ _ => N5
    dsimp only
    have N6 : News g7 L' _ ((W7, W.listOf wv7.toArray cw7) :: (T3, W.listOf uv.toArray 0) :: (R, W.listOf [].toArray cr6) :: srtL c (.ref R) po6 nf5 t56 t65 oD ns6) := News.sub N5 (fun p hp => hp)
    have hpos : 0 < (rs0.filter fun k => decide (k ∉ kept)).length := List.length_pos_iff.mpr hne
    refine ⟨told2.length, by rw [List.length_append]; omega, ?_⟩
    first | rw [hIv1]
    refine (fun _ k_ => k_ g7 _ _ _ T3 W7 uv 0 wv7 cw7 cr6 po6 nf5 t56 t65 ns6 (told1 ++ rs0.filter (fun k => decide (k ∉ kept))) (ns5.map Nod.abs) rs5 told2 rfl rfl rfl rfl rfl (((t4.trans t5').trans t6').trans t7') M7 F5 N6 ok6 ndW iuv iw7 ab6 dr5 ?_ iK7 rfl)
    rw [List.append_assoc]; exact etold
end
end
section
theorem ints_of_at : ∀ (vs : List Value) (ns : List Int), vs.length = ns.length → (∀ (j : Nat) (u : Value), vs[j]? = some u → ∃ (k : Int) (t : Tok), ns[j]? = some k ∧ u = .int k t) → IntsAre vs ns
  | [], [], _, _ => .nil
  | [], _ :: _, h, _ => by simp at h
  | _ :: _, [], h, _ => by simp at h
  | v :: r, n :: q, h, hv => by
    obtain ⟨k, t, e1, e2⟩ := hv 0 v rfl
    simp only [List.getElem?_cons_zero, Option.some.injEq] at e1
    subst e1 e2
    exact .cons _ _ (ints_of_at r q (by simpa using h) fun j u hj => hv (j + 1) u (by simpa using hj))
section
variable {w : World} {A : Around} {E : Value → Shared → Prop} {s : Shared} {h₀ : Heap} {L d : Addr} {m : Str → Option Value} {news : List (Addr × Obj)} {o : Obj} {Q : Value → Shared → Prop}
theorem list_keysI {kvs : List (Int × Value)} (hh : A.handled = none) (F : Fr h₀ L s.heap m) (N : News h₀ L s.heap news) (hp : (d, o) ∈ news) (hd : o.IsDictOf (PySem.intKind PG w) kvs) (lo : (d == sysModules) = false) (hn : kvs.length ≤ 16777216)
    (h : ∀ (B : Addr) c h' tk vs, IntsAre vs (kvs.map (·.1)) → Fr h₀ L h' m → News h₀ L h' ((B, W.listOf vs.toArray c) :: news) → (∀ q ∈ news, q.1 < B) → Q (.ref B) { s with heap := h', toks := tk }) :
    wpAny (model PG w) A (call (.type "list") [.ref d]) Q E s := by
  obtain ⟨ep, hat⟩ := (kda_dict N hp hd).dictAt
  refine kdl_N (kdl_dict (knd := PySem.intKind PG w) (kvs := kvs) (ep := ep) lo) hh F N hat (kdl_size hn) fun B c h' tk vs F' N' l1 hl hv => ?_
  refine h B c h' tk vs (ints_of_at _ _ (by rw [hl, List.length_map]) fun j u hu => ?_) F' N' l1
  obtain ⟨k, x, hx, hk⟩ := hv j u hu
  obtain ⟨t, rfl⟩ := Value.isInt_shape hk
  exact ⟨k, t, by rw [List.getElem?_map, hx]; rfl, rfl⟩
theorem rev_N {D : Addr} {g : Obj → List (Addr × Obj)} {us : List Value} {n : Nat} (F : Fr h₀ L s.heap m) (N : News h₀ L s.heap news) (U : UpdF D (W.listOf us.toArray n) news g) (hz : us.length ≤ 16000)
    (h : ∀ h' n', Fr h₀ L h' m → News h₀ L h' (g (W.listOf us.reverse.toArray n')) → Q .none { s with heap := h' }) : wpAny (model PG w) A (call (.builtin "list.reverse") [.ref D]) Q E s := by
  obtain ⟨pre, post, rfl, hg, h1, h2⟩ := U.split
  refine kl_reverse (l := us.reverse) F N (by simp) (Upd.of h1 h2) ?_ ?_
  · simp [sizeLine_eq]; omega
  · intro h' F' N'
    exact h h' _ F' (hg _ ▸ N')
end
noncomputable def rs0A (as : AS) : List Int := (as.filter fun e => decide (e.2.1 = 0)).map (·.1)
noncomputable def ReadOk (as0 : AS) (k : Int) (free rest : List Int) : Prop := ∃ (ρ : Int → Nat) (as1 as2 as3 : AS) (rs2 : List Int), as0.length ≤ 100 ∧ (as0.map fun e => e.2.2.length + 1).sum ≤ 1000 ∧ (∀ e ∈ as0, ρ e.1 < 100) ∧ (∀ e ∈ as0, ∀ s ∈ e.2.2, s ∈ as0.map (·.1) ∧ ρ e.1 < ρ s) ∧
  Drain [k] as0 (rs0A as0) free as1 ∧ Bnd 100 as1 ∧ (∀ e ∈ as1, ∀ s ∈ e.2.2, s ∈ as1.map (·.1)) ∧ k ∈ as1.map (·.1) ∧ npOf as1 k = -1 ∧ doneA (as1, []) [k] = (as2, rs2) ∧ Drain [] as2 rs2 rest as3 ∧ free.length ≤ 50 ∧ rest.length ≤ 50
end
section
theorem IsL.ground {g h : Heap} {mu : List (Addr × Obj)} {a : Addr} {xs : List Int} (sg : ∀ b o, b ∉ mu.map (·.1) → h.get? b = some o → g.get? b = some o) (x : IsL h a xs) (n : a ∉ mu.map (·.1)) : IsL g a xs := let ⟨vs, c, e, i⟩ := x; ⟨vs, c, sg _ _ n e, i⟩
theorem ne_dict {w : World} {h : Heap} {G a : Addr} {oG : Obj} {kvs : List (Int × Value)} {xs : List Int} (e : h.get? G = some oG) (hG : oG.IsDictOf (intKind PG w) kvs) (x : IsL h a xs) : a ≠ G := fun z => by
  obtain ⟨vs, c, e1, _⟩ := x
  obtain ⟨es, q0, q1, q2, _⟩ := hG
  rw [z, e] at e1
  have d := congrArg Obj.data (Option.some.inj e1)
  rw [q2] at d
  cases d
theorem abs_rs0 (ns : List Nod) : (ns.filter fun x => decide (x.np = 0)).map (·.k) = rs0A (ns.map Nod.abs) := by
  simp only [rs0A, List.filter_map, List.map_map]
  rfl
theorem abs_wt (ns : List Nod) : wtS (fun _ => false) ns = ((ns.map Nod.abs).map fun e => e.2.2.length + 1).sum := by
  simp only [wtS, List.map_map]
  rfl
section
local macro_rules | `(tactic| walk_at $s) => zd ["binaryOp Add ref ref", "call builtin:list.reverse", "call type:list"] [] s
local macro_rules | `(tactic| walk_at $s) => zd [] [] s
theorem con_read {w : World} {h : Heap} {G : Addr} {oG : Obj} {nd : NeedL} {k : Int} {kt : Tok} {free rest : List Int} (hG : oG.IsDictOf (intKind PG w) (kvsOf nd)) (hnd : ∀ e ∈ nd, IsL h e.2.2 e.2.1 ∧ e.2.1.length ≤ 5) (hz : nd.length ≤ 50) (loG : (G == sysModules) = false)
    (rk : ReadOk (nd.foldl (fun as e => addA as e.1 e.2.1) []) k free rest) :
    ConX w 220 200 [(G, oG)] [.ref G, .int k kt] (fun v led h' => ∀ G_ : Prop, (∀ T ct Fd vf cf Rw vr cr, (v = .ref T) → (led = [(T, tupO [.ref Fd, .ref Rw] ct), (Fd, W.listOf vf.toArray cf), (Rw, W.listOf vr.toArray cr), (G, oG)]) → (IntsAre vf ((nd.map (·.1)).filter fun j => decide (j ∉ free ++ [k]))) → (IntsAre vr (free ++ [k] ++ rest).reverse) → (Fd ≠ Rw) → G_) → G_) h := by
  revert hG hnd hz loG rk
  revert w h G oG nd k kt free rest
  walk_at "9"; (iterate 3 (generalize zf w_ = kt; generalize zs w_ = v_; clear w_; generalize zf v_ = kt; generalize zs v_ = w_; clear v_)); generalize zf w_ = kt; generalize zs w_ = v_; clear w_; generalize zf v_ = free, zs v_ = rest; clear v_; rename_i w h G oG nd k
  intro hG hnd hz loG rk
  refine ConX.hk ?_; generalize wX _ _ _ _ _ _ _ = c_; delta ConXat; generalize c_.mean = mean, c_.mg = mg, c_.mb = mb, c_.dp = dp, c_.un = un, c_.gd = gd, c_.cn = cn, c_.cs = cs, c_.a = a, c_.ccd = ccd, c_.cl = cl, c_.outer = outer, c_.A₀ = A₀, c_.base = base, c_.h₀ = h₀, c_.L = L, c_.m = m, c_.s = s, c_.Q = Q, c_.E = E
  intro hh M F N hk hdp hun hret
  subst hh
  have X := M.X
  (refine wpAny_call ?_; k_dflt (refine' enterX ?k1 ?k2 ?k4 ?kK ?k6 ?k7 ?k8 ?k9 ?kB ?_ ?c2 ?c3 ?c4 ?c5; (case kK => assumption); (case k1 => assumption); (case k2 => assumption); (case k4 => assumption); (case k6 => k_is); (case k7 => k_is); (case k8 => omega); (case k9 => first | exact BindsTo.of_eq rfl | exact binds_K (by k_in) rfl (by k_is) rfl rfl rfl); (case c5 => decide); (case kB => exact locs rfl); (case c2 => exact rfl); (case c3 => exact rfl); (case c4 => exact rfl); k_whole))
  walk_at "3"; generalize zf w_ = g, zf (zs w_) = L', zs (zs w_) = h₁
  intro sg gs eL lt F' N' M'
  (try dsimp only)
  refine wpAny_noRaise ?_
  have B' := M'.B
  have X' := M'.X
  have T' := M'.T
  have lG : G < L' := lt _ (.head _)
  clear lt
  have eG := (N _ (.head _)).1
  have ilG : ∀ e ∈ nd, IsL g e.2.2 e.2.1 ∧ e.2.1.length ≤ 5 := fun e he => ⟨IsL.ground sg (hnd e he).1 (fun z => ne_dict eG hG (hnd e he).1 (List.mem_singleton.mp z)), (hnd e he).2⟩
  k_steps
  refine Blk.out ?_
  refine ConX.use (lv := 110) (dp := dp + 1) (un := un + 3) (con_new (G := G) (oG := oG) (nd := nd) hG (fun e he => ⟨(ilG e he).1.fr F', (ilG e he).2⟩) hz loG) M' F' N' (fun p hp => hp) [] (fun p hp => nomatch hp) rfl (by omega) (by omega) ?_
  intro v h2 tk2 g2 led t2 M2 F2 N2 hled hI29_; refine hI29_ _ ?_; clear hI29_; intro c oD ns t5 t6 e30_ ab e31_ ok ndG; subst e30_; subst e31_
  refine exE4 rk fun ρ as1 as2 as3 h85_1 => ?_
  refine exE1 h85_1 fun rs2 h85_2 => ?_
  have b1 := h85_2.1
  have b2 := h85_2.2.1
  have b3 := h85_2.2.2.1
  have b4 := h85_2.2.2.2.1
  have dr1 := h85_2.2.2.2.2.1
  have b5 := h85_2.2.2.2.2.2.1
  have b6 := h85_2.2.2.2.2.2.2.1
  have b7 := h85_2.2.2.2.2.2.2.2.1
  have b8 := h85_2.2.2.2.2.2.2.2.2.1
  have ed := h85_2.2.2.2.2.2.2.2.2.2.1
  have dr2 := h85_2.2.2.2.2.2.2.2.2.2.2.1
  have b9 := h85_2.2.2.2.2.2.2.2.2.2.2.2.1
  have b10 := h85_2.2.2.2.2.2.2.2.2.2.2.2.2
  rw [← ab] at b1 b2 b3 b4 dr1
  have N2' : News g2 L' h2 ((G, oG) :: srtL c .none 0 0 t5 t6 oD ns) := News.sub N2 (fun p hp => List.mem_append_left _ hp)
  clear X' T' B' N' F' N2
  have X' := M2.X
  have T' := M2.T
  dsimp only
  k_steps
  refine Blk.out ?_
  rename Fr g2 L' _ _ => F5
  rename News g2 L' _ _ => N5
  rw [List.length_map] at b1
  rw [← abs_wt] at b2
  refine ConX.use (lv := 80) (dp := dp + 1) (un := un + 3) (con_prep (c := c) (po := 0) (nf := 0) (t5 := t5) (t6 := t6) (oD := oD) (ns := ns) (ρ := ρ) ok b1 b2 (fun x hx => b3 x.abs (List.mem_map_of_mem hx)) (fun x hx s hs => by
    have := b4 x.abs (List.mem_map_of_mem hx) s hs
    rw [abs_keys] at this
    exact this)) M2 F5 N5 (fun p hp => .tail _ hp) [(G, oG)] (fun p hp => ?_) rfl (by omega) (by omega) ?_
  · obtain rfl := List.mem_singleton.mp hp
    exact ⟨.head _, ndG⟩
  intro v h3 tk3 g3 led t3 M3 F3 N3 hled3 hI32_; refine hI32_ _ ?_; clear hI32_; intro R rv cr e33_ e34_ hR ir; subst e33_; subst e34_
  rw [abs_rs0] at ir
  have oG3 : G ∉ R :: nodA c ns := led_off (mu := srtL c .none 0 0 t5 t6 oD ns) (News.sub N5 (led' := [(G, oG)]) (fun p hp => by obtain rfl := List.mem_singleton.mp hp; exact .head _)) (fun p hp => by obtain rfl := List.mem_singleton.mp hp; exact ndG) hled3 (G, oG) (.head _)
  have N3' : News g3 L' h3 ((G, oG) :: (R, W.listOf rv.toArray cr) :: srtL c (.ref R) 0 0 t5 t6 oD ns) := News.sub N3 (fun p hp => by
    rcases List.mem_cons.mp hp with rfl | hp
    · exact List.mem_append_right _ (.head _)
    · exact List.mem_append_left _ hp)
  clear X' T' N3 N5 F5
  have X' := M3.X
  have T' := M3.T
  dsimp only
  dsimp only [srtL] at N3'
  k_steps
  refine Blk.out ?_
  rename Fr g3 L' _ _ => F5
  rename News g3 L' _ _ => N5
  rename_i Kp h4 l1
  have ndK : Kp ∉ G :: R :: nodA c ns := AllLt.off (rest := (G, oG) :: (R, W.listOf rv.toArray cr) :: srtL c (.ref R) 0 0 t5 t6 oD ns) l1
  refine ConX.use (lv := 130) (dp := dp + 1) (un := un + 3) (con_drained (c := c) (R := R) (Kp := Kp) (po := 0) (nf := 0) (t5 := t5) (t6 := t6) (oD := oD) (ns := ns) (rv := rv) (cr := cr) (kept := [k]) ok hR ir dr1 (Nat.le_trans b9 (by decide)) ⟨[.int k kt], _, (N5 _ (.head _)).1, .cons _ _ .nil⟩ (fun z => ndK (.tail _ z))) M3 F5 N5 (fun p hp => .tail _ (.tail _ hp)) [(G, oG)] (fun p hp => ?_) rfl (by omega) (by omega) ?_
  · obtain rfl := List.mem_singleton.mp hp
    exact ⟨.tail _ (.head _), oG3⟩
  intro v h5 tk5 g4 led t4 M4 F4 N4 hled4 hI35_; refine hI35_ _ ?_; clear hI35_; intro Fr1 fv cf po4 nf4 t54 t64 cr4 ns4 e36_ ifv ab4 e37_ ok4 nd4; subst e36_; subst e37_
  have oG4 : G ∉ Fr1 :: R :: nodA c ns4 := led_off (mu := (R, W.listOf rv.toArray cr) :: srtL c (.ref R) 0 0 t5 t6 oD ns) (News.sub N5 (led' := [(G, oG)]) (fun p hp => by obtain rfl := List.mem_singleton.mp hp; exact .tail _ (.head _))) (fun p hp => by obtain rfl := List.mem_singleton.mp hp; exact oG3) hled4 (G, oG) (.head _)
  have N4' : News g4 L' h5 ((G, oG) :: (Fr1, W.listOf fv.toArray cf) :: (R, W.listOf [].toArray cr4) :: srtL c (.ref R) po4 nf4 t54 t64 oD ns4) := News.sub N4 (fun p hp => by
    rcases List.mem_cons.mp hp with rfl | hp
    · exact List.mem_append_right _ (.head _)
    · exact List.mem_append_left _ hp)
  clear X' T' N4 N5 F5 l1
  have X' := M4.X
  have T' := M4.T
  dsimp only
  dsimp only [srtL] at N4'
  k_steps
  refine Blk.out ?_
  rename Fr g4 L' _ _ => F5
  rename News g4 L' _ _ => N5
  have hR4 : R ∉ nodA c ns4 := (List.nodup_cons.mp (List.nodup_cons.mp nd4).2).1
  have nF4 : Fr1 ∉ R :: nodA c ns4 := (List.nodup_cons.mp nd4).1
  have hcl4 : ∀ x ∈ ns4, ∀ s ∈ x.sc, s ∈ ns4.map (·.k) := fun x hx s hs => by
    rw [← abs_keys, ab4]
    exact b6 x.abs (by rw [← ab4]; exact List.mem_map_of_mem hx) s hs
  have hB4 : Bnd 100 (ns4.map Nod.abs) := by rw [ab4]; exact b5
  refine ConX.use (lv := 30) (dp := dp + 1) (un := un + 3) (con_donec (c := c) (R := R) (po := po4) (nf := nf4) (t5 := t54) (t6 := t64) (oD := oD) (ns := ns4) (vs := [.int k kt]) (rv := []) (cr := cr4) (ks := [k]) (rs := []) ok4 hR4 .nil (Nat.zero_le _) (.cons _ _ .nil) (Nat.le_of_ble_eq_true rfl) hB4 hcl4 (fun i hi => by
    have : i = 0 := by simpa using hi
    subst this
    rw [← abs_keys, ab4]
    exact ⟨b7, b8⟩)).con M4 F5 N5 (fun p hp => .tail _ (.tail _ hp)) [(G, oG), (Fr1, W.listOf fv.toArray cf)] (fun p hp => ?_) rfl (by omega) (by omega) ?_
  · simp only [List.mem_cons, List.not_mem_nil, or_false] at hp
    rcases hp with rfl | rfl
    · exact ⟨.head _, fun z => oG4 (.tail _ z)⟩
    · exact ⟨.tail _ (.head _), nF4⟩
  intro v h6 tk6 g5 led t5' M5 F6 N6 hled5 hI38_; refine hI38_ _ ?_; clear hI38_; intro nf5 t65 rv5 cr5 rs5 ns5 e39_ ab5 e40_ ok5 hR5 ir5; subst e39_; subst e40_
  have off5 := led_off (mu := (R, W.listOf [].toArray cr4) :: srtL c (.ref R) po4 nf4 t54 t64 oD ns4) (News.sub N5 (led' := [(G, oG), (Fr1, W.listOf fv.toArray cf)]) (fun p hp => by
    simp only [List.mem_cons, List.not_mem_nil, or_false] at hp
    rcases hp with rfl | rfl
    · exact .head _
    · exact .tail _ (.head _))) (fun p hp => by
    simp only [List.mem_cons, List.not_mem_nil, or_false] at hp
    rcases hp with rfl | rfl
    · exact fun z => oG4 (.tail _ z)
    · exact nF4) hled5
  have oG5 : G ∉ R :: nodA c ns5 := off5 _ (.head _)
  have oF5 : Fr1 ∉ R :: nodA c ns5 := off5 _ (.tail _ (.head _))
  have nGF : G ≠ Fr1 := fun z => oG4 (z ▸ .head _)
  rw [ab4, ed] at ab5
  have h169_ := Prod.mk.inj ab5
  have e1 := h169_.1
  have e2 := h169_.2
  subst e2
  rw [← e1] at dr2
  have N6' : News g5 L' h6 ((G, oG) :: (Fr1, W.listOf fv.toArray cf) :: (R, W.listOf rv5.toArray cr5) :: srtL c (.ref R) po4 nf5 t54 t65 oD ns5) := News.sub N6 (fun p hp => by
    rcases List.mem_cons.mp hp with rfl | hp
    · exact List.mem_append_right _ (.head _)
    rcases List.mem_cons.mp hp with rfl | hp
    · exact List.mem_append_right _ (.tail _ (.head _))
    · exact List.mem_append_left _ hp)
  clear X' T' N6 N5 F5 off5
  have X' := M5.X
  have T' := M5.T
  dsimp only
  dsimp only [srtL] at N6'
  k_steps
  refine Blk.out ?_
  rename Fr g5 L' _ _ => F5
  rename News g5 L' _ _ => N5
  rename_i B1 h7 l1
  refine kmk_add_ints F5 N5 (vs := fv) (ns := free) (ws := [.int k kt]) (ms := [k]) ⟨_, (N5 (Fr1, W.listOf fv.toArray cf) (.tail _ (.tail _ (.head _)))).1, rfl, _, rfl⟩ ⟨_, (N5 (B1, _) (.head _)).1, rfl, _, rfl⟩ ifv (.cons _ _ .nil) ?_ (by rw [sizeLine_eq]; simp only [List.length_cons, List.length_nil]; omega)
  intro X1 xv h8 F8 N8 ltX ixv
  have N9 : News g5 L' h8 ((X1, W.listOf xv.toArray 0) :: (G, oG) :: (Fr1, W.listOf fv.toArray cf) :: (R, W.listOf rv5.toArray cr5) :: srtL c (.ref R) po4 nf5 t54 t65 oD ns5) := News.sub N8 (fun p hp => by
    rcases List.mem_cons.mp hp with rfl | hp
    · exact .head _
    · exact .tail _ (.tail _ hp))
  have ndX : X1 ∉ G :: Fr1 :: R :: nodA c ns5 := lt_off (r := (G, oG) :: (Fr1, W.listOf fv.toArray cf) :: (R, W.listOf rv5.toArray cr5) :: srtL c (.ref R) po4 nf5 t54 t65 oD ns5) ltX fun p hp => .tail _ hp
  clear N8 N5 F5 l1 ltX
  dsimp only [srtL] at N9
  dsimp only
  k_steps
  refine Blk.out ?_
  rename Fr g5 L' _ _ => F5
  rename News g5 L' _ _ => N5
  rename_i K2 h9 l1
  have ndK2 : K2 ∉ X1 :: G :: Fr1 :: R :: nodA c ns5 := AllLt.off (rest := (X1, W.listOf xv.toArray 0) :: (G, oG) :: (Fr1, W.listOf fv.toArray cf) :: (R, W.listOf rv5.toArray cr5) :: srtL c (.ref R) po4 nf5 t54 t65 oD ns5) l1
  refine ConX.use (lv := 130) (dp := dp + 1) (un := un + 3) (con_drained (c := c) (R := R) (Kp := K2) (po := po4) (nf := nf5) (t5 := t54) (t6 := t65) (oD := oD) (ns := ns5) (rv := rv5) (cr := cr5) (kept := []) ok5 hR5 ir5 dr2 (Nat.le_trans b10 (by decide)) ⟨[], _, (N5 _ (.head _)).1, .nil⟩ (fun z => ndK2 (.tail _ (.tail _ (.tail _ z))))) M5 F5 N5 (fun p hp => .tail _ (.tail _ (.tail _ (.tail _ hp)))) [(X1, W.listOf xv.toArray 0), (G, oG), (Fr1, W.listOf fv.toArray cf)] (fun p hp => ?_) rfl (by omega) (by omega) ?_
  · simp only [List.mem_cons, List.not_mem_nil, or_false] at hp
    rcases hp with rfl | rfl | rfl
    · exact ⟨.tail _ (.head _), fun z => ndX (.tail _ (.tail _ z))⟩
    · exact ⟨.tail _ (.tail _ (.head _)), oG5⟩
    · exact ⟨.tail _ (.tail _ (.tail _ (.head _))), oF5⟩
  intro v h10 tk10 g6 led t6' M6 F6 N6 hled6 hI41_; refine hI41_ _ ?_; clear hI41_; intro T6 tv6 ct6 po6 nf6 t56 t66 cr6 ns6 e42_ itv6 ab6 e43_ ok6 nd6; subst e42_; subst e43_
  have off6 := led_off (mu := (R, W.listOf rv5.toArray cr5) :: srtL c (.ref R) po4 nf5 t54 t65 oD ns5) (News.sub N5 (led' := [(X1, W.listOf xv.toArray 0), (G, oG), (Fr1, W.listOf fv.toArray cf)]) (fun p hp => by
    simp only [List.mem_cons, List.not_mem_nil, or_false] at hp
    rcases hp with rfl | rfl | rfl
    · exact .tail _ (.head _)
    · exact .tail _ (.tail _ (.head _))
    · exact .tail _ (.tail _ (.tail _ (.head _))))) (fun p hp => by
    simp only [List.mem_cons, List.not_mem_nil, or_false] at hp
    rcases hp with rfl | rfl | rfl
    · exact fun z => ndX (.tail _ (.tail _ z))
    · exact oG5
    · exact oF5) hled6
  have oX6 : X1 ≠ T6 := fun z => off6 _ (.head _) (z ▸ .head _)
  have oG6 : G ≠ T6 := fun z => off6 _ (.tail _ (.head _)) (z ▸ .head _)
  have oF6 : Fr1 ≠ T6 := fun z => off6 _ (.tail _ (.tail _ (.head _))) (z ▸ .head _)
  have oXG : X1 ≠ G := fun z => ndX (z ▸ .head _)
  have oXF : X1 ≠ Fr1 := fun z => ndX (z ▸ .tail _ (.head _))
  have N6' : News g6 L' h10 ((T6, W.listOf tv6.toArray ct6) :: (X1, W.listOf xv.toArray 0) :: (G, oG) :: (Fr1, W.listOf fv.toArray cf) :: []) := News.sub N6 (fun p hp => by
    simp only [List.mem_cons, List.not_mem_nil, or_false] at hp
    rcases hp with rfl | rfl | rfl | rfl
    · exact List.mem_append_left _ (.head _)
    · exact List.mem_append_right _ (.head _)
    · exact List.mem_append_right _ (.tail _ (.head _))
    · exact List.mem_append_right _ (.tail _ (.tail _ (.head _))))
  clear X' T' N6 N5 F5 off6 hled6 l1 ndK2 ndX nd6 ok6 ok5 hled5 hR5 oG5 oF5
  have X' := M6.X
  have T' := M6.T
  dsimp only
  refine kmk_add_ints F6 N6' (vs := xv) (ns := free ++ [k]) (ws := tv6) (ms := rest) ⟨_, (N6' (X1, W.listOf xv.toArray 0) (.tail _ (.head _))).1, rfl, _, rfl⟩ ⟨_, (N6' (T6, _) (.head _)).1, rfl, _, rfl⟩ ixv itv6 ?_ (by rw [sizeLine_eq]; simp only [List.length_cons, List.length_nil, List.length_append]; omega)
  intro R1 wv h11 F7 N7 ltR iwv
  have N8 : News g6 L' h11 ((R1, W.listOf wv.toArray 0) :: (G, oG) :: (Fr1, W.listOf fv.toArray cf) :: []) := News.sub N7 (fun p hp => by
    rcases List.mem_cons.mp hp with rfl | hp
    · exact .head _
    · exact .tail _ (.tail _ (.tail _ hp)))
  have nRG : R1 ≠ G := Nat.ne_of_gt (ltR (G, oG) (.tail _ (.tail _ (.head _))))
  have nRF : R1 ≠ Fr1 := Nat.ne_of_gt (ltR (Fr1, W.listOf fv.toArray cf) (.tail _ (.tail _ (.tail _ (.head _)))))
  clear N7 N6' F6 ltR
  dsimp only
  k_steps
  refine Blk.out ?_
  rename Fr g6 L' _ _ => F5
  rename News g6 L' _ _ => N5
  dsimp only
  have wl : wv.length ≤ 16000 := by rw [iwv.length]; simp only [List.length_append, List.length_cons, List.length_nil]; omega
  refine rev_N F5 N5 (by k_updF) wl ?_
  intro h12 n12 F6 N6
  have iwr : IntsAre wv.reverse (free ++ [k] ++ rest).reverse := iwv.reverse
  clear N5 F5 iwv
  try dsimp only at N6
  k_steps
  refine Blk.out ?_
  rename Fr g6 L' _ _ => F5
  rename News g6 L' _ _ => N5
  refine list_keysI (d := G) (o := oG) (kvs := kvsOf nd) rfl F5 N5 (.tail _ (.head _)) hG loG (by simp only [kvsOf, List.length_map]; omega) ?_
  intro K1 cK h13 tk13 kv ikv F6 N6 ltK
  have ekv : (kvsOf nd).map (·.1) = nd.map (·.1) := by simp [kvsOf, Function.comp_def]
  rw [ekv] at ikv
  k_lt ltK
  have lk1 := ltK.1
  have lk2 := ltK.2.1
  have lk3 := ltK.2.2
  have nKR : K1 ≠ R1 := Nat.ne_of_gt lk1
  have nKG : K1 ≠ G := Nat.ne_of_gt lk2
  have nKF : K1 ≠ Fr1 := Nat.ne_of_gt lk3
  clear N5 F5 lk1 lk2 lk3
  dsimp only
  k_steps
  refine Blk.out ?_
  rename Fr g6 L' _ _ => F5
  rename News g6 L' _ _ => N5
  rename_i B2 h14 l1
  refine kmk_add_ints F5 N5 (vs := fv) (ns := free) (ws := [.int k kt]) (ms := [k]) ⟨_, (N5 (Fr1, W.listOf fv.toArray cf) (.tail _ (.tail _ (.tail _ (.tail _ (.head _)))))).1, rfl, _, rfl⟩ ⟨_, (N5 (B2, _) (.head _)).1, rfl, _, rfl⟩ ifv (.cons _ _ .nil) ?_ (by rw [sizeLine_eq]; simp only [List.length_cons, List.length_nil]; omega)
  intro Y1 yv h15 F6 N6 ltY iyv
  clear N5 F5 l1 ltY
  dsimp only
  k_steps
  refine Blk.out ?_
  rename Fr g6 L' _ _ => F5
  rename News g6 L' _ _ => N5
  refine ConX.use (lv := 60) (dp := dp + 1) (un := un + 3) (mu := []) (con_filter_l w (x := K1) (y := Y1) (xs := nd.map (·.1)) (ys := free ++ [k]) ⟨kv, _, (N5 (K1, _) (.tail _ (.tail _ (.head _)))).1, ikv⟩ ⟨yv, _, (N5 (Y1, _) (.head _)).1, iyv⟩ (by rw [List.length_map]; omega)) M6 F5 N5 (fun p hp => nomatch hp) [(R1, W.listOf wv.reverse.toArray n12), (G, oG)] (fun p hp => ⟨?_, fun z => nomatch z⟩) rfl (by omega) (by omega) ?_
  · simp only [List.mem_cons, List.not_mem_nil, or_false] at hp
    rcases hp with rfl | rfl
    · exact .tail _ (.tail _ (.tail _ (.head _)))
    · exact .tail _ (.tail _ (.tail _ (.tail _ (.head _))))
  intro v h16 tk16 g7 led t7' M7 F7 N7 hled7 hI44_; refine hI44_ _ ?_; clear hI44_; intro Fd vf cf7 e45_ e46_ ivf; subst e45_; subst e46_
  have nFR : Fd ≠ R1 := fun z => by
    have e1 := (hled7 (Fd, W.listOf vf.toArray cf7) (.head _)).resolve_left (fun z => nomatch z)
    have e2 := (N5 (R1, W.listOf wv.reverse.toArray n12) (.tail _ (.tail _ (.tail _ (.head _))))).1
    dsimp only at e1 e2
    rw [z, e2] at e1
    cases e1
  clear X' T' F5
  have X' := M7.X
  have T' := M7.T
  dsimp only
  have N8 : News g7 L' h16 ((Fd, W.listOf vf.toArray cf7) :: (R1, W.listOf wv.reverse.toArray n12) :: (G, oG) :: []) := News.sub N7 (fun p hp => hp)
  clear N7 N5
  k_steps
  rename Fr g7 L' _ _ => F8
  rename News g7 L' _ _ => N9
  obtain ⟨EV, hl⟩ := exitX M F N sg gs ((((((t2.trans t3).trans t4).trans t5').trans t6').trans t7') : KtsTurn (L :: fsOf outer) g g7) F8 N9
  exact hret _ _ _ _ EV hl (fun _ k_ => k_ _ _ Fd vf cf7 R1 wv.reverse n12 rfl rfl ivf iwr nFR)
end
end
section
structure Rd where
  k : Int
  F : Addr
  vf : List Value
  cf : Nat
  found : List Int
  R : Addr
  vr : List Value
  cr : Nat
  row : List Int
noncomputable def Rd.ents (x : Rd) : List (Addr × Obj) := [(x.F, W.listOf x.vf.toArray x.cf), (x.R, W.listOf x.vr.toArray x.cr)]
noncomputable def rdEnts (rs : List Rd) : List (Addr × Obj) := rs.flatMap Rd.ents
noncomputable def Rd.abs (x : Rd) : Int × List Int × List Int := (x.k, x.found, x.row)
noncomputable def rdKvs (rs : List Rd) : List (Int × Value) := rs.map fun x => (x.k, .ref x.F)
noncomputable def rdRows (rs : List Rd) : List Value := rs.map fun x => .ref x.R
theorem rdEnts_app (a b : List Rd) : rdEnts (a ++ b) = rdEnts a ++ rdEnts b := by simp [rdEnts]
theorem rdKvs_app (a b : List Rd) : rdKvs (a ++ b) = rdKvs a ++ rdKvs b := by simp [rdKvs]
theorem rdRows_app (a b : List Rd) : rdRows (a ++ b) = rdRows a ++ rdRows b := by simp [rdRows]
theorem valueAt_rd {rds : List Rd} {k : Int} (h : ∀ x ∈ rds, x.k ≠ k) : valueAt (rdKvs rds) k = none := by
  simp only [valueAt, rdKvs, List.find?_map, Option.map_map, Option.map_eq_none_iff, List.find?_eq_none]
  intro x hx
  simp only [Function.comp, decide_eq_true_eq]
  exact h x hx
theorem fresh_off {g h : Heap} {L X : Addr} {rest : List (Addr × Obj)} (N : News g L h rest) (e : h.get? X = none) : X ∉ rest.map (·.1) := fun z => by
  obtain ⟨p, hp, e'⟩ := List.mem_map.mp z
  have := (N p hp).1
  rw [show p.1 = X from e', e] at this; cases this
theorem ne_data {g h : Heap} {L a b : Addr} {oa ob : Obj} {l : List (Addr × Obj)} (N : News g L h l) (ha : (a, oa) ∈ l) (hb : (b, ob) ∈ l) (n : oa ≠ ob) : a ≠ b := fun z => by
  have e1 := (N _ ha).1
  have e2 := (N _ hb).1
  dsimp only at e1 e2
  rw [z, e2] at e1
  exact n (Option.some.inj e1).symm
theorem list_ne_dict {w : World} {vs : List Value} {c : Nat} {oG : Obj} {kvs : List (Int × Value)} (hG : oG.IsDictOf (intKind PG w) kvs) : W.listOf vs.toArray c ≠ oG := fun z => by
  obtain ⟨es, q0, q1, q2, _⟩ := hG
  have d := congrArg Obj.data z
  rw [q2] at d
  cases d
theorem tup_ne_dict {w : World} {vs : List Value} {c : Nat} {oG : Obj} {kvs : List (Int × Value)} (hG : oG.IsDictOf (intKind PG w) kvs) : tupO vs c ≠ oG := fun z => by
  obtain ⟨es, q0, q1, q2, _⟩ := hG
  have d := congrArg Obj.data z
  rw [q2] at d
  cases d
theorem tup_ne_list {vs us : List Value} {c d : Nat} : tupO vs c ≠ W.listOf us.toArray d := fun z => by
  have d := congrArg Obj.cls z
  simp only [tupO, W.listOf, Value.type.injEq] at d
  exact absurd d (by decide)
noncomputable def RdOk (rs : List Rd) : Prop := ∀ x ∈ rs, IntsAre x.vf x.found ∧ IntsAre x.vr x.row
section
local macro_rules | `(tactic| walk_at $s) => zd ["exec For Name Name cons nil", "exec For Name Name cons cons"] [] s
theorem con_all_read {w : World} {h : Heap} {G : Addr} {oG : Obj} {nd : NeedL} {free rest : Int → List Int} (hG : oG.IsDictOf (intKind PG w) (kvsOf nd)) (hnd : ∀ e ∈ nd, IsL h e.2.2 e.2.1 ∧ e.2.1.length ≤ 5) (hz : nd.length ≤ 50) (loG : (G == sysModules) = false)
    (rk : ∀ e ∈ nd, ReadOk (nd.foldl (fun as e => addA as e.1 e.2.1) []) e.1 (free e.1) (rest e.1)) :
    ConX w 227 300 [(G, oG)] [.ref G] (fun v led h' => ∀ G_ : Prop, (∀ T ct Ab oA Rs cR rds, (v = .ref T) → (led = (T, tupO [.ref Ab, .ref Rs] ct) :: (Ab, oA) :: (Rs, W.listOf (rdRows rds).toArray cR) :: (G, oG) :: rdEnts rds) → (oA.IsDictOf (intKind PG w) (rdKvs rds)) → (RdOk rds) → ((Ab == sysModules) = false) → ((T :: Ab :: Rs :: G :: (rdEnts rds).map (·.1)).Nodup) → (rds.map Rd.abs = nd.map fun e => (e.1, (nd.map (·.1)).filter (fun j => decide (j ∉ free e.1 ++ [e.1])), (free e.1 ++ [e.1] ++ rest e.1).reverse)) → G_) → G_) h := by
  revert hG hnd hz loG rk
  revert w h G oG nd free rest
  walk_at "7"; (iterate 2 (generalize zf w_ = nd; generalize zs w_ = v_; clear w_; generalize zf v_ = nd; generalize zs v_ = w_; clear v_)); generalize zf w_ = nd; generalize zs w_ = v_; clear w_; generalize zf v_ = free, zs v_ = rest; clear v_; rename_i w h G oG
  intro hG hnd hz loG rk
  refine ConX.hk ?_; generalize wX _ _ _ _ _ _ _ = c_; delta ConXat; generalize c_.mean = mean, c_.mg = mg, c_.mb = mb, c_.dp = dp, c_.un = un, c_.gd = gd, c_.cn = cn, c_.cs = cs, c_.a = a, c_.ccd = ccd, c_.cl = cl, c_.outer = outer, c_.A₀ = A₀, c_.base = base, c_.h₀ = h₀, c_.L = L, c_.m = m, c_.s = s, c_.Q = Q, c_.E = E
  intro hh M F N hk hdp hun hret
  subst hh
  have X := M.X
  (refine wpAny_call ?_; k_dflt (refine' enterX ?k1 ?k2 ?k4 ?kK ?k6 ?k7 ?k8 ?k9 ?kB ?_ ?c2 ?c3 ?c4 ?c5; (case kK => assumption); (case k1 => assumption); (case k2 => assumption); (case k4 => assumption); (case k6 => k_is); (case k7 => k_is); (case k8 => omega); (case k9 => first | exact BindsTo.of_eq rfl | exact binds_K (by k_in) rfl (by k_is) rfl rfl rfl); (case c5 => decide); (case kB => exact locs rfl); (case c2 => exact rfl); (case c3 => exact rfl); (case c4 => exact rfl); k_whole))
  walk_at "3"; generalize zf w_ = g, zf (zs w_) = L', zs (zs w_) = h₁
  intro sg gs eL lt F' N' M'
  (try dsimp only)
  refine wpAny_noRaise ?_
  have B' := M'.B
  have X' := M'.X
  have T' := M'.T
  have lG : G < L' := lt _ (.head _)
  clear lt
  have eG := (N _ (.head _)).1
  have ilG : ∀ e ∈ nd, IsL g e.2.2 e.2.1 ∧ e.2.1.length ≤ 5 := fun e he => ⟨IsL.ground sg (hnd e he).1 (fun z => ne_dict eG hG (hnd e he).1 (List.mem_singleton.mp z)), (hnd e he).2⟩
  k_steps
  refine Blk.out ?_
  refine for_raw ?_
  k_steps
  refine Blk.out ?_
  rename Fr g L' _ _ => F5
  rename News g L' _ _ => N5
  rename_i Ab hA oA loA hsA fsA hiA fiA lA h6 Rs h7 lR h8
  clear hsA fsA fiA
  refine it_keys (d := G) (od := oG) (kvs := kvsOf nd) rfl F5 N5 loG (N5 (G, oG) (by simp)).1 hG ?_
  intro I hI oI ep F6 N6 lt6 ltI Wk hO
  have nd0 : (I :: Ab :: Rs :: G :: (rdEnts []).map (·.1)).Nodup := by
    have l1 := lt6 (Rs, W.listOf [].toArray 0) (.head _)
    have l2 := lt6 (Ab, oA) (.tail _ (.head _))
    obtain ⟨l3, l4⟩ := lR
    simp only [rdEnts, List.flatMap_nil, List.map_nil, List.nodup_cons, List.mem_cons, List.not_mem_nil, or_false, not_or, List.nodup_nil, and_true, not_false_eq_true]
    exact ⟨⟨Nat.ne_of_gt l2, Nat.ne_of_gt l1, Nat.ne_of_gt ltI⟩, ⟨Nat.ne_of_lt l3, Nat.ne_of_gt lA⟩, Nat.ne_of_gt l4⟩
  obtain ⟨Iv1, hIv1⟩ : ∃ Iv1 : Nat → Shared → Prop, Iv1 = fun n s' => ∀ G_ : Prop, (∀ i g2 h tk m' oA2 cR rds oI, (s' = { s with heap := h, toks := tk }) → (m' (Str.ofString "needs") = some (.ref G)) → (m' (Str.ofString "above") = some (.ref Ab)) → (m' (Str.ofString "rows") = some (.ref Rs)) → (KtsTurn (L :: fsOf outer) g g2) → (Am w mean mg mb (ktrTop dp un gd cn cs L a ccd cl outer) base (envX cn cs L a ccd cl :: outer) g2) → (Fr g2 L' h m') → (News g2 L' h ((I, oI) :: (Ab, oA2) :: (Rs, W.listOf (rdRows rds).toArray cR) :: (G, oG) :: rdEnts rds)) → (oA2.IsDictOf (intKind PG w) (rdKvs rds)) → (RdOk rds) → ((I :: Ab :: Rs :: G :: (rdEnts rds).map (·.1)).Nodup) → (ItO (kSt I G (kvsOf nd) ep w) I G oI oG i) → (i ≤ nd.length) → (n = nd.length - i) → (rds.map Rd.abs = (nd.take i).map (fun e => (e.1, (nd.map (·.1)).filter (fun j => decide (j ∉ free e.1 ++ [e.1])), (free e.1 ++ [e.1] ++ rest e.1).reverse))) → ((∀ e ∈ nd, IsL g2 e.2.2 e.2.1 ∧ e.2.1.length ≤ 5)) → G_) → G_ := ⟨_, rfl⟩
  refine ⟨Iv1, nd.length, ?_, ?_⟩
  rw [hIv1]
  refine (fun _ k_ => k_ 0 g hI _ _ oA 0 ([]) oI rfl rfl rfl rfl KtsTurn.refl M' F6 (News.sub N6 (fun p hp => ?_)) hiA (fun _ h => nomatch h) nd0 hO (Nat.zero_le _) rfl rfl ilG)
  · simp only [rdEnts, rdRows, List.flatMap_nil, List.map_nil, List.mem_cons, List.not_mem_nil, or_false] at hp ⊢
    rcases hp with h | h | h | h <;> first | ((repeat' first | exact h | exact Or.inl h | apply Or.inr); done) | simp [h]
  intro n s' hI47_; (first | rw [hIv1] at hI47_ | skip); refine hI47_ _ ?_; clear hI47_; intro i g3 h tk m' oA3 cR3 rds oI3 e48_ m1 m2 m3 t3 M3 F3 N3 hA3 ro3 nd3 hO3 hi e49_ ab3 il3; subst e48_; subst e49_
  have st := hO3 h (N3 (I, oI3) (.head _)).1 (N3 (G, oG) (.tail _ (.tail _ (.tail _ (.head _))))).1
  have F3' := frk F3 _ (kn1 m1 (kn1 m2 (kn1 m3 kn0)))
  have lkv : (kvsOf nd).length = nd.length := by simp [kvsOf]
  have ndI := (List.nodup_cons.mp nd3).1
  clear N6 F6 N5 F5 nd0 hO lt6 ilG X' T' B' hiA lR lA m1 m2 m3
  have X' := M3.X
  have T' := M3.T
  by_cases hil : i < nd.length
  · refine walk_item Wk kSt.get F3' N3 (UpdF.head (tail_off (rest := (Ab, oA3) :: (Rs, W.listOf (rdRows rds).toArray cR3) :: (G, oG) :: rdEnts rds) ndI)) st (by rw [lkv]; exact hil) ?_
    intro v h4 tk4 oI4 hv st4 F4 N4
    have hO4 : ItO (kSt I G (kvsOf nd) ep w) I G oI4 oG (i + 1) := ItO.of Wk st4 (N4 _ (.head _)).1 (N4 (G, oG) (.tail _ (.tail _ (.tail _ (.head _))))).1
    obtain ⟨k, t, xv, hkx, rfl⟩ := hv
    have hmem := List.getElem_mem hil
    have ek : nd[i].1 = k := by
      simp only [kvsOf, List.getElem?_map, List.getElem?_eq_getElem hil, Option.map_some, Option.some.injEq, Prod.mk.injEq] at hkx
      exact hkx.1
    subst ek
    dsimp only [ForTurn]
    clear F3 F3' N3 st st4
    k_steps
    refine Blk.out ?_
    rename Fr g3 L' _ _ => F5
    rename News g3 L' _ _ => N5
    refine ConX.use (lv := 200) (dp := dp + 1) (un := un + 3) (con_read (G := G) (oG := oG) (nd := nd) (k := nd[i].1) (kt := t) (free := free nd[i].1) (rest := rest nd[i].1) hG (fun e he => ⟨(il3 e he).1.fr F5, (il3 e he).2⟩) hz loG (rk _ hmem)) M3 F5 N5 (fun p hp => ?_) ((I, oI4) :: (Ab, oA3) :: (Rs, W.listOf (rdRows rds).toArray cR3) :: rdEnts rds) (fun p hp => ?_) rfl (by omega) (by omega) ?_
    · obtain rfl := List.mem_singleton.mp hp
      exact .tail _ (.tail _ (.tail _ (.head _)))
    · have nG := (List.nodup_cons.mp (List.nodup_cons.mp (List.nodup_cons.mp (List.nodup_cons.mp nd3).2).2).2).1
      have nd3a := List.nodup_cons.mp (List.nodup_cons.mp nd3).2
      have nd3b := List.nodup_cons.mp nd3a.2
      have n1 : I ≠ G := fun z => ndI (z ▸ .tail _ (.tail _ (.head _)))
      have n2 : Ab ≠ G := fun z => nd3a.1 (z ▸ .tail _ (.head _))
      have n3 : Rs ≠ G := fun z => nd3b.1 (z ▸ .head _)
      rcases List.mem_cons.mp hp with rfl | hp
      · exact ⟨.head _, fun z => n1 (List.mem_singleton.mp z)⟩
      rcases List.mem_cons.mp hp with rfl | hp
      · exact ⟨.tail _ (.head _), fun z => n2 (List.mem_singleton.mp z)⟩
      rcases List.mem_cons.mp hp with rfl | hp
      · exact ⟨.tail _ (.tail _ (.head _)), fun z => n3 (List.mem_singleton.mp z)⟩
      · refine ⟨.tail _ (.tail _ (.tail _ (.tail _ hp))), fun z => ?_⟩
        have z : p.1 = G := List.mem_singleton.mp z
        exact nG (z ▸ List.mem_map_of_mem (f := fun x => x.1) hp)
    intro v h5 tk5 g5 led t5 M5 F6 N6 hled hI50_; (first | rw [hIv1] at hI50_ | skip); refine hI50_ _ ?_; clear hI50_; intro T ct Fd vf cf Rw vr cr e51_ e52_ ivf ivr nFR; subst e51_; subst e52_
    have nTG : T ≠ G := ne_data N6 (.head _) (.tail _ (.tail _ (.tail _ (.head _)))) (tup_ne_dict hG)
    have nFG : Fd ≠ G := ne_data N6 (.tail _ (.head _)) (.tail _ (.tail _ (.tail _ (.head _)))) (list_ne_dict hG)
    have nRG : Rw ≠ G := ne_data N6 (.tail _ (.tail _ (.head _))) (.tail _ (.tail _ (.tail _ (.head _)))) (list_ne_dict hG)
    have nTF : T ≠ Fd := ne_data N6 (.head _) (.tail _ (.head _)) tup_ne_list
    have nTR : T ≠ Rw := ne_data N6 (.head _) (.tail _ (.tail _ (.head _))) tup_ne_list
    have frT : T ∉ I :: Ab :: Rs :: G :: (rdEnts rds).map (·.1) := fresh_off N5 ((hled _ (.head _)).resolve_left (fun z => nTG (List.mem_singleton.mp z)))
    have frF : Fd ∉ I :: Ab :: Rs :: G :: (rdEnts rds).map (·.1) := fresh_off N5 ((hled _ (.tail _ (.head _))).resolve_left (fun z => nFG (List.mem_singleton.mp z)))
    have frR : Rw ∉ I :: Ab :: Rs :: G :: (rdEnts rds).map (·.1) := fresh_off N5 ((hled _ (.tail _ (.tail _ (.head _)))).resolve_left (fun z => nRG (List.mem_singleton.mp z)))
    have il5 : ∀ e ∈ nd, IsL g5 e.2.2 e.2.1 ∧ e.2.1.length ≤ 5 := fun e he => ⟨IsL.turn M3 t5 (il3 e he).1, (il3 e he).2⟩
    have N7 : News g5 L' h5 ((T, tupO [.ref Fd, .ref Rw] ct) :: (Fd, W.listOf vf.toArray cf) :: (Rw, W.listOf vr.toArray cr) :: (G, oG) :: (I, oI4) :: (Ab, oA3) :: (Rs, W.listOf (rdRows rds).toArray cR3) :: rdEnts rds) := N6
    have ndA : (T :: Fd :: Rw :: I :: Ab :: Rs :: G :: (rdEnts rds).map (·.1)).Nodup := by
      refine List.nodup_cons.mpr ⟨fun z => ?_, List.nodup_cons.mpr ⟨fun z => ?_, List.nodup_cons.mpr ⟨frR, nd3⟩⟩⟩
      · rcases List.mem_cons.mp z with z | z
        · exact nTF z
        rcases List.mem_cons.mp z with z | z
        · exact nTR z
        · exact frT z
      · rcases List.mem_cons.mp z with z | z
        · exact nFR z
        · exact frF z
    refine apartE7 ndA ?_; intro q0_1 q0_2 q0_3 q0_4 q0_5 q0_6 q1_2 q1_3 q1_4 q1_5 q1_6 q2_3 q2_4 q2_5 q2_6 q3_4 q3_5 q3_6 q4_5 q4_6 q5_6 qm0 qm1 qm2 qm3 qm4 qm5 qm6
    have rl : rds.length ≤ 50 := by
      have := congrArg List.length ab3
      simp only [List.length_map, List.length_take] at this
      omega
    have rl2 : (rdRows rds).length ≤ 16000 := by simp only [rdRows, List.length_map]; omega
    have rl3 : (rdKvs rds).length ≤ 16000 := by simp only [rdKvs, List.length_map]; omega
    clear X' T' N6 N5 F5 frT frF frR hled
    have X' := M5.X
    have T' := M5.T
    dsimp only
    k_steps
    dsimp only
    rename Fr g5 L' _ _ => F6
    rename News g5 L' _ _ => N6
    rename Obj.IsDictOf (intKind PG w) _ (stored _ _ _) => hA6
    have kn : (nd.map (·.1)).Nodup := by
      obtain ⟨es, ep, _, _, _, _, q⟩ := hG
      simpa [kvsOf, Function.comp_def] using q
    have hnk : ∀ x ∈ rds, x.k ≠ nd[i].1 := fun x hx z => by
      have h1 : x.k ∈ (nd.take i).map (·.1) := by
        have e1 := congrArg (List.map fun y => y.1) ab3
        simp only [List.map_map] at e1
        have h2 : x.k ∈ rds.map ((fun y : Int × List Int × List Int => y.1) ∘ Rd.abs) := List.mem_map.mpr ⟨x, hx, rfl⟩
        rw [e1] at h2
        exact h2
      rw [z] at h1
      have e2 : nd = nd.take i ++ nd[i] :: nd.drop (i + 1) := by
        rw [List.getElem_cons_drop]; exact (List.take_append_drop i nd).symm
      rw [e2, List.map_append, List.map_cons, List.nodup_append] at kn
      exact kn.2.2 _ h1 _ (.head _) rfl
    rw [stored_new (valueAt_rd hnk)] at hA6
    simp only [List.push_toArray] at N6
    rename_i a1 a2 a3 a4 a5 oA6 a6
    refine ⟨nd.length - (i + 1), by omega, ?_⟩
    first | rw [hIv1]
    refine (fun _ k_ => k_ (i + 1) g5 _ _ _ oA6 (cR3 + 1) (rds ++ [⟨nd[i].1, Fd, vf, cf, (nd.map (·.1)).filter (fun j => decide (j ∉ free nd[i].1 ++ [nd[i].1])), Rw, vr, cr, (free nd[i].1 ++ [nd[i].1] ++ rest nd[i].1).reverse⟩]) oI4 rfl rfl rfl rfl (t3.trans t5) M5 F6 (News.sub N6 (fun p hp => ?_)) ?_ ?_ ?_ hO4 hil rfl ?_ il5)
    · rw [rdRows_app, rdEnts_app] at hp
      simp only [rdEnts, Rd.ents, rdRows, List.flatMap_cons, List.flatMap_nil, List.map_cons, List.map_nil, List.append_nil, List.mem_cons, List.mem_append, List.not_mem_nil, or_false] at hp ⊢
      rcases hp with h | h | h | h | h | h | h <;> first | ((repeat' first | exact h | exact Or.inl h | apply Or.inr); done) | simp [h]
    · rw [rdKvs_app]; exact hA6
    · intro x hx
      rcases List.mem_append.mp hx with hx | hx
      · exact ro3 x hx
      · rw [List.mem_singleton.mp hx]; exact ⟨ivf, ivr⟩
    · rw [rdEnts_app, List.map_append]
      refine (List.Perm.nodup_iff ?_).mp (List.nodup_cons.mp ndA).2
      exact (List.perm_append_comm (l₁ := [Fd, Rw]) (l₂ := I :: Ab :: Rs :: G :: (rdEnts rds).map (·.1)))
    · rw [List.take_succ_eq_append_getElem hil, List.map_append, List.map_append, ab3]
      rfl
  · have ei : i = nd.length := by omega
    have nT : ∀ p ∈ (Ab, oA3) :: (Rs, W.listOf (rdRows rds).toArray cR3) :: (G, oG) :: rdEnts rds, p ∈ (I, oI3) :: (Ab, oA3) :: (Rs, W.listOf (rdRows rds).toArray cR3) :: (G, oG) :: rdEnts rds ∧ p.1 ≠ I := fun p hp => ⟨.tail _ hp, tail_off (rest := (Ab, oA3) :: (Rs, W.listOf (rdRows rds).toArray cR3) :: (G, oG) :: rdEnts rds) ndI p hp⟩
    refine walk_done Wk (rest := (Ab, oA3) :: (Rs, W.listOf (rdRows rds).toArray cR3) :: (G, oG) :: rdEnts rds) F3' N3 nT (by rw [lkv, ← ei]; exact st) (N3 (I, oI3) (.head _)).2.1 (N3 (I, oI3) (.head _)).2.2 ?_
    intro h4 tk4 F4 N4
    dsimp only [ForTurn]
    clear F3 F3' N3
    k_steps
    rename Fr g3 L' _ _ => F6
    rename News g3 L' _ _ => N6
    rename_i T hT lT
    have ndT : T ∉ Ab :: Rs :: G :: (rdEnts rds).map (·.1) := AllLt.off (rest := (Ab, oA3) :: (Rs, W.listOf (rdRows rds).toArray cR3) :: (G, oG) :: rdEnts rds) lT
    obtain ⟨EV, hl⟩ := exitX M F N sg gs t3 F6 N6
    refine hret _ _ _ _ EV hl (fun _ k_ => k_ T _ Ab oA3 Rs cR3 rds rfl rfl hA3 ro3 loA (List.nodup_cons.mpr ⟨ndT, (List.nodup_cons.mp nd3).2⟩) ?_)
    rw [ab3, ei, List.take_length]
end
end
section
section
variable {prog : Program} {w : World} {A : Around} {E : Value → Shared → Prop} {s : Shared} {g : Heap} {L it d T : Addr} {m : Str → Option Value} {news : List (Addr × Obj)} {oI od : Obj} {i : Nat} {vs : List Value} {a b : Value} {cT : Nat}
theorem assign_pair {env : Env} {xa xb : Str} {pa pb pt : Pos} {x1} {Q : Unit → Shared → Prop} (hh : A.handled = none) (eL : env.locals = L) (F : Fr g L s.heap m) (N : News g L s.heap news) (e : s.heap.get? T = some (tupO [a, b] cT))
    (h : ∀ h' tk', Fr g L h' (fun y => if y = xb then some b else if y = xa then some a else m y) → News g L h' news → (∀ b' o, b' ≠ L → s.heap.get? b' = some o → h'.get? b' = some o) → Q () { s with heap := h', toks := tk' })
    (hxk : env.kindOf xa = some .local := by rfl) (hxv : env.kindOf xb = some .local := by rfl) (hp : (env.scope.kind == .class || (env.scope.kind == .module && env.locals != env.globals)) = false := by rfl) :
    wpAny (model prog w) A (assign (.Tuple [.Name xa pa, .Name xb pb] x1 pt) env (.ref T)) Q E s := by
  subst eL
  refine wpAny_assign_Tuple hh (items := #[a, b]) ⟨_, e, rfl, _, rfl⟩ rfl rfl fun h₃ hx₃ => ?_
  have up : ∀ b' o, s.heap.get? b' = some o → h₃.get? b' = some o := fun b' o q => hx₃ b' o (Nat.ne_of_lt (Heap.lt_size q)) q
  have F₃ : Fr g env.locals h₃ m := F.keeps up
  have N₃ : News g env.locals h₃ news := fun p hp => ⟨up _ _ (N p hp).1, (N p hp).2⟩
  show wpAny _ _ (do holding [b] (assign (.Name xa pa) env a); do holding [] (assign (.Name xb pb) env b); pure ()) _ _ _
  refine wpAny_bind (wpAny_holding (wpAny_assign_Name (wpAny_storeName_local hxk F₃.ns (fun h₄ hn₄ hs₄ => ?_) hp)))
  replace hs₄ : Heap.SameBut env.locals h₃ h₄ := hs₄
  have F₄ := F₃.set hn₄ hs₄
  refine wpAny_bind (wpAny_holding (wpAny_assign_Name (wpAny_storeName_local hxv F₄.ns (fun h₅ hn₅ hs₅ => wpAny_pure ?_) hp)))
  replace hs₅ : Heap.SameBut env.locals h₄ h₅ := hs₅
  have F₅ := F₄.set hn₅ hs₅
  exact h h₅ _ F₅ ((N₃.set hs₄).set hs₅) fun b' o n q => hs₅.extBut b' o n (hs₄.extBut b' o n (up _ _ q))
theorem letgo_list {elts : List PySem.Expr} {x1} {pos : Pos} {vs : List Value} {Q : Unit → Shared → Prop} (st : lSt it d vs i s.heap) (hQ : Q () s) : wpAny (model prog w) A (letOwnedTupleGo (.Tuple elts x1 pos) (.ref it) (.ref T)) Q E s := wpAny_letOwnedTupleGo_listiter st.1 hQ
theorem pairs_item {env : Env} {xa xb : Str} {pa pb pt : Pos} {x1} {body : List Stmt} {Q : Flow → Shared → Prop} {I : Nat → Shared → Prop} {n : Nat}
    (hh : A.handled = none) (eL : env.locals = L) (F : Fr g L s.heap m) (N : News g L s.heap ((it, oI) :: news)) (ndi : ∀ p ∈ news, p.1 ≠ it) (Wk : Walks prog w A it [it, d] [it] vs.length (fun i v => vs[i]? = some v) (lSt it d vs)) (ed : g.get? d = some od) (st : lSt it d vs i s.heap) (hx : vs[i]? = some (.ref T)) (eT : g.get? T = some (tupO [a, b] cT))
    (h : ∀ h' tk' oI', ItO (lSt it d vs) it d oI' od (i + 1) → Fr g L h' (fun y => if y = xb then some b else if y = xa then some a else m y) → News g L h' ((it, oI') :: news) →
      wpAny (model prog w) A (execs body env) (fun f s₃ => match f with
        | .next => Again I n s₃
        | .cont => Again I n s₃
        | .brk => Q .next s₃
        | .ret v => Q (.ret v) s₃) E { s with heap := h', toks := tk' })
    (hxk : env.kindOf xa = some .local := by rfl) (hxv : env.kindOf xb = some .local := by rfl) (hp : (env.scope.kind == .class || (env.scope.kind == .module && env.locals != env.globals)) = false := by rfl) :
    wpAny (model prog w) A (pyNext (.ref it)) (ForTurnG prog w A E env (.Tuple [.Name xa pa, .Name xb pb] x1 pt) body Q I n (.ref it)) E s := by
  have hil : i < vs.length := (List.getElem?_eq_some_iff.mp hx).1
  refine walk_item Wk lSt.get F N (UpdF.head ndi) st hil ?_
  intro v h4 tk4 oI4 hv st4 F4 N4
  rw [hx] at hv
  obtain rfl := Option.some.inj hv
  dsimp only [ForTurnG]
  refine letgo_list st4 (assign_pair hh eL F4 N4 (F4.keep _ _ eT) ?_ hxk hxv hp)
  intro h5 tk5 F5 N5 k5
  have hO4 : ItO (lSt it d vs) it d oI4 od (i + 1) := ItO.of Wk st4 (N4 _ (.head _)).1 (F4.keep _ _ ed)
  exact h h5 tk5 oI4 hO4 F5 N5
end
end
section
structure Lv where
  k : Int
  a : Addr
  vs : List Value
  c : Nat
  xs : List Int
noncomputable def lvEnts (ls : List Lv) : List (Addr × Obj) := ls.map fun x => (x.a, W.listOf x.vs.toArray x.c)
noncomputable def lvKvs (ls : List Lv) : List (Int × Value) := ls.map fun x => (x.k, .ref x.a)
noncomputable def Lv.abs (x : Lv) : Int × List Int := (x.k, x.xs)
noncomputable def LvOk (ls : List Lv) : Prop := ∀ x ∈ ls, IntsAre x.vs x.xs
theorem lvEnts_app (a b : List Lv) : lvEnts (a ++ b) = lvEnts a ++ lvEnts b := by simp [lvEnts]
theorem lvKvs_app (a b : List Lv) : lvKvs (a ++ b) = lvKvs a ++ lvKvs b := by simp [lvKvs]
theorem valueAt_lv {ls : List Lv} {k : Int} (h : ∀ x ∈ ls, x.k ≠ k) : valueAt (lvKvs ls) k = none := by
  simp only [valueAt, lvKvs, List.find?_map, Option.map_map, Option.map_eq_none_iff, List.find?_eq_none]
  intro x hx
  simp only [Function.comp, decide_eq_true_eq]
  exact h x hx
noncomputable def lookL (ov : List (Int × List Int)) (k : Int) : List Int := ((ov.find? fun e => decide (e.1 = k)).map (·.2)).getD []
theorem lv_find {k : Int} : ∀ {ls : List Lv}, k ∈ ls.map (·.k) → ∃ x ∈ ls, x.k = k ∧ valueAt (lvKvs ls) k = some (.ref x.a) ∧ lookL (ls.map Lv.abs) k = x.xs
  | y :: r, h => by
    by_cases e : y.k = k
    · exact ⟨y, .head _, e, by simp [valueAt, lvKvs, e], by simp [lookL, Lv.abs, e]⟩
    · rw [List.map_cons] at h
      have h' : k ∈ r.map (·.k) := (List.mem_cons.mp h).resolve_left (fun z => e z.symm)
      obtain ⟨x, hx, h1, h2, h3⟩ := lv_find h'
      refine ⟨x, .tail _ hx, h1, ?_, ?_⟩
      · simp only [valueAt, lvKvs, List.map_cons] at h2 ⊢
        rw [List.find?_cons_of_neg (by simp [e])]
        exact h2
      · simp only [lookL, List.map_cons] at h3 ⊢
        rw [List.find?_cons_of_neg (by simp [Lv.abs, e])]
        exact h3
structure Pr where
  hi : Int
  lo : Int
  t1 : Tok
  t2 : Tok
  T : Addr
  c : Nat
noncomputable def prVals (ps : List Pr) : List Value := ps.map fun p => .ref p.T
noncomputable def Pr.abs (p : Pr) : Int × Int := (p.hi, p.lo)
noncomputable abbrev Pr.obj (p : Pr) : Obj := tupO [.int p.hi p.t1, .int p.lo p.t2] p.c
noncomputable def PrIn (h : Heap) (ps : List Pr) : Prop := ∀ p ∈ ps, h.get? p.T = some p.obj
noncomputable def rowStep (ov : List (Int × List Int)) (n : Int) (r : List Int) (p : Int × Int) : List Int := if p.2 = n then r ++ [p.1] ++ lookL ov p.1 else r
noncomputable def rowF (ov : List (Int × List Int)) (n : Int) (steps : List (Int × Int)) : List Int := steps.foldl (rowStep ov n) []
noncomputable def overF (steps : List (Int × Int)) (hidden : List Int) : List (Int × List Int) := hidden.foldl (fun ov n => ov ++ [(n, rowF ov n steps)]) []
theorem rowStep_le (ov : List (Int × List Int)) (n : Int) (r : List Int) (p : Int × Int) : r.length ≤ (rowStep ov n r p).length := by
  unfold rowStep; split
  · simp only [List.length_append]; omega
  · exact Nat.le_refl _
theorem rowFold_le (ov : List (Int × List Int)) (n : Int) : ∀ (l : List (Int × Int)) (r : List Int), r.length ≤ (l.foldl (rowStep ov n) r).length
  | [], _ => Nat.le_refl _
  | p :: q, r => Nat.le_trans (rowStep_le ov n r p) (rowFold_le ov n q _)
theorem overF_keys (steps : List (Int × Int)) : ∀ (hidden : List Int) (ov : List (Int × List Int)), (hidden.foldl (fun ov n => ov ++ [(n, rowF ov n steps)]) ov).map (·.1) = ov.map (·.1) ++ hidden
  | [], ov => by simp
  | n :: r, ov => by rw [List.foldl_cons, overF_keys steps r]; simp
theorem overF_take (steps : List (Int × Int)) {hidden : List Int} {i : Nat} (hi : i < hidden.length) : overF steps (hidden.take (i + 1)) = overF steps (hidden.take i) ++ [(hidden[i], rowF (overF steps (hidden.take i)) hidden[i] steps)] := by
  rw [List.take_succ_eq_append_getElem hi, overF, List.foldl_append]
  rfl
theorem overF_sub (steps : List (Int × Int)) : ∀ (hidden : List Int) (ov : List (Int × List Int)), ∀ e ∈ ov, e ∈ hidden.foldl (fun ov n => ov ++ [(n, rowF ov n steps)]) ov
  | [], _, _, h => h
  | n :: r, ov, e, h => overF_sub steps r _ e (List.mem_append_left _ h)
theorem overF_mem (steps : List (Int × Int)) {hidden : List Int} {i : Nat} (hi : i < hidden.length) : (hidden[i], rowF (overF steps (hidden.take i)) hidden[i] steps) ∈ overF steps hidden := by
  have h1 : overF steps hidden = (hidden.drop (i + 1)).foldl (fun ov n => ov ++ [(n, rowF ov n steps)]) (overF steps (hidden.take (i + 1))) := by
    unfold overF; rw [← List.foldl_append, List.take_append_drop]
  have h2 : (hidden[i], rowF (overF steps (hidden.take i)) hidden[i] steps) ∈ overF steps (hidden.take (i + 1)) := by
    rw [overF_take steps hi]; exact List.mem_append_right _ (.head _)
  rw [h1]
  exact overF_sub steps _ _ _ h2
section
local macro_rules | `(tactic| walk_at $s) => zd ["exec For Name Name cons nil", "exec For Name Name cons cons", "exec For Tuple Name cons nil", "binaryOp Add ref ref"] [] s
local macro_rules | `(tactic| walk_at $s) => zd [] [] s
theorem con_over {w : World} {h : Heap} {Hd St : Addr} {hidden : List Int} {ps : List Pr} {cS : Nat} (iH : IsL h Hd hidden) (eS : h.get? St = some (W.listOf (prVals ps).toArray cS)) (iP : PrIn h ps) (hn : hidden.Nodup) (hl : hidden.length ≤ 50) (sl : ps.length ≤ 1000)
    (hkn : ∀ i (hi : i < hidden.length), ∀ p ∈ ps.map Pr.abs, p.2 = hidden[i] → p.1 ∈ hidden.take i) (hb : ∀ e ∈ overF (ps.map Pr.abs) hidden, e.2.length ≤ 1000) :
    ConX w 206 80 [] [.ref Hd, .ref St] (fun v led h' => ∀ G_ : Prop, (∀ Ov oO ls, (v = .ref Ov) → (led = (Ov, oO) :: lvEnts ls) → (oO.IsDictOf (intKind PG w) (lvKvs ls)) → (LvOk ls) → ((Ov == sysModules) = false) → ((Ov :: (lvEnts ls).map (·.1)).Nodup) → (ls.map Lv.abs = overF (ps.map Pr.abs) hidden) → G_) → G_) h := by
  revert iH eS iP hn hl sl hkn hb
  revert w h Hd St hidden ps cS
  walk_at "7"; (iterate 2 (generalize zf w_ = hidden; generalize zs w_ = v_; clear w_; generalize zf v_ = hidden; generalize zs v_ = w_; clear v_)); generalize zf w_ = hidden; generalize zs w_ = v_; clear w_; generalize zf v_ = ps, zs v_ = cS; clear v_; rename_i w h Hd St
  intro iH eS iP hn hl sl hkn hb
  refine ConX.hk ?_; generalize wX _ _ _ _ _ _ _ = c_; delta ConXat; generalize c_.mean = mean, c_.mg = mg, c_.mb = mb, c_.dp = dp, c_.un = un, c_.gd = gd, c_.cn = cn, c_.cs = cs, c_.a = a, c_.ccd = ccd, c_.cl = cl, c_.outer = outer, c_.A₀ = A₀, c_.base = base, c_.h₀ = h₀, c_.L = L, c_.m = m, c_.s = s, c_.Q = Q, c_.E = E
  intro hh M F N hk hdp hun hret
  subst hh
  have X := M.X
  (refine wpAny_call ?_; k_dflt (refine' enterX ?k1 ?k2 ?k4 ?kK ?k6 ?k7 ?k8 ?k9 ?kB ?_ ?c2 ?c3 ?c4 ?c5; (case kK => assumption); (case k1 => assumption); (case k2 => assumption); (case k4 => assumption); (case k6 => k_is); (case k7 => k_is); (case k8 => omega); (case k9 => first | exact BindsTo.of_eq rfl | exact binds_K (by k_in) rfl (by k_is) rfl rfl rfl); (case c5 => decide); (case kB => exact locs rfl); (case c2 => exact rfl); (case c3 => exact rfl); (case c4 => exact rfl); k_whole))
  walk_at "3"; generalize zf w_ = g, zf (zs w_) = L', zs (zs w_) = h₁
  intro sg gs eL lt F' N' M'
  (try dsimp only)
  refine wpAny_noRaise ?_
  have B' := M'.B
  have X' := M'.X
  have T' := M'.T
  clear lt
  have iH' : IsL g Hd hidden := IsL.ground sg iH (fun z => nomatch z)
  have eS' : g.get? St = some (W.listOf (prVals ps).toArray cS) := sg _ _ (fun z => nomatch z) eS
  have iP' : PrIn g ps := fun p hp => sg _ _ (fun z => nomatch z) (iP p hp)
  k_steps
  refine Blk.out ?_
  refine for_raw ?_
  k_steps
  refine Blk.out ?_
  rename Fr g L' _ _ => F5
  rename News g L' _ _ => N5
  rename_i Ov hA oO loO hsO fsO hiO fiO lO h6
  clear hsO fsO fiO lO
  refine exE2 iH' fun hv cH h147_1 => ?_
  have eH := h147_1.1
  have ihv := h147_1.2
  refine it_list (T := Hd) (vs := hv) (c := cH) rfl F5 N5 (F5.keep _ _ eH) ?_
  intro I hI oI F6 N6 lt6 ltI Wk hO
  have nd0 : (I :: Ov :: (lvEnts []).map (·.1)).Nodup := by
    simp only [lvEnts, List.map_nil, List.nodup_cons, List.mem_cons, List.not_mem_nil, or_false, List.nodup_nil, and_true, not_false_eq_true]
    exact Nat.ne_of_gt (lt6 (Ov, oO) (.head _))
  obtain ⟨Iv1, hIv1⟩ : ∃ Iv1 : Nat → Shared → Prop, Iv1 = fun n s' => ∀ G_ : Prop, (∀ i h tk m' oO2 ls oI, (s' = { s with heap := h, toks := tk }) → (m' (Str.ofString "steps") = some (.ref St)) → (m' (Str.ofString "over") = some (.ref Ov)) → (Fr g L' h m') → (News g L' h ((I, oI) :: (Ov, oO2) :: lvEnts ls)) → (oO2.IsDictOf (intKind PG w) (lvKvs ls)) → (LvOk ls) → ((I :: Ov :: (lvEnts ls).map (·.1)).Nodup) → (ItO (lSt I Hd hv) I Hd oI (W.listOf hv.toArray cH) i) → (i ≤ hidden.length) → (n = hidden.length - i) → (ls.map Lv.abs = overF (ps.map Pr.abs) (hidden.take i)) → G_) → G_ := ⟨_, rfl⟩
  refine ⟨Iv1, hidden.length, ?_, ?_⟩
  rw [hIv1]
  refine (fun _ k_ => k_ 0 hI _ _ oO ([]) oI rfl rfl rfl F6 N6 hiO (fun _ h => nomatch h) nd0 hO (Nat.zero_le _) rfl rfl)
  intro n s' hI53_; (first | rw [hIv1] at hI53_ | skip); refine hI53_ _ ?_; clear hI53_; intro i h tk m' oO3 ls oI3 e54_ m1 m2 F3 N3 hO3 lo3 nd3 hI3 hi e55_ ab3; subst e54_; subst e55_
  have st := hI3 h (N3 (I, oI3) (.head _)).1 (F3.keep _ _ eH)
  have F3' := frk F3 _ (kn1 m1 (kn1 m2 kn0))
  have ndI := (List.nodup_cons.mp nd3).1
  have hlen := ihv.length
  clear N6 F6 N5 F5 nd0 hO lt6 hiO m1 m2
  by_cases hil : i < hidden.length
  · refine walk_item Wk lSt.get F3' N3 (UpdF.head (tail_off (rest := (Ov, oO3) :: lvEnts ls) ndI)) st (by rw [hlen]; exact hil) ?_
    intro v h4 tk4 oI4 hv4 st4 F4 N4
    have hI4 : ItO (lSt I Hd hv) I Hd oI4 (W.listOf hv.toArray cH) (i + 1) := ItO.of Wk st4 (N4 _ (.head _)).1 (F4.keep _ _ eH)
    refine exE1 (ints_at ihv i hil) fun t ht => ?_
    rw [List.getElem?_toArray, hv4] at ht
    obtain rfl := Option.some.inj ht
    dsimp only [ForTurn]
    clear F3 F3' N3 st st4
    k_steps
    refine Blk.out ?_
    refine for_rawG ?_
    k_steps
    refine Blk.out ?_
    rename Fr g L' _ _ => F5
    rename News g L' _ _ => N5
    rename_i a1 Rw h6 l1 h7
    refine it_list (T := St) (vs := prVals ps) (c := cS) rfl F5 N5 (F5.keep _ _ eS') ?_
    intro J hJ oJ F6 N6 lt6 ltJ Wk2 hO2
    have ndR : (Rw :: I :: Ov :: (lvEnts ls).map (·.1)).Nodup := List.nodup_cons.mpr ⟨AllLt.off (rest := (I, oI4) :: (Ov, oO3) :: lvEnts ls) l1, nd3⟩
    have nd6 : (J :: Rw :: I :: Ov :: (lvEnts ls).map (·.1)).Nodup := nodup_new (l' := (Rw, W.listOf [].toArray 0) :: (I, oI4) :: (Ov, oO3) :: lvEnts ls) lt6 (fun z hz => hz) ndR
    have hbi : (rowF (ls.map Lv.abs) hidden[i] (ps.map Pr.abs)).length ≤ 1000 := by
      rw [ab3]; exact hb _ (overF_mem _ hil)
    obtain ⟨Iv2, hIv2⟩ : ∃ Iv2 : Nat → Shared → Prop, Iv2 = fun n s' => ∀ G_ : Prop, (∀ j h tk m' Rw rv cr oJ, (s' = { s with heap := h, toks := tk }) → (m' (Str.ofString "steps") = some (.ref St)) → (m' (Str.ofString "over") = some (.ref Ov)) → (m' (Str.ofString "name") = some (.int hidden[i] t)) → (m' (Str.ofString "row") = some (.ref Rw)) → (Fr g L' h m') → (News g L' h ((J, oJ) :: (Rw, W.listOf rv.toArray cr) :: (I, oI4) :: (Ov, oO3) :: lvEnts ls)) → ((J :: Rw :: I :: Ov :: (lvEnts ls).map (·.1)).Nodup) → (IntsAre rv (((ps.map Pr.abs).take j).foldl (rowStep (ls.map Lv.abs) hidden[i]) [])) → (ItO (lSt J St (prVals ps)) J St oJ (W.listOf (prVals ps).toArray cS) j) → (j ≤ ps.length) → (n = ps.length - j) → G_) → G_ := ⟨_, rfl⟩
    refine ⟨Iv2, ps.length, ?_, ?_⟩
    rw [hIv2]
    refine (fun _ k_ => k_ 0 hJ _ _ Rw ([]) 0 oJ rfl rfl rfl rfl rfl F6 N6 nd6 .nil hO2 (Nat.zero_le _) rfl)
    intro n s' hI56_; (first | rw [hIv2] at hI56_ | skip); refine hI56_ _ ?_; clear hI56_; intro j h8 tk8 m8 Rw rv cr oJ8 e57_ m1 m2 m3 m4 F8 N8 nd8 ir8 hJ8 hj e58_; subst e57_; subst e58_
    have st := hJ8 h8 (N8 (J, oJ8) (.head _)).1 (F8.keep _ _ eS')
    have F8' := frk F8 _ (kn1 m1 (kn1 m2 (kn1 m3 (kn1 m4 kn0))))
    have ndJ := (List.nodup_cons.mp nd8).1
    clear N6 F6 N5 F5 nd6 ndR hO2 lt6 m1 m2 m3 m4 F8
    by_cases hjl : j < ps.length
    · have hx : (prVals ps)[j]? = some (.ref ps[j].T) := by simp [prVals, hjl]
      refine pairs_item (it := J) (oI := oJ8) (news := (Rw, W.listOf rv.toArray cr) :: (I, oI4) :: (Ov, oO3) :: lvEnts ls) rfl rfl F8' N8 (tail_off (rest := (Rw, W.listOf rv.toArray cr) :: (I, oI4) :: (Ov, oO3) :: lvEnts ls) ndJ) Wk2 eS' st hx (iP' _ (List.getElem_mem hjl)) ?_
      intro h9 tk9 oJ9 hJ9 F9 N9
      have F5 : Fr g L' h9 _ := F9
      have N5 : News g L' h9 ((J, oJ9) :: (Rw, W.listOf rv.toArray cr) :: (I, oI4) :: (Ov, oO3) :: lvEnts ls) := N9
      clear F8' N8 F9 N9 st
      have hjl' : j < (ps.map Pr.abs).length := by rw [List.length_map]; exact hjl
      have etk : (ps.map Pr.abs).take (j + 1) = (ps.map Pr.abs).take j ++ [(ps[j].hi, ps[j].lo)] := by
        rw [List.take_succ_eq_append_getElem hjl', List.getElem_map]
        rfl
      have ele : ((((ps.map Pr.abs).take (j + 1)).foldl (rowStep (ls.map Lv.abs) hidden[i]) [])).length ≤ 1000 := by
        refine Nat.le_trans ?_ hbi
        have h1 := rowFold_le (ls.map Lv.abs) hidden[i] ((ps.map Pr.abs).drop (j + 1)) (((ps.map Pr.abs).take (j + 1)).foldl (rowStep (ls.map Lv.abs) hidden[i]) [])
        rw [← List.foldl_append, List.take_append_drop] at h1
        exact h1
      k_steps
      · rename ps[j].lo = hidden[i] => hlo
        refine Blk.out ?_
        rename Fr g L' _ _ => F6
        rename News g L' _ _ => N6
        rename_i B1 h10 l1
        have hkk : ps[j].hi ∈ ls.map (·.k) := by
          have h1 := hkn i hil _ (List.mem_map_of_mem (f := Pr.abs) (List.getElem_mem hjl)) hlo
          have h2 : ls.map (·.k) = (overF (ps.map Pr.abs) (hidden.take i)).map (·.1) := by
            rw [← ab3, List.map_map]; rfl
          rw [h2, overF, overF_keys]
          exact h1
        refine exE1 (lv_find hkk) fun x h223_1 => ?_
        have hx := h223_1.1
        have hxk := h223_1.2.1
        have hxv := h223_1.2.2.1
        have hxl := h223_1.2.2.2
        have eS1 : rowStep (ls.map Lv.abs) hidden[i] (((ps.map Pr.abs).take j).foldl (rowStep (ls.map Lv.abs) hidden[i]) []) (ps[j].hi, ps[j].lo) = ((ps.map Pr.abs).take j).foldl (rowStep (ls.map Lv.abs) hidden[i]) [] ++ [ps[j].hi] ++ x.xs := by
          rw [rowStep, if_pos hlo]
          rw [hxl]
        rw [etk, List.foldl_append, List.foldl_cons, List.foldl_nil, eS1] at ele
        simp only [List.length_append, List.length_cons, List.length_nil] at ele
        refine kmk_add_ints F6 N6 (vs := rv) (ns := ((ps.map Pr.abs).take j).foldl (rowStep (ls.map Lv.abs) hidden[i]) []) (ws := [.int ps[j].hi ps[j].t1]) (ms := [ps[j].hi]) ⟨_, (N6 (Rw, W.listOf rv.toArray cr) (.tail _ (.tail _ (.head _)))).1, rfl, _, rfl⟩ ⟨_, (N6 (B1, _) (.head _)).1, rfl, _, rfl⟩ ir8 (.cons _ _ .nil) ?_ (by rw [sizeLine_eq]; simp only [List.length_cons, List.length_nil]; omega)
        intro X1 xv h11 F7 N7 ltX ixv
        have N8 : News g L' h11 ((X1, W.listOf xv.toArray 0) :: (J, oJ9) :: (I, oI4) :: (Ov, oO3) :: lvEnts ls) := News.sub N7 (fun p hp => by
          rcases List.mem_cons.mp hp with rfl | hp
          · exact .head _
          rcases List.mem_cons.mp hp with rfl | hp
          · exact .tail _ (.tail _ (.head _))
          · exact .tail _ (.tail _ (.tail _ (.tail _ hp))))
        clear N7 N6 F6 l1
        dsimp only
        k_steps
        refine Blk.out ?_
        rename Fr g L' _ _ => F6
        rename News g L' _ _ => N6
        have hxm : (x.a, W.listOf x.vs.toArray x.c) ∈ lvEnts ls := List.mem_map_of_mem (f := fun x : Lv => (x.a, W.listOf x.vs.toArray x.c)) hx
        refine kmk_add_ints F6 N6 (vs := xv) (ws := x.vs) (ms := x.xs) ⟨_, (N6 (X1, W.listOf xv.toArray 0) (.head _)).1, rfl, _, rfl⟩ ⟨_, (N6 (x.a, W.listOf x.vs.toArray x.c) (.tail _ (.tail _ (.tail _ (.tail _ hxm))))).1, rfl, _, rfl⟩ ixv (lo3 x hx) ?_ (by rw [sizeLine_eq]; simp only [List.length_append, List.length_cons, List.length_nil]; omega)
        intro R2 r2v h12 F7 N7 ltR irv
        have N9 : News g L' h12 ((J, oJ9) :: (R2, W.listOf r2v.toArray 0) :: (I, oI4) :: (Ov, oO3) :: lvEnts ls) := News.sub N7 (fun p hp => by
          rcases List.mem_cons.mp hp with rfl | hp
          · exact .tail _ (.tail _ (.head _))
          rcases List.mem_cons.mp hp with rfl | hp
          · exact .head _
          · exact .tail _ (.tail _ (.tail _ hp)))
        have ndR2 : R2 ∉ J :: I :: Ov :: (lvEnts ls).map (·.1) := lt_off (r := (J, oJ9) :: (I, oI4) :: (Ov, oO3) :: lvEnts ls) ltR fun p hp => .tail _ hp
        have nd9 : (J :: R2 :: I :: Ov :: (lvEnts ls).map (·.1)).Nodup := by
          obtain ⟨q1, q2⟩ := List.nodup_cons.mp nd8
          refine List.nodup_cons.mpr ⟨fun z => ?_, List.nodup_cons.mpr ⟨fun z => ndR2 (.tail _ z), (List.nodup_cons.mp q2).2⟩⟩
          rcases List.mem_cons.mp z with z | z
          · exact ndR2 (z ▸ .head _)
          · exact q1 (.tail _ z)
        clear N7 N6 F6 ltR
        dsimp only
        k_steps
        rename Fr g L' _ _ => F6
        rename News g L' _ _ => N6
        dsimp only
        refine ⟨ps.length - (j + 1), by omega, ?_⟩
        first | rw [hIv2] | rw [hIv1]
        refine (fun _ k_ => k_ (j + 1) _ _ _ R2 r2v 0 oJ9 rfl rfl rfl rfl rfl F6 N6 nd9 ?_ hJ9 hjl rfl)
        rw [etk, List.foldl_append, List.foldl_cons, List.foldl_nil, eS1]
        exact irv
      · rename ps[j].lo ≠ hidden[i] => hlo
        dsimp only
        refine ⟨ps.length - (j + 1), by omega, ?_⟩
        first | rw [hIv2] | rw [hIv1]
        refine (fun _ k_ => k_ (j + 1) h9 _ _ Rw rv cr oJ9 rfl rfl rfl rfl rfl F5 N5 nd8 ?_ hJ9 hjl rfl)
        rw [etk, List.foldl_append, List.foldl_cons, List.foldl_nil, rowStep, if_neg hlo]
        exact ir8
    · have ej : j = ps.length := by omega
      have st' : lSt J St (prVals ps) (prVals ps).length h8 := by
        rw [show (prVals ps).length = j by simp [prVals, ej]]; exact st
      refine walk_done Wk2 (rest := (Rw, W.listOf rv.toArray cr) :: (I, oI4) :: (Ov, oO3) :: lvEnts ls) F8' N8 (fun p hp => ⟨.tail _ hp, tail_off (rest := (Rw, W.listOf rv.toArray cr) :: (I, oI4) :: (Ov, oO3) :: lvEnts ls) ndJ p hp⟩) st' (N8 (J, oJ8) (.head _)).2.1 (N8 (J, oJ8) (.head _)).2.2 ?_
      intro h9 tk9 F9 N9
      dsimp only [ForTurnG]
      clear F8' N8
      have nd9 := (List.nodup_cons.mp nd8).2
      refine apartE3 nd9 ?_; intro q0_1 q0_2 q1_2 qm0 qm1 qm2
      have ll : (lvKvs ls).length ≤ 16000 := by
        have := congrArg List.length ab3
        have h2 : (overF (ps.map Pr.abs) (hidden.take i)).length = (hidden.take i).length := by
          have h3 := congrArg List.length (overF_keys (ps.map Pr.abs) (hidden.take i) [])
          simpa [overF] using h3
        rw [h2] at this
        simp only [List.length_map, List.length_take] at this
        simp only [lvKvs, List.length_map]
        omega
      k_steps
      dsimp only
      rename Fr g L' _ _ => F6
      rename News g L' _ _ => N6
      rename Obj.IsDictOf (intKind PG w) _ (stored _ _ _) => hO6
      have ekey : ls.map (·.k) = hidden.take i := by
        have h2 : ls.map (·.k) = (overF (ps.map Pr.abs) (hidden.take i)).map (·.1) := by
          rw [← ab3, List.map_map]; rfl
        rw [h2, overF, overF_keys]; rfl
      have hnk : ∀ x ∈ ls, x.k ≠ hidden[i] := fun x hx z => by
        have h1 : x.k ∈ hidden.take i := ekey ▸ List.mem_map_of_mem (f := fun x : Lv => x.k) hx
        rw [z] at h1
        have e2 : hidden = hidden.take i ++ hidden[i] :: hidden.drop (i + 1) := by
          rw [List.getElem_cons_drop]; exact (List.take_append_drop i hidden).symm
        have hn2 := hn
        rw [e2, List.nodup_append] at hn2
        exact hn2.2.2 _ h1 _ (.head _) rfl
      rw [stored_new (valueAt_lv hnk)] at hO6
      rename_i a1 oO6
      have ir9 : IntsAre rv (rowF (ls.map Lv.abs) hidden[i] (ps.map Pr.abs)) := by
        have e1 : (ps.map Pr.abs).take j = ps.map Pr.abs := by
          rw [List.take_of_length_le]; rw [List.length_map]; omega
        rw [e1] at ir8; exact ir8
      refine ⟨hidden.length - (i + 1), by omega, ?_⟩
      first | rw [hIv2] | rw [hIv1]
      refine (fun _ k_ => k_ (i + 1) _ _ _ oO6 (ls ++ [⟨hidden[i], Rw, rv, cr, rowF (ls.map Lv.abs) hidden[i] (ps.map Pr.abs)⟩]) oI4 rfl rfl rfl F6 (News.sub N6 (fun p hp => ?_)) ?_ ?_ ?_ hI4 hil rfl ?_)
      · rw [lvEnts_app] at hp
        simp only [lvEnts, List.map_cons, List.map_nil, List.mem_cons, List.mem_append, List.not_mem_nil, or_false] at hp ⊢
        rcases hp with h | h | h | h <;> first | ((repeat' first | exact h | exact Or.inl h | apply Or.inr); done) | simp [h]
      · rw [lvKvs_app]; exact hO6
      · intro x hx
        rcases List.mem_append.mp hx with hx | hx
        · exact lo3 x hx
        · rw [List.mem_singleton.mp hx]; exact ir9
      · rw [lvEnts_app, List.map_append]
        refine (List.Perm.nodup_iff ?_).mp nd9
        exact (List.perm_append_comm (l₁ := [Rw]) (l₂ := I :: Ov :: (lvEnts ls).map (·.1)))
      · rw [overF_take _ hil, List.map_append, ab3]
        simp only [List.map_cons, List.map_nil, Lv.abs]
  · have ei : i = hidden.length := by omega
    refine walk_done Wk (rest := (Ov, oO3) :: lvEnts ls) F3' N3 (fun p hp => ⟨.tail _ hp, tail_off (rest := (Ov, oO3) :: lvEnts ls) ndI p hp⟩) (by rw [hlen, ← ei]; exact st) (N3 (I, oI3) (.head _)).2.1 (N3 (I, oI3) (.head _)).2.2 ?_
    intro h4 tk4 F4 N4
    dsimp only [ForTurn]
    clear F3' N3
    k_steps
    rename Fr g L' _ _ => F6
    rename News g L' _ _ => N6
    obtain ⟨EV, hl⟩ := exitX M F N sg gs KtsTurn.refl F6 N6
    refine hret _ _ _ _ EV hl (fun _ k_ => k_ Ov oO3 ls rfl rfl hO3 lo3 loO ((List.nodup_cons.mp nd3).2) ?_)
    rw [ab3, ei, List.take_length]
end
end
section
section
variable {prog : Program} {w : World} {A : Around} {s : Shared} {env : Env}
end
noncomputable def rSt (I : Addr) (n : Nat) (i : Nat) (h : Heap) : Prop := IsRangeIter h I (0 + (i : Nat) * 1) ((n : Int) - (i : Nat)) 1
theorem rSt.get {I : Addr} {n : Nat} : ∀ i h, rSt I n i h → ∃ o, h.get? I = some o := fun _ _ st => ⟨_, st⟩
section
variable {prog : Program} {w : World} {A : Around} {E : Value → Shared → Prop} {s : Shared} {g : Heap} {L r d : Addr} {m : Str → Option Value} {news : List (Addr × Obj)}
theorem it_range {n : Nat} {t u v : Tok} {od : Obj} {Q : Value → Shared → Prop} (hh : A.handled = none) (F : Fr g L s.heap m) (N : News g L s.heap news) (hr : IsRange s.heap r 0 (n : Int) 1 t u v) (ed : s.heap.get? d = some od) (hsmall : Builtin.Range.small 0 n 1 = true) (hn : Builtin.Range.rangeSize 0 n 1 = n)
    (h : ∀ I h' oI, Fr g L h' m → News g L h' ((I, oI) :: news) → (∀ p ∈ news, p.1 < I) → d < I → Walks prog w A I [I, d] [I] n (fun i v => ∃ t, v = .int (i : Nat) t) (rSt I n) → ItO (rSt I n) I d oI od 0 → Q (.ref I) { s with heap := h' }) :
    wpAny (model prog w) A (pyIter (.ref r)) Q E s := by
  have lt := Heap.lt_size ed
  refine wpAny_pyIter_range (t := t) (u := u) (v := v) hr hsmall ?_
  rw [hn]
  have W0 := Walks.range (prog := prog) (w := w) hh s.heap.objs.size 0 1 n
  have W1 := Walks.mono_fp W0 (fp' := [s.heap.objs.size, d]) (fun b hb => by rw [List.mem_singleton.mp hb]; exact .head _)
  have W : Walks prog w A s.heap.objs.size [s.heap.objs.size, d] [s.heap.objs.size] n (fun i v => ∃ t, v = .int (i : Nat) t) (rSt s.heap.objs.size n) := {
    sub := W1.sub
    frame := W1.frame
    item := fun i s Q E hi st hQ => W1.item i s Q E hi st fun v h' tk hP st' hk => hQ v h' tk (by
      obtain ⟨t, rfl⟩ := hP
      exact ⟨t, by rw [Int.zero_add, Int.mul_one]⟩) st' hk
    done := W1.done
    self := W1.self }
  refine h _ _ _ (F.push _) (News.push F N _ rfl) (fun p hp => Heap.lt_size (N p hp).1) lt W ?_
  refine ItO.of W ?_ (Heap.get?_push_size _ rfl) (Heap.get?_push_of_some _ ed)
  show IsRangeIter _ _ (0 + ((0 : Nat) : Int) * 1) ((n : Int) - ((0 : Nat) : Int)) 1
  simp only [Int.natCast_zero, Int.zero_mul, Int.add_zero, Int.sub_zero]
  exact Heap.get?_push_size _ rfl
theorem meth_list {name : Str} {id : String} {pl : Sem Bool} {l : Addr} {vs : List Value} {c : Nat} {Q : Value × List Value → Shared → Prop} (e : s.heap.get? l = some (W.listOf vs.toArray c)) (slot : Slot "list" name id) (ty : typeOf (.builtin id) = pure (.type "method_descriptor")) (h : Q (.builtin id, [.ref l]) s) : wpAny (model prog w) A (getMethod (.ref l) name pl) Q E s :=
  getMethod_builtin ⟨_, e, rfl⟩ PySem.F.plainAttrs_list slot ty (fun a ha => by cases ha; exact ⟨_, e, rfl⟩) h
theorem item_g {kvs : List (Int × Value)} {o : Obj} {k : Int} {t : Tok} {v : Value} {value slice : PySem.Expr} {Q : Value → Shared → Prop} (e : s.heap.get? d = some o) (hd : o.IsDictOf (intKind prog w) kvs) (hl : valueAt kvs k = some v) (h : Q v { s with toks := s.toks + 1 })
    (hs : subscripted slice false (.ref d) (.int k t) = operate [.ref d, .int k t] (getItem (.ref d) (.int k t)) := by with_unfolding_all rfl) (hg : ∀ r, letTemporaryGo value (.ref d) r = pure () := by intro _; with_unfolding_all rfl) :
    wpAny (model prog w) A (subscriptTail value slice (.ref d) (.int k t)) Q E s :=
  have hD : s.heap.DictOf (intKind prog w) d kvs := Heap.dictOf_iff.mpr ⟨o, e, hd⟩
  subscriptTail_builtin hD.typeIs PySem.slot_dict_getitem.lookup (wpAny_getItem_of (intKind_is _ _ _ _) hD.mapOf hl h) hs hg
end
end
section
open PySem.SeqAt PyProof.V
noncomputable def boolVs (bs : List Bool) : List Value := bs.map Value.bool
theorem readsAll_of_bools {h : Heap} : ∀ (bs : List Bool), ReadsAll h (boolVs bs) (bs.map PyData.bool) []
  | [] => .nil
  | b :: r => by
    have := ReadsAll.cons (Reads.bool (h := h) b) (readsAll_of_bools (h := h) r)
    simpa [boolVs] using this
theorem reads_of_bools {h : Heap} {a : Addr} {bs : List Bool} (hl : h.IsList a (boolVs bs).toArray) : Reads h (.ref a) (.list (bs.map PyData.bool)) [a] := by
  obtain ⟨o, ho, hc, n, hd⟩ := hl
  exact Reads.list ho hc hd (by simpa using readsAll_of_bools bs)
theorem canLayAll0_bools : ∀ bs : List Bool, PyData.canLayAll0 (bs.map PyData.bool) = true
  | [] => by simp [PyData.canLayAll0]
  | b :: r => by simp [PyData.canLayAll0, PyData.canLay0, canLayAll0_bools r]
theorem depthAll_bools : ∀ bs : List Bool, PyData.depthAll (bs.map PyData.bool) ≤ 1
  | [] => by simp [PyData.depthAll]
  | b :: r => by
    have := depthAll_bools r
    simp only [List.map_cons, PyData.depthAll, PyData.depth]
    omega
theorem shaped_bools (bs : List Bool) : shaped (.list (bs.map PyData.bool)) = true := by
  have h1 := depthAll_bools bs
  have h2 : PyData.depth (.list (bs.map PyData.bool)) ≤ 64 := by simp only [PyData.depth]; omega
  show (PyData.canLay0 (.list (bs.map PyData.bool)) && decide (PyData.depth (.list (bs.map PyData.bool)) ≤ 64)) = true
  rw [Bool.and_eq_true]
  exact ⟨by simp only [PyData.canLay0]; exact canLayAll0_bools bs, decide_eq_true h2⟩
theorem noMix_bools : ∀ bs : List Bool, noMixAll (bs.map PyData.bool) [] = true
  | [] => by simp [noMixAll]
  | _ :: _ => by simp [noMixAll]
theorem same_bools : ∀ bs : List Bool, PySem.Spec.sameAll (bs.map PyData.bool) [] = decide (bs = [])
  | [] => by simp [PySem.Spec.sameAll]
  | _ :: _ => by simp [PySem.Spec.sameAll]
theorem any_bools (bs : List Bool) (k : Bool) : (boolVs bs).toArray.any (isBoolOf k) = decide (k ∈ bs) := by
  simp only [boolVs, List.any_toArray, List.any_map]
  induction bs with
  | nil => rfl
  | cons b r ih =>
    rw [List.any_cons, ih]
    simp only [Function.comp, isBoolOf]
    cases b <;> cases k <;> simp
section
variable {prog : Program} {w : World} {A : Around} {E : Value → Shared → Prop} {s : Shared}
theorem eq_bools_nil {a b : Addr} {bs : List Bool} {Q : Value → Shared → Prop} (hl : s.heap.IsList a (boolVs bs).toArray) (hl' : s.heap.IsList b ([] : List Value).toArray) (hu : A.units + 64 < cLine)
    (h : Q (.bool (decide (bs = []))) s) : wpAny (model prog w) A (compareOp .Eq (.ref a) (.ref b)) Q E s :=
  eq_dataH_same (reads_of_bools hl) (reads_of_ints hl' .nil) (shaped_bools bs) (shaped_ints []) hu (by simp only [noMix]; exact noMix_bools bs) (by simp only [PySem.Spec.same]; rw [show ([] : List Int).map PyData.int = [] from rfl, same_bools]; exact h)
theorem in_bools {a : Addr} {bs : List Bool} {k : Bool} {Q : Value → Shared → Prop} (hl : s.heap.IsList a (boolVs bs).toArray) (h : Q (.bool (decide (k ∈ bs))) s) : wpAny (model prog w) A (compareOp .In (.bool k) (.ref a)) Q E s := by
  refine in_listAt (isBoolOf k) hl (fun y hy => ?_) ?_
  · have hy : y ∈ boolVs bs := by simpa using hy
    obtain ⟨b, _, rfl⟩ := List.mem_map.mp hy
    exact EqAt.bool_bool b k
  · have e := any_bools bs k
    first
      | (rw [e]; exact h)
      | (simp only [e]; exact h)
end
end
local macro_rules | `(tactic| walk_at $s) => zd [] [("eval BinOp", zky1), ("eval Call", zky2), ("eval Call Attribute", zky3), ("eval Subscript", zky4), ("isTrue Compare", zky5), ("eval Compare", zky6), ("getMethod ref", zgmn), ("call builtin:list.count", zlcn)] s
section
noncomputable def gapF (one other : List Int) (j : Int) : Int := ((one.count j : Nat) : Int) - ((other.count j : Nat) : Int)
noncomputable def topOk (one other : List Int) (ov : List (Int × List Int)) (j : Int) : Bool := decide (gapF one other j ≠ 0) && decide ((lookL ov j).filter (fun e => decide (gapF one other e ≠ 0)) = [])
noncomputable def topsF (one other : List Int) (ov : List (Int × List Int)) (n : Nat) : List Bool := ((List.range n).filter fun (j : Nat) => topOk one other ov (j : Int)).map fun (j : Nat) => decide (gapF one other (j : Int) > 0)
noncomputable def ofTops (t : List Bool) : Int := if t = [] then 0 else if true ∈ t ∧ false ∈ t then 2 else if t.headD false = true then 1 else -1
noncomputable def byCounts (one other : List Int) (ov : List (Int × List Int)) : Int := ofTops (topsF one other ov 5)
theorem topsF_succ (one other : List Int) (ov : List (Int × List Int)) (n : Nat) : topsF one other ov (n + 1) = topsF one other ov n ++ (if topOk one other ov (n : Int) = true then [decide (gapF one other (n : Int) > 0)] else []) := by
  unfold topsF
  rw [List.range_succ, List.filter_append, List.map_append]
  congr 1
  by_cases h : topOk one other ov (n : Int) = true
  · simp [h]
  · simp [h]
theorem item_head {prog : Program} {w : World} {A : Around} {E : Value → Shared → Prop} {s : Shared} {l : Addr} {v : Value} {vs : List Value} {c : Nat} {u : Tok} {value slice : PySem.Expr} {Q : Value → Shared → Prop} (e : s.heap.get? l = some (W.listOf (v :: vs).toArray c))
    (h : Q v s) (hs : subscripted slice false (.ref l) (.int 0 u) = operate [.ref l, .int 0 u] (getItem (.ref l) (.int 0 u)) := by with_unfolding_all rfl) :
    wpAny (model prog w) A (subscriptTail value slice (.ref l) (.int 0 u)) Q E s := by
  have hT : s.heap.IsList l (v :: vs).toArray := ⟨_, e, rfl, _, rfl⟩
  exact tail_any hT.typeIs PySem.slot_list_getitem.lookup (wpAny_getItem_list hT (by decide) (by decide) (by simp) h) hs
theorem item_ints {prog : Program} {w : World} {A : Around} {E : Value → Shared → Prop} {s : Shared} {l : Addr} {vs : List Value} {c : Nat} {xs : List Int} {k : Int} {u : Tok} {value slice : PySem.Expr} {Q : Value → Shared → Prop} (e : s.heap.get? l = some (W.listOf vs.toArray c)) (hi : IntsAre vs xs) (h0 : 0 ≤ k) (hl : k < (xs.length : Int)) (hb : xs.length ≤ 1000000)
    (h : ∀ t, Q (.int (xs.getD k.toNat 0) t) s) (hs : subscripted slice false (.ref l) (.int k u) = operate [.ref l, .int k u] (getItem (.ref l) (.int k u)) := by with_unfolding_all rfl) :
    wpAny (model prog w) A (subscriptTail value slice (.ref l) (.int k u)) Q E s := by
  have hk : k.toNat < xs.length := by omega
  refine exE1 (ints_at hi k.toNat hk) fun t ht => ?_
  have e1 : xs.getD k.toNat 0 = xs[k.toNat] := by simp [List.getD, hk]
  have hT : s.heap.IsList l vs.toArray := ⟨_, e, rfl, _, rfl⟩
  exact tail_any hT.typeIs PySem.slot_list_getitem.lookup (wpAny_getItem_list hT h0 (by omega) (by simpa using ht) (by rw [← e1]; exact h t)) hs
section
local macro_rules | `(tactic| walk_at $s) => zd ["binaryOp Add ref ref", "exec For Name Call cons nil", "exec For Name Call cons cons", "compareOp Eq ref ref", "compareOp In bool ref", "exec Assign cons ListComp", "eval ListComp", "eval ListComp Attribute"] [("subscriptTail", zsubb)] s
local macro_rules | `(tactic| walk_at $s) => zd [] [] s
theorem con_counts {w : World} {h : Heap} {A1 B1 Ov : Addr} {one other : List Int} {oO : Obj} {ls : List Lv} (i1 : IsL h A1 one) (i2 : IsL h B1 other) (eO : h.get? Ov = some oO) (hO : oO.IsDictOf (intKind PG w) (lvKvs ls))
    (iL : ∀ x ∈ ls, h.get? x.a = some (W.listOf x.vs.toArray x.c) ∧ IntsAre x.vs x.xs) (hk5 : ∀ j : Nat, j < 5 → (j : Int) ∈ ls.map (·.k)) (hin : ∀ x ∈ ls, ∀ e ∈ x.xs, 0 ≤ e ∧ e < 5) (hxlen : ∀ x ∈ ls, x.xs.length ≤ 1000) :
    ConX w 242 100 [] [.ref A1, .ref B1, .ref Ov] (fun v led h' => led = [] ∧ ∃ t, v = .int (byCounts one other (ls.map Lv.abs)) t) h := by
  revert i1 i2 eO hO iL hk5 hin hxlen
  revert w h A1 B1 Ov one other oO ls
  walk_at "9"; (iterate 3 (generalize zf w_ = other; generalize zs w_ = v_; clear w_; generalize zf v_ = other; generalize zs v_ = w_; clear v_)); generalize zf w_ = other; generalize zs w_ = v_; clear w_; generalize zf v_ = oO, zs v_ = ls; clear v_; rename_i w h A1 B1 Ov one
  intro i1 i2 eO hO iL hk5 hin hxlen
  refine ConX.hk ?_; generalize wX _ _ _ _ _ _ _ = c_; delta ConXat; generalize c_.mean = mean, c_.mg = mg, c_.mb = mb, c_.dp = dp, c_.un = un, c_.gd = gd, c_.cn = cn, c_.cs = cs, c_.a = a, c_.ccd = ccd, c_.cl = cl, c_.outer = outer, c_.A₀ = A₀, c_.base = base, c_.h₀ = h₀, c_.L = L, c_.m = m, c_.s = s, c_.Q = Q, c_.E = E
  intro hh M F N hk hdp hun hret
  subst hh
  have X := M.X
  (refine wpAny_call ?_; k_dflt (refine' enterXC ?k1 ?k2 ?k4 ?kK ?k6 ?k7 ?k8 ?k9 ?kB ?kD ?_ ?c2 ?c3 ?c4; (case kK => assumption); (case k1 => assumption); (case k2 => assumption); (case k4 => assumption); (case k6 => k_is); (case k7 => k_is); (case k8 => omega); (case k9 => first | exact BindsTo.of_eq rfl | exact binds_K (by k_in) rfl (by k_is) rfl rfl rfl); (case kB => exact rfl); (case kD => decide +kernel); (case c2 => exact rfl); (case c3 => exact rfl); (case c4 => exact rfl); k_whole))
  walk_at "5"; generalize zf w_ = g, zf (zs w_) = L', zf (zs (zs w_)) = h₁, zf (zs (zs (zs w_))) = tk, zs (zs (zs (zs w_))) = cells
  intro sg gs eL lt F' N' Y' M'
  (try dsimp only)
  refine wpAny_noRaise ?_
  have B' := M'.B
  have X' := M'.X
  have T' := M'.T
  refine exE3 (CellsAre.three Y') fun oc1 oc2 oc3 h104_1 => ?_
  have hE := h104_1.1
  have dc1 := h104_1.2.1
  have dc2 := h104_1.2.2.1
  have dc3 := h104_1.2.2.2
  subst hE
  clear Y' lt
  simp only [List.cons_append, List.nil_append] at N'
  refine exE2 (IsL.ground sg i1 (fun z => nomatch z)) fun v1 k1 h108_1 => ?_
  have e1 := h108_1.1
  have iv1 := h108_1.2
  refine exE2 (IsL.ground sg i2 (fun z => nomatch z)) fun v2 k2 h109_1 => ?_
  have e2 := h109_1.1
  have iv2 := h109_1.2
  have eO' : g.get? Ov = some oO := sg _ _ (fun z => nomatch z) eO
  have iL' : ∀ x ∈ ls, g.get? x.a = some (W.listOf x.vs.toArray x.c) ∧ IntsAre x.vs x.xs := fun x hx => ⟨sg _ _ (fun z => nomatch z) (iL x hx).1, (iL x hx).2⟩
  k_steps
  refine Blk.out ?_
  walk_at "exec Assign"
  refine' comp_raw ?hclos ?hcell rfl ?hnames ?_
  (case hclos => with_unfolding_all rfl)
  (case hcell => decide)
  (case hnames => decide)
  k_steps
  refine Blk.out ?_
  rename IsRange _ _ _ _ _ _ _ _ => hr
  rename Fr g L' _ _ => F5
  rename News g L' _ _ => N5
  refine it_range (n := 5) (d := L' + 1 + 1 + 1) (od := oc1) rfl F5 N5 hr (N5 _ (.head _)).1 (by decide) (by decide) ?_
  intro I hI oI F6 N6 lt6 ltI Wk hO
  refine comp_leafK (news := [(L' + 1 + 1 + 1, oc1), (L' + 1 + 1, oc2), (L' + 1, oc3)]) F6 N6 (fun p hp => Nat.ne_of_lt (lt6 p hp)) Wk rSt.get hO (fun h _ N => (N _ (.head _)).1)
    (fun i acc => IntsAre acc ((List.range i).map fun (j : Nat) => gapF one other (j : Int))) .nil ?_ ?_
  · intro i v acc cc D C oC h tk2 mC oI' hin hv hI hoC FC NC ltD ltI2 eC K hK
    obtain ⟨tv, rfl⟩ := hv
    have ltC : ∀ p ∈ (D, W.listOf acc.toArray cc) :: (I, oI') :: [(L' + 1 + 1 + 1, oc1), (L' + 1 + 1, oc2), (L' + 1, oc3)], p.1 ≠ C := fun p hp => by
      refine Nat.ne_of_lt (Nat.lt_of_le_of_lt ?_ (Nat.lt_of_lt_of_eq (Nat.lt_succ_self _) eC.symm))
      rcases List.mem_cons.mp hp with rfl | hp
      · exact Nat.le_refl _
      rcases List.mem_cons.mp hp with rfl | hp
      · exact Nat.le_of_lt ltI2
      · exact Nat.le_of_lt (ltD p hp)
    refine assign_own FC NC hoC ltC ?_
    intro h7 oC7 tk7 F7 N7 hoC7
    obtain ⟨mC7, hoC8, hmi⟩ : ∃ mC', LCg.NsObj oC7 mC' ∧ mC' (Str.ofString "name") = some (.int (i : Nat) tv) := ⟨_, hoC7, if_pos rfl⟩
    clear hoC7 hoC FC NC N5 F5 N6 F6
    refine ifs_nil ?_
    rw [if_pos rfl]
    have f1 := F7.keep _ _ e1
    have f2 := F7.keep _ _ e2
    have d0 : D ≠ C := Nat.ne_of_lt (Nat.lt_of_lt_of_eq (Nat.lt_succ_self _) eC.symm)
    have d1 : D ≠ I := Nat.ne_of_gt ltI2
    have d2 : D ≠ L' + 1 + 1 + 1 := Nat.ne_of_gt (ltD _ (.head _))
    have d3 : D ≠ L' + 1 + 1 := Nat.ne_of_gt (ltD _ (.tail _ (.head _)))
    have d4 : D ≠ L' + 1 := Nat.ne_of_gt (ltD _ (.tail _ (.tail _ (.head _))))
    have lacc : acc.length ≤ 100 := by
      rw [hI.length, List.length_map, List.length_range]; omega
    k_steps
    rename Fr g L' _ _ => F8
    rename News g L' _ _ => N8
    simp only [List.push_toArray] at N8
    refine hK _ _ mC7 oC7 (acc ++ [Value.int _ _]) _ hoC8 F8 N8 ?_
    rw [List.range_succ, List.map_append]
    exact IntsAre.append hI (.cons _ _ .nil)
  · intro acc cc D h tk2 hI F7 N7 ltD
    clear N5 F5 N6 F6 lt6 Wk hO hr
    have ltD' := ltD
    k_lt ltD'
    have d1 : D ≠ L' + 1 + 1 + 1 := Nat.ne_of_gt (ltD _ (.head _))
    have d2 : D ≠ L' + 1 + 1 := Nat.ne_of_gt (ltD _ (.tail _ (.head _)))
    have d3 : D ≠ L' + 1 := Nat.ne_of_gt (ltD _ (.tail _ (.tail _ (.head _))))
    k_steps
    refine Blk.out ?_
    refine for_rawK ?_
    k_steps
    refine Blk.out ?_
    rename IsRange _ _ _ _ _ _ _ _ => hr
    rename Fr g L' _ _ => F5
    rename News g L' _ _ => N5
    rename_i a1 oG dG a2 Tp a3 lT a4 Fx Nx a5 a6 a7 a8 a9 a10
    clear Fx Nx
    refine it_range (n := 5) (d := Tp) (od := W.listOf [].toArray 0) rfl F5 N5 hr (N5 _ (.head _)).1 (by decide) (by decide) ?_
    intro J hJ oJ F6 N6 lt6 ltJ Wk2 hO2
    have egap : ∀ e : Int, 0 ≤ e → e < 5 → ((List.range 5).map fun (j : Nat) => gapF one other (j : Int)).getD e.toNat 0 = gapF one other e := fun e h0 h5 => by
      have : e.toNat < 5 := by omega
      rw [List.getD_eq_getElem?_getD, List.getElem?_map, List.getElem?_range this]
      simp only [Option.map_some, Option.getD_some]
      rw [Int.toNat_of_nonneg h0]
    have glen : ((List.range 5).map fun (j : Nat) => gapF one other (j : Int)).length = 5 := by simp
    have ndT : J ≠ Tp ∧ Tp ≠ D ∧ J ≠ D := ⟨Nat.ne_of_gt ltJ, Nat.ne_of_gt lT.1, Nat.ne_of_gt (lt6 (D, W.listOf acc.toArray cc) (.tail _ (.head _)))⟩
    have n1 := ndT.1
    have n2 := ndT.2.1
    have n3 := ndT.2.2
    have m1 : J ≠ L' + 1 + 1 + 1 := Nat.ne_of_gt (lt6 (L' + 1 + 1 + 1, oG) (.tail _ (.tail _ (.head _))))
    have m2 : J ≠ L' + 1 + 1 := Nat.ne_of_gt (lt6 (L' + 1 + 1, oc2) (.tail _ (.tail _ (.tail _ (.head _)))))
    have m3 : J ≠ L' + 1 := Nat.ne_of_gt (lt6 (L' + 1, oc3) (.tail _ (.tail _ (.tail _ (.tail _ (.head _))))))
    have q1 := lT.2.1
    have q2 := lT.2.2.1
    have q3 := lT.2.2.2
    have p1 : Tp ≠ L' + 1 + 1 + 1 := Nat.ne_of_gt q1
    have p2 : Tp ≠ L' + 1 + 1 := Nat.ne_of_gt q2
    have p3 : Tp ≠ L' + 1 := Nat.ne_of_gt q3
    obtain ⟨Iv1, hIv1⟩ : ∃ Iv1 : Nat → Shared → Prop, Iv1 = fun n s' => ∀ G_ : Prop, (∀ i h tk m' ct oJ, (s' = { s with heap := h, toks := tk }) → (m' (Str.ofString "over") = some (.ref Ov)) → (m' (Str.ofString "tops") = some (.ref Tp)) → (Fr g L' h m') → (News g L' h ((J, oJ) :: (Tp, W.listOf (boolVs (topsF one other (ls.map Lv.abs) i)).toArray ct) :: (D, W.listOf acc.toArray cc) :: (L' + 1 + 1 + 1, oG) :: (L' + 1 + 1, oc2) :: (L' + 1, oc3) :: [])) → ((∀ h' : Heap, h'.get? J = some oJ → rSt J 5 i h')) → (i ≤ 5) → (n = 5 - i) → G_) → G_ := ⟨_, rfl⟩
    refine ⟨Iv1, 5, ?_, ?_⟩
    rw [hIv1]
    refine (fun _ k_ => k_ 0 hJ _ _ 0 oJ rfl rfl rfl F6 N6 (fun h' e => ?_) (Nat.zero_le _) rfl)
    · have := hO2 hJ (N6 _ (.head _)).1 (N6 _ (.tail _ (.head _))).1
      show h'.get? J = _
      have this : hJ.get? J = _ := this
      have e2 := (N6 _ (.head _)).1
      dsimp only at e2
      rw [e2] at this
      rw [e, this]
    intro n s' hI1_ K kN kB kR; (first | rw [hIv1] at hI1_ | skip); refine hI1_ _ ?_; clear hI1_; intro i h8 tk8 m8 ct oJ8 e2_ k1' k2' F8 N8 hJ8 hi5 e3_; subst e2_; subst e3_
    have st := hJ8 h8 (N8 _ (.head _)).1
    have F8' := frk F8 _ (kn1 k1' (kn1 k2' kn0))
    clear F8 N6 F6 F5 N5 hO2 lt6 hr a10
    by_cases hil : i < 5
    · refine walk_item Wk2 rSt.get F8' N8 (UpdF.head (fun p hp => ?_)) st hil ?_
      · simp only [List.mem_cons, List.not_mem_nil, or_false] at hp
        rcases hp with rfl | rfl | rfl | rfl | rfl
        · exact n1.symm
        · exact n3.symm
        · exact m1.symm
        · exact m2.symm
        · exact m3.symm
      intro v h4 tk4 oJ4 hv st4 F4 N4
      obtain ⟨tv, rfl⟩ := hv
      have hJ4 : ∀ h' : Heap, h'.get? J = some oJ4 → rSt J 5 (i + 1) h' := fun h' e => by
        show h'.get? J = _
        have st4 : h4.get? J = _ := st4
        have e2 := (N4 _ (.head _)).1
        dsimp only at e2
        rw [e2] at st4
        rw [e, st4]
      dsimp only [ForTurnK]
      clear F8' N8 st st4 hJ8
      have tlen : (boolVs (topsF one other (ls.map Lv.abs) i)).length ≤ 100 := by
        unfold boolVs topsF
        rw [List.length_map, List.length_map]
        refine Nat.le_trans (List.length_filter_le _ _) ?_
        rw [List.length_range]; omega
      have eg : ((List.range 5).map fun (j : Nat) => gapF one other (j : Int)).getD (i : Int).toNat 0 = gapF one other (i : Int) := egap _ (by omega) (by omega)
      k_steps
      · rename (List.getD _ _ _ ≠ 0) => hg
        rw [eg] at hg
        refine Blk.out ?_
        refine' comp_raw ?hclos ?hcell rfl ?hnames ?_
        (case hclos => with_unfolding_all rfl)
        (case hcell => decide)
        (case hnames => decide)
        refine exE1 (lv_find (hk5 i hil)) fun x h242_1 => ?_
        have hx := h242_1.1
        have hxk := h242_1.2.1
        have hxv := h242_1.2.2.1
        have hxl := h242_1.2.2.2
        have iX := iL' x hx
        k_steps
        refine Blk.out ?_
        rename Fr g L' _ _ => F9
        rename News g L' _ _ => N9
        dsimp only
        refine item_g (F9.keep _ _ eO') hO hxv ?_
        k_steps
        refine Blk.out ?_
        rename Fr g L' _ _ => F10
        rename News g L' _ _ => N10
        refine it_list (T := x.a) (vs := x.vs) (c := x.c) rfl F10 N10 (F10.keep _ _ iX.1) ?_
        intro I2 hI2 oI2 F11 N11 lt11 ltI2 Wk3 hO3
        refine comp_leafK (news := (J, oJ4) :: (Tp, W.listOf (boolVs (topsF one other (ls.map Lv.abs) i)).toArray ct) :: (D, W.listOf acc.toArray cc) :: (L' + 1 + 1 + 1, oG) :: (L' + 1 + 1, oc2) :: (L' + 1, oc3) :: []) F11 N11 (fun p hp => Nat.ne_of_lt (lt11 p hp)) Wk3 lSt.get hO3 (fun h F _ => F.keep _ _ iX.1)
          (fun i acc => IntsAre acc ((x.xs.take i).filter fun e => decide (gapF one other e ≠ 0))) .nil ?_ ?_
        · intro i2 v acc2 cc2 D2 C2 oC h tk2 mC oI' hin2 hv2 hI2' hoC FC NC ltD2 ltI3 eC2 K hK
          have hin3 : i2 < x.xs.length := by rw [← iX.2.length]; exact hin2
          refine exE1 (ints_at iX.2 i2 hin3) fun t2 ht2 => ?_
          rw [List.getElem?_toArray, hv2] at ht2
          obtain rfl := Option.some.inj ht2
          have h263_ := hin x hx _ (List.getElem_mem hin3)
          have hx0 := h263_.1
          have hx5 := h263_.2
          have etk2 : x.xs.take (i2 + 1) = x.xs.take i2 ++ [x.xs[i2]] := List.take_succ_eq_append_getElem hin3
          have eg2 := egap _ hx0 hx5
          generalize hel : x.xs[i2] = el at *
          have ltC : ∀ p ∈ (D2, W.listOf acc2.toArray cc2) :: (I2, oI') :: (J, oJ4) :: (Tp, W.listOf (boolVs (topsF one other (ls.map Lv.abs) i)).toArray ct) :: (D, W.listOf acc.toArray cc) :: (L' + 1 + 1 + 1, oG) :: (L' + 1 + 1, oc2) :: (L' + 1, oc3) :: [], p.1 ≠ C2 := fun p hp => by
            refine Nat.ne_of_lt (Nat.lt_of_le_of_lt ?_ (Nat.lt_of_lt_of_eq (Nat.lt_succ_self _) eC2.symm))
            rcases List.mem_cons.mp hp with rfl | hp
            · exact Nat.le_refl _
            rcases List.mem_cons.mp hp with rfl | hp
            · exact Nat.le_of_lt ltI3
            · exact Nat.le_of_lt (ltD2 p hp)
          refine assign_own FC NC hoC ltC ?_
          intro h7 oC7 tk7 F7 N7 hoC7
          obtain ⟨mC7, hoC8, hmi⟩ : ∃ mC', LCg.NsObj oC7 mC' ∧ mC' (Str.ofString "high") = some (.int el t2) := ⟨_, hoC7, if_pos rfl⟩
          clear hoC7 hoC FC NC N11 F11 N10 F10
          refine ifs_one ?_
          have d0 : D2 ≠ C2 := Nat.ne_of_lt (Nat.lt_of_lt_of_eq (Nat.lt_succ_self _) eC2.symm)
          have d1 : D2 ≠ I2 := Nat.ne_of_gt ltI3
          have ltD3 := ltD2
          k_lt ltD3
          have s1 := ltD3.1
          have s2 := ltD3.2.1
          have s3 := ltD3.2.2.1
          have s4 := ltD3.2.2.2.1
          have s5 := ltD3.2.2.2.2.1
          have s6 := ltD3.2.2.2.2.2
          have d2 : D2 ≠ J := Nat.ne_of_gt s1
          have d3 : D2 ≠ Tp := Nat.ne_of_gt s2
          have d4 : D2 ≠ D := Nat.ne_of_gt s3
          have d5 : D2 ≠ L' + 1 + 1 + 1 := Nat.ne_of_gt s4
          have d6 : D2 ≠ L' + 1 + 1 := Nat.ne_of_gt s5
          have d7 : D2 ≠ L' + 1 := Nat.ne_of_gt s6
          have lacc : acc2.length ≤ 1000 := by
            rw [hI2'.length]
            exact Nat.le_trans (List.length_filter_le _ _) (Nat.le_trans (List.length_take_le _ _) (Nat.le_trans (Nat.le_of_lt hin3) (hxlen x hx)))
          k_steps
          · rename (List.getD _ _ _ ≠ 0) => hg2
            rw [eg2] at hg2
            rename Fr g L' _ _ => F9
            rename News g L' _ _ => N9
            simp only [List.push_toArray] at N9
            refine hK _ _ mC7 oC7 (acc2 ++ [Value.int el t2]) _ hoC8 F9 N9 ?_
            rw [etk2, List.filter_append, List.filter_cons_of_pos (by simpa using hg2), List.filter_nil]
            exact IntsAre.append hI2' (.cons _ _ .nil)
          · rename (List.getD _ _ _ = 0) => hg2
            rw [eg2] at hg2
            rename Fr g L' _ _ => F9
            rename News g L' _ _ => N9
            refine hK _ _ mC7 oC7 (acc2) _ hoC8 F9 N9 ?_
            rw [etk2, List.filter_append, List.filter_cons_of_neg (by simpa using hg2), List.filter_nil, List.append_nil]
            exact hI2'
        · intro acc2 cc2 D2 h tk2 hI2' F12 N12 ltD2
          rw [iX.2.length, List.take_length] at hI2'
          clear N11 F11 N10 F10
          k_lt ltD2
          k_steps
          refine Blk.out ?_
          rename Fr g L' _ _ => F13
          rename News g L' _ _ => N13
          rename_i E1 hE1 lE
          refine eq_intsK (vs := acc2) (us := []) (ns := x.xs.filter fun e => decide (gapF one other e ≠ 0)) (ms := []) ⟨_, (N13 (D2, _) (.tail _ (.head _))).1, rfl, _, rfl⟩ hI2' ⟨_, (N13 (E1, _) (.head _)).1, rfl, _, rfl⟩ .nil (by show un + 3 + 64 < cLine; omega) ?_
          have N14 : News g L' hE1 ((J, oJ4) :: (Tp, W.listOf (boolVs (topsF one other (ls.map Lv.abs) i)).toArray ct) :: (D, W.listOf acc.toArray cc) :: (L' + 1 + 1 + 1, oG) :: (L' + 1 + 1, oc2) :: (L' + 1, oc3) :: []) := News.sub N13 (fun p hp => .tail _ (.tail _ hp))
          clear N13 lE
          rcases Classical.em ((x.xs.filter fun e => decide (gapF one other e ≠ 0)) = []) with hnil | hnil
          · rw [decide_eq_true hnil]
            k_steps
            rename Fr g L' _ _ => F14
            rename News g L' _ _ => N15
            try dsimp only
            refine And.left (kN (5 - (i + 1)) _ (by omega) ?_)
            first | rw [hIv1]
            refine (fun _ k_ => k_ (i + 1) _ _ _ (ct + 1) oJ4 rfl rfl rfl F14 ?_ hJ4 hil rfl)
            rw [topsF_succ, if_pos (by rw [topOk, decide_eq_true hg, hxl, decide_eq_true hnil]; rfl)]
            simp only [List.push_toArray, eg] at N15
            rw [show boolVs (topsF one other (ls.map Lv.abs) i ++ [decide (gapF one other (i : Int) > 0)]) = boolVs (topsF one other (ls.map Lv.abs) i) ++ [Value.bool (decide (gapF one other (i : Int) > 0))] by simp [boolVs]]
            exact N15
          · rw [decide_eq_false hnil]
            k_steps
            rename Fr g L' _ _ => F14
            try dsimp only
            refine And.left (kN (5 - (i + 1)) _ (by omega) ?_)
            first | rw [hIv1]
            refine (fun _ k_ => k_ (i + 1) _ _ _ ct oJ4 rfl rfl rfl F14 ?_ hJ4 hil rfl)
            rw [topsF_succ, if_neg (by rw [topOk, hxl, decide_eq_false hnil, Bool.and_false]; exact Bool.false_ne_true), List.append_nil]
            exact N14
      · rename (List.getD _ _ _ = 0) => hg
        rw [eg] at hg
        rename Fr g L' _ _ => F9
        rename News g L' _ _ => N9
        try dsimp only
        refine And.left (kN (5 - (i + 1)) _ (by omega) ?_)
        first | rw [hIv1]
        refine (fun _ k_ => k_ (i + 1) _ _ _ ct oJ4 rfl rfl rfl F9 ?_ hJ4 hil rfl)
        rw [topsF_succ, if_neg (by simp [topOk, hg]), List.append_nil]
        exact N9
    · have ei : i = 5 := by omega
      subst ei
      refine walk_done Wk2 (rest := (Tp, W.listOf (boolVs (topsF one other (ls.map Lv.abs) 5)).toArray ct) :: []) F8' N8 (fun p hp => ?_) st (N8 (J, oJ8) (.head _)).2.1 (N8 (J, oJ8) (.head _)).2.2 ?_
      · obtain rfl := List.mem_singleton.mp hp
        exact ⟨.tail _ (.head _), n1.symm⟩
      intro h4 tk4 F4 N4
      dsimp only [ForTurnK]
      clear F8' N8 st hJ8
      k_steps
      refine Blk.out ?_
      rename Fr g L' _ _ => F9
      rename News g L' _ _ => N9
      rename_i E1 hE1 lE
      refine eq_bools_nil (bs := topsF one other (ls.map Lv.abs) 5) ⟨_, (N9 (Tp, _) (.tail _ (.head _))).1, rfl, _, rfl⟩ ⟨_, (N9 (E1, _) (.head _)).1, rfl, _, rfl⟩ (by show un + 3 + 64 < cLine; omega) ?_
      have N10 : News g L' hE1 ((Tp, W.listOf (boolVs (topsF one other (ls.map Lv.abs) 5)).toArray ct) :: []) := News.sub N9 (fun p hp => .tail _ hp)
      clear N9 lE
      rcases Classical.em (topsF one other (ls.map Lv.abs) 5 = []) with hnil | hnil
      · rw [decide_eq_true hnil]
        k_steps
        obtain ⟨EV, hl⟩ := exitX M F N sg gs KtsTurn.refl F9 (News.sub N10 (led' := []) (fun p hp => nomatch hp))
        exact hret _ _ _ _ EV hl ⟨rfl, _, by rw [byCounts, ofTops, if_pos hnil]⟩
      · rw [decide_eq_false hnil]
        k_steps
        refine Blk.out ?_
        refine in_bools (bs := topsF one other (ls.map Lv.abs) 5) ⟨_, (N10 (Tp, _) (.head _)).1, rfl, _, rfl⟩ ?_
        rcases Classical.em (true ∈ topsF one other (ls.map Lv.abs) 5) with ht | ht
        · rw [decide_eq_true ht]
          k_steps
          refine Blk.out ?_
          refine in_bools (bs := topsF one other (ls.map Lv.abs) 5) ⟨_, (N10 (Tp, _) (.head _)).1, rfl, _, rfl⟩ ?_
          rcases Classical.em (false ∈ topsF one other (ls.map Lv.abs) 5) with hf | hf
          · rw [decide_eq_true hf]
            k_steps
            dsimp only
            obtain ⟨EV, hl⟩ := exitX M F N sg gs KtsTurn.refl F9 (News.sub N10 (led' := []) (fun p hp => nomatch hp))
            exact hret _ _ _ _ EV hl ⟨rfl, _, by rw [byCounts, ofTops, if_neg hnil, if_pos ⟨ht, hf⟩]⟩
          · rw [decide_eq_false hf]
            k_steps
            refine Blk.out ?_
            obtain ⟨b, r, ebr⟩ : ∃ b r, topsF one other (ls.map Lv.abs) 5 = b :: r := List.exists_cons_of_ne_nil hnil
            have eb : b = true := by
              cases b with
              | true => rfl
              | false => exact absurd (by rw [ebr]; exact .head _) hf
            subst eb
            refine item_head (v := .bool true) (vs := boolVs r) (c := ct) (by have := (N10 (Tp, _) (.head _)).1; rw [ebr] at this; exact this) ?_
            k_steps
            obtain ⟨EV, hl⟩ := exitX M F N sg gs KtsTurn.refl F9 (News.sub N10 (led' := []) (fun p hp => nomatch hp))
            exact hret _ _ _ _ EV hl ⟨rfl, _, by rw [byCounts, ofTops, if_neg hnil, if_neg (fun z => hf z.2), ebr]; rfl⟩
        · rw [decide_eq_false ht]
          k_steps
          refine Blk.out ?_
          obtain ⟨b, r, ebr⟩ : ∃ b r, topsF one other (ls.map Lv.abs) 5 = b :: r := List.exists_cons_of_ne_nil hnil
          have eb : b = false := by
            cases b with
            | false => rfl
            | true => exact absurd (by rw [ebr]; exact .head _) ht
          subst eb
          refine item_head (v := .bool false) (vs := boolVs r) (c := ct) (by have := (N10 (Tp, _) (.head _)).1; rw [ebr] at this; exact this) ?_
          k_steps
          obtain ⟨EV, hl⟩ := exitX M F N sg gs KtsTurn.refl F9 (News.sub N10 (led' := []) (fun p hp => nomatch hp))
          exact hret _ _ _ _ EV hl ⟨rfl, _, by rw [byCounts, ofTops, if_neg hnil, if_neg (fun z => ht z.1), ebr]; rfl⟩
end
end
section
noncomputable def rowVals (rs : List Lv) : List Value := rs.map fun x => .ref x.a
noncomputable def cntF (xs : List Int) (row : List Int) : List Int := row.map fun n => ((xs.count n : Nat) : Int)
noncomputable def rowsF (one other : List Int) (rows : List (List Int)) : List Int := rows.map fun r => cmp3 (cntF one r) (cntF other r)
noncomputable def ofRows (t : List Int) : Int := if (∀ a ∈ t, a = t.headD 0) then t.headD 0 else 2
section
local macro_rules | `(tactic| walk_at $s) => zd ["exec For Name Name cons nil", "exec For Name Name cons cons", "eval ListComp", "call builtin:min", "call builtin:max"] [("subscriptTail", zsubb)] s
theorem con_rows {w : World} {h : Heap} {A1 B1 Rs : Addr} {one other : List Int} {cR : Nat} {rs : List Lv} (i1 : IsL h A1 one) (i2 : IsL h B1 other) (eR : h.get? Rs = some (W.listOf (rowVals rs).toArray cR)) (hne : rs ≠ [])
    (iL : ∀ x ∈ rs, h.get? x.a = some (W.listOf x.vs.toArray x.c) ∧ IntsAre x.vs x.xs) (hl : rs.length ≤ 50) (hxlen : ∀ x ∈ rs, x.xs.length ≤ 1000) :
    ConX w 237 100 [] [.ref A1, .ref B1, .ref Rs] (fun v led h' => led = [] ∧ ∃ t, v = .int (ofRows (rowsF one other (rs.map (·.xs)))) t) h := by
  revert i1 i2 eR hne iL hl hxlen
  revert w h A1 B1 Rs one other cR rs
  walk_at "9"; (iterate 3 (generalize zf w_ = other; generalize zs w_ = v_; clear w_; generalize zf v_ = other; generalize zs v_ = w_; clear v_)); generalize zf w_ = other; generalize zs w_ = v_; clear w_; generalize zf v_ = cR, zs v_ = rs; clear v_; rename_i w h A1 B1 Rs one
  intro i1 i2 eR hne iL hl hxlen
  refine ConX.hk ?_; generalize wX _ _ _ _ _ _ _ = c_; delta ConXat; generalize c_.mean = mean, c_.mg = mg, c_.mb = mb, c_.dp = dp, c_.un = un, c_.gd = gd, c_.cn = cn, c_.cs = cs, c_.a = a, c_.ccd = ccd, c_.cl = cl, c_.outer = outer, c_.A₀ = A₀, c_.base = base, c_.h₀ = h₀, c_.L = L, c_.m = m, c_.s = s, c_.Q = Q, c_.E = E
  intro hh M F N hk hdp hun hret
  subst hh
  have X := M.X
  (refine wpAny_call ?_; k_dflt (refine' enterXC ?k1 ?k2 ?k4 ?kK ?k6 ?k7 ?k8 ?k9 ?kB ?kD ?_ ?c2 ?c3 ?c4; (case kK => assumption); (case k1 => assumption); (case k2 => assumption); (case k4 => assumption); (case k6 => k_is); (case k7 => k_is); (case k8 => omega); (case k9 => first | exact BindsTo.of_eq rfl | exact binds_K (by k_in) rfl (by k_is) rfl rfl rfl); (case kB => exact rfl); (case kD => decide +kernel); (case c2 => exact rfl); (case c3 => exact rfl); (case c4 => exact rfl); k_whole))
  walk_at "5"; generalize zf w_ = g, zf (zs w_) = L', zf (zs (zs w_)) = h₁, zf (zs (zs (zs w_))) = tk, zs (zs (zs (zs w_))) = cells
  intro sg gs eL lt F' N' Y' M'
  (try dsimp only)
  refine wpAny_noRaise ?_
  have B' := M'.B
  have X' := M'.X
  have T' := M'.T
  refine exE2 (CellsAre.two Y') fun oc1 oc2 h79_1 => ?_
  have hE := h79_1.1
  have dc1 := h79_1.2.1
  have dc2 := h79_1.2.2
  subst hE
  clear Y' lt
  simp only [List.cons_append, List.nil_append] at N'
  refine exE2 (IsL.ground sg i1 (fun z => nomatch z)) fun v1 k1 h83_1 => ?_
  have e1 := h83_1.1
  have iv1 := h83_1.2
  refine exE2 (IsL.ground sg i2 (fun z => nomatch z)) fun v2 k2 h84_1 => ?_
  have e2 := h84_1.1
  have iv2 := h84_1.2
  have eR' : g.get? Rs = some (W.listOf (rowVals rs).toArray cR) := sg _ _ (fun z => nomatch z) eR
  have iL' : ∀ x ∈ rs, g.get? x.a = some (W.listOf x.vs.toArray x.c) ∧ IntsAre x.vs x.xs := fun x hx => ⟨sg _ _ (fun z => nomatch z) (iL x hx).1, (iL x hx).2⟩
  k_steps
  refine Blk.out ?_
  refine for_raw ?_
  k_steps
  refine Blk.out ?_
  rename Fr g L' _ _ => F5
  rename News g L' _ _ => N5
  rename_i Tl h6 lT h7
  refine it_list (T := Rs) (vs := rowVals rs) (c := cR) rfl F5 N5 (F5.keep _ _ eR') ?_
  intro J hJ oJ F6 N6 lt6 ltJ Wk2 hO2
  have q1 := lT.1
  have q2 := lT.2
  have n1 : J ≠ Tl := Nat.ne_of_gt (lt6 (Tl, W.listOf [].toArray 0) (.head _))
  have n2 : J ≠ L' + 1 + 1 := Nat.ne_of_gt (lt6 (L' + 1 + 1, oc1) (.tail _ (.head _)))
  have n3 : J ≠ L' + 1 := Nat.ne_of_gt (lt6 (L' + 1, oc2) (.tail _ (.tail _ (.head _))))
  have n4 : Tl ≠ L' + 1 + 1 := Nat.ne_of_gt q1
  have n5 : Tl ≠ L' + 1 := Nat.ne_of_gt q2
  have rlen : (rowVals rs).length = rs.length := by simp [rowVals]
  obtain ⟨Iv1, hIv1⟩ : ∃ Iv1 : Nat → Shared → Prop, Iv1 = fun n s' => ∀ G_ : Prop, (∀ i h tk m' tv ct oJ, (s' = { s with heap := h, toks := tk }) → (m' (Str.ofString "told") = some (.ref Tl)) → (Fr g L' h m') → (News g L' h ((J, oJ) :: (Tl, W.listOf tv.toArray ct) :: (L' + 1 + 1, oc1) :: (L' + 1, oc2) :: [])) → (IntsAre tv (rowsF one other ((rs.take i).map (·.xs)))) → (ItO (lSt J Rs (rowVals rs)) J Rs oJ (W.listOf (rowVals rs).toArray cR) i) → (i ≤ rs.length) → (n = rs.length - i) → G_) → G_ := ⟨_, rfl⟩
  refine ⟨Iv1, rs.length, ?_, ?_⟩
  rw [hIv1]
  refine (fun _ k_ => k_ 0 hJ _ _ ([]) 0 oJ rfl rfl F6 N6 .nil hO2 (Nat.zero_le _) rfl)
  intro n s' hI4_; (first | rw [hIv1] at hI4_ | skip); refine hI4_ _ ?_; clear hI4_; intro i h8 tk8 m8 tv ct oJ8 e5_ k1' F8 N8 itv hJ8 hi5 e6_; subst e5_; subst e6_
  have st := hJ8 h8 (N8 _ (.head _)).1 (F8.keep _ _ eR')
  have F8' := frk F8 _ (kn1 k1' kn0)
  clear F8 N6 F6 F5 N5 hO2 lt6
  by_cases hil : i < rs.length
  · refine walk_item Wk2 lSt.get F8' N8 (UpdF.head (fun p hp => ?_)) st (by rw [rlen]; exact hil) ?_
    · simp only [List.mem_cons, List.not_mem_nil, or_false] at hp
      rcases hp with rfl | rfl | rfl
      · exact n1.symm
      · exact n2.symm
      · exact n3.symm
    intro v h4 tk4 oJ4 hv st4 F4 N4
    have hJ4 : ItO (lSt J Rs (rowVals rs)) J Rs oJ4 (W.listOf (rowVals rs).toArray cR) (i + 1) := ItO.of Wk2 st4 (N4 _ (.head _)).1 (F4.keep _ _ eR')
    have hxm := List.getElem_mem hil
    have ev : v = .ref rs[i].a := by
      simp only [rowVals, List.getElem?_map, List.getElem?_eq_getElem hil, Option.map_some, Option.some.injEq] at hv
      exact hv.symm
    subst ev
    have etk : rs.take (i + 1) = rs.take i ++ [rs[i]] := List.take_succ_eq_append_getElem hil
    generalize hx : rs[i] = x at *
    have iX := iL' x hxm
    dsimp only [ForTurn]
    clear F8' N8 st st4 hJ8
    have tlen : tv.length ≤ 100 := by
      rw [itv.length, rowsF, List.length_map, List.length_map]
      exact Nat.le_trans (List.length_take_le _ _) (by omega)
    k_steps
    refine Blk.out ?_
    refine' comp_raw ?hclos ?hcell rfl ?hnames ?_
    (case hclos => with_unfolding_all rfl)
    (case hcell => decide)
    (case hnames => decide)
    k_steps
    refine Blk.out ?_
    rename Fr g L' _ _ => F10
    rename News g L' _ _ => N10
    refine it_list (T := x.a) (vs := x.vs) (c := x.c) rfl F10 N10 (F10.keep _ _ iX.1) ?_
    intro I2 hI2 oI2 F11 N11 lt11 ltI2 Wk3 hO3
    refine comp_leafK (news := [(J, oJ4), (Tl, W.listOf tv.toArray ct), (L' + 1 + 1, oc1), (L' + 1, oc2)]) F11 N11 (fun p hp => Nat.ne_of_lt (lt11 p hp)) Wk3 lSt.get hO3 (fun h F _ => F.keep _ _ iX.1)
      (fun i acc => IntsAre acc (cntF one (x.xs.take i))) .nil ?_ ?_
    · intro i2 v acc2 cc2 D2 C2 oC h tk2 mC oI' hin2 hv2 hI2' hoC FC NC ltD2 ltI3 eC2 K hK
      have hin3 : i2 < x.xs.length := by rw [← iX.2.length]; exact hin2
      refine exE1 (ints_at iX.2 i2 hin3) fun t2 ht2 => ?_
      rw [List.getElem?_toArray, hv2] at ht2
      obtain rfl := Option.some.inj ht2
      have etk2 : x.xs.take (i2 + 1) = x.xs.take i2 ++ [x.xs[i2]] := List.take_succ_eq_append_getElem hin3
      generalize hel : x.xs[i2] = el at *
      have ltC : ∀ p ∈ (D2, W.listOf acc2.toArray cc2) :: (I2, oI') :: [(J, oJ4), (Tl, W.listOf tv.toArray ct), (L' + 1 + 1, oc1), (L' + 1, oc2)], p.1 ≠ C2 := fun p hp => by
        refine Nat.ne_of_lt (Nat.lt_of_le_of_lt ?_ (Nat.lt_of_lt_of_eq (Nat.lt_succ_self _) eC2.symm))
        rcases List.mem_cons.mp hp with rfl | hp
        · exact Nat.le_refl _
        rcases List.mem_cons.mp hp with rfl | hp
        · exact Nat.le_of_lt ltI3
        · exact Nat.le_of_lt (ltD2 p hp)
      refine assign_own FC NC hoC ltC ?_
      intro h7 oC7 tk7 F7 N7 hoC7
      obtain ⟨mC7, hoC8, hmi⟩ : ∃ mC', LCg.NsObj oC7 mC' ∧ mC' (Str.ofString "name") = some (.int el t2) := ⟨_, hoC7, if_pos rfl⟩
      clear hoC7 hoC FC NC N11 F11 N10 F10
      refine ifs_nil ?_
      rw [if_pos rfl]
      have f1 := F7.keep _ _ e1
      have d0 : D2 ≠ C2 := Nat.ne_of_lt (Nat.lt_of_lt_of_eq (Nat.lt_succ_self _) eC2.symm)
      have d1 : D2 ≠ I2 := Nat.ne_of_gt ltI3
      have w0 := Nat.ne_of_gt (ltD2 _ (.head _))
      dsimp only at w0
      have w1 := Nat.ne_of_gt (ltD2 _ (.tail _ (.head _)))
      dsimp only at w1
      have w2 := Nat.ne_of_gt (ltD2 _ (.tail _ (.tail _ (.head _))))
      dsimp only at w2
      have w3 := Nat.ne_of_gt (ltD2 _ (.tail _ (.tail _ (.tail _ (.head _)))))
      dsimp only at w3
      have lacc : acc2.length ≤ 1000 := by
        rw [hI2'.length, cntF, List.length_map]
        exact Nat.le_trans (List.length_take_le _ _) (Nat.le_trans (Nat.le_of_lt hin3) (hxlen x hxm))
      k_steps
      rename Fr g L' _ _ => F9
      rename News g L' _ _ => N9
      simp only [List.push_toArray] at N9
      refine hK _ _ mC7 oC7 (acc2 ++ [Value.int _ _]) _ hoC8 F9 N9 ?_
      rw [etk2, cntF, List.map_append]
      exact IntsAre.append hI2' (.cons _ _ .nil)
    · intro w1 k1x Dk1x h tk2 hIw1 F12 N12 ltk1x
      rw [iX.2.length, List.take_length] at hIw1
      clear N11 F11 N10 F10 Wk3 hO3 lt11
      have ltD1 := ltk1x
      k_lt ltD1
      k_steps
      refine Blk.out ?_
      refine' comp_raw ?hclos ?hcell rfl ?hnames ?_
      (case hclos => with_unfolding_all rfl)
      (case hcell => decide)
      (case hnames => decide)
      k_steps
      refine Blk.out ?_
      rename Fr g L' _ _ => F10
      rename News g L' _ _ => N10
      refine it_list (T := x.a) (vs := x.vs) (c := x.c) rfl F10 N10 (F10.keep _ _ iX.1) ?_
      intro I2 hI2 oI2 F11 N11 lt11 ltI2 Wk3 hO3
      refine comp_leafK (news := [(Dk1x, W.listOf w1.toArray k1x), (J, oJ4), (Tl, W.listOf tv.toArray ct), (L' + 1 + 1, oc1), (L' + 1, oc2)]) F11 N11 (fun p hp => Nat.ne_of_lt (lt11 p hp)) Wk3 lSt.get hO3 (fun h F _ => F.keep _ _ iX.1)
        (fun i acc => IntsAre acc (cntF other (x.xs.take i))) .nil ?_ ?_
      · intro i2 v acc2 cc2 D2 C2 oC h tk2 mC oI' hin2 hv2 hI2' hoC FC NC ltD2 ltI3 eC2 K hK
        have hin3 : i2 < x.xs.length := by rw [← iX.2.length]; exact hin2
        refine exE1 (ints_at iX.2 i2 hin3) fun t2 ht2 => ?_
        rw [List.getElem?_toArray, hv2] at ht2
        obtain rfl := Option.some.inj ht2
        have etk2 : x.xs.take (i2 + 1) = x.xs.take i2 ++ [x.xs[i2]] := List.take_succ_eq_append_getElem hin3
        generalize hel : x.xs[i2] = el at *
        have ltC : ∀ p ∈ (D2, W.listOf acc2.toArray cc2) :: (I2, oI') :: [(Dk1x, W.listOf w1.toArray k1x), (J, oJ4), (Tl, W.listOf tv.toArray ct), (L' + 1 + 1, oc1), (L' + 1, oc2)], p.1 ≠ C2 := fun p hp => by
          refine Nat.ne_of_lt (Nat.lt_of_le_of_lt ?_ (Nat.lt_of_lt_of_eq (Nat.lt_succ_self _) eC2.symm))
          rcases List.mem_cons.mp hp with rfl | hp
          · exact Nat.le_refl _
          rcases List.mem_cons.mp hp with rfl | hp
          · exact Nat.le_of_lt ltI3
          · exact Nat.le_of_lt (ltD2 p hp)
        refine assign_own FC NC hoC ltC ?_
        intro h7 oC7 tk7 F7 N7 hoC7
        obtain ⟨mC7, hoC8, hmi⟩ : ∃ mC', LCg.NsObj oC7 mC' ∧ mC' (Str.ofString "name") = some (.int el t2) := ⟨_, hoC7, if_pos rfl⟩
        clear hoC7 hoC FC NC N11 F11 N10 F10
        refine ifs_nil ?_
        rw [if_pos rfl]
        have f1 := F7.keep _ _ e2
        have d0 : D2 ≠ C2 := Nat.ne_of_lt (Nat.lt_of_lt_of_eq (Nat.lt_succ_self _) eC2.symm)
        have d1 : D2 ≠ I2 := Nat.ne_of_gt ltI3
        have w0 := Nat.ne_of_gt (ltD2 _ (.head _))
        dsimp only at w0
        have w1 := Nat.ne_of_gt (ltD2 _ (.tail _ (.head _)))
        dsimp only at w1
        have w2 := Nat.ne_of_gt (ltD2 _ (.tail _ (.tail _ (.head _))))
        dsimp only at w2
        have w3 := Nat.ne_of_gt (ltD2 _ (.tail _ (.tail _ (.tail _ (.head _)))))
        dsimp only at w3
        have w4 := Nat.ne_of_gt (ltD2 _ (.tail _ (.tail _ (.tail _ (.tail _ (.head _))))))
        dsimp only at w4
        have lacc : acc2.length ≤ 1000 := by
          rw [hI2'.length, cntF, List.length_map]
          exact Nat.le_trans (List.length_take_le _ _) (Nat.le_trans (Nat.le_of_lt hin3) (hxlen x hxm))
        k_steps
        rename Fr g L' _ _ => F9
        rename News g L' _ _ => N9
        simp only [List.push_toArray] at N9
        refine hK _ _ mC7 oC7 (acc2 ++ [Value.int _ _]) _ hoC8 F9 N9 ?_
        rw [etk2, cntF, List.map_append]
        exact IntsAre.append hI2' (.cons _ _ .nil)
      · intro w2 k2x Dk2x h tk2 hIw2 F12 N12 ltk2x
        rw [iX.2.length, List.take_length] at hIw2
        clear N11 F11 N10 F10 Wk3 hO3 lt11
        have ltD2 := ltk2x
        k_lt ltD2
        k_steps
        refine Blk.out ?_
        refine Con.use (dp := dp + 1) (un := un + 3) (con_twc w (x := Dk1x) (y := Dk2x) (xs := cntF one x.xs) (ys := cntF other x.xs) ⟨w1, _, (N12 (Dk1x, _) (.tail _ (.head _))).1, hIw1⟩ ⟨w2, _, (N12 (Dk2x, _) (.head _)).1, hIw2⟩) M'.B F12 M'.X (fun p hp => nomatch hp) M'.T rfl (by omega) (by omega) ?_
        rintro v h9 tk9 ⟨⟨t9, rfl⟩, sty⟩
        have F13 : Fr g L' h9 _ := sty.fr0 F12
        have N13 : News g L' h9 ((J, oJ4) :: (Tl, W.listOf tv.toArray ct) :: (L' + 1 + 1, oc1) :: (L' + 1, oc2) :: []) := sty.news0 (News.sub N12 (fun p hp => .tail _ (.tail _ hp)))
        clear F12 N12 ltD1 ltD2 sty
        dsimp only
        k_steps
        rename Fr g L' _ _ => F14
        rename News g L' _ _ => N14
        simp only [List.push_toArray] at N14
        dsimp only
        refine ⟨rs.length - (i + 1), by omega, ?_⟩
        first | rw [hIv1]
        refine (fun _ k_ => k_ (i + 1) _ _ _ (tv ++ [Value.int _ _]) (ct + 1) oJ4 rfl rfl F14 N14 ?_ hJ4 hil rfl)
        rw [etk, List.map_append, rowsF, List.map_append]
        exact IntsAre.append itv (.cons _ _ .nil)
  · have ei : i = rs.length := by omega
    refine walk_done Wk2 (rest := (Tl, W.listOf tv.toArray ct) :: []) F8' N8 (fun p hp => ?_) (by rw [rlen, ← ei]; exact st) (N8 (J, oJ8) (.head _)).2.1 (N8 (J, oJ8) (.head _)).2.2 ?_
    · obtain rfl := List.mem_singleton.mp hp
      exact ⟨.tail _ (.head _), n1.symm⟩
    intro h4 tk4 F4 N4
    dsimp only [ForTurn]
    clear F8' N8 st hJ8
    rw [ei, List.take_length] at itv
    k_steps
    refine Blk.out ?_
    rename Fr g L' _ _ => F5
    rename News g L' _ _ => N5
    have hpos : 0 < (rowsF one other (rs.map (·.xs))).length := by
      rw [rowsF, List.length_map, List.length_map]
      exact List.length_pos_iff.mpr hne
    refine min_list_N rfl F5 N5 ⟨_, (N5 (Tl, _) (.head _)).1, rfl, _, rfl⟩ itv hpos ?_
    intro h5 M1 t1 tk1 F6 N6 hm1 hb1
    clear F5 N5
    dsimp only
    k_steps
    refine Blk.out ?_
    rename Fr g L' _ _ => F5
    rename News g L' _ _ => N5
    refine max_list_N rfl F5 N5 ⟨_, (N5 (Tl, _) (.head _)).1, rfl, _, rfl⟩ itv hpos ?_
    intro h6 M2 t2 tk2 F7 N7 hm2 hb2
    clear F5 N5
    dsimp only
    generalize hT : rowsF one other (rs.map (·.xs)) = T at *
    k_steps
    · rename M1 = M2 => hMM
      rename Fr g L' _ _ => F5
      rename News g L' _ _ => N5
      have hall : ∀ a ∈ T, a = T.headD 0 := by
        have e1 : ∀ a ∈ T, a = M1 := fun a ha => Int.le_antisymm (hMM ▸ hb2 a ha) (hb1 a ha)
        cases T with
        | nil => exact fun a ha => nomatch ha
        | cons b r =>
          intro a ha
          rw [e1 a ha, List.headD_cons, e1 b (.head _)]
      have tl5 : T.length ≤ 1000 := by
        rw [← hT, rowsF, List.length_map, List.length_map]; omega
      have e0 : T.getD (0 : Int).toNat 0 = ofRows T := by
        rw [ofRows, if_pos hall]
        cases T with
        | nil => rfl
        | cons b r => rfl
      obtain ⟨EV, hl⟩ := exitX M F N sg gs KtsTurn.refl F5 (News.sub N5 (led' := []) (fun p hp => nomatch hp))
      exact hret _ _ _ _ EV hl ⟨rfl, _, by rw [e0]⟩
    · rename M1 ≠ M2 => hMM
      rename Fr g L' _ _ => F5
      rename News g L' _ _ => N5
      have hall : ¬ ∀ a ∈ T, a = T.headD 0 := fun z => hMM ((z _ hm1).trans (z _ hm2).symm)
      obtain ⟨EV, hl⟩ := exitX M F N sg gs KtsTurn.refl F5 (News.sub N5 (led' := []) (fun p hp => nomatch hp))
      exact hret _ _ _ _ EV hl ⟨rfl, _, by rw [ofRows, if_neg hall]⟩
end
end
section
section
variable {prog : Program} {w : World} {A : Around} {s : Shared} {env : Env}
noncomputable def UseEnd (L : Addr) (y : Str) (Q : Flow → Shared → Prop) (v : Value) (s' : Shared) : Prop := ∃ D g2 m news o, v = .ref D ∧ Fr g2 L s'.heap m ∧ News g2 L s'.heap ((D, o) :: news) ∧ (∀ p ∈ news, p.1 < D) ∧ ∀ h'' tk'', Fr g2 L h'' (fun z => if z = y then some (.ref D) else m z) → News g2 L h'' ((D, o) :: news) → Q .next { s' with heap := h'', toks := tk'' }
theorem Fr.ltL {g h : Heap} {L : Addr} {m : Str → Option Value} (F : Fr g L h m) : L < h.objs.size := by
  obtain ⟨_, _, e⟩ := Fr.obj F
  exact Heap.lt_size e
theorem comp_use {elt target iter : PySem.Expr} {ifs : List PySem.Expr} {scope : Scope} {cl : List (Str × Addr)} {y : Str} {py pos spos : Pos} {Q : Flow → Shared → Prop}
    (hsw : swapsWith (.ListComp elt [⟨target, iter, ifs, 0⟩] scope pos) (some (.Name y py)) spos.line env = pure true)
    (hclos : closureFor scope env = pure cl) (hcell : ∀ y ∈ scope.names, y.2 ≠ .cell) (hkind : scope.kind = .function)
    (hnames : ∀ y ∈ scope.names, y.2 = .local → scope.names.lookup y.1 = some .local) (hy : env.kindOf y = some .local) (hp : (env.scope.kind == .class || (env.scope.kind == .module && env.locals != env.globals)) = false)
    (h : wpAny (model prog w) A (eval iter env) (fun xv s₁ => wpAny (model prog w) A (pyIter xv) (fun itv s₂ => env.locals < s₂.heap.objs.size ∧
      ∀ D C h₂ tk, D = s₂.heap.objs.size → C = D + 1 → (∀ b o, s₂.heap.get? b = some o → h₂.get? b = some o) → h₂.get? D = some (W.listOf #[] 0) → h₂.Ns C (fun _ => none) →
        ∃ (I : Nat → Shared → Prop) (n : Nat), I n { s₂ with heap := h₂, toks := tk } ∧ (∀ (n : Nat) (s : Shared) (Q' : Value → Shared → Prop) (E' : Value → Shared → Prop), I n s → Q' itv s → wpAny (model prog w) A (pyIter itv) Q' E' s) ∧
          ∀ n s, I n s → wpAny (model prog w) A (pyNext itv) (CompTurn prog w A (compEnvC scope cl C env) target elt ifs D C (UseEnd env.locals y Q) I n) (fun _ _ => False) s) (fun _ _ => False) s₁) (fun _ _ => False) s)
    (ht : ∀ it v, letOwnedTupleGo target it v = pure () := by intro _ _; rfl)
    (hs : ∀ x, foldedSetIterable iter env x = pure x := by intro _; rfl) :
    wpAny (model prog w) A (exec (.Assign [.Name y py] (.ListComp elt [⟨target, iter, ifs, 0⟩] scope pos) spos) env) Q (fun _ _ => False) s := by
  revert hsw hclos hcell hkind hnames hy hp h ht hs
  revert prog w A s env elt target iter ifs scope cl y py pos spos Q
  walk_at "16"; (iterate 7 (generalize zf w_ = pos; generalize zs w_ = v_; clear w_; generalize zf v_ = pos; generalize zs v_ = w_; clear v_)); generalize zf w_ = spos, zs w_ = Q; clear w_; rename_i prog w A s env elt target iter ifs scope cl y py
  intro hsw hclos hcell hkind hnames hy hp h ht hs
  rw [exec_Assign_Name_used _ _ _ _ hsw]
  refine wpAny_bind (wpAny_standAt (wpAny_bind ?_))
  show wpAny _ A (do let _ ← comprehension (.ListComp elt [⟨target, iter, ifs, 0⟩] scope pos) scope env _ (newList []) false (eval iter env) (some (assign (.Name y py) env))) _ _ s
  refine wpAny_bind (wpAny_mono (wpAny_comprehension_free (use := some (assign (.Name y py) env)) (Q := fun _ s' => Q .next s') rfl hs hclos hkind hnames
    (wpAny_mono h (fun xv s₁ h₁ => wpAny_mono h₁ (fun itv s₂ h₂ => ?_) fun _ _ e => e) fun _ _ e => e)) (fun _ s' hq => wpAny_pure (wpAny_pure hq)) fun _ _ e => e)
  obtain ⟨ltL, h₂⟩ := h₂
  refine wpAny_newObj_type (wpAny_newFunctionEnv hcell (by intro y hy; simp at hy) (fun h₁ hns₁ hsb₁ => ?_) hkind)
  dsimp only at hns₁ hsb₁ ⊢
  have hC : (s₂.heap.push { cls := .type "list", dict := none, data := .seq ([] : List Value).toArray }).objs.size = s₂.heap.objs.size + 1 := by rw [Heap.size_push]
  have old : ∀ b o, s₂.heap.get? b = some o → h₁.get? b = some o := fun b o e => hsb₁.extBut b o (by rw [hC]; exact Nat.ne_of_lt (Nat.lt_succ_of_lt (Heap.lt_size e))) (Heap.get?_push_of_some _ (Heap.get?_push_of_some _ e))
  have hD : h₁.get? s₂.heap.objs.size = some (W.listOf #[] 0) := hsb₁.extBut _ _ (by rw [hC]; exact Nat.ne_of_lt (Nat.lt_succ_self _)) (Heap.get?_push_of_some _ (Heap.get?_push_size _ rfl))
  obtain ⟨I, n, hI, hself, turn⟩ := h₂ s₂.heap.objs.size _ h₁ (s₂.toks + ([] : List (Str × Value)).length) rfl hC old hD hns₁
  have loop : codeAny (model prog w) A (.compLoop (.ListComp elt [⟨target, iter, ifs, 0⟩] scope pos) 0 itv (.ref s₂.heap.objs.size) (compEnvC scope cl (s₂.heap.push { cls := .type "list", dict := none, data := .seq ([] : List Value).toArray }).objs.size env))
      (compPost (model prog w) A (fun _ _ => False) (some (assign (.Name y py) env)) (fun _ s' => Q .next s') (.ref s₂.heap.objs.size) (s₂.heap.push { cls := .type "list", dict := none, data := .seq ([] : List Value).toArray }).objs.size) { s₂ with heap := h₁, toks := s₂.toks + ([] : List (Str × Value)).length } := by
    refine codeAny_compLoop_tests I (fun n s hI => ?_) n hI (ht _)
    refine wpAny_mono (turn n s hI) (fun r s₁ hr => ?_) (fun _ _ e => e.elim)
    cases r with
    | none =>
      obtain ⟨m', hn, hu⟩ := hr
      obtain ⟨D, g2, m, news, o, eD, F, N, lt, fin⟩ := hu s₁.heap (Heap.SameBut.refl _ _)
      obtain rfl := Value.ref.inj eD
      have hCL : (s₂.heap.push { cls := .type "list", dict := none, data := .seq ([] : List Value).toArray }).objs.size ≠ env.locals := by rw [hC]; exact Nat.ne_of_gt (Nat.lt_succ_of_lt ltL)
      have hC₀ : g2.get? (s₂.heap.push { cls := .type "list", dict := none, data := .seq ([] : List Value).toArray }).objs.size = none := Heap.get?_none_of_le (by rw [hC]; exact Nat.le_trans F.above (Nat.le_of_lt (Nat.lt_succ_of_lt ltL)))
      show wpAny _ A (assign (.Name y py) env (.ref _)) _ _ _
      refine wpAny_assign_Name (wpAny_storeName_local hy F.ns (fun h₂ hn₂ hs₂ => ?_) hp)
      have hL₀ : g2.get? env.locals = none := Heap.get?_none_of_le F.above
      have F₂ : Fr g2 env.locals h₂ (fun z => if z = y then some (.ref s₂.heap.objs.size) else m z) := ⟨hn₂, fun b o e => hs₂.extBut b o (fun q => by rw [q, hL₀] at e; cases e) (F.keep b o e), F.above⟩
      refine ⟨m', hn.sameBut hs₂ hCL, fun h'' hs'' => fin h'' _ (F₂.change hs'' hCL hC₀) (fun p hp => ?_)⟩
      have z : h₂.get? p.1 = some p.2 := hs₂.extBut _ _ (N p hp).2.1 (N p hp).1
      refine ⟨hs''.extBut _ _ ?_ z, (N p hp).2⟩
      rw [hC]
      rcases List.mem_cons.mp hp with rfl | hp
      · exact Nat.ne_of_lt (Nat.lt_succ_self _)
      · exact Nat.ne_of_lt (Nat.lt_succ_of_lt (lt p hp))
    | some v =>
      refine wpAny_mono hr (fun _ s₂ h₂ => wpAny_mono h₂ (fun ok s₃ h₃ => ?_) (fun _ _ e => e.elim)) (fun _ _ e => e.elim)
      cases ok with
      | false => simp only [Bool.false_eq_true, if_false] at h₃ ⊢; exact h₃
      | true =>
        simp only [if_true] at h₃ ⊢
        exact wpAny_mono h₃ (fun x s₄ h₄ => wpAny_mono h₄ (fun _ s₅ h₅ => h₅) (fun _ _ e => e.elim)) (fun _ _ e => e.elim)
  exact codeAny_compStart_list loop (hself n _ _ _ hI loop)
end
end
section
noncomputable def lowF (mine theirs : List Int) (ab : List (Int × List Int)) : List Int := theirs.filter fun n => decide ((mine.filter fun j => decide (j ∉ lookL ab n)) = mine)
noncomputable def ofDiffs (low high : List Int) : Int := if low = [] ∧ high = [] then 0 else if low = [] then 1 else if high = [] then -1 else 2
noncomputable def byDiffs (one other : List Int) (ab : List (Int × List Int)) : Int := ofDiffs (lowF (uldR one.reverse other []).1 (uldR one.reverse other []).2 ab) (lowF (uldR one.reverse other []).2 (uldR one.reverse other []).1 ab)
theorem News.tailN {g h : Heap} {L : Addr} {p : Addr × Obj} {l : List (Addr × Obj)} (N : News g L h (p :: l)) : News g L h l := News.sub N fun _ hp => .tail _ hp
theorem KtsTurn.nones {fs : List Addr} {g g' : Heap} (t : KtsTurn fs g g') (b : Addr) : g'.get? b = none ↔ g.get? b = none := by
  refine ⟨fun e => ?_, t.none_ b⟩
  cases z : g.get? b with
  | none => rfl
  | some o => obtain ⟨sl, e'⟩ := t.up z; rw [e] at e'; cases e'
section
local macro_rules | `(tactic| walk_at $s) => zd ["call type:list", "compareOp Eq ref ref", "exec Assign cons ListComp", "eval ListComp"] [("subscriptTail", zsubb)] s
local macro_rules | `(tactic| walk_at $s) => zd [] [] s
theorem con_diffs {w : World} {h : Heap} {A1 B1 Ab : Addr} {one other : List Int} {oA : Obj} {ls : List Lv} (i1 : IsL h A1 one) (i2 : IsL h B1 other) (b1 : one.length ≤ 1000) (b2 : other.length ≤ 1000) (hA : oA.IsDictOf (intKind PG w) (lvKvs ls)) (loA : (Ab == sysModules) = false)
    (iL : ∀ x ∈ ls, IsL h x.a x.xs) (hkm : ∀ k ∈ (uldR one.reverse other []).1, k ∈ ls.map (·.k)) (hkt : ∀ k ∈ (uldR one.reverse other []).2, k ∈ ls.map (·.k)) (hml : (uldR one.reverse other []).1.length ≤ 1000) (htl : (uldR one.reverse other []).2.length ≤ 1000) :
    ConX w 232 160 [(Ab, oA)] [.ref A1, .ref B1, .ref Ab] (fun v led h' => led = [(Ab, oA)] ∧ ∃ t, v = .int (byDiffs one other (ls.map Lv.abs)) t) h := by
  revert i1 i2 b1 b2 hA loA iL hkm hkt hml htl
  revert w h A1 B1 Ab one other oA ls
  walk_at "9"; (iterate 3 (generalize zf w_ = other; generalize zs w_ = v_; clear w_; generalize zf v_ = other; generalize zs v_ = w_; clear v_)); generalize zf w_ = other; generalize zs w_ = v_; clear w_; generalize zf v_ = oA, zs v_ = ls; clear v_; rename_i w h A1 B1 Ab one
  intro i1 i2 b1 b2 hA loA iL hkm hkt hml htl
  refine ConX.hk ?_; generalize wX _ _ _ _ _ _ _ = c_; delta ConXat; generalize c_.mean = mean, c_.mg = mg, c_.mb = mb, c_.dp = dp, c_.un = un, c_.gd = gd, c_.cn = cn, c_.cs = cs, c_.a = a, c_.ccd = ccd, c_.cl = cl, c_.outer = outer, c_.A₀ = A₀, c_.base = base, c_.h₀ = h₀, c_.L = L, c_.m = m, c_.s = s, c_.Q = Q, c_.E = E
  intro hh M F N hk hdp hun hret
  subst hh
  have X := M.X
  (refine wpAny_call ?_; k_dflt (refine' enterXC ?k1 ?k2 ?k4 ?kK ?k6 ?k7 ?k8 ?k9 ?kB ?kD ?_ ?c2 ?c3 ?c4; (case kK => assumption); (case k1 => assumption); (case k2 => assumption); (case k4 => assumption); (case k6 => k_is); (case k7 => k_is); (case k8 => omega); (case k9 => first | exact BindsTo.of_eq rfl | exact binds_K (by k_in) rfl (by k_is) rfl rfl rfl); (case kB => exact rfl); (case kD => decide +kernel); (case c2 => exact rfl); (case c3 => exact rfl); (case c4 => exact rfl); k_whole))
  walk_at "5"; generalize zf w_ = g, zf (zs w_) = L', zf (zs (zs w_)) = h₁, zf (zs (zs (zs w_))) = tk, zs (zs (zs (zs w_))) = cells
  intro sg gs eL lt F' N' Y' M'
  (try dsimp only)
  refine wpAny_noRaise ?_
  have B' := M'.B
  have X' := M'.X
  have T' := M'.T
  refine exE3 (CellsAre.three Y') fun oc1 oc2 oc3 h83_1 => ?_
  have hE := h83_1.1
  have dc1 := h83_1.2.1
  have dc2 := h83_1.2.2.1
  have dc3 := h83_1.2.2.2
  subst hE
  have lA : Ab < L' := lt _ (.head _)
  clear Y' lt
  simp only [List.cons_append, List.nil_append] at N'
  have eA := (N _ (.head _)).1
  refine exE2 (IsL.ground sg i1 (fun z => ne_dict eA hA i1 (List.mem_singleton.mp z))) fun v1 k1 h89_1 => ?_
  have e1 := h89_1.1
  have iv1 := h89_1.2
  refine exE2 (IsL.ground sg i2 (fun z => ne_dict eA hA i2 (List.mem_singleton.mp z))) fun v2 k2 h90_1 => ?_
  have e2 := h90_1.1
  have iv2 := h90_1.2
  have iL' : ∀ x ∈ ls, IsL g x.a x.xs := fun x hx => IsL.ground sg (iL x hx) (fun z => ne_dict eA hA (iL x hx) (List.mem_singleton.mp z))
  have l1 := iv1.length
  have l2 := iv2.length
  k_steps
  refine Blk.out ?_
  rename Fr g L' _ _ => F5
  rename News g L' _ _ => N5
  refine list_copyK (items := v1.toArray) F5 N5 ⟨_, F5.keep _ _ e1, rfl, _, rfl⟩ ?_ (by rw [List.size_toArray, sizeLine_eq]; omega)
  intro X1 c1 h6 F6 N6 lt6
  clear F5 N5
  dsimp only
  k_steps
  refine Blk.out ?_
  rename Fr g L' _ _ => F5
  rename News g L' _ _ => N5
  refine list_copyK (items := v2.toArray) F5 N5 ⟨_, F5.keep _ _ e2, rfl, _, rfl⟩ ?_ (by rw [List.size_toArray, sizeLine_eq]; omega)
  intro X2 c2 h7 F7 N7 lt7
  clear F5 N5
  dsimp only
  k_steps
  refine Blk.out ?_
  rename Fr g L' _ _ => F5
  rename News g L' _ _ => N5
  have nX : X1 ≠ X2 := Nat.ne_of_lt (lt7 (X1, _) (.head _))
  have nd6 : ([X1, L' + 1 + 1 + 1, L' + 1 + 1, L' + 1, Ab] : List Addr).Nodup := by
    have q1 := lt6 (L' + 1 + 1 + 1, oc1) (.head _)
    have q2 := lt6 (L' + 1 + 1, oc2) (.tail _ (.head _))
    have q3 := lt6 (L' + 1, oc3) (.tail _ (.tail _ (.head _)))
    have q4 := lt6 (Ab, oA) (.tail _ (.tail _ (.tail _ (.head _))))
    dsimp only at q1 q2 q3 q4
    have lA' : (Ab : Nat) < L' := lA
    have z1 : (L' + 1 + 1 + 1 : Nat) < X1 := q1
    simp only [List.nodup_cons, List.mem_cons, List.not_mem_nil, or_false, not_or, List.nodup_nil, and_true, not_false_eq_true]
    refine ⟨⟨Nat.ne_of_gt q1, Nat.ne_of_gt q2, Nat.ne_of_gt q3, Nat.ne_of_gt q4⟩, ⟨Nat.ne_of_gt (Nat.lt_succ_self _), Nat.ne_of_gt (Nat.lt_succ_of_lt (Nat.lt_succ_self _)), Nat.ne_of_gt (Nat.lt_succ_of_lt (Nat.lt_succ_of_lt (Nat.lt_succ_of_lt lA)))⟩, ⟨Nat.ne_of_gt (Nat.lt_succ_self _), Nat.ne_of_gt (Nat.lt_succ_of_lt (Nat.lt_succ_of_lt lA))⟩, Nat.ne_of_gt (Nat.lt_succ_of_lt lA)⟩
  have nd7 : ([X2, X1, L' + 1 + 1 + 1, L' + 1 + 1, L' + 1, Ab] : List Addr).Nodup := nodup_new (l' := (X1, W.listOf v1.toArray c1) :: (L' + 1 + 1 + 1, oc1) :: (L' + 1 + 1, oc2) :: (L' + 1, oc3) :: (Ab, oA) :: []) lt7 (fun z hz => hz) nd6
  simp only [List.nodup_cons, List.mem_cons, List.not_mem_nil, or_false, not_or, List.nodup_nil, and_true, not_false_eq_true] at nd7
  obtain ⟨⟨x0, x1, x2, x3, x4⟩, ⟨y1, y2, y3, y4⟩, ⟨z1, z2, z3⟩, ⟨u1, u2⟩, w1⟩ := nd7
  refine ConX.use (lv := 10) (dp := dp + 1) (un := un + 3) (con_uld w (x := X1) (y := X2) (vx := v1) (vy := v2) (cx := c1) (cy := c2) (xs := one) (ys := other) iv1 iv2 nX b1 b2) M' F5 N5 (fun p hp => ?_) [(L' + 1 + 1 + 1, oc1), (L' + 1 + 1, oc2), (L' + 1, oc3), (Ab, oA)] (fun p hp => ?_) rfl (by omega) (by omega) ?_
  · simp only [List.mem_cons, List.not_mem_nil, or_false] at hp
    rcases hp with rfl | rfl
    · exact .tail _ (.head _)
    · exact .head _
  · simp only [List.mem_cons, List.not_mem_nil, or_false] at hp
    rcases hp with rfl | rfl | rfl | rfl
    · exact ⟨.tail _ (.tail _ (.head _)), by simp only [List.map_cons, List.map_nil, List.mem_cons, List.not_mem_nil, or_false, not_or]; exact ⟨Ne.symm y1, Ne.symm x1⟩⟩
    · exact ⟨.tail _ (.tail _ (.tail _ (.head _))), by simp only [List.map_cons, List.map_nil, List.mem_cons, List.not_mem_nil, or_false, not_or]; exact ⟨Ne.symm y2, Ne.symm x2⟩⟩
    · exact ⟨.tail _ (.tail _ (.tail _ (.tail _ (.head _)))), by simp only [List.map_cons, List.map_nil, List.mem_cons, List.not_mem_nil, or_false, not_or]; exact ⟨Ne.symm y3, Ne.symm x3⟩⟩
    · exact ⟨.tail _ (.tail _ (.tail _ (.tail _ (.tail _ (.head _))))), by simp only [List.map_cons, List.map_nil, List.mem_cons, List.not_mem_nil, or_false, not_or]; exact ⟨Ne.symm y4, Ne.symm x4⟩⟩
  intro v h8 tk8 g2 led t2 M2 F8 N8 hled hI7_; refine hI7_ _ ?_; clear hI7_; intro T cT Z vz cz cx va ca e8_ e9_ ivz iva; subst e8_; subst e9_
  have iL2 : ∀ x ∈ ls, IsL g2 x.a x.xs := fun x hx => IsL.turn M' t2 (iL' x hx)
  have fr : ∀ p : Addr × Obj, (p.1 ∈ [(X1, W.listOf v1.toArray c1), (X2, W.listOf v2.toArray c2)].map (·.1) ∨ h7.get? p.1 = none) → p.1 ≠ L' + 1 + 1 + 1 ∧ p.1 ≠ L' + 1 + 1 ∧ p.1 ≠ L' + 1 ∧ p.1 ≠ Ab := fun p hp => by
    simp only [List.map_cons, List.map_nil, List.mem_cons, List.not_mem_nil, or_false, or_assoc] at hp
    rcases hp with hp | hp | hp
    · rw [hp]; exact ⟨y1, y2, y3, y4⟩
    · rw [hp]; exact ⟨x1, x2, x3, x4⟩
    · have f1 := (N5 (L' + 1 + 1 + 1, oc1) (.tail _ (.tail _ (.head _)))).1
      have f2 := (N5 (L' + 1 + 1, oc2) (.tail _ (.tail _ (.tail _ (.head _))))).1
      have f3 := (N5 (L' + 1, oc3) (.tail _ (.tail _ (.tail _ (.tail _ (.head _)))))).1
      have f4 := (N5 (Ab, oA) (.tail _ (.tail _ (.tail _ (.tail _ (.tail _ (.head _))))))).1
      dsimp only at f1 f2 f3 f4
      exact ⟨fun z => (by rw [z, f1] at hp; cases hp), fun z => (by rw [z, f2] at hp; cases hp), fun z => (by rw [z, f3] at hp; cases hp), fun z => (by rw [z, f4] at hp; cases hp)⟩
  have h152_ := fr _ (hled _ (.head _))
  have tT1 := h152_.1
  have tT2 := h152_.2.1
  have tT3 := h152_.2.2.1
  have tT4 := h152_.2.2.2
  have h153_ := fr _ (hled _ (.tail _ (.head _)))
  have tZ1 := h153_.1
  have tZ2 := h153_.2.1
  have tZ3 := h153_.2.2.1
  have tZ4 := h153_.2.2.2
  dsimp only at tT1 tT2 tT3 tT4 tZ1 tZ2 tZ3 tZ4
  have N9 : News g2 L' h8 ((T, tupO [.ref Z, .ref X2] cT) :: (Z, W.listOf vz.toArray cz) :: (X2, W.listOf va.toArray ca) :: (L' + 1 + 1 + 1, oc1) :: (L' + 1 + 1, oc2) :: (L' + 1, oc3) :: (Ab, oA) :: []) := News.sub N8 (fun p hp => by
    rcases List.mem_cons.mp hp with rfl | hp
    · exact .head _
    rcases List.mem_cons.mp hp with rfl | hp
    · exact .tail _ (.head _)
    · exact .tail _ (.tail _ (.tail _ hp)))
  clear N5 F5 N8 fr hled lt6 lt7 X' T' B'
  have X' := M2.X
  have T' := M2.T
  dsimp only
  generalize hmi : (uldR one.reverse other []).1 = mi at *
  generalize hth : (uldR one.reverse other []).2 = th at *
  k_steps
  rename_i b1' b2' o2 d2 b3' o1 Fx Nx d1
  refine Blk.out ?_
  refine' comp_use ?hsw ?hclos ?hcell rfl ?hnames ?hy ?hp ?_
  (case hsw => with_unfolding_all rfl)
  (case hclos => with_unfolding_all rfl)
  (case hcell => decide)
  (case hnames => decide)
  (case hy => with_unfolding_all rfl)
  (case hp => with_unfolding_all rfl)
  k_steps
  refine Blk.out ?_
  rename Fr g2 L' _ _ => F10
  rename News g2 L' _ _ => N10
  refine it_list rfl F10 N10 (N10 _ (.tail _ (.tail _ (.head _)))).1 ?_
  intro I2 hI2 oI2 F11 N11 lt11 ltI2 Wk3 hO3
  refine ⟨Fr.ltL F11, ?_⟩
  refine comp_leafG (news := [(T, tupO [.ref Z, .ref X2] cT), (Z, W.listOf vz.toArray cz), (X2, W.listOf va.toArray ca), (L' + 1 + 1 + 1, o1), (L' + 1 + 1, o2), (L' + 1, oc3), (Ab, oA)]) F11 N11 (fun p hp => Nat.ne_of_lt (lt11 p hp)) Wk3 lSt.get hO3 (fun g3 => KtsTurn (L :: fsOf outer) g2 g3 ∧ Am w mean mg mb (ktrTop dp un gd cn cs L a ccd cl outer) base (envX cn cs L a ccd cl :: outer) g3) (fun _ h _ _ N => (N _ (.tail _ (.tail _ (.head _)))).1) ⟨KtsTurn.refl, M2⟩ (fun g3 h => ⟨KtsTurn.nones h.1, h.1.size⟩)
    (fun i acc => IntsAre acc ((th.take i).filter fun n => decide ((mi.filter fun j => decide (j ∉ lookL (ls.map Lv.abs) n)) = mi))) .nil ?_ ?_
  · intro i2 v acc2 cc2 D2 C2 g3 oC h tk2 mC oI' hin2 hv2 hI2' hG hoC FC NC ltD2 ltI3 eC2
    have hin3 : i2 < th.length := by rw [← iva.length]; exact hin2
    refine exE1 (ints_at iva i2 hin3) fun t2 ht2 => ?_
    rw [List.getElem?_toArray, hv2] at ht2
    obtain rfl := Option.some.inj ht2
    have etk2 : th.take (i2 + 1) = th.take i2 ++ [th[i2]] := List.take_succ_eq_append_getElem hin3
    refine exE1 (lv_find (hkt _ (List.getElem_mem hin3))) fun x h192_1 => ?_
    have hx := h192_1.1
    have hxk := h192_1.2.1
    have hxv := h192_1.2.2.1
    have hxl := h192_1.2.2.2
    generalize hel : th[i2] = el at *
    have ltC : ∀ p ∈ (D2, W.listOf acc2.toArray cc2) :: (I2, oI') :: [(T, tupO [.ref Z, .ref X2] cT), (Z, W.listOf vz.toArray cz), (X2, W.listOf va.toArray ca), (L' + 1 + 1 + 1, o1), (L' + 1 + 1, o2), (L' + 1, oc3), (Ab, oA)], p.1 ≠ C2 := fun p hp => by
      refine Nat.ne_of_lt (Nat.lt_of_le_of_lt ?_ (Nat.lt_of_lt_of_eq (Nat.lt_succ_self _) eC2.symm))
      rcases List.mem_cons.mp hp with rfl | hp
      · exact Nat.le_refl _
      rcases List.mem_cons.mp hp with rfl | hp
      · exact Nat.le_of_lt ltI3
      · exact Nat.le_of_lt (ltD2 p hp)
    refine assign_own FC NC hoC ltC ?_
    intro h7 oC7 tk7 F7 N7 hoC7
    obtain ⟨mC7, hoC8, hmi'⟩ : ∃ mC', LCg.NsObj oC7 mC' ∧ mC' (Str.ofString "name") = some (.int el t2) := ⟨_, hoC7, if_pos rfl⟩
    clear hoC7 hoC FC NC N11 F11 N10 F10 X' T'
    have tg := hG.1
    have Mg := hG.2
    have X' := Mg.X
    have T' := Mg.T
    have iLg : IsL g3 x.a x.xs := IsL.turn M2 tg (iL2 x hx)
    refine ifs_one ?_
    have d0 : D2 ≠ C2 := Nat.ne_of_lt (Nat.lt_of_lt_of_eq (Nat.lt_succ_self _) eC2.symm)
    have dI : D2 ≠ I2 := Nat.ne_of_gt ltI3
    have w0 := Nat.ne_of_gt (ltD2 _ (.head _))
    dsimp only at w0
    have w1 := Nat.ne_of_gt (ltD2 _ (.tail _ (.head _)))
    dsimp only at w1
    have w2 := Nat.ne_of_gt (ltD2 _ (.tail _ (.tail _ (.head _))))
    dsimp only at w2
    have w3 := Nat.ne_of_gt (ltD2 _ (.tail _ (.tail _ (.tail _ (.head _)))))
    dsimp only at w3
    have w4 := Nat.ne_of_gt (ltD2 _ (.tail _ (.tail _ (.tail _ (.tail _ (.head _))))))
    dsimp only at w4
    have w5 := Nat.ne_of_gt (ltD2 _ (.tail _ (.tail _ (.tail _ (.tail _ (.tail _ (.head _)))))))
    dsimp only at w5
    have w6 := Nat.ne_of_gt (ltD2 _ (.tail _ (.tail _ (.tail _ (.tail _ (.tail _ (.tail _ (.head _))))))))
    dsimp only at w6
    have lacc : acc2.length ≤ 1000 := by
      rw [hI2'.length]
      exact Nat.le_trans (List.length_filter_le _ _) (Nat.le_trans (List.length_take_le _ _) (Nat.le_trans (Nat.le_of_lt hin3) htl))
    k_steps
    refine Blk.out ?_
    rename Fr g3 L' _ _ => F8
    rename News g3 L' _ _ => N8
    refine item_g (N8 _ (.tail _ (.tail _ (.tail _ (.tail _ (.tail _ (.tail _ (.tail _ (.tail _ (.tail _ (.head _))))))))))).1 hA hxv ?_
    k_steps
    refine Blk.out ?_
    rename Fr g3 L' _ _ => F9
    rename News g3 L' _ _ => N9
    refine ConX.use (lv := 60) (dp := dp + 1) (un := un + 3) (mu := []) (con_filter_l w (y := x.a) (xs := mi) (ys := x.xs) ⟨_, _, (N9 _ (.tail _ (.tail _ (.tail _ (.tail _ (.head _)))))).1, ivz⟩ (iLg.fr F9) hml) Mg F9 N9 (fun p hp => nomatch hp) ((C2, oC7) :: (D2, W.listOf acc2.toArray cc2) :: (I2, oI') :: [(T, tupO [.ref Z, .ref X2] cT), (Z, W.listOf vz.toArray cz), (X2, W.listOf va.toArray ca), (L' + 1 + 1 + 1, o1), (L' + 1 + 1, o2), (L' + 1, oc3), (Ab, oA)]) (fun p hp => ⟨hp, fun z => nomatch z⟩) rfl (by omega) (by omega) ?_
    intro v h9 tk9 g4 led t4 M4 F12 N12 hled4 hI10_; refine hI10_ _ ?_; clear hI10_; intro S4 sv c4 e11_ e12_ isv; subst e11_; subst e12_
    have frS := fresh_off N9 ((hled4 (S4, W.listOf sv.toArray c4) (.head _)).resolve_left (fun z => nomatch z))
    have dS : D2 ≠ S4 := fun z => frS (z ▸ .tail _ (.head _))
    have N13 : News g4 L' h9 ((S4, W.listOf sv.toArray c4) :: (C2, oC7) :: (D2, W.listOf acc2.toArray cc2) :: (I2, oI') :: [(T, tupO [.ref Z, .ref X2] cT), (Z, W.listOf vz.toArray cz), (X2, W.listOf va.toArray ca), (L' + 1 + 1 + 1, o1), (L' + 1 + 1, o2), (L' + 1, oc3), (Ab, oA)]) := N12
    clear X' T' F9 N9 N12
    have X' := M4.X
    have T' := M4.T
    dsimp only
    k_steps
    refine Blk.out ?_
    rename Fr g4 L' _ _ => F9
    rename News g4 L' _ _ => N9
    refine eq_intsK (ns := mi.filter fun j => decide (j ∉ x.xs)) (ms := mi) ⟨_, (N9 _ (.head _)).1, rfl, _, rfl⟩ isv ⟨_, (N9 _ (.tail _ (.tail _ (.tail _ (.tail _ (.tail _ (.head _))))))).1, rfl, _, rfl⟩ ivz (by show un + 3 + 64 < cLine; omega) ?_
    have tg4 : KtsTurn (L :: fsOf outer) g2 g4 := tg.trans t4
    rcases Classical.em ((mi.filter fun j => decide (j ∉ x.xs)) = mi) with hq | hq
    · rw [decide_eq_true hq]
      k_steps
      rename Fr g4 L' _ _ => F14
      rename News g4 L' _ _ => N14
      simp only [List.push_toArray] at N14
      refine ⟨g4, _, _, mC7, oC7, acc2 ++ [Value.int el t2], _, rfl, ⟨tg4, M4⟩, hoC8, F14, News.sub N14 (fun p hp => .tail _ hp), ?_⟩
      rw [etk2, List.filter_append, List.filter_cons_of_pos (by rw [hxl]; exact decide_eq_true hq), List.filter_nil]
      exact IntsAre.append hI2' (.cons _ _ .nil)
    · rw [decide_eq_false hq]
      k_steps
      rename Fr g4 L' _ _ => F14
      rename News g4 L' _ _ => N14
      refine ⟨g4, _, _, mC7, oC7, acc2, _, rfl, ⟨tg4, M4⟩, hoC8, F14, News.sub N14 (fun p hp => .tail _ hp), ?_⟩
      rw [etk2, List.filter_append, List.filter_cons_of_neg (by rw [hxl, decide_eq_false hq]; exact Bool.false_ne_true), List.filter_nil, List.append_nil]
      exact hI2'
  · intro lowv cDl Dl gDl h tk2 hIDl hGDl FDl NDl ltDl
    have tDl := hGDl.1
    have MDl := hGDl.2
    rw [iva.length, List.take_length] at hIDl
    have iLDl : ∀ x ∈ ls, IsL gDl x.a x.xs := fun x hx => IsL.turn M2 tDl (iL2 x hx)
    refine ⟨Dl, gDl, _, _, _, rfl, FDl, NDl, ltDl, fun h9 tk9 F9 N9 => ?_⟩
    clear N11 F11 N10 F10 Wk3 hO3 lt11 X' T' FDl NDl
    have X' := MDl.X
    have T' := MDl.T
    dsimp only
    k_steps
    refine Blk.out ?_
    refine' comp_use ?hsw ?hclos ?hcell rfl ?hnames ?hy ?hp ?_
    (case hsw => with_unfolding_all rfl)
    (case hclos => with_unfolding_all rfl)
    (case hcell => decide)
    (case hnames => decide)
    (case hy => with_unfolding_all rfl)
    (case hp => with_unfolding_all rfl)
    k_steps
    refine Blk.out ?_
    rename Fr gDl L' _ _ => F10
    rename News gDl L' _ _ => N10
    refine it_list rfl F10 N10 (N10 _ (.tail _ (.tail _ (.head _)))).1 ?_
    intro I2 hI2 oI2 F11 N11 lt11 ltI2 Wk3 hO3
    refine ⟨Fr.ltL F11, ?_⟩
    refine comp_leafG (news := [(Dl, W.listOf lowv.toArray cDl), (T, tupO [.ref Z, .ref X2] cT), (Z, W.listOf vz.toArray cz), (X2, W.listOf va.toArray ca), (L' + 1 + 1 + 1, o1), (L' + 1 + 1, o2), (L' + 1, oc3), (Ab, oA)]) F11 N11 (fun p hp => Nat.ne_of_lt (lt11 p hp)) Wk3 lSt.get hO3 (fun g3 => KtsTurn (L :: fsOf outer) gDl g3 ∧ Am w mean mg mb (ktrTop dp un gd cn cs L a ccd cl outer) base (envX cn cs L a ccd cl :: outer) g3) (fun _ h _ _ N => (N _ (.tail _ (.tail _ (.head _)))).1) ⟨KtsTurn.refl, MDl⟩ (fun g3 h => ⟨KtsTurn.nones h.1, h.1.size⟩)
      (fun i acc => IntsAre acc ((mi.take i).filter fun n => decide ((th.filter fun j => decide (j ∉ lookL (ls.map Lv.abs) n)) = th))) .nil ?_ ?_
    · intro i2 v acc2 cc2 D2 C2 g3 oC h tk2 mC oI' hin2 hv2 hI2' hG hoC FC NC ltD2 ltI3 eC2
      have hin3 : i2 < mi.length := by rw [← ivz.length]; exact hin2
      refine exE1 (ints_at ivz i2 hin3) fun t2 ht2 => ?_
      rw [List.getElem?_toArray, hv2] at ht2
      obtain rfl := Option.some.inj ht2
      have etk2 : mi.take (i2 + 1) = mi.take i2 ++ [mi[i2]] := List.take_succ_eq_append_getElem hin3
      refine exE1 (lv_find (hkm _ (List.getElem_mem hin3))) fun x h302_1 => ?_
      have hx := h302_1.1
      have hxk := h302_1.2.1
      have hxv := h302_1.2.2.1
      have hxl := h302_1.2.2.2
      generalize hel : mi[i2] = el at *
      have ltC : ∀ p ∈ (D2, W.listOf acc2.toArray cc2) :: (I2, oI') :: [(Dl, W.listOf lowv.toArray cDl), (T, tupO [.ref Z, .ref X2] cT), (Z, W.listOf vz.toArray cz), (X2, W.listOf va.toArray ca), (L' + 1 + 1 + 1, o1), (L' + 1 + 1, o2), (L' + 1, oc3), (Ab, oA)], p.1 ≠ C2 := fun p hp => by
        refine Nat.ne_of_lt (Nat.lt_of_le_of_lt ?_ (Nat.lt_of_lt_of_eq (Nat.lt_succ_self _) eC2.symm))
        rcases List.mem_cons.mp hp with rfl | hp
        · exact Nat.le_refl _
        rcases List.mem_cons.mp hp with rfl | hp
        · exact Nat.le_of_lt ltI3
        · exact Nat.le_of_lt (ltD2 p hp)
      refine assign_own FC NC hoC ltC ?_
      intro h7 oC7 tk7 F7 N7 hoC7
      obtain ⟨mC7, hoC8, hmi'⟩ : ∃ mC', LCg.NsObj oC7 mC' ∧ mC' (Str.ofString "name") = some (.int el t2) := ⟨_, hoC7, if_pos rfl⟩
      clear hoC7 hoC FC NC N11 F11 N10 F10 X' T'
      have tg := hG.1
      have Mg := hG.2
      have X' := Mg.X
      have T' := Mg.T
      have iLg : IsL g3 x.a x.xs := IsL.turn MDl tg (iLDl x hx)
      refine ifs_one ?_
      have d0 : D2 ≠ C2 := Nat.ne_of_lt (Nat.lt_of_lt_of_eq (Nat.lt_succ_self _) eC2.symm)
      have dI : D2 ≠ I2 := Nat.ne_of_gt ltI3
      have w0 := Nat.ne_of_gt (ltD2 _ (.head _))
      dsimp only at w0
      have w1 := Nat.ne_of_gt (ltD2 _ (.tail _ (.head _)))
      dsimp only at w1
      have w2 := Nat.ne_of_gt (ltD2 _ (.tail _ (.tail _ (.head _))))
      dsimp only at w2
      have w3 := Nat.ne_of_gt (ltD2 _ (.tail _ (.tail _ (.tail _ (.head _)))))
      dsimp only at w3
      have w4 := Nat.ne_of_gt (ltD2 _ (.tail _ (.tail _ (.tail _ (.tail _ (.head _))))))
      dsimp only at w4
      have w5 := Nat.ne_of_gt (ltD2 _ (.tail _ (.tail _ (.tail _ (.tail _ (.tail _ (.head _)))))))
      dsimp only at w5
      have w6 := Nat.ne_of_gt (ltD2 _ (.tail _ (.tail _ (.tail _ (.tail _ (.tail _ (.tail _ (.head _))))))))
      dsimp only at w6
      have w7 := Nat.ne_of_gt (ltD2 _ (.tail _ (.tail _ (.tail _ (.tail _ (.tail _ (.tail _ (.tail _ (.head _)))))))))
      dsimp only at w7
      have lacc : acc2.length ≤ 1000 := by
        rw [hI2'.length]
        exact Nat.le_trans (List.length_filter_le _ _) (Nat.le_trans (List.length_take_le _ _) (Nat.le_trans (Nat.le_of_lt hin3) hml))
      k_steps
      refine Blk.out ?_
      rename Fr g3 L' _ _ => F8
      rename News g3 L' _ _ => N8
      refine item_g (N8 _ (.tail _ (.tail _ (.tail _ (.tail _ (.tail _ (.tail _ (.tail _ (.tail _ (.tail _ (.tail _ (.head _)))))))))))).1 hA hxv ?_
      k_steps
      refine Blk.out ?_
      rename Fr g3 L' _ _ => F9
      rename News g3 L' _ _ => N9
      refine ConX.use (lv := 60) (dp := dp + 1) (un := un + 3) (mu := []) (con_filter_l w (y := x.a) (xs := th) (ys := x.xs) ⟨_, _, (N9 _ (.tail _ (.tail _ (.tail _ (.tail _ (.tail _ (.tail _ (.head _)))))))).1, iva⟩ (iLg.fr F9) htl) Mg F9 N9 (fun p hp => nomatch hp) ((C2, oC7) :: (D2, W.listOf acc2.toArray cc2) :: (I2, oI') :: [(Dl, W.listOf lowv.toArray cDl), (T, tupO [.ref Z, .ref X2] cT), (Z, W.listOf vz.toArray cz), (X2, W.listOf va.toArray ca), (L' + 1 + 1 + 1, o1), (L' + 1 + 1, o2), (L' + 1, oc3), (Ab, oA)]) (fun p hp => ⟨hp, fun z => nomatch z⟩) rfl (by omega) (by omega) ?_
      intro v h9 tk9 g4 led t4 M4 F12 N12 hled4 hI13_; refine hI13_ _ ?_; clear hI13_; intro S4 sv c4 e14_ e15_ isv; subst e14_; subst e15_
      have frS := fresh_off N9 ((hled4 (S4, W.listOf sv.toArray c4) (.head _)).resolve_left (fun z => nomatch z))
      have dS : D2 ≠ S4 := fun z => frS (z ▸ .tail _ (.head _))
      have N13 : News g4 L' h9 ((S4, W.listOf sv.toArray c4) :: (C2, oC7) :: (D2, W.listOf acc2.toArray cc2) :: (I2, oI') :: [(Dl, W.listOf lowv.toArray cDl), (T, tupO [.ref Z, .ref X2] cT), (Z, W.listOf vz.toArray cz), (X2, W.listOf va.toArray ca), (L' + 1 + 1 + 1, o1), (L' + 1 + 1, o2), (L' + 1, oc3), (Ab, oA)]) := N12
      clear X' T' F9 N9 N12
      have X' := M4.X
      have T' := M4.T
      dsimp only
      k_steps
      refine Blk.out ?_
      rename Fr g4 L' _ _ => F9
      rename News g4 L' _ _ => N9
      refine eq_intsK (ns := th.filter fun j => decide (j ∉ x.xs)) (ms := th) ⟨_, (N9 _ (.head _)).1, rfl, _, rfl⟩ isv ⟨_, (N9 _ (.tail _ (.tail _ (.tail _ (.tail _ (.tail _ (.tail _ (.tail _ (.head _))))))))).1, rfl, _, rfl⟩ iva (by show un + 3 + 64 < cLine; omega) ?_
      have tg4 : KtsTurn (L :: fsOf outer) gDl g4 := tg.trans t4
      rcases Classical.em ((th.filter fun j => decide (j ∉ x.xs)) = th) with hq | hq
      · rw [decide_eq_true hq]
        k_steps
        rename Fr g4 L' _ _ => F14
        rename News g4 L' _ _ => N14
        simp only [List.push_toArray] at N14
        refine ⟨g4, _, _, mC7, oC7, acc2 ++ [Value.int el t2], _, rfl, ⟨tg4, M4⟩, hoC8, F14, News.sub N14 (fun p hp => .tail _ hp), ?_⟩
        rw [etk2, List.filter_append, List.filter_cons_of_pos (by rw [hxl]; exact decide_eq_true hq), List.filter_nil]
        exact IntsAre.append hI2' (.cons _ _ .nil)
      · rw [decide_eq_false hq]
        k_steps
        rename Fr g4 L' _ _ => F14
        rename News g4 L' _ _ => N14
        refine ⟨g4, _, _, mC7, oC7, acc2, _, rfl, ⟨tg4, M4⟩, hoC8, F14, News.sub N14 (fun p hp => .tail _ hp), ?_⟩
        rw [etk2, List.filter_append, List.filter_cons_of_neg (by rw [hxl, decide_eq_false hq]; exact Bool.false_ne_true), List.filter_nil, List.append_nil]
        exact hI2'
    · intro highv cDh Dh gDh h tk2 hIDh hGDh FDh NDh ltDh
      have tDh := hGDh.1
      have MDh := hGDh.2
      rw [ivz.length, List.take_length] at hIDh
      have iLDh : ∀ x ∈ ls, IsL gDh x.a x.xs := fun x hx => IsL.turn MDl tDh (iLDl x hx)
      refine ⟨Dh, gDh, _, _, _, rfl, FDh, NDh, ltDh, fun h9 tk9 F9 N9 => ?_⟩
      clear N11 F11 N10 F10 Wk3 hO3 lt11 X' T' FDh NDh
      have X' := MDh.X
      have T' := MDh.T
      k_steps
      refine Blk.out ?_
      rename Fr gDh L' _ _ => F9
      rename News gDh L' _ _ => N9
      rename_i E1 hE1 lE
      refine eq_intsK (ns := (th.filter fun n => decide ((mi.filter fun j => decide (j ∉ lookL (ls.map Lv.abs) n)) = mi))) (ms := []) ⟨_, (N9 _ (.tail _ (.tail _ (.head _)))).1, rfl, _, rfl⟩ hIDl ⟨_, (N9 _ (.head _)).1, rfl, _, rfl⟩ .nil (by show un + 3 + 64 < cLine; omega) ?_
      have N10 := News.tailN N9
      clear N9 lE
      rcases Classical.em ((th.filter fun n => decide ((mi.filter fun j => decide (j ∉ lookL (ls.map Lv.abs) n)) = mi)) = []) with hlo | hlo
      · rw [decide_eq_true hlo]
        k_steps
        refine Blk.out ?_
        rename Fr gDh L' _ _ => F9
        rename News gDh L' _ _ => N9
        rename_i E1 hE1 lE
        refine eq_intsK (ns := (mi.filter fun n => decide ((th.filter fun j => decide (j ∉ lookL (ls.map Lv.abs) n)) = th))) (ms := []) ⟨_, (N9 _ (.tail _ (.head _))).1, rfl, _, rfl⟩ hIDh ⟨_, (N9 _ (.head _)).1, rfl, _, rfl⟩ .nil (by show un + 3 + 64 < cLine; omega) ?_
        have N10 := News.tailN N9
        clear N9 lE
        rcases Classical.em ((mi.filter fun n => decide ((th.filter fun j => decide (j ∉ lookL (ls.map Lv.abs) n)) = th)) = []) with hhi | hhi
        · rw [decide_eq_true hhi]
          k_steps
          dsimp only
          obtain ⟨EV, hl⟩ := exitX M F N sg gs ((t2.trans tDl).trans tDh) F9 (News.sub N10 (led' := [(Ab, oA)]) (fun p hp => List.mem_singleton.mp hp ▸ (.tail _ (.tail _ (.tail _ (.tail _ (.tail _ (.tail _ (.tail _ (.tail _ (.head _)))))))))))
          exact hret _ _ _ _ EV hl ⟨rfl, _, by rw [byDiffs, hmi, hth, ofDiffs]; rw [if_pos (show lowF mi th _ = [] ∧ lowF th mi _ = [] from ⟨hlo, hhi⟩)]⟩
        · rw [decide_eq_false hhi]
          k_steps
          refine Blk.out ?_
          rename Fr gDh L' _ _ => F9
          rename News gDh L' _ _ => N9
          rename_i E1 hE1 lE
          refine eq_intsK (ns := (th.filter fun n => decide ((mi.filter fun j => decide (j ∉ lookL (ls.map Lv.abs) n)) = mi))) (ms := []) ⟨_, (N9 _ (.tail _ (.tail _ (.head _)))).1, rfl, _, rfl⟩ hIDl ⟨_, (N9 _ (.head _)).1, rfl, _, rfl⟩ .nil (by show un + 3 + 64 < cLine; omega) ?_
          have N10 := News.tailN N9
          clear N9 lE
          rw [decide_eq_true hlo]
          k_steps
          dsimp only
          obtain ⟨EV, hl⟩ := exitX M F N sg gs ((t2.trans tDl).trans tDh) F9 (News.sub N10 (led' := [(Ab, oA)]) (fun p hp => List.mem_singleton.mp hp ▸ (.tail _ (.tail _ (.tail _ (.tail _ (.tail _ (.tail _ (.tail _ (.tail _ (.head _)))))))))))
          exact hret _ _ _ _ EV hl ⟨rfl, _, by rw [byDiffs, hmi, hth, ofDiffs]; rw [if_neg (show ¬(lowF mi th _ = [] ∧ lowF th mi _ = []) from fun z => hhi z.2), if_pos (show lowF mi th _ = [] from hlo)]⟩
      · rw [decide_eq_false hlo]
        k_steps
        refine Blk.out ?_
        rename Fr gDh L' _ _ => F9
        rename News gDh L' _ _ => N9
        rename_i E1 hE1 lE
        refine eq_intsK (ns := (th.filter fun n => decide ((mi.filter fun j => decide (j ∉ lookL (ls.map Lv.abs) n)) = mi))) (ms := []) ⟨_, (N9 _ (.tail _ (.tail _ (.head _)))).1, rfl, _, rfl⟩ hIDl ⟨_, (N9 _ (.head _)).1, rfl, _, rfl⟩ .nil (by show un + 3 + 64 < cLine; omega) ?_
        have N10 := News.tailN N9
        clear N9 lE
        rw [decide_eq_false hlo]
        k_steps
        refine Blk.out ?_
        rename Fr gDh L' _ _ => F9
        rename News gDh L' _ _ => N9
        rename_i E1 hE1 lE
        refine eq_intsK (ns := (mi.filter fun n => decide ((th.filter fun j => decide (j ∉ lookL (ls.map Lv.abs) n)) = th))) (ms := []) ⟨_, (N9 _ (.tail _ (.head _))).1, rfl, _, rfl⟩ hIDh ⟨_, (N9 _ (.head _)).1, rfl, _, rfl⟩ .nil (by show un + 3 + 64 < cLine; omega) ?_
        have N10 := News.tailN N9
        clear N9 lE
        rcases Classical.em ((mi.filter fun n => decide ((th.filter fun j => decide (j ∉ lookL (ls.map Lv.abs) n)) = th)) = []) with hhi | hhi
        · rw [decide_eq_true hhi]
          k_steps
          dsimp only
          obtain ⟨EV, hl⟩ := exitX M F N sg gs ((t2.trans tDl).trans tDh) F9 (News.sub N10 (led' := [(Ab, oA)]) (fun p hp => List.mem_singleton.mp hp ▸ (.tail _ (.tail _ (.tail _ (.tail _ (.tail _ (.tail _ (.tail _ (.tail _ (.head _)))))))))))
          exact hret _ _ _ _ EV hl ⟨rfl, _, by rw [byDiffs, hmi, hth, ofDiffs]; rw [if_neg (show ¬(lowF mi th _ = [] ∧ lowF th mi _ = []) from fun z => hlo z.1), if_neg (show ¬(lowF mi th _ = []) from hlo), if_pos (show lowF th mi _ = [] from hhi)]⟩
        · rw [decide_eq_false hhi]
          k_steps
          dsimp only
          obtain ⟨EV, hl⟩ := exitX M F N sg gs ((t2.trans tDl).trans tDh) F9 (News.sub N10 (led' := [(Ab, oA)]) (fun p hp => List.mem_singleton.mp hp ▸ (.tail _ (.tail _ (.tail _ (.tail _ (.tail _ (.tail _ (.tail _ (.tail _ (.head _)))))))))))
          exact hret _ _ _ _ EV hl ⟨rfl, _, by rw [byDiffs, hmi, hth, ofDiffs]; rw [if_neg (show ¬(lowF mi th _ = [] ∧ lowF th mi _ = []) from fun z => hlo z.1), if_neg (show ¬(lowF mi th _ = []) from hlo), if_neg (show ¬(lowF th mi _ = []) from hhi)]⟩
end
end
section
section
variable {prog : Program} {w : World} {A : Around} {s : Shared} {env : Env} {E : Value → Shared → Prop}
theorem loopT {elt target iter : PySem.Expr} {ifs : List PySem.Expr} {scope : Scope} {pos : Pos} {it acc : Value} {env : Env} {R : Result → Shared → Prop} (I : Nat → Shared → Prop)
    (turn : ∀ n s, I n s → wpAny (model prog w) A (pyNext it) (fun r s₁ => match r with
      | none => R (.ok .next) s₁
      | some v => wpAny (model prog w) A (letOwnedTupleGo target it v) (fun _ s₀ => wpAny (model prog w) A (assign target env v) (fun _ s₂ =>
          wpAny (model prog w) A (forIn ifs true fun c r => if r = true then do let ok ← isTrue c env (eval c env); pure (ForInStep.yield ok) else pure (ForInStep.yield r)) (fun ok s₃ =>
            if ok = true then wpAny (model prog w) A (eval elt env) (fun x s₄ =>
              wpAny (model prog w) A (call (.builtin "list.append") [acc, x]) (fun _ s₅ => ∃ m, m < n ∧ I m s₅) (notedBy (model prog w) A env fun e s' => R (.error e) s') s₄) (notedBy (model prog w) A env fun e s' => R (.error e) s') s₃
            else ∃ m, m < n ∧ I m s₃) (notedBy (model prog w) A env fun e s' => R (.error e) s') s₂) (notedBy (model prog w) A env fun e s' => R (.error e) s') s₀) (notedBy (model prog w) A env fun e s' => R (.error e) s') s₁) (notedBy (model prog w) A env fun e s' => R (.error e) s') s)
    (n : Nat) (h : I n s) :
    codeAny (model prog w) A (.compLoop (.ListComp elt [⟨target, iter, ifs, 0⟩] scope pos) 0 it acc env) R s := by
  revert turn h
  revert prog w A s elt target iter ifs scope pos it acc env R I n
  walk_at "16"; (iterate 7 (generalize zf w_ = R; generalize zs w_ = v_; clear w_; generalize zf v_ = R; generalize zs v_ = w_; clear v_)); generalize zf w_ = I, zs w_ = n; clear w_; rename_i prog w A s elt target iter ifs scope pos it acc env
  intro turn h
  refine codeAny_loop rfl I (fun n s hI => ?_) n h
  show wpAny _ A ((compTurn (.ListComp elt [⟨target, iter, ifs, 0⟩] scope pos) 0 it acc env).onRaise (fun x => do noteFrame x env; theTreesLotGoes x)) _ _ s
  refine wpAny_noted ?_
  rw [compTurn_list]
  refine wpAny_bind (wpAny_standAt (wpAny_bind (wpAny_mono (turn n s hI) (fun r s₁ h₁ => ?_) fun _ _ h' => h')))
  cases r with
  | none => exact wpAny_pure h₁
  | some v =>
    refine wpAny_bind (wpAny_mono h₁ (fun _ s₀ h₀ => ?_) fun _ _ h' => h')
    refine wpAny_bind (wpAny_mono h₀ (fun _ s₂ h₂ => wpAny_bind (wpAny_mono h₂ (fun ok s₃ h₃ => ?_) fun _ _ h' => h')) fun _ _ h' => h')
    cases ok with
    | false => exact wpAny_pure ⟨rfl, h₃⟩
    | true =>
      exact wpAny_bind (wpAny_bind (wpAny_mono h₃ (fun x s₄ h₄ => wpAny_bind (wpAny_mono h₄ (fun _ s₅ h₅ => wpAny_pure (wpAny_pure ⟨rfl, h₅⟩)) fun _ _ h' => h')) fun _ _ h' => h'))
noncomputable def CompTurnT (prog : Program) (w : World) (A : Around) (env : Env) (target elt : PySem.Expr) (it : Value) (ifs : List PySem.Expr) (D C : Addr) (Q : Value → Shared → Prop) (I : Nat → Shared → Prop) (n : Nat) (r : Option Value) (s₁ : Shared) : Prop := match r with
  | none => ∃ m, s₁.heap.Ns C m ∧ ∀ h', Heap.SameBut C s₁.heap h' → Q (.ref D) { s₁ with heap := h' }
  | some v => wpAny (model prog w) A (letOwnedTupleGo target it v) (fun _ s₀ => wpAny (model prog w) A (assign target env v) (fun _ s₂ =>
      wpAny (model prog w) A (forIn ifs true fun c r => if r = true then do let ok ← isTrue c env (eval c env); pure (ForInStep.yield ok) else pure (ForInStep.yield r)) (fun ok s₃ =>
        if ok = true then wpAny (model prog w) A (eval elt env) (fun x s₄ => wpAny (model prog w) A (call (.builtin "list.append") [.ref D, x]) (fun _ s₅ => Again I n s₅) (fun _ _ => False) s₄) (fun _ _ => False) s₃
        else Again I n s₃) (fun _ _ => False) s₂) (fun _ _ => False) s₀) (fun _ _ => False) s₁
theorem comp_rawT {elt target iter : PySem.Expr} {ifs : List PySem.Expr} {scope : Scope} {cl : List (Str × Addr)} {pos : Pos} {Q : Value → Shared → Prop}
    (hclos : closureFor scope env = pure cl) (hcell : ∀ y ∈ scope.names, y.2 ≠ .cell) (hkind : scope.kind = .function)
    (hnames : ∀ y ∈ scope.names, y.2 = .local → scope.names.lookup y.1 = some .local)
    (h : wpAny (model prog w) A (eval iter env) (fun xv s₁ => wpAny (model prog w) A (pyIter xv) (fun itv s₂ =>
      ∀ D C h₂ tk, D = s₂.heap.objs.size → C = D + 1 → (∀ b o, s₂.heap.get? b = some o → h₂.get? b = some o) → h₂.get? D = some (W.listOf #[] 0) → h₂.Ns C (fun _ => none) →
        ∃ (I : Nat → Shared → Prop) (n : Nat), I n { s₂ with heap := h₂, toks := tk } ∧ (∀ (n : Nat) (s : Shared) (Q' : Value → Shared → Prop) (E' : Value → Shared → Prop), I n s → Q' itv s → wpAny (model prog w) A (pyIter itv) Q' E' s) ∧
          ∀ n s, I n s → wpAny (model prog w) A (pyNext itv) (CompTurnT prog w A (compEnvC scope cl C env) target elt itv ifs D C Q I n) (fun _ _ => False) s) (fun _ _ => False) s₁) (fun _ _ => False) s)
    (hs : ∀ x, foldedSetIterable iter env x = pure x := by intro _; rfl) :
    wpAny (model prog w) A (eval (.ListComp elt [⟨target, iter, ifs, 0⟩] scope pos) env) Q (fun _ _ => False) s := by
  revert hclos hcell hkind hnames h hs
  revert prog w A s env elt target iter ifs scope cl pos Q
  walk_at "13"; (iterate 5 (generalize zf w_ = cl; generalize zs w_ = v_; clear w_; generalize zf v_ = cl; generalize zs v_ = w_; clear v_)); generalize zf w_ = cl; generalize zs w_ = v_; clear w_; generalize zf v_ = pos, zs v_ = Q; clear v_; rename_i prog w A s env elt target iter ifs scope
  intro hclos hcell hkind hnames h hs
  rw [eval_ListComp]
  refine wpAny_comprehension_free (use := none) rfl hs hclos hkind hnames (wpAny_mono h (fun xv s₁ h₁ => wpAny_mono h₁ (fun itv s₂ h₂ => ?_) fun _ _ e => e) fun _ _ e => e)
  refine wpAny_newObj_type (wpAny_newFunctionEnv hcell (by intro y hy; simp at hy) (fun h₁ hns₁ hsb₁ => ?_) hkind)
  dsimp only at hns₁ hsb₁ ⊢
  have hC : (s₂.heap.push { cls := .type "list", dict := none, data := .seq ([] : List Value).toArray }).objs.size = s₂.heap.objs.size + 1 := by rw [Heap.size_push]
  have old : ∀ b o, s₂.heap.get? b = some o → h₁.get? b = some o := fun b o e => hsb₁.extBut b o (by rw [hC]; exact Nat.ne_of_lt (Nat.lt_succ_of_lt (Heap.lt_size e))) (Heap.get?_push_of_some _ (Heap.get?_push_of_some _ e))
  have hD : h₁.get? s₂.heap.objs.size = some (W.listOf #[] 0) := hsb₁.extBut _ _ (by rw [hC]; exact Nat.ne_of_lt (Nat.lt_succ_self _)) (Heap.get?_push_of_some _ (Heap.get?_push_size _ rfl))
  obtain ⟨I, n, hI, hself, turn⟩ := h₂ s₂.heap.objs.size _ h₁ (s₂.toks + ([] : List (Str × Value)).length) rfl hC old hD hns₁
  have loop : codeAny (model prog w) A (.compLoop (.ListComp elt [⟨target, iter, ifs, 0⟩] scope pos) 0 itv (.ref s₂.heap.objs.size) (compEnvC scope cl (s₂.heap.push { cls := .type "list", dict := none, data := .seq ([] : List Value).toArray }).objs.size env))
      (compPost (model prog w) A (fun _ _ => False) none Q (.ref s₂.heap.objs.size) (s₂.heap.push { cls := .type "list", dict := none, data := .seq ([] : List Value).toArray }).objs.size) { s₂ with heap := h₁, toks := s₂.toks + ([] : List (Str × Value)).length } := by
    refine loopT I (fun n s hI => ?_) n hI
    refine wpAny_mono (turn n s hI) (fun r s₁ hr => ?_) (fun _ _ e => e.elim)
    cases r with
    | none => exact hr
    | some v =>
      refine wpAny_mono hr (fun _ s₀ h₀ => wpAny_mono h₀ (fun _ s₂ h₂ => wpAny_mono h₂ (fun ok s₃ h₃ => ?_) (fun _ _ e => e.elim)) (fun _ _ e => e.elim)) (fun _ _ e => e.elim)
      cases ok with
      | false => simp only [Bool.false_eq_true, if_false] at h₃ ⊢; exact h₃
      | true =>
        simp only [if_true] at h₃ ⊢
        exact wpAny_mono h₃ (fun x s₄ h₄ => wpAny_mono h₄ (fun _ s₅ h₅ => h₅) (fun _ _ e => e.elim)) (fun _ _ e => e.elim)
  exact codeAny_compStart_list loop (hself n _ _ _ hI loop)
theorem assign_pair_own {xa xb : Str} {pa pb pt : Pos} {x1} {scope : Scope} {cl : List (Str × Addr)} {C L T : Addr} {g : Heap} {m mC : Str → Option Value} {oC : Obj} {rest : List (Addr × Obj)} {a b : Value} {Q : Unit → Shared → Prop} (hh : A.handled = none)
    (F : Fr g L s.heap m) (N : News g L s.heap ((C, oC) :: rest)) (hC : LCg.NsObj oC mC) (nd : ∀ p ∈ rest, p.1 ≠ C) (eT : s.heap.IsTuple T #[a, b])
    (h : ∀ h' oC' tk', Fr g L h' m → News g L h' ((C, oC') :: rest) → LCg.NsObj oC' (fun y => if y = xb then some b else if y = xa then some a else mC y) → Q () { s with heap := h', toks := tk' })
    (hxa : scope.names.lookup xa = some .local := by rfl) (hxb : scope.names.lookup xb = some .local := by rfl) (hkind : scope.kind = .function := by rfl) :
    wpAny (model prog w) A (assign (.Tuple [.Name xa pa, .Name xb pb] x1 pt) (compEnvC scope cl C env) (.ref T)) Q E s := by
  refine wpAny_assign_Tuple hh (items := #[a, b]) eT rfl rfl fun h₃ hx₃ => ?_
  have up : ∀ b' o, s.heap.get? b' = some o → h₃.get? b' = some o := fun b' o q => hx₃ b' o (Nat.ne_of_lt (Heap.lt_size q)) q
  have F₃ : Fr g L h₃ m := F.keeps up
  have N₃ : News g L h₃ ((C, oC) :: rest) := fun p hp => ⟨up _ _ (N p hp).1, (N p hp).2⟩
  show wpAny _ _ (do holding [b] (assign (.Name xa pa) (compEnvC scope cl C env) a); do holding [] (assign (.Name xb pb) (compEnvC scope cl C env) b); pure ()) _ _ _
  refine wpAny_bind (wpAny_holding (assign_own F₃ N₃ hC nd (fun h₄ oC₄ tk₄ F₄ N₄ hC₄ => ?_) hxa hkind))
  refine wpAny_bind (wpAny_holding (assign_own F₄ N₄ hC₄ nd (fun h₅ oC₅ tk₅ F₅ N₅ hC₅ => wpAny_pure ?_) hxb hkind))
  exact h h₅ oC₅ _ F₅ N₅ hC₅
end
end
section
section
variable {prog : Program} {w : World} {A : Around} {s : Shared} {env : Env}
noncomputable def enO (it : Addr) (i : Nat) (old : Value) : Obj := { cls := .type "enumerate", dict := none, data := .fields #[.none, .bool false, .ref it, rawInt i, .none, old], slots := #[] }
noncomputable def LiO (it l : Addr) (i : Nat) (oI : Obj) : Prop := ∀ h : Heap, h.get? it = some oI → h.IsListIter it l i
theorem LiO.of {it l : Addr} {i : Nat} {h : Heap} (st : h.IsListIter it l i) : ∃ oI, h.get? it = some oI ∧ LiO it l i oI := by
  obtain ⟨o, e, r⟩ := st
  exact ⟨o, e, fun h q => ⟨o, q, r⟩⟩
theorem it_enum {L l : Addr} {g : Heap} {m : Str → Option Value} {items : Array Value} {news : List (Addr × Obj)} {Q : Value → Shared → Prop} {E : Value → Shared → Prop} (F : Fr g L s.heap m) (N : News g L s.heap news) (hL : s.heap.IsList l items)
    (h : ∀ e it oI h', Fr g L h' m → News g L h' ((e, enO it 0 .none) :: (it, oI) :: news) → LiO it l 0 oI → (∀ p ∈ news, p.1 < it) → it < e → l < it → Q (.ref e) { s with heap := h' }) :
    wpAny (model prog w) A (call (.type "enumerate") [.ref l]) Q E s := by
  have hl : l < s.heap.objs.size := by obtain ⟨_, e, _⟩ := hL; exact Heap.lt_size e
  refine call_enumerate_list hL fun h' he hi _ hk => ?_
  obtain ⟨oI, eI, hI⟩ := LiO.of hi
  have gsz : g.objs.size ≤ s.heap.objs.size := Nat.le_of_lt (Nat.lt_of_le_of_lt F.above (Fr.ltL F))
  refine h _ _ oI h' (F.keeps hk) (fun p hp => ?_) hI (fun p hp => Heap.lt_size (N p hp).1) (Nat.lt_succ_self _) hl
  rcases List.mem_cons.mp hp with rfl | hp
  · exact ⟨he, Nat.ne_of_gt (Nat.lt_succ_of_lt (Fr.ltL F)), Heap.get?_none_of_le (Nat.le_succ_of_le gsz)⟩
  rcases List.mem_cons.mp hp with rfl | hp
  · exact ⟨eI, Nat.ne_of_gt (Fr.ltL F), Heap.get?_none_of_le gsz⟩
  · exact ⟨hk _ _ (N p hp).1, (N p hp).2⟩
theorem comp_enum {elt : PySem.Expr} {ifs : List PySem.Expr} {xa xb : Str} {pa pb pt : Pos} {x1} {scope : Scope} {cl : List (Str × Addr)} {Q : Value → Shared → Prop} {L e it l : Addr} {g : Heap} {m : Str → Option Value} {old : Value} {oI : Obj} {news : List (Addr × Obj)} {vs : List Value}
    (hh : A.handled = none) (F : Fr g L s.heap m) (N : News g L s.heap ((e, enO it 0 old) :: (it, oI) :: news)) (lti : ∀ p ∈ news, p.1 < it) (hie : it < e) (hli : l < it) (hI : LiO it l 0 oI) (hl : ∀ h, Fr g L h m → News g L h news → h.IsList l vs.toArray)
    (Inv : Nat → List Value → Prop) (h0 : Inv 0 [])
    (turn : ∀ i t x acc c D C oC h tk mC old' oI', i < vs.length → vs[i]? = some x → Inv i acc → LCg.NsObj oC mC → mC xb = some x → (xa ≠ xb → mC xa = some (.int (i : Nat) t)) → Fr g L h m → News g L h ((C, oC) :: (D, W.listOf acc.toArray c) :: (e, enO it (i + 1) old') :: (it, oI') :: news) → (∀ p ∈ news, p.1 < D) → e < D → it < D → C = D + 1 →
      wpAny (model prog w) A (forIn ifs true fun c r => if r = true then do let ok ← isTrue c (compEnvC scope cl C env) (eval c (compEnvC scope cl C env)); pure (ForInStep.yield ok) else pure (ForInStep.yield r)) (fun ok s₃ =>
          if ok = true then wpAny (model prog w) A (eval elt (compEnvC scope cl C env)) (fun x s₄ => wpAny (model prog w) A (call (.builtin "list.append") [.ref D, x]) (fun _ s₅ => CompEnd s (fun g2 => g2 = g) C L e D m (enO it (i + 1) old') ((it, oI') :: news) (Inv (i + 1)) s₅) (fun _ _ => False) s₄) (fun _ _ => False) s₃
          else CompEnd s (fun g2 => g2 = g) C L e D m (enO it (i + 1) old') ((it, oI') :: news) (Inv (i + 1)) s₃) (fun _ _ => False) { s with heap := h, toks := tk })
    (done : ∀ acc c D h tk, Inv vs.length acc → Fr g L h m → News g L h ((D, W.listOf acc.toArray c) :: news) → (∀ p ∈ news, p.1 < D) → Q (.ref D) { s with heap := h, toks := tk })
    (hxa : scope.names.lookup xa = some .local := by rfl) (hxb : scope.names.lookup xb = some .local := by rfl) (hkind : scope.kind = .function := by rfl) :
    ∀ D C h₂ tk, D = s.heap.objs.size → C = D + 1 → (∀ b o, s.heap.get? b = some o → h₂.get? b = some o) → h₂.get? D = some (W.listOf #[] 0) → h₂.Ns C (fun _ => none) →
      ∃ (I : Nat → Shared → Prop) (n : Nat), I n { s with heap := h₂, toks := tk } ∧ (∀ (n : Nat) (s : Shared) (Q' : Value → Shared → Prop) (E' : Value → Shared → Prop), I n s → Q' (.ref e) s → wpAny (model prog w) A (pyIter (.ref e)) Q' E' s) ∧
          ∀ n s, I n s → wpAny (model prog w) A (pyNext (.ref e)) (CompTurnT prog w A (compEnvC scope cl C env) (.Tuple [.Name xa pa, .Name xb pb] x1 pt) elt (.ref e) ifs D C Q I n) (fun _ _ => False) s := by
  intro D C h₂ tk eD eC hk hDl hC
  have eD' : @Eq Nat D s.heap.objs.size := eD
  have eC' : @Eq Nat C (D + 1) := eC
  refine exE1 (LCg.ns_obj hC) fun oC0 h65_1 => ?_
  have eC0 := h65_1.1
  have hoC0 := h65_1.2
  have ltL : L < D := eD ▸ Fr.ltL F
  have gsz : g.objs.size ≤ D := Nat.le_of_lt (Nat.lt_of_le_of_lt F.above ltL)
  have lt : ∀ p ∈ news, p.1 < D := fun p hp => eD ▸ Heap.lt_size (N p (.tail _ (.tail _ hp))).1
  have lte : e < D := eD ▸ Heap.lt_size (N _ (.head _)).1
  have ltit : it < D := Nat.lt_trans hie lte
  have nD : g.get? D = none := Heap.get?_none_of_le gsz
  have nC : g.get? C = none := Heap.get?_none_of_le (by rw [eC']; exact Nat.le_succ_of_le gsz)
  have CL : C ≠ L := Nat.ne_of_gt (by rw [eC']; exact Nat.lt_succ_of_lt ltL)
  have hei : e ≠ it := Nat.ne_of_gt hie
  have hle : l ≠ e := Nat.ne_of_lt (Nat.lt_trans hli hie)
  have hlit : l ≠ it := Nat.ne_of_lt hli
  have ndC : ∀ p ∈ (D, W.listOf [].toArray 0) :: (e, enO it 0 old) :: (it, oI) :: news, p.1 < C := fun p hp => by
    rw [eC']
    rcases List.mem_cons.mp hp with rfl | hp
    · exact Nat.lt_succ_self _
    rcases List.mem_cons.mp hp with rfl | hp
    · exact Nat.lt_succ_of_lt lte
    rcases List.mem_cons.mp hp with rfl | hp
    · exact Nat.lt_succ_of_lt ltit
    · exact Nat.lt_succ_of_lt (lt p hp)
  have Wk := WalksT.enumerate (prog := prog) (w := w) hh e it l hei hle hlit vs.toArray
  refine ⟨fun k s' => ∃ i old oI', i ≤ vs.length ∧ k = vs.length - i ∧ LiO it l i oI' ∧ CompEnd s (fun g2 => g2 = g) C L e D m (enO it i old) ((it, oI') :: news) (Inv i) s', vs.length, ⟨0, old, oI, Nat.zero_le _, rfl, hI, g, h₂, tk, fun _ => none, oC0, [], 0, rfl, rfl, hoC0, ⟨?_, fun b o q => hk b o (F.keep b o q), F.above⟩, ?_, h0⟩, ?_, ?_⟩
  · obtain ⟨oL, es, ep, q, r⟩ := F.ns
    exact ⟨oL, es, ep, hk _ _ q, r⟩
  · intro p hp
    rcases List.mem_cons.mp hp with rfl | hp
    · exact ⟨eC0, CL, nC⟩
    rcases List.mem_cons.mp hp with rfl | hp
    · exact ⟨hDl, Nat.ne_of_gt ltL, nD⟩
    · exact ⟨hk _ _ (N p hp).1, (N p hp).2.1, (N p hp).2.2⟩
  · rintro k s' Q' E' ⟨i, old, oI', hi, rfl, hI', g2, h, tk', mC, oL, acc, c, rfl, rfl, hoL, FC, NC, hIv⟩ q
    exact Wk.self i _ _ _ ⟨⟨old, (NC _ (.tail _ (.tail _ (.head _)))).1⟩, hI' h (NC _ (.tail _ (.tail _ (.tail _ (.head _))))).1, hl h FC (News.sub NC fun p hp => .tail _ (.tail _ (.tail _ (.tail _ hp))))⟩ q
  · rintro k s' ⟨i, old, oI', hi, rfl, hI', g2, h, tk', mC, oC, acc, c, rfl, hg, hoC, FC, NC, hIv⟩
    have hg := hg.symm
    subst hg
    have st := And.intro (Exists.intro (p := fun old => IsEnum h e it ((i : Nat) : Int) old) old (NC _ (.tail _ (.tail _ (.head _)))).1) (And.intro (hI' h (NC _ (.tail _ (.tail _ (.tail _ (.head _))))).1) (hl h FC (News.sub NC fun p hp => .tail _ (.tail _ (.tail _ (.tail _ hp))))))
    have qe := (NC _ (.tail _ (.tail _ (.head _)))).2
    have qi := (NC _ (.tail _ (.tail _ (.tail _ (.head _))))).2
    have eL : L ∉ [e, it] := fun z => by
      simp only [List.mem_cons, List.not_mem_nil, or_false] at z
      rcases z with z | z
      · exact qe.1 z.symm
      · exact qi.1 z.symm
    have offC : C ∉ [e, it] := fun z => by
      simp only [List.mem_cons, List.not_mem_nil, or_false] at z
      rcases z with z | z
      · exact absurd (show (C : Nat) = e from z) (Nat.ne_of_gt (by rw [eC']; exact Nat.lt_succ_of_lt lte))
      · exact absurd (show (C : Nat) = it from z) (Nat.ne_of_gt (by rw [eC']; exact Nat.lt_succ_of_lt ltit))
    have offD : D ∉ [e, it] := fun z => by
      simp only [List.mem_cons, List.not_mem_nil, or_false] at z
      rcases z with z | z
      · exact absurd (show (D : Nat) = e from z) (Nat.ne_of_gt lte)
      · exact absurd (show (D : Nat) = it from z) (Nat.ne_of_gt ltit)
    have offn : ∀ p ∈ news, p.1 ∉ [e, it] := fun p hp z => by
      simp only [List.mem_cons, List.not_mem_nil, or_false] at z
      rcases z with z | z
      · exact absurd (show (p.1 : Nat) = e from z) (Nat.ne_of_lt (Nat.lt_trans (lti p hp) hie))
      · exact absurd (show (p.1 : Nat) = it from z) (Nat.ne_of_lt (lti p hp))
    have gne : ∀ b o, g.get? b = some o → b ∉ [e, it] := fun b o q z => by
      simp only [List.mem_cons, List.not_mem_nil, or_false] at z
      rcases z with z | z
      · rw [z, qe.2] at q; cases q
      · rw [z, qi.2] at q; cases q
    have mvF : ∀ h', (∀ b o, b ∉ [e, it] → h.get? b = some o → h'.get? b = some o) → Fr g L h' m := fun h' hk => by
      obtain ⟨oL, es, ep, q, r⟩ := FC.ns
      exact ⟨⟨oL, es, ep, hk _ _ eL q, r⟩, fun b o q => hk b o (gne b o q) (FC.keep b o q), FC.above⟩
    by_cases hin : i < vs.length
    · refine Wk.item i _ _ _ (by rw [List.size_toArray]; exact hin) st fun T vals h4 tk4 hP hT hTup hMid hk4 => ?_
      obtain ⟨t, x, hx, rfl⟩ := hP
      dsimp only [CompTurnT]
      have apT := Wk.apart _ _ _ hMid
      refine Wk.go _ _ _ i T _ _ _ hMid fun h5 st5 hk5 => ?_
      dsimp only at hk5 hk4
      have k5 : ∀ b o, b ∉ [e, it] → h.get? b = some o → h5.get? b = some o := fun b o nb q => hk5 b o nb (hk4 b o nb q)
      obtain ⟨⟨old5, he5⟩, hit5, hl5⟩ := st5
      refine exE1 (LiO.of hit5) fun oI5 h141_1 => ?_
      have eI5 := h141_1.1
      have hI5 := h141_1.2
      have F5 := mvF h5 k5
      have N5 : News g L h5 ((C, oC) :: (D, W.listOf acc.toArray c) :: (e, enO it (i + 1) old5) :: (it, oI5) :: news) := fun p hp => by
        rcases List.mem_cons.mp hp with rfl | hp
        · exact ⟨k5 _ _ offC (NC _ (.head _)).1, (NC _ (.head _)).2⟩
        rcases List.mem_cons.mp hp with rfl | hp
        · exact ⟨k5 _ _ offD (NC _ (.tail _ (.head _))).1, (NC _ (.tail _ (.head _))).2⟩
        rcases List.mem_cons.mp hp with rfl | hp
        · exact ⟨he5, qe⟩
        rcases List.mem_cons.mp hp with rfl | hp
        · exact ⟨eI5, qi⟩
        · have := NC p (.tail _ (.tail _ (.tail _ (.tail _ hp))))
          exact ⟨k5 _ _ (offn p hp) this.1, this.2⟩
      have ndC5 : ∀ p ∈ (D, W.listOf acc.toArray c) :: (e, enO it (i + 1) old5) :: (it, oI5) :: news, p.1 ≠ C := fun p hp => by
        rcases List.mem_cons.mp hp with rfl | hp
        · exact Nat.ne_of_lt (by rw [eC']; exact Nat.lt_succ_self _)
        rcases List.mem_cons.mp hp with rfl | hp
        · exact Nat.ne_of_lt (by rw [eC']; exact Nat.lt_succ_of_lt lte)
        rcases List.mem_cons.mp hp with rfl | hp
        · exact Nat.ne_of_lt (by rw [eC']; exact Nat.lt_succ_of_lt ltit)
        · exact Nat.ne_of_lt (ndC p (.tail _ (.tail _ (.tail _ hp))))
      refine assign_pair_own (a := .int i t) (b := x) hh F5 N5 hoC ndC5 ?_ (fun h6 oC6 tk6 F6 N6 hoC6 => ?_) hxa hxb hkind
      · obtain ⟨oT, eT, r⟩ := hTup
        exact ⟨oT, hk5 _ _ apT eT, r⟩
      have fin : ∀ s₅, CompEnd s (fun g2 => g2 = g) C L e D m (enO it (i + 1) old5) ((it, oI5) :: news) (Inv (i + 1)) s₅ → Again (fun k s' => ∃ i old oI', i ≤ vs.length ∧ k = vs.length - i ∧ LiO it l i oI' ∧ CompEnd s (fun g2 => g2 = g) C L e D m (enO it i old) ((it, oI') :: news) (Inv i) s') (vs.length - i) s₅ :=
        fun s₅ h5 => ⟨vs.length - (i + 1), by omega, i + 1, old5, oI5, hin, rfl, hI5, h5⟩
      rw [List.getElem?_toArray] at hx
      refine wpAny_mono (turn i t x acc c D C oC6 h6 tk6 _ old5 oI5 hin hx hIv hoC6 (if_pos rfl) (fun z => (if_neg z).trans (if_pos rfl)) F6 N6 lt lte ltit eC) (fun ok s₃ h3 => ?_) fun _ _ z => z
      split
      · rename_i hok
        rw [if_pos hok] at h3
        exact wpAny_mono h3 (fun x s₄ h4 => wpAny_mono h4 (fun _ s₅ h5 => fin s₅ h5) fun _ _ z => z) fun _ _ z => z
      · rename_i hok
        rw [if_neg hok] at h3
        exact fin _ h3
    · have ei : i = vs.length := by omega
      subst ei
      refine Wk.done _ _ _ (by rw [List.size_toArray]; exact st) fun h4 tk4 hk4 => ?_
      dsimp only [CompTurnT]
      dsimp only at hk4
      refine ⟨mC, hoC.ns (hk4 _ _ offC (NC _ (.head _)).1), fun h' hs => ?_⟩
      have F4 := mvF h4 hk4
      have F' : Fr g L h' m := ⟨F4.ns.sameBut hs CL.symm, fun b o q => (hs.2 b (fun z => by rw [z, nC] at q; cases q)).trans (F4.keep b o q), F4.above⟩
      refine done acc c D h' tk4 hIv F' (fun p hp => ?_) lt
      rcases List.mem_cons.mp hp with rfl | hp
      · exact ⟨(hs.2 _ (Nat.ne_of_lt (by rw [eC']; exact Nat.lt_succ_self _))).trans (hk4 _ _ offD (NC _ (.tail _ (.head _))).1), (NC _ (.tail _ (.head _))).2⟩
      · have q := NC p (.tail _ (.tail _ (.tail _ (.tail _ hp))))
        exact ⟨(hs.2 _ (Nat.ne_of_lt (ndC p (.tail _ (.tail _ (.tail _ hp)))))).trans (hk4 _ _ (offn p hp) q.1), q.2⟩
end
end
section
theorem compTurn_in (elt t1 i1 t2 i2 : PySem.Expr) (scope : Scope) (pos : Pos) (it acc : Value) (env : Env) :
    compTurn (.ListComp elt [⟨t1, i1, [], 0⟩, ⟨t2, i2, [], 0⟩] scope pos) 1 it acc env = (standAt i2.pos >>= fun _ => pyNext it >>= fun r => match r with
      | none => pure (.done .next)
      | some v => letOwnedTupleGo t2 it v >>= fun _ => assign t2 env v >>= fun _ =>
        (eval elt env >>= fun x => call (.builtin "list.append") [acc, x] >>= fun _ => pure ()) >>= fun _ =>
          again (.compLoop (.ListComp elt [⟨t1, i1, [], 0⟩, ⟨t2, i2, [], 0⟩] scope pos) 1 it acc env)) := by rfl
theorem compTurn_out (elt t1 i1 t2 i2 : PySem.Expr) (scope : Scope) (pos : Pos) (it acc : Value) (env : Env) (hs : ∀ x, foldedSetIterable i2 env x = pure x) :
    compTurn (.ListComp elt [⟨t1, i1, [], 0⟩, ⟨t2, i2, [], 0⟩] scope pos) 0 it acc env = (standAt i1.pos >>= fun _ => pyNext it >>= fun r => match r with
      | none => pure (.done .next)
      | some v => letOwnedTupleGo t1 it v >>= fun _ => assign t1 env v >>= fun _ =>
        (eval i2 env >>= fun x => standAt i2.pos >>= fun _ => foldedSetIterable i2 env x >>= fun x => holding [x] (pyIter x) >>= fun it2 => runOwn (.compStart (.ListComp elt [⟨t1, i1, [], 0⟩, ⟨t2, i2, [], 0⟩] scope pos) 1 it2 acc env) env >>= fun _ =>
          again (.compLoop (.ListComp elt [⟨t1, i1, [], 0⟩, ⟨t2, i2, [], 0⟩] scope pos) 0 it acc env))) := by rfl
section
variable {prog : Program} {w : World} {A : Around} {s : Shared} {R : Result → Shared → Prop}
theorem loop_in {elt t1 i1 t2 i2 : PySem.Expr} {scope : Scope} {pos : Pos} {it acc : Value} {env : Env} (I : Nat → Shared → Prop)
    (turn : ∀ n s, I n s → wpAny (model prog w) A (pyNext it) (fun r s₁ => match r with
      | none => R (.ok .next) s₁
      | some v => wpAny (model prog w) A (assign t2 env v) (fun _ s₂ => wpAny (model prog w) A (eval elt env) (fun x s₃ =>
          wpAny (model prog w) A (call (.builtin "list.append") [acc, x]) (fun _ s₄ => ∃ m, m < n ∧ I m s₄) (fun _ _ => False) s₃)
          (fun _ _ => False) s₂) (fun _ _ => False) s₁) (fun _ _ => False) s)
    (n : Nat) (h : I n s) (ht : ∀ v, letOwnedTupleGo t2 it v = pure () := by intro _; rfl) :
    codeAny (model prog w) A (.compLoop (.ListComp elt [⟨t1, i1, [], 0⟩, ⟨t2, i2, [], 0⟩] scope pos) 1 it acc env) R s := by
  refine codeAny_loop rfl I (fun n s hI => ?_) n h
  show wpAny _ _ ((compTurn (.ListComp elt [⟨t1, i1, [], 0⟩, ⟨t2, i2, [], 0⟩] scope pos) 1 it acc env).onRaise (fun x => do noteFrame x env; theTreesLotGoes x)) _ _ s
  refine wpAny_noted ?_
  rw [compTurn_in]
  refine wpAny_bind (wpAny_standAt (wpAny_bind (wpAny_mono (turn n s hI) (fun r s₁ h₁ => ?_) fun _ _ h' => h'.elim)))
  cases r with
  | none => exact wpAny_pure h₁
  | some v =>
    refine wpAny_bind (wpAny_of_eq (ht v) ?_)
    refine wpAny_bind (wpAny_mono h₁ (fun _ s₂ h₂ => ?_) fun _ _ h' => h'.elim)
    exact wpAny_bind (wpAny_bind (wpAny_mono h₂ (fun x s₄ h₄ => wpAny_bind (wpAny_mono h₄ (fun _ s₅ h₅ => wpAny_pure (wpAny_pure ⟨rfl, h₅⟩)) fun _ _ h' => h'.elim)) fun _ _ h' => h'.elim))
theorem loop_out {elt t1 i1 t2 i2 : PySem.Expr} {scope : Scope} {pos : Pos} {it acc : Value} {env : Env} (I : Nat → Shared → Prop)
    (turn : ∀ n s, I n s → wpAny (model prog w) A (pyNext it) (fun r s₁ => match r with
      | none => R (.ok .next) s₁
      | some v => wpAny (model prog w) A (assign t1 env v) (fun _ s₂ => wpAny (model prog w) A (eval i2 env) (fun x s₃ =>
          wpAny (model prog w) A (pyIter x) (fun it2 s₄ => codeAny (model prog w) (A.mark none) (.compStart (.ListComp elt [⟨t1, i1, [], 0⟩, ⟨t2, i2, [], 0⟩] scope pos) 1 it2 acc env) (fun r s₅ => match r with | .ok _ => ∃ m, m < n ∧ I m s₅ | .error _ => False) s₄) (fun _ _ => False) s₃)
          (fun _ _ => False) s₂) (fun _ _ => False) s₁) (fun _ _ => False) s)
    (n : Nat) (h : I n s) (ht : ∀ v, letOwnedTupleGo t1 it v = pure () := by intro _; rfl) (hs : ∀ x, foldedSetIterable i2 env x = pure x := by intro _; rfl) :
    codeAny (model prog w) A (.compLoop (.ListComp elt [⟨t1, i1, [], 0⟩, ⟨t2, i2, [], 0⟩] scope pos) 0 it acc env) R s := by
  revert turn h ht hs
  revert prog w A s R elt t1 i1 t2 i2 scope pos it acc env I n
  walk_at "16"; (iterate 7 (generalize zf w_ = acc; generalize zs w_ = v_; clear w_; generalize zf v_ = acc; generalize zs v_ = w_; clear v_)); generalize zf w_ = env, zs w_ = I; clear w_; rename_i prog w A s R elt t1 i1 t2 i2 scope pos it
  walk_at "1"; generalize w_ = n
  intro turn h ht hs
  refine codeAny_loop rfl I (fun n s hI => ?_) n h
  show wpAny _ _ ((compTurn (.ListComp elt [⟨t1, i1, [], 0⟩, ⟨t2, i2, [], 0⟩] scope pos) 0 it acc env).onRaise (fun x => do noteFrame x env; theTreesLotGoes x)) _ _ s
  refine wpAny_noted ?_
  rw [compTurn_out _ _ _ _ _ _ _ _ _ _ hs]
  refine wpAny_bind (wpAny_standAt (wpAny_bind (wpAny_mono (turn n s hI) (fun r s₁ h₁ => ?_) fun _ _ h' => h'.elim)))
  cases r with
  | none => exact wpAny_pure h₁
  | some v =>
    refine wpAny_bind (wpAny_of_eq (ht v) ?_)
    refine wpAny_bind (wpAny_mono h₁ (fun _ s₂ h₂ => ?_) fun _ _ h' => h'.elim)
    refine wpAny_bind (wpAny_mono h₂ (fun x s₃ h₃ => ?_) fun _ _ h' => h'.elim)
    refine wpAny_bind (wpAny_standAt (wpAny_bind (wpAny_of_eq (hs x) (wpAny_bind (wpAny_holding (wpAny_mono h₃ (fun it2 s₄ h₄ => ?_) fun _ _ h' => h'.elim))))))
    refine wpAny_bind (wpAny_runOwn (codeAny_mono h₄ fun r s₅ h₅ => ?_))
    cases r with
    | ok f => exact wpAny_pure ⟨rfl, h₅⟩
    | error e => exact h₅.elim
end
end
section
section
variable {prog : Program} {w : World} {A : Around} {s : Shared} {R : Result → Shared → Prop} {env : Env}
theorem start_in {elt t1 i1 t2 i2 : PySem.Expr} {scope : Scope} {pos : Pos} {it acc : Value} {env : Env}
    (h0 : codeAny (model prog w) A (.compLoop (.ListComp elt [⟨t1, i1, [], 0⟩, ⟨t2, i2, [], 0⟩] scope pos) 1 it acc env) R s)
    (h : wpAny (model prog w) A (pyIter it) (fun it' s' => codeAny (model prog w) A (.compLoop (.ListComp elt [⟨t1, i1, [], 0⟩, ⟨t2, i2, [], 0⟩] scope pos) 1 it' acc env) R s') (fun _ _ => False) s) :
    codeAny (model prog w) A (.compStart (.ListComp elt [⟨t1, i1, [], 0⟩, ⟨t2, i2, [], 0⟩] scope pos) 1 it acc env) R s := by
  refine codeAny_of_tree ?_
  show wpAny _ _ ((compStart (.ListComp elt [⟨t1, i1, [], 0⟩, ⟨t2, i2, [], 0⟩] scope pos) 1 it acc env).onRaise (fun x => do noteFrame x env; standAt theWindowsPlace)) _ _ s
  refine wpAny_notedAt ?_
  unfold compStart
  show wpAny _ _ (ask >>= _) _ _ s
  refine wpAny_bind (wpAny_askSetting (wpAny_ite ?_))
  split
  · first
      | exact wpAny_bind (wpAny_pure (wpAny_pure (And.intro rfl h0)))
      | exact wpAny_pure (And.intro rfl h0)
  · first
      | exact wpAny_bind (wpAny_rule (wpAny_bind (wpAny_standAt (wpAny_bind (wpAny_mono h (fun it' s' h' => wpAny_pure (And.intro rfl h')) fun _ _ x => x.elim)))))
      | (refine wpAny_bind (wpAny_rule ?_); show wpAny _ _ (standAt i2.pos >>= _) _ _ s; exact wpAny_bind (wpAny_standAt (wpAny_bind (wpAny_mono h (fun it' s' h' => wpAny_pure (And.intro rfl h')) fun _ _ x => x.elim))))
noncomputable def CompTurn2 (prog : Program) (w : World) (A : Around) (env : Env) (e2 t1 i2 t2 elt : PySem.Expr) (D C : Addr) (Q : Value → Shared → Prop) (I : Nat → Shared → Prop) (n : Nat) (r : Option Value) (s₁ : Shared) : Prop := match r with
  | none => ∃ m, s₁.heap.Ns C m ∧ ∀ h', Heap.SameBut C s₁.heap h' → Q (.ref D) { s₁ with heap := h' }
  | some v => wpAny (model prog w) A (assign t1 env v) (fun _ s₂ => wpAny (model prog w) A (eval i2 env) (fun x s₃ => wpAny (model prog w) A (pyIter x) (fun it2 s₄ =>
      ∃ (J : Nat → Shared → Prop) (k : Nat), J k s₄ ∧ (∀ (k : Nat) (s : Shared) (Q' : Value → Shared → Prop) (E' : Value → Shared → Prop), J k s → Q' it2 s → wpAny (model prog w) (A.mark none) (pyIter it2) Q' E' s) ∧
        ∀ k s, J k s → wpAny (model prog w) (A.mark none) (pyNext it2) (fun r s₁ => match r with
          | none => Again I n s₁
          | some v => wpAny (model prog w) (A.mark none) (assign t2 env v) (fun _ s₂ => wpAny (model prog w) (A.mark none) (eval elt env) (fun x s₃ =>
            wpAny (model prog w) (A.mark none) (call (.builtin "list.append") [.ref D, x]) (fun _ s₄ => Again J k s₄) (fun _ _ => False) s₃) (fun _ _ => False) s₂) (fun _ _ => False) s₁) (fun _ _ => False) s) (fun _ _ => False) s₃) (fun _ _ => False) s₂) (fun _ _ => False) s₁
noncomputable def UseEnd2 (L : Addr) (y : Str) (Q : Flow → Shared → Prop) (v : Value) (s' : Shared) : Prop := ∃ (D : Addr) (g2 : Heap) (m : Str → Option Value) (news : List (Addr × Obj)) (o : Obj), v = .ref D ∧ Fr g2 L s'.heap m ∧ News g2 L s'.heap ((D, o) :: news) ∧ (∀ p ∈ news, p.1 ≠ (D + 1 : Nat)) ∧ ∀ h'' tk'', Fr g2 L h'' (fun z => if z = y then some (.ref D) else m z) → News g2 L h'' ((D, o) :: news) → Q .next { s' with heap := h'', toks := tk'' }
theorem comp_use2 {elt t1 i1 t2 i2 : PySem.Expr} {scope : Scope} {cl : List (Str × Addr)} {y : Str} {py pos spos : Pos} {Q : Flow → Shared → Prop}
    (hsw : swapsWith (.ListComp elt [⟨t1, i1, [], 0⟩, ⟨t2, i2, [], 0⟩] scope pos) (some (.Name y py)) spos.line env = pure true)
    (hclos : closureFor scope env = pure cl) (hcell : ∀ y ∈ scope.names, y.2 ≠ .cell) (hkind : scope.kind = .function)
    (hnames : ∀ y ∈ scope.names, y.2 = .local → scope.names.lookup y.1 = some .local) (hy : env.kindOf y = some .local) (hp : (env.scope.kind == .class || (env.scope.kind == .module && env.locals != env.globals)) = false)
    (h : wpAny (model prog w) A (eval i1 env) (fun xv s₁ => wpAny (model prog w) A (pyIter xv) (fun itv s₂ => env.locals < s₂.heap.objs.size ∧
      ∀ D C h₂ tk, D = s₂.heap.objs.size → C = D + 1 → (∀ b o, s₂.heap.get? b = some o → h₂.get? b = some o) → h₂.get? D = some (W.listOf #[] 0) → h₂.Ns C (fun _ => none) →
        ∃ (I : Nat → Shared → Prop) (n : Nat), I n { s₂ with heap := h₂, toks := tk } ∧ (∀ (n : Nat) (s : Shared) (Q' : Value → Shared → Prop) (E' : Value → Shared → Prop), I n s → Q' itv s → wpAny (model prog w) A (pyIter itv) Q' E' s) ∧
          ∀ n s, I n s → wpAny (model prog w) A (pyNext itv) (CompTurn2 prog w A (compEnvC scope cl C env) (.ListComp elt [⟨t1, i1, [], 0⟩, ⟨t2, i2, [], 0⟩] scope pos) t1 i2 t2 elt D C (UseEnd2 env.locals y Q) I n) (fun _ _ => False) s) (fun _ _ => False) s₁) (fun _ _ => False) s)
    (ht1 : ∀ it v, letOwnedTupleGo t1 it v = pure () := by intro _ _; rfl) (ht2 : ∀ it v, letOwnedTupleGo t2 it v = pure () := by intro _ _; rfl)
    (hs : ∀ x, foldedSetIterable i1 env x = pure x := by intro _; rfl) (hs2 : ∀ env x, foldedSetIterable i2 env x = pure x := by intro _ _; rfl) :
    wpAny (model prog w) A (exec (.Assign [.Name y py] (.ListComp elt [⟨t1, i1, [], 0⟩, ⟨t2, i2, [], 0⟩] scope pos) spos) env) Q (fun _ _ => False) s := by
  revert hsw hclos hcell hkind hnames hy hp h ht1 ht2 hs hs2
  revert prog w A s env elt t1 i1 t2 i2 scope cl y py pos spos Q
  walk_at "16"; (iterate 7 (generalize zf w_ = py; generalize zs w_ = v_; clear w_; generalize zf v_ = py; generalize zs v_ = w_; clear v_)); generalize zf w_ = pos, zs w_ = spos; clear w_; rename_i prog w A s env elt t1 i1 t2 i2 scope cl y
  walk_at "1"; generalize w_ = Q
  intro hsw hclos hcell hkind hnames hy hp h ht1 ht2 hs hs2
  rw [exec_Assign_Name_used _ _ _ _ hsw]
  refine wpAny_bind (wpAny_standAt (wpAny_bind ?_))
  show wpAny _ A (do let _ ← comprehension (.ListComp elt [⟨t1, i1, [], 0⟩, ⟨t2, i2, [], 0⟩] scope pos) scope env _ (newList []) false (eval i1 env) (some (assign (.Name y py) env))) _ _ s
  refine wpAny_bind (wpAny_mono (wpAny_comprehension_free (use := some (assign (.Name y py) env)) (Q := fun _ s' => Q .next s') rfl hs hclos hkind hnames
    (wpAny_mono h (fun xv s₁ h₁ => wpAny_mono h₁ (fun itv s₂ h₂ => ?_) fun _ _ e => e) fun _ _ e => e)) (fun _ s' hq => wpAny_pure (wpAny_pure hq)) fun _ _ e => e)
  obtain ⟨ltL, h₂⟩ := h₂
  refine wpAny_newObj_type (wpAny_newFunctionEnv hcell (by intro y hy; simp at hy) (fun h₁ hns₁ hsb₁ => ?_) hkind)
  dsimp only at hns₁ hsb₁ ⊢
  have hC : (s₂.heap.push { cls := .type "list", dict := none, data := .seq ([] : List Value).toArray }).objs.size = s₂.heap.objs.size + 1 := by rw [Heap.size_push]
  have old : ∀ b o, s₂.heap.get? b = some o → h₁.get? b = some o := fun b o e => hsb₁.extBut b o (by rw [hC]; exact Nat.ne_of_lt (Nat.lt_succ_of_lt (Heap.lt_size e))) (Heap.get?_push_of_some _ (Heap.get?_push_of_some _ e))
  have hD : h₁.get? s₂.heap.objs.size = some (W.listOf #[] 0) := hsb₁.extBut _ _ (by rw [hC]; exact Nat.ne_of_lt (Nat.lt_succ_self _)) (Heap.get?_push_of_some _ (Heap.get?_push_size _ rfl))
  obtain ⟨I, n, hI, hself, turn⟩ := h₂ s₂.heap.objs.size _ h₁ (s₂.toks + ([] : List (Str × Value)).length) rfl hC old hD hns₁
  have loop : codeAny (model prog w) A (.compLoop (.ListComp elt [⟨t1, i1, [], 0⟩, ⟨t2, i2, [], 0⟩] scope pos) 0 itv (.ref s₂.heap.objs.size) (compEnvC scope cl (s₂.heap.push { cls := .type "list", dict := none, data := .seq ([] : List Value).toArray }).objs.size env))
      (compPost (model prog w) A (fun _ _ => False) (some (assign (.Name y py) env)) (fun _ s' => Q .next s') (.ref s₂.heap.objs.size) (s₂.heap.push { cls := .type "list", dict := none, data := .seq ([] : List Value).toArray }).objs.size) { s₂ with heap := h₁, toks := s₂.toks + ([] : List (Str × Value)).length } := by
    refine loop_out I (fun n s hI => ?_) n hI (ht1 _) (hs2 _)
    refine wpAny_mono (turn n s hI) (fun r s₁ hr => ?_) (fun _ _ e => e.elim)
    cases r with
    | none =>
      obtain ⟨m', hn, hu⟩ := hr
      obtain ⟨D, g2, m, news, o, eD, F, N, lt, fin⟩ := hu s₁.heap (Heap.SameBut.refl _ _)
      obtain rfl := Value.ref.inj eD
      have hCL : (s₂.heap.push { cls := .type "list", dict := none, data := .seq ([] : List Value).toArray }).objs.size ≠ env.locals := by rw [hC]; exact Nat.ne_of_gt (Nat.lt_succ_of_lt ltL)
      have hC₀ : g2.get? (s₂.heap.push { cls := .type "list", dict := none, data := .seq ([] : List Value).toArray }).objs.size = none := Heap.get?_none_of_le (by rw [hC]; exact Nat.le_trans F.above (Nat.le_of_lt (Nat.lt_succ_of_lt ltL)))
      show wpAny _ A (assign (.Name y py) env (.ref _)) _ _ _
      refine wpAny_assign_Name (wpAny_storeName_local hy F.ns (fun h₂ hn₂ hs₂ => ?_) hp)
      have hL₀ : g2.get? env.locals = none := Heap.get?_none_of_le F.above
      have F₂ : Fr g2 env.locals h₂ (fun z => if z = y then some (.ref s₂.heap.objs.size) else m z) := ⟨hn₂, fun b o e => hs₂.extBut b o (fun q => by rw [q, hL₀] at e; cases e) (F.keep b o e), F.above⟩
      refine ⟨m', hn.sameBut hs₂ hCL, fun h'' hs'' => fin h'' _ (F₂.change hs'' hCL hC₀) (fun p hp => ?_)⟩
      have z : h₂.get? p.1 = some p.2 := hs₂.extBut _ _ (N p hp).2.1 (N p hp).1
      refine ⟨hs''.extBut _ _ ?_ z, (N p hp).2⟩
      rw [hC]
      rcases List.mem_cons.mp hp with rfl | hp
      · exact Nat.ne_of_lt (Nat.lt_succ_self _)
      · exact lt p hp
    | some v =>
      refine wpAny_mono hr (fun _ s₂ h₂ => wpAny_mono h₂ (fun x s₃ h₃ => wpAny_mono h₃ (fun it2 s₄ h₄ => ?_) (fun _ _ e => e.elim)) (fun _ _ e => e.elim)) (fun _ _ e => e.elim)
      obtain ⟨J, k, hJ, hself2, turn2⟩ := h₄
      have inner : ∀ k s, J k s → codeAny (model prog w) (A.mark none) (.compLoop (.ListComp elt [⟨t1, i1, [], 0⟩, ⟨t2, i2, [], 0⟩] scope pos) 1 it2 _ _) (fun r s₅ => match r with | .ok _ => ∃ m, m < _ ∧ I m s₅ | .error _ => False) s := fun k s hJ => by
        refine loop_in J (fun k s hJ => ?_) k hJ (ht2 _)
        refine wpAny_mono (turn2 k s hJ) (fun r s₁ hr => ?_) (fun _ _ e => e.elim)
        cases r with
        | none => exact hr
        | some v => exact hr
      exact start_in (inner k _ hJ) (hself2 k _ _ _ hJ (inner k _ hJ))
  exact codeAny_compStart_list loop (hself n _ _ _ hI loop)
end
end
section
noncomputable def hidL (T : Int) : List Int := (rangeKs 0 (5 - 0 : Int).toNat).map fun k' => (T + (1 + (T.fdiv 5).fmod 4) * k').fmod 5
theorem upTo {n : Nat} (t : Int) (h0 : 0 ≤ t) (h : t < (n : Int)) : t ∈ (List.range n).map Int.ofNat :=
  List.mem_map.mpr ⟨t.toNat, List.mem_range.mpr ((Int.toNat_lt h0).mpr h), Int.toNat_of_nonneg h0⟩
theorem hid_fin : ∀ t ∈ (List.range 5).map Int.ofNat, ∀ m ∈ (List.range 4).map Int.ofNat,
    ([0, 1, 2, 3, 4].map fun k : Int => (t + (1 + m) * k) % 5).Nodup ∧ ∀ x ∈ [0, 1, 2, 3, 4].map fun k : Int => (t + (1 + m) * k) % 5, 0 ≤ x ∧ x < 5 := by decide +kernel
theorem hid_eq (T : Int) : hidL T = [0, 1, 2, 3, 4].map fun k : Int => (T % 5 + (1 + (T.fdiv 5) % 4) * k) % 5 := by
  show List.map _ [0, 1, 2, 3, 4] = _
  refine List.map_congr_left fun k _ => ?_
  rw [Int.fmod_eq_emod_of_nonneg _ (by decide), Int.fmod_eq_emod_of_nonneg _ (by decide), Int.emod_add_emod]
theorem hid_ok (T : Int) : (hidL T).length = 5 ∧ (hidL T).Nodup ∧ ∀ x ∈ hidL T, 0 ≤ x ∧ x < 5 := by
  rw [hid_eq]
  exact ⟨rfl, hid_fin _ (upTo (n := 5) _ (Int.emod_nonneg _ (by decide)) (Int.emod_lt_of_pos _ (by decide))) _ (upTo (n := 4) _ (Int.emod_nonneg _ (by decide)) (Int.emod_lt_of_pos _ (by decide)))⟩
end
section
theorem uldR_count (n : Int) : ∀ xs ys zs : List Int, (uldR xs ys zs).1.count n + ys.count n = zs.count n + xs.count n + (uldR xs ys zs).2.count n
  | [], ys, zs => by simp [uldR]
  | x :: r, ys, zs => by
    unfold uldR
    split
    · rename_i hx
      have h := uldR_count n r (ys.erase x) zs
      rw [List.count_erase] at h
      rw [List.count_cons]
      by_cases e : x = n
      · subst e
        have : 0 < ys.count x := List.count_pos_iff.mpr hx
        simp at h ⊢; omega
      · have e' : (n == x) = false := by simpa using fun z => e z.symm
        have e'' : (x == n) = false := by simpa using e
        simp only [e', e''] at h ⊢; simp at h ⊢; omega
    · have h := uldR_count n r ys (zs ++ [x])
      rw [List.count_append] at h
      rw [List.count_cons]
      simp only [List.count_cons, List.count_nil] at h
      omega
theorem uldR_apart : ∀ xs ys zs : List Int, (∀ n ∈ zs, n ∉ ys) → ∀ n ∈ (uldR xs ys zs).1, n ∉ (uldR xs ys zs).2
  | [], ys, zs, h => by simpa [uldR] using h
  | x :: r, ys, zs, h => by
    unfold uldR
    split
    · exact uldR_apart r _ _ fun n hn z => h n hn (List.mem_of_mem_erase z)
    · rename_i hx
      refine uldR_apart r _ _ fun n hn => ?_
      rcases List.mem_append.mp hn with hn | hn
      · exact h n hn
      · rw [List.mem_singleton.mp hn]; exact hx
theorem uldR_sub : ∀ xs ys zs : List Int, (∀ n ∈ (uldR xs ys zs).1, n ∈ zs ∨ n ∈ xs) ∧ (∀ n ∈ (uldR xs ys zs).2, n ∈ ys) ∧ (uldR xs ys zs).1.length ≤ zs.length + xs.length ∧ (uldR xs ys zs).2.length ≤ ys.length
  | [], ys, zs => by simp [uldR]
  | x :: r, ys, zs => by
    unfold uldR
    split
    · obtain ⟨a, b, c, d⟩ := uldR_sub r (ys.erase x) zs
      refine ⟨fun n hn => (a n hn).imp id (.tail _), fun n hn => List.mem_of_mem_erase (b n hn), by simp only [List.length_cons]; omega, Nat.le_trans d (List.length_erase_le ..)⟩
    · obtain ⟨a, b, c, d⟩ := uldR_sub r ys (zs ++ [x])
      refine ⟨fun n hn => ?_, b, by simp only [List.length_append, List.length_cons, List.length_nil] at *; omega, d⟩
      rcases a n hn with q | q
      · rcases List.mem_append.mp q with q | q
        · exact .inl q
        · exact .inr (List.mem_singleton.mp q ▸ .head _)
      · exact .inr (.tail _ q)
end
section
noncomputable def Top (one other : List Int) (up : Int → List Int) (k : Int) : Prop := 0 ≤ k ∧ k < 5 ∧ gapF one other k ≠ 0 ∧ ∀ e ∈ up k, gapF one other e = 0
theorem topOk_iff {one other : List Int} {ov : List (Int × List Int)} {k : Int} (h : 0 ≤ k ∧ k < 5) : topOk one other ov k = true ↔ Mine.Top one other (lookL ov) k := by
  unfold topOk Mine.Top
  simp only [Bool.and_eq_true, decide_eq_true_eq, List.filter_eq_nil_iff]
  refine ⟨fun ⟨a, b⟩ => ⟨h.1, h.2, a, fun e he => ?_⟩, fun ⟨_, _, a, b⟩ => ⟨a, fun e he z => z (b e he)⟩⟩
  exact Classical.byContradiction fun z => b e he z
theorem mem_tops {one other : List Int} {ov : List (Int × List Int)} {b : Bool} : b ∈ topsF one other ov 5 ↔ ∃ k, Mine.Top one other (lookL ov) k ∧ decide (gapF one other k > 0) = b := by
  unfold topsF
  simp only [List.mem_map, List.mem_filter, List.mem_range]
  constructor
  · rintro ⟨j, ⟨hj, ht⟩, e⟩
    exact ⟨(j : Int), (topOk_iff ⟨Int.natCast_nonneg _, by omega⟩).mp ht, e⟩
  · rintro ⟨k, ht, e⟩
    obtain ⟨j, rfl⟩ : ∃ j : Nat, k = (j : Int) := ⟨k.toNat, (Int.toNat_of_nonneg ht.1).symm⟩
    have := ht.2.1
    exact ⟨j, ⟨by omega, (topOk_iff ⟨ht.1, ht.2.1⟩).mpr ht⟩, e⟩
theorem ofTops_eq (t : List Bool) : ofTops t = if true ∈ t then (if false ∈ t then 2 else 1) else (if false ∈ t then -1 else 0) := by
  unfold ofTops
  rcases t with _ | ⟨b, r⟩
  · simp
  · cases b <;> by_cases h1 : true ∈ r <;> by_cases h2 : false ∈ r <;> simp [h1, h2]
end
section
section
variable {A B : List Int}
theorem uld_gap (n : Int) : gapF A B n = (((uldR A.reverse B []).1.count n : Nat) : Int) - (((uldR A.reverse B []).2.count n : Nat) : Int) := by
  have h := uldR_count n A.reverse B []
  rw [List.count_reverse] at h
  simp only [List.count_nil] at h
  unfold gapF
  omega
theorem mem_mine {n : Int} : n ∈ (uldR A.reverse B []).1 ↔ gapF A B n > 0 := by
  have g := uld_gap (A := A) (B := B) n
  constructor
  · intro h
    have h2 : (uldR A.reverse B []).2.count n = 0 := List.count_eq_zero.mpr (uldR_apart _ _ _ (by simp) n h)
    have h1 := List.count_pos_iff.mpr h
    omega
  · intro h
    exact List.count_pos_iff.mp (by omega)
theorem mem_theirs {n : Int} : n ∈ (uldR A.reverse B []).2 ↔ gapF A B n < 0 := by
  have g := uld_gap (A := A) (B := B) n
  constructor
  · intro h
    have h2 : (uldR A.reverse B []).1.count n = 0 := List.count_eq_zero.mpr (fun z => uldR_apart _ _ _ (by simp) n z h)
    have h1 := List.count_pos_iff.mpr h
    omega
  · intro h
    exact List.count_pos_iff.mp (by omega)
end
theorem gapF_app (one other third : List Int) (n : Int) : gapF (one ++ third) (other ++ third) n = gapF one other n := by
  unfold gapF; rw [List.count_append, List.count_append]; omega
theorem lowF_ne {mine theirs : List Int} {ab : List (Int × List Int)} : lowF mine theirs ab ≠ [] ↔ ∃ n ∈ theirs, ∀ j ∈ mine, j ∉ lookL ab n := by
  unfold lowF
  rw [Ne, List.filter_eq_nil_iff]
  simp only [decide_eq_true_eq, List.filter_eq_self]
  constructor
  · intro h
    exact Classical.byContradiction fun z => h fun n hn q => z ⟨n, hn, q⟩
  · rintro ⟨n, hn, q⟩ h
    exact h n hn q
theorem top_of {f : Int → Int} {up : Int → List Int} {ρ : Int → Nat} (hr : ∀ x, ∀ y ∈ up x, ρ y < ρ x) (ht : ∀ x, ∀ y ∈ up x, ∀ z ∈ up y, z ∈ up x) :
    ∀ (k : Nat) (n : Int), ρ n < k → f n < 0 → (∀ j, f j > 0 → j ∉ up n) → ∃ m, f m < 0 ∧ ∀ e ∈ up m, f e = 0
  | 0, n, h, _, _ => absurd h (Nat.not_lt_zero _)
  | k + 1, n, h, hn, hj => by
    by_cases q : ∀ e ∈ up n, f e = 0
    · exact ⟨n, hn, q⟩
    · obtain ⟨e, he, hne⟩ : ∃ e, e ∈ up n ∧ f e ≠ 0 := Classical.byContradiction fun z => q fun e he => Classical.byContradiction fun z' => z ⟨e, he, z'⟩
      have hle : f e < 0 := by
        have : ¬ f e > 0 := fun z => hj e z he
        omega
      exact top_of hr ht k e (Nat.lt_of_lt_of_le (hr n e he) (Nat.le_of_lt_succ h)) hle fun j z z' => hj j z (ht n e he j z')
end
section
structure Ups (up : Int → List Int) (ρ : Int → Nat) : Prop where
  rank : ∀ x, ∀ y ∈ up x, ρ y < ρ x
  tr : ∀ x, ∀ y ∈ up x, ∀ z ∈ up y, z ∈ up x
theorem low_top {one other third : List Int} {ov ab : List (Int × List Int)} {ρ : Int → Nat} (U : Ups (lookL ov) ρ) (hab : ∀ k, 0 ≤ k → k < 5 → ∀ j, j ∈ lookL ab k ↔ j ∈ lookL ov k)
    (h1 : ∀ x ∈ one, 0 ≤ x ∧ x < 5) (h2 : ∀ x ∈ other, 0 ≤ x ∧ x < 5) :
    (lowF (uldR (one ++ third).reverse (other ++ third) []).1 (uldR (one ++ third).reverse (other ++ third) []).2 ab ≠ [] ↔ false ∈ topsF one other ov 5) ∧
    (lowF (uldR (one ++ third).reverse (other ++ third) []).2 (uldR (one ++ third).reverse (other ++ third) []).1 ab ≠ [] ↔ true ∈ topsF one other ov 5) := by
  have hin : ∀ n, gapF one other n ≠ 0 → 0 ≤ n ∧ n < 5 := fun n hn => by
    by_cases q : n ∈ one
    · exact h1 n q
    · by_cases q' : n ∈ other
      · exact h2 n q'
      · exact absurd (by unfold gapF; rw [List.count_eq_zero.mpr q, List.count_eq_zero.mpr q']; rfl) hn
  have mm : ∀ n, n ∈ (uldR (one ++ third).reverse (other ++ third) []).1 ↔ gapF one other n > 0 := fun n => by rw [mem_mine, gapF_app]
  have mt : ∀ n, n ∈ (uldR (one ++ third).reverse (other ++ third) []).2 ↔ gapF one other n < 0 := fun n => by rw [mem_theirs, gapF_app]
  constructor
  · rw [lowF_ne, mem_tops]
    constructor
    · rintro ⟨n, hn, hj⟩
      have hn' := (mt n).mp hn
      have hd := hin n (by omega)
      obtain ⟨m, hm, ha⟩ := top_of (f := gapF one other) U.rank U.tr (ρ n + 1) n (Nat.lt_succ_self _) hn' (fun j hj' z => hj j ((mm j).mpr hj') ((hab n hd.1 hd.2 j).mpr z))
      have hd' := hin m (by omega)
      exact ⟨m, ⟨hd'.1, hd'.2, by omega, ha⟩, decide_eq_false (by omega)⟩
    · rintro ⟨k, ⟨k0, k5, kn, ka⟩, e⟩
      have hk : ¬ gapF one other k > 0 := of_decide_eq_false e
      exact ⟨k, (mt k).mpr (by omega), fun j hj z => by have := ka j ((hab k k0 k5 j).mp z); have := (mm j).mp hj; omega⟩
  · rw [lowF_ne, mem_tops]
    constructor
    · rintro ⟨n, hn, hj⟩
      have hn' := (mm n).mp hn
      have hd := hin n (by omega)
      obtain ⟨m, hm, ha⟩ := top_of (f := fun j => - gapF one other j) U.rank U.tr (ρ n + 1) n (Nat.lt_succ_self _) (by omega) (fun j hj' z => hj j ((mt j).mpr (by omega)) ((hab n hd.1 hd.2 j).mpr z))
      have hd' := hin m (by omega)
      exact ⟨m, ⟨hd'.1, hd'.2, by omega, fun e he => by have := ha e he; omega⟩, decide_eq_true (by omega)⟩
    · rintro ⟨k, ⟨k0, k5, kn, ka⟩, e⟩
      have hk : gapF one other k > 0 := of_decide_eq_true e
      exact ⟨k, (mm k).mpr hk, fun j hj z => by have := ka j ((hab k k0 k5 j).mp z); have := (mt j).mp hj; omega⟩
theorem diffs_counts {one other third : List Int} {ov ab : List (Int × List Int)} {ρ : Int → Nat} (U : Ups (lookL ov) ρ) (hab : ∀ k, 0 ≤ k → k < 5 → ∀ j, j ∈ lookL ab k ↔ j ∈ lookL ov k)
    (h1 : ∀ x ∈ one, 0 ≤ x ∧ x < 5) (h2 : ∀ x ∈ other, 0 ≤ x ∧ x < 5) : byDiffs (one ++ third) (other ++ third) ab = byCounts one other ov := by
  obtain ⟨a, b⟩ := low_top (third := third) U hab h1 h2
  unfold byDiffs byCounts ofDiffs
  rw [ofTops_eq]
  revert a b
  generalize lowF (uldR (one ++ third).reverse (other ++ third) []).1 (uldR (one ++ third).reverse (other ++ third) []).2 ab = lo
  generalize lowF (uldR (one ++ third).reverse (other ++ third) []).2 (uldR (one ++ third).reverse (other ++ third) []).1 ab = hi
  generalize topsF one other ov 5 = ts
  intro a b
  by_cases t : true ∈ ts <;> by_cases f : false ∈ ts <;>
    simp only [t, f, iff_true, iff_false, Decidable.not_not, Ne] at a b <;> simp [t, f, a, b]
end
section
theorem cmp_row (one other : List Int) (k : Int) (r : List Int) : cmp3 (cntF one (k :: r)) (cntF other (k :: r)) = if gapF one other k > 0 then 1 else if gapF one other k < 0 then -1 else cmp3 (cntF one r) (cntF other r) := by
  unfold cntF cmp3 gapF
  simp only [List.map_cons, lexLt]
  generalize ((one.count k : Nat) : Int) = a
  generalize ((other.count k : Nat) : Int) = b
  rcases Int.lt_trichotomy a b with h | h | h
  · have h1 : ¬ (a - b > 0) := by omega
    have h2 : a - b < 0 := by omega
    have h3 : ¬ b < a := by omega
    have h4 : a ≠ b := by omega
    have h5 : b ≠ a := by omega
    simp [h, h1, h2, h3, h4, h5, b2i]
  · subst h
    simp
  · have h1 : a - b > 0 := by omega
    have h3 : ¬ a < b := by omega
    have h4 : a ≠ b := by omega
    have h5 : b ≠ a := by omega
    simp [h, h1, h3, h4, h5, b2i]
end
section
theorem row_sign (one other : List Int) : ∀ row : List Int, (cmp3 (cntF one row) (cntF other row) = 0 ∧ ∀ k ∈ row, gapF one other k = 0) ∨
    ∃ p k q, row = p ++ k :: q ∧ (∀ e ∈ p, gapF one other e = 0) ∧ gapF one other k ≠ 0 ∧ cmp3 (cntF one row) (cntF other row) = if gapF one other k > 0 then 1 else -1
  | [] => .inl ⟨rfl, fun _ z => by cases z⟩
  | a :: r => by
    rw [cmp_row]
    by_cases h : gapF one other a = 0
    · rw [if_neg (by omega), if_neg (by omega)]
      rcases row_sign one other r with ⟨h1, h2⟩ | ⟨p, k, q, h1, h2, h3, h4⟩
      · exact .inl ⟨h1, fun k hk => by
          rcases List.mem_cons.mp hk with rfl | hk
          · exact h
          · exact h2 k hk⟩
      · exact .inr ⟨a :: p, k, q, by rw [h1]; rfl, fun e he => by
          rcases List.mem_cons.mp he with rfl | he
          · exact h
          · exact h2 e he, h3, h4⟩
    · refine .inr ⟨[], a, r, rfl, (fun _ z => by cases z), h, ?_⟩
      by_cases g : gapF one other a > 0
      · rw [if_pos g, if_pos g]
      · rw [if_neg g, if_neg g, if_pos (by omega)]
end
section
theorem row_top {one other : List Int} {ov : List (Int × List Int)} {row : List Int} {V : List Int} (hV : ∀ k, k ∈ V ↔ 0 ≤ k ∧ k < 5) (hin : ∀ j, j ∈ row ↔ j ∈ V) (ht : ∀ p j q, row = p ++ j :: q → ∀ x ∈ lookL ov j, x ∈ p) :
    (cmp3 (cntF one row) (cntF other row) = 0 ∧ ∀ k ∈ V, gapF one other k = 0) ∨ ∃ j, Mine.Top one other (lookL ov) j ∧ cmp3 (cntF one row) (cntF other row) = if gapF one other j > 0 then 1 else -1 := by
  rcases row_sign one other row with ⟨h1, h2⟩ | ⟨p, k, q, h1, h2, h3, h4⟩
  · exact .inl ⟨h1, fun k hk => h2 k ((hin k).mpr hk)⟩
  · have hk := (hV k).mp ((hin k).mp (h1 ▸ List.mem_append_right _ (.head _)))
    exact .inr ⟨k, ⟨hk.1, hk.2, h3, fun e he => h2 e (ht p k q h1 e he)⟩, h4⟩
theorem row_own {one other : List Int} {up : Int → List Int} {row : List Int} {k : Int} (hk : k ∈ row) (hn : row.Nodup) (ho : ∀ p q, row = p ++ k :: q → ∀ x ∈ p, x ∈ up k) (T : Mine.Top one other up k) :
    cmp3 (cntF one row) (cntF other row) = if gapF one other k > 0 then 1 else -1 := by
  obtain ⟨a, c, e⟩ := List.append_of_mem hk
  have g := T.2.2.1
  have ab := T.2.2.2
  rcases row_sign one other row with ⟨h1, h2⟩ | ⟨p, j, q, h1, h2, h3, h4⟩
  · exact absurd (h2 k hk) g
  · have : j = k := by
      rcases List.append_eq_append_iff.mp (h1.symm.trans e) with ⟨r, e1, e2⟩ | ⟨r, e1, e2⟩
      · cases r with
        | nil => exact (List.cons.inj e2).1
        | cons y r =>
          -- j stands ahead of k
          have hj : j ∈ a := by
            rw [e1]
            rw [List.cons_append, List.cons.injEq] at e2
            rw [e2.1]
            exact List.mem_append_right _ (.head _)
          exact absurd (ab j (ho a c e j hj)) h3
      · cases r with
        | nil => exact (List.cons.inj e2).1.symm
        | cons y r =>
          rw [List.cons_append, List.cons.injEq] at e2
          have : k ∈ p := by
            rw [e1, e2.1]
            exact List.mem_append_right _ (.head _)
          exact absurd (h2 k this) g
    subst this
    exact h4
theorem rows_counts {one other : List Int} {ov : List (Int × List Int)} {row : Int → List Int} {V : List Int} (hV : ∀ k, k ∈ V ↔ 0 ≤ k ∧ k < 5) (hin : ∀ k ∈ V, ∀ j, j ∈ row k ↔ j ∈ V) (hnd : ∀ k ∈ V, (row k).Nodup)
    (ht : ∀ k ∈ V, ∀ p j q, row k = p ++ j :: q → ∀ x ∈ lookL ov j, x ∈ p) (ho : ∀ k ∈ V, ∀ p q, row k = p ++ k :: q → ∀ x ∈ p, x ∈ lookL ov k) :
    ofRows (rowsF one other (V.map row)) = byCounts one other ov := by
  have h0 : (0 : Int) ∈ V := (hV 0).mpr ⟨by decide, by decide⟩
  have e : rowsF one other (V.map row) = V.map fun k => cmp3 (cntF one (row k)) (cntF other (row k)) := by
    unfold rowsF; rw [List.map_map]; rfl
  have c1 : ∀ k ∈ V, _ := fun k hk => row_top (one := one) (other := other) hV (hin k hk) (ht k hk)
  have c2 : ∀ k, Mine.Top one other (lookL ov) k → k ∈ V ∧ cmp3 (cntF one (row k)) (cntF other (row k)) = if gapF one other k > 0 then 1 else -1 := fun k T => by
    have hk := (hV k).mpr ⟨T.1, T.2.1⟩
    exact ⟨hk, row_own ((hin k hk k).mpr hk) (hnd k hk) (ho k hk) T⟩
  unfold byCounts
  rw [ofTops_eq, e]
  have tt : true ∈ topsF one other ov 5 ↔ ∃ k, Mine.Top one other (lookL ov) k ∧ gapF one other k > 0 := by rw [mem_tops]; simp only [decide_eq_true_eq]
  have tf : false ∈ topsF one other ov 5 ↔ ∃ k, Mine.Top one other (lookL ov) k ∧ ¬ gapF one other k > 0 := by rw [mem_tops]; simp only [decide_eq_false_iff_not]
  generalize ht' : (V.map fun k => cmp3 (cntF one (row k)) (cntF other (row k))) = t
  have tm : ∀ a, a ∈ t ↔ ∃ k ∈ V, cmp3 (cntF one (row k)) (cntF other (row k)) = a := fun a => by rw [← ht', List.mem_map]
  have tne : t ≠ [] := fun z => by
    have := (tm _).mpr ⟨0, h0, rfl⟩
    rw [z] at this; cases this
  have alleq : ∀ c : Int, (∀ a ∈ t, a = c) → ofRows t = c := fun c h => by
    cases t with
    | nil => exact absurd rfl tne
    | cons y r =>
      have hy := h y (.head _)
      unfold ofRows
      rw [List.headD_cons, if_pos (fun a ha => (h a ha).trans hy.symm), hy]
  by_cases p : true ∈ topsF one other ov 5 <;> by_cases n : false ∈ topsF one other ov 5
  · rw [if_pos p, if_pos n]
    obtain ⟨k1, T1, g1⟩ := tt.mp p
    obtain ⟨k2, T2, g2⟩ := tf.mp n
    obtain ⟨v1, s1⟩ := c2 k1 T1
    obtain ⟨v2, s2⟩ := c2 k2 T2
    rw [if_pos g1] at s1
    rw [if_neg g2] at s2
    unfold ofRows
    rw [if_neg]
    intro h
    have a1 := h 1 ((tm 1).mpr ⟨k1, v1, s1⟩)
    have a2 := h (-1) ((tm (-1)).mpr ⟨k2, v2, s2⟩)
    rw [← a1] at a2
    exact absurd a2 (by decide)
  · rw [if_pos p, if_neg n]
    refine alleq 1 fun a ha => ?_
    obtain ⟨k, hk, rfl⟩ := (tm a).mp ha
    rcases c1 k hk with ⟨_, z⟩ | ⟨j, Tj, z⟩
    · obtain ⟨k1, T1, g1⟩ := tt.mp p
      exact absurd (z k1 ((hV k1).mpr ⟨T1.1, T1.2.1⟩)) T1.2.2.1
    · by_cases g : gapF one other j > 0
      · rw [z, if_pos g]
      · exact absurd (tf.mpr ⟨j, Tj, g⟩) n
  · rw [if_neg p, if_pos n]
    refine alleq (-1) fun a ha => ?_
    obtain ⟨k, hk, rfl⟩ := (tm a).mp ha
    rcases c1 k hk with ⟨_, z⟩ | ⟨j, Tj, z⟩
    · obtain ⟨k1, T1, g1⟩ := tf.mp n
      exact absurd (z k1 ((hV k1).mpr ⟨T1.1, T1.2.1⟩)) T1.2.2.1
    · by_cases g : gapF one other j > 0
      · exact absurd (tt.mpr ⟨j, Tj, g⟩) p
      · rw [z, if_neg g]
  · rw [if_neg p, if_neg n]
    refine alleq 0 fun a ha => ?_
    obtain ⟨k, hk, rfl⟩ := (tm a).mp ha
    rcases c1 k hk with ⟨z, _⟩ | ⟨j, Tj, z⟩
    · exact z
    · by_cases g : gapF one other j > 0
      · exact absurd (tt.mpr ⟨j, Tj, g⟩) p
      · exact absurd (tf.mpr ⟨j, Tj, g⟩) n
end
section
noncomputable def bsA (as : AS) : List (Int × List Int) := as.map fun e => (e.1, e.2.2)
theorem find_same {as : AS} {f : Int × Int × List Int → Int × Int × List Int} (hf : ∀ e, (f e).1 = e.1) (j : Int) : (as.map f).find? (fun e => e.1 = j) = (as.find? fun e => e.1 = j).map f := by
  rw [List.find?_map]
  congr 2
  funext e
  simp [Function.comp, hf]
theorem find_none {as : AS} {k : Int} (h : (as.find? fun e => e.1 = k) = none) : k ∉ as.map (·.1) := fun hk => by
  obtain ⟨e, he, e1⟩ := List.mem_map.mp hk
  have := List.find?_eq_none.mp h e he
  simp [e1] at this
theorem npOf_setA {as : AS} {k : Int} (hk : k ∈ as.map (·.1)) (v j : Int) : npOf (setA as k v) j = if j = k then v else npOf as j := by
  unfold npOf setA
  rw [find_same (fun e => by split <;> rfl)]
  cases q : as.find? fun e => e.1 = j with
  | none =>
    have : j ≠ k := by
      rintro rfl
      exact find_none q hk
    simp [this]
  | some e =>
    have e1 : e.1 = j := by simpa using List.find?_some q
    by_cases z : j = k
    · simp [e1, z]
    · simp [e1, z]
theorem bsA_setA (as : AS) (k v : Int) : bsA (setA as k v) = bsA as := by
  simp only [bsA, setA, List.map_map]
  refine List.map_congr_left fun e _ => ?_
  simp only [Function.comp]
  split <;> rfl
theorem bsA_keys (as : AS) : (bsA as).map (·.1) = as.map (·.1) := by simp [bsA, Function.comp_def]
theorem bsA_mem {as : AS} {e : Int × Int × List Int} (h : e ∈ as) : (e.1, e.2.2) ∈ bsA as := List.mem_map_of_mem (f := fun e : Int × Int × List Int => (e.1, e.2.2)) h
theorem keys_bs {as : AS} {b : List (Int × List Int)} (h : bsA as = b) : as.map (·.1) = b.map (·.1) := by rw [← bsA_keys, h]
theorem scOf_mem {as : AS} {k : Int} (h : k ∈ as.map (·.1)) : (k, scOf as k) ∈ bsA as := by
  cases q : as.find? fun e => e.1 = k with
  | none => exact absurd h (find_none q)
  | some e =>
    have e1 : e.1 = k := by simpa using List.find?_some q
    have := bsA_mem (List.mem_of_find?_eq_some q)
    rw [e1] at this
    unfold scOf
    rw [q]
    exact this
theorem outA_np : ∀ (ks : List Int) (as : AS), (∀ k ∈ ks, k ∈ as.map (·.1)) → bsA (outA as ks) = bsA as ∧ ∀ j, npOf (outA as ks) j = if j ∈ ks then -1 else npOf as j
  | [], as, _ => ⟨rfl, fun j => by simp [outA]⟩
  | k :: r, as, h => by
    obtain ⟨a, b⟩ := outA_np r (setA as k (-1)) (fun q hq => by rw [setA_keys]; exact h q (.tail _ hq))
    refine ⟨a.trans (bsA_setA _ _ _), fun j => ?_⟩
    have : npOf (outA as (k :: r)) j = npOf (outA (setA as k (-1)) r) j := rfl
    rw [this, b j, npOf_setA (h k (.head _))]
    by_cases z : j ∈ r <;> by_cases y : j = k <;> simp [z, y]
theorem dec_np : ∀ (l : List Int) (st : AS × List Int), l.Nodup → (∀ k ∈ l, k ∈ st.1.map (·.1)) → bsA (l.foldl decStep st).1 = bsA st.1 ∧ (∀ j, npOf (l.foldl decStep st).1 j = if j ∈ l then npOf st.1 j - 1 else npOf st.1 j) ∧
    (l.foldl decStep st).2 = st.2 ++ l.filter fun s => decide (npOf st.1 s - 1 = 0)
  | [], st, _, _ => ⟨rfl, fun j => by simp, by simp⟩
  | s :: r, st, hn, h => by
    obtain ⟨hs, hr⟩ := List.nodup_cons.mp hn
    have hk : s ∈ st.1.map (·.1) := h s (.head _)
    have key : ∀ j, npOf (decStep st s).1 j = if j = s then npOf st.1 s - 1 else npOf st.1 j := fun j => npOf_setA hk _ _
    obtain ⟨a, b, c⟩ := dec_np r (decStep st s) hr (fun q hq => by
      show q ∈ (setA st.1 s (npOf st.1 s - 1)).map (·.1)
      rw [setA_keys]; exact h q (.tail _ hq))
    refine ⟨a.trans (bsA_setA _ _ _), fun j => ?_, ?_⟩
    · rw [List.foldl_cons, b j, key j]
      by_cases z : j = s
      · subst z; simp [hs]
      · by_cases y : j ∈ r <;> simp [z, y]
    · rw [List.foldl_cons, c]
      have e : (r.filter fun q => decide (npOf (decStep st s).1 q - 1 = 0)) = r.filter fun q => decide (npOf st.1 q - 1 = 0) := by
        refine List.filter_congr fun q hq => ?_
        rw [key q, if_neg (fun z : q = s => hs (z ▸ hq))]
      rw [e]
      show (if npOf st.1 s - 1 = 0 then st.2 ++ [s] else st.2) ++ _ = _
      rw [List.filter_cons]
      by_cases z : npOf st.1 s - 1 = 0 <;> simp [z]
structure Gr (V : List Int) (pd : Int → List Int) (ρ : Int → Nat) (b : List (Int × List Int)) : Prop where
  kv : ∀ k, k ∈ b.map (·.1) ↔ k ∈ V
  nd : (b.map (·.1)).Nodup
  sc : ∀ e ∈ b, e.2.Nodup ∧ ∀ x, x ∈ e.2 ↔ x ∈ V ∧ e.1 ∈ pd x
  pn : ∀ k ∈ V, (pd k).Nodup
  pv : ∀ k ∈ V, ∀ y ∈ pd k, y ∈ V
  rk : ∀ k ∈ V, ∀ y ∈ pd k, ρ y < ρ k
  rb : ∀ k ∈ V, ρ k < 100
  vn : V.Nodup
  v5 : V.length ≤ 5
structure Sv (V : List Int) (pd : Int → List Int) (b : List (Int × List Int)) (as : AS) (rs D O : List Int) : Prop where
  b : bsA as = b
  np : ∀ k ∈ V, npOf as k = if k ∈ D then -2 else if k ∈ O then -1 else (((pd k).filter fun y => decide (y ∉ D)).length : Int)
  rn : rs.Nodup
  rm : ∀ k, k ∈ rs ↔ k ∈ V ∧ k ∉ D ∧ k ∉ O ∧ ∀ y ∈ pd k, y ∈ D
  dn : D.Nodup
  dv : ∀ k ∈ D, k ∈ V ∧ ∀ y ∈ pd k, y ∈ D
  ov : ∀ k ∈ O, k ∈ V ∧ ∀ y ∈ pd k, y ∈ D
section
variable {V : List Int} {pd : Int → List Int} {ρ : Int → Nat} {b : List (Int × List Int)} {as : AS} {rs D O : List Int}
theorem Sv.keys (G : Gr V pd ρ b) (S : Sv V pd b as rs D O) (k : Int) : k ∈ as.map (·.1) ↔ k ∈ V := by rw [keys_bs S.b]; exact G.kv k
theorem Sv.out (G : Gr V pd ρ b) (S : Sv V pd b as rs D O) : Sv V pd b (outA as rs) [] D (O ++ rs) := by
  obtain ⟨h1, h2⟩ := outA_np rs as (fun k hk => (S.keys G k).mpr ((S.rm k).mp hk).1)
  refine ⟨h1.trans S.b, fun k hk => ?_, List.nodup_nil, fun k => ⟨(fun z => nomatch z), fun ⟨v, d, o, p⟩ => absurd (List.mem_append_right O ((S.rm k).mpr ⟨v, d, fun z => o (List.mem_append_left _ z), p⟩)) o⟩, S.dn, S.dv, fun k hk => ?_⟩
  · rw [h2 k, S.np k hk]
    by_cases r : k ∈ rs
    · have := (S.rm k).mp r
      simp [r, this.2.1]
    · simp [r]
  · rcases List.mem_append.mp hk with hk | hk
    · exact S.ov k hk
    · have := (S.rm k).mp hk
      exact ⟨this.1, this.2.2.2⟩
theorem filt_len {l D : List Int} {n : Int} (hl : l.Nodup) (hn : n ∈ l) (hD : n ∉ D) : (l.filter fun y => decide (y ∉ D ++ [n])).length + 1 = (l.filter fun y => decide (y ∉ D)).length := by
  have hm : n ∈ l.filter fun y => decide (y ∉ D) := List.mem_filter.mpr ⟨hn, by simpa using hD⟩
  have e : (l.filter fun y => decide (y ∉ D ++ [n])) = (l.filter fun y => decide (y ∉ D)).erase n := by
    rw [List.Nodup.erase_eq_filter (hl.filter _), List.filter_filter]
    refine List.filter_congr fun y _ => ?_
    by_cases a : y = n <;> by_cases c : y ∈ D <;> simp [a, c]
  rw [e, List.length_erase_of_mem hm]
  have := List.length_pos_of_mem hm
  omega
theorem filt_len0 {l D : List Int} {n : Int} (hn : n ∉ l) : (l.filter fun y => decide (y ∉ D ++ [n])) = (l.filter fun y => decide (y ∉ D)) := by
  refine List.filter_congr fun y hy => ?_
  have a : y ≠ n := fun z => hn (z ▸ hy)
  simp [a]
theorem Sv.done1 (G : Gr V pd ρ b) (S : Sv V pd b as rs D O) {n : Int} (hO : n ∈ O) (hD : n ∉ D) : Sv V pd b (done1 (as, rs) n).1 (done1 (as, rs) n).2 (D ++ [n]) O := by
  have hV := (S.ov n hO).1
  have hk := (S.keys G n).mpr hV
  have hsc := scOf_mem hk
  rw [S.b] at hsc
  obtain ⟨ln, lm⟩ := G.sc _ hsc
  have lm : ∀ x, x ∈ scOf as n ↔ x ∈ V ∧ n ∈ pd x := lm
  have ln : (scOf as n).Nodup := ln
  obtain ⟨h1, h2, h3⟩ := dec_np (scOf as n) (setA as n (-2), rs) ln (fun k hk' => by
    show k ∈ (setA as n (-2)).map (·.1)
    rw [setA_keys]; exact (S.keys G k).mpr ((lm k).mp hk').1)
  have h1 : bsA (Mine.done1 (as, rs) n).1 = bsA (setA as n (-2)) := h1
  have h2 : ∀ j, npOf (Mine.done1 (as, rs) n).1 j = if j ∈ scOf as n then npOf (setA as n (-2)) j - 1 else npOf (setA as n (-2)) j := h2
  have h3 : (Mine.done1 (as, rs) n).2 = rs ++ (scOf as n).filter fun s => decide (npOf (setA as n (-2)) s - 1 = 0) := h3
  have nn : n ∉ scOf as n := fun z => Nat.lt_irrefl _ (G.rk n hV n ((lm n).mp z).2)
  have nl : ∀ k, (k ∈ D ∨ k ∈ O) → k ∉ scOf as n := fun k hk' z => by
    rcases hk' with q | q
    · exact hD ((S.dv k q).2 n ((lm k).mp z).2)
    · exact hD ((S.ov k q).2 n ((lm k).mp z).2)
  -- what an undone name counts before
  have cnt : ∀ k, k ∈ scOf as n → npOf (setA as n (-2)) k = (((pd k).filter fun y => decide (y ∉ D ++ [n])).length : Int) + 1 := fun k hk' => by
    obtain ⟨kV, kp⟩ := (lm k).mp hk'
    rw [npOf_setA hk, if_neg (fun z : k = n => nn (z ▸ hk')), S.np k kV, if_neg (fun z => nl k (.inl z) hk'), if_neg (fun z => nl k (.inr z) hk')]
    rw [← filt_len (G.pn k kV) kp hD]
    rfl
  have allD : ∀ k, ((pd k).filter fun y => decide (y ∉ D ++ [n])).length = 0 ↔ ∀ y ∈ pd k, y ∈ D ++ [n] := fun k => by
    rw [List.length_eq_zero_iff, List.filter_eq_nil_iff]
    constructor
    · intro q y hy
      have := q y hy
      rw [decide_eq_true_eq] at this
      exact Classical.not_not.mp this
    · intro q y hy
      rw [decide_eq_true_eq]
      exact not_not_intro (q y hy)
  refine ⟨h1.trans ((bsA_setA _ _ _).trans S.b), fun k kV => ?_, ?_, fun k => ?_, ?_, fun k hk' => ?_, fun k hk' => ?_⟩
  · rw [h2 k]
    by_cases kn : k = n
    · subst kn
      rw [if_neg nn, npOf_setA hk, if_pos rfl, if_pos (List.mem_append_right _ (.head _))]
    · by_cases kD : k ∈ D
      · rw [if_neg (nl k (.inl kD)), npOf_setA hk, if_neg kn, S.np k kV, if_pos kD, if_pos (List.mem_append_left _ kD)]
      · have kD' : k ∉ D ++ [n] := by simp [kD, kn]
        by_cases kO : k ∈ O
        · rw [if_neg (nl k (.inr kO)), npOf_setA hk, if_neg kn, S.np k kV, if_neg kD, if_pos kO, if_neg kD', if_pos kO]
        · rw [if_neg kD', if_neg kO]
          by_cases kl : k ∈ scOf as n
          · rw [if_pos kl, cnt k kl]; omega
          · rw [if_neg kl, npOf_setA hk, if_neg kn, S.np k kV, if_neg kD, if_neg kO, filt_len0 (fun z => kl ((lm k).mpr ⟨kV, z⟩))]
  · rw [h3]
    refine List.nodup_append.mpr ⟨S.rn, ln.filter _, fun a ha c hc e => ?_⟩
    subst e
    have hc := (List.mem_filter.mp hc).1
    exact hD (((S.rm a).mp ha).2.2.2 n ((lm a).mp hc).2)
  · rw [h3, List.mem_append, List.mem_filter, decide_eq_true_eq]
    constructor
    · rintro (h | ⟨h, z⟩)
      · obtain ⟨a, c, d, e⟩ := (S.rm k).mp h
        exact ⟨a, fun z => by
          rcases List.mem_append.mp z with z | z
          · exact c z
          · exact d (List.mem_singleton.mp z ▸ hO), d, fun y hy => List.mem_append_left _ (e y hy)⟩
      · rw [cnt k h] at z
        refine ⟨((lm k).mp h).1, fun q => ?_, fun q => nl k (.inr q) h, (allD k).mp (by omega)⟩
        rcases List.mem_append.mp q with q | q
        · exact nl k (.inl q) h
        · exact nn (List.mem_singleton.mp q ▸ h)
    · rintro ⟨a, c, d, e⟩
      by_cases kp : n ∈ pd k
      · have kl := (lm k).mpr ⟨a, kp⟩
        refine .inr ⟨kl, ?_⟩
        rw [cnt k kl, (allD k).mpr e]; rfl
      · refine .inl ((S.rm k).mpr ⟨a, fun z => c (List.mem_append_left _ z), d, fun y hy => ?_⟩)
        rcases List.mem_append.mp (e y hy) with z | z
        · exact z
        · exact absurd (List.mem_singleton.mp z ▸ hy) kp
  · refine List.nodup_append.mpr ⟨S.dn, by simp, fun a ha c hc e => hD ?_⟩
    rw [← List.mem_singleton.mp hc, ← e]; exact ha
  · rcases List.mem_append.mp hk' with q | q
    · exact ⟨(S.dv k q).1, fun y hy => List.mem_append_left _ ((S.dv k q).2 y hy)⟩
    · rw [List.mem_singleton.mp q]
      exact ⟨hV, fun y hy => List.mem_append_left _ ((S.ov n hO).2 y hy)⟩
  · exact ⟨(S.ov k hk').1, fun y hy => List.mem_append_left _ ((S.ov k hk').2 y hy)⟩
theorem Sv.doneA (G : Gr V pd ρ b) : ∀ (ks : List Int) {as : AS} {rs D O : List Int}, Sv V pd b as rs D O → (∀ k ∈ ks, k ∈ O) → ks.Nodup → (∀ k ∈ ks, k ∉ D) → Sv V pd b (doneA (as, rs) ks).1 (doneA (as, rs) ks).2 (D ++ ks) O
  | [], _, _, D, _, S, _, _, _ => by rw [List.append_nil]; exact S
  | k :: r, as, rs, D, O, S, h1, h2, h3 => by
    have S1 := S.done1 G (h1 k (.head _)) (h3 k (.head _))
    obtain ⟨kr, rn⟩ := List.nodup_cons.mp h2
    have := Sv.doneA G r S1 (fun j hj => h1 j (.tail _ hj)) rn (fun j hj z => by
      rcases List.mem_append.mp z with z | z
      · exact h3 j (.tail _ hj) z
      · exact kr (List.mem_singleton.mp z ▸ hj))
    rw [List.append_assoc] at this
    exact this
end
end
section
noncomputable def Topo (pd : Int → List Int) : List Int → List Int → Prop
  | _, [] => True
  | D, k :: r => (∀ y ∈ pd k, y ∈ D) ∧ Topo pd (D ++ [k]) r
theorem Topo.app {pd : Int → List Int} : ∀ (l : List Int) {t D : List Int}, Topo pd D l → Topo pd (D ++ l) t → Topo pd D (l ++ t)
  | [], t, D, _, h => by rw [List.append_nil] at h; exact h
  | k :: r, t, D, h1, h2 => ⟨h1.1, Topo.app r h1.2 (by rw [List.append_assoc]; exact h2)⟩
theorem Topo.flat {pd : Int → List Int} : ∀ (l : List Int) {D : List Int}, (∀ k ∈ l, ∀ y ∈ pd k, y ∈ D) → Topo pd D l
  | [], _, _ => True.intro
  | k :: r, D, h => ⟨h k (.head _), Topo.flat r fun j hj y hy => List.mem_append_left _ (h j (.tail _ hj) y hy)⟩
theorem Topo.left {pd : Int → List Int} : ∀ (l : List Int) {t D : List Int}, Topo pd D (l ++ t) → Topo pd D l
  | [], _, _, _ => True.intro
  | k :: r, t, D, h => ⟨h.1, Topo.left r h.2⟩
theorem Topo.mem {pd : Int → List Int} : ∀ (l : List Int) {D : List Int}, (∀ k ∈ D, ∀ y ∈ pd k, y ∈ D) → Topo pd D l → ∀ k ∈ D ++ l, ∀ y ∈ pd k, y ∈ D ++ l
  | [], D, h, _, k, hk, y, hy => by rw [List.append_nil] at hk ⊢; exact h k hk y hy
  | j :: r, D, h, t, k, hk, y, hy => by
    have := Topo.mem r (D := D ++ [j]) (fun k hk y hy => by
      rcases List.mem_append.mp hk with q | q
      · exact List.mem_append_left _ (h k q y hy)
      · rw [List.mem_singleton.mp q] at hy
        exact List.mem_append_left _ (t.1 y hy)) t.2
    rw [List.append_assoc] at this
    exact this k hk y hy
theorem nodup_len : ∀ (l m : List Int), l.Nodup → (∀ k ∈ l, k ∈ m) → l.length ≤ m.length
  | [], _, _, _ => Nat.zero_le _
  | k :: r, m, h, hs => by
    obtain ⟨kr, rn⟩ := List.nodup_cons.mp h
    have hk := hs k (.head _)
    have := nodup_len r (m.erase k) rn fun j hj => (List.mem_erase_of_ne fun z : j = k => kr (z ▸ hj)).mpr (hs j (.tail _ hj))
    rw [List.length_erase_of_mem hk] at this
    have := List.length_pos_of_mem hk
    simp only [List.length_cons]
    omega
section
variable {V : List Int} {pd : Int → List Int} {ρ : Int → Nat} {b : List (Int × List Int)} {as : AS} {rs D O : List Int}
theorem Gr.bnd (G : Gr V pd ρ b) {as : AS} (h : bsA as = b) : Bnd 5 as ∧ ∀ e ∈ as, ∀ s ∈ e.2.2, s ∈ as.map (·.1) := by
  constructor
  · intro e he
    have := G.sc _ (h ▸ bsA_mem he)
    exact Nat.le_trans (nodup_len e.2.2 V this.1 fun k hk => ((this.2 k).mp hk).1) G.v5
  · intro e he s hs
    have := G.sc _ (h ▸ bsA_mem he)
    rw [keys_bs h]
    exact (G.kv s).mpr ((this.2 s).mp hs).1
theorem drain_go (G : Gr V pd ρ b) (kept : List Int) : ∀ (n : Nat) (as : AS) (rs D O : List Int), Sv V pd b as rs D O → V.length ≤ D.length + n → (∀ k ∈ O, k ∈ kept ∨ k ∈ D) →
    ∃ told as' O', Drain kept as rs told as' ∧ Sv V pd b as' [] (D ++ told) O' ∧ (∀ k ∈ told, k ∉ kept) ∧ (∀ k ∈ O', k ∈ kept ∨ k ∈ D ++ told) ∧ Topo pd D told := by
  intro n
  induction n with
  | zero =>
    intro as rs D O S hl hO
    -- all is done
    have hrs : rs = [] := by
      cases rs with
      | nil => rfl
      | cons k r =>
        have := (S.rm k).mp (.head _)
        have h2 := nodup_len (k :: D) V (List.nodup_cons.mpr ⟨this.2.1, S.dn⟩) (fun j hj => by
          rcases List.mem_cons.mp hj with rfl | hj
          · exact this.1
          · exact (S.dv j hj).1)
        simp only [List.length_cons] at h2
        omega
    subst hrs
    refine ⟨[], _, O ++ [], .stop (fun k hk => by cases hk) (Nat.zero_le _) rfl, ?_, (fun k hk => by cases hk), ?_, True.intro⟩
    · rw [List.append_nil]; exact S.out G
    · simpa using hO
  | succ n ih =>
    intro as rs D O S hl hO
    have hk : ∀ k ∈ rs, k ∈ as.map (·.1) := fun k hk => (S.keys G k).mpr ((S.rm k).mp hk).1
    have hrl : rs.length ≤ 5 := Nat.le_trans (nodup_len rs V S.rn fun k hk => ((S.rm k).mp hk).1) G.v5
    have So := S.out G
    by_cases hw : (rs.filter fun k => decide (k ∉ kept)) = []
    · refine ⟨[], _, O ++ rs, .stop hk (Nat.le_trans hrl (by decide)) hw, ?_, (fun k hk => by cases hk), fun k hk => ?_, True.intro⟩
      · rw [List.append_nil]; exact So
      · rw [List.append_nil]
        rcases List.mem_append.mp hk with q | q
        · exact hO k q
        · refine .inl (Classical.byContradiction fun z => ?_)
          exact (List.filter_eq_nil_iff.mp hw) k q (decide_eq_true z)
    · generalize hws : (rs.filter fun k => decide (k ∉ kept)) = ws at hw
      have hwm : ∀ k, k ∈ ws ↔ k ∈ rs ∧ k ∉ kept := fun k => by rw [← hws, List.mem_filter, decide_eq_true_eq]
      have wn : ws.Nodup := hws ▸ S.rn.filter _
      have wD : ∀ k ∈ ws, k ∉ D := fun k hk' => ((S.rm k).mp ((hwm k).mp hk').1).2.1
      have wO : ∀ k ∈ ws, k ∈ O ++ rs := fun k hk' => List.mem_append_right _ ((hwm k).mp hk').1
      have S2 := So.doneA G ws wO wn wD
      have wl : 0 < ws.length := List.length_pos_iff.mpr hw
      obtain ⟨told, as', O', dr, S3, t1, t2, t3⟩ := ih _ _ (D ++ ws) (O ++ rs) S2 (by rw [List.length_append]; omega) (fun k hk' => by
        rcases List.mem_append.mp hk' with q | q
        · exact (hO k q).imp id (List.mem_append_left _)
        · by_cases z : k ∈ kept
          · exact .inl z
          · exact .inr (List.mem_append_right _ ((hwm k).mpr ⟨q, z⟩)))
      obtain ⟨bn, cl⟩ := G.bnd So.b
      refine ⟨ws ++ told, as', O', .more hk (Nat.le_trans hrl (by decide)) hws hw (Nat.le_trans (hws ▸ List.length_filter_le ..) hrl) (fun e he => Nat.le_trans (bn e he) (by decide)) cl (fun i hi => ?_) dr, ?_, fun k hk' => ?_, ?_, ?_⟩
      · have hi' := List.getElem_mem hi
        have kV := ((S.rm _).mp ((hwm _).mp hi').1).1
        refine ⟨(So.keys G _).mpr kV, ?_⟩
        have S4 := So.doneA G (ws.take i) (fun k hk' => wO k (List.mem_of_mem_take hk')) (wn.sublist (List.take_sublist _ _)) (fun k hk' => wD k (List.mem_of_mem_take hk'))
        have nt : ws[i] ∉ ws.take i := fun z => by
          have e : ws = ws.take i ++ ws[i] :: ws.drop (i + 1) := by rw [← List.drop_eq_getElem_cons hi, List.take_append_drop]
          rw [e] at wn
          exact (List.nodup_append.mp wn).2.2 _ z _ (.head _) rfl
        rw [S4.np _ kV, if_neg (fun z => by
          rcases List.mem_append.mp z with z | z
          · exact wD _ hi' z
          · exact nt z), if_pos (wO _ hi')]
      · rw [← List.append_assoc]; exact S3
      · rcases List.mem_append.mp hk' with q | q
        · exact ((hwm k).mp q).2
        · exact t1 k q
      · rw [← List.append_assoc]; exact t2
      · exact Topo.app ws (Topo.flat ws fun k hk' => ((S.rm k).mp ((hwm k).mp hk').1).2.2.2) t3
inductive Ab (pd : Int → List Int) : Int → Int → Prop
  | one {z x : Int} : z ∈ pd x → Ab pd z x
  | more {z y x : Int} : y ∈ pd x → Ab pd z y → Ab pd z x
theorem Ab.inV (G : Gr V pd ρ b) {z x : Int} (h : Ab pd z x) (hx : x ∈ V) : z ∈ V ∧ ρ z < ρ x := by
  induction h with
  | one h => exact ⟨G.pv _ hx _ h, G.rk _ hx _ h⟩
  | more h _ ih =>
    have := ih (G.pv _ hx _ h)
    exact ⟨this.1, Nat.lt_trans this.2 (G.rk _ hx _ h)⟩
theorem Ab.low {z h x : Int} (e : z ∈ pd h) (a : Ab pd h x) : Ab pd z x := by
  induction a with
  | one q => exact .more q (.one e)
  | more q _ ih => exact .more q ih
theorem Ab.split {z x : Int} (a : Ab pd z x) : ∃ h, z ∈ pd h ∧ (x = h ∨ Ab pd h x) := by
  induction a with
  | one q => exact ⟨_, q, .inl rfl⟩
  | more q _ ih =>
    obtain ⟨h, e, r⟩ := ih
    refine ⟨h, e, .inr ?_⟩
    rcases r with rfl | r
    · exact .one q
    · exact .more q r
theorem Ab.trans {z y x : Int} (a : Ab pd z y) (c : Ab pd y x) : Ab pd z x := by
  induction a with
  | one q => exact Ab.low q c
  | more q _ ih => exact ih (Ab.low q c)
theorem Topo.ab {l : List Int} (t : Topo pd [] l) : ∀ p q, l = p ++ q → ∀ z x, Ab pd z x → x ∈ p → z ∈ p := fun p q e z x a => by
  have := Topo.mem p (D := []) (fun k hk => by cases hk) (Topo.left p (e ▸ t))
  rw [List.nil_append] at this
  induction a with
  | one h => exact fun hx => this _ hx _ h
  | more h _ ih => exact fun hx => ih (this _ hx _ h)
end
end
section
theorem find_in {as : AS} (hn : (as.map (·.1)).Nodup) {e : Int × Int × List Int} (he : e ∈ as) : (as.find? fun x => x.1 = e.1) = some e := by
  induction as with
  | nil => cases he
  | cons y r ih =>
    simp only [List.map_cons, List.nodup_cons] at hn
    rcases List.mem_cons.mp he with rfl | he
    · simp
    · have hne : ¬ y.1 = e.1 := fun z => hn.1 (z ▸ List.mem_map_of_mem he)
      rw [List.find?_cons_of_neg (by simp [hne])]
      exact ih hn.2 he
theorem npOf_in {as : AS} (hn : (as.map (·.1)).Nodup) {e : Int × Int × List Int} (he : e ∈ as) : npOf as e.1 = e.2.1 := by rw [npOf, find_in hn he]; rfl
theorem scOf_in {as : AS} (hn : (as.map (·.1)).Nodup) {e : Int × Int × List Int} (he : e ∈ as) : scOf as e.1 = e.2.2 := by rw [scOf, find_in hn he]; rfl
theorem gni_np (as : AS) (k j : Int) : npOf (gniA as k) j = npOf as j ∧ scOf (gniA as k) j = scOf as j := by
  unfold gniA
  split
  · exact ⟨rfl, rfl⟩
  · unfold npOf scOf
    rw [List.find?_append]
    cases q : as.find? fun e => e.1 = j with
    | some e => exact ⟨rfl, rfl⟩
    | none =>
      by_cases z : k = j
      · simp [z]
      · simp [z]
theorem gni_keys (as : AS) (k j : Int) : j ∈ (gniA as k).map (·.1) ↔ j ∈ as.map (·.1) ∨ j = k := by
  unfold gniA
  split
  · rename_i h
    constructor
    · exact .inl
    · rintro (q | rfl)
      · exact q
      · exact h
  · rw [List.map_append, List.mem_append]; simp
theorem gni_nd {as : AS} (h : (as.map (·.1)).Nodup) (k : Int) : ((gniA as k).map (·.1)).Nodup := by
  unfold gniA
  split
  · exact h
  · rename_i hk
    rw [List.map_append]
    refine List.nodup_append.mpr ⟨h, by simp, fun a ha c hc e => hk ?_⟩
    have hc : c = k := by simpa using hc
    rw [← hc, ← e]; exact ha
theorem npA_keys (as : AS) (k n : Int) : (npA as k n).map (·.1) = as.map (·.1) := by
  simp only [npA, List.map_map]
  refine List.map_congr_left fun e _ => ?_
  simp only [Function.comp]
  split <;> rfl
theorem scA_keys (as : AS) (p k : Int) : (scA as p k).map (·.1) = as.map (·.1) := by
  simp only [scA, List.map_map]
  refine List.map_congr_left fun e _ => ?_
  simp only [Function.comp]
  split <;> rfl
theorem npA_of {as : AS} {k : Int} (hk : k ∈ as.map (·.1)) (n j : Int) : npOf (npA as k n) j = (if j = k then npOf as k + n else npOf as j) ∧ scOf (npA as k n) j = scOf as j := by
  unfold npOf scOf npA
  rw [find_same (fun e => by split <;> rfl)]
  cases q : as.find? fun e => e.1 = j with
  | none =>
    have : j ≠ k := by
      rintro rfl
      exact find_none q hk
    simp [this]
  | some e =>
    have e1 : e.1 = j := by simpa using List.find?_some q
    by_cases z : j = k
    · subst z
      rw [q]
      simp [e1]
    · simp [e1, z]
theorem scA_of {as : AS} {p : Int} (hp : p ∈ as.map (·.1)) (k j : Int) : npOf (scA as p k) j = npOf as j ∧ scOf (scA as p k) j = if j = p then scOf as p ++ [k] else scOf as j := by
  unfold npOf scOf scA
  rw [find_same (fun e => by split <;> rfl)]
  cases q : as.find? fun e => e.1 = j with
  | none =>
    have : j ≠ p := by
      rintro rfl
      exact find_none q hp
    simp [this]
  | some e =>
    have e1 : e.1 = j := by simpa using List.find?_some q
    by_cases z : j = p
    · subst z
      rw [q]
      simp [e1]
    · simp [e1, z]
theorem addStep_of {as : AS} (hn : (as.map (·.1)).Nodup) (k p : Int) : ((addStep k as p).map (·.1)).Nodup ∧ (∀ j, j ∈ (addStep k as p).map (·.1) ↔ j ∈ as.map (·.1) ∨ j = p) ∧ (∀ j, npOf (addStep k as p) j = npOf as j) ∧
    ∀ j, scOf (addStep k as p) j = if j = p then scOf as p ++ [k] else scOf as j := by
  have hp : p ∈ (gniA as p).map (·.1) := (gni_keys as p p).mpr (.inr rfl)
  unfold addStep
  refine ⟨by rw [scA_keys]; exact gni_nd hn p, fun j => by rw [scA_keys]; exact gni_keys as p j, fun j => by rw [(scA_of hp k j).1, (gni_np as p j).1], fun j => ?_⟩
  rw [(scA_of hp k j).2, (gni_np as p j).2, (gni_np as p p).2]
theorem addSteps_of (k : Int) : ∀ (ps : List Int) (as : AS), ps.Nodup → (as.map (·.1)).Nodup → ((ps.foldl (addStep k) as).map (·.1)).Nodup ∧ (∀ j, j ∈ (ps.foldl (addStep k) as).map (·.1) ↔ j ∈ as.map (·.1) ∨ j ∈ ps) ∧
    (∀ j, npOf (ps.foldl (addStep k) as) j = npOf as j) ∧ ∀ j, scOf (ps.foldl (addStep k) as) j = if j ∈ ps then scOf as j ++ [k] else scOf as j
  | [], as, _, hn => ⟨hn, fun j => by simp, fun j => rfl, fun j => by simp⟩
  | p :: r, as, hp, hn => by
    obtain ⟨pr, rn⟩ := List.nodup_cons.mp hp
    obtain ⟨a1, a2, a3, a4⟩ := addStep_of hn k p
    obtain ⟨b1, b2, b3, b4⟩ := addSteps_of k r (addStep k as p) rn a1
    refine ⟨b1, fun j => ?_, fun j => ?_, fun j => ?_⟩
    · rw [List.foldl_cons, b2 j, a2 j, List.mem_cons, or_assoc]
    · rw [List.foldl_cons, b3 j, a3 j]
    · rw [List.foldl_cons, b4 j, a4 j]
      by_cases z : j = p
      · subst z; simp [pr]
      · by_cases y : j ∈ r <;> simp [z, y]
theorem addA_of {as : AS} (hn : (as.map (·.1)).Nodup) (k : Int) {ps : List Int} (hp : ps.Nodup) : ((addA as k ps).map (·.1)).Nodup ∧ (∀ j, j ∈ (addA as k ps).map (·.1) ↔ j ∈ as.map (·.1) ∨ j = k ∨ j ∈ ps) ∧
    (∀ j, npOf (addA as k ps) j = if j = k then npOf as k + ps.length else npOf as j) ∧ ∀ j, scOf (addA as k ps) j = if j ∈ ps then scOf as j ++ [k] else scOf as j := by
  have hk : k ∈ (gniA as k).map (·.1) := (gni_keys as k k).mpr (.inr rfl)
  obtain ⟨b1, b2, b3, b4⟩ := addSteps_of k ps (npA (gniA as k) k ps.length) hp (by rw [npA_keys]; exact gni_nd hn k)
  unfold addA
  refine ⟨b1, fun j => ?_, fun j => ?_, fun j => ?_⟩
  · rw [b2 j, npA_keys, gni_keys, or_assoc]
  · rw [b3 j, (npA_of hk _ j).1, (gni_np as k k).1, (gni_np as k j).1]
  · rw [b4 j, (npA_of hk _ j).2, (gni_np as k j).2]
theorem built (pd : Int → List Int) : ∀ (r : List Int) (P : List Int) (as : AS), (P ++ r).Nodup → (∀ k ∈ r, (pd k).Nodup) → (as.map (·.1)).Nodup → (∀ j, j ∈ as.map (·.1) ↔ j ∈ P ∨ ∃ n ∈ P, j ∈ pd n) → (∀ j, npOf as j = if j ∈ P then ((pd j).length : Int) else 0) →
    (∀ j, scOf as j = P.filter fun n => decide (j ∈ pd n)) →
    ((r.foldl (fun as k => addA as k (pd k)) as).map (·.1)).Nodup ∧ (∀ j, j ∈ (r.foldl (fun as k => addA as k (pd k)) as).map (·.1) ↔ j ∈ P ++ r ∨ ∃ n ∈ P ++ r, j ∈ pd n) ∧ (∀ j, npOf (r.foldl (fun as k => addA as k (pd k)) as) j = if j ∈ P ++ r then ((pd j).length : Int) else 0) ∧
    (∀ j, scOf (r.foldl (fun as k => addA as k (pd k)) as) j = (P ++ r).filter fun n => decide (j ∈ pd n))
  | [], P, as, _, _, h1, h2, h3, h4 => by rw [List.append_nil]; exact ⟨h1, h2, h3, h4⟩
  | k :: r, P, as, hn, hp, h1, h2, h3, h4 => by
    obtain ⟨a1, a2, a3, a4⟩ := addA_of h1 k (hp k (.head _))
    have e : P ++ k :: r = P ++ [k] ++ r := by simp
    have kP : k ∉ P := fun z => (List.nodup_append.mp hn).2.2 k z k (.head _) rfl
    rw [e] at hn ⊢
    refine built pd r (P ++ [k]) (addA as k (pd k)) hn (fun j hj => hp j (.tail _ hj)) a1 (fun j => ?_) (fun j => ?_) (fun j => ?_)
    · rw [a2 j, h2 j]
      simp only [List.mem_append, List.mem_singleton]
      constructor
      · rintro ((q | ⟨n, hn, q⟩) | q | q)
        · exact .inl (.inl q)
        · exact .inr ⟨n, .inl hn, q⟩
        · exact .inl (.inr q)
        · exact .inr ⟨k, .inr rfl, q⟩
      · rintro ((q | q) | ⟨n, hn | rfl, q⟩)
        · exact .inl (.inl q)
        · exact .inr (.inl q)
        · exact .inl (.inr ⟨n, hn, q⟩)
        · exact .inr (.inr q)
    · rw [a3 j, h3 j, h3 k, if_neg kP]
      by_cases z : j = k
      · subst z; simp
      · simp [z]
    · rw [a4 j, h4 j, List.filter_append]
      by_cases z : j ∈ pd k <;> simp [z]
section
variable {V : List Int} {pd : Int → List Int} {ρ : Int → Nat}
noncomputable def as0F (pd : Int → List Int) (V : List Int) : AS := V.foldl (fun as k => addA as k (pd k)) []
theorem start_ok (vn : V.Nodup) (v5 : V.length ≤ 5) (pn : ∀ k ∈ V, (pd k).Nodup) (pv : ∀ k ∈ V, ∀ y ∈ pd k, y ∈ V) (rk : ∀ k ∈ V, ∀ y ∈ pd k, ρ y < ρ k) (rb : ∀ k ∈ V, ρ k < 100) :
    ∃ b, Gr V pd ρ b ∧ Sv V pd b (as0F pd V) (rs0A (as0F pd V)) [] [] := by
  obtain ⟨h1, h2, h3, h4⟩ := built pd V [] [] (by simpa using vn) pn (by simp) (fun j => by simp) (fun j => by simp [npOf]) (fun j => by simp [scOf])
  simp only [List.nil_append] at h2 h3 h4
  have hkv : ∀ k, k ∈ (as0F pd V).map (·.1) ↔ k ∈ V := fun k => (h2 k).trans ⟨fun z => by
    rcases z with z | ⟨n, hn, z⟩
    · exact z
    · exact pv n hn k z, .inl⟩
  have h1 : ((as0F pd V).map (·.1)).Nodup := h1
  have h3 : ∀ j, npOf (as0F pd V) j = if j ∈ V then ((pd j).length : Int) else 0 := h3
  have h4 : ∀ j, scOf (as0F pd V) j = V.filter fun n => decide (j ∈ pd n) := h4
  refine ⟨bsA (as0F pd V), ⟨by rw [bsA_keys]; exact hkv, by rw [bsA_keys]; exact h1, fun e he => ?_, pn, pv, rk, rb, vn, v5⟩, ⟨rfl, fun k hk => ?_, ?_, fun k => ?_, List.nodup_nil, (fun k hk => by cases hk), (fun k hk => by cases hk)⟩⟩
  · obtain ⟨q, hq, rfl⟩ := List.mem_map.mp he
    have := scOf_in h1 hq
    rw [h4] at this
    show q.2.2.Nodup ∧ ∀ x, x ∈ q.2.2 ↔ x ∈ V ∧ q.1 ∈ pd x
    rw [← this]
    exact ⟨vn.filter _, fun x => by rw [List.mem_filter, decide_eq_true_eq]⟩
  · rw [h3 k, if_pos hk, if_neg (fun z => nomatch z), if_neg (fun z => nomatch z), List.filter_eq_self.mpr (fun y _ => by simp)]
  · exact h1.sublist (List.Sublist.map _ List.filter_sublist)
  · unfold rs0A
    constructor
    · intro h
      obtain ⟨e, he, rfl⟩ := List.mem_map.mp h
      obtain ⟨he, z⟩ := List.mem_filter.mp he
      have z : e.2.1 = 0 := of_decide_eq_true z
      have hV := (hkv e.1).mp (List.mem_map_of_mem he)
      refine ⟨hV, (fun z => nomatch z), (fun z => nomatch z), fun y hy => ?_⟩
      have := npOf_in h1 he
      rw [z, h3, if_pos hV] at this
      have := List.length_pos_of_mem hy
      omega
    · rintro ⟨hV, _, _, hp⟩
      obtain ⟨e, he, rfl⟩ := List.mem_map.mp ((hkv k).mpr hV)
      refine List.mem_map_of_mem (f := fun e : Int × Int × List Int => e.1) (List.mem_filter.mpr ⟨he, decide_eq_true ?_⟩)
      have := npOf_in h1 he
      rw [h3, if_pos hV] at this
      have : pd e.1 = [] := List.eq_nil_iff_forall_not_mem.mpr fun y hy => nomatch hp y hy
      simp_all
theorem read_ok (vn : V.Nodup) (v5 : V.length ≤ 5) (pn : ∀ k ∈ V, (pd k).Nodup) (pv : ∀ k ∈ V, ∀ y ∈ pd k, y ∈ V) (rk : ∀ k ∈ V, ∀ y ∈ pd k, ρ y < ρ k) (rb : ∀ k ∈ V, ρ k < 100) {k : Int} (hk : k ∈ V) :
    ∃ free rest, ReadOk (as0F pd V) k free rest ∧ Topo pd [] (free ++ [k] ++ rest) ∧ (free ++ [k] ++ rest).Nodup ∧ (∀ j, j ∈ free ++ [k] ++ rest ↔ j ∈ V) ∧ (∀ j ∈ V, j ∈ free ↔ j ≠ k ∧ ¬ Ab pd k j) := by
  obtain ⟨b, G, S⟩ := start_ok (ρ := ρ) vn v5 pn pv rk rb
  obtain ⟨free, as1, O1, d1, S1, f1, f2, f3⟩ := drain_go G [k] 5 _ _ _ _ S (Nat.le_trans v5 (by simp)) (fun j hj => by cases hj)
  rw [List.nil_append] at S1 f2
  have stuck : ∀ j ∈ V, j ∉ free → (∀ y ∈ pd j, y ∈ free) → j ∈ O1 := fun j hj n p => Classical.byContradiction fun z => nomatch (S1.rm j).mpr ⟨hj, n, z, p⟩
  have kf : k ∉ free := fun z => f1 k z (.head _)
  -- what is not above k is told
  have low : ∀ n j, ρ j ≤ n → j ∈ V → j ≠ k → ¬ Ab pd k j → j ∈ free := by
    intro n
    induction n with
    | zero =>
      intro j hn hj hjk ha
      refine Classical.byContradiction fun z => ?_
      have := stuck j hj z (fun y hy => by have := rk j hj y hy; omega)
      rcases f2 j this with q | q
      · exact hjk (List.mem_singleton.mp q)
      · exact z q
    | succ n ih =>
      intro j hn hj hjk ha
      refine Classical.byContradiction fun z => ?_
      have := stuck j hj z (fun y hy => by
        have := rk j hj y hy
        exact ih y (by omega) (pv j hj y hy) (fun e => ha (.one (e ▸ hy))) (fun a => ha (.more hy a)))
      rcases f2 j this with q | q
      · exact hjk (List.mem_singleton.mp q)
      · exact z q
  have hi : ∀ {j}, Ab pd k j → j ∉ free := fun {j} a => by
    induction a with
    | one h => exact fun z => kf ((S1.dv _ z).2 _ h)
    | more h _ ih => exact fun z => ih ((S1.dv _ z).2 _ h)
  have kO : k ∈ O1 := stuck k hk kf fun y hy => low (ρ y) y (Nat.le_refl _) (pv k hk y hy) (fun e => by have := rk k hk y hy; rw [e] at this; exact Nat.lt_irrefl _ this) (fun a => by
    have h1 := (a.inV G (pv k hk y hy)).2
    have h2 := rk k hk y hy
    omega)
  have S2 := S1.doneA G [k] (fun j hj => (List.mem_singleton.mp hj) ▸ kO) (by simp) (fun j hj => (List.mem_singleton.mp hj) ▸ kf)
  obtain ⟨rest, as3, O3, d3, S3, r1, r2, r3⟩ := drain_go G [] 5 _ _ _ _ S2 (by have := v5; omega) (fun j hj => by
    rcases f2 j hj with q | q
    · exact .inr (List.mem_append_right _ q)
    · exact .inr (List.mem_append_left _ q))
  have all : ∀ n j, ρ j ≤ n → j ∈ V → j ∈ free ++ [k] ++ rest := by
    intro n
    induction n with
    | zero =>
      intro j hn hj
      refine Classical.byContradiction fun z => ?_
      have : j ∈ O3 := Classical.byContradiction fun y => nomatch (S3.rm j).mpr ⟨hj, z, y, fun y hy => by have := rk j hj y hy; omega⟩
      rcases r2 j this with q | q
      · cases q
      · exact z q
    | succ n ih =>
      intro j hn hj
      refine Classical.byContradiction fun z => ?_
      have : j ∈ O3 := Classical.byContradiction fun y => nomatch (S3.rm j).mpr ⟨hj, z, y, fun y hy => ih y (by have := rk j hj y hy; omega) (pv j hj y hy)⟩
      rcases r2 j this with q | q
      · cases q
      · exact z q
  obtain ⟨bn, cl⟩ := G.bnd S.b
  obtain ⟨bn1, cl1⟩ := G.bnd S1.b
  have l0 : (as0F pd V).length ≤ 5 := by
    have := nodup_len ((as0F pd V).map (·.1)) V (by rw [keys_bs S.b]; exact G.nd) (fun j hj => (S.keys G j).mp hj)
    rw [List.length_map] at this
    exact Nat.le_trans this v5
  have lf : (free ++ [k] ++ rest).length ≤ 5 := Nat.le_trans (nodup_len _ V S3.dn fun j hj => (S3.dv j hj).1) v5
  simp only [List.length_append, List.length_cons, List.length_nil] at lf
  refine ⟨free, rest, ⟨ρ, as1, (doneA (as1, []) [k]).1, as3, (doneA (as1, []) [k]).2, Nat.le_trans l0 (by decide), ?_, (fun e he => rb _ ((S.keys G _).mp (List.mem_map_of_mem he))), (fun e he s hs => ⟨cl e he s hs, ?_⟩), d1, (fun e he => Nat.le_trans (bn1 e he) (by decide)), cl1, (S1.keys G k).mpr hk, ?_, rfl, d3, by omega, by omega⟩, ?_, S3.dn, (fun j => ⟨fun z => (S3.dv j z).1, all (ρ j) j (Nat.le_refl _)⟩), fun j hj => ⟨fun z => ⟨fun e => kf (e ▸ z), fun a => hi a z⟩, fun z => low (ρ j) j (Nat.le_refl _) hj z.1 z.2⟩⟩
  · have : ∀ l : AS, Bnd 5 l → (l.map fun e => e.2.2.length + 1).sum ≤ 6 * l.length := fun l => by
      induction l with
      | nil => intro _; simp
      | cons e r ih =>
        intro h
        have h1 := h e (.head _)
        have h2 := ih (fun q hq => h q (.tail _ hq))
        simp only [List.map_cons, List.sum_cons, List.length_cons]
        omega
    have := this _ bn
    omega
  · have := (G.sc _ (S.b ▸ bsA_mem he)).2 s
    obtain ⟨sV, sp⟩ := this.mp hs
    exact rk s sV _ sp
  · rw [S1.np k hk, if_neg kf, if_pos kO]
  · rw [List.append_assoc]
    refine Topo.app free f3 ⟨fun y hy => ?_, ?_⟩
    · rw [List.nil_append]; exact (S1.ov k kO).2 y hy
    · rw [List.nil_append]; exact r3
end
end
section
structure Stp (V : List Int) (st : List (Int × Int)) : Prop where
  nd : st.Nodup
  ord : ∀ p ∈ st, ∃ i j : Nat, i < j ∧ V[i]? = some p.1 ∧ V[j]? = some p.2
noncomputable def pdF (st : List (Int × Int)) (h : Int) : List Int := (st.filter fun p => decide (p.1 = h)).map (·.2)
theorem mem_pdF {st : List (Int × Int)} {h l : Int} : l ∈ pdF st h ↔ (h, l) ∈ st := by
  unfold pdF
  rw [List.mem_map]
  constructor
  · rintro ⟨p, hp, rfl⟩
    obtain ⟨hp, e⟩ := List.mem_filter.mp hp
    have e : p.1 = h := of_decide_eq_true e
    rw [← e]; exact hp
  · intro hp
    exact ⟨(h, l), List.mem_filter.mpr ⟨hp, decide_eq_true rfl⟩, rfl⟩
theorem map_nodup {α β : Type} {f : α → β} {l : List α} (h : l.Nodup) (inj : ∀ a ∈ l, ∀ c ∈ l, f a = f c → a = c) : (l.map f).Nodup := by
  rw [List.Nodup, List.pairwise_map]
  exact List.Pairwise.imp_of_mem (fun ha hc n e => n (inj _ ha _ hc e)) h
theorem idx_at {V : List Int} (vn : V.Nodup) {i j : Nat} {x : Int} (hi : V[i]? = some x) (hj : V[j]? = some x) : i = j := by
  obtain ⟨h1, e1⟩ := List.getElem?_eq_some_iff.mp hi
  obtain ⟨h2, e2⟩ := List.getElem?_eq_some_iff.mp hj
  have q := List.pairwise_iff_getElem.mp vn
  rcases Nat.lt_trichotomy i j with l | l | l
  · exact absurd (e1.trans e2.symm) (q i j h1 h2 l)
  · exact l
  · exact absurd (e2.trans e1.symm) (q j i h2 h1 l)
theorem at_idx {V : List Int} {x : Int} (h : x ∈ V) : V[V.idxOf x]? = some x := by
  induction V with
  | nil => cases h
  | cons y r ih =>
    rw [List.idxOf_cons]
    by_cases e : y = x
    · simp [e]
    · have : x ∈ r := (List.mem_cons.mp h).resolve_left (fun z => e z.symm)
      have e' : (y == x) = false := by simpa using e
      rw [e']
      simpa using ih this
theorem idx_of {V : List Int} (vn : V.Nodup) {i : Nat} {x : Int} (hi : V[i]? = some x) : V.idxOf x = i := idx_at vn (at_idx (List.mem_of_getElem? hi)) hi
section
variable {V : List Int} {st : List (Int × Int)}
theorem Stp.sub {st' : List (Int × Int)} (S : Stp V st) (h : st'.Sublist st) : Stp V st' := ⟨S.nd.sublist h, fun p hp => S.ord p (h.subset hp)⟩
theorem Stp.mem (S : Stp V st) {p : Int × Int} (hp : p ∈ st) : p.1 ∈ V ∧ p.2 ∈ V := by
  obtain ⟨i, j, _, a, c⟩ := S.ord p hp
  exact ⟨List.mem_of_getElem? a, List.mem_of_getElem? c⟩
theorem Stp.idx (S : Stp V st) (vn : V.Nodup) {p : Int × Int} (hp : p ∈ st) : V.idxOf p.1 < V.idxOf p.2 := by
  obtain ⟨i, j, l, a, c⟩ := S.ord p hp
  rw [idx_of vn a, idx_of vn c]; exact l
theorem Stp.pn (S : Stp V st) (k : Int) : (pdF st k).Nodup := by
  refine map_nodup (S.nd.filter _) fun a ha c hc e => ?_
  have ha := of_decide_eq_true (List.mem_filter.mp ha).2
  have hc := of_decide_eq_true (List.mem_filter.mp hc).2
  exact Prod.ext (ha.trans hc.symm) e
noncomputable def rkF (V : List Int) (x : Int) : Nat := 50 - V.idxOf x
theorem idx_lt {x : Int} (h : x ∈ V) : V.idxOf x < V.length := (List.getElem?_eq_some_iff.mp (at_idx h)).1
theorem Stp.gr (S : Stp V st) (vn : V.Nodup) (v5 : V.length ≤ 5) : (∀ k ∈ V, (pdF st k).Nodup) ∧ (∀ k ∈ V, ∀ y ∈ pdF st k, y ∈ V) ∧ (∀ k ∈ V, ∀ y ∈ pdF st k, rkF V y < rkF V k) ∧ (∀ k ∈ V, rkF V k < 100) := by
  refine ⟨fun k _ => S.pn k, fun k _ y hy => (S.mem (mem_pdF.mp hy)).2, fun k hk y hy => ?_, fun k _ => by unfold rkF; omega⟩
  have h1 := S.idx vn (mem_pdF.mp hy)
  have h2 := idx_lt (S.mem (mem_pdF.mp hy)).2
  unfold rkF
  dsimp only at h1 h2
  omega
theorem lookL_app_l {a b : List (Int × List Int)} {k : Int} (h : k ∈ a.map (·.1)) : lookL (a ++ b) k = lookL a k := by
  unfold lookL
  rw [List.find?_append]
  cases q : a.find? fun e => decide (e.1 = k) with
  | some e => rfl
  | none =>
    obtain ⟨e, he, e1⟩ := List.mem_map.mp h
    have := List.find?_eq_none.mp q e he
    simp [e1] at this
theorem lookL_none {a : List (Int × List Int)} {k : Int} (h : k ∉ a.map (·.1)) : lookL a k = [] := by
  unfold lookL
  have : (a.find? fun e => decide (e.1 = k)) = none := List.find?_eq_none.mpr fun e he => by
    rw [decide_eq_true_eq]
    exact fun z => h (z ▸ List.mem_map_of_mem he)
  rw [this]; rfl
theorem lookL_in {a : List (Int × List Int)} (hn : (a.map (·.1)).Nodup) {e : Int × List Int} (he : e ∈ a) : lookL a e.1 = e.2 := by
  unfold lookL
  induction a with
  | nil => cases he
  | cons y r ih =>
    simp only [List.map_cons, List.nodup_cons] at hn
    rcases List.mem_cons.mp he with rfl | he
    · simp
    · have hne : ¬ y.1 = e.1 := fun z => hn.1 (z ▸ List.mem_map_of_mem he)
      rw [List.find?_cons_of_neg (by simp [hne])]
      exact ih hn.2 he
theorem ovK (st : List (Int × Int)) (V : List Int) : (overF st V).map (·.1) = V := by
  have := overF_keys st V []
  rw [List.map_nil, List.nil_append] at this
  exact this
theorem ov_split (st : List (Int × Int)) {V : List Int} {i : Nat} (hi : i ≤ V.length) : ∃ r, overF st V = overF st (V.take i) ++ r := by
  have h1 : overF st V = (V.drop i).foldl (fun ov n => ov ++ [(n, rowF ov n st)]) (overF st (V.take i)) := by
    unfold overF; rw [← List.foldl_append, List.take_append_drop]
  have : ∀ (l : List Int) (ov : List (Int × List Int)), ∃ r, l.foldl (fun ov n => ov ++ [(n, rowF ov n st)]) ov = ov ++ r := by
    intro l
    induction l with
    | nil => exact fun ov => ⟨[], by simp⟩
    | cons n r ih =>
      intro ov
      obtain ⟨q, e⟩ := ih (ov ++ [(n, rowF ov n st)])
      exact ⟨[(n, rowF ov n st)] ++ q, by rw [List.foldl_cons, e, List.append_assoc]⟩
  rw [h1]
  exact this _ _
theorem ov_at (st : List (Int × Int)) {V : List Int} (vn : V.Nodup) {i : Nat} (hi : i < V.length) : lookL (overF st V) V[i] = rowF (overF st (V.take i)) V[i] st := by
  obtain ⟨r, e⟩ := ov_split st (V := V) (i := i + 1) hi
  have e2 : overF st (V.take (i + 1)) = overF st (V.take i) ++ [(V[i], rowF (overF st (V.take i)) V[i] st)] := by
    rw [List.take_succ_eq_append_getElem hi, overF, List.foldl_append]
    rfl
  have hm : (V[i], rowF (overF st (V.take i)) V[i] st) ∈ overF st V := by
    rw [e, e2]
    exact List.mem_append_left _ (List.mem_append_right _ (.head _))
  exact lookL_in (e := (V[i], rowF (overF st (V.take i)) V[i] st)) (by rw [ovK]; exact vn) hm
theorem ov_take (st : List (Int × Int)) {V : List Int} {i : Nat} (hi : i ≤ V.length) {k : Int} (hk : k ∈ V.take i) : lookL (overF st (V.take i)) k = lookL (overF st V) k := by
  obtain ⟨r, e⟩ := ov_split st hi
  rw [e, lookL_app_l (by rw [ovK]; exact hk)]
theorem mem_rows (ov : List (Int × List Int)) (n x : Int) : ∀ (l : List (Int × Int)) (r : List Int), x ∈ l.foldl (rowStep ov n) r ↔ x ∈ r ∨ ∃ p ∈ l, p.2 = n ∧ (x = p.1 ∨ x ∈ lookL ov p.1)
  | [], r => by simp
  | q :: l, r => by
    rw [List.foldl_cons, mem_rows ov n x l]
    unfold rowStep
    split
    · rename_i e
      simp only [List.mem_append, List.mem_singleton, List.mem_cons, List.not_mem_nil, or_false, exists_eq_or_imp, e, true_and]
      rw [or_assoc, or_assoc]
      constructor
      · rintro (h | h | h | h)
        · exact .inl h
        · exact .inr (.inl (.inl h))
        · exact .inr (.inl (.inr h))
        · exact .inr (.inr h)
      · rintro (h | (h | h) | h)
        · exact .inl h
        · exact .inr (.inl h)
        · exact .inr (.inr (.inl h))
        · exact .inr (.inr (.inr h))
    · rename_i e
      simp only [List.mem_cons, exists_eq_or_imp, e, false_and, false_or]
theorem len_rows (ov : List (Int × List Int)) (n : Int) (M : Nat) : ∀ (l : List (Int × Int)) (r : List Int), (∀ p ∈ l, p.2 = n → (lookL ov p.1).length ≤ M) → (l.foldl (rowStep ov n) r).length ≤ r.length + (l.filter fun p => decide (p.2 = n)).length * (1 + M)
  | [], r, _ => by simp
  | q :: l, r, h => by
    refine Nat.le_trans (len_rows ov n M l (rowStep ov n r q) fun p hp => h p (.tail _ hp)) ?_
    unfold rowStep
    rw [List.filter_cons]
    split
    · rename_i e
      have := h q (.head _) e
      simp only [e, decide_true, if_true, List.length_append, List.length_cons, List.length_nil, Nat.add_mul]
      omega
    · rename_i e
      simp [e]
theorem Stp.before (S : Stp V st) (vn : V.Nodup) {i : Nat} (hi : i < V.length) {p : Int × Int} (hp : p ∈ st) (e : p.2 = V[i]) : p.1 ∈ V.take i := by
  obtain ⟨a, c, l, ha, hc⟩ := S.ord p hp
  have : c = i := idx_at vn hc (by rw [e]; exact List.getElem?_eq_getElem hi)
  subst this
  obtain ⟨h1, e1⟩ := List.getElem?_eq_some_iff.mp ha
  rw [← e1]
  exact List.mem_take_iff_getElem.mpr ⟨a, by omega, rfl⟩
theorem Stp.few (S : Stp V st) (vn : V.Nodup) {i : Nat} (hi : i < V.length) : (st.filter fun p => decide (p.2 = V[i])).length ≤ i := by
  have h1 : ((st.filter fun p => decide (p.2 = V[i])).map (·.1)).Nodup := map_nodup (S.nd.filter _) fun a ha c hc e => by
    have ha := of_decide_eq_true (List.mem_filter.mp ha).2
    have hc := of_decide_eq_true (List.mem_filter.mp hc).2
    exact Prod.ext e (ha.trans hc.symm)
  have h2 := nodup_len _ (V.take i) h1 fun k hk => by
    obtain ⟨p, hp, rfl⟩ := List.mem_map.mp hk
    obtain ⟨hp, e⟩ := List.mem_filter.mp hp
    exact S.before vn hi hp (of_decide_eq_true e)
  rw [List.length_map, List.length_take] at h2
  omega
noncomputable def bdF : Nat → Nat
  | 0 => 0
  | j + 1 => max (bdF j) (j * (1 + bdF j))
theorem Stp.len (S : Stp V st) (vn : V.Nodup) : ∀ j, j ≤ V.length → ∀ i (hi : i < V.length), i < j → (lookL (overF st V) V[i]).length ≤ bdF j
  | 0, _, i, _, h => absurd h (Nat.not_lt_zero _)
  | j + 1, hj, i, hi, h => by
    by_cases e : i < j
    · exact Nat.le_trans (S.len vn j (by omega) i hi e) (Nat.le_max_left _ _)
    · have e : i = j := by omega
      subst e
      rw [ov_at st vn hi]
      refine Nat.le_trans (len_rows _ _ (bdF i) st [] fun p hp hn => ?_) ?_
      · have hb := S.before vn hi hp hn
        rw [ov_take st (Nat.le_of_lt hi) hb]
        obtain ⟨a, ha, e⟩ := List.mem_take_iff_getElem.mp hb
        rw [← e]
        exact S.len vn i (Nat.le_of_lt hi) a (by omega) (by omega)
      · rw [List.length_nil, Nat.zero_add]
        exact Nat.le_trans (Nat.mul_le_mul_right _ (S.few vn hi)) (Nat.le_max_right _ _)
theorem Stp.lenAll (S : Stp V st) (vn : V.Nodup) (v5 : V.length ≤ 5) : ∀ e ∈ overF st V, e.2.length ≤ 64 := by
  intro e he
  have hk : e.1 ∈ V := by
    have := List.mem_map_of_mem (f := fun e : Int × List Int => e.1) he
    rw [ovK] at this; exact this
  obtain ⟨i, hi, e1⟩ := List.getElem_of_mem hk
  rw [← lookL_in (by rw [ovK]; exact vn) he, ← e1]
  have := S.len vn V.length (Nat.le_refl _) i hi hi
  have m : ∀ a c, a ≤ c → bdF a ≤ bdF c := fun a c h => by
    induction h with
    | refl => exact Nat.le_refl _
    | step _ ih => exact Nat.le_trans ih (Nat.le_max_left _ _)
  exact Nat.le_trans this (Nat.le_trans (m _ _ v5) (by decide))
theorem Stp.above (S : Stp V st) (vn : V.Nodup) {n : Int} (hn : n ∈ V) (x : Int) : x ∈ lookL (overF st V) n ↔ Ab (pdF st) n x := by
  have main : ∀ j, ∀ i (hi : i < V.length), i < j → ∀ x, x ∈ lookL (overF st V) V[i] ↔ Ab (pdF st) V[i] x := by
    intro j
    induction j with
    | zero => intro i _ h; exact absurd h (Nat.not_lt_zero _)
    | succ j ih =>
      intro i hi h x
      rw [ov_at st vn hi, rowF, mem_rows]
      constructor
      · rintro (h | ⟨p, hp, e, q⟩)
        · cases h
        · have hb := S.before vn hi hp e
          have low : V[i] ∈ pdF st p.1 := mem_pdF.mpr (e ▸ hp)
          rcases q with rfl | q
          · exact .one low
          · rw [ov_take st (Nat.le_of_lt hi) hb] at q
            obtain ⟨a, ha, e1⟩ := List.mem_take_iff_getElem.mp hb
            rw [← e1] at q low
            exact Ab.low low ((ih a (by omega) (by omega) x).mp q)
      · intro a
        obtain ⟨h', hl, q⟩ := a.split
        have hp := mem_pdF.mp hl
        have hb := S.before vn hi hp rfl
        refine .inr ⟨(h', V[i]), hp, rfl, ?_⟩
        rcases q with rfl | q
        · exact .inl rfl
        · refine .inr ?_
          rw [ov_take st (Nat.le_of_lt hi) hb]
          obtain ⟨a, ha, e1⟩ := List.mem_take_iff_getElem.mp hb
          dsimp only at e1 ⊢
          rw [← e1] at q ⊢
          exact (ih a (by omega) (by omega) x).mpr q
  obtain ⟨i, hi, rfl⟩ := List.getElem_of_mem hn
  exact main (i + 1) i hi (Nat.lt_succ_self _) x
theorem Stp.abV (S : Stp V st) {n x : Int} (a : Ab (pdF st) n x) : x ∈ V ∧ n ∈ V := by
  induction a with
  | one h => exact S.mem (mem_pdF.mp h)
  | more h _ ih => exact ⟨(S.mem (mem_pdF.mp h)).1, ih.2⟩
theorem Stp.abI (S : Stp V st) (vn : V.Nodup) {n x : Int} (a : Ab (pdF st) n x) : V.idxOf x < V.idxOf n := by
  induction a with
  | one h => exact S.idx vn (mem_pdF.mp h)
  | more h _ ih => exact Nat.lt_trans (S.idx vn (mem_pdF.mp h)) ih
theorem Stp.up (S : Stp V st) (vn : V.Nodup) {n x : Int} (h : x ∈ lookL (overF st V) n) : n ∈ V ∧ Ab (pdF st) n x := by
  by_cases hn : n ∈ V
  · exact ⟨hn, (S.above vn hn x).mp h⟩
  · rw [lookL_none (by rw [ovK]; exact hn)] at h; cases h
end
end
section
theorem filter_none_ab (V : List Int) (f : Int → List Int) : ∀ k ∈ V, V.Nodup → lookL (V.map fun n => (n, f n)) k = f k := fun k hk vn => by
  have := lookL_in (a := V.map fun n => (n, f n)) (by rw [List.map_map]; simpa [Function.comp_def] using vn) (e := (k, f k)) (List.mem_map_of_mem (f := fun n => (n, f n)) hk)
  exact this
theorem plain_law {V : List Int} {st : List (Int × Int)} (vn : V.Nodup) (hV : ∀ k, k ∈ V ↔ 0 ≤ k ∧ k < 5) (v5 : V.length = 5) (S : Stp V st) : ∃ free rest : Int → List Int,
    (∀ k ∈ V, ReadOk (as0F (pdF st) V) k (free k) (rest k)) ∧
    (∀ k ∈ V, (V.filter fun j => decide (j ∉ free k ++ [k])) = V.filter fun j => decide (j ∈ lookL (overF st V) k)) ∧
    ∀ one other third : List Int, (∀ x ∈ one, 0 ≤ x ∧ x < 5) → (∀ x ∈ other, 0 ≤ x ∧ x < 5) →
      byDiffs (one ++ third) (other ++ third) (V.map fun k => (k, V.filter fun j => decide (j ∉ free k ++ [k]))) = byCounts one other (overF st V) ∧
      ofRows (rowsF one other (V.map fun k => (free k ++ [k] ++ rest k).reverse)) = byCounts one other (overF st V) := by
  have l5 : V.length ≤ 5 := by omega
  obtain ⟨g1, g2, g3, g4⟩ := S.gr vn l5
  have R := fun k (hk : k ∈ V) => read_ok (ρ := rkF V) vn l5 g1 g2 g3 g4 hk
  have R' : ∀ k, ∃ fr : List Int × List Int, k ∈ V → ReadOk (as0F (pdF st) V) k fr.1 fr.2 ∧ Topo (pdF st) [] (fr.1 ++ [k] ++ fr.2) ∧ (fr.1 ++ [k] ++ fr.2).Nodup ∧ (∀ j, j ∈ fr.1 ++ [k] ++ fr.2 ↔ j ∈ V) ∧ (∀ j ∈ V, j ∈ fr.1 ↔ j ≠ k ∧ ¬ Ab (pdF st) k j) := fun k => by
    by_cases hk : k ∈ V
    · obtain ⟨f, r, h⟩ := R k hk
      exact ⟨(f, r), fun _ => h⟩
    · exact ⟨([], []), fun z => absurd z hk⟩
  obtain ⟨fr, hfr⟩ := Classical.axiomOfChoice R'
  have ab : ∀ k ∈ V, ∀ j ∈ V, j ∉ (fr k).1 ++ [k] ↔ j ∈ lookL (overF st V) k := fun k hk j hj => by
    rw [S.above vn hk j]
    have := (hfr k hk).2.2.2.2 j hj
    rw [List.mem_append, List.mem_singleton, not_or]
    constructor
    · rintro ⟨h1, h2⟩
      exact Classical.byContradiction fun z => h1 (this.mpr ⟨h2, z⟩)
    · intro a
      refine ⟨fun z => (this.mp z).2 a, fun e => ?_⟩
      subst e
      exact Nat.lt_irrefl _ (S.abI vn a)
  have abf : ∀ k ∈ V, (V.filter fun j => decide (j ∉ (fr k).1 ++ [k])) = V.filter fun j => decide (j ∈ lookL (overF st V) k) := fun k hk => List.filter_congr fun j hj => decide_eq_decide.mpr (ab k hk j hj)
  refine ⟨fun k => (fr k).1, fun k => (fr k).2, fun k hk => (hfr k hk).1, abf, fun one other third h1 h2 => ⟨?_, ?_⟩⟩
  · refine diffs_counts (ρ := fun x => V.idxOf x) ⟨fun x y hy => ?_, fun x y hy z hz => ?_⟩ (fun k k0 k5 j => ?_) h1 h2
    · exact S.abI vn (S.up vn hy).2
    · obtain ⟨hx, a⟩ := S.up vn hy
      obtain ⟨_, c⟩ := S.up vn hz
      exact (S.above vn hx z).mpr (a.trans c)
    · have hk := (hV k).mpr ⟨k0, k5⟩
      rw [filter_none_ab V _ k hk vn, abf k hk, List.mem_filter, decide_eq_true_eq]
      exact ⟨fun h => h.2, fun h => ⟨(S.abV (S.up vn h).2).1, h⟩⟩
  · refine rows_counts (row := fun k => ((fr k).1 ++ [k] ++ (fr k).2).reverse) hV (fun k hk j => ?_) (fun k hk => ?_) (fun k hk p j q e x hx => ?_) (fun k hk p q e x hx => ?_)
    · rw [List.mem_reverse]; exact (hfr k hk).2.2.2.1 j
    · rw [List.Nodup, List.pairwise_reverse]
      exact (hfr k hk).2.2.1.imp fun h => h.symm
    · -- what is above j stands ahead of it
      obtain ⟨hj, a⟩ := S.up vn hx
      have e' : (fr k).1 ++ [k] ++ (fr k).2 = q.reverse ++ ([j] ++ p.reverse) := by
        have := congrArg List.reverse e
        rw [List.reverse_reverse] at this
        rw [this]; simp
      have t := (hfr k hk).2.1
      have nd := (hfr k hk).2.2.1
      have hx' := ((hfr k hk).2.2.2.1 x).mpr (S.abV a).1
      rw [e'] at hx' nd
      rcases List.mem_append.mp hx' with z | z
      · have := Topo.ab t _ _ e' j x a z
        exact absurd rfl ((List.nodup_append.mp nd).2.2 j this j (List.mem_append_left _ (.head _)))
      · rcases List.mem_append.mp z with z | z
        · rw [List.mem_singleton.mp z] at a
          exact absurd (S.abI vn a) (Nat.lt_irrefl _)
        · exact List.mem_reverse.mp z
    · -- in its own row only what is above k stands ahead of it
      have nd := (hfr k hk).2.2.1
      have e' : (fr k).1 ++ [k] ++ (fr k).2 = q.reverse ++ ([k] ++ p.reverse) := by
        have := congrArg List.reverse e
        rw [List.reverse_reverse] at this
        rw [this]; simp
      have hxv : x ∈ V := ((hfr k hk).2.2.2.1 x).mp (by
        rw [e']
        exact List.mem_append_right _ (List.mem_append_right _ (List.mem_reverse.mpr hx)))
      refine (ab k hk x hxv).mp fun z => ?_
      have e2 : (fr k).1 = q.reverse := by
        rw [List.append_assoc] at e'
        have nd2 := nd
        rw [List.append_assoc] at nd nd2
        rw [e'] at nd2
        -- k stands at one place alone
        rcases List.append_eq_append_iff.mp e' with ⟨r, e1, e2⟩ | ⟨r, e1, e2⟩
        · cases r with
          | nil => rw [e1]; simp
          | cons y r =>
            rw [List.singleton_append, List.cons_append, List.cons.injEq] at e2
            have : k ∈ q.reverse := by rw [e1, e2.1]; exact List.mem_append_right _ (.head _)
            exact absurd rfl ((List.nodup_append.mp nd2).2.2 k this k (List.mem_append_left _ (.head _)))
        · cases r with
          | nil => rw [e1]; simp
          | cons y r =>
            rw [List.singleton_append, List.cons_append, List.cons.injEq] at e2
            have : k ∈ (fr k).1 := by rw [e1, e2.1]; exact List.mem_append_right _ (.head _)
            exact absurd rfl ((List.nodup_append.mp nd).2.2 k this k (List.mem_append_left _ (.head _)))
      rw [e'] at nd
      have := (List.nodup_append.mp nd).2.2
      rw [e2] at z
      rcases List.mem_append.mp z with z | z
      · exact this x z x (List.mem_append_right _ (List.mem_reverse.mpr hx)) rfl
      · have nd' := (List.nodup_append.mp nd).2.1
        rw [List.singleton_append, List.nodup_cons] at nd'
        exact nd'.1 ((List.mem_singleton.mp z) ▸ List.mem_reverse.mpr hx)
end
section
noncomputable abbrev rOb (n i : Nat) : Obj := { cls := .type "range_iterator", dict := none, data := .fields #[rawInt (0 + (i : Nat) * 1), rawInt ((n : Int) - (i : Nat)), rawInt 1], slots := #[] }
section
variable {prog : Program} {w : World} {A : Around} {s : Shared} {env : Env}
theorem range_walks (hh : A.handled = none) (I : Addr) (n : Nat) : Walks prog w A I [I] [I] n (fun i v => ∃ t, v = .int (i : Nat) t) (rSt I n) := by
  have W1 := Walks.range (prog := prog) (w := w) hh I 0 1 n
  exact {
    sub := W1.sub
    frame := W1.frame
    item := fun i s Q E hi st hQ => W1.item i s Q E hi st fun v h' tk hP st' hk => hQ v h' tk (by
      obtain ⟨t, rfl⟩ := hP
      exact ⟨t, by rw [Int.zero_add, Int.mul_one]⟩) st' hk
    done := W1.done
    self := W1.self }
theorem it_rangeP {n : Nat} {t u v : Tok} {r L : Addr} {g : Heap} {m : Str → Option Value} {news : List (Addr × Obj)} {Q : Value → Shared → Prop} {E : Value → Shared → Prop} (F : Fr g L s.heap m) (N : News g L s.heap news) (hr : IsRange s.heap r 0 (n : Int) 1 t u v) (hsmall : Builtin.Range.small 0 n 1 = true) (hn : Builtin.Range.rangeSize 0 n 1 = n)
    (h : ∀ I h', Fr g L h' m → News g L h' ((I, rOb n 0) :: news) → (∀ p ∈ news, p.1 < I) → Q (.ref I) { s with heap := h' }) :
    wpAny (model prog w) A (pyIter (.ref r)) Q E s := by
  refine wpAny_pyIter_range (t := t) (u := u) (v := v) hr hsmall ?_
  rw [hn]
  refine h _ _ (F.push _) ?_ (fun p hp => Heap.lt_size (N p hp).1)
  have := News.push F N ({ cls := .type "range_iterator", dict := none, data := .fields #[rawInt 0, rawInt (n : Int), rawInt 1], slots := #[] } : Obj) rfl
  simpa only [rOb, Int.natCast_zero, Int.zero_mul, Int.add_zero, Int.sub_zero] using this
noncomputable def pairsF (hid : List Int) (n : Nat) : List (Int × Int) := (List.range n).flatMap fun i => (List.range i).map fun j => (hid.getD j 0, hid.getD i 0)
theorem pairsF_succ (hid : List Int) (n : Nat) : pairsF hid (n + 1) = pairsF hid n ++ (List.range n).map fun j => (hid.getD j 0, hid.getD n 0) := by
  unfold pairsF
  rw [List.range_succ, List.flatMap_append]
  simp
noncomputable def prEnts (ps : List Pr) : List (Addr × Obj) := ps.map fun p => (p.T, p.obj)
theorem prEnts_app (a b : List Pr) : prEnts (a ++ b) = prEnts a ++ prEnts b := by simp [prEnts]
theorem prVals_app (a b : List Pr) : prVals (a ++ b) = prVals a ++ prVals b := by simp [prVals]
theorem prEnts_mem {ps : List Pr} {p : Addr × Obj} (h : p ∈ prEnts ps) : ∃ q ∈ ps, p = (q.T, q.obj) := by
  obtain ⟨q, hq, e⟩ := List.mem_map.mp h
  exact ⟨q, hq, e.symm⟩
theorem small5 : ∀ i : Nat, i < 5 → Builtin.Range.small 0 (i : Int) 1 = true ∧ Builtin.Range.rangeSize 0 (i : Int) 1 = (i : Int)
  | 0, _ => by decide
  | 1, _ => by decide
  | 2, _ => by decide
  | 3, _ => by decide
  | 4, _ => by decide
  | n + 5, h => absurd h (by omega)
theorem pairs_leaf {elt i2 e2 : PySem.Expr} {xa xb : Str} {pa pb : Pos} {scope : Scope} {cl : List (Str × Addr)} {Q : Value → Shared → Prop} {L it : Addr} {g : Heap} {m : Str → Option Value} {B : List (Addr × Obj)} {hid : List Int} {n : Nat}
    (hh : A.handled = none) (hm : (A.mark none).handled = none) (hab : xa ≠ xb) (n5 : n ≤ 5) (F : Fr g L s.heap m) (N : News g L s.heap ((it, rOb n 0) :: B)) (ltB : ∀ p ∈ B, p.1 < it)
    (hi2 : ∀ (i : Nat) (t : Tok) (C : Addr) (oC : Obj) (mC : Str → Option Value) (h : Heap) (tk : Nat) (led : List (Addr × Obj)) (K : Value → Shared → Prop), i < n → LCg.NsObj oC mC → mC xa = some (.int (i : Nat) t) → Fr g L h m → News g L h ((C, oC) :: led) →
      (∀ r h' tk' a b c, IsRange h' r 0 (i : Int) 1 a b c → Fr g L h' m → News g L h' ((C, oC) :: led) → K (.ref r) { s with heap := h', toks := tk' }) →
      wpAny (model prog w) A (eval i2 (compEnvC scope cl C env)) K (fun _ _ => False) { s with heap := h, toks := tk })
    (helt : ∀ (i j : Nat) (ti tj : Tok) (C : Addr) (oC : Obj) (mC : Str → Option Value) (h : Heap) (tk : Nat) (led : List (Addr × Obj)) (K : Value → Shared → Prop), i < n → j < i → LCg.NsObj oC mC → mC xa = some (.int (i : Nat) ti) → mC xb = some (.int (j : Nat) tj) → Fr g L h m → News g L h ((C, oC) :: led) → (∀ p ∈ B, p ∈ led) →
      (∀ T c ta tb h' tk', Fr g L h' m → News g L h' ((T, tupO [.int (hid.getD j 0) ta, .int (hid.getD i 0) tb] c) :: (C, oC) :: led) → (∀ p ∈ (C, oC) :: led, p.1 < T) → K (.ref T) { s with heap := h', toks := tk' }) →
      wpAny (model prog w) (A.mark none) (eval elt (compEnvC scope cl C env)) K (fun _ _ => False) { s with heap := h, toks := tk })
    (done : ∀ D c h tk ps, Fr g L h m → News g L h ((D, W.listOf (prVals ps).toArray c) :: (B ++ prEnts ps)) → (∀ p ∈ B, p.1 < D) → (∀ p ∈ ps, (D + 1 : Nat) < p.T) → ps.map Pr.abs = pairsF hid n → Q (.ref D) { s with heap := h, toks := tk })
    (hxa : scope.names.lookup xa = some .local := by rfl) (hxb : scope.names.lookup xb = some .local := by rfl) (hkind : scope.kind = .function := by rfl) :
    ∀ D C h₂ tk, D = s.heap.objs.size → C = D + 1 → (∀ b o, s.heap.get? b = some o → h₂.get? b = some o) → h₂.get? D = some (W.listOf #[] 0) → h₂.Ns C (fun _ => none) →
      ∃ (I : Nat → Shared → Prop) (k : Nat), I k { s with heap := h₂, toks := tk } ∧ (∀ (n : Nat) (s : Shared) (Q' : Value → Shared → Prop) (E' : Value → Shared → Prop), I n s → Q' (.ref it) s → wpAny (model prog w) A (pyIter (.ref it)) Q' E' s) ∧ ∀ n s, I n s → wpAny (model prog w) A (pyNext (.ref it)) (CompTurn2 prog w A (compEnvC scope cl C env) e2 (.Name xa pa) i2 (.Name xb pb) elt D C Q I n) (fun _ _ => False) s := by
  intro D C h₂ tk eD eC hk hDl hC
  have eD' : @Eq Nat D s.heap.objs.size := eD
  have eC' : @Eq Nat C (D + 1) := eC
  refine exE1 (LCg.ns_obj hC) fun oC0 h86_1 => ?_
  have eC0 := h86_1.1
  have hoC0 := h86_1.2
  have ltL : L < D := eD ▸ Fr.ltL F
  have gsz : g.objs.size ≤ D := Nat.le_of_lt (Nat.lt_of_le_of_lt F.above ltL)
  have lt : ∀ p ∈ B, p.1 < D := fun p hp => eD ▸ Heap.lt_size (N p (.tail _ hp)).1
  have lti : it < D := eD ▸ Heap.lt_size (N _ (.head _)).1
  have nD : g.get? D = none := Heap.get?_none_of_le gsz
  have nC : g.get? C = none := Heap.get?_none_of_le (by rw [eC']; exact Nat.le_succ_of_le gsz)
  have CD : @LT.lt Nat _ D C := by rw [eC']; exact Nat.lt_succ_self _
  have CL : C ≠ L := Nat.ne_of_gt (Nat.lt_trans ltL CD)
  have Ci : C ≠ it := Nat.ne_of_gt (Nat.lt_trans lti CD)
  have Di : D ≠ it := Nat.ne_of_gt lti
  have Wo := range_walks (prog := prog) (w := w) hh it n
  obtain ⟨Iv1, hIv1⟩ : ∃ Iv1 : Nat → Shared → Prop, Iv1 = fun k s' => ∀ G_ : Prop, (∀ i h tk mC oC ps c, (s' = { s with heap := h, toks := tk }) → (i ≤ n) → (k = n - i) → (LCg.NsObj oC mC) → (Fr g L h m) → (News g L h ((C, oC) :: (D, W.listOf (prVals ps).toArray c) :: (it, rOb n i) :: (B ++ prEnts ps))) → (ps.map Pr.abs = pairsF hid i) → (∀ p ∈ ps, C < p.T) → G_) → G_ := ⟨_, rfl⟩
  refine ⟨Iv1, n, ?_, ?_, ?_⟩
  rw [hIv1]
  refine (fun _ k_ => k_ 0 h₂ tk (fun _ => none) oC0 ([]) 0 rfl (Nat.zero_le _) rfl hoC0 ⟨?_, fun b o e => hk b o (F.keep b o e), F.above⟩ ?_ rfl (fun p hp => nomatch hp))
  · obtain ⟨oL, es, ep, e, r⟩ := F.ns
    exact ⟨oL, es, ep, hk _ _ e, r⟩
  · intro p hp
    rcases List.mem_cons.mp hp with rfl | hp
    · exact ⟨eC0, CL, nC⟩
    rcases List.mem_cons.mp hp with rfl | hp
    · exact ⟨hDl, Nat.ne_of_gt ltL, nD⟩
    · have hp' : p ∈ (it, rOb n 0) :: B := by simpa [prEnts] using hp
      exact ⟨hk _ _ (N p hp').1, (N p hp').2.1, (N p hp').2.2⟩
  · intro k s' Q' E' hI74_ q; (first | rw [hIv1] at hI74_ | skip); refine hI74_ _ ?_; clear hI74_; intro i h tk' mC oC ps c e75_ hi e76_ hoC FC NC hP hT; subst e75_; subst e76_
    exact Wo.self i _ _ _ (NC _ (.tail _ (.tail _ (.head _)))).1 q
  · intro k s' hI77_; (first | rw [hIv1] at hI77_ | skip); refine hI77_ _ ?_; clear hI77_; intro i h tk' mC oC ps c e78_ hi e79_ hoC FC NC hP hT; subst e78_; subst e79_
    have st : rSt it n i h := (NC _ (.tail _ (.tail _ (.head _)))).1
    have nit : ∀ p ∈ B ++ prEnts ps, p.1 ≠ it := fun p hp => by
      rcases List.mem_append.mp hp with hp | hp
      · exact Nat.ne_of_lt (ltB p hp)
      · obtain ⟨q, hq, rfl⟩ := prEnts_mem hp
        exact Nat.ne_of_gt (Nat.lt_trans (Nat.lt_trans lti CD) (hT q hq))
    have nDD : ∀ p ∈ B ++ prEnts ps, p.1 ≠ D := fun p hp => by
      rcases List.mem_append.mp hp with hp | hp
      · exact Nat.ne_of_lt (lt p hp)
      · obtain ⟨q, hq, rfl⟩ := prEnts_mem hp
        exact Nat.ne_of_gt (Nat.lt_trans CD (hT q hq))
    have nCC : ∀ p ∈ B ++ prEnts ps, p.1 ≠ C := fun p hp => by
      rcases List.mem_append.mp hp with hp | hp
      · exact Nat.ne_of_lt (Nat.lt_trans (lt p hp) CD)
      · obtain ⟨q, hq, rfl⟩ := prEnts_mem hp
        exact Nat.ne_of_gt (hT q hq)
    by_cases hin : i < n
    · refine walk_item Wo rSt.get FC NC (UpdF.tail Ci (UpdF.tail Di (UpdF.head nit))) st hin ?_
      rintro v h4 tk4 oI4 ⟨t, rfl⟩ st4 F4 N4
      have eo : oI4 = rOb n (i + 1) := by
        have e1 := (N4 _ (.tail _ (.tail _ (.head _)))).1
        exact Option.some.inj (e1.symm.trans st4)
      subst eo
      dsimp only [CompTurn2]
      refine assign_own F4 N4 hoC (fun p hp => ?_) ?_ hxa hkind
      · rcases List.mem_cons.mp hp with rfl | hp
        · exact Nat.ne_of_lt CD
        rcases List.mem_cons.mp hp with rfl | hp
        · exact Ci.symm
        · exact nCC p hp
      intro h5 oC5 tk5 F5 N5 hoC5
      refine hi2 i t C oC5 _ h5 tk5 _ _ hin hoC5 (if_pos rfl) F5 N5 ?_
      intro r h6 tk6 ra rb rc hr F6 N6
      have h147_ := small5 i (by omega)
      have sm := h147_.1
      have sz := h147_.2
      refine it_rangeP F6 N6 hr sm sz ?_
      intro J h7 F7 N7 lt7
      have JC : J ≠ C := Nat.ne_of_gt (lt7 _ (.head _))
      have JD : J ≠ D := Nat.ne_of_gt (lt7 _ (.tail _ (.head _)))
      have Ji : J ≠ it := Nat.ne_of_gt (lt7 _ (.tail _ (.tail _ (.head _))))
      have JB : ∀ p ∈ B ++ prEnts ps, p.1 ≠ J := fun p hp => Nat.ne_of_lt (lt7 p (.tail _ (.tail _ (.tail _ hp))))
      have Wi := range_walks (prog := prog) (w := w) hm J i
      obtain ⟨Iv2, hIv2⟩ : ∃ Iv2 : Nat → Shared → Prop, Iv2 = fun k s' => ∀ G_ : Prop, (∀ j h tk mC oC qs c, (s' = { s with heap := h, toks := tk }) → (j ≤ i) → (k = i - j) → (LCg.NsObj oC mC) → (mC xa = some (.int (i : Nat) t)) → (Fr g L h m) → (News g L h ((J, rOb i j) :: (C, oC) :: (D, W.listOf (prVals qs).toArray c) :: (it, rOb n (i + 1)) :: (B ++ prEnts qs))) → (qs.map Pr.abs = pairsF hid i ++ ((List.range j).map fun j => (hid.getD j 0, hid.getD i 0))) → (∀ p ∈ qs, C < p.T ∧ p.T ≠ J) → G_) → G_ := ⟨_, rfl⟩
      refine ⟨Iv2, i, ?_, ?_, ?_⟩
      rw [hIv2]
      refine (fun _ k_ => k_ 0 h7 tk6 _ oC5 ps c rfl (Nat.zero_le _) rfl hoC5 (if_pos rfl) F7 N7 (by rw [hP]; simp) (fun p hp => ⟨hT p hp, ?_⟩))
      · exact JB _ (List.mem_append_right _ (List.mem_map_of_mem (f := fun p : Pr => (p.T, p.obj)) hp))
      · intro k s' Q' E' hI80_ q; (first | rw [hIv2] at hI80_ | skip); refine hI80_ _ ?_; clear hI80_; intro j h tk' mC oC qs c e81_ hj e82_ hoC hxC FC NC hP hT; subst e81_; subst e82_
        exact Wi.self j _ _ _ (NC _ (.head _)).1 q
      · intro k s' hI83_; (first | rw [hIv2] at hI83_ | skip); refine hI83_ _ ?_; clear hI83_; intro j h8 tk8 mC8 oC8 qs c8 e84_ hj e85_ hoC8 hxC8 F8 N8 hP8 hT8; subst e84_; subst e85_
        have st8 : rSt J i j h8 := (N8 _ (.head _)).1
        have qit : ∀ p ∈ B ++ prEnts qs, p.1 ≠ it ∧ p.1 ≠ D ∧ p.1 ≠ C ∧ p.1 ≠ J := fun p hp => by
          rcases List.mem_append.mp hp with hp | hp
          · exact ⟨Nat.ne_of_lt (ltB p hp), Nat.ne_of_lt (lt p hp), Nat.ne_of_lt (Nat.lt_trans (lt p hp) CD), JB p (List.mem_append_left _ hp)⟩
          · obtain ⟨q, hq, rfl⟩ := prEnts_mem hp
            obtain ⟨a1, a2⟩ := hT8 q hq
            exact ⟨Nat.ne_of_gt (Nat.lt_trans (Nat.lt_trans lti CD) a1), Nat.ne_of_gt (Nat.lt_trans CD a1), Nat.ne_of_gt a1, a2⟩
        by_cases hjn : j < i
        · refine walk_item Wi rSt.get F8 N8 (UpdF.head (fun p hp => ?_)) st8 hjn ?_
          · rcases List.mem_cons.mp hp with rfl | hp
            · exact JC.symm
            rcases List.mem_cons.mp hp with rfl | hp
            · exact JD.symm
            rcases List.mem_cons.mp hp with rfl | hp
            · exact Ji.symm
            · exact (qit p hp).2.2.2
          rintro v h9 tk9 oJ ⟨tj, rfl⟩ st9 F9 N9
          have eo : oJ = rOb i (j + 1) := Option.some.inj ((N9 _ (.head _)).1.symm.trans st9)
          subst eo
          dsimp only
          have N9' := News.sub N9 (led' := (C, oC8) :: (J, rOb i (j + 1)) :: (D, W.listOf (prVals qs).toArray c8) :: (it, rOb n (i + 1)) :: (B ++ prEnts qs)) (fun p hp => by
            rcases List.mem_cons.mp hp with rfl | hp
            · exact .tail _ (.head _)
            rcases List.mem_cons.mp hp with rfl | hp
            · exact .head _
            · exact .tail _ (.tail _ hp))
          refine assign_own F9 N9' hoC8 (fun p hp => ?_) ?_ hxb hkind
          · rcases List.mem_cons.mp hp with rfl | hp
            · exact JC
            rcases List.mem_cons.mp hp with rfl | hp
            · exact Nat.ne_of_lt CD
            rcases List.mem_cons.mp hp with rfl | hp
            · exact Ci.symm
            · exact (qit p hp).2.2.1
          intro h10 oC10 tk10 F10 N10 hoC10
          refine helt i j t tj C oC10 _ h10 tk10 _ _ hin hjn hoC10 ((if_neg hab).trans hxC8) (if_pos rfl) F10 N10 (fun p hp => .tail _ (.tail _ (.tail _ (List.mem_append_left _ hp)))) ?_
          intro T cT ta tb h11 tk11 F11 N11 ltT
          have TC : @LT.lt Nat _ C T := ltT _ (.head _)
          have TJ : T ≠ J := Nat.ne_of_gt (ltT _ (.tail _ (.head _)))
          have N12 := News.sub N11 (led' := (D, W.listOf (prVals qs).toArray c8) :: (J, rOb i (j + 1)) :: (C, oC10) :: (it, rOb n (i + 1)) :: (B ++ (prEnts qs ++ [(T, tupO [.int (hid.getD j 0) ta, .int (hid.getD i 0) tb] cT)]))) (fun p hp => by
            simp only [List.mem_cons, List.mem_append, List.not_mem_nil, or_false] at hp ⊢
            rcases hp with h | h | h | h | h | h | h <;> first | ((repeat' first | exact h | exact Or.inl h | apply Or.inr); done) | simp [h])
          have lq : qs.length ≤ 100 := by
            have := congrArg List.length hP8
            rw [List.length_map, List.length_append, List.length_map, List.length_range] at this
            have b : ∀ i, i ≤ 5 → (pairsF hid i).length ≤ i * 5 := by
              intro i
              induction i with
              | zero => intro _; exact Nat.le_refl _
              | succ i ih =>
                intro h
                rw [pairsF_succ, List.length_append, List.length_map, List.length_range]
                have := ih (by omega)
                omega
            have := b i (by omega)
            omega
          refine append_K F11 N12 (Upd.head (fun p hp => ?_)) ?_ (by rw [List.size_toArray, sizeLine_eq]; simp only [prVals, List.length_map]; omega)
          · rcases List.mem_cons.mp hp with rfl | hp
            · exact JD
            rcases List.mem_cons.mp hp with rfl | hp
            · exact Nat.ne_of_gt CD
            rcases List.mem_cons.mp hp with rfl | hp
            · exact Di.symm
            · rw [← List.append_assoc] at hp
              rcases List.mem_append.mp hp with hp | hp
              · exact (qit p hp).2.1
              · rw [List.mem_singleton.mp hp]
                exact Nat.ne_of_gt (Nat.lt_trans CD TC)
          intro h13 F13 N13
          have nw : qs ++ [(⟨hid.getD j 0, hid.getD i 0, ta, tb, T, cT⟩ : Pr)] = qs ++ [⟨hid.getD j 0, hid.getD i 0, ta, tb, T, cT⟩] := rfl
          refine ⟨i - (j + 1), by omega, ?_⟩
          first | rw [hIv2] | rw [hIv1]
          refine (fun _ k_ => k_ (j + 1) h13 tk11 (fun y => if y = xb then some (.int (j : Nat) tj) else mC8 y) oC10 (qs ++ [(⟨hid.getD j 0, hid.getD i 0, ta, tb, T, cT⟩ : Pr)]) (c8 + 1) rfl hjn rfl hoC10 ((if_neg hab).trans hxC8) F13 ?_ ?_ ?_)
          · rw [prVals_app, prEnts_app]
            rw [List.push_toArray] at N13
            refine News.sub N13 fun p hp => ?_
            simp only [List.mem_cons, List.mem_append, List.not_mem_nil, or_false] at hp ⊢
            rcases hp with h | h | h | h | h | h | h
            · exact .inr (.inl h)
            · exact .inr (.inr (.inl h))
            · exact .inl h
            · exact .inr (.inr (.inr (.inl h)))
            · exact .inr (.inr (.inr (.inr (.inl h))))
            · exact .inr (.inr (.inr (.inr (.inr (.inl h)))))
            · refine .inr (.inr (.inr (.inr (.inr (.inr ?_)))))
              simpa [prEnts] using h
          · rw [List.map_append, hP8, List.range_succ, List.map_append, List.append_assoc]
            rfl
          · intro p hp
            rcases List.mem_append.mp hp with hp | hp
            · exact hT8 p hp
            · rw [List.mem_singleton.mp hp]
              exact ⟨TC, TJ⟩
        · have ej : j = i := Nat.le_antisymm ‹j ≤ i› (Nat.le_of_not_lt hjn)
          subst ej
          refine walk_done Wi (rest := (C, oC8) :: (D, W.listOf (prVals qs).toArray c8) :: (it, rOb n (j + 1)) :: (B ++ prEnts qs)) F8 N8 (fun p hp => ⟨.tail _ hp, ?_⟩) st8 (N8 _ (.head _)).2.1 (N8 _ (.head _)).2.2 ?_
          · rcases List.mem_cons.mp hp with rfl | hp
            · exact JC.symm
            rcases List.mem_cons.mp hp with rfl | hp
            · exact JD.symm
            rcases List.mem_cons.mp hp with rfl | hp
            · exact Ji.symm
            · exact (qit p hp).2.2.2
          intro h9 tk9 F9 N9
          dsimp only
          refine ⟨n - (j + 1), by omega, ?_⟩
          first | rw [hIv2] | rw [hIv1]
          refine (fun _ k_ => k_ (j + 1) h9 tk9 mC8 oC8 qs c8 rfl hin rfl hoC8 F9 N9 (by rw [hP8, pairsF_succ]) (fun p hp => (hT8 p hp).1))
    · have ei : i = n := by omega
      subst ei
      refine walk_done Wo (rest := (C, oC) :: (D, W.listOf (prVals ps).toArray c) :: (B ++ prEnts ps)) FC NC (fun p hp => ?_) st (NC _ (.tail _ (.tail _ (.head _)))).2.1 (NC _ (.tail _ (.tail _ (.head _)))).2.2 ?_
      · rcases List.mem_cons.mp hp with rfl | hp
        · exact ⟨.head _, Ci⟩
        rcases List.mem_cons.mp hp with rfl | hp
        · exact ⟨.tail _ (.head _), Di⟩
        · exact ⟨.tail _ (.tail _ (.tail _ hp)), nit p hp⟩
      intro h4 tk4 F4 N4
      dsimp only [CompTurn2]
      refine ⟨mC, hoC.ns (N4 _ (.head _)).1, fun h' hs => ?_⟩
      have F' : Fr g L h' m := ⟨F4.ns.sameBut hs CL.symm, fun b o e => (hs.2 b (fun z => by rw [z, nC] at e; cases e)).trans (F4.keep b o e), F4.above⟩
      refine done D c h' tk4 ps F' (fun p hp => ?_) lt (fun p hp => by rw [← eC']; exact hT p hp) hP
      have q := N4 p (.tail _ hp)
      refine ⟨(hs.2 _ ?_).trans q.1, q.2⟩
      rcases List.mem_cons.mp hp with rfl | hp
      · exact Nat.ne_of_lt CD
      · exact nCC p hp
end
end
section
theorem News.b0 {g h : Heap} {L : Addr} {q a0 : Addr × Obj} {r : List (Addr × Obj)} (_ : News g L h (q :: a0 :: r)) : a0 ∈ a0 :: r := .head _
theorem News.b1 {g h : Heap} {L : Addr} {q a0 a1 : Addr × Obj} {r : List (Addr × Obj)} (_ : News g L h (q :: a0 :: a1 :: r)) : a1 ∈ a0 :: a1 :: r := .tail _ (.head _)
theorem News.b2 {g h : Heap} {L : Addr} {q a0 a1 a2 : Addr × Obj} {r : List (Addr × Obj)} (_ : News g L h (q :: a0 :: a1 :: a2 :: r)) : a2 ∈ a0 :: a1 :: a2 :: r := .tail _ (.tail _ (.head _))
theorem News.b3 {g h : Heap} {L : Addr} {q a0 a1 a2 a3 : Addr × Obj} {r : List (Addr × Obj)} (_ : News g L h (q :: a0 :: a1 :: a2 :: a3 :: r)) : a3 ∈ a0 :: a1 :: a2 :: a3 :: r := .tail _ (.tail _ (.tail _ (.head _)))
theorem News.b4 {g h : Heap} {L : Addr} {q a0 a1 a2 a3 a4 : Addr × Obj} {r : List (Addr × Obj)} (_ : News g L h (q :: a0 :: a1 :: a2 :: a3 :: a4 :: r)) : a4 ∈ a0 :: a1 :: a2 :: a3 :: a4 :: r := .tail _ (.tail _ (.tail _ (.tail _ (.head _))))
theorem News.b5 {g h : Heap} {L : Addr} {q a0 a1 a2 a3 a4 a5 : Addr × Obj} {r : List (Addr × Obj)} (_ : News g L h (q :: a0 :: a1 :: a2 :: a3 :: a4 :: a5 :: r)) : a5 ∈ a0 :: a1 :: a2 :: a3 :: a4 :: a5 :: r := .tail _ (.tail _ (.tail _ (.tail _ (.tail _ (.head _)))))
theorem News.b6 {g h : Heap} {L : Addr} {q a0 a1 a2 a3 a4 a5 a6 : Addr × Obj} {r : List (Addr × Obj)} (_ : News g L h (q :: a0 :: a1 :: a2 :: a3 :: a4 :: a5 :: a6 :: r)) : a6 ∈ a0 :: a1 :: a2 :: a3 :: a4 :: a5 :: a6 :: r := .tail _ (.tail _ (.tail _ (.tail _ (.tail _ (.tail _ (.head _))))))
theorem News.b7 {g h : Heap} {L : Addr} {q a0 a1 a2 a3 a4 a5 a6 a7 : Addr × Obj} {r : List (Addr × Obj)} (_ : News g L h (q :: a0 :: a1 :: a2 :: a3 :: a4 :: a5 :: a6 :: a7 :: r)) : a7 ∈ a0 :: a1 :: a2 :: a3 :: a4 :: a5 :: a6 :: a7 :: r := .tail _ (.tail _ (.tail _ (.tail _ (.tail _ (.tail _ (.tail _ (.head _)))))))
theorem News.b8 {g h : Heap} {L : Addr} {q a0 a1 a2 a3 a4 a5 a6 a7 a8 : Addr × Obj} {r : List (Addr × Obj)} (_ : News g L h (q :: a0 :: a1 :: a2 :: a3 :: a4 :: a5 :: a6 :: a7 :: a8 :: r)) : a8 ∈ a0 :: a1 :: a2 :: a3 :: a4 :: a5 :: a6 :: a7 :: a8 :: r := .tail _ (.tail _ (.tail _ (.tail _ (.tail _ (.tail _ (.tail _ (.tail _ (.head _))))))))
theorem News.b9 {g h : Heap} {L : Addr} {q a0 a1 a2 a3 a4 a5 a6 a7 a8 a9 : Addr × Obj} {r : List (Addr × Obj)} (_ : News g L h (q :: a0 :: a1 :: a2 :: a3 :: a4 :: a5 :: a6 :: a7 :: a8 :: a9 :: r)) : a9 ∈ a0 :: a1 :: a2 :: a3 :: a4 :: a5 :: a6 :: a7 :: a8 :: a9 :: r := .tail _ (.tail _ (.tail _ (.tail _ (.tail _ (.tail _ (.tail _ (.tail _ (.tail _ (.head _)))))))))
theorem AllLt.lts {d : Addr} : ∀ {l : List (Addr × Obj)}, AllLt d l → ∀ p ∈ l, p.1 < d
  | [], _, _, hp => (nomatch hp)
  | q :: r, h, p, hp => by
    rcases List.mem_cons.mp hp with rfl | hp
    · exact h.1
    · exact AllLt.lts h.2 p hp
end
section
noncomputable abbrev cellO : Obj := { cls := .type "cell", data := .cell none }
section
variable {prog : Program} {w : World} {M : Model} {A : Around} {s : Shared} {env : Env} {E : Value → Shared → Prop}
theorem newEnv_cell {scope : Scope} {globals : Addr} {x : Str} {cl : List (Str × Addr)} {qual : Str} {Q : Env → Shared → Prop} (hcs : ∀ a cl, cellsFrom a scope.names cl = (x, a) :: cl) (hpc : ∀ h, pushCells h scope.names = h.push cellO)
    (hQ : Q (newEnv scope s.heap.objs.size globals ((x, s.heap.objs.size + 1) :: cl) qual none .none (some env) builtinsNs) { s with heap := (s.heap.push { cls := .type "dict", data := .dict #[] }).push cellO }) :
    wpAny M A (newFunctionEnv scope globals cl [] qual none .none (some env)) Q E s := by
  simp only [newFunctionEnv, Option.isSome_some, if_true]
  refine wpAny_bind (wpAny_alloc ?_)
  refine wpAny_bind (wpAny_layCells _ (fun name kind cells => by cases hkc : kind == NameKind.cell <;> simp [hkc]) _ _ _ _ ?_)
  rw [show ({ s with heap := s.heap.push { cls := .type "dict", data := .dict #[] } } : Shared).heap.objs.size = s.heap.objs.size + 1 from Heap.size_push ..]
  rw [hcs, hpc]
  refine wpAny_bind ?_
  rw [List.forIn_nil]
  exact wpAny_pure (wpAny_pure hQ)
noncomputable def UseEndC (L : Addr) (y : Str) (Q : Flow → Shared → Prop) (D C : Addr) (s' : Shared) : Prop := ∃ (g2 : Heap) (m mC : Str → Option Value) (news : List (Addr × Obj)) (oC : Obj), LCg.NsObj oC mC ∧ Fr g2 L s'.heap m ∧ News g2 L s'.heap ((C, oC) :: news) ∧ (∀ p ∈ news, p.1 ≠ C) ∧
  ∀ h'' tk'', Fr g2 L h'' (fun z => if z = y then some (.ref D) else m z) → News g2 L h'' news → Q .next { s' with heap := h'', toks := tk'' }
noncomputable def RawEndC (Q : Value → Shared → Prop) (D C : Addr) (s' : Shared) : Prop := ∃ (L : Addr) (g2 : Heap) (m mC : Str → Option Value) (news : List (Addr × Obj)) (oC : Obj), LCg.NsObj oC mC ∧ Fr g2 L s'.heap m ∧ News g2 L s'.heap ((C, oC) :: news) ∧ (∀ p ∈ news, p.1 ≠ C) ∧
  ∀ h'', Fr g2 L h'' m → News g2 L h'' news → Q (.ref D) { s' with heap := h'' }
theorem finUse {y : Str} {py : Pos} {Q : Flow → Shared → Prop} {D C : Addr} {fl : Flow} (hy : env.kindOf y = some .local) (hp : (env.scope.kind == .class || (env.scope.kind == .module && env.locals != env.globals)) = false) (h : UseEndC env.locals y Q D C s) :
    compPost (model prog w) A (fun _ _ => False) (some (assign (.Name y py) env)) (fun _ s' => Q .next s') (.ref D) C (.ok fl) s := by
  obtain ⟨g2, m, mC, news, oC, hoC, F, N, nC, fin⟩ := h
  obtain ⟨eC, CL, C0⟩ := N _ (.head _)
  show wpAny _ A (assign (.Name y py) env (.ref _)) _ _ _
  refine wpAny_assign_Name (wpAny_storeName_local hy F.ns (fun h₂ hn₂ hs₂ => ?_) hp)
  have hL₀ : g2.get? env.locals = none := Heap.get?_none_of_le F.above
  have F₂ : Fr g2 env.locals h₂ (fun z => if z = y then some (.ref D) else m z) := ⟨hn₂, fun b o e => hs₂.extBut b o (fun q => by rw [q, hL₀] at e; cases e) (F.keep b o e), F.above⟩
  refine ⟨mC, hoC.ns (hs₂.extBut _ _ CL eC), fun h'' hs'' => fin h'' _ (F₂.change hs'' CL C0) (fun p hp => ?_)⟩
  have q := N p (.tail _ hp)
  exact ⟨hs''.extBut _ _ (nC p hp) (hs₂.extBut _ _ q.2.1 q.1), q.2⟩
theorem finRaw {Q : Value → Shared → Prop} {D C : Addr} {fl : Flow} (h : RawEndC Q D C s) : compPost (model prog w) A (fun _ _ => False) none Q (.ref D) C (.ok fl) s := by
  obtain ⟨L, g2, m, mC, news, oC, hoC, F, N, nC, fin⟩ := h
  obtain ⟨eC, CL, C0⟩ := N _ (.head _)
  refine ⟨mC, hoC.ns eC, fun h'' hs'' => fin h'' (F.change hs'' CL C0) (fun p hp => ?_)⟩
  have q := N p (.tail _ hp)
  exact ⟨hs''.extBut _ _ (nC p hp) q.1, q.2⟩
noncomputable def CompTurnC (prog : Program) (w : World) (A : Around) (env : Env) (target elt : PySem.Expr) (D : Addr) (End : Shared → Prop) (I : Nat → Shared → Prop) (n : Nat) (r : Option Value) (s₁ : Shared) : Prop := match r with
  | none => End s₁
  | some v => wpAny (model prog w) A (assign target env v) (fun _ s₂ => wpAny (model prog w) A (eval elt env) (fun x s₄ => wpAny (model prog w) A (call (.builtin "list.append") [.ref D, x]) (fun _ s₅ => Again I n s₅) (fun _ _ => False) s₄) (fun _ _ => False) s₂) (fun _ _ => False) s₁
noncomputable def CompTurnD (prog : Program) (w : World) (A : Around) (env : Env) (target kx vx : PySem.Expr) (D : Addr) (End : Shared → Prop) (I : Nat → Shared → Prop) (n : Nat) (r : Option Value) (s₁ : Shared) : Prop := match r with
  | none => End s₁
  | some v => wpAny (model prog w) A (assign target env v) (fun _ s₂ => wpAny (model prog w) A (eval kx env) (fun kv s₄ => wpAny (model prog w) A (eval vx env) (fun vv s₅ => wpAny (model prog w) A (dictSet D kv vv) (fun _ s₆ => Again I n s₆) (fun _ _ => False) s₅) (fun _ _ => False) s₄) (fun _ _ => False) s₂) (fun _ _ => False) s₁
theorem comp_useC {elt target iter : PySem.Expr} {scope : Scope} {cl : List (Str × Addr)} {x : Str} {y : Str} {py pos spos : Pos} {Q : Flow → Shared → Prop}
    (hsw : swapsWith (.ListComp elt [⟨target, iter, [], 0⟩] scope pos) (some (.Name y py)) spos.line env = pure true) (hy : env.kindOf y = some .local) (hp : (env.scope.kind == .class || (env.scope.kind == .module && env.locals != env.globals)) = false)
    (hclos : closureFor scope env = pure cl) (hcs : ∀ a cl, cellsFrom a scope.names cl = (x, a) :: cl) (hpc : ∀ h, pushCells h scope.names = h.push cellO) (hkind : scope.kind = .function)
    (hnames : ∀ y ∈ scope.names, y.2 = .local → scope.names.lookup y.1 = some .local)
    (h : wpAny (model prog w) A (eval iter env) (fun xv s₁ => wpAny (model prog w) A (pyIter xv) (fun itv s₂ =>
      ∀ (D C : Nat) h₂, D = s₂.heap.objs.size → C = D + 1 → (∀ b o, s₂.heap.get? b = some o → h₂.get? b = some o) → h₂.get? D = some (W.listOf #[] 0) → h₂.Ns C (fun _ => none) → h₂.get? (C + 1) = some cellO →
        ∃ (I : Nat → Shared → Prop) (n : Nat), I n { s₂ with heap := h₂ } ∧ (∀ (n : Nat) (s : Shared) (Q' : Value → Shared → Prop) (E' : Value → Shared → Prop), I n s → Q' itv s → wpAny (model prog w) A (pyIter itv) Q' E' s) ∧
          ∀ n s, I n s → wpAny (model prog w) A (pyNext itv) (CompTurnC prog w A (compEnvC scope ((x, C + 1) :: cl) C env) target elt D (UseEndC env.locals y Q D C) I n) (fun _ _ => False) s) (fun _ _ => False) s₁) (fun _ _ => False) s)
    (ht : ∀ it v, letOwnedTupleGo target it v = pure () := by intro _ _; rfl)
    (hs : ∀ x, foldedSetIterable iter env x = pure x := by intro _; rfl) :
    wpAny (model prog w) A (exec (.Assign [.Name y py] (.ListComp elt [⟨target, iter, [], 0⟩] scope pos) spos) env) Q (fun _ _ => False) s := by
  revert hsw hy hp hclos hcs hpc hkind hnames h ht hs
  revert prog w A s env elt target iter scope cl x y py pos spos Q
  walk_at "16"; (iterate 7 (generalize zf w_ = pos; generalize zs w_ = v_; clear w_; generalize zf v_ = pos; generalize zs v_ = w_; clear v_)); generalize zf w_ = spos, zs w_ = Q; clear w_; rename_i prog w A s env elt target iter scope cl x y py
  intro hsw hy hp hclos hcs hpc hkind hnames h ht hs
  rw [exec_Assign_Name_used _ _ _ _ hsw]
  refine wpAny_bind (wpAny_standAt (wpAny_bind ?_))
  show wpAny _ A (do let _ ← comprehension (.ListComp elt [⟨target, iter, [], 0⟩] scope pos) scope env _ (newList []) false (eval iter env) (some (assign (.Name y py) env))) _ _ s
  refine wpAny_bind (wpAny_mono (wpAny_comprehension_free (use := some (assign (.Name y py) env)) (Q := fun _ s' => Q .next s') rfl hs hclos hkind hnames
    (wpAny_mono h (fun xv s₁ h₁ => wpAny_mono h₁ (fun itv s₂ h₂ => ?_) fun _ _ e => e) fun _ _ e => e)) (fun _ s' hq => wpAny_pure (wpAny_pure hq)) fun _ _ e => e)
  refine wpAny_newObj_type (newEnv_cell hcs hpc ?_)
  dsimp only
  have hC : (s₂.heap.push { cls := .type "list", dict := none, data := .seq ([] : List Value).toArray }).objs.size = s₂.heap.objs.size + 1 := by rw [Heap.size_push]
  generalize hH : s₂.heap.push { cls := .type "list", dict := none, data := .seq ([] : List Value).toArray } = H at hC ⊢
  have oldH : ∀ b o, s₂.heap.get? b = some o → H.get? b = some o := fun b o e => hH ▸ Heap.get?_push_of_some _ e
  have hD : H.get? s₂.heap.objs.size = some (W.listOf #[] 0) := hH ▸ Heap.get?_push_size _ rfl
  have hNs : ((H.push { cls := .type "dict", data := .dict #[] }).push cellO).Ns H.objs.size (fun _ => none) := (Heap.Ns.new H (.type "dict")).keeps fun b o e => Heap.get?_push_of_some _ e
  have hCc : ((H.push { cls := .type "dict", data := .dict #[] }).push cellO).get? (H.objs.size + 1) = some cellO := by
    have : ((H.push { cls := .type "dict", data := .dict #[] }).push cellO).get? (H.push { cls := .type "dict", data := .dict #[] }).objs.size = some cellO := Heap.get?_push_size _ rfl
    rw [Heap.size_push] at this
    exact this
  obtain ⟨I, n, hI, hself, turn⟩ := h₂ s₂.heap.objs.size H.objs.size _ rfl hC (fun b o e => Heap.get?_push_of_some _ (Heap.get?_push_of_some _ (oldH b o e))) (Heap.get?_push_of_some _ (Heap.get?_push_of_some _ hD)) hNs hCc
  have loop : codeAny (model prog w) A (.compLoop (.ListComp elt [⟨target, iter, [], 0⟩] scope pos) 0 itv (.ref s₂.heap.objs.size) (compEnvC scope ((x, H.objs.size + 1) :: cl) H.objs.size env))
      (compPost (model prog w) A (fun _ _ => False) (some (assign (.Name y py) env)) (fun _ s' => Q .next s') (.ref s₂.heap.objs.size) H.objs.size) { s₂ with heap := (H.push { cls := .type "dict", data := .dict #[] }).push cellO } := by
    refine codeAny_compLoop_tests I (fun n s hI => ?_) n hI (ht _)
    refine wpAny_mono (turn n s hI) (fun r s₁ hr => ?_) (fun _ _ e => e.elim)
    cases r with
    | none => exact finUse hy hp hr
    | some v =>
      refine wpAny_mono hr (fun _ s₂ h₂ => ?_) (fun _ _ e => e.elim)
      refine ifs_nil ?_
      rw [if_pos rfl]
      exact wpAny_mono h₂ (fun x s₄ h₄ => wpAny_mono h₄ (fun _ s₅ h₅ => h₅) (fun _ _ e => e.elim)) (fun _ _ e => e.elim)
  exact codeAny_compStart_list loop (hself n _ _ _ hI loop)
theorem dict_useC {kx vx target iter : PySem.Expr} {scope : Scope} {cl : List (Str × Addr)} {x : Str} {y : Str} {py pos spos : Pos} {Q : Flow → Shared → Prop}
    (hsw : swapsWith (.DictComp kx vx [⟨target, iter, [], 0⟩] scope pos) (some (.Name y py)) spos.line env = pure true) (hy : env.kindOf y = some .local) (hp : (env.scope.kind == .class || (env.scope.kind == .module && env.locals != env.globals)) = false)
    (hclos : closureFor scope env = pure cl) (hcs : ∀ a cl, cellsFrom a scope.names cl = (x, a) :: cl) (hpc : ∀ h, pushCells h scope.names = h.push cellO) (hkind : scope.kind = .function)
    (hnames : ∀ y ∈ scope.names, y.2 = .local → scope.names.lookup y.1 = some .local)
    (h : wpAny (model prog w) A (eval iter env) (fun xv s₁ => wpAny (model prog w) A (pyIter xv) (fun itv s₂ =>
      ∀ (D C : Nat) h₂, D = s₂.heap.objs.size → C = D + 1 → (∀ b o, s₂.heap.get? b = some o → h₂.get? b = some o) → h₂.get? D = some ({ cls := .type "dict", dict := none, data := .dict #[] } : Obj) → h₂.Ns C (fun _ => none) → h₂.get? (C + 1) = some cellO →
        ∃ (I : Nat → Shared → Prop) (n : Nat), I n { s₂ with heap := h₂ } ∧ (∀ (n : Nat) (s : Shared) (Q' : Value → Shared → Prop) (E' : Value → Shared → Prop), I n s → Q' itv s → wpAny (model prog w) A (pyIter itv) Q' E' s) ∧
          ∀ n s, I n s → wpAny (model prog w) A (pyNext itv) (CompTurnD prog w A (compEnvC scope ((x, C + 1) :: cl) C env) target kx vx D (UseEndC env.locals y Q D C) I n) (fun _ _ => False) s) (fun _ _ => False) s₁) (fun _ _ => False) s)
    (ht : ∀ it v, letOwnedTupleGo target it v = pure () := by intro _ _; rfl)
    (hs : ∀ x, foldedSetIterable iter env x = pure x := by intro _; rfl) :
    wpAny (model prog w) A (exec (.Assign [.Name y py] (.DictComp kx vx [⟨target, iter, [], 0⟩] scope pos) spos) env) Q (fun _ _ => False) s := by
  revert hsw hy hp hclos hcs hpc hkind hnames h ht hs
  revert prog w A s env kx vx target iter scope cl x y py pos spos Q
  walk_at "16"; (iterate 7 (generalize zf w_ = py; generalize zs w_ = v_; clear w_; generalize zf v_ = py; generalize zs v_ = w_; clear v_)); generalize zf w_ = pos, zs w_ = spos; clear w_; rename_i prog w A s env kx vx target iter scope cl x y
  walk_at "1"; generalize w_ = Q
  intro hsw hy hp hclos hcs hpc hkind hnames h ht hs
  rw [exec_Assign_Name_used _ _ _ _ hsw]
  refine wpAny_bind (wpAny_standAt (wpAny_bind ?_))
  show wpAny _ A (do let _ ← comprehension (.DictComp kx vx [⟨target, iter, [], 0⟩] scope pos) scope env _ newDict false (eval iter env) (some (assign (.Name y py) env))) _ _ s
  refine wpAny_bind (wpAny_mono (wpAny_comprehension_free (use := some (assign (.Name y py) env)) (Q := fun _ s' => Q .next s') rfl hs hclos hkind hnames
    (wpAny_mono h (fun xv s₁ h₁ => wpAny_mono h₁ (fun itv s₂ h₂ => ?_) fun _ _ e => e) fun _ _ e => e)) (fun _ s' hq => wpAny_pure (wpAny_pure hq)) fun _ _ e => e)
  refine wpAny_newObj_type (newEnv_cell hcs hpc ?_)
  dsimp only
  have hC : (s₂.heap.push { cls := .type "dict", dict := none, data := .dict #[] }).objs.size = s₂.heap.objs.size + 1 := by rw [Heap.size_push]
  generalize hH : s₂.heap.push { cls := .type "dict", dict := none, data := .dict #[] } = H at hC ⊢
  have oldH : ∀ b o, s₂.heap.get? b = some o → H.get? b = some o := fun b o e => hH ▸ Heap.get?_push_of_some _ e
  have hD : H.get? s₂.heap.objs.size = some ({ cls := .type "dict", dict := none, data := .dict #[] } : Obj) := hH ▸ Heap.get?_push_size _ rfl
  have hNs : ((H.push { cls := .type "dict", data := .dict #[] }).push cellO).Ns H.objs.size (fun _ => none) := (Heap.Ns.new H (.type "dict")).keeps fun b o e => Heap.get?_push_of_some _ e
  have hCc : ((H.push { cls := .type "dict", data := .dict #[] }).push cellO).get? (H.objs.size + 1) = some cellO := by
    have : ((H.push { cls := .type "dict", data := .dict #[] }).push cellO).get? (H.push { cls := .type "dict", data := .dict #[] }).objs.size = some cellO := Heap.get?_push_size _ rfl
    rw [Heap.size_push] at this
    exact this
  obtain ⟨I, n, hI, hself, turn⟩ := h₂ s₂.heap.objs.size H.objs.size _ rfl hC (fun b o e => Heap.get?_push_of_some _ (Heap.get?_push_of_some _ (oldH b o e))) (Heap.get?_push_of_some _ (Heap.get?_push_of_some _ hD)) hNs hCc
  have loop : codeAny (model prog w) A (.compLoop (.DictComp kx vx [⟨target, iter, [], 0⟩] scope pos) 0 itv (.ref s₂.heap.objs.size) (compEnvC scope ((x, H.objs.size + 1) :: cl) H.objs.size env))
      (compPost (model prog w) A (fun _ _ => False) (some (assign (.Name y py) env)) (fun _ s' => Q .next s') (.ref s₂.heap.objs.size) H.objs.size) { s₂ with heap := (H.push { cls := .type "dict", data := .dict #[] }).push cellO } := by
    refine codeAny_compLoop_testsD I (fun n s hI => ?_) n hI (ht _)
    refine wpAny_mono (turn n s hI) (fun r s₁ hr => ?_) (fun _ _ e => e.elim)
    cases r with
    | none => exact finUse hy hp hr
    | some v =>
      refine wpAny_mono hr (fun _ s₂ h₂ => ?_) (fun _ _ e => e.elim)
      refine ifs_nil ?_
      rw [if_pos rfl]
      exact wpAny_mono h₂ (fun kv s₄ h₄ => wpAny_mono h₄ (fun vv s₅ h₅ => wpAny_mono h₅ (fun _ s₆ h₆ => h₆) (fun _ _ e => e.elim)) (fun _ _ e => e.elim)) (fun _ _ e => e.elim)
  exact codeAny_compStart_dict loop (hself n _ _ _ hI loop)
theorem dict_rawC {kx vx target iter : PySem.Expr} {scope : Scope} {cl : List (Str × Addr)} {x : Str} {pos : Pos} {Q : Value → Shared → Prop}
    (hclos : closureFor scope env = pure cl) (hcs : ∀ a cl, cellsFrom a scope.names cl = (x, a) :: cl) (hpc : ∀ h, pushCells h scope.names = h.push cellO) (hkind : scope.kind = .function)
    (hnames : ∀ y ∈ scope.names, y.2 = .local → scope.names.lookup y.1 = some .local)
    (h : wpAny (model prog w) A (eval iter env) (fun xv s₁ => wpAny (model prog w) A (pyIter xv) (fun itv s₂ =>
      ∀ (D C : Nat) h₂, D = s₂.heap.objs.size → C = D + 1 → (∀ b o, s₂.heap.get? b = some o → h₂.get? b = some o) → h₂.get? D = some ({ cls := .type "dict", dict := none, data := .dict #[] } : Obj) → h₂.Ns C (fun _ => none) → h₂.get? (C + 1) = some cellO →
        ∃ (I : Nat → Shared → Prop) (n : Nat), I n { s₂ with heap := h₂ } ∧ (∀ (n : Nat) (s : Shared) (Q' : Value → Shared → Prop) (E' : Value → Shared → Prop), I n s → Q' itv s → wpAny (model prog w) A (pyIter itv) Q' E' s) ∧
          ∀ n s, I n s → wpAny (model prog w) A (pyNext itv) (CompTurnD prog w A (compEnvC scope ((x, C + 1) :: cl) C env) target kx vx D (RawEndC Q D C) I n) (fun _ _ => False) s) (fun _ _ => False) s₁) (fun _ _ => False) s)
    (ht : ∀ it v, letOwnedTupleGo target it v = pure () := by intro _ _; rfl)
    (hs : ∀ x, foldedSetIterable iter env x = pure x := by intro _; rfl) :
    wpAny (model prog w) A (eval (.DictComp kx vx [⟨target, iter, [], 0⟩] scope pos) env) Q (fun _ _ => False) s := by
  revert hclos hcs hpc hkind hnames h ht hs
  revert prog w A s env kx vx target iter scope cl x pos Q
  walk_at "14"; (iterate 6 (generalize zf w_ = x; generalize zs w_ = v_; clear w_; generalize zf v_ = x; generalize zs v_ = w_; clear v_)); generalize zf w_ = pos, zs w_ = Q; clear w_; rename_i prog w A s env kx vx target iter scope cl
  intro hclos hcs hpc hkind hnames h ht hs
  rw [arm_eval_DictComp]
  refine wpAny_comprehension_free (use := none) rfl hs hclos hkind hnames (wpAny_mono h (fun xv s₁ h₁ => wpAny_mono h₁ (fun itv s₂ h₂ => ?_) fun _ _ e => e) fun _ _ e => e)
  refine wpAny_newObj_type (newEnv_cell hcs hpc ?_)
  dsimp only
  have hC : (s₂.heap.push { cls := .type "dict", dict := none, data := .dict #[] }).objs.size = s₂.heap.objs.size + 1 := by rw [Heap.size_push]
  generalize hH : s₂.heap.push { cls := .type "dict", dict := none, data := .dict #[] } = H at hC ⊢
  have oldH : ∀ b o, s₂.heap.get? b = some o → H.get? b = some o := fun b o e => hH ▸ Heap.get?_push_of_some _ e
  have hD : H.get? s₂.heap.objs.size = some ({ cls := .type "dict", dict := none, data := .dict #[] } : Obj) := hH ▸ Heap.get?_push_size _ rfl
  have hNs : ((H.push { cls := .type "dict", data := .dict #[] }).push cellO).Ns H.objs.size (fun _ => none) := (Heap.Ns.new H (.type "dict")).keeps fun b o e => Heap.get?_push_of_some _ e
  have hCc : ((H.push { cls := .type "dict", data := .dict #[] }).push cellO).get? (H.objs.size + 1) = some cellO := by
    have : ((H.push { cls := .type "dict", data := .dict #[] }).push cellO).get? (H.push { cls := .type "dict", data := .dict #[] }).objs.size = some cellO := Heap.get?_push_size _ rfl
    rw [Heap.size_push] at this
    exact this
  obtain ⟨I, n, hI, hself, turn⟩ := h₂ s₂.heap.objs.size H.objs.size _ rfl hC (fun b o e => Heap.get?_push_of_some _ (Heap.get?_push_of_some _ (oldH b o e))) (Heap.get?_push_of_some _ (Heap.get?_push_of_some _ hD)) hNs hCc
  have loop : codeAny (model prog w) A (.compLoop (.DictComp kx vx [⟨target, iter, [], 0⟩] scope pos) 0 itv (.ref s₂.heap.objs.size) (compEnvC scope ((x, H.objs.size + 1) :: cl) H.objs.size env))
      (compPost (model prog w) A (fun _ _ => False) none Q (.ref s₂.heap.objs.size) H.objs.size) { s₂ with heap := (H.push { cls := .type "dict", data := .dict #[] }).push cellO } := by
    refine codeAny_compLoop_testsD I (fun n s hI => ?_) n hI (ht _)
    refine wpAny_mono (turn n s hI) (fun r s₁ hr => ?_) (fun _ _ e => e.elim)
    cases r with
    | none => exact finRaw hr
    | some v =>
      refine wpAny_mono hr (fun _ s₂ h₂ => ?_) (fun _ _ e => e.elim)
      refine ifs_nil ?_
      rw [if_pos rfl]
      exact wpAny_mono h₂ (fun kv s₄ h₄ => wpAny_mono h₄ (fun vv s₅ h₅ => wpAny_mono h₅ (fun _ s₆ h₆ => h₆) (fun _ _ e => e.elim)) (fun _ _ e => e.elim)) (fun _ _ e => e.elim)
  exact codeAny_compStart_dict loop (hself n _ _ _ hI loop)
theorem assign_cell {x : Str} {px : Pos} {scope : Scope} {cl : List (Str × Addr)} {C c L : Addr} {g : Heap} {m : Str → Option Value} {oc : Obj} {v₀ : Option Value} {rest : List (Addr × Obj)} {v : Value} {Q : Unit → Shared → Prop}
    (F : Fr g L s.heap m) (N : News g L s.heap ((c, oc) :: rest)) (hc : oc.data = .cell v₀) (nd : ∀ p ∈ rest, p.1 ≠ c)
    (h : ∀ h' oc', Fr g L h' m → News g L h' ((c, oc') :: rest) → oc'.data = .cell (some v) → Q () { s with heap := h' })
    (hx : (compEnvC scope ((x, c) :: cl) C env).kindOf x = some .cell) (hkind : scope.kind = .function := by rfl) :
    wpAny (model prog w) A (assign (.Name x px) (compEnvC scope ((x, c) :: cl) C env) v) Q (fun _ _ => False) s := by
  have q := N _ (.head _)
  refine wpAny_assign_Name (wpAny_storeName_cell (by simp [compEnvC, relabel, hkind]) hx (by simp [compEnvC]) ⟨oc, q.1, hc⟩ (fun h₃ hn₃ hs₃ => ?_))
  obtain ⟨oc', eC', hd'⟩ := hn₃
  refine h h₃ oc' (F.change hs₃ q.2.1 q.2.2) (fun p hp => ?_) hd'
  rcases List.mem_cons.mp hp with rfl | hp
  · exact ⟨eC', q.2⟩
  · exact ⟨(hs₃.2 _ (nd p hp)).trans (N p (.tail _ hp)).1, (N p (.tail _ hp)).2⟩
end
section
variable {prog : Program} {w : World} {A : Around} {E : Value → Shared → Prop} {s : Shared} {h₀ : Heap} {L d : Addr} {m : Str → Option Value} {news : List (Addr × Obj)} {o : Obj} {g : Obj → List (Addr × Obj)} {kvs : List (Int × Value)} {k : Int} {t : Tok} {v : Value}
theorem dset_N {Q : Unit → Shared → Prop} (F : Fr h₀ L s.heap m) (N : News h₀ L s.heap news) (U : UpdF d o news g) (hd : o.IsDictOf (intKind prog w) kvs) (hsz : kvs.length ≤ sizeLine)
    (h : ∀ h' o' tk, Fr h₀ L h' m → News h₀ L h' (g o') → o'.IsDictOf (intKind prog w) (stored kvs k v) → Q () { s with heap := h', toks := tk }) : wpAny (model prog w) A (dictSet d (.int k t) v) Q E s := by
  obtain ⟨pre, post, rfl, hg, a, b⟩ := U.split
  have hm := N (d, o) (List.mem_append_right _ (.head _))
  refine wpAny_dictSet_pairs (hsz := hsz) (intKind_is _ _ _ _) (Heap.dictOf_iff.mpr ⟨o, hm.1, hd⟩) fun h' hmm hs => ?_
  obtain ⟨o', ho', hd'⟩ := Heap.dictOf_iff.mp hmm
  exact h h' o' _ (F.change hs hm.2.1 hm.2.2) (hg o' ▸ N.setIn a b hs ho') hd'
end
end
section
section
variable {prog : Program} {w : World} {A : Around} {s : Shared} {env : Env}
theorem rowVals_app (a b : List Lv) : rowVals (a ++ b) = rowVals a ++ rowVals b := by simp [rowVals]
theorem lvEnts_mem {ls : List Lv} {p : Addr × Obj} (h : p ∈ lvEnts ls) : ∃ q ∈ ls, p = (q.a, W.listOf q.vs.toArray q.c) := by
  obtain ⟨q, hq, e⟩ := List.mem_map.mp h
  exact ⟨q, hq, e.symm⟩
theorem bags_leaf {elt : PySem.Expr} {x : Str} {px : Pos} {scope : Scope} {cl : List (Str × Addr)} {L it : Addr} {g : Heap} {m : Str → Option Value} {B : List (Addr × Obj)} {n : Nat} {End : Addr → Addr → Shared → Prop} (P : List Int → Prop)
    (hh : A.handled = none) (n5 : n ≤ 5) (F : Fr g L s.heap m) (N : News g L s.heap ((it, rOb n 0) :: B)) (ltB : ∀ p ∈ B, p.1 < it)
    (helt : ∀ (i : Nat) (t : Tok) (C : Nat) (oc : Obj) (h : Heap) (tk : Nat) (led : List (Addr × Obj)) (K : Value → Shared → Prop), i < n → oc.data = .cell (some (.int (i : Nat) t)) → Fr g L h m → News g L h ((C + 1, oc) :: led) → (∀ p ∈ B, p ∈ led) → (∀ p ∈ led, p.1 ≠ C + 1) →
      (∀ a vs c xs h' tk', IntsAre vs xs → P xs → Fr g L h' m → News g L h' ((a, W.listOf vs.toArray c) :: (C + 1, oc) :: led) → (∀ p ∈ (C + 1, oc) :: led, p.1 < a) → K (.ref a) { s with heap := h', toks := tk' }) →
      wpAny (model prog w) A (eval elt (compEnvC scope ((x, C + 1) :: cl) C env)) K (fun _ _ => False) { s with heap := h, toks := tk })
    (fin : ∀ (D C : Nat) h tk mC oC ls c, C = D + 1 → LCg.NsObj oC mC → Fr g L h m → News g L h ((C, oC) :: (D, W.listOf (rowVals ls).toArray c) :: (B ++ lvEnts ls)) → LvOk ls → ls.length = n → (∀ x ∈ ls, P x.xs) → (∀ p ∈ B, p.1 < D) → (∀ x ∈ ls, C < x.a) → End D C { s with heap := h, toks := tk })
    (hx : ∀ C cl, (compEnvC scope cl C env).kindOf x = some .cell) (hkind : scope.kind = .function := by rfl) :
    ∀ (D C : Nat) h₂, D = s.heap.objs.size → C = D + 1 → (∀ b o, s.heap.get? b = some o → h₂.get? b = some o) → h₂.get? D = some (W.listOf #[] 0) → h₂.Ns C (fun _ => none) → h₂.get? (C + 1) = some cellO →
      ∃ (I : Nat → Shared → Prop) (k : Nat), I k { s with heap := h₂ } ∧ (∀ (n : Nat) (s : Shared) (Q' : Value → Shared → Prop) (E' : Value → Shared → Prop), I n s → Q' (.ref it) s → wpAny (model prog w) A (pyIter (.ref it)) Q' E' s) ∧ ∀ n s, I n s → wpAny (model prog w) A (pyNext (.ref it)) (CompTurnC prog w A (compEnvC scope ((x, C + 1) :: cl) C env) (.Name x px) elt D (End D C) I n) (fun _ _ => False) s := by
  intro D C h₂ eD' eC' hk hDl hC hcell
  refine exE1 (LCg.ns_obj hC) fun oC0 h47_1 => ?_
  have eC0 := h47_1.1
  have hoC0 := h47_1.2
  have ltL : L < D := eD' ▸ Fr.ltL F
  have gsz : g.objs.size ≤ D := Nat.le_of_lt (Nat.lt_of_le_of_lt F.above ltL)
  have lt : ∀ p ∈ B, p.1 < D := fun p hp => eD' ▸ Heap.lt_size (N p (.tail _ hp)).1
  have lti : it < D := eD' ▸ Heap.lt_size (N _ (.head _)).1
  have nD : g.get? D = none := Heap.get?_none_of_le gsz
  have nC : g.get? C = none := Heap.get?_none_of_le (by rw [eC']; exact Nat.le_succ_of_le gsz)
  have nc : g.get? (C + 1) = none := Heap.get?_none_of_le (by rw [eC']; exact Nat.le_succ_of_le (Nat.le_succ_of_le gsz))
  have CD : D < C := by rw [eC']; exact Nat.lt_succ_self _
  have cC : C < C + 1 := Nat.lt_succ_self _
  have CL : C ≠ L := Nat.ne_of_gt (Nat.lt_trans ltL CD)
  have cL : C + 1 ≠ L := Nat.ne_of_gt (Nat.lt_trans (Nat.lt_trans ltL CD) cC)
  have Ci : C ≠ it := Nat.ne_of_gt (Nat.lt_trans lti CD)
  have ci : C + 1 ≠ it := Nat.ne_of_gt (Nat.lt_trans (Nat.lt_trans lti CD) cC)
  have Di : D ≠ it := Nat.ne_of_gt lti
  have Wo := range_walks (prog := prog) (w := w) hh it n
  obtain ⟨Iv1, hIv1⟩ : ∃ Iv1 : Nat → Shared → Prop, Iv1 = fun k s' => ∀ G_ : Prop, (∀ i h tk oc v0 ls c, (s' = { s with heap := h, toks := tk }) → (i ≤ n) → (k = n - i) → (oc.data = .cell v0) → (Fr g L h m) → (News g L h ((C, oC0) :: (C + 1, oc) :: (D, W.listOf (rowVals ls).toArray c) :: (it, rOb n i) :: (B ++ lvEnts ls))) → (LvOk ls) → (ls.length = i) → ((∀ x ∈ ls, P x.xs)) → (∀ x ∈ ls, C + 1 < x.a) → G_) → G_ := ⟨_, rfl⟩
  refine ⟨Iv1, n, ?_, ?_, ?_⟩
  rw [hIv1]
  refine (fun _ k_ => k_ 0 h₂ s.toks cellO none ([]) 0 rfl (Nat.zero_le _) rfl rfl ⟨?_, fun b o e => hk b o (F.keep b o e), F.above⟩ ?_ (fun _ hp => nomatch hp) rfl (fun _ hp => nomatch hp) (fun _ hp => nomatch hp))
  · obtain ⟨oL, es, ep, e, r⟩ := F.ns
    exact ⟨oL, es, ep, hk _ _ e, r⟩
  · intro p hp
    rcases List.mem_cons.mp hp with rfl | hp
    · exact ⟨eC0, CL, nC⟩
    rcases List.mem_cons.mp hp with rfl | hp
    · exact ⟨hcell, cL, nc⟩
    rcases List.mem_cons.mp hp with rfl | hp
    · exact ⟨hDl, Nat.ne_of_gt ltL, nD⟩
    · have hp' : p ∈ (it, rOb n 0) :: B := by simpa [lvEnts] using hp
      exact ⟨hk _ _ (N p hp').1, (N p hp').2.1, (N p hp').2.2⟩
  · intro k s' Q' E' hI86_ q; (first | rw [hIv1] at hI86_ | skip); refine hI86_ _ ?_; clear hI86_; intro i h tk' oc v0 ls c e87_ hi e88_ hoc FC NC hLv hl hP hT; subst e87_; subst e88_
    exact Wo.self i _ _ _ (NC _ (.tail _ (.tail _ (.tail _ (.head _))))).1 q
  · intro k s' hI89_; (first | rw [hIv1] at hI89_ | skip); refine hI89_ _ ?_; clear hI89_; intro i h tk' oc v0 ls c e90_ hi e91_ hoc FC NC hLv hl hP hT; subst e90_; subst e91_
    have st : rSt it n i h := (NC _ (.tail _ (.tail _ (.tail _ (.head _))))).1
    have off : ∀ p ∈ B ++ lvEnts ls, p.1 ≠ it ∧ p.1 ≠ D ∧ p.1 ≠ C ∧ p.1 ≠ C + 1 := fun p hp => by
      rcases List.mem_append.mp hp with hp | hp
      · exact ⟨Nat.ne_of_lt (ltB p hp), Nat.ne_of_lt (lt p hp), Nat.ne_of_lt (Nat.lt_trans (lt p hp) CD), Nat.ne_of_lt (Nat.lt_trans (Nat.lt_trans (lt p hp) CD) cC)⟩
      · obtain ⟨q, hq, rfl⟩ := lvEnts_mem hp
        have a1 := hT q hq
        exact ⟨Nat.ne_of_gt (Nat.lt_trans (Nat.lt_trans (Nat.lt_trans lti CD) cC) a1), Nat.ne_of_gt (Nat.lt_trans (Nat.lt_trans CD cC) a1), Nat.ne_of_gt (Nat.lt_trans cC a1), Nat.ne_of_gt a1⟩
    by_cases hin : i < n
    · refine walk_item Wo rSt.get FC NC (UpdF.tail Ci (UpdF.tail ci (UpdF.tail Di (UpdF.head fun p hp => (off p hp).1)))) st hin ?_
      rintro v h4 tk4 oI4 ⟨t, rfl⟩ st4 F4 N4
      have eo : oI4 = rOb n (i + 1) := Option.some.inj ((N4 _ (.tail _ (.tail _ (.tail _ (.head _))))).1.symm.trans st4)
      subst eo
      dsimp only [CompTurnC]
      have N4' := News.sub N4 (led' := (C + 1, oc) :: (C, oC0) :: (D, W.listOf (rowVals ls).toArray c) :: (it, rOb n (i + 1)) :: (B ++ lvEnts ls)) (fun p hp => by
        rcases List.mem_cons.mp hp with rfl | hp
        · exact .tail _ (.head _)
        rcases List.mem_cons.mp hp with rfl | hp
        · exact .head _
        · exact .tail _ (.tail _ hp))
      have ndc : ∀ p ∈ (C, oC0) :: (D, W.listOf (rowVals ls).toArray c) :: (it, rOb n (i + 1)) :: (B ++ lvEnts ls), p.1 ≠ C + 1 := fun p hp => by
        rcases List.mem_cons.mp hp with rfl | hp
        · exact Nat.ne_of_lt cC
        rcases List.mem_cons.mp hp with rfl | hp
        · exact Nat.ne_of_lt (Nat.lt_trans CD cC)
        rcases List.mem_cons.mp hp with rfl | hp
        · exact ci.symm
        · exact (off p hp).2.2.2
      refine assign_cell F4 N4' hoc ndc ?_ (hx _ _) hkind
      intro h5 oc5 F5 N5 hoc5
      refine helt i t C oc5 h5 _ _ _ hin hoc5 F5 N5 (fun p hp => .tail _ (.tail _ (.tail _ (List.mem_append_left _ hp)))) ndc ?_
      intro a vs ca xs h6 tk6 iv hPx F6 N6 lta
      have ac : C + 1 < a := lta _ (.head _)
      have N7 := News.sub N6 (led' := (D, W.listOf (rowVals ls).toArray c) :: (C, oC0) :: (C + 1, oc5) :: (it, rOb n (i + 1)) :: (B ++ (lvEnts ls ++ [(a, W.listOf vs.toArray ca)]))) (fun p hp => by
        simp only [List.mem_cons, List.mem_append, List.not_mem_nil, or_false] at hp ⊢
        rcases hp with h | h | h | h | h | h | h <;> first | ((repeat' first | exact h | exact Or.inl h | apply Or.inr); done) | simp [h])
      have lr : (rowVals ls).length ≤ 100 := by simp only [rowVals, List.length_map]; omega
      refine append_K F6 N7 (Upd.head (r := (C, oC0) :: (C + 1, oc5) :: (it, rOb n (i + 1)) :: (B ++ (lvEnts ls ++ [(a, W.listOf vs.toArray ca)]))) (fun p hp => ?_)) ?_ (by rw [List.size_toArray, sizeLine_eq]; omega)
      · rcases List.mem_cons.mp hp with rfl | hp
        · exact Nat.ne_of_gt CD
        rcases List.mem_cons.mp hp with rfl | hp
        · exact Nat.ne_of_gt (Nat.lt_trans CD cC)
        rcases List.mem_cons.mp hp with rfl | hp
        · exact Di.symm
        · rw [← List.append_assoc] at hp
          rcases List.mem_append.mp hp with hp | hp
          · exact (off p hp).2.1
          · rw [List.mem_singleton.mp hp]
            exact Nat.ne_of_gt (Nat.lt_trans (Nat.lt_trans CD cC) ac)
      intro h8 F8 N8
      rw [List.push_toArray] at N8
      refine ⟨n - (i + 1), by omega, ?_⟩
      first | rw [hIv2] | rw [hIv1]
      refine (fun _ k_ => k_ (i + 1) h8 tk6 oc5 _ (ls ++ [(⟨0, a, vs, ca, xs⟩ : Lv)]) (c + 1) rfl hin rfl hoc5 F8 ?_ ?_ ?_ ?_ ?_)
      · rw [rowVals_app, lvEnts_app]
        refine News.sub N8 fun p hp => ?_
        simp only [List.mem_cons, List.mem_append, List.not_mem_nil, or_false] at hp ⊢
        rcases hp with h | h | h | h | h | h | h
        · exact .inr (.inl h)
        · exact .inr (.inr (.inl h))
        · exact .inl h
        · exact .inr (.inr (.inr (.inl h)))
        · exact .inr (.inr (.inr (.inr (.inl h))))
        · exact .inr (.inr (.inr (.inr (.inr (.inl h)))))
        · refine .inr (.inr (.inr (.inr (.inr (.inr ?_)))))
          simpa [lvEnts] using h
      · intro q hq
        rcases List.mem_append.mp hq with hq | hq
        · exact hLv q hq
        · rw [List.mem_singleton.mp hq]; exact iv
      · rw [List.length_append, hl]; rfl
      · intro q hq
        rcases List.mem_append.mp hq with hq | hq
        · exact hP q hq
        · rw [List.mem_singleton.mp hq]; exact hPx
      · intro q hq
        rcases List.mem_append.mp hq with hq | hq
        · exact hT q hq
        · rw [List.mem_singleton.mp hq]; exact ac
    · have ei : i = n := by omega
      subst ei
      refine walk_done Wo (rest := (C, oC0) :: (D, W.listOf (rowVals ls).toArray c) :: (B ++ lvEnts ls)) FC NC (fun p hp => ?_) st (NC _ (.tail _ (.tail _ (.tail _ (.head _))))).2.1 (NC _ (.tail _ (.tail _ (.tail _ (.head _))))).2.2 ?_
      · rcases List.mem_cons.mp hp with rfl | hp
        · exact ⟨.head _, Ci⟩
        rcases List.mem_cons.mp hp with rfl | hp
        · exact ⟨.tail _ (.tail _ (.head _)), Di⟩
        · exact ⟨.tail _ (.tail _ (.tail _ (.tail _ hp))), (off p hp).1⟩
      intro h4 tk4 F4 N4
      dsimp only [CompTurnC]
      exact fin D C h4 tk4 _ oC0 ls c eC' hoC0 F4 N4 hLv hl hP lt fun q hq => Nat.lt_trans cC (hT q hq)
theorem dict_leaf {kx vx : PySem.Expr} {x : Str} {px : Pos} {scope : Scope} {cl : List (Str × Addr)} {L it T : Addr} {g : Heap} {m : Str → Option Value} {B : List (Addr × Obj)} {vs : List Value} {xs : List Int} {oI oT : Obj} {End : Addr → Addr → Shared → Prop} (f : Int → List Int)
    (F : Fr g L s.heap m) (N : News g L s.heap ((it, oI) :: B)) (ltB : ∀ p ∈ B, p.1 < it) (iv : IntsAre vs xs) (xn : xs.Nodup) (xl : xs.length ≤ 100) (Wo : Walks prog w A it [it, T] [it] vs.length (fun i v => vs[i]? = some v) (lSt it T vs)) (hO : ItO (lSt it T vs) it T oI oT 0) (hT : (T, oT) ∈ B)
    (hkv : ∀ (i : Nat) (hi : i < xs.length) (t : Tok) (C : Nat) (oc : Obj) (h : Heap) (tk : Nat) (led : List (Addr × Obj)) (K : Value → Value → Shared → Prop), oc.data = .cell (some (.int xs[i] t)) → Fr g L h m → News g L h ((C + 1, oc) :: led) → (∀ p ∈ B, p ∈ led) → (∀ p ∈ led, p.1 ≠ C + 1) →
      (∀ a vs c t' h' tk', IntsAre vs (f xs[i]) → Fr g L h' m → News g L h' ((a, W.listOf vs.toArray c) :: (C + 1, oc) :: led) → (∀ p ∈ (C + 1, oc) :: led, p.1 < a) → K (.int xs[i] t') (.ref a) { s with heap := h', toks := tk' }) →
      wpAny (model prog w) A (eval kx (compEnvC scope ((x, C + 1) :: cl) C env)) (fun kv s₄ => wpAny (model prog w) A (eval vx (compEnvC scope ((x, C + 1) :: cl) C env)) (fun vv s₅ => K kv vv s₅) (fun _ _ => False) s₄) (fun _ _ => False) { s with heap := h, toks := tk })
    (fin : ∀ (D C : Nat) h tk mC oC oD ls, C = D + 1 → LCg.NsObj oC mC → Fr g L h m → News g L h ((C, oC) :: (D, oD) :: (B ++ lvEnts ls)) → oD.IsDictOf (intKind prog w) (lvKvs ls) → LvOk ls → ls.map Lv.abs = (xs.map fun k => (k, f k)) → (∀ p ∈ B, p.1 < D) → (∀ x ∈ ls, C < x.a) → End D C { s with heap := h, toks := tk })
    (hx : ∀ C cl, (compEnvC scope cl C env).kindOf x = some .cell) (hkind : scope.kind = .function := by rfl) :
    ∀ (D C : Nat) h₂, D = s.heap.objs.size → C = D + 1 → (∀ b o, s.heap.get? b = some o → h₂.get? b = some o) → h₂.get? D = some ({ cls := .type "dict", dict := none, data := .dict #[] } : Obj) → h₂.Ns C (fun _ => none) → h₂.get? (C + 1) = some cellO →
      ∃ (I : Nat → Shared → Prop) (k : Nat), I k { s with heap := h₂ } ∧ (∀ (n : Nat) (s : Shared) (Q' : Value → Shared → Prop) (E' : Value → Shared → Prop), I n s → Q' (.ref it) s → wpAny (model prog w) A (pyIter (.ref it)) Q' E' s) ∧ ∀ n s, I n s → wpAny (model prog w) A (pyNext (.ref it)) (CompTurnD prog w A (compEnvC scope ((x, C + 1) :: cl) C env) (.Name x px) kx vx D (End D C) I n) (fun _ _ => False) s := by
  intro D C h₂ eD' eC' hk hDl hC hcell
  refine exE1 (LCg.ns_obj hC) fun oC0 h181_1 => ?_
  have eC0 := h181_1.1
  have hoC0 := h181_1.2
  have ltL : L < D := eD' ▸ Fr.ltL F
  have gsz : g.objs.size ≤ D := Nat.le_of_lt (Nat.lt_of_le_of_lt F.above ltL)
  have lt : ∀ p ∈ B, p.1 < D := fun p hp => eD' ▸ Heap.lt_size (N p (.tail _ hp)).1
  have lti : it < D := eD' ▸ Heap.lt_size (N _ (.head _)).1
  have nD : g.get? D = none := Heap.get?_none_of_le gsz
  have nC : g.get? C = none := Heap.get?_none_of_le (by rw [eC']; exact Nat.le_succ_of_le gsz)
  have nc : g.get? (C + 1) = none := Heap.get?_none_of_le (by rw [eC']; exact Nat.le_succ_of_le (Nat.le_succ_of_le gsz))
  have CD : D < C := by rw [eC']; exact Nat.lt_succ_self _
  have cC : C < C + 1 := Nat.lt_succ_self _
  have CL : C ≠ L := Nat.ne_of_gt (Nat.lt_trans ltL CD)
  have cL : C + 1 ≠ L := Nat.ne_of_gt (Nat.lt_trans (Nat.lt_trans ltL CD) cC)
  have Ci : C ≠ it := Nat.ne_of_gt (Nat.lt_trans lti CD)
  have ci : C + 1 ≠ it := Nat.ne_of_gt (Nat.lt_trans (Nat.lt_trans lti CD) cC)
  have Di : D ≠ it := Nat.ne_of_gt lti
  have vl := iv.length
  obtain ⟨Iv2, hIv2⟩ : ∃ Iv2 : Nat → Shared → Prop, Iv2 = fun k s' => ∀ G_ : Prop, (∀ i h tk oc v0 oD oI' ls, (s' = { s with heap := h, toks := tk }) → (i ≤ xs.length) → (k = xs.length - i) → (oc.data = .cell v0) → (ItO (lSt it T vs) it T oI' oT i) → (Fr g L h m) → (News g L h ((C, oC0) :: (C + 1, oc) :: (D, oD) :: (it, oI') :: (B ++ lvEnts ls))) → (oD.IsDictOf (intKind prog w) (lvKvs ls)) → (LvOk ls) → (ls.map Lv.abs = ((xs.take i).map fun k => (k, f k))) → (∀ x ∈ ls, C + 1 < x.a) → G_) → G_ := ⟨_, rfl⟩
  refine ⟨Iv2, xs.length, ?_, ?_, ?_⟩
  rw [hIv2]
  refine (fun _ k_ => k_ 0 h₂ s.toks cellO none ({ cls := .type "dict", dict := none, data := .dict #[] } : Obj) oI ([]) rfl (Nat.zero_le _) rfl rfl hO ⟨?_, fun b o e => hk b o (F.keep b o e), F.above⟩ ?_ ?_ (fun _ hp => nomatch hp) rfl (fun _ hp => nomatch hp))
  · obtain ⟨oL, es, ep, e, r⟩ := F.ns
    exact ⟨oL, es, ep, hk _ _ e, r⟩
  · intro p hp
    rcases List.mem_cons.mp hp with rfl | hp
    · exact ⟨eC0, CL, nC⟩
    rcases List.mem_cons.mp hp with rfl | hp
    · exact ⟨hcell, cL, nc⟩
    rcases List.mem_cons.mp hp with rfl | hp
    · exact ⟨hDl, Nat.ne_of_gt ltL, nD⟩
    · have hp' : p ∈ (it, oI) :: B := by simpa [lvEnts] using hp
      exact ⟨hk _ _ (N p hp').1, (N p hp').2.1, (N p hp').2.2⟩
  · obtain ⟨o, e, r⟩ := Heap.dictOf_iff.mp (Heap.DictOf.new (knd := intKind prog w) s.heap)
    rw [Heap.get?_push_size _ rfl] at e
    cases e
    exact r
  · intro k s' Q' E' hI92_ q; (first | rw [hIv2] at hI92_ | skip); refine hI92_ _ ?_; clear hI92_; intro i h tk' oc v0 oD oI' ls e93_ hi e94_ hoc hO' FC NC hd hLv hl hA; subst e93_; subst e94_
    exact Wo.self i _ _ _ (hO' h (NC _ (.tail _ (.tail _ (.tail _ (.head _))))).1 (NC _ (.tail _ (.tail _ (.tail _ (.tail _ (List.mem_append_left _ hT)))))).1) q
  · intro k s' hI95_; (first | rw [hIv2] at hI95_ | skip); refine hI95_ _ ?_; clear hI95_; intro i h tk' oc v0 oD oI' ls e96_ hi e97_ hoc hO' FC NC hd hLv hl hA; subst e96_; subst e97_
    have st := hO' h (NC _ (.tail _ (.tail _ (.tail _ (.head _))))).1 (NC _ (.tail _ (.tail _ (.tail _ (.tail _ (List.mem_append_left _ hT)))))).1
    have off : ∀ p ∈ B ++ lvEnts ls, p.1 ≠ it ∧ p.1 ≠ D ∧ p.1 ≠ C ∧ p.1 ≠ C + 1 := fun p hp => by
      rcases List.mem_append.mp hp with hp | hp
      · exact ⟨Nat.ne_of_lt (ltB p hp), Nat.ne_of_lt (lt p hp), Nat.ne_of_lt (Nat.lt_trans (lt p hp) CD), Nat.ne_of_lt (Nat.lt_trans (Nat.lt_trans (lt p hp) CD) cC)⟩
      · obtain ⟨q, hq, rfl⟩ := lvEnts_mem hp
        have a1 := hA q hq
        exact ⟨Nat.ne_of_gt (Nat.lt_trans (Nat.lt_trans (Nat.lt_trans lti CD) cC) a1), Nat.ne_of_gt (Nat.lt_trans (Nat.lt_trans CD cC) a1), Nat.ne_of_gt (Nat.lt_trans cC a1), Nat.ne_of_gt a1⟩
    have ll : ls.length = (xs.take i).length := by
      have := congrArg List.length hl
      rw [List.length_map, List.length_map] at this
      exact this
    by_cases hin : i < xs.length
    · refine walk_item Wo lSt.get FC NC (UpdF.tail Ci (UpdF.tail ci (UpdF.tail Di (UpdF.head fun p hp => (off p hp).1)))) st (by rw [vl]; exact hin) ?_
      rintro v h4 tk4 oI4 hv st4 F4 N4
      have hO4 := ItO.of Wo st4 (N4 _ (.tail _ (.tail _ (.tail _ (.head _))))).1 (N4 _ (.tail _ (.tail _ (.tail _ (.tail _ (List.mem_append_left _ hT)))))).1
      obtain ⟨t, ht⟩ := ints_at iv i hin
      rw [List.getElem?_toArray, hv] at ht
      obtain rfl := Option.some.inj ht
      dsimp only [CompTurnD]
      have N4' := News.sub N4 (led' := (C + 1, oc) :: (C, oC0) :: (D, oD) :: (it, oI4) :: (B ++ lvEnts ls)) (fun p hp => by
        rcases List.mem_cons.mp hp with rfl | hp
        · exact .tail _ (.head _)
        rcases List.mem_cons.mp hp with rfl | hp
        · exact .head _
        · exact .tail _ (.tail _ hp))
      have ndc : ∀ p ∈ (C, oC0) :: (D, oD) :: (it, oI4) :: (B ++ lvEnts ls), p.1 ≠ C + 1 := fun p hp => by
        rcases List.mem_cons.mp hp with rfl | hp
        · exact Nat.ne_of_lt cC
        rcases List.mem_cons.mp hp with rfl | hp
        · exact Nat.ne_of_lt (Nat.lt_trans CD cC)
        rcases List.mem_cons.mp hp with rfl | hp
        · exact ci.symm
        · exact (off p hp).2.2.2
      refine assign_cell F4 N4' hoc ndc ?_ (hx _ _) hkind
      intro h5 oc5 F5 N5 hoc5
      refine hkv i hin t C oc5 h5 _ _ _ hoc5 F5 N5 (fun p hp => .tail _ (.tail _ (.tail _ (List.mem_append_left _ hp)))) ndc ?_
      intro a us ca t6 h6 tk6 iu F6 N6 lta
      have ac : C + 1 < a := lta _ (.head _)
      have N7 := News.sub N6 (led' := (D, oD) :: (C, oC0) :: (C + 1, oc5) :: (it, oI4) :: (B ++ (lvEnts ls ++ [(a, W.listOf us.toArray ca)]))) (fun p hp => by
        simp only [List.mem_cons, List.mem_append, List.not_mem_nil, or_false] at hp ⊢
        rcases hp with h | h | h | h | h | h | h <;> first | ((repeat' first | exact h | exact Or.inl h | apply Or.inr); done) | simp [h])
      refine dset_N F6 N7 (UpdF.head (fun p hp => ?_)) hd (by simp only [lvKvs, List.length_map, sizeLine_eq]; rw [ll, List.length_take]; omega) ?_
      · rcases List.mem_cons.mp hp with rfl | hp
        · exact Nat.ne_of_gt CD
        rcases List.mem_cons.mp hp with rfl | hp
        · exact Nat.ne_of_gt (Nat.lt_trans CD cC)
        rcases List.mem_cons.mp hp with rfl | hp
        · exact Di.symm
        · rw [← List.append_assoc] at hp
          rcases List.mem_append.mp hp with hp | hp
          · exact (off p hp).2.1
          · rw [List.mem_singleton.mp hp]
            exact Nat.ne_of_gt (Nat.lt_trans (Nat.lt_trans CD cC) ac)
      intro h8 oD8 tk8 F8 N8 hd8
      have hnew : ∀ q ∈ ls, q.k ≠ xs[i] := fun q hq e => by
        have : q.abs ∈ (xs.take i).map fun k => (k, f k) := hl ▸ List.mem_map_of_mem hq
        obtain ⟨k, hk, e2⟩ := List.mem_map.mp this
        have : k = q.k := congrArg Prod.fst e2
        rw [this, e] at hk
        obtain ⟨j, hj, e3⟩ := List.mem_take_iff_getElem.mp hk
        have := idx_at xn (i := j) (j := i) (x := xs[i]) (by rw [List.getElem?_eq_getElem (by omega), e3]) (List.getElem?_eq_getElem hin)
        omega
      rw [stored_new (valueAt_lv hnew)] at hd8
      refine ⟨xs.length - (i + 1), by omega, ?_⟩
      first | rw [hIv2] | rw [hIv1]
      refine (fun _ k_ => k_ (i + 1) h8 tk8 oc5 _ oD8 oI4 (ls ++ [(⟨xs[i], a, us, ca, f xs[i]⟩ : Lv)]) rfl hin rfl hoc5 hO4 F8 ?_ ?_ ?_ ?_ ?_)
      · rw [lvEnts_app]
        refine News.sub N8 fun p hp => ?_
        simp only [List.mem_cons, List.mem_append, List.not_mem_nil, or_false] at hp ⊢
        rcases hp with h | h | h | h | h | h | h
        · exact .inr (.inl h)
        · exact .inr (.inr (.inl h))
        · exact .inl h
        · exact .inr (.inr (.inr (.inl h)))
        · exact .inr (.inr (.inr (.inr (.inl h))))
        · exact .inr (.inr (.inr (.inr (.inr (.inl h)))))
        · refine .inr (.inr (.inr (.inr (.inr (.inr ?_)))))
          simpa [lvEnts] using h
      · rw [lvKvs_app]; exact hd8
      · intro q hq
        rcases List.mem_append.mp hq with hq | hq
        · exact hLv q hq
        · rw [List.mem_singleton.mp hq]; exact iu
      · rw [List.map_append, hl, List.take_succ_eq_append_getElem hin, List.map_append]
        rfl
      · intro q hq
        rcases List.mem_append.mp hq with hq | hq
        · exact hA q hq
        · rw [List.mem_singleton.mp hq]; exact ac
    · have ei : i = xs.length := by omega
      subst ei
      refine walk_done Wo (rest := (C, oC0) :: (D, oD) :: (B ++ lvEnts ls)) FC NC (fun p hp => ?_) (by rw [vl]; exact st) (NC _ (.tail _ (.tail _ (.tail _ (.head _))))).2.1 (NC _ (.tail _ (.tail _ (.tail _ (.head _))))).2.2 ?_
      · rcases List.mem_cons.mp hp with rfl | hp
        · exact ⟨.head _, Ci⟩
        rcases List.mem_cons.mp hp with rfl | hp
        · exact ⟨.tail _ (.tail _ (.head _)), Di⟩
        · exact ⟨.tail _ (.tail _ (.tail _ (.tail _ hp))), (off p hp).1⟩
      intro h4 tk4 F4 N4
      dsimp only [CompTurnD]
      exact fin D C h4 tk4 _ oC0 oD ls eC' hoC0 F4 N4 hd hLv (by rw [hl, List.take_length]) lt fun q hq => Nat.lt_trans cC (hA q hq)
end
end
section
section
variable {prog : Program} {w : World} {A : Around} {s : Shared} {env : Env}
theorem comp_prs {elt : PySem.Expr} {ifs : List PySem.Expr} {xa xb : Str} {pa pb pt : Pos} {x1} {scope : Scope} {cl : List (Str × Addr)} {Q : Value → Shared → Prop} {L it T : Addr} {g : Heap} {m : Str → Option Value} {oI oT : Obj} {news : List (Addr × Obj)} {qs : List Pr}
    (hh : A.handled = none) (F : Fr g L s.heap m) (N : News g L s.heap ((it, oI) :: news)) (lti' : ∀ p ∈ news, p.1 < it) (Wk : Walks prog w A it [it, T] [it] (prVals qs).length (fun i v => (prVals qs)[i]? = some v) (lSt it T (prVals qs))) (hO : ItO (lSt it T (prVals qs)) it T oI oT 0) (hT : (T, oT) ∈ news) (hps : ∀ p ∈ qs, (p.T, p.obj) ∈ news)
    (Inv : Nat → List Value → Prop) (h0 : Inv 0 [])
    (turn : ∀ i acc c D C oC h tk mC oI' (hi : i < qs.length), Inv i acc → LCg.NsObj oC mC → mC xb = some (.int qs[i].lo qs[i].t2) → (xa ≠ xb → mC xa = some (.int qs[i].hi qs[i].t1)) → Fr g L h m → News g L h ((C, oC) :: (D, W.listOf acc.toArray c) :: (it, oI') :: news) → (∀ p ∈ news, p.1 < D) → it < D → C = D + 1 →
      wpAny (model prog w) A (forIn ifs true fun c r => if r = true then do let ok ← isTrue c (compEnvC scope cl C env) (eval c (compEnvC scope cl C env)); pure (ForInStep.yield ok) else pure (ForInStep.yield r)) (fun ok s₃ =>
          if ok = true then wpAny (model prog w) A (eval elt (compEnvC scope cl C env)) (fun x s₄ => wpAny (model prog w) A (call (.builtin "list.append") [.ref D, x]) (fun _ s₅ => CompEnd s (fun g2 => g2 = g) C L it D m oI' news (Inv (i + 1)) s₅) (fun _ _ => False) s₄) (fun _ _ => False) s₃
          else CompEnd s (fun g2 => g2 = g) C L it D m oI' news (Inv (i + 1)) s₃) (fun _ _ => False) { s with heap := h, toks := tk })
    (done : ∀ acc c D h tk, Inv qs.length acc → Fr g L h m → News g L h ((D, W.listOf acc.toArray c) :: news) → (∀ p ∈ news, p.1 < D) → Q (.ref D) { s with heap := h, toks := tk })
    (hxa : scope.names.lookup xa = some .local := by rfl) (hxb : scope.names.lookup xb = some .local := by rfl) (hkind : scope.kind = .function := by rfl) :
    ∀ D C h₂ tk, D = s.heap.objs.size → C = D + 1 → (∀ b o, s.heap.get? b = some o → h₂.get? b = some o) → h₂.get? D = some (W.listOf #[] 0) → h₂.Ns C (fun _ => none) →
      ∃ (I : Nat → Shared → Prop) (n : Nat), I n { s with heap := h₂, toks := tk } ∧ (∀ (n : Nat) (s : Shared) (Q' : Value → Shared → Prop) (E' : Value → Shared → Prop), I n s → Q' (.ref it) s → wpAny (model prog w) A (pyIter (.ref it)) Q' E' s) ∧
          ∀ n s, I n s → wpAny (model prog w) A (pyNext (.ref it)) (CompTurnT prog w A (compEnvC scope cl C env) (.Tuple [.Name xa pa, .Name xb pb] x1 pt) elt (.ref it) ifs D C Q I n) (fun _ _ => False) s := by
  intro D C h₂ tk eD eC hk hDl hC
  have eD' : @Eq Nat D s.heap.objs.size := eD
  have eC' : @Eq Nat C (D + 1) := eC
  refine exE1 (LCg.ns_obj hC) fun oC0 h48_1 => ?_
  have eC0 := h48_1.1
  have hoC0 := h48_1.2
  have ltL : L < D := eD ▸ Fr.ltL F
  have gsz : g.objs.size ≤ D := Nat.le_of_lt (Nat.lt_of_le_of_lt F.above ltL)
  have lt : ∀ p ∈ news, p.1 < D := fun p hp => eD ▸ Heap.lt_size (N p (.tail _ hp)).1
  have lti : it < D := eD ▸ Heap.lt_size (N _ (.head _)).1
  have ndi : ∀ p ∈ news, p.1 ≠ it := fun p hp => Nat.ne_of_lt (lti' p hp)
  have nD : g.get? D = none := Heap.get?_none_of_le gsz
  have nC : g.get? C = none := Heap.get?_none_of_le (by rw [eC']; exact Nat.le_succ_of_le gsz)
  have CL : C ≠ L := Nat.ne_of_gt (by rw [eC']; exact Nat.lt_succ_of_lt ltL)
  have Ci : C ≠ it := Nat.ne_of_gt (by rw [eC']; exact Nat.lt_succ_of_lt lti)
  have pl : (prVals qs).length = qs.length := List.length_map ..
  refine ⟨fun k s' => ∃ i oI', i ≤ qs.length ∧ k = qs.length - i ∧ ItO (lSt it T (prVals qs)) it T oI' oT i ∧ CompEnd s (fun g2 => g2 = g) C L it D m oI' news (Inv i) s', qs.length, ⟨0, oI, Nat.zero_le _, rfl, hO, g, h₂, tk, fun _ => none, oC0, [], 0, rfl, rfl, hoC0, ⟨?_, fun b o e => hk b o (F.keep b o e), F.above⟩, ?_, h0⟩, ?_, ?_⟩
  · obtain ⟨oL, es, ep, e, r⟩ := F.ns
    exact ⟨oL, es, ep, hk _ _ e, r⟩
  · intro p hp
    rcases List.mem_cons.mp hp with rfl | hp
    · exact ⟨eC0, CL, nC⟩
    rcases List.mem_cons.mp hp with rfl | hp
    · exact ⟨hDl, Nat.ne_of_gt ltL, nD⟩
    · exact ⟨hk _ _ (N p hp).1, (N p hp).2.1, (N p hp).2.2⟩
  · rintro k s' Q' E' ⟨i, oI', hi, rfl, hO', g2, h, tk', mC, oL, acc, c, rfl, rfl, hoL, FC, NC, hI⟩ q
    exact Wk.self i _ _ _ (hO' h (NC _ (.tail _ (.tail _ (.head _)))).1 (NC _ (.tail _ (.tail _ (.tail _ hT)))).1) q
  · rintro k s' ⟨i, oI', hi, rfl, hO', g2, h, tk', mC, oC, acc, c, rfl, hg, hoC, FC, NC, hI⟩
    have hg := hg.symm
    subst hg
    have st := hO' h (NC _ (.tail _ (.tail _ (.head _)))).1 (NC _ (.tail _ (.tail _ (.tail _ hT)))).1
    have U : UpdF it oI' ((C, oC) :: (D, W.listOf acc.toArray c) :: (it, oI') :: news) (fun o' => (C, oC) :: (D, W.listOf acc.toArray c) :: (it, o') :: news) :=
      UpdF.tail Ci (UpdF.tail (fun z => absurd (show D = it from z) (Nat.ne_of_gt lti)) (UpdF.head ndi))
    by_cases hin : i < qs.length
    · refine walk_item Wk lSt.get FC NC U st (by rw [pl]; exact hin) ?_
      intro v h4 tk4 oI4 hv st4 F4 N4
      have hO4 := ItO.of Wk st4 (N4 _ (.tail _ (.tail _ (.head _)))).1 (N4 _ (.tail _ (.tail _ (.tail _ hT)))).1
      simp only [prVals, List.getElem?_map, List.getElem?_eq_getElem hin, Option.map_some, Option.some.injEq] at hv
      subst hv
      dsimp only [CompTurnT]
      refine letgo_list st4 ?_
      have eT := (N4 _ (.tail _ (.tail _ (.tail _ (hps _ (List.getElem_mem hin)))))).1
      refine assign_pair_own (a := .int qs[i].hi qs[i].t1) (b := .int qs[i].lo qs[i].t2) hh F4 N4 hoC (fun p hp => ?_) ⟨_, eT, rfl, _, rfl⟩ (fun h6 oC6 tk6 F6 N6 hoC6 => ?_) hxa hxb hkind
      · rcases List.mem_cons.mp hp with rfl | hp
        · exact Nat.ne_of_lt (by rw [eC']; exact Nat.lt_succ_self _)
        rcases List.mem_cons.mp hp with rfl | hp
        · exact Ci.symm
        · exact Nat.ne_of_lt (by rw [eC']; exact Nat.lt_succ_of_lt (lt p hp))
      have fin : ∀ s₅, CompEnd s (fun g2 => g2 = g) C L it D m oI4 news (Inv (i + 1)) s₅ → Again (fun k s' => ∃ i oI', i ≤ qs.length ∧ k = qs.length - i ∧ ItO (lSt it T (prVals qs)) it T oI' oT i ∧ CompEnd s (fun g2 => g2 = g) C L it D m oI' news (Inv i) s') (qs.length - i) s₅ :=
        fun s₅ h5 => ⟨qs.length - (i + 1), by omega, i + 1, oI4, hin, rfl, hO4, h5⟩
      refine wpAny_mono (turn i acc c D C oC6 h6 tk6 _ oI4 hin hI hoC6 (if_pos rfl) (fun z => (if_neg z).trans (if_pos rfl)) F6 N6 lt lti eC) (fun ok s₃ h3 => ?_) fun _ _ z => z
      split
      · rename_i hok
        rw [if_pos hok] at h3
        exact wpAny_mono h3 (fun x s₄ h4 => wpAny_mono h4 (fun _ s₅ h5 => fin s₅ h5) fun _ _ z => z) fun _ _ z => z
      · rename_i hok
        rw [if_neg hok] at h3
        exact fin _ h3
    · have ei : i = qs.length := by omega
      subst ei
      refine walk_done Wk (rest := (C, oC) :: (D, W.listOf acc.toArray c) :: news) FC NC (fun p hp => ?_) (by rw [pl]; exact st) (NC _ (.tail _ (.tail _ (.head _)))).2.1 (NC _ (.tail _ (.tail _ (.head _)))).2.2 ?_
      · rcases List.mem_cons.mp hp with rfl | hp
        · exact ⟨.head _, Ci⟩
        rcases List.mem_cons.mp hp with rfl | hp
        · exact ⟨.tail _ (.head _), fun z => absurd (show D = it from z) (Nat.ne_of_gt lti)⟩
        · exact ⟨.tail _ (.tail _ (.tail _ hp)), ndi p hp⟩
      intro h4 tk4 F4 N4
      dsimp only [CompTurnT]
      refine ⟨mC, hoC.ns (N4 _ (.head _)).1, fun h' hs => ?_⟩
      have F' : Fr g L h' m := ⟨F4.ns.sameBut hs CL.symm, fun b o e => (hs.2 b (fun z => by rw [z, nC] at e; cases e)).trans (F4.keep b o e), F4.above⟩
      refine done acc c D h' tk4 hI F' (fun p hp => ?_) lt
      have q := N4 p (.tail _ hp)
      refine ⟨(hs.2 _ (fun z => ?_)).trans q.1, q.2⟩
      rcases List.mem_cons.mp hp with rfl | hp
      · exact absurd (show (D : Nat) = C from z) (by rw [eC']; exact Nat.ne_of_lt (Nat.lt_succ_self _))
      · have := lt p hp
        rw [z, eC'] at this
        exact absurd this (Nat.not_lt.mpr (Nat.le_succ _))
end
end
section
theorem hid_mem (T k : Int) : k ∈ hidL T ↔ 0 ≤ k ∧ k < 5 := by
  obtain ⟨h1, h2, h3⟩ := hid_ok T
  refine ⟨h3 k, fun ⟨a, b⟩ => Classical.byContradiction fun z => ?_⟩
  have := nodup_len (k :: hidL T) [0, 1, 2, 3, 4] (List.nodup_cons.mpr ⟨z, h2⟩) (fun j hj => by
    have : 0 ≤ j ∧ j < 5 := by
      rcases List.mem_cons.mp hj with rfl | hj
      · exact ⟨a, b⟩
      · exact h3 j hj
    simp only [List.mem_cons, List.not_mem_nil, or_false]
    omega)
  simp only [List.length_cons, List.length_nil, h1] at this
  omega
theorem stp_pairs {V : List Int} (vn : V.Nodup) (v5 : V.length = 5) : Stp V (pairsF V 5) := by
  match V, v5 with
  | [a, b, c, d, e], _ =>
    have e1 : pairsF [a, b, c, d, e] 5 = [(a, b), (a, c), (b, c), (a, d), (b, d), (c, d), (a, e), (b, e), (c, e), (d, e)] := rfl
    rw [e1]
    simp only [List.nodup_cons, List.mem_cons, List.not_mem_nil, or_false, not_or, List.nodup_nil, and_true, not_false_eq_true] at vn
    obtain ⟨⟨ab, ac, ad, ae⟩, ⟨bc, bd, be⟩, ⟨cd, ce⟩, de⟩ := vn
    constructor
    · simp [List.nodup_cons, ab, ac, ad, ae, bc, bd, be, cd, ce, de, Ne.symm ab, Ne.symm ac, Ne.symm ad, Ne.symm ae, Ne.symm bc, Ne.symm bd, Ne.symm be, Ne.symm cd, Ne.symm ce, Ne.symm de]
    · intro p hp
      simp only [List.mem_cons, List.not_mem_nil, or_false] at hp
      rcases hp with rfl | rfl | rfl | rfl | rfl | rfl | rfl | rfl | rfl | rfl
      · exact ⟨0, 1, by decide, rfl, rfl⟩
      · exact ⟨0, 2, by decide, rfl, rfl⟩
      · exact ⟨1, 2, by decide, rfl, rfl⟩
      · exact ⟨0, 3, by decide, rfl, rfl⟩
      · exact ⟨1, 3, by decide, rfl, rfl⟩
      · exact ⟨2, 3, by decide, rfl, rfl⟩
      · exact ⟨0, 4, by decide, rfl, rfl⟩
      · exact ⟨1, 4, by decide, rfl, rfl⟩
      · exact ⟨2, 4, by decide, rfl, rfl⟩
      · exact ⟨3, 4, by decide, rfl, rfl⟩
theorem stp_qs {T : Int} {ps qs : List Pr} (hP : ps.map Pr.abs = pairsF (hidL T) 5) (hq : qs.Sublist ps) : Stp (hidL T) (qs.map Pr.abs) := by
  obtain ⟨h1, h2, _⟩ := hid_ok T
  refine (stp_pairs h2 h1).sub ?_
  rw [← hP]
  exact hq.map _
theorem pr_len {T : Int} {ps qs : List Pr} (hP : ps.map Pr.abs = pairsF (hidL T) 5) (hq : qs.Sublist ps) : qs.length ≤ 10 := by
  have h3 := hq.length_le
  have h4 : ps.length = 10 := by
    have := congrArg List.length hP
    rw [List.length_map] at this
    exact this
  omega
end
section
section
variable {A : Around} {s : Shared}
theorem keq_lists {lb : List Lv} (hu : A.in1.units + 64 < cLine) (hb : ∀ y ∈ lb, s.heap.get? y.a = some (W.listOf y.vs.toArray y.c)) (ib : LvOk lb) : ∀ {la : List Lv}, (∀ x ∈ la, s.heap.get? x.a = some (W.listOf x.vs.toArray x.c)) → LvOk la → (∀ x ∈ la, x.k ∈ lb.map (·.k) ∧ lookL (lb.map Lv.abs) x.k = x.xs) →
    KeqHits A.in1 s (lvKvs lb) (lvKvs la) true
  | [], _, _, _ => .nil
  | x :: r, ha, ia, hm => by
    obtain ⟨hk, hx⟩ := hm x (.head _)
    obtain ⟨y, hy, e1, e2, e3⟩ := lv_find hk
    have e := keq_ints (A := A) (s := s) (a := x.a) (b := y.a) (vs := x.vs) (us := y.vs) (ns := x.xs) (ms := y.xs) ⟨_, ha x (.head _), rfl, _, rfl⟩ (ia x (.head _)) ⟨_, hb y hy, rfl, _, rfl⟩ (ib y hy) hu
    have e4 : decide (x.xs = y.xs) = true := decide_eq_true (hx.symm.trans e3)
    rw [e4] at e
    have ih := keq_lists hu hb ib (la := r) (fun z hz => ha z (.tail _ hz)) (fun z hz => ia z (.tail _ hz)) (fun z hz => hm z (.tail _ hz))
    exact KeqHits.hit e2 e ih
end
end
section
section
variable {prog : Program} {w : World} {A : Around} {E : Value → Shared → Prop} {s : Shared}
theorem item_any {l : Addr} {vs : List Value} {c : Nat} {k : Int} {u : Tok} {v : Value} {value slice : PySem.Expr} {Q : Value → Shared → Prop} (e : s.heap.get? l = some (W.listOf vs.toArray c)) (h0 : 0 ≤ k) (hv : vs[k.toNat]? = some v) (hb : vs.length ≤ 1000000)
    (h : Q v s) (hs : subscripted slice false (.ref l) (.int k u) = operate [.ref l, .int k u] (getItem (.ref l) (.int k u)) := by with_unfolding_all rfl) :
    wpAny (model prog w) A (subscriptTail value slice (.ref l) (.int k u)) Q E s := by
  obtain ⟨hk, _⟩ := List.getElem?_eq_some_iff.mp hv
  have hT : s.heap.IsList l vs.toArray := ⟨_, e, rfl, _, rfl⟩
  have hx : vs.toArray[k.toNat]? = some v := by rw [List.getElem?_toArray]; exact hv
  exact tail_any hT.typeIs PySem.slot_list_getitem.lookup (wpAny_getItem_list hT h0 (by omega) hx h) hs
end
end
namespace LW
structure zWr (P : Prop) : Prop where
  h : P
section
local macro_rules | `(tactic| k_qdec) => `(tactic| decide +kernel)
noncomputable def qa : PSigma (fun P : Prop => zWr P → PySem.Challenge.rw_ik0181_01.Holds) := by
  refine' ⟨_, fun hP_ => ?_⟩
  rotate_left
  refine hd (by
  k_go0
  rename_i ya0 ya1 s₁ ya2 ya3 ya4 ya5 ya6 ya7 ya8 ya9 ya10 ya11 ya12 ya13 ya14 ya15 ya16 ya17 ya18 ya19 ya20 ya21 ya22 ya23 ya24 ya25 xs hs hlay0 hLy hr1 hl2 w11 w10 As vs0 w7 hLs ra w1x r0 hI0 hr0 hc1 hc2 K0 hD h1 tk1 F0_ cO cD cS cK w2 w1 w0 lO lD lS lK l3 l2 l1 N0_ X0
  revert ya4 ya5 ya10 ya11 ya12 ya13 ya14 ya15 ya16 ya17 ya18 ya19 ya22 ya25 hs hlay0 hLy hr1 hl2 hLs ra w1x r0 hI0 hr0 hc1 hc2 K0 hD F0_ lO lD lS lK l3 l2 l1 N0_ X0
  revert ya0 ya1 s₁ ya2 ya3 ya6 ya7 ya8 ya9 ya20 ya21 ya23 ya24 xs w11 w10 As vs0 w7 h1 tk1 cO cD cS cK w2 w1 w0
  exact hP_.h)
end
section
local macro_rules | `(tactic| walk_at $s) => zd [] [("exec Assign", zasc)] s
noncomputable def qa0 : PSigma (fun P : Prop => zWr P → qa.1) := by
  refine' ⟨_, fun hP_ => ?_⟩
  rotate_left
  walk_at "16"; (iterate 7 (generalize zf w_ = xs; generalize zs w_ = v_; clear w_; generalize zf v_ = xs; generalize zs v_ = w_; clear v_)); generalize zf w_ = w11, zs w_ = w10; clear w_; rename_i ya0 ya1 s₁ ya2 ya3 ya6 ya7 ya8 ya9 ya20 ya21 ya23 ya24
  walk_at "12"; (iterate 5 (generalize zf w_ = w2; generalize zs w_ = v_; clear w_; generalize zf v_ = w2; generalize zs v_ = w_; clear v_)); generalize zf w_ = w1, zs w_ = w0; clear w_; rename_i As vs0 w7 h1 tk1 cO cD cS cK
  intro ya4 ya5 ya10 ya11 ya12 ya13 ya14 ya15 ya16 ya17 ya18 ya19 ya22 ya25 hs hlay0 hLy hr1 hl2 hLs ra w1x r0 hI0 hr0 hc1 hc2 K0 hD F0_ lO lD lS lK l3 l2 l1 N0_ X0
  k_steps
  refine Blk.out ?_
  refine wpAny_noRaise ?_
  rename (Fr _ _ _ _) => F1
  rename (News _ _ _ _) => N1
  rename (IntsAre _ (List.map _ (rangeKs _ _))) => hHid
  rename (IntsAre _ (List.map _ (List.take 12 _))) => hCel
  rename_i Dsl wsl q1 q2 q3 q4 q5 q6 q7 q8 vC q9 Dc q10 q11 q12 q13 oc1 dc1 q14 q15 q16 tT q17 oc2 dc2 q18 q19 q20 q21 q22 q23 q24 q25 q26 q27 q28 q29 q30 Dh q31 q32 q33 hp oc3 dc3
  have hlC : (List.map (fun k' => Int.fmod k' (10 ^ Int.toNat 6)) (List.take 12 xs)).length ≤ 12 := by
    rw [List.length_map]; exact List.length_take_le _ _
  have lt1 := q5
  have ap1 := q12
  have ap2 := q33
  (try clear q33)
  (try clear q32)
  (try clear q31)
  (try clear q30)
  (try clear q29)
  (try clear q28)
  (try clear q27)
  (try clear q26)
  (try clear q25)
  (try clear q24)
  (try clear q23)
  (try clear q22)
  (try clear q21)
  (try clear q20)
  (try clear q19)
  (try clear q18)
  (try clear q17)
  (try clear q16)
  (try clear q15)
  (try clear q14)
  (try clear q13)
  (try clear q12)
  (try clear q11)
  (try clear q10)
  (try clear q9)
  (try clear q8)
  (try clear q7)
  (try clear q6)
  (try clear q5)
  (try clear q4)
  (try clear q3)
  (try clear q2)
  (try clear q1)
  (try clear w2); (try clear w1); (try clear w0); (try clear l3); (try clear l2); (try clear l1); (try clear X0)
  generalize hcs : List.map (fun k' => Int.fmod k' (10 ^ Int.toNat 6)) (List.take 12 xs) = cs at *
  generalize hto : 7 + cs.sum = tot at *
  (try clear dc2); (try clear hto); (try clear hcs); (try clear hD); (try clear hc1); (try clear hr0); (try clear hI0); (try clear r0); (try clear w1x); (try clear ra); (try clear hLs); (try clear hl2); (try clear hr1); (try clear hlay0); (try clear hs); (try clear ya25); (try clear ya22); (try clear ya19); (try clear ya18); (try clear ya17); (try clear ya15); (try clear ya14); (try clear ya13); (try clear ya10); (try clear ya5); (try clear ya4)
  revert ya11 ya12 ya16 hLy hc2 K0 lO lD lS lK dc1 F1 N1 dc3 lt1 ap1 ap2 hCel hlC hHid
  revert ya0 ya1 s₁ ya2 ya3 ya6 ya7 ya8 ya9 ya20 ya21 ya23 ya24 xs As cO cD cS cK Dsl wsl vC Dc oc1 oc2 ys Dh hp oc3 tk cs tot
  exact hP_.h
end
section
local macro_rules | `(tactic| walk_at $s) => zd ["compareOp Eq ref ref", "compareOp NotEq ref ref", "exec Assign cons ListComp", "eval ListComp", "call type:enumerate"] [] s
local macro_rules | `(tactic| k_mem) => `(tactic| assumption)
local macro_rules | `(tactic| walk_at $s) => zd ["subscriptTail Name Slice ref ref", "exec Assign cons DictComp", "eval DictComp", "compareOp In int ref", "exec For Name Call cons nil", "exec For Name Call cons cons", "binaryOp Add ref ref"] [] s
section
noncomputable def qb : PSigma (fun P : Prop => zWr P → qa0.1) := by
  refine' ⟨_, fun hP_ => ?_⟩
  rotate_left
  walk_at "32"; (iterate 15 (generalize zf w_ = tk; generalize zs w_ = v_; clear w_; generalize zf v_ = tk; generalize zs v_ = w_; clear v_)); generalize zf w_ = cs, zs w_ = tot; clear w_; rename_i ya0 ya1 s₁ ya2 ya3 ya6 ya7 ya8 ya9 ya20 ya21 ya23 ya24 xs As cO cD cS cK Dsl wsl vC Dc oc1 oc2 ys Dh hp oc3
  intro ya11 ya12 ya16 hLy hc2 K0 lO lD lS lK dc1 F1 N1 dc3 lt1 ap1 ap2 hCel hlC hHid
  walk_at "exec Assign"
  k_steps
  revert ya11 ya12 ya16 hLy hc2 K0 lO lD lS lK dc1 F1 N1 dc3 lt1 ap1 ap2 hCel hlC hHid
  revert ya0 ya1 s₁ ya2 ya3 ya6 ya7 ya8 ya9 ya20 ya21 ya23 ya24 xs As cO cD cS cK Dsl wsl vC Dc oc1 oc2 ys Dh hp oc3 tk cs tot
  exact hP_.h
end
section
noncomputable def qc : PSigma (fun P : Prop => zWr P → qb.1) := by
  refine' ⟨_, fun hP_ => ?_⟩
  rotate_left
  walk_at "32"; (iterate 15 (generalize zf w_ = tk; generalize zs w_ = v_; clear w_; generalize zf v_ = tk; generalize zs v_ = w_; clear v_)); generalize zf w_ = cs, zs w_ = tot; clear w_; rename_i ya0 ya1 s₁ ya2 ya3 ya6 ya7 ya8 ya9 ya20 ya21 ya23 ya24 xs As cO cD cS cK Dsl wsl vC Dc oc1 oc2 ys Dh hp oc3
  intro ya11 ya12 ya16 hLy hc2 K0 lO lD lS lK dc1 F1 N1 dc3 lt1 ap1 ap2 hCel hlC hHid
  refine Blk.out ?_
  refine' comp_rawT ?hclos ?hcell rfl ?hnames ?_
  (case hclos => with_unfolding_all rfl)
  (case hcell => decide)
  (case hnames => decide)
  k_steps
  refine Blk.out ?_
  rename Fr _ _ _ _ => F2
  rename News _ _ _ _ => N2
  refine it_enum F2 N2 ⟨_, (N2 _ (.tail _ (.head _))).1, rfl, _, rfl⟩ ?_
  intro e it oI h2 F3 N3 hLi ltn hie hli
  (try clear N2); (try clear F2)
  dsimp only
  k_steps
  revert ya11 ya12 ya16 hLy hc2 K0 lO lD lS lK dc1 dc3 lt1 ap1 ap2 hCel hlC hHid F3 N3 hLi ltn hie hli
  revert ya0 ya1 s₁ ya2 ya3 ya6 ya7 ya8 ya9 ya23 xs As cO cD cS cK Dsl wsl vC Dc oc1 oc2 ys Dh oc3 tk cs tot e it oI h2
  exact hP_.h
end
section
noncomputable def qd : PSigma (fun P : Prop => zWr P → qc.1) := by
  refine' ⟨_, fun hP_ => ?_⟩
  rotate_left
  walk_at "32"; (iterate 15 (generalize zf w_ = it; generalize zs w_ = v_; clear w_; generalize zf v_ = it; generalize zs v_ = w_; clear v_)); generalize zf w_ = oI, zs w_ = h2; clear w_; rename_i ya0 ya1 s₁ ya2 ya3 ya6 ya7 ya8 ya9 ya23 xs As cO cD cS cK Dsl wsl vC Dc oc1 oc2 ys Dh oc3 tk cs tot e
  intro ya11 ya12 ya16 hLy hc2 K0 lO lD lS lK dc1 dc3 lt1 ap1 ap2 hCel hlC hHid F3 N3 hLi ltn hie hli
  refine Blk.out ?_
  refine wpAny_pyIter_enum (N3 _ (.head _)).1 ?_
  refine comp_enum (by exact rfl) F3 N3 ltn hie hli hLi (fun h _ N => ⟨_, (N _ (.tail _ (.head _))).1, rfl, _, rfl⟩) (fun i acc => ∃ ns, IntsAre acc ns ∧ ns.length = i) ⟨[], .nil, rfl⟩ ?_ ?_
  · intro i t x acc cc D C oC h tk2 mC old' oI' hin hv hIv hoC hxb hxa FC NC ltD lte ltit eC
    obtain ⟨ns, hns, hlen⟩ := hIv
    replace hxa := hxa (by decide)
    have hin3 : i < cs.length := by rw [← hCel.length]; exact hin
    obtain ⟨t2, ht2⟩ := ints_at hCel i hin3
    rw [List.getElem?_toArray, hv] at ht2
    obtain rfl := Option.some.inj ht2
    generalize hel : cs[i] = el at *
    refine ifs_nil ?_
    rw [if_pos rfl]
    have d0 : D ≠ C := Nat.ne_of_lt (Nat.lt_of_lt_of_eq (Nat.lt_succ_self _) eC.symm)
    have dE : D ≠ e := Nat.ne_of_gt lte
    have dI : D ≠ it := Nat.ne_of_gt ltit
    have w0 := Nat.ne_of_gt (ltD _ (.head _))
    dsimp only at w0
    have w1 := Nat.ne_of_gt (ltD _ (.tail _ (.head _)))
    dsimp only at w1
    have w2 := Nat.ne_of_gt (ltD _ (.tail _ (.tail _ (.head _))))
    dsimp only at w2
    have w3 := Nat.ne_of_gt (ltD _ (.tail _ (.tail _ (.tail _ (.head _)))))
    dsimp only at w3
    have w4 := Nat.ne_of_gt (ltD _ (.tail _ (.tail _ (.tail _ (.tail _ (.head _))))))
    dsimp only at w4
    have w5 := Nat.ne_of_gt (ltD _ (.tail _ (.tail _ (.tail _ (.tail _ (.tail _ (.head _)))))))
    dsimp only at w5
    have w6 := Nat.ne_of_gt (ltD _ (.tail _ (.tail _ (.tail _ (.tail _ (.tail _ (.tail _ (.head _))))))))
    dsimp only at w6
    have w7 := Nat.ne_of_gt (ltD _ (.tail _ (.tail _ (.tail _ (.tail _ (.tail _ (.tail _ (.tail _ (.head _)))))))))
    dsimp only at w7
    have w8 := Nat.ne_of_gt (ltD _ (.tail _ (.tail _ (.tail _ (.tail _ (.tail _ (.tail _ (.tail _ (.tail _ (.head _))))))))))
    dsimp only at w8
    have w9 := Nat.ne_of_gt (ltD _ (.tail _ (.tail _ (.tail _ (.tail _ (.tail _ (.tail _ (.tail _ (.tail _ (.tail _ (.head _)))))))))))
    dsimp only at w9
    have lacc : acc.length ≤ 100 := by
      rw [hns.length, hlen]; omega
    (try clear N3); (try clear F3)
    k_steps
    rename Fr _ _ _ _ => F8
    rename News _ _ _ _ => N8
    simp only [List.push_toArray] at N8
    refine ⟨_, _, _, mC, oC, acc ++ [Value.int _ _], _, rfl, rfl, hoC, F8, N8, ⟨ns ++ [_], IntsAre.append hns (.cons _ _ .nil), by rw [List.length_append, hlen]; rfl⟩⟩
  · intro acc cc D h tk2 hIv FC NC ltD
    (try clear N3); (try clear F3)
    dsimp only
    (try clear hli); (try clear hie); (try clear ltn); (try clear hLi)
    revert ya11 ya12 ya16 hLy hc2 K0 lO lD lS lK dc1 dc3 lt1 ap1 ap2 hCel hlC hHid hIv FC NC ltD
    revert ya0 ya1 s₁ ya2 ya3 ya6 ya8 ya9 ya23 xs As cO cD cS cK Dsl wsl vC Dc oc1 oc2 ys Dh oc3 tk cs tot acc cc D h tk2
    exact hP_.h
end
section
noncomputable def qe : PSigma (fun P : Prop => zWr P → qd.1) := by
  refine' ⟨_, fun hP_ => ?_⟩
  rotate_left
  walk_at "32"; (iterate 15 (generalize zf w_ = D; generalize zs w_ = v_; clear w_; generalize zf v_ = D; generalize zs v_ = w_; clear v_)); generalize zf w_ = h, zs w_ = tk2; clear w_; rename_i ya0 ya1 s₁ ya2 ya3 ya6 ya8 ya9 ya23 xs As cO cD cS cK Dsl wsl vC Dc oc1 oc2 ys Dh oc3 tk cs tot acc cc
  intro ya11 ya12 ya16 hLy hc2 K0 lO lD lS lK dc1 dc3 lt1 ap1 ap2 hCel hlC hHid hIv FC NC ltD
  obtain ⟨ns, hns, hlen⟩ := hIv
  have hns' := hns.length
  have w0 := Nat.lt_of_lt_of_le (ltD _ (.head _)) (Nat.le_refl _)
  dsimp only at w0
  have w1 := Nat.lt_of_lt_of_le (ltD _ (.tail _ (.head _))) (Nat.le_refl _)
  dsimp only at w1
  have w2 := Nat.lt_of_lt_of_le (ltD _ (.tail _ (.tail _ (.head _)))) (Nat.le_refl _)
  dsimp only at w2
  have w3 := Nat.lt_of_lt_of_le (ltD _ (.tail _ (.tail _ (.tail _ (.head _))))) (Nat.le_refl _)
  dsimp only at w3
  have w4 := Nat.lt_of_lt_of_le (ltD _ (.tail _ (.tail _ (.tail _ (.tail _ (.head _)))))) (Nat.le_refl _)
  dsimp only at w4
  have w5 := Nat.lt_of_lt_of_le (ltD _ (.tail _ (.tail _ (.tail _ (.tail _ (.tail _ (.head _))))))) (Nat.le_refl _)
  dsimp only at w5
  have w6 := Nat.lt_of_lt_of_le (ltD _ (.tail _ (.tail _ (.tail _ (.tail _ (.tail _ (.tail _ (.head _)))))))) (Nat.le_refl _)
  dsimp only at w6
  have w7 := Nat.lt_of_lt_of_le (ltD _ (.tail _ (.tail _ (.tail _ (.tail _ (.tail _ (.tail _ (.tail _ (.head _))))))))) (Nat.le_refl _)
  dsimp only at w7
  have w8 := Nat.lt_of_lt_of_le (ltD _ (.tail _ (.tail _ (.tail _ (.tail _ (.tail _ (.tail _ (.tail _ (.tail _ (.head _)))))))))) (Nat.le_refl _)
  dsimp only at w8
  have w9 := Nat.lt_of_lt_of_le (ltD _ (.tail _ (.tail _ (.tail _ (.tail _ (.tail _ (.tail _ (.tail _ (.tail _ (.tail _ (.head _))))))))))) (Nat.le_refl _)
  dsimp only at w9
  obtain ⟨ka0, ka1, ka2, ka3, ka4, ka5, ka6, ka7⟩ := ap1
  replace ka0 : @Ne Nat _ _ := ka0
  replace ka1 : @Ne Nat _ _ := ka1
  replace ka2 : @Ne Nat _ _ := ka2
  replace ka3 : @Ne Nat _ _ := ka3
  replace ka4 : @Ne Nat _ _ := ka4
  replace ka5 : @Ne Nat _ _ := ka5
  replace ka6 : @Ne Nat _ _ := ka6
  replace ka7 : @Ne Nat _ _ := ka7
  obtain ⟨kb0, kb1, kb2, kb3, kb4, kb5, kb6, kb7, kb8⟩ := ap2
  replace kb0 : @Ne Nat _ _ := kb0
  replace kb1 : @Ne Nat _ _ := kb1
  replace kb2 : @Ne Nat _ _ := kb2
  replace kb3 : @Ne Nat _ _ := kb3
  replace kb4 : @Ne Nat _ _ := kb4
  replace kb5 : @Ne Nat _ _ := kb5
  replace kb6 : @Ne Nat _ _ := kb6
  replace kb7 : @Ne Nat _ _ := kb7
  replace kb8 : @Ne Nat _ _ := kb8
  obtain ⟨kc0, kc1, kc2, kc3, kc4, kc5, kc6⟩ := lt1
  replace kc0 : @LT.lt Nat _ _ _ := kc0
  replace kc1 : @LT.lt Nat _ _ _ := kc1
  replace kc2 : @LT.lt Nat _ _ _ := kc2
  replace kc3 : @LT.lt Nat _ _ _ := kc3
  replace kc4 : @LT.lt Nat _ _ _ := kc4
  replace kc5 : @LT.lt Nat _ _ _ := kc5
  replace kc6 : @LT.lt Nat _ _ _ := kc6
  k_steps
  rename_i ye0 ye1 ye2 ye3 ye4 ye5 ye6 ye7 ye8
  (try clear kc6); (try clear kc5); (try clear kc4); (try clear kc3); (try clear kc2); (try clear kc1); (try clear kc0); (try clear kb8); (try clear kb7); (try clear kb6); (try clear kb5); (try clear kb1); (try clear kb0); (try clear ka7); (try clear ka6); (try clear ka5); (try clear ka4); (try clear ka0); (try clear w9); (try clear w8); (try clear w7); (try clear w6); (try clear w5); (try clear w4); (try clear w3); (try clear w2); (try clear w1); (try clear w0); (try clear hns'); (try clear hlen); (try clear hns); (try clear ltD); (try clear lK); (try clear hc2)
  have pd0e : Nat := 0
  revert ya11 ya12 ya16 hLy K0 lO lD lS dc1 dc3 hCel hlC hHid ka1 ka2 ka3 kb2 kb3 kb4 ye6 ye7 ye8
  revert ya0 ya1 s₁ ya2 ya3 ya6 ya8 ya9 ya23 xs As cO cD cS cK Dsl wsl vC Dc oc1 oc2 ys Dh oc3 ye0 cs tot acc cc D h tk2 ns ye1 ye2 ye3 ye4 ye5 tk pd0e
  exact hP_.h
end
section
noncomputable def qf : PSigma (fun P : Prop => zWr P → qe.1) := by
  refine' ⟨_, fun hP_ => ?_⟩
  rotate_left
  walk_at "40"; (iterate 19 (generalize zf w_ = ye5; generalize zs w_ = v_; clear w_; generalize zf v_ = ye5; generalize zs v_ = w_; clear v_)); generalize zf w_ = tk, zs w_ = pd0e; clear w_; rename_i ya0 ya1 s₁ ya2 ya3 ya6 ya8 ya9 ya23 xs As cO cD cS cK Dsl wsl vC Dc oc1 oc2 ys Dh oc3 ye0 cs tot acc cc D h tk2 ns ye1 ye2 ye3 ye4
  intro ya11 ya12 ya16 hLy K0 lO lD lS dc1 dc3 hCel hlC hHid ka1 ka2 ka3 kb2 kb3 kb4 ye6 ye7 ye8
  refine Blk.out ?_
  rename (Fr _ _ _ _) => F1
  rename (News _ _ _ _) => N1
  rename (_ = Data.cell (some (Value.int (278 + _) _))) => dK
  rename Obj => oK
  have N2 := News.sub N1 (led' := (Dh, LCg.lst ys) :: (Dc, LCg.lst vC) :: _) (fun p hp => .tail _ (by
    rcases List.mem_cons.mp hp with rfl | hp
    · exact .head _
    rcases List.mem_cons.mp hp with rfl | hp
    · exact .tail _ (.head _)
    · exact .tail _ (.tail _ (.tail _ hp))))
  (try clear hns'); (try clear hlen); (try clear kc6); (try clear kc5); (try clear kc4); (try clear kc3); (try clear kc2); (try clear kc1); (try clear kc0); (try clear kb1); (try clear ka0); (try clear w9); (try clear w8); (try clear w7); (try clear w6); (try clear w5); (try clear w4); (try clear w3); (try clear w2); (try clear w1); (try clear w0); (try clear ltD); (try clear hli); (try clear hie); (try clear ltn); (try clear hLi); (try clear N1)
  refine wpAny_noRaise ?_
  refine' comp_use2 ?hsw ?hclos ?hcell rfl ?hnames ?hy ?hp ?_
  (case hsw => with_unfolding_all rfl)
  (case hclos => with_unfolding_all rfl)
  (case hcell => decide)
  (case hnames => decide)
  (case hy => with_unfolding_all rfl)
  (case hp => with_unfolding_all rfl)
  k_steps
  rename_i yf0 yf1 yf2 yf3 yf4 yf5 yf6 yf7 yf8 yf9 yf10
  (try clear yf10); (try clear yf1); (try clear yf0)
  revert ya11 ya12 ya16 hLy K0 lO lD lS dc1 dc3 hCel hlC hHid ka1 ka2 ka3 kb2 kb3 kb4 dK yf7 yf8 yf9
  revert ya0 ya1 s₁ ya2 ya3 ya6 ya8 ya9 ya23 xs As cO cD cS cK Dsl wsl vC Dc oc1 oc2 ys Dh oc3 ye0 cs tot acc cc ns ye1 ye2 ye4 oK tk yf2 yf3 yf4 yf5 yf6
  exact hP_.h
end
section
local macro_rules | `(tactic| walk_at $s) => zd [] [("subscriptTail", zsubb)] s
noncomputable def qg : PSigma (fun P : Prop => zWr P → qf.1) := by
  refine' ⟨_, fun hP_ => ?_⟩
  rotate_left
  walk_at "40"; (iterate 19 (generalize zf w_ = yf4; generalize zs w_ = v_; clear w_; generalize zf v_ = yf4; generalize zs v_ = w_; clear v_)); generalize zf w_ = yf5, zs w_ = yf6; clear w_; rename_i ya0 ya1 s₁ ya2 ya3 ya6 ya8 ya9 ya23 xs As cO cD cS cK Dsl wsl vC Dc oc1 oc2 ys Dh oc3 ye0 cs tot acc cc ns ye1 ye2 ye4 oK tk yf2 yf3
  intro ya11 ya12 ya16 hLy K0 lO lD lS dc1 dc3 hCel hlC hHid ka1 ka2 ka3 kb2 kb3 kb4 dK yf7 yf8 yf9
  refine Blk.out ?_
  rename IsRange _ _ _ _ _ _ _ _ => hr
  rename Fr _ _ _ _ => F5
  rename News _ _ _ _ => N5
  refine it_rangeP F5 N5 hr (by decide) (by decide) ?_
  intro I hI F6 N6 lt6
  refine ⟨Fr.ltL F6, ?_⟩
  have mH := News.b6 N6
  have mDh := News.b0 N6
  refine pairs_leaf (hid := hidL tot) rfl rfl (by decide) (Nat.le_refl _) F6 N6 lt6 ?_ ?_ ?_
  · intro i t C oC mC h tk led K hin hoC hx F N hK
    (try clear hr); (try clear lt6); (try clear N6); (try clear F6); (try clear N5); (try clear F5)
    k_steps
    exact hK _ _ _ _ _ _ (by assumption) (by assumption) (by assumption)
  · intro i j ti tj C oC mC h tk led K hin hji hoC hxi hxj F N hsub hK
    have mH := hsub _ mH
    have mDh := hsub _ mDh
    (try clear hr); (try clear lt6); (try clear N6); (try clear F6); (try clear N5); (try clear F5)
    k_steps
    refine Blk.out ?_
    have iH : IntsAre ys (hidL tot) := hHid
    have l5 : (hidL tot).length = 5 := (hid_ok tot).1
    refine item_ints (News.get N (.tail _ mDh)) iH (by omega) (by omega) (by omega) ?_
    intro t5
    rw [Int.toNat_natCast]
    k_steps
    refine Blk.out ?_
    refine item_ints (News.get (by assumption) (.tail _ mDh)) iH (by omega) (by omega) (by omega) ?_
    intro t6
    rw [Int.toNat_natCast]
    k_steps
    rename_i D' h' F' N' l1
    exact hK D' _ t5 t6 _ _ F' N' (AllLt.lts (l := (C, oC) :: led) l1)
  · intro D c h tk ps F N ltD ltT hP
    (try clear hr); (try clear lt6); (try clear N6); (try clear F6); (try clear N5); (try clear F5)
    rename_i yg0
    (try clear mDh); (try clear mH)
    revert ya11 ya12 ya16 hLy K0 lO lD lS dc1 dc3 hCel hlC hHid ka1 ka2 ka3 kb2 kb3 kb4 dK F N ltD ltT hP
    revert ya0 ya1 s₁ ya2 ya3 ya6 ya8 ya9 ya23 xs As cO cD cS cK Dsl wsl vC Dc oc1 oc2 ys Dh oc3 cs tot ns ye1 ye2 ye4 oK yg0 yf2 yf3 hI D c h tk ps
    exact hP_.h
end
section
noncomputable def qh : PSigma (fun P : Prop => zWr P → qg.1) := by
  refine' ⟨_, fun hP_ => ?_⟩
  rotate_left
  walk_at "40"; (iterate 19 (generalize zf w_ = h; generalize zs w_ = v_; clear w_; generalize zf v_ = h; generalize zs v_ = w_; clear v_)); generalize zf w_ = tk, zs w_ = ps; clear w_; rename_i ya0 ya1 s₁ ya2 ya3 ya6 ya8 ya9 ya23 xs As cO cD cS cK Dsl wsl vC Dc oc1 oc2 ys Dh oc3 cs tot ns ye1 ye2 ye4 oK yg0 yf2 yf3 hI D c
  intro ya11 ya12 ya16 hLy K0 lO lD lS dc1 dc3 hCel hlC hHid ka1 ka2 ka3 kb2 kb3 kb4 dK F N ltD ltT hP
  refine ⟨D, _, _, _, _, rfl, F, N, ?_, ?_⟩
  · intro p hp
    rcases List.mem_append.mp hp with hp | hp
    · exact Nat.ne_of_lt (Nat.lt_succ_of_lt (ltD p hp))
    · obtain ⟨q, hq, rfl⟩ := prEnts_mem hp
      exact Nat.ne_of_gt (ltT q hq)
  intro h3 tk3 F3 N3
  replace F3 : Fr s₁.heap s₁.heap.objs.size _ _ := F3
  replace N3 : News s₁.heap s₁.heap.objs.size _ _ := N3
  dsimp only
  have ltD' := ltD
  obtain ⟨B, eB⟩ : ∃ B, B = (Dh, LCg.lst ys) :: (Dc, LCg.lst vC) :: (s₁.heap.objs.size + 1 + 1 + 1 + 1, oK) :: (s₁.heap.objs.size + 1 + 1 + 1, oc3) :: (s₁.heap.objs.size + 1, oc1) :: (D, W.listOf (prVals ps).toArray c) :: prEnts ps := ⟨_, rfl⟩
  have N4 := News.sub N3 (led' := (s₁.heap.objs.size + 1 + 1 + 1 + 1 + 1 + 1 + 1, cO) :: (s₁.heap.objs.size + 1 + 1 + 1 + 1 + 1 + 1, cD) :: (s₁.heap.objs.size + 1 + 1 + 1 + 1 + 1, cS) :: B) (fun p hp => by
    rw [eB] at hp
    simp only [List.mem_cons, List.mem_append, List.not_mem_nil, or_false] at hp ⊢
    rcases hp with h | h | h | h | h | h | h | h | h | h <;> first | ((repeat' first | exact h | exact Or.inl h | apply Or.inr); done) | simp [h])
  have apB : ∀ p ∈ B, p.1 ≠ (s₁.heap.objs.size + 1 + 1 + 1 + 1 + 1 + 1 + 1 : Nat) ∧ p.1 ≠ (s₁.heap.objs.size + 1 + 1 + 1 + 1 + 1 + 1 : Nat) ∧ p.1 ≠ (s₁.heap.objs.size + 1 + 1 + 1 + 1 + 1 : Nat) := by
    have w7 := Nat.lt_of_lt_of_le (ltD _ (.tail _ (.tail _ (.head _)))) (Nat.le_refl _)
    dsimp only at w7
    intro p hp
    rw [eB] at hp
    simp only [List.mem_cons] at hp
    rcases hp with rfl | rfl | rfl | rfl | rfl | rfl | hp
    · exact ⟨kb2.symm, kb3.symm, kb4.symm⟩
    · exact ⟨ka1.symm, ka2.symm, ka3.symm⟩
    · refine ⟨Nat.ne_of_lt ?_, Nat.ne_of_lt ?_, Nat.ne_of_lt ?_⟩ <;> (dsimp only; omega)
    · refine ⟨Nat.ne_of_lt ?_, Nat.ne_of_lt ?_, Nat.ne_of_lt ?_⟩ <;> (dsimp only; omega)
    · refine ⟨Nat.ne_of_lt ?_, Nat.ne_of_lt ?_, Nat.ne_of_lt ?_⟩ <;> (dsimp only; omega)
    · refine ⟨Nat.ne_of_gt ?_, Nat.ne_of_gt ?_, Nat.ne_of_gt ?_⟩ <;> (dsimp only; omega)
    · obtain ⟨q, hq, rfl⟩ := prEnts_mem hp
      have := Nat.lt_of_lt_of_le (ltT q hq) (Nat.le_refl _)
      refine ⟨Nat.ne_of_gt ?_, Nat.ne_of_gt ?_, Nat.ne_of_gt ?_⟩ <;> (dsimp only; omega)
  have mDh : (Dh, LCg.lst ys) ∈ B := by rw [eB]; exact .head _
  have mDc : (Dc, LCg.lst vC) ∈ B := by rw [eB]; exact .tail _ (.head _)
  have mK : (s₁.heap.objs.size + 1 + 1 + 1 + 1, oK) ∈ B := by rw [eB]; exact .tail _ (.tail _ (.head _))
  have mH : (s₁.heap.objs.size + 1 + 1 + 1, oc3) ∈ B := by rw [eB]; exact .tail _ (.tail _ (.tail _ (.head _)))
  have mC1 : (s₁.heap.objs.size + 1, oc1) ∈ B := by rw [eB]; exact .tail _ (.tail _ (.tail _ (.tail _ (.head _))))
  have mP : (D, W.listOf (prVals ps).toArray c) ∈ B := by rw [eB]; exact .tail _ (.tail _ (.tail _ (.tail _ (.tail _ (.head _)))))
  have mT : ∀ p ∈ ps, (p.T, p.obj) ∈ B := fun p hp => by rw [eB]; exact .tail _ (.tail _ (.tail _ (.tail _ (.tail _ (.tail _ (List.mem_map_of_mem (f := fun p : Pr => (p.T, p.obj)) hp))))))
  have nO : (s₁.heap.objs.size + 1 + 1 + 1 + 1 + 1 + 1 + 1 : Nat) ∉ B.map (·.1) := fun z => by
    obtain ⟨p, hp, e⟩ := List.mem_map.mp z
    exact (apB p hp).1 e
  have nD : (s₁.heap.objs.size + 1 + 1 + 1 + 1 + 1 + 1 : Nat) ∉ B.map (·.1) := fun z => by
    obtain ⟨p, hp, e⟩ := List.mem_map.mp z
    exact (apB p hp).2.1 e
  have nS : (s₁.heap.objs.size + 1 + 1 + 1 + 1 + 1 : Nat) ∉ B.map (·.1) := fun z => by
    obtain ⟨p, hp, e⟩ := List.mem_map.mp z
    exact (apB p hp).2.2 e
  (try clear cc); (try clear kb8); (try clear kb7); (try clear kb6); (try clear kb5); (try clear kb4); (try clear kb3); (try clear kb2); (try clear kb0); (try clear ka7); (try clear ka6); (try clear ka5); (try clear ka4); (try clear ka3); (try clear ka2); (try clear ka1); (try clear ltT); (try clear ltD'); (try clear ltD); (try clear F); (try clear N); (try clear N3); (try clear apB); (try clear eB)
  k_steps
  revert ya11 ya12 ya16 hLy K0 lO lD lS dc1 dc3 hCel hlC hHid dK hP F3 N4 mDh mDc mK mH mC1 mP mT nO nD nS
  revert ya0 ya1 s₁ ya2 ya3 ya6 ya8 ya9 ya23 xs As cO cD cS vC Dc oc1 ys Dh oc3 cs tot ns ye1 ye2 oK D c ps h3 tk3 B
  exact hP_.h
end
section
noncomputable def qi : PSigma (fun P : Prop => zWr P → qh.1) := by
  refine' ⟨_, fun hP_ => ?_⟩
  rotate_left
  walk_at "32"; (iterate 15 (generalize zf w_ = h3; generalize zs w_ = v_; clear w_; generalize zf v_ = h3; generalize zs v_ = w_; clear v_)); generalize zf w_ = tk3, zs w_ = B; clear w_; rename_i ya0 ya1 s₁ ya2 ya3 ya6 ya8 ya9 ya23 xs As cO cD cS vC Dc oc1 ys Dh oc3 cs tot ns ye1 ye2 oK D c ps
  intro ya11 ya12 ya16 hLy K0 lO lD lS dc1 dc3 hCel hlC hHid dK hP F3 N4 mDh mDc mK mH mC1 mP mT nO nD nS
  refine Blk.out ?_
  refine wpAny_noRaise ?_
  walk_at "exec Assign"
  refine' comp_rawT ?hclos ?hcell rfl ?hnames ?_
  (case hclos => with_unfolding_all rfl)
  (case hcell => decide)
  (case hnames => decide)
  k_steps
  refine Blk.out ?_
  rename Fr _ _ _ _ => F4
  rename News _ _ _ _ => N4
  have mP' := (List.Mem.tail (s₁.heap.objs.size + 1 + 1 + 1 + 1 + 1 + 1 + 1, cO) (List.Mem.tail (s₁.heap.objs.size + 1 + 1 + 1 + 1 + 1 + 1, cD) (List.Mem.tail (s₁.heap.objs.size + 1 + 1 + 1 + 1 + 1, cS) mP)))
  refine it_enum F4 N4 ⟨_, (N4 _ mP').1, rfl, _, rfl⟩ ?_
  intro e it oI h2 F5 N5 hLi ltn hie hli
  (try clear N4); (try clear F4)
  dsimp only
  k_steps
  refine Blk.out ?_
  refine wpAny_pyIter_enum (N5 _ (.head _)).1 ?_
  refine comp_enum (by exact rfl) F5 N5 ltn hie hli hLi (fun h _ N => ⟨_, (N _ mP').1, rfl, _, rfl⟩) (fun i acc => ∃ qs, List.Sublist qs (ps.take i) ∧ acc = prVals qs) ⟨[], .slnil, rfl⟩ ?_ ?_
  · intro i t x acc cc D' C oC h tk2 mC old' oI' hin hv hIv hoC hxb hxa FC NC ltD lte ltit eC
    obtain ⟨qs, hq, rfl⟩ := hIv
    replace hxa := hxa (by decide)
    have hin3 : i < ps.length := by simpa [prVals] using hin
    have hx : x = .ref (ps[i]).T := by
      simp only [prVals, List.getElem?_map, List.getElem?_eq_getElem hin3, Option.map_some, Option.some.injEq] at hv
      exact hv.symm
    subst hx
    generalize hT : (ps[i]).T = T at *
    have lps : ps.length = 10 := by
      have := congrArg List.length hP
      rw [List.length_map] at this
      exact this
    refine ifs_one ?_
    have d0 : D' ≠ C := Nat.ne_of_lt (Nat.lt_of_lt_of_eq (Nat.lt_succ_self _) eC.symm)
    have dE : D' ≠ e := Nat.ne_of_gt lte
    have dI : D' ≠ it := Nat.ne_of_gt ltit
    have w7 := Nat.ne_of_gt (ltD _ (.head _))
    have w6 := Nat.ne_of_gt (ltD _ (.tail _ (.head _)))
    have w5 := Nat.ne_of_gt (ltD _ (.tail _ (.tail _ (.head _))))
    dsimp only at w7 w6 w5
    have wB : (D' : Nat) ∉ B.map (·.1) := fun z => by
      obtain ⟨p, hp, q⟩ := List.mem_map.mp z
      exact Nat.ne_of_lt (ltD p (.tail _ (.tail _ (.tail _ hp)))) q
    have lacc : (prVals qs).length ≤ 100 := by
      have := hq.length_le
      rw [List.length_take] at this
      simp only [prVals, List.length_map]; omega
    (try clear hCel); (try clear hHid); (try clear N5); (try clear F5)
    k_steps
    · rename Fr _ _ _ _ => F8
      rename News _ _ _ _ => N8
      simp only [List.push_toArray] at N8
      refine ⟨_, _, _, mC, oC, prVals qs ++ [Value.ref T], _, rfl, rfl, hoC, F8, N8, qs ++ [ps[i]], ?_, ?_⟩
      · rw [List.take_succ_eq_append_getElem hin3]
        exact hq.append (List.Sublist.refl _)
      · rw [prVals_app]
        simp [prVals, hT]
    · refine ⟨_, _, _, mC, oC, prVals qs, _, rfl, rfl, hoC, FC, NC, qs, ?_, rfl⟩
      rw [List.take_succ_eq_append_getElem hin3]
      exact hq.trans (List.sublist_append_left _ _)
  · intro acc cc D' h tk2 hIv FC NC ltD
    (try clear N5); (try clear F5)
    dsimp only
    (try clear hli); (try clear hie); (try clear ltn); (try clear hLi); (try clear mP'); (try clear mP); (try clear dK)
    revert ya11 ya12 ya16 hLy K0 lO lD lS dc1 dc3 hCel hlC hHid hP mDh mDc mK mH mC1 mT nO nD nS hIv FC NC ltD
    revert ya0 ya1 s₁ ya2 ya3 ya6 ya8 ya9 ya23 xs As cO cD cS vC Dc oc1 ys Dh oc3 cs tot ns oK D ps B acc cc D' h tk2
    exact hP_.h
end
section
noncomputable def qj : PSigma (fun P : Prop => zWr P → qi.1) := by
  refine' ⟨_, fun hP_ => ?_⟩
  rotate_left
  walk_at "32"; (iterate 15 (generalize zf w_ = D'; generalize zs w_ = v_; clear w_; generalize zf v_ = D'; generalize zs v_ = w_; clear v_)); generalize zf w_ = h, zs w_ = tk2; clear w_; rename_i ya0 ya1 s₁ ya2 ya3 ya6 ya8 ya9 ya23 xs As cO cD cS vC Dc oc1 ys Dh oc3 cs tot ns oK D ps B acc cc
  intro ya11 ya12 ya16 hLy K0 lO lD lS dc1 dc3 hCel hlC hHid hP mDh mDc mK mH mC1 mT nO nD nS hIv FC NC ltD
  obtain ⟨qs, hq, rfl⟩ := hIv
  have lps : (prVals ps).length = ps.length := List.length_map ..
  rw [lps, List.take_length] at hq
  (try clear hli); (try clear hie); (try clear ltn); (try clear hLi); (try clear lps)
  have w7 := Nat.ne_of_gt (ltD _ (.head _))
  have w6 := Nat.ne_of_gt (ltD _ (.tail _ (.head _)))
  have w5 := Nat.ne_of_gt (ltD _ (.tail _ (.tail _ (.head _))))
  dsimp only at w7 w6 w5
  have wB : (D' : Nat) ∉ B.map (·.1) := fun z => by
    obtain ⟨p, hp, q⟩ := List.mem_map.mp z
    exact Nat.ne_of_lt (ltD p (.tail _ (.tail _ (.tail _ hp)))) q
  k_steps
  rename_i yj0 yj1 yj2 yj3 yj4
  (try clear wB); (try clear w5); (try clear ltD); (try clear nS); (try clear lS)
  revert ya11 ya12 ya16 hLy K0 lO lD dc1 dc3 hCel hlC hHid hP mDh mDc mK mH mC1 mT nO nD hq w7 w6 yj2 yj3 yj4
  revert ya0 ya1 s₁ ya2 ya3 ya6 ya8 ya9 ya23 xs As cO cD cS vC Dc oc1 ys Dh oc3 cs tot oK D ps B cc D' qs yj0 yj1 tk
  exact hP_.h
end
section
noncomputable def qk : PSigma (fun P : Prop => zWr P → qj.1) := by
  refine' ⟨_, fun hP_ => ?_⟩
  rotate_left
  walk_at "32"; (iterate 15 (generalize zf w_ = yj0; generalize zs w_ = v_; clear w_; generalize zf v_ = yj0; generalize zs v_ = w_; clear v_)); generalize zf w_ = yj1, zs w_ = tk; clear w_; rename_i ya0 ya1 s₁ ya2 ya3 ya6 ya8 ya9 ya23 xs As cO cD cS vC Dc oc1 ys Dh oc3 cs tot oK D ps B cc D' qs
  intro ya11 ya12 ya16 hLy K0 lO lD dc1 dc3 hCel hlC hHid hP mDh mDc mK mH mC1 mT nO nD hq w7 w6 yj2 yj3 yj4
  refine Blk.out ?_
  rename Fr _ _ _ _ => F1
  rename News _ _ _ _ => N1
  rename (_ = Data.cell (some (Value.ref D'))) => dS
  rename Obj => oS
  obtain ⟨B2, eB⟩ : ∃ B2, B2 = (D', W.listOf (prVals qs).toArray cc) :: (s₁.heap.objs.size + 1 + 1 + 1 + 1 + 1, oS) :: B := ⟨_, rfl⟩
  have N2 := News.sub N1 (led' := (s₁.heap.objs.size + 1 + 1 + 1 + 1 + 1 + 1 + 1, cO) :: (s₁.heap.objs.size + 1 + 1 + 1 + 1 + 1 + 1, cD) :: B2) (fun p hp => by
    rw [eB] at hp
    simp only [List.mem_cons] at hp ⊢
    rcases hp with h | h | h | h | h <;> first | ((repeat' first | exact h | exact Or.inl h | apply Or.inr); done) | simp [h])
  have sub2 : ∀ p ∈ B, p ∈ B2 := fun p hp => by rw [eB]; exact .tail _ (.tail _ hp)
  replace mDh := sub2 _ mDh
  replace mDc := sub2 _ mDc
  (try clear mP')
  replace mK := sub2 _ mK
  replace mH := sub2 _ mH
  replace mC1 := sub2 _ mC1
  replace mT : ∀ p ∈ qs, (p.T, p.obj) ∈ B2 := fun p hp => sub2 _ (mT p (hq.subset hp))
  have mS : (s₁.heap.objs.size + 1 + 1 + 1 + 1 + 1, oS) ∈ B2 := by rw [eB]; exact .tail _ (.head _)
  have mSt : (D', W.listOf (prVals qs).toArray cc) ∈ B2 := by rw [eB]; exact .head _
  replace nO : (s₁.heap.objs.size + 1 + 1 + 1 + 1 + 1 + 1 + 1 : Nat) ∉ B2.map (·.1) := fun z => by
    rw [eB] at z
    rcases List.mem_cons.mp z with z | z
    · exact w7 z.symm
    rcases List.mem_cons.mp z with z | z
    · exact absurd (show (s₁.heap.objs.size + 1 + 1 + 1 + 1 + 1 + 1 + 1 : Nat) = s₁.heap.objs.size + 1 + 1 + 1 + 1 + 1 from z) (by omega)
    · exact nO z
  replace nD : (s₁.heap.objs.size + 1 + 1 + 1 + 1 + 1 + 1 : Nat) ∉ B2.map (·.1) := fun z => by
    rw [eB] at z
    rcases List.mem_cons.mp z with z | z
    · exact w6 z.symm
    rcases List.mem_cons.mp z with z | z
    · exact absurd (show (s₁.heap.objs.size + 1 + 1 + 1 + 1 + 1 + 1 : Nat) = s₁.heap.objs.size + 1 + 1 + 1 + 1 + 1 from z) (by omega)
    · exact nD z
  (try clear B); (try clear ltD); (try clear wB); (try clear w5); (try clear w6); (try clear w7); (try clear nS); (try clear mP); (try clear N1); (try clear sub2); (try clear eB)
  refine wpAny_noRaise ?_
  walk_at "exec Assign"
  refine' comp_rawT ?hclos ?hcell rfl ?hnames ?_
  (case hclos => with_unfolding_all rfl)
  (case hcell => decide)
  (case hnames => decide)
  k_steps
  rename_i yk0 yk1 yk2 yk3 yk4
  (try clear yk4); (try clear mK)
  revert ya11 ya12 ya16 hLy K0 lO lD dc1 dc3 hCel hlC hHid hP hq dS mDh mDc mH mC1 mT mS mSt nO nD yk2 yk3
  revert ya0 ya1 s₁ ya2 ya3 ya6 ya8 ya9 ya23 xs As cO cD cS vC Dc oc1 ys Dh oc3 cs tot D ps cc D' qs oS tk B2 yk0 yk1
  exact hP_.h
end
section
noncomputable def ql : PSigma (fun P : Prop => zWr P → qk.1) := by
  refine' ⟨_, fun hP_ => ?_⟩
  rotate_left
  walk_at "32"; (iterate 15 (generalize zf w_ = B2; generalize zs w_ = v_; clear w_; generalize zf v_ = B2; generalize zs v_ = w_; clear v_)); generalize zf w_ = l8, zs w_ = h8; clear w_; rename_i ya0 ya1 s₁ ya2 ya3 ya6 ya8 ya9 ya23 xs As cO cD cS vC Dc oc1 ys Dh oc3 cs tot D ps cc D' qs oS tk
  intro ya11 ya12 ya16 hLy K0 lO lD dc1 dc3 hCel hlC hHid hP hq dS mDh mDc mH mC1 mT mS mSt nO nD F8 N8
  refine Blk.out ?_
  obtain ⟨v8, n8, N9, iv8⟩ : ∃ v8 n8, News s₁.heap s₁.heap.objs.size h8 ((l8, W.listOf v8.toArray n8) :: (s₁.heap.objs.size + 1 + 1 + 1 + 1 + 1 + 1 + 1, cO) :: (s₁.heap.objs.size + 1 + 1 + 1 + 1 + 1 + 1, cD) :: B2) ∧ IntsAre v8 [23, 37, 10, 19, 31, 27, 63, 11] := ⟨_, _, N8, .cons _ _ (.cons _ _ (.cons _ _ (.cons _ _ (.cons _ _ (.cons _ _ (.cons _ _ (.cons _ _ .nil)))))))⟩
  (try clear N8)
  refine it_enum F8 N9 ⟨_, (N9 _ (.head _)).1, rfl, _, rfl⟩ ?_
  intro e it oI h2 F5 N5 hLi ltn hie hli
  (try clear lt8); (try clear N9); (try clear F8)
  dsimp only
  k_steps
  refine Blk.out ?_
  refine wpAny_pyIter_enum (N5 _ (.head _)).1 ?_
  refine comp_enum (by exact rfl) F5 N5 ltn hie hli hLi (fun h _ N => ⟨_, (N _ (.head _)).1, rfl, _, rfl⟩) (fun i acc => ∃ ns, IntsAre acc ns ∧ ns.length = i) ⟨[], .nil, rfl⟩ ?_ ?_
  · intro i t x acc cc3 D3 C oC h tk2 mC old' oI' hin hv hIv hoC hxb hxa FC NC ltD lte ltit eC
    obtain ⟨ns, hns, hlen⟩ := hIv
    replace hxa := hxa (by decide)
    have l8v := iv8.length
    have hin8 : i < 8 := by rw [l8v] at hin; exact hin
    obtain ⟨tx, hx⟩ := ints_at iv8 i hin8
    rw [List.getElem?_toArray, hv] at hx
    obtain rfl := Option.some.inj hx
    generalize ([23, 37, 10, 19, 31, 27, 63, 11] : List Int)[i] = el at *
    refine ifs_nil ?_
    rw [if_pos rfl]
    have d0 : D3 ≠ C := Nat.ne_of_lt (Nat.lt_of_lt_of_eq (Nat.lt_succ_self _) eC.symm)
    have dE : D3 ≠ e := Nat.ne_of_gt lte
    have dI : D3 ≠ it := Nat.ne_of_gt ltit
    have d8 := Nat.ne_of_gt (ltD _ (.head _))
    have w7 := Nat.ne_of_gt (ltD _ (.tail _ (.head _)))
    have w6 := Nat.ne_of_gt (ltD _ (.tail _ (.tail _ (.head _))))
    dsimp only at w7 w6 d8
    have wB : (D3 : Nat) ∉ B2.map (·.1) := fun z => by
      obtain ⟨p, hp, q⟩ := List.mem_map.mp z
      exact Nat.ne_of_lt (ltD p (.tail _ (.tail _ (.tail _ hp)))) q
    have lacc : acc.length ≤ 100 := by
      rw [hns.length, hlen]; omega
    (try clear hHid); (try clear N5); (try clear F5)
    k_steps
    refine Blk.out ?_
    have mDc' : (Dc, LCg.lst vC) ∈ (C, oC) :: (D3, W.listOf acc.toArray cc3) :: (e, enO it (i + 1) old') :: (it, oI') :: (l8, W.listOf v8.toArray n8) :: (s₁.heap.objs.size + 1 + 1 + 1 + 1 + 1 + 1 + 1, cO) :: (s₁.heap.objs.size + 1 + 1 + 1 + 1 + 1 + 1, cD) :: B2 := .tail _ (.tail _ (.tail _ (.tail _ (.tail _ (.tail _ (.tail _ mDc))))))
    refine slice_list3 (lo := some (i : Int)) (hi := none) (st := some 8) FC NC ⟨_, (NC _ mDc').1, rfl, _, rfl⟩ (IsPart.int _ _) IsPart.none (IsPart.int _ _) (by decide) ?_ (hsz := by rw [List.size_toArray, sizeLine_eq, hCel.length]; omega)
    intro h5 F5 N5
    have iP := IntsAre.pick hCel (some (i : Int)) none (some 8)
    have lP := length_pickNums_le hCel (some (i : Int)) none (some 8)
    generalize slicePick vC.toArray (some (i : Int)) none (some 8) = ar at *
    obtain ⟨us⟩ := ar
    replace iP : IntsAre us _ := iP
    generalize pickNums cs (some (i : Int)) none (some 8) = ms at *
    replace N5 : News s₁.heap s₁.heap.objs.size h5 ((h.objs.size + 1, W.listOf us.toArray 0) :: _) := N5
    have z0 : (D3 : Nat) ≠ h.objs.size + 1 := Nat.ne_of_lt (Nat.lt_succ_of_lt (Heap.lt_size (NC _ (.tail _ (.head _))).1))
    (try clear hCel); (try clear NC); (try clear FC)
    dsimp only
    k_steps
    rename Fr _ _ _ _ => F8
    rename News _ _ _ _ => N8
    simp only [List.push_toArray] at N8
    replace N8 := News.tailN N8
    refine ⟨_, _, _, mC, oC, acc ++ [Value.int _ _], _, rfl, rfl, hoC, F8, N8, ⟨ns ++ [_], IntsAre.append hns (.cons _ _ .nil), by rw [List.length_append, hlen]; rfl⟩⟩
  · intro acc cc3 D3 h tk2 hIv FC NC ltD
    (try clear N5); (try clear F5)
    dsimp only
    (try clear hli); (try clear hie); (try clear ltn); (try clear hLi); (try clear mC1); (try clear mDc); (try clear hlC); (try clear hCel); (try clear dc1)
    revert ya11 ya12 ya16 hLy K0 lO lD dc3 hHid hP hq dS mDh mH mT mS mSt nO nD iv8 hIv FC NC ltD
    revert ya0 ya1 s₁ ya2 ya3 ya6 ya8 ya9 ya23 xs As cO cD cS vC Dc oc1 ys Dh oc3 cs tot D ps cc D' qs oS tk B2 l8 h8 v8 n8 e acc cc3 D3 h tk2
    exact hP_.h
end
section
noncomputable def qm : PSigma (fun P : Prop => zWr P → ql.1) := by
  refine' ⟨_, fun hP_ => ?_⟩
  rotate_left
  walk_at "40"; (iterate 19 (generalize zf w_ = D3; generalize zs w_ = v_; clear w_; generalize zf v_ = D3; generalize zs v_ = w_; clear v_)); generalize zf w_ = h, zs w_ = tk2; clear w_; rename_i ya0 ya1 s₁ ya2 ya3 ya6 ya8 ya9 ya23 xs As cO cD cS vC Dc oc1 ys Dh oc3 cs tot D ps cc D' qs oS tk B2 l8 h8 v8 n8 e acc cc3
  intro ya11 ya12 ya16 hLy K0 lO lD dc3 hHid hP hq dS mDh mH mT mS mSt nO nD iv8 hIv FC NC ltD
  obtain ⟨ns, hns, hlen⟩ := hIv
  have l8v : v8.length = 8 := iv8.length
  rw [l8v] at hlen
  (try clear iv8); (try clear hli); (try clear hie); (try clear ltn); (try clear hLi)
  have d8 := Nat.ne_of_gt (ltD _ (.head _))
  have w7 := Nat.ne_of_gt (ltD _ (.tail _ (.head _)))
  have w6 := Nat.ne_of_gt (ltD _ (.tail _ (.tail _ (.head _))))
  dsimp only at w7 w6 d8
  have wB : (D3 : Nat) ∉ B2.map (·.1) := fun z => by
    obtain ⟨p, hp, q⟩ := List.mem_map.mp z
    exact Nat.ne_of_lt (ltD p (.tail _ (.tail _ (.tail _ hp)))) q
  replace NC := News.sub NC (led' := (D3, W.listOf acc.toArray cc3) :: (s₁.heap.objs.size + 1 + 1 + 1 + 1 + 1 + 1 + 1, cO) :: (s₁.heap.objs.size + 1 + 1 + 1 + 1 + 1 + 1, cD) :: B2) (fun p hp => by
    rcases List.mem_cons.mp hp with rfl | hp
    · exact .head _
    · exact .tail _ (.tail _ hp))
  k_steps
  set_option pp.deepTerms.threshold 30 in
  set_option pp.proofs false in
  rename_i ym0 ym1 ym2 ym3 ym4 ym5
  (try clear wB); (try clear w6); (try clear d8); (try clear l8v); (try clear ltD); (try clear nD); (try clear lD)
  revert ya11 ya12 ya16 hLy K0 lO dc3 hHid hP hq dS mDh mH mT mS mSt nO hns hlen w7 ym3 ym4 ym5
  revert ya0 ya1 s₁ ya2 ya3 ya6 ya8 ya9 ya23 xs As cO ys Dh oc3 cs tot D ps cc D' qs oS B2 v8 acc cc3 D3 ns ym1 ym2 tk
  exact hP_.h
end
section
noncomputable def qn : PSigma (fun P : Prop => zWr P → qm.1) := by
  refine' ⟨_, fun hP_ => ?_⟩
  rotate_left
  walk_at "32"; (iterate 15 (generalize zf w_ = ym1; generalize zs w_ = v_; clear w_; generalize zf v_ = ym1; generalize zs v_ = w_; clear v_)); generalize zf w_ = ym2, zs w_ = tk; clear w_; rename_i ya0 ya1 s₁ ya2 ya3 ya6 ya8 ya9 ya23 xs As cO ys Dh oc3 cs tot D ps cc D' qs oS B2 v8 acc cc3 D3 ns
  intro ya11 ya12 ya16 hLy K0 lO dc3 hHid hP hq dS mDh mH mT mS mSt nO hns hlen w7 ym3 ym4 ym5
  refine Blk.out ?_
  rename Fr _ _ _ _ => F1
  rename News _ _ _ _ => N1
  rename (_ = Data.cell (some (Value.ref D3))) => dD
  rename Obj => oD
  obtain ⟨B3, eB⟩ : ∃ B3, B3 = (D3, W.listOf acc.toArray cc3) :: (s₁.heap.objs.size + 1 + 1 + 1 + 1 + 1 + 1, oD) :: B2 := ⟨_, rfl⟩
  have N2 := News.sub N1 (led' := (s₁.heap.objs.size + 1 + 1 + 1 + 1 + 1 + 1 + 1, cO) :: B3) (fun p hp => by
    rw [eB] at hp
    simp only [List.mem_cons] at hp ⊢
    rcases hp with h | h | h | h <;> first | ((repeat' first | exact h | exact Or.inl h | apply Or.inr); done) | simp [h])
  have sub2 : ∀ p ∈ B2, p ∈ B3 := fun p hp => by rw [eB]; exact .tail _ (.tail _ hp)
  replace mDh := sub2 _ mDh
  (try clear mC1); (try clear mK); (try clear mDc)
  replace mH := sub2 _ mH
  replace mT : ∀ p ∈ qs, (p.T, p.obj) ∈ B3 := fun p hp => sub2 _ (mT p hp)
  replace mS := sub2 _ mS
  replace mSt := sub2 _ mSt
  have mD : (s₁.heap.objs.size + 1 + 1 + 1 + 1 + 1 + 1, oD) ∈ B3 := by rw [eB]; exact .tail _ (.head _)
  have mDr : (D3, W.listOf acc.toArray cc3) ∈ B3 := by rw [eB]; exact .head _
  replace nO : (s₁.heap.objs.size + 1 + 1 + 1 + 1 + 1 + 1 + 1 : Nat) ∉ B3.map (·.1) := fun z => by
    rw [eB] at z
    rcases List.mem_cons.mp z with z | z
    · exact w7 z.symm
    rcases List.mem_cons.mp z with z | z
    · exact absurd (show (s₁.heap.objs.size + 1 + 1 + 1 + 1 + 1 + 1 + 1 : Nat) = s₁.heap.objs.size + 1 + 1 + 1 + 1 + 1 + 1 from z) (by omega)
    · exact nO z
  (try clear hCel); (try clear d8); (try clear ltD); (try clear wB); (try clear w6); (try clear w7); (try clear nD); (try clear N1); (try clear sub2); (try clear eB)
  refine wpAny_noRaise ?_
  refine' comp_useC ?hsw ?hy ?hp ?hclos ?hcs ?hpc rfl ?hnames ?_
  (case hsw => with_unfolding_all rfl)
  (case hy => with_unfolding_all rfl)
  (case hp => with_unfolding_all rfl)
  (case hclos => with_unfolding_all rfl)
  (case hcs => intro a cl; rfl)
  (case hpc => intro h; rfl)
  (case hnames => decide)
  k_steps
  refine Blk.out ?_
  rename IsRange _ _ _ _ _ _ _ _ => hr
  rename Fr _ _ _ _ => F5
  rename News _ _ _ _ => N5
  refine it_rangeP F5 N5 hr (by decide) (by decide) ?_
  intro I hI F6 N6 lt6
  (try clear hr); (try clear N5); (try clear F5)
  refine bags_leaf (fun xs => xs.length ≤ 8 ∧ ∀ y ∈ xs, 0 ≤ y ∧ y < 5) rfl (by decide) F6 N6 lt6 ?_ ?_ ?_
  · intro i t C oc h tk led K hin hoc F N hsub hnd hK
    replace mDr := hsub _ (.tail _ mDr)
    replace mD := hsub _ (.tail _ mD)
    (try clear lt6); (try clear N6); (try clear F6); (try clear hHid); (try clear mH); (try clear mDh); (try clear mT); (try clear mSt); (try clear mS)
    refine' comp_raw ?hclos ?hcell rfl ?hnames ?_
    (case hclos => with_unfolding_all rfl)
    (case hcell => decide)
    (case hnames => decide)
    k_steps
    refine Blk.out ?_
    refine it_list (T := D3) (vs := acc) (c := cc3) rfl F N (News.get N (.tail _ mDr)) ?_
    intro J hJ oJ F7 N7 lt7 ltJ Wk hO
    refine comp_leafG (news := (C + 1, oc) :: led) F7 N7 (fun p hp => Nat.ne_of_lt (lt7 p hp)) Wk lSt.get hO (fun g2 => g2 = s₁.heap) (fun _ _ _ _ N => News.get N (.tail _ mDr)) rfl (by rintro _ rfl; exact ⟨fun b => Iff.rfl, rfl⟩)
      (fun i acc2 => ∃ xs, IntsAre acc2 xs ∧ xs.length ≤ i ∧ ∀ y ∈ xs, 0 ≤ y ∧ y < 5) ⟨[], .nil, Nat.zero_le _, fun _ z => nomatch z⟩ ?_ ?_
    · intro i2 v acc2 cc2 D2 C2 g3 oC h7 tk7 mC oI' hin2 hv2 hIv hG hoC FC NC ltD2 ltI3 eC2
      subst hG
      obtain ⟨xs2, ix, lx, hx5⟩ := hIv
      have hin3 : i2 < ns.length := by rw [← hns.length]; exact hin2
      obtain ⟨t2, ht2⟩ := ints_at hns i2 hin3
      rw [List.getElem?_toArray, hv2] at ht2
      obtain rfl := Option.some.inj ht2
      generalize hel : ns[i2] = el at *
      have ltC : ∀ p ∈ (D2, W.listOf acc2.toArray cc2) :: (J, oI') :: (C + 1, oc) :: led, p.1 ≠ C2 := fun p hp => by
        refine Nat.ne_of_lt (Nat.lt_of_le_of_lt ?_ (Nat.lt_of_lt_of_eq (Nat.lt_succ_self _) eC2.symm))
        rcases List.mem_cons.mp hp with rfl | hp
        · exact Nat.le_refl _
        rcases List.mem_cons.mp hp with rfl | hp
        · exact Nat.le_of_lt ltI3
        · exact Nat.le_of_lt (ltD2 p hp)
      refine assign_own FC NC hoC ltC ?_
      intro h8 oC8 tk8 F8 N8 hoC8
      obtain ⟨mC8, hoC9, hmi⟩ : ∃ mC', LCg.NsObj oC8 mC' ∧ mC' (Str.ofString "number") = some (.int el t2) := ⟨_, hoC8, if_pos rfl⟩
      (try clear N); (try clear F); (try clear NC); (try clear FC); (try clear hoC); (try clear hoC8)
      refine ifs_one ?_
      have d0 : D2 ≠ C2 := Nat.ne_of_lt (Nat.lt_of_lt_of_eq (Nat.lt_succ_self _) eC2.symm)
      have d1 : D2 ≠ J := Nat.ne_of_gt ltI3
      have d2 := Nat.ne_of_gt (ltD2 _ (.head _))
      dsimp only at d2
      have dB : (D2 : Nat) ∉ led.map (·.1) := fun z => by
        obtain ⟨p, hp, q⟩ := List.mem_map.mp z
        exact Nat.ne_of_lt (ltD2 p (.tail _ hp)) q
      have lacc : acc2.length ≤ 100 := by
        have := hns.length
        rw [ix.length]; omega
      (try clear F7); (try clear N7); (try clear hns)
      k_steps
      · rename Fr _ _ _ _ => F9
        rename News _ _ _ _ => N9
        simp only [List.push_toArray] at N9
        refine ⟨_, _, _, mC8, oC8, acc2 ++ [Value.int (el.fmod 5) _], _, rfl, rfl, hoC9, F9, N9, xs2 ++ [el.fmod 5], IntsAre.append ix (.cons _ _ .nil), by rw [List.length_append]; exact Nat.succ_le_succ lx, fun y hy => ?_⟩
        rcases List.mem_append.mp hy with hy | hy
        · exact hx5 y hy
        · rw [List.mem_singleton.mp hy, Int.fmod_eq_emod_of_nonneg _ (by decide)]
          omega
      · refine ⟨_, _, _, mC8, oC8, acc2, _, rfl, rfl, hoC9, by assumption, by assumption, xs2, ix, Nat.le_succ_of_le lx, hx5⟩
    · intro acc2 cc2 D2 g3 h7 tk7 hIv hG F8 N8 ltD2
      subst hG
      obtain ⟨xs2, ix, lx, hx5⟩ := hIv
      have l8 := hns.length
      exact hK D2 acc2 cc2 xs2 _ _ ix ⟨by omega, hx5⟩ F8 N8 ltD2
  · intro D C h tk mC oC ls c eC hoC F N hLv hl hP ltD ltA
    (try clear lt6); (try clear N6); (try clear F6)
    rename_i yn0 yn1 yn2 yn3 yn4 yn5 yn6 yn7 yn8 yn9 yn10
    (try clear yn10); (try clear mDr); (try clear mD); (try clear yn4); (try clear dD); (try clear yn3); (try clear hlen); (try clear hns); (try clear hLy)
    revert ya11 ya12 ya16 K0 lO dc3 hHid yn2 hq dS mDh mH mT mS mSt nO eC hoC F N hLv hl hP ltD ltA
    revert ya0 ya1 s₁ ya2 ya3 ya6 ya8 ya9 ya23 xs As cO ys Dh oc3 cs tot yn0 ps cc D' qs oS B2 v8 ns ym1 yn1 B3 yn5 yn6 hI D C h tk mC oC ls c
    exact hP_.h
  · intro C cl
    exact rfl
end
section
noncomputable def qo : PSigma (fun P : Prop => zWr P → qn.1) := by
  refine' ⟨_, fun hP_ => ?_⟩
  rotate_left
  walk_at "40"; (iterate 19 (generalize zf w_ = oC; generalize zs w_ = v_; clear w_; generalize zf v_ = oC; generalize zs v_ = w_; clear v_)); generalize zf w_ = ls, zs w_ = c; clear w_; rename_i ya0 ya1 s₁ ya2 ya3 ya6 ya8 ya9 ya23 xs As cO ys Dh oc3 cs tot yn0 ps cc D' qs oS B2 v8 ns ym1 yn1 B3 yn5 yn6 hI D C h tk mC
  intro ya11 ya12 ya16 K0 lO dc3 hHid yn2 hq dS mDh mH mT mS mSt nO eC hoC F N hLv hl hP ltD ltA
  refine ⟨_, _, _, _, _, hoC, F, N, ?_, ?_⟩
  · intro p hp
    rcases List.mem_cons.mp hp with rfl | hp
    · exact Nat.ne_of_lt (by rw [eC]; exact Nat.lt_succ_self _)
    rcases List.mem_append.mp hp with hp | hp
    · exact Nat.ne_of_lt (by rw [eC]; exact Nat.lt_succ_of_lt (ltD p hp))
    · obtain ⟨q, hq, rfl⟩ := lvEnts_mem hp
      exact Nat.ne_of_gt (ltA q hq)
  intro h3 tk3 F3 N3
  replace F3 : Fr s₁.heap s₁.heap.objs.size _ _ := F3
  replace N3 : News s₁.heap s₁.heap.objs.size _ _ := N3
  dsimp only
  obtain ⟨B4, eB⟩ : ∃ B4, B4 = (D, W.listOf (rowVals ls).toArray c) :: (B3 ++ lvEnts ls) := ⟨_, rfl⟩
  have N4 := News.sub N3 (led' := (s₁.heap.objs.size + 1 + 1 + 1 + 1 + 1 + 1 + 1, cO) :: B4) (fun p hp => by
    rw [eB] at hp
    simp only [List.mem_cons, List.mem_append] at hp ⊢
    rcases hp with h | h | h | h <;> first | ((repeat' first | exact h | exact Or.inl h | apply Or.inr); done) | simp [h])
  have sub2 : ∀ p ∈ B3, p ∈ B4 := fun p hp => by rw [eB]; exact .tail _ (List.mem_append_left _ hp)
  replace mDh := sub2 _ mDh
  replace mH := sub2 _ mH
  replace mT : ∀ p ∈ qs, (p.T, p.obj) ∈ B4 := fun p hp => sub2 _ (mT p hp)
  replace mS := sub2 _ mS
  replace mSt := sub2 _ mSt
  have mB : (D, W.listOf (rowVals ls).toArray c) ∈ B4 := by rw [eB]; exact .head _
  have mLs : ∀ x ∈ ls, (x.a, W.listOf x.vs.toArray x.c) ∈ B4 := fun x hx => by rw [eB]; exact .tail _ (List.mem_append_right _ (List.mem_map_of_mem (f := fun x : Lv => (x.a, W.listOf x.vs.toArray x.c)) hx))
  have w7 := Nat.lt_of_lt_of_le (ltD _ (.head _)) (Nat.le_refl _)
  dsimp only at w7
  replace nO : (s₁.heap.objs.size + 1 + 1 + 1 + 1 + 1 + 1 + 1 : Nat) ∉ B4.map (·.1) := fun z => by
    rw [eB] at z
    rcases List.mem_cons.mp z with z | z
    · exact absurd z (Nat.ne_of_lt w7)
    rw [List.map_append] at z
    rcases List.mem_append.mp z with z | z
    · exact nO z
    · obtain ⟨p, hp, e⟩ := List.mem_map.mp z
      obtain ⟨q, hq, rfl⟩ := lvEnts_mem hp
      have := ltA q hq
      have e : q.a = (s₁.heap.objs.size + 1 + 1 + 1 + 1 + 1 + 1 + 1 : Nat) := e
      rw [e] at this
      exact absurd this (Nat.not_lt.mpr (Nat.le_of_lt (Nat.lt_trans w7 (by rw [eC]; exact Nat.lt_succ_self _))))
  (try clear mDr); (try clear mD); (try clear hoC); (try clear N); (try clear F); (try clear ltA); (try clear ltD); (try clear w7); (try clear N3); (try clear sub2); (try clear eB)
  k_steps
  refine Blk.out ?_
  refine wpAny_noRaise ?_
  refine' dict_useC ?hsw ?hy ?hp ?hclos ?hcs ?hpc rfl ?hnames ?_
  (case hsw => with_unfolding_all rfl)
  (case hy => with_unfolding_all rfl)
  (case hp => with_unfolding_all rfl)
  (case hclos => with_unfolding_all rfl)
  (case hcs => intro a cl; rfl)
  (case hpc => intro h; rfl)
  (case hnames => decide)
  k_steps
  (try clear eC)
  revert ya11 ya12 ya16 K0 lO dc3 hHid yn2 hq dS hLv hl hP F3 N4 mDh mH mT mS mSt mB mLs nO
  revert ya0 ya1 s₁ ya2 ya3 ya6 ya8 ya9 ya23 xs As cO ys Dh oc3 cs tot yn0 ps cc D' qs oS v8 ns D C ls c h3 tk3 B4
  exact hP_.h
end
section
noncomputable def qp : PSigma (fun P : Prop => zWr P → qo.1) := by
  refine' ⟨_, fun hP_ => ?_⟩
  rotate_left
  walk_at "32"; (iterate 15 (generalize zf w_ = h3; generalize zs w_ = v_; clear w_; generalize zf v_ = h3; generalize zs v_ = w_; clear v_)); generalize zf w_ = tk3, zs w_ = B4; clear w_; rename_i ya0 ya1 s₁ ya2 ya3 ya6 ya8 ya9 ya23 xs As cO ys Dh oc3 cs tot yn0 ps cc D' qs oS v8 ns D C ls c
  intro ya11 ya12 ya16 K0 lO dc3 hHid yn2 hq dS hLv hl hP F3 N4 mDh mH mT mS mSt mB mLs nO
  refine Blk.out ?_
  have iH : IntsAre ys (hidL tot) := hHid
  obtain ⟨hl5, hnd5, hin5⟩ := hid_ok tot
  refine it_list (T := Dh) (vs := ys) (c := ys.length) rfl F3 N4 (News.get N4 (.tail _ mDh)) ?_
  intro I hI oI F6 N6 lt6 ltI Wk hO
  (try clear N4); (try clear F3); (try clear hHid)
  refine dict_leaf (xs := hidL tot) (pdF (qs.map Pr.abs)) F6 N6 lt6 iH hnd5 (by omega) Wk hO (.tail _ mDh) ?_ ?_ ?_
  · intro i hi t C oc h tk led K hoc F N hsub hnd hK
    replace mS := hsub _ (.tail _ mS)
    replace mSt := hsub _ (.tail _ mSt)
    replace mT : ∀ p ∈ qs, (p.T, p.obj) ∈ led := fun p hp => hsub _ (.tail _ (mT p hp))
    (try clear nO); (try clear hO); (try clear Wk); (try clear lt6); (try clear N6); (try clear F6); (try clear mLs); (try clear mB); (try clear mH); (try clear mDh)
    generalize (hidL tot)[i] = key at *
    k_steps
    refine Blk.out ?_
    refine' comp_rawT ?hclos ?hcell rfl ?hnames ?_
    (case hclos => with_unfolding_all rfl)
    (case hcell => decide)
    (case hnames => decide)
    k_steps
    refine Blk.out ?_
    refine it_list (T := D') (vs := prVals qs) (c := cc) rfl F N (News.get N (.tail _ mSt)) ?_
    intro J hJ oJ F7 N7 lt7 ltJ Wk2 hO2
    refine comp_prs rfl F7 N7 lt7 Wk2 hO2 (.tail _ mSt) (fun p hp => .tail _ (mT p hp)) (fun i acc => IntsAre acc (pdF ((qs.take i).map Pr.abs) key)) .nil ?_ ?_
    · intro i2 acc2 cc2 D2 C2 oC h7 tk7 mC oI' hi2 hIv hoC hxb hxa FC NC ltD2 ltI3 eC2
      replace hxa := hxa (by decide)
      rename (List.map Pr.abs ps = pairsF (hidL tot) 5) => hPs
      have e1 : pdF ((qs.take (i2 + 1)).map Pr.abs) key = pdF ((qs.take i2).map Pr.abs) key ++ (if qs[i2].hi = key then [qs[i2].lo] else []) := by
        unfold pdF
        rw [List.take_succ_eq_append_getElem hi2, List.map_append, List.filter_append, List.map_append]
        congr 1
        by_cases z : qs[i2].hi = key <;> simp [Pr.abs, z]
      have lacc : acc2.length ≤ 100 := by
        rw [hIv.length]
        have h1 : (pdF ((qs.take i2).map Pr.abs) key).length ≤ (qs.take i2).length := by
          unfold pdF
          rw [List.length_map]
          exact Nat.le_trans (List.length_filter_le ..) (by rw [List.length_map]; exact Nat.le_refl _)
        have h2 := List.length_take_le i2 qs
        have h3 := hq.length_le
        have h4 : ps.length = 10 := by
          have := congrArg List.length hPs
          rw [List.length_map] at this
          exact this
        omega
      rw [e1]
      (try clear e1)
      generalize qs[i2].hi = qh at *
      generalize qs[i2].lo = ql at *
      generalize qs[i2].t1 = qt1 at *
      generalize qs[i2].t2 = qt2 at *
      refine ifs_one ?_
      have d0 : D2 ≠ C2 := Nat.ne_of_lt (Nat.lt_of_lt_of_eq (Nat.lt_succ_self _) eC2.symm)
      have d1 : D2 ≠ J := Nat.ne_of_gt ltI3
      have d2 := Nat.ne_of_gt (ltD2 _ (.head _))
      dsimp only at d2
      have dB : (D2 : Nat) ∉ led.map (·.1) := fun z => by
        obtain ⟨p, hp, q⟩ := List.mem_map.mp z
        exact Nat.ne_of_lt (ltD2 p (.tail _ hp)) q
      (try clear N7); (try clear F7); (try clear N); (try clear F)
      k_steps
      · rename Fr _ _ _ _ => F9
        rename News _ _ _ _ => N9
        rename qh = key => hk
        simp only [List.push_toArray] at N9
        rw [if_pos hk]
        exact ⟨_, _, _, mC, oC, acc2 ++ [Value.int ql _], _, rfl, rfl, hoC, F9, N9, IntsAre.append hIv (.cons _ _ .nil)⟩
      · rename qh ≠ key => hk
        rw [if_neg hk, List.append_nil]
        exact ⟨_, _, _, mC, oC, acc2, _, rfl, rfl, hoC, FC, NC, hIv⟩
    · intro acc2 cc2 D2 h7 tk7 hIv F8 N8 ltD2
      rw [List.take_length] at hIv
      dsimp only
      exact hK D2 acc2 cc2 _ _ _ hIv F8 N8 ltD2
  · intro D2 C2 h tk mC oC oD2 ls2 eC2 hoC F N hd hLv2 hAbs ltD ltA
    (try clear hO); (try clear Wk); (try clear lt6); (try clear N6); (try clear F6)
    (try clear ltI); (try clear hin5); (try clear hnd5)
    have pd0p : Nat := 0
    have pd1p : Nat := 0
    have pd2p : Nat := 0
    have pd3p : Nat := 0
    have pd4p : Nat := 0
    revert ya11 ya12 ya16 K0 lO dc3 yn2 hq dS hLv hl hP mDh mH mT mS mSt mB mLs nO iH hl5 eC2 hoC F N hd hLv2 hAbs ltD ltA
    revert ya0 ya1 s₁ ya2 ya3 ya6 ya8 ya9 ya23 xs As cO ys Dh oc3 cs tot yn0 ps cc D' qs oS v8 ns D C ls c h3 tk3 B4 I hI oI D2 C2 h tk mC oC oD2 ls2 pd0p pd1p pd2p pd3p pd4p
    exact hP_.h
  · intro C cl
    exact rfl
end
section
noncomputable def qq : PSigma (fun P : Prop => zWr P → qp.1) := by
  refine' ⟨_, fun hP_ => ?_⟩
  rotate_left
  walk_at "48"; (iterate 23 (generalize zf w_ = pd2p; generalize zs w_ = v_; clear w_; generalize zf v_ = pd2p; generalize zs v_ = w_; clear v_)); generalize zf w_ = pd3p, zs w_ = pd4p; clear w_; rename_i ya0 ya1 s₁ ya2 ya3 ya6 ya8 ya9 ya23 xs As cO ys Dh oc3 cs tot yn0 ps cc D' qs oS v8 ns D C ls c h3 tk3 B4 I hI oI D2 C2 h tk mC oC oD2 ls2 pd0p pd1p
  intro ya11 ya12 ya16 K0 lO dc3 yn2 hq dS hLv hl hP mDh mH mT mS mSt mB mLs nO iH hl5 eC2 hoC F N hd hLv2 hAbs ltD ltA
  refine ⟨_, _, _, _, _, hoC, F, N, ?_, ?_⟩
  · intro p hp
    rcases List.mem_cons.mp hp with rfl | hp
    · exact Nat.ne_of_lt (by rw [eC2]; exact Nat.lt_succ_self _)
    rcases List.mem_append.mp hp with hp | hp
    · exact Nat.ne_of_lt (by rw [eC2]; exact Nat.lt_succ_of_lt (ltD p hp))
    · obtain ⟨q, hq, rfl⟩ := lvEnts_mem hp
      exact Nat.ne_of_gt (ltA q hq)
  intro h3 tk3 F3 N3
  replace F3 : Fr s₁.heap s₁.heap.objs.size _ _ := F3
  replace N3 : News s₁.heap s₁.heap.objs.size _ _ := N3
  dsimp only
  obtain ⟨B5, eB⟩ : ∃ B5, B5 = B4 ++ lvEnts ls2 := ⟨_, rfl⟩
  have N4 := News.sub N3 (led' := (s₁.heap.objs.size + 1 + 1 + 1 + 1 + 1 + 1 + 1, cO) :: (D2, oD2) :: B5) (fun p hp => by
    rw [eB] at hp
    simp only [List.mem_cons, List.mem_append] at hp ⊢
    rcases hp with h | h | h | h <;> first | ((repeat' first | exact h | exact Or.inl h | apply Or.inr); done) | simp [h])
  have sub2 : ∀ p ∈ B4, p ∈ B5 := fun p hp => by rw [eB]; exact List.mem_append_left _ hp
  replace mDh := sub2 _ mDh
  replace mH := sub2 _ mH
  replace mT : ∀ p ∈ qs, (p.T, p.obj) ∈ B5 := fun p hp => sub2 _ (mT p hp)
  replace mS := sub2 _ mS
  replace mSt := sub2 _ mSt
  replace mB := sub2 _ mB
  replace mLs : ∀ x ∈ ls, (x.a, W.listOf x.vs.toArray x.c) ∈ B5 := fun x hx => sub2 _ (mLs x hx)
  have mL2 : ∀ x ∈ ls2, (x.a, W.listOf x.vs.toArray x.c) ∈ B5 := fun x hx => by rw [eB]; exact List.mem_append_right _ (List.mem_map_of_mem (f := fun x : Lv => (x.a, W.listOf x.vs.toArray x.c)) hx)
  have w7 := Nat.lt_of_lt_of_le (ltD _ (.head _)) (Nat.le_refl _)
  dsimp only at w7
  have nG : D2 ∉ B5.map (·.1) := fun z => by
    obtain ⟨p, hp, e⟩ := List.mem_map.mp z
    rw [eB] at hp
    rcases List.mem_append.mp hp with hp | hp
    · exact Nat.ne_of_lt (ltD p (.tail _ hp)) e
    · obtain ⟨q, hq, rfl⟩ := lvEnts_mem hp
      have := ltA q hq
      exact Nat.ne_of_gt (Nat.lt_trans (by rw [eC2]; exact Nat.lt_succ_self _) this) e
  replace nO : (s₁.heap.objs.size + 1 + 1 + 1 + 1 + 1 + 1 + 1 : Nat) ∉ B5.map (·.1) := fun z => by
    rw [eB, List.map_append] at z
    rcases List.mem_append.mp z with z | z
    · exact nO z
    · obtain ⟨p, hp, e⟩ := List.mem_map.mp z
      obtain ⟨q, hq, rfl⟩ := lvEnts_mem hp
      have := ltA q hq
      have e : q.a = (s₁.heap.objs.size + 1 + 1 + 1 + 1 + 1 + 1 + 1 : Nat) := e
      rw [e] at this
      exact absurd this (Nat.not_lt.mpr (Nat.le_of_lt (Nat.lt_trans w7 (by rw [eC2]; exact Nat.lt_succ_self _))))
  have nOG : (s₁.heap.objs.size + 1 + 1 + 1 + 1 + 1 + 1 + 1 : Nat) ≠ D2 := Nat.ne_of_lt w7
  have loG : (D2 == sysModules) = false := beq_eq_false_iff_ne.mpr (Nat.ne_of_gt (by show 1 < D2; omega))
  (try clear hoC); (try clear N); (try clear F); (try clear ltA); (try clear ltD); (try clear w7); (try clear N3); (try clear sub2); (try clear eB)
  k_steps
  rename_i yq0 yq1
  (try clear mS); (try clear eC2); (try clear dS)
  revert ya11 ya12 ya16 K0 lO dc3 yn2 hq hLv hl hP iH hl5 hd hLv2 hAbs F3 N4 mDh mH mT mSt mB mLs mL2 nG nO nOG loG
  revert ya0 ya1 s₁ ya2 ya3 ya6 ya8 ya9 ya23 xs As cO ys Dh oc3 cs tot yn0 ps cc D' qs oS v8 ns D C ls c yq0 yq1 B4 I D2 C2 oD2 ls2 h3 tk3 B5
  exact hP_.h
end
section
noncomputable def qr : PSigma (fun P : Prop => zWr P → qq.1) := by
  refine' ⟨_, fun hP_ => ?_⟩
  rotate_left
  walk_at "40"; (iterate 19 (generalize zf w_ = h3; generalize zs w_ = v_; clear w_; generalize zf v_ = h3; generalize zs v_ = w_; clear v_)); generalize zf w_ = tk3, zs w_ = B5; clear w_; rename_i ya0 ya1 s₁ ya2 ya3 ya6 ya8 ya9 ya23 xs As cO ys Dh oc3 cs tot yn0 ps cc D' qs oS v8 ns D C ls c yq0 yq1 B4 I D2 C2 oD2 ls2
  intro ya11 ya12 ya16 K0 lO dc3 yn2 hq hLv hl hP iH hl5 hd hLv2 hAbs F3 N4 mDh mH mT mSt mB mLs mL2 nG nO nOG loG
  refine Blk.out ?_
  rename Fr _ _ _ _ => F5
  rename News _ _ _ _ => N5
  rename (List.map Pr.abs ps = pairsF (hidL tot) 5) => hPs
  have stp := stp_qs hPs hq
  have lqs := pr_len hPs hq
  have M0 : Am _ _ _ _ callerA s₁.heap [] s₁.heap := ⟨K0, by assumption, by assumption, fun b hb => (nomatch hb), by assumption, by assumption⟩
  have iH : IntsAre ys (hidL tot) := by assumption
  obtain ⟨hl5, hnd5, hin5⟩ := hid_ok tot
  show wpAny _ (ktrTop (callerA.depth + 1) 7 (some []) (Str.ofString "law") _ _ _ _ _ []) _ _ _ _
  refine ConX.use (lv := 80) (con_over (Hd := Dh) (St := D') (hidden := hidL tot) (ps := qs) (cS := cc) ⟨ys, _, News.get N5 (.tail _ (.tail _ mDh)), iH⟩ (News.get N5 (.tail _ (.tail _ mSt))) (fun p hp => News.get N5 (.tail _ (.tail _ (mT p hp)))) hnd5 (by omega) (by omega) (fun i hi p hp e => stp.before hnd5 hi hp e) (fun e he => Nat.le_trans (stp.lenAll hnd5 (by omega) e he) (by decide))) M0 F5 N5 (fun p hp => nomatch hp) _ (fun p hp => ⟨hp, fun z => nomatch z⟩) rfl (by decide) (by decide) ?_
  intro v h6 tk6 g2 led t2 M2 F6 N6 hled hpost
  rename_i yr0 yr1
  (try clear t2); (try clear hin5); (try clear M0); (try clear lqs); (try clear mSt); (try clear mT); (try clear F5); (try clear yr0); (try clear hq); (try clear hPs); (try clear K0); (try clear ya16); (try clear ya12)
  revert ya11 lO dc3 hLv hl hP yr1 hd hLv2 hAbs N5 mDh mH mB mLs mL2 nG nO nOG loG stp iH hl5 hnd5 M2 F6 N6 hled hpost
  revert ya0 ya1 s₁ ya2 ya3 ya6 ya8 ya9 ya23 xs As cO ys Dh oc3 cs tot yn0 ps cc D' qs v8 ns D C ls c D2 C2 oD2 ls2 h3 tk3 B5 v h6 tk6 g2 led
  exact hP_.h
end
section
noncomputable def qs : PSigma (fun P : Prop => zWr P → qr.1) := by
  refine' ⟨_, fun hP_ => ?_⟩
  rotate_left
  walk_at "40"; (iterate 19 (generalize zf w_ = tk6; generalize zs w_ = v_; clear w_; generalize zf v_ = tk6; generalize zs v_ = w_; clear v_)); generalize zf w_ = g2, zs w_ = led; clear w_; rename_i ya0 ya1 s₁ ya2 ya3 ya6 ya8 ya9 ya23 xs As cO ys Dh oc3 cs tot yn0 ps cc D' qs v8 ns D C ls c D2 C2 oD2 ls2 h3 tk3 B5 v h6
  intro ya11 lO dc3 hLv hl hP yr1 hd hLv2 hAbs N5 mDh mH mB mLs mL2 nG nO nOG loG stp iH hl5 hnd5 M2 F6 N6 hled hpost
  refine hpost _ ?_; clear hpost; intro Ov oO lo e1_ e2_ hdO hLvO loO ndO hAbsO; subst e1_; subst e2_
  have frO : ∀ p ∈ (Ov, oO) :: lvEnts lo, p.1 ≠ (s₁.heap.objs.size + 1 + 1 + 1 + 1 + 1 + 1 + 1 : Nat) ∧ p.1 ≠ D2 ∧ p.1 ∉ B5.map (·.1) := fun p hp => by
    have hn := (hled p hp).resolve_left (fun z => nomatch z)
    refine ⟨fun z => ?_, fun z => ?_, fun z => ?_⟩
    · have := (N5 _ (.head _)).1
      rw [z] at hn
      exact absurd (this.symm.trans hn) (fun z => nomatch z)
    · have := (N5 _ (.tail _ (.head _))).1
      rw [z] at hn
      exact absurd (this.symm.trans hn) (fun z => nomatch z)
    · obtain ⟨q, hq, e⟩ := List.mem_map.mp z
      have := (N5 _ (.tail _ (.tail _ hq))).1
      rw [← e] at hn
      exact absurd (this.symm.trans hn) (fun z => nomatch z)
  obtain ⟨B6, eB⟩ : ∃ B6, B6 = (Ov, oO) :: (lvEnts lo ++ B5) := ⟨_, rfl⟩
  have N7 := News.sub N6 (led' := (s₁.heap.objs.size + 1 + 1 + 1 + 1 + 1 + 1 + 1, cO) :: (D2, oD2) :: B6) (fun p hp => by
    rw [eB] at hp
    simp only [List.mem_cons, List.mem_append, List.cons_append] at hp ⊢
    rcases hp with h | h | h | h | h <;> first | ((repeat' first | exact h | exact Or.inl h | apply Or.inr); done) | simp [h])
  have sub2 : ∀ p ∈ B5, p ∈ B6 := fun p hp => by rw [eB]; exact .tail _ (List.mem_append_right _ hp)
  replace mDh := sub2 _ mDh
  replace mH := sub2 _ mH
  replace mB := sub2 _ mB
  replace mLs : ∀ x ∈ ls, (x.a, W.listOf x.vs.toArray x.c) ∈ B6 := fun x hx => sub2 _ (mLs x hx)
  replace mL2 : ∀ x ∈ ls2, (x.a, W.listOf x.vs.toArray x.c) ∈ B6 := fun x hx => sub2 _ (mL2 x hx)
  have mO : (Ov, oO) ∈ B6 := by rw [eB]; exact .head _
  have mLo : ∀ x ∈ lo, (x.a, W.listOf x.vs.toArray x.c) ∈ B6 := fun x hx => by rw [eB]; exact .tail _ (List.mem_append_left _ (List.mem_map_of_mem (f := fun x : Lv => (x.a, W.listOf x.vs.toArray x.c)) hx))
  replace nO : (s₁.heap.objs.size + 1 + 1 + 1 + 1 + 1 + 1 + 1 : Nat) ∉ B6.map (·.1) := fun z => by
    rw [eB] at z
    rcases List.mem_cons.mp z with z | z
    · exact (frO _ (.head _)).1 z.symm
    rw [List.map_append] at z
    rcases List.mem_append.mp z with z | z
    · obtain ⟨p, hp, e⟩ := List.mem_map.mp z
      exact (frO p (.tail _ hp)).1 e
    · exact nO z
  replace nG : D2 ∉ B6.map (·.1) := fun z => by
    rw [eB] at z
    rcases List.mem_cons.mp z with z | z
    · exact (frO _ (.head _)).2.1 z.symm
    rw [List.map_append] at z
    rcases List.mem_append.mp z with z | z
    · obtain ⟨p, hp, e⟩ := List.mem_map.mp z
      exact (frO p (.tail _ hp)).2.1 e
    · exact nG z
  (try clear mSt); (try clear mS); (try clear mT); (try clear hled); (try clear ndO); (try clear frO); (try clear F5); (try clear N5); (try clear N6); (try clear sub2); (try clear eB)
  have X' := M2.X
  have T' := M2.T
  have B' := M2.B
  dsimp only
  k_steps
  rename_i ys0 ys1 ys2 ys3 ys4
  (try clear B'); (try clear T'); (try clear X'); (try clear nO); (try clear loO); (try clear lO)
  revert ya11 dc3 hLv hl hP yr1 hd hLv2 hAbs nOG loG stp iH hl5 hnd5 M2 hdO hLvO hAbsO mDh mH mB mLs mL2 mO mLo nG ys2 ys3 ys4
  revert ya0 ya1 s₁ ya2 ya3 ya6 ya8 ya9 ya23 xs As cO ys Dh oc3 cs tot yn0 ps cc D' qs v8 ns D C ls c D2 C2 oD2 ls2 g2 Ov oO lo B6 ys0 ys1 tk
  exact hP_.h
end
section
noncomputable def qt : PSigma (fun P : Prop => zWr P → qs.1) := by
  refine' ⟨_, fun hP_ => ?_⟩
  rotate_left
  walk_at "40"; (iterate 19 (generalize zf w_ = ys0; generalize zs w_ = v_; clear w_; generalize zf v_ = ys0; generalize zs v_ = w_; clear v_)); generalize zf w_ = ys1, zs w_ = tk; clear w_; rename_i ya0 ya1 s₁ ya2 ya3 ya6 ya8 ya9 ya23 xs As cO ys Dh oc3 cs tot yn0 ps cc D' qs v8 ns D C ls c D2 C2 oD2 ls2 g2 Ov oO lo B6
  intro ya11 dc3 hLv hl hP yr1 hd hLv2 hAbs nOG loG stp iH hl5 hnd5 M2 hdO hLvO hAbsO mDh mH mB mLs mL2 mO mLo nG ys2 ys3 ys4
  refine Blk.out ?_
  rename Fr _ _ _ _ => F7
  rename News _ _ _ _ => N8
  rename (_ = Data.cell (some (Value.ref Ov))) => dO
  rename Obj => oO2
  obtain ⟨free, rest, pl1, pl2, pl3⟩ := plain_law hnd5 (hid_mem tot) hl5 stp
  have ek : (ls2.map fun x => (x.k, x.xs, x.a)).map (fun e => (e.1, e.2.1)) = (hidL tot).map fun k => (k, pdF (qs.map Pr.abs) k) := by
    rw [List.map_map, ← hAbs]
    rfl
  have ekk : (ls2.map fun x => (x.k, x.xs, x.a)).map (·.1) = hidL tot := by
    have := congrArg (List.map Prod.fst) ek
    rw [List.map_map, List.map_map] at this
    simpa [Function.comp_def] using this
  have efold : (ls2.map fun x => (x.k, x.xs, x.a)).foldl (fun as e => addA as e.1 e.2.1) [] = as0F (pdF (qs.map Pr.abs)) (hidL tot) := by
    have h1 : ∀ nd : NeedL, nd.foldl (fun as e => addA as e.1 e.2.1) [] = (nd.map (fun e => (e.1, e.2.1))).foldl (fun as (e : Int × List Int) => addA as e.1 e.2) [] := fun nd => by
      rw [List.foldl_map]
    rw [h1, ek, List.foldl_map]
    rfl
  have ekvs : kvsOf (ls2.map fun x => (x.k, x.xs, x.a)) = lvKvs ls2 := by
    unfold kvsOf lvKvs
    rw [List.map_map]
    rfl
  have lls2 : ls2.length = 5 := by
    have := congrArg List.length hAbs
    rw [List.length_map, List.length_map, hl5] at this
    exact this
  have hxs2 : ∀ x ∈ ls2, x.xs = pdF (qs.map Pr.abs) x.k ∧ x.k ∈ hidL tot := fun x hx => by
    have : x.abs ∈ (hidL tot).map fun k => (k, pdF (qs.map Pr.abs) k) := hAbs ▸ List.mem_map_of_mem hx
    obtain ⟨k, hk, e⟩ := List.mem_map.mp this
    have e1 : k = x.k := congrArg Prod.fst e
    have e2 : pdF (qs.map Pr.abs) k = x.xs := congrArg Prod.snd e
    rw [e1] at e2 hk
    exact ⟨e2.symm, hk⟩
  obtain ⟨gr1, gr2, _, _⟩ := stp.gr hnd5 (by omega)
  show wpAny _ (ktrTop (callerA.depth + 1) 7 (some []) (Str.ofString "law") _ _ _ _ _ []) _ _ _ _
  refine ConX.use (lv := 300) (mu := [(D2, oD2)]) (con_all_read (G := D2) (oG := oD2) (nd := ls2.map fun x => (x.k, x.xs, x.a)) (free := free) (rest := rest) (by rw [ekvs]; exact hd) (fun e he => ?_) (by rw [List.length_map, lls2]; decide) loG (fun e he => ?_)) M2 F7 N8 (fun p hp => ?_) ((s₁.heap.objs.size + 1 + 1 + 1 + 1 + 1 + 1 + 1, oO2) :: B6) (fun p hp => ?_) rfl (by decide) (by decide) ?_
  · obtain ⟨x, hx, rfl⟩ := List.mem_map.mp he
    refine ⟨⟨x.vs, x.c, News.get N8 (.tail _ (.tail _ (mL2 x hx))), hLv2 x hx⟩, ?_⟩
    dsimp only
    rw [(hxs2 x hx).1]
    exact Nat.le_trans (nodup_len _ (hidL tot) (stp.pn _) (gr2 _ (hxs2 x hx).2)) (by omega)
  · rw [efold]
    obtain ⟨x, hx, rfl⟩ := List.mem_map.mp he
    exact pl1 _ (hxs2 x hx).2
  · rw [List.mem_singleton.mp hp]
    exact .tail _ (.head _)
  · rcases List.mem_cons.mp hp with rfl | hp
    · exact ⟨.head _, fun z => nOG (List.mem_singleton.mp z)⟩
    · refine ⟨.tail _ (.tail _ hp), fun z => nG ?_⟩
      have e : p.1 = D2 := List.mem_singleton.mp z
      rw [← e]
      exact List.mem_map_of_mem hp
  intro v h8 tk8 g3 led t3 M3 F8 N9 hled hpost
  rename_i yt0 yt1
  (try clear yt1); (try clear yt0); (try clear gr2); (try clear gr1); (try clear hxs2); (try clear lls2); (try clear ekvs); (try clear efold); (try clear ek); (try clear F7); (try clear nG); (try clear mL2); (try clear M2); (try clear loG); (try clear nOG); (try clear hAbs); (try clear hLv2); (try clear hd)
  have pd0t : Nat := 0
  revert ya11 dc3 hLv hl hP yr1 stp iH hl5 hnd5 hdO hLvO hAbsO mDh mH mB mLs mO mLo N8 dO pl1 pl2 pl3 ekk t3 M3 F8 N9 hled hpost
  revert ya0 ya1 s₁ ya2 ya3 ya6 ya8 ya9 ya23 xs As cO ys Dh oc3 cs tot yn0 ps cc D' qs v8 ns D C ls c D2 C2 oD2 ls2 g2 Ov oO lo B6 ys0 oO2 tk free rest v h8 tk8 g3 led pd0t
  exact hP_.h
end
section
noncomputable def qu : PSigma (fun P : Prop => zWr P → qt.1) := by
  refine' ⟨_, fun hP_ => ?_⟩
  rotate_left
  walk_at "48"; (iterate 23 (generalize zf w_ = g3; generalize zs w_ = v_; clear w_; generalize zf v_ = g3; generalize zs v_ = w_; clear v_)); generalize zf w_ = led, zs w_ = pd0t; clear w_; rename_i ya0 ya1 s₁ ya2 ya3 ya6 ya8 ya9 ya23 xs As cO ys Dh oc3 cs tot yn0 ps cc D' qs v8 ns D C ls c D2 C2 oD2 ls2 g2 Ov oO lo B6 ys0 oO2 tk free rest v h8 tk8
  intro ya11 dc3 hLv hl hP yr1 stp iH hl5 hnd5 hdO hLvO hAbsO mDh mH mB mLs mO mLo N8 dO pl1 pl2 pl3 ekk t3 M3 F8 N9 hled hpost
  refine hpost _ ?_; clear hpost; intro T ct Ab oA Rs cR rds e1_ e2_ hdA hRd loA ndA hAbsR; subst e1_; subst e2_
  obtain ⟨ndT, ndA⟩ := List.nodup_cons.mp ndA
  obtain ⟨ndA, _⟩ := List.nodup_cons.mp ndA
  have frA : Ab ≠ (s₁.heap.objs.size + 1 + 1 + 1 + 1 + 1 + 1 + 1 : Nat) ∧ Ab ∉ B6.map (·.1) := by
    have hn := (hled (Ab, oA) (.tail _ (.head _))).resolve_left (fun z => ndA (by
      rw [show Ab = D2 from List.mem_singleton.mp z]
      exact .tail _ (.head _)))
    have hn : _ = none := hn
    refine ⟨fun z => ?_, fun z => ?_⟩
    · have := (N8 _ (.head _)).1
      dsimp only at hn this
      rw [z, this] at hn
      exact nomatch hn
    · obtain ⟨q, hq, e⟩ := List.mem_map.mp z
      have := (N8 _ (.tail _ (.tail _ hq))).1
      have e : q.1 = Ab := e
      dsimp only at hn
      rw [← e, this] at hn
      exact nomatch hn
  obtain ⟨B7, eB⟩ : ∃ B7, B7 = (s₁.heap.objs.size + 1 + 1 + 1 + 1 + 1 + 1 + 1, oO2) :: (Rs, W.listOf (rdRows rds).toArray cR) :: (rdEnts rds ++ B6) := ⟨_, rfl⟩
  have N10 := News.sub N9 (led' := (T, tupO [.ref Ab, .ref Rs] ct) :: (Ab, oA) :: B7) (fun p hp => by
    rw [eB] at hp
    simp only [List.mem_cons, List.mem_append, List.cons_append] at hp ⊢
    rcases hp with h | h | h | h | h | h <;> first | ((repeat' first | exact h | exact Or.inl h | apply Or.inr); done) | simp [h])
  have sub2 : ∀ p ∈ B6, p ∈ B7 := fun p hp => by rw [eB]; exact .tail _ (.tail _ (List.mem_append_right _ hp))
  replace mDh := sub2 _ mDh
  replace mH := sub2 _ mH
  replace mB := sub2 _ mB
  replace mLs : ∀ x ∈ ls, (x.a, W.listOf x.vs.toArray x.c) ∈ B7 := fun x hx => sub2 _ (mLs x hx)
  replace mO := sub2 _ mO
  replace mLo : ∀ x ∈ lo, (x.a, W.listOf x.vs.toArray x.c) ∈ B7 := fun x hx => sub2 _ (mLo x hx)
  have mOc : (s₁.heap.objs.size + 1 + 1 + 1 + 1 + 1 + 1 + 1, oO2) ∈ B7 := by rw [eB]; exact .head _
  have mRs : (Rs, W.listOf (rdRows rds).toArray cR) ∈ B7 := by rw [eB]; exact .tail _ (.head _)
  have mRd : ∀ x ∈ rds, (x.F, W.listOf x.vf.toArray x.cf) ∈ B7 ∧ (x.R, W.listOf x.vr.toArray x.cr) ∈ B7 := fun x hx => by
    have h1 : ∀ p ∈ Rd.ents x, p ∈ B7 := fun p hp => by
      rw [eB]
      exact .tail _ (.tail _ (List.mem_append_left _ (List.mem_flatMap.mpr ⟨x, hx, hp⟩)))
    exact ⟨h1 _ (.head _), h1 _ (.tail _ (.head _))⟩
  have nA : Ab ∉ B7.map (·.1) := fun z => by
    rw [eB] at z
    rcases List.mem_cons.mp z with z | z
    · exact frA.1 z
    rcases List.mem_cons.mp z with z | z
    · exact ndA (by rw [show Ab = Rs from z]; exact .head _)
    rw [List.map_append] at z
    rcases List.mem_append.mp z with z | z
    · exact ndA (.tail _ (.tail _ z))
    · exact frA.2 z
  (try clear B'); (try clear T'); (try clear X'); (try clear nOG); (try clear nG); (try clear nO); (try clear mL2); (try clear hled); (try clear frA); (try clear F7); (try clear N8); (try clear N9); (try clear sub2); (try clear eB)
  have X' := M3.X
  have T' := M3.T
  have B' := M3.B
  dsimp only
  k_steps
  rename_i yu0 yu1 yu2 yu3 yu4 yu5 yu6 yu7 yu8
  (try clear yu3); (try clear ndA); (try clear yu2); (try clear ndT); (try clear yu1)
  revert ya11 dc3 hLv hl hP yr1 stp iH hl5 hnd5 hdO hLvO hAbsO dO pl1 pl2 pl3 ekk t3 M3 hdA hRd loA hAbsR mDh mH mB mLs mO mLo mOc mRs mRd nA X' T' B' yu7 yu8
  revert ya0 ya1 s₁ ya2 ya3 ya6 ya8 ya9 ya23 xs As cO ys Dh oc3 cs tot yn0 ps cc qs v8 ns D C ls c D2 C2 ls2 g2 Ov oO lo oO2 free rest g3 T ct Ab oA Rs cR rds B7 yu6 tk
  exact hP_.h
end
section
noncomputable def qv : PSigma (fun P : Prop => zWr P → qu.1) := by
  refine' ⟨_, fun hP_ => ?_⟩
  rotate_left
  walk_at "48"; (iterate 23 (generalize zf w_ = B7; generalize zs w_ = v_; clear w_; generalize zf v_ = B7; generalize zs v_ = w_; clear v_)); generalize zf w_ = yu6, zs w_ = tk; clear w_; rename_i ya0 ya1 s₁ ya2 ya3 ya6 ya8 ya9 ya23 xs As cO ys Dh oc3 cs tot yn0 ps cc qs v8 ns D C ls c D2 C2 ls2 g2 Ov oO lo oO2 free rest g3 T ct Ab oA Rs cR rds
  intro ya11 dc3 hLv hl hP yr1 stp iH hl5 hnd5 hdO hLvO hAbsO dO pl1 pl2 pl3 ekk t3 M3 hdA hRd loA hAbsR mDh mH mB mLs mO mLo mOc mRs mRd nA X' T' B' yu7 yu8
  refine Blk.out ?_
  rename Fr _ _ _ _ => F1
  rename News _ _ _ _ => N1
  replace N1 := News.tailN N1
  have kO : lo.map (·.k) = hidL tot := by
    have := congrArg (List.map Prod.fst) hAbsO
    rw [ovK, List.map_map] at this
    exact this
  have lxO : ∀ x ∈ lo, x.xs.length ≤ 64 := fun x hx => stp.lenAll hnd5 (by omega) x.abs (hAbsO ▸ List.mem_map_of_mem hx)
  refine wpAny_noRaise ?_
  refine' dict_rawC ?hclos ?hcs ?hpc rfl ?hnames ?_
  (case hclos => with_unfolding_all rfl)
  (case hcs => intro a cl; rfl)
  (case hpc => intro h; rfl)
  (case hnames => decide)
  k_steps
  refine Blk.out ?_
  refine it_list (T := Dh) (vs := ys) (c := ys.length) rfl F1 N1 (News.get N1 (.tail _ mDh)) ?_
  intro I hI oI F6 N6 lt6 ltI Wk hO
  (try clear N1); (try clear F1)
  refine dict_leaf (xs := hidL tot) (fun k => (hidL tot).filter fun j => decide (j ∈ lookL (overF (qs.map Pr.abs) (hidL tot)) k)) F6 N6 lt6 iH hnd5 (by omega) Wk hO (.tail _ mDh) ?_ ?_ ?_
  · intro i hi t C oc h tk led K hoc F N hsub hnd hK
    have hkey : (hidL tot)[i] ∈ lo.map (·.k) := by rw [kO]; exact List.getElem_mem hi
    replace mDh := hsub _ (.tail _ mDh)
    replace mH := hsub _ (.tail _ mH)
    replace mO := hsub _ (.tail _ mO)
    replace mOc := hsub _ (.tail _ mOc)
    replace mLo : ∀ x ∈ lo, (x.a, W.listOf x.vs.toArray x.c) ∈ led := fun x hx => hsub _ (.tail _ (mLo x hx))
    generalize (hidL tot)[i] = key at *
    obtain ⟨xo, hxo, hxk, hxv, hxl⟩ := lv_find hkey
    rw [hAbsO] at hxl
    have mX := mLo xo hxo
    have iX := hLvO xo hxo
    have lX := lxO xo hxo
    dsimp only at hK
    rw [hxl] at hK
    (try clear mRd); (try clear mRs); (try clear nA); (try clear hO); (try clear Wk); (try clear lt6); (try clear N6); (try clear F6); (try clear mLo); (try clear mLs); (try clear mB)
    k_steps
    refine Blk.out ?_
    refine' comp_raw ?hclos ?hcell rfl ?hnames ?_
    (case hclos => with_unfolding_all rfl)
    (case hcell => decide)
    (case hnames => decide)
    k_steps
    refine Blk.out ?_
    refine it_list (T := Dh) (vs := ys) (c := ys.length) rfl F N (News.get N (.tail _ mDh)) ?_
    intro J hJ oJ F7 N7 lt7 ltJ Wk2 hO2
    refine comp_leafG (news := (C + 1, oc) :: led) F7 N7 (fun p hp => Nat.ne_of_lt (lt7 p hp)) Wk2 lSt.get hO2 (fun gg => gg = g3) (fun _ _ _ _ N => News.get N (.tail _ mDh)) rfl (by rintro _ rfl; exact ⟨fun b => Iff.rfl, rfl⟩)
      (fun i acc2 => IntsAre acc2 (((hidL tot).take i).filter fun j => decide (j ∈ xo.xs))) .nil ?_ ?_
    · intro i2 v acc2 cc2 D4 C4 g5 oC h7 tk7 mC oI' hin2 hv2 hIv hG hoC FC NC ltD2 ltI3 eC2
      subst hG
      have hin3 : i2 < (hidL tot).length := by rw [← iH.length]; exact hin2
      obtain ⟨t2, ht2⟩ := ints_at iH i2 hin3
      rw [List.getElem?_toArray, hv2] at ht2
      obtain rfl := Option.some.inj ht2
      have e1 : ((hidL tot).take (i2 + 1)).filter (fun j => decide (j ∈ xo.xs)) = ((hidL tot).take i2).filter (fun j => decide (j ∈ xo.xs)) ++ (if (hidL tot)[i2] ∈ xo.xs then [(hidL tot)[i2]] else []) := by
        rw [List.take_succ_eq_append_getElem hin3, List.filter_append]
        congr 1
        by_cases z : (hidL tot)[i2] ∈ xo.xs <;> simp [z]
      have lacc : acc2.length ≤ 100 := by
        rw [hIv.length]
        exact Nat.le_trans (List.length_filter_le ..) (Nat.le_trans (List.length_take_le ..) (by omega))
      rw [e1]
      (try clear e1)
      generalize hel : (hidL tot)[i2] = el at *
      have ltC : ∀ p ∈ (D4, W.listOf acc2.toArray cc2) :: (J, oI') :: (C + 1, oc) :: led, p.1 ≠ C4 := fun p hp => by
        refine Nat.ne_of_lt (Nat.lt_of_le_of_lt ?_ (Nat.lt_of_lt_of_eq (Nat.lt_succ_self _) eC2.symm))
        rcases List.mem_cons.mp hp with rfl | hp
        · exact Nat.le_refl _
        rcases List.mem_cons.mp hp with rfl | hp
        · exact Nat.le_of_lt ltI3
        · exact Nat.le_of_lt (ltD2 p hp)
      refine assign_own FC NC hoC ltC ?_
      intro h8 oC8 tk8 F8 N8 hoC8
      obtain ⟨mC8, hoC9, hmi⟩ : ∃ mC', LCg.NsObj oC8 mC' ∧ mC' (Str.ofString "high") = some (.int el t2) := ⟨_, hoC8, if_pos rfl⟩
      (try clear N); (try clear F); (try clear NC); (try clear FC); (try clear hoC); (try clear hoC8)
      refine ifs_one ?_
      have d0 : D4 ≠ C4 := Nat.ne_of_lt (Nat.lt_of_lt_of_eq (Nat.lt_succ_self _) eC2.symm)
      have d1 : D4 ≠ J := Nat.ne_of_gt ltI3
      have d2 := Nat.ne_of_gt (ltD2 _ (.head _))
      dsimp only at d2
      have dB : (D4 : Nat) ∉ led.map (·.1) := fun z => by
        obtain ⟨p, hp, q⟩ := List.mem_map.mp z
        exact Nat.ne_of_lt (ltD2 p (.tail _ hp)) q
      (try clear F7); (try clear N7)
      k_steps
      refine Blk.out ?_
      dsimp only
      rename News _ _ _ _ => N9
      refine in_list_ints (vs := xo.vs) (ns := xo.xs) (by exact ⟨_, News.get N9 (.tail _ (.tail _ (.tail _ (.tail _ mX)))), rfl, _, rfl⟩) iX ?_
      rw [show (xo.xs.any (· == el)) = decide (el ∈ xo.xs) by rw [Bool.eq_iff_iff]; simp [List.any_eq_true]]
      by_cases hm : el ∈ xo.xs
      · rw [decide_eq_true hm, if_pos hm]
        k_steps
        rename Fr _ _ _ _ => F10
        rename News _ _ _ _ => N10
        simp only [List.push_toArray] at N10
        exact ⟨_, _, _, mC8, oC8, acc2 ++ [Value.int el _], _, rfl, rfl, hoC9, F10, N10, IntsAre.append hIv (.cons _ _ .nil)⟩
      · rw [decide_eq_false hm, if_neg hm, List.append_nil]
        k_steps
        exact ⟨_, _, _, mC8, oC8, acc2, _, rfl, rfl, hoC9, by assumption, N9, hIv⟩
    · intro acc2 cc2 D4 g5 h7 tk7 hIv hG F8 N8 ltD2
      subst hG
      rw [iH.length, List.take_length] at hIv
      dsimp only
      exact hK D4 acc2 cc2 _ _ _ hIv F8 N8 ltD2
  · intro D4 C4 h tk mC oC oD4 ls4 eC4 hoC F N hd4 hLv4 hAbs4 ltD ltA
    (try clear hO); (try clear Wk); (try clear lt6); (try clear N6); (try clear F6)
    rename_i yv0
    (try clear ltI); (try clear B'); (try clear mDh); (try clear t3); (try clear iH); (try clear dc3)
    revert ya11 hLv hl hP yr1 stp hl5 hnd5 hdO hLvO hAbsO dO pl1 pl2 pl3 ekk M3 hdA hRd loA hAbsR mH mB mLs mO mLo mOc mRs mRd nA X' T' kO lxO eC4 hoC F N hd4 hLv4 hAbs4 ltD ltA
    revert ya0 ya1 s₁ ya2 ya3 ya6 ya8 ya9 ya23 xs As cO ys Dh oc3 cs tot yn0 ps cc qs v8 ns D C ls c D2 C2 ls2 g2 Ov oO lo oO2 free rest g3 T Ab oA Rs cR rds B7 yu6 yv0 hI D4 C4 h tk mC oC oD4 ls4
    exact hP_.h
  · intro C cl
    exact rfl
end
section
noncomputable def qw : PSigma (fun P : Prop => zWr P → qv.1) := by
  refine' ⟨_, fun hP_ => ?_⟩
  rotate_left
  walk_at "56"; (iterate 27 (generalize zf w_ = oC; generalize zs w_ = v_; clear w_; generalize zf v_ = oC; generalize zs v_ = w_; clear v_)); generalize zf w_ = oD4, zs w_ = ls4; clear w_; rename_i ya0 ya1 s₁ ya2 ya3 ya6 ya8 ya9 ya23 xs As cO ys Dh oc3 cs tot yn0 ps cc qs v8 ns D C ls c D2 C2 ls2 g2 Ov oO lo oO2 free rest g3 T Ab oA Rs cR rds B7 yu6 yv0 hI D4 C4 h tk mC
  intro ya11 hLv hl hP yr1 stp hl5 hnd5 hdO hLvO hAbsO dO pl1 pl2 pl3 ekk M3 hdA hRd loA hAbsR mH mB mLs mO mLo mOc mRs mRd nA X' T' kO lxO eC4 hoC F N hd4 hLv4 hAbs4 ltD ltA
  refine ⟨_, _, _, _, _, _, hoC, F, N, ?_, ?_⟩
  · intro p hp
    rcases List.mem_cons.mp hp with rfl | hp
    · exact Nat.ne_of_lt (by rw [eC4]; exact Nat.lt_succ_self _)
    rcases List.mem_append.mp hp with hp | hp
    · exact Nat.ne_of_lt (by rw [eC4]; exact Nat.lt_succ_of_lt (ltD p hp))
    · obtain ⟨q, hq, rfl⟩ := lvEnts_mem hp
      exact Nat.ne_of_gt (ltA q hq)
  intro h3 F3 N3
  have w3 := Nat.lt_of_lt_of_le (ltD _ (.tail _ mH)) (Nat.le_refl _)
  dsimp only at w3
  have lo4 : (D4 == sysModules) = false := beq_eq_false_iff_ne.mpr (Nat.ne_of_gt (by show 1 < D4; omega))
  have eA : (rds.map fun x => (⟨x.k, x.F, x.vf, x.cf, x.found⟩ : Lv)).map Lv.abs = (hidL tot).map fun k => (k, (hidL tot).filter fun j => decide (j ∉ free k ++ [k])) := by
    have h1 : (rds.map Rd.abs).map (fun e => (e.1, e.2.1)) = (rds.map fun x => (⟨x.k, x.F, x.vf, x.cf, x.found⟩ : Lv)).map Lv.abs := by
      rw [List.map_map, List.map_map]
      rfl
    rw [← h1, hAbsR, ekk, List.map_map]
    have h2 : ∀ l : NeedL, l.map ((fun e : Int × List Int × List Int => (e.1, e.2.1)) ∘ fun e => (e.1, (hidL tot).filter (fun j => decide (j ∉ free e.1 ++ [e.1])), (free e.1 ++ [e.1] ++ rest e.1).reverse)) = (l.map (·.1)).map fun k => (k, (hidL tot).filter fun j => decide (j ∉ free k ++ [k])) := fun l => by
      rw [List.map_map]
      rfl
    rw [h2, ekk]
  have eKv : lvKvs (rds.map fun x => (⟨x.k, x.F, x.vf, x.cf, x.found⟩ : Lv)) = rdKvs rds := by
    unfold lvKvs rdKvs
    rw [List.map_map]
    rfl
  have kA : (rds.map fun x => (⟨x.k, x.F, x.vf, x.cf, x.found⟩ : Lv)).map (·.k) = hidL tot := by
    have := congrArg (List.map Prod.fst) eA
    rw [List.map_map, List.map_map] at this
    simpa [Function.comp_def, Lv.abs] using this
  have k4 : ls4.map (·.k) = hidL tot := by
    have := congrArg (List.map Prod.fst) hAbs4
    rw [List.map_map, List.map_map] at this
    simpa [Function.comp_def, Lv.abs] using this
  have okA : LvOk (rds.map fun x => (⟨x.k, x.F, x.vf, x.cf, x.found⟩ : Lv)) := fun y hy => by
    obtain ⟨x, hx, rfl⟩ := List.mem_map.mp hy
    exact (hRd x hx).1
  have ndK : ∀ y ∈ (rds.map fun x => (⟨x.k, x.F, x.vf, x.cf, x.found⟩ : Lv)), y.k ∈ ls4.map (·.k) ∧ lookL (ls4.map Lv.abs) y.k = y.xs := fun y hy => by
    have hy' : y.abs ∈ (hidL tot).map fun k => (k, (hidL tot).filter fun j => decide (j ∉ free k ++ [k])) := eA ▸ List.mem_map_of_mem hy
    obtain ⟨k, hk, e⟩ := List.mem_map.mp hy'
    have e1 : k = y.k := congrArg Prod.fst e
    have e2 : ((hidL tot).filter fun j => decide (j ∉ free k ++ [k])) = y.xs := congrArg Prod.snd e
    subst e1
    refine ⟨by rw [k4]; exact hk, ?_⟩
    rw [hAbs4, filter_none_ab (hidL tot) _ _ hk hnd5, ← e2, pl2 _ hk]
  dsimp only
  k_steps
  refine Blk.out ?_
  rw [← eKv] at hdA
  refine kne_pairs (knd := PySem.intKind _ _) N3 (.tail _ (.head _)) (.head _) hdA hd4 loA lo4 ?_ (show callerA.units + 3 < cLine by decide) (keq_lists (show callerA.units + 3 + 1 + 64 < cLine by decide) (fun y hy => News.get N3 (.tail _ (List.mem_append_right _ (List.mem_map_of_mem (f := fun x : Lv => (x.a, W.listOf x.vs.toArray x.c)) hy)))) hLv4 (fun y hy => ?_) okA ndK) ?_
  · have h1 := congrArg List.length kA
    have h2 := congrArg List.length k4
    simp only [List.length_map] at h1 h2
    simp only [lvKvs, List.length_map]
    omega
  · obtain ⟨x, hx, rfl⟩ := List.mem_map.mp hy
    exact News.get N3 (.tail _ (List.mem_append_left _ (.tail _ (mRd x hx).1)))
  replace N3 := News.sub N3 (led' := (Ab, oA) :: B7) (fun p hp => .tail _ (List.mem_append_left _ hp))
  (try clear hd4); (try clear hLv4); (try clear hAbs4); (try clear ndK); (try clear k4); (try clear lo4); (try clear w3); (try clear ltA); (try clear ltD); (try clear hoC); (try clear F); (try clear N)
  k_steps
  (try clear okA); (try clear eKv); (try clear eC4); (try clear mH); (try clear pl2); (try clear yr1)
  revert ya11 hLv hl hP stp hl5 hnd5 hdO hLvO hAbsO dO pl1 pl3 ekk M3 hdA hRd loA hAbsR mB mLs mO mLo mOc mRs mRd nA X' T' kO lxO F3 eA kA N3
  revert ya0 ya1 s₁ ya2 ya3 ya6 ya8 ya9 ya23 xs As cO ys Dh oc3 cs tot yn0 ps cc qs v8 ns D C ls c D2 C2 ls2 g2 Ov oO lo oO2 free rest g3 Ab oA Rs cR rds B7 D4 C4 tk h3
  exact hP_.h
end
section
noncomputable def qx : PSigma (fun P : Prop => zWr P → qw.1) := by
  refine' ⟨_, fun hP_ => ?_⟩
  rotate_left
  walk_at "48"; (iterate 23 (generalize zf w_ = C4; generalize zs w_ = v_; clear w_; generalize zf v_ = C4; generalize zs v_ = w_; clear v_)); generalize zf w_ = tk, zs w_ = h3; clear w_; rename_i ya0 ya1 s₁ ya2 ya3 ya6 ya8 ya9 ya23 xs As cO ys Dh oc3 cs tot yn0 ps cc qs v8 ns D C ls c D2 C2 ls2 g2 Ov oO lo oO2 free rest g3 Ab oA Rs cR rds B7 D4
  intro ya11 hLv hl hP stp hl5 hnd5 hdO hLvO hAbsO dO pl1 pl3 ekk M3 hdA hRd loA hAbsR mB mLs mO mLo mOc mRs mRd nA X' T' kO lxO F3 eA kA N3
  rename World => w0
  refine Blk.out ?_
  refine wpAny_noRaise ?_
  refine for_raw ?_
  k_steps
  refine Blk.out ?_
  rename IsRange _ _ _ _ _ _ _ _ => hr
  rename Fr _ _ _ _ => F5
  rename News _ _ _ _ => N5
  refine it_rangeP F5 N5 hr (by decide) (by decide) ?_
  intro J hJ F6 N6 lt6
  refine ⟨fun n s' => ∃ i h tk m' gg oAb, s' = { s₁ with heap := h, toks := tk } ∧ m' (Str.ofString "bags") = some (.ref D) ∧ m' (Str.ofString "above") = some (.ref Ab) ∧ m' (Str.ofString "rows") = some (.ref Rs) ∧
     Am _ _ _ _ callerA s₁.heap [] gg ∧ Fr gg s₁.heap.objs.size h m' ∧ News gg s₁.heap.objs.size h ((J, rOb 3 i) :: (Ab, oA) :: B7) ∧ i ≤ 3 ∧ n = 3 - i, 3, ⟨0, hJ, _, _, g3, oA, rfl, rfl, rfl, rfl, M3, F6, N6, Nat.zero_le _, rfl⟩, ?_⟩
  intro n9 s9 hI9
  rename_i yx0 yx1 yx2 yx3 yx4 yx5 yx6 yx7
  (try clear N6); (try clear F6); (try clear yx7); (try clear N5); (try clear F5); (try clear hr); (try clear yx1); (try clear yx0); (try clear T'); (try clear X'); (try clear M3)
  revert ya11 hLv hl hP stp hl5 hnd5 hdO hLvO hAbsO dO pl1 pl3 ekk hdA hRd loA hAbsR mB mLs mO mLo mOc mRs mRd nA kO lxO eA kA lt6 hI9
  revert w0 ya1 s₁ ya2 ya3 ya6 ya8 ya9 ya23 xs As cs tot qs v8 ns D C ls c D2 C2 ls2 Ov oO lo oO2 free rest Ab oA Rs cR rds B7 D4 C4 J n9 s9
  exact hP_.h
end
section
noncomputable def qy : PSigma (fun P : Prop => zWr P → qx.1) := by
  refine' ⟨_, fun hP_ => ?_⟩
  rotate_left
  walk_at "40"; (iterate 19 (generalize zf w_ = J; generalize zs w_ = v_; clear w_; generalize zf v_ = J; generalize zs v_ = w_; clear v_)); generalize zf w_ = n9, zs w_ = s9; clear w_; rename_i w0 ya1 s₁ ya2 ya3 ya6 ya8 ya9 ya23 xs As cs tot qs v8 ns D C ls c D2 C2 ls2 Ov oO lo oO2 free rest Ab oA Rs cR rds B7 D4 C4
  intro ya11 hLv hl hP stp hl5 hnd5 hdO hLvO hAbsO dO pl1 pl3 ekk hdA hRd loA hAbsR mB mLs mO mLo mOc mRs mRd nA kO lxO eA kA lt6 hI9
  obtain ⟨i, h9, tk9, m9, gg, oAb, rfl, kb, ka, kr, M9, F9, N9, hi3, rfl⟩ := hI9
  have F9' := frk F9 _ (kn1 kb (kn1 ka (kn1 kr kn0)))
  have st9 : rSt J 3 i h9 := (N9 _ (.head _)).1
  (try clear hr); (try clear N5); (try clear F5); (try clear F6); (try clear N6); (try clear F9)
  have ndJ : ∀ p ∈ (Ab, oA) :: B7, p.1 ≠ J := fun p hp => Nat.ne_of_lt (lt6 p hp)
  (try clear B'); (try clear T'); (try clear X')
  have X' := M9.X
  have T' := M9.T
  have B' := M9.B
  by_cases hil : i < 3
  · refine walk_item (range_walks rfl J 3) rSt.get F9' N9 (UpdF.head ndJ) st9 hil ?_
    rintro v h4 tk4 oJ4 ⟨tv, rfl⟩ st4 F4 N4
    have eo : oJ4 = rOb 3 (i + 1) := Option.some.inj ((N4 _ (.head _)).1.symm.trans st4)
    subst eo
    (try clear st4); (try clear st9); (try clear N9); (try clear F9')
    dsimp only [ForTurn]
    k_steps
    rename_i yy0 yy1 yy2
    (try clear B'); (try clear kr); (try clear ka); (try clear kb); (try clear lt6); (try clear ya11)
    revert hLv hl hP stp hl5 hnd5 hdO hLvO hAbsO dO pl1 pl3 ekk hdA hRd loA hAbsR mB mLs mO mLo mOc mRs mRd nA kO lxO eA kA M9 hi3 ndJ X' T' hil yy1 yy2
    revert w0 ya1 s₁ ya2 ya3 ya6 ya8 ya9 ya23 xs As cs tot qs v8 ns D C ls c D2 C2 ls2 Ov oO lo oO2 free rest Ab oA Rs cR rds B7 D4 C4 J i h9 tk9 m9 gg oAb h4 tv yy0 tk
    exact hP_.h
  · have ei : i = 3 := by omega
    subst ei
    refine walk_done (range_walks rfl J 3) (rest := (Ab, oA) :: B7) F9' N9 (fun p hp => ⟨.tail _ hp, ndJ p hp⟩) st9 (N9 _ (.head _)).2.1 (N9 _ (.head _)).2.2 ?_
    intro h4 tk4 F4 N4
    (try clear st9); (try clear N9); (try clear F9')
    dsimp only [ForTurn]
    k_steps
    have F0 : Fr s₁.heap s₁.heap.objs.size h4 _ := ⟨F4.ns, fun b o e => F4.keep _ _ (B'.stays b o e), Nat.le_refl _⟩
    (try clear B'); (try clear T'); (try clear X'); (try clear M9); (try clear N4); (try clear F4)
    dsimp only
    k_steps
end
section
noncomputable def qz : PSigma (fun P : Prop => zWr P → qy.1) := by
  refine' ⟨_, fun hP_ => ?_⟩
  rotate_left
  walk_at "48"; (iterate 23 (generalize zf w_ = tv; generalize zs w_ = v_; clear w_; generalize zf v_ = tv; generalize zs v_ = w_; clear v_)); generalize zf w_ = yy0, zs w_ = tk; clear w_; rename_i w0 ya1 s₁ ya2 ya3 ya6 ya8 ya9 ya23 xs As cs tot qs v8 ns D C ls c D2 C2 ls2 Ov oO lo oO2 free rest Ab oA Rs cR rds B7 D4 C4 J i h9 tk9 m9 gg oAb h4
  intro hLv hl hP stp hl5 hnd5 hdO hLvO hAbsO dO pl1 pl3 ekk hdA hRd loA hAbsR mB mLs mO mLo mOc mRs mRd nA kO lxO eA kA M9 hi3 ndJ X' T' hil yy1 yy2
  refine Blk.out ?_
  rename Fr _ _ _ _ => F1
  rename News _ _ _ _ => N1
  rename (ls.length = _) => hls0
  have hls3 : ls.length = 3 := hls0
  have lr : (rowVals ls).length = 3 := by simp only [rowVals, List.length_map]; exact hls3
  have getB : ∀ k : Nat, k < 3 → ∃ x ∈ ls, (rowVals ls)[k]? = some (.ref x.a) := fun k hk => by
    have hk' : k < ls.length := by omega
    exact ⟨ls[k], List.getElem_mem hk', by simp [rowVals, List.getElem?_map, List.getElem?_eq_getElem hk']⟩
  have fm : ∀ a : Int, 0 ≤ a.fmod 3 ∧ a.fmod 3 < 3 := fun a => by
    rw [Int.fmod_eq_emod_of_nonneg _ (by decide)]
    omega
  obtain ⟨x1, hx1, e1⟩ := getB i hil
  refine item_any (News.get N1 (.tail _ (.tail _ mB))) (by omega) (v := .ref x1.a) (by rw [Int.toNat_natCast]; exact e1) (by omega) ?_
  k_steps
  refine Blk.out ?_
  rename News _ _ _ _ => N2
  obtain ⟨a1, a2⟩ := fm ((i : Int) + 1)
  obtain ⟨x2, hx2, e2⟩ := getB (((i : Int) + 1).fmod 3).toNat (by omega)
  refine item_any (News.get N2 (.tail _ (.tail _ mB))) a1 (v := .ref x2.a) e2 (by omega) ?_
  k_steps
  refine Blk.out ?_
  rename News _ _ _ _ => N2
  obtain ⟨c1, c2⟩ := fm ((i : Int) + 2)
  obtain ⟨x3, hx3, e3⟩ := getB (((i : Int) + 2).fmod 3).toNat (by omega)
  refine item_any (News.get N2 (.tail _ (.tail _ mB))) c1 (v := .ref x3.a) e3 (by omega) ?_
  k_steps
  rename_i yz0 yz1 yz2 yz3 yz4 yz5 yz6 yz7 yz8 yz9
  (try clear yz3); (try clear e3); (try clear c2); (try clear c1); (try clear e2); (try clear a2); (try clear a1); (try clear e1); (try clear fm); (try clear getB); (try clear lr); (try clear hls3); (try clear T'); (try clear X'); (try clear mOc); (try clear mB); (try clear dO); (try clear hls0)
  revert hLv hP stp hl5 hnd5 hdO hLvO hAbsO pl1 pl3 ekk hdA hRd loA hAbsR mLs mO mLo mRs mRd nA kO lxO eA kA M9 hi3 ndJ hil hx1 hx2 hx3 yz8 yz9
  revert w0 ya1 s₁ ya2 ya3 ya6 ya8 ya9 ya23 xs As cs tot qs v8 ns D C ls c D2 C2 ls2 Ov oO lo oO2 free rest Ab oA Rs cR rds B7 D4 C4 J i m9 gg tv x1 x2 x3 yz1 yz7 tk
  exact hP_.h
end
section
noncomputable def qza : PSigma (fun P : Prop => zWr P → qz.1) := by
  refine' ⟨_, fun hP_ => ?_⟩
  rotate_left
  walk_at "48"; (iterate 23 (generalize zf w_ = yz1; generalize zs w_ = v_; clear w_; generalize zf v_ = yz1; generalize zs v_ = w_; clear v_)); generalize zf w_ = yz7, zs w_ = tk; clear w_; rename_i w0 ya1 s₁ ya2 ya3 ya6 ya8 ya9 ya23 xs As cs tot qs v8 ns D C ls c D2 C2 ls2 Ov oO lo oO2 free rest Ab oA Rs cR rds B7 D4 C4 J i m9 gg tv x1 x2 x3
  intro hLv hP stp hl5 hnd5 hdO hLvO hAbsO pl1 pl3 ekk hdA hRd loA hAbsR mLs mO mLo mRs mRd nA kO lxO eA kA M9 hi3 ndJ hil hx1 hx2 hx3 yz8 yz9
  refine Blk.out ?_
  rename Fr _ _ _ _ => F3
  rename News _ _ _ _ => N3
  replace N3 := News.tailN N3
  have hbag : ∀ x ∈ ls, x.xs.length ≤ 8 ∧ ∀ y ∈ x.xs, 0 ≤ y ∧ y < 5 := hP
  have xO : ∀ x ∈ lo, lookL (overF (qs.map Pr.abs) (hidL tot)) x.k = x.xs := fun x hx => lookL_in (e := x.abs) (by rw [ovK]; exact hnd5) (hAbsO ▸ List.mem_map_of_mem hx)
  show wpAny _ (ktrTop (callerA.depth + 1) 7 (some []) (Str.ofString "law") _ _ _ _ _ []) _ _ _ _
  refine ConX.use (lv := 100) (mu := []) (con_counts (A1 := x1.a) (B1 := x2.a) (Ov := Ov) (one := x1.xs) (other := x2.xs) (oO := oO) (ls := lo) ⟨_, _, News.get N3 (.tail _ (.tail _ (mLs x1 hx1))), hLv x1 hx1⟩ ⟨_, _, News.get N3 (.tail _ (.tail _ (mLs x2 hx2))), hLv x2 hx2⟩ (News.get N3 (.tail _ (.tail _ mO))) hdO (fun x hx => ⟨News.get N3 (.tail _ (.tail _ (mLo x hx))), hLvO x hx⟩) (fun j hj => by rw [kO, hid_mem]; omega) (fun x hx e he => (hid_mem tot e).mp (stp.abV (stp.up hnd5 (by rw [xO x hx]; exact he)).2).1) (fun x hx => Nat.le_trans (lxO x hx) (by decide))) M9 F3 N3 (fun p hp => nomatch hp) _ (fun p hp => ⟨hp, fun z => nomatch z⟩) rfl (by decide) (by decide) ?_
  intro v h6 tk6 g6 led t6 M6 F6 N6 hled hpost
  obtain ⟨rfl, tv6, rfl⟩ := hpost
  rw [hAbsO]
  replace N6 : News g6 s₁.heap.objs.size h6 ((J, rOb 3 (i + 1)) :: (Ab, oA) :: B7) := N6
  (try clear hled); (try clear B'); (try clear T'); (try clear X'); (try clear M9); (try clear F3); (try clear N3)
  have X' := M6.X
  have T' := M6.T
  have B' := M6.B
  dsimp only
  k_steps
  rename_i yza0 yza1 yza2 yza3
  (try clear B'); (try clear T'); (try clear t6); (try clear xO); (try clear lxO); (try clear kO); (try clear mLo); (try clear mO); (try clear hAbsO); (try clear hLvO); (try clear hdO); (try clear hnd5); (try clear stp); (try clear hP)
  revert hLv hl5 pl1 pl3 ekk hdA hRd loA hAbsR mLs mRs mRd nA eA kA hi3 ndJ hil hx1 hx2 hx3 hbag M6 X' yza2 yza3
  revert w0 ya1 s₁ ya2 ya3 ya6 ya8 ya9 ya23 xs As cs tot qs v8 ns D C ls c D2 C2 ls2 Ov oO lo free rest Ab oA Rs cR rds B7 D4 C4 J i m9 tv x1 x2 x3 yz1 g6 tv6 yza1 tk
  exact hP_.h
end
section
noncomputable def qzb : PSigma (fun P : Prop => zWr P → qza.1) := by
  refine' ⟨_, fun hP_ => ?_⟩
  rotate_left
  walk_at "48"; (iterate 23 (generalize zf w_ = tv6; generalize zs w_ = v_; clear w_; generalize zf v_ = tv6; generalize zs v_ = w_; clear v_)); generalize zf w_ = yza1, zs w_ = tk; clear w_; rename_i w0 ya1 s₁ ya2 ya3 ya6 ya8 ya9 ya23 xs As cs tot qs v8 ns D C ls c D2 C2 ls2 Ov oO lo free rest Ab oA Rs cR rds B7 D4 C4 J i m9 tv x1 x2 x3 yz1 g6
  intro hLv hl5 pl1 pl3 ekk hdA hRd loA hAbsR mLs mRs mRd nA eA kA hi3 ndJ hil hx1 hx2 hx3 hbag M6 X' yza2 yza3
  refine Blk.out ?_
  rename Fr _ _ _ _ => F3
  rename News _ _ _ _ => N3
  have hb1 := hbag x1 hx1
  have hb2 := hbag x2 hx2
  have hb3 := hbag x3 hx3
  refine kmk_add_ints F3 N3 ⟨_, News.get N3 (.tail _ (.tail _ (mLs x1 hx1))), rfl, _, rfl⟩ ⟨_, News.get N3 (.tail _ (.tail _ (mLs x3 hx3))), rfl, _, rfl⟩ (hLv x1 hx1) (hLv x3 hx3) ?_ (by rw [sizeLine_eq]; omega)
  intro U1 us1 h7 F4 N4 ltU1 iu1
  (try clear N3); (try clear F3)
  dsimp only
  k_steps
  refine Blk.out ?_
  refine kmk_add_ints F4 N4 ⟨_, News.get N4 (.tail _ (.tail _ (.tail _ (mLs x2 hx2)))), rfl, _, rfl⟩ ⟨_, News.get N4 (.tail _ (.tail _ (.tail _ (mLs x3 hx3)))), rfl, _, rfl⟩ (hLv x2 hx2) (hLv x3 hx3) ?_ (by rw [sizeLine_eq]; omega)
  intro U2 us2 h8 F5 N5 ltU2 iu2
  (try clear N4); (try clear F4)
  dsimp only
  k_steps
  refine Blk.out ?_
  have h1one : ∀ n ∈ x1.xs ++ x3.xs, 0 ≤ n ∧ n < 5 := fun n hn => (List.mem_append.mp hn).elim (hb1.2 n) (hb3.2 n)
  have h2one : ∀ n ∈ x2.xs ++ x3.xs, 0 ≤ n ∧ n < 5 := fun n hn => (List.mem_append.mp hn).elim (hb2.2 n) (hb3.2 n)
  have l1 : (x1.xs ++ x3.xs).length ≤ 16 := by rw [List.length_append]; omega
  have l2 : (x2.xs ++ x3.xs).length ≤ 16 := by rw [List.length_append]; omega
  obtain ⟨u1, u2, u3, u4⟩ := uldR_sub (x1.xs ++ x3.xs).reverse (x2.xs ++ x3.xs) []
  rw [List.length_reverse, List.length_nil, Nat.zero_add] at u3
  show wpAny _ (ktrTop (callerA.depth + 1) 7 (some []) (Str.ofString "law") _ _ _ _ _ []) _ _ _ _
  refine ConX.use (lv := 160) (mu := [(Ab, oA)]) (con_diffs (A1 := U1) (B1 := U2) (Ab := Ab) (one := x1.xs ++ x3.xs) (other := x2.xs ++ x3.xs) (oA := oA) (ls := rds.map fun x => (⟨x.k, x.F, x.vf, x.cf, x.found⟩ : Lv)) ⟨_, _, News.get N5 (.tail _ (.head _)), iu1⟩ ⟨_, _, News.get N5 (.head _), iu2⟩ (by omega) (by omega) hdA loA (fun x hx => ?_) (fun k hk => ?_) (fun k hk => ?_) (by omega) (by omega)) M6 F5 N5 (fun p hp => ?_) ((J, rOb 3 (i + 1)) :: B7) (fun p hp => ?_) rfl (by decide) (by decide) ?_
  · obtain ⟨y, hy, rfl⟩ := List.mem_map.mp hx
    exact ⟨y.vf, y.cf, News.get N5 (.tail _ (.tail _ (.tail _ (.tail _ (mRd y hy).1)))), (hRd y hy).1⟩
  · rw [kA, hid_mem]
    rcases u1 k hk with z | z
    · cases z
    · exact h1one k (List.mem_reverse.mp z)
  · rw [kA, hid_mem]
    exact h2one k (u2 k hk)
  · rw [List.mem_singleton.mp hp]
    exact .tail _ (.tail _ (.tail _ (.head _)))
  · rcases List.mem_cons.mp hp with rfl | hp
    · exact ⟨.tail _ (.tail _ (.head _)), fun z => ndJ (Ab, oA) (.head _) (List.mem_singleton.mp z).symm⟩
    · refine ⟨.tail _ (.tail _ (.tail _ (.tail _ hp))), fun z => nA ?_⟩
      have e : p.1 = Ab := List.mem_singleton.mp z
      rw [← e]
      exact List.mem_map_of_mem hp
  intro v h9' tk9' g9 led t9 M9 F9 N9 hled hpost
  obtain ⟨rfl, tv9, rfl⟩ := hpost
  obtain ⟨pq1, pq2⟩ := pl3 x1.xs x2.xs x3.xs hb1.2 hb2.2
  rw [eA, pq1]
  replace N9 := News.sub N9 (led' := (J, rOb 3 (i + 1)) :: (Ab, oA) :: B7) (fun p hp => by
    simp only [List.mem_cons, List.cons_append, List.nil_append] at hp ⊢
    rcases hp with h | h | h <;> first | ((repeat' first | exact h | exact Or.inl h | apply Or.inr); done) | simp [h])
  (try clear u4); (try clear u3); (try clear u2); (try clear u1); (try clear hled); (try clear B'); (try clear T'); (try clear X'); (try clear M6); (try clear F5); (try clear N5)
  have X' := M9.X
  have T' := M9.T
  have B' := M9.B
  dsimp only
  k_steps
  (try clear B'); (try clear T'); (try clear X'); (try clear pq1); (try clear t9); (try clear l2); (try clear l1); (try clear h2one); (try clear h1one); (try clear iu2); (try clear ltU2); (try clear iu1); (try clear ltU1); (try clear hb3); (try clear hb2); (try clear hb1); (try clear hbag); (try clear hx3); (try clear ndJ); (try clear eA); (try clear nA); (try clear loA); (try clear hdA); (try clear pl3)
  revert hLv hl5 pl1 ekk hRd hAbsR mLs mRs mRd kA hi3 hil hx1 hx2 M9 F9 pq2 N9
  revert w0 ya1 s₁ ya2 ya3 ya6 ya8 ya9 ya23 xs As cs tot qs v8 ns D C ls c D2 C2 ls2 Ov oO lo free rest Ab oA Rs cR rds B7 D4 C4 J i m9 tv x1 x2 x3 yz1 tv6 h9' tk9' g9
  exact hP_.h
end
section
theorem qzc : qzb.1 := by
  walk_at "48"; (iterate 23 (generalize zf w_ = h9'; generalize zs w_ = v_; clear w_; generalize zf v_ = h9'; generalize zs v_ = w_; clear v_)); generalize zf w_ = tk9', zs w_ = g9; clear w_; rename_i w0 ya1 s₁ ya2 ya3 ya6 ya8 ya9 ya23 xs As cs tot qs v8 ns D C ls c D2 C2 ls2 Ov oO lo free rest Ab oA Rs cR rds B7 D4 C4 J i m9 tv x1 x2 x3 yz1 tv6
  intro hLv hl5 pl1 ekk hRd hAbsR mLs mRs mRd kA hi3 hil hx1 hx2 M9 F9 pq2 N9
  refine Blk.out ?_
  rename Fr _ _ _ _ => F3
  rename News _ _ _ _ => N3
  have eR : (rds.map fun x => (⟨x.k, x.R, x.vr, x.cr, x.row⟩ : Lv)).map (·.xs) = (hidL tot).map fun k => (free k ++ [k] ++ rest k).reverse := by
    have h1 : (rds.map Rd.abs).map (fun e => e.2.2) = (rds.map fun x => (⟨x.k, x.R, x.vr, x.cr, x.row⟩ : Lv)).map (·.xs) := by
      rw [List.map_map, List.map_map]
      rfl
    rw [← h1, hAbsR, List.map_map]
    have h2 : ∀ l : NeedL, l.map ((fun e : Int × List Int × List Int => e.2.2) ∘ fun e => (e.1, ((ls2.map fun x => (x.k, x.xs, x.a)).map (·.1)).filter (fun j => decide (j ∉ free e.1 ++ [e.1])), (free e.1 ++ [e.1] ++ rest e.1).reverse)) = (l.map (·.1)).map fun k => (free k ++ [k] ++ rest k).reverse := fun l => by
      rw [List.map_map (f := fun x : Int × List Int × Addr => x.1) (l := l)]
      rfl
    rw [h2, ekk]
  have eRv : rowVals (rds.map fun x => (⟨x.k, x.R, x.vr, x.cr, x.row⟩ : Lv)) = rdRows rds := by
    unfold rowVals rdRows
    rw [List.map_map]
    rfl
  have lRd : rds.length = 5 := by
    have := congrArg List.length kA
    rw [List.length_map, List.length_map, hl5] at this
    exact this
  have lRow : ∀ x ∈ rds.map fun x => (⟨x.k, x.R, x.vr, x.cr, x.row⟩ : Lv), x.xs.length ≤ 1000 := fun x hx => by
    have : x.xs ∈ (hidL tot).map fun k => (free k ++ [k] ++ rest k).reverse := eR ▸ List.mem_map_of_mem (f := fun x : Lv => x.xs) hx
    obtain ⟨k, hk, e⟩ := List.mem_map.mp this
    obtain ⟨_, _, _, _, _, _, _, _, _, _, _, _, _, _, _, _, f50, r50⟩ := pl1 k hk
    rw [← e, List.length_reverse, List.length_append, List.length_append, List.length_singleton]
    omega
  show wpAny _ (ktrTop (callerA.depth + 1) 7 (some []) (Str.ofString "law") _ _ _ _ _ []) _ _ _ _
  refine ConX.use (lv := 100) (mu := []) (con_rows (A1 := x1.a) (B1 := x2.a) (Rs := Rs) (one := x1.xs) (other := x2.xs) (cR := cR) (rs := rds.map fun x => (⟨x.k, x.R, x.vr, x.cr, x.row⟩ : Lv)) ⟨_, _, News.get N3 (.tail _ (.tail _ (mLs x1 hx1))), hLv x1 hx1⟩ ⟨_, _, News.get N3 (.tail _ (.tail _ (mLs x2 hx2))), hLv x2 hx2⟩ (by rw [eRv]; exact News.get N3 (.tail _ (.tail _ mRs))) (fun z => ?_) (fun x hx => ?_) (by rw [List.length_map, lRd]; decide) lRow) M9 F3 N3 (fun p hp => nomatch hp) _ (fun p hp => ⟨hp, fun z => nomatch z⟩) rfl (by decide) (by decide) ?_
  · have := congrArg List.length z
    rw [List.length_map, lRd] at this
    exact absurd this (by decide)
  · obtain ⟨y, hy, rfl⟩ := List.mem_map.mp hx
    exact ⟨News.get N3 (.tail _ (.tail _ (mRd y hy).2)), (hRd y hy).2⟩
  intro v h10 tk10 g10 led t10 M10 F10 N10 hled hpost
  obtain ⟨rfl, tv10, rfl⟩ := hpost
  rw [eR, pq2]
  replace N10 : News g10 s₁.heap.objs.size h10 ((J, rOb 3 (i + 1)) :: (Ab, oA) :: B7) := N10
  (try clear hled); (try clear B'); (try clear T'); (try clear X'); (try clear F3); (try clear N3)
  have X' := M10.X
  have T' := M10.T
  have B' := M10.B
  dsimp only
  k_steps
  · exact ⟨3 - (i + 1), by omega, i + 1, h10, _, _, g10, oA, rfl, rfl, rfl, rfl, M10, by assumption, by assumption, hil, rfl⟩
end
end
end LW
end Mine
theorem PySem.Challenge.cw_ik0181_01_holds : PySem.Challenge.rw_ik0181_01.Holds :=
  Mine.LW.qa.2 ⟨Mine.LW.qa0.2 ⟨Mine.LW.qb.2 ⟨Mine.LW.qc.2 ⟨Mine.LW.qd.2 ⟨Mine.LW.qe.2 ⟨Mine.LW.qf.2 ⟨Mine.LW.qg.2 ⟨Mine.LW.qh.2 ⟨Mine.LW.qi.2 ⟨Mine.LW.qj.2 ⟨Mine.LW.qk.2 ⟨Mine.LW.ql.2 ⟨Mine.LW.qm.2 ⟨Mine.LW.qn.2 ⟨Mine.LW.qo.2 ⟨Mine.LW.qp.2 ⟨Mine.LW.qq.2 ⟨Mine.LW.qr.2 ⟨Mine.LW.qs.2 ⟨Mine.LW.qt.2 ⟨Mine.LW.qu.2 ⟨Mine.LW.qv.2 ⟨Mine.LW.qw.2 ⟨Mine.LW.qx.2 ⟨Mine.LW.qy.2 ⟨Mine.LW.qz.2 ⟨Mine.LW.qza.2 ⟨Mine.LW.qzb.2 ⟨Mine.LW.qzc⟩⟩⟩⟩⟩⟩⟩⟩⟩⟩⟩⟩⟩⟩⟩⟩⟩⟩⟩⟩⟩⟩⟩⟩⟩⟩⟩⟩⟩
