import PyProof.Rows.All
import Wide.All
import OpenK.AllK
import Wide.FinOn
import Lean
import PySem.Challenge.RW_oy0329_01
set_option compiler.extract_closed false
open PySem PySem.W PyProof.Rows PySem.Calls PySem.Spec PySem.W.X PySem.W.XRun
set_option Elab.async false
set_option maxRecDepth 100000
set_option maxHeartbeats 8000000
set_option linter.unusedVariables false
set_option linter.unusedSimpArgs false
namespace Mine
noncomputable def PP : Program := PySem.Challenge.rw_oy0329_01.prog
noncomputable def keepS (i : Nat) : Bool := i != 1 && i != 7 && i != 14 && i != 20 && i != 22
noncomputable def QQ : Program := { PP with main := { PP.main with body := (PP.main.body.zipIdx.filter fun x => keepS x.2).map (·.1) } }
noncomputable def Lz : List PySem.Str := ["_NodeInfo"]
open PySem.W.Fast in
noncomputable def hdRun (p : Program) (w : World) (n₀ : Nat) (ann : Option Value) : Nat → SharedT → Thread → Option SharedT
  | 0, _, _ => none
  | n + 1, s, t => match through t with
    | true => some s
    | false => match tw6613529449190102663 n₀ ann t with
      | false => none
      | true => match tw10156331382660048174 (tw11892475500146522536 tw14364793385576792824) p w s t with
        | some (s', t') => hdRun p w n₀ ann n s' t'
        | none => none
open PySem.W.Fast in
theorem hdRun_of {p : Program} {w : World} {n₀ : Nat} {ann : Option Value} : ∀ {n : Nat} {s s' : SharedT} {t : Thread}, hdRun p w n₀ ann n s t = some s' → topRun treeTable p w n₀ ann n s.abs t = some s'.abs
  | 0, _, _, _, h => by cases h
  | n + 1, s, s', t, h => by
    unfold hdRun at h
    rw [← te6613529449190102663, ← te10156331382660048174, ← te11892475500146522536, ← te14364793385576792824] at h
    unfold topRun
    cases he : through t with
    | true => rw [he] at h; cases h; rfl
    | false =>
      rw [he] at h
      cases hk : stepOk n₀ ann t with
      | false => rw [hk] at h; cases h
      | true =>
        rw [hk] at h
        cases hs : stepT (denote treeTable) p w s t with
        | none => rw [hs] at h; cases h
        | some r => obtain ⟨s₂, t₂⟩ := r; rw [hs] at h; rw [stepT_spec hs]; exact hdRun_of h
noncomputable def hdTree (P : Params) : BT := (boot_heap P).objs.toList.zipIdx.foldl (fun t x => t.ins x.2 x.1) .nil
noncomputable def hdS (w : World) (os : OsState) : SharedT := ⟨hdTree w.params, 11, {}, #[], boot_drawn, boot_toks, os⟩
theorem hdS_abs : ∀ w os, (hdS w os).abs = ⟨boot_heap w.params, #[], boot_drawn, boot_toks, os⟩ := by intro w os; kernel_rfl
theorem hd_ns (w : World) : ((boot_heap w.params).isNs mainGlobals && (#[] : Array GenState).size == 0) = true := by kernel_rfl
theorem hd_size (w : World) : (boot_heap w.params).objs.size = 11 := by kernel_rfl
open PySem.W.Fast in
theorem hdLeft {p q : Program} {loose : List Str} {Xt : Shared → Bool} {α : Type} {Yf : Shared → α} {Ya : World → α} {N : Nat}
    (e : opening p = plainProg p.main.scope.names) (hN : Nat.ble 600 N = true) (f : ∀ s, fenceModules? p s = some s)
    (run : ∀ w os, (hdRun p w 11 ((boot_heap w.params).nsMap mainGlobals "__annotations__") N (hdS w os) (topStub p)).map (fun s =>
      (staticsOk (importedModules p.main.body) (boot_heap w.params) s.abs.heap && namesBound p s.abs.heap && gensDone s.abs && laidKept (boot_heap w.params) s.abs.heap,
        tw4187177175401517315 q loose (importedModules p.main.body) Xt true s.abs, Yf s.abs)) = some (true, openGood q loose, Ya w)) : LeftO p q loose Xt Yf Ya N := fun w => by
  obtain ⟨⟨h, gs, d, k, os⟩, e1, e2⟩ := Option.map_eq_some_iff.mp (boot_open e hN f w)
  obtain ⟨rfl, rfl, rfl, rfl⟩ : h = boot_heap w.params ∧ gs = #[] ∧ d = boot_drawn ∧ k = boot_toks := by simpa using e2
  obtain ⟨s, r1, r2⟩ := Option.map_eq_some_iff.mp (run w os)
  rw [← te4187177175401517315] at r2
  have l1 := congrArg Prod.fst r2
  have r := hdRun_of r1
  rw [hdS_abs] at r
  have t : topFrom treeTable p w N ⟨boot_heap w.params, #[], boot_drawn, boot_toks, os⟩ = some s.abs := by
    unfold topFrom
    dsimp only
    rw [hd_ns, hd_size, r]
    show (match staticsOk (importedModules p.main.body) (boot_heap w.params) s.abs.heap && namesBound p s.abs.heap && gensDone s.abs && laidKept (boot_heap w.params) s.abs.heap with | true => _ | false => _) = _
    dsimp only at l1
    rw [l1]
  unfold openEnds
  rw [e1]
  show (topFrom treeTable p w N _).map _ = _
  rw [t]
  exact congrArg some (congrArg Prod.snd r2)
theorem kh : True := by
  k_with "head" => ((fail_if_success k_extra "a_head"); refine holds_open (q := QQ) (loose := Lz) (Xt := fun s => xlAt QQ [] s && recOk (RowW.records (OpenRow.toRowW (OpenLaw.row PySem.Challenge.rw_oy0329_01))) s) (XP := XL QQ []) (Yf := Hook.obs ?H) (Ya := Hook.val ?H) (YP := Hook.says ?H) (N := 3764) ?l1 (Hook.of ?H) (Hook.keeps ?H) (fun s e => xl_of s (Bool.and_eq_true_iff.mp e).1) XL.keeps (by rfl) (by rfl) (by rfl) (fun s e => recFacts_of (Bool.and_eq_true_iff.mp e).2) (by rfl) (by first | assumption | decide +kernel) (by decide +kernel) ⟨rfl, rfl, rfl, rfl, rfl, by decide +kernel⟩ ?hw ?hc)
  k_with "law" => refine holds_law (by rw [PySem.W.Fast.te9446332074065402090]; decide +kernel) fun said => ?_
  k_with "left" => ((fail_if_success k_extra "a_head"); case l1 => refine hdLeft (by kernel_rfl) rfl (by intro s; kernel_rfl) ?_; intro w os; kernel_rfl)
  trivial
set_option hygiene false in
local macro_rules | `(tactic| o_head $H) => `(tactic| (k_extra "head"; (case' H => exact $H); k_extra "left"))
local macro_rules | `(tactic| k_head) => `(tactic| x_head)
local macro_rules | `(tactic| o_law) => `(tactic| k_extra "law")
open_top hd for PySem.Challenge.rw_oy0329_01
theorem kz_a_head : True := by
  k_with "a_head" => skip
  trivial
/-! many at once: taken apart and put together in one step (smaller terms) -/
theorem e2 {α1 α2 : Type} {p : α1 → α2 → Prop} {P : Prop} (h : ∃ x1 x2, p x1 x2) (f : ∀ x1 x2, p x1 x2 → P) : P := h.elim fun x h => h.elim (f x)
theorem e3 {α1 α2 α3 : Type} {p : α1 → α2 → α3 → Prop} {P : Prop} (h : ∃ x1 x2 x3, p x1 x2 x3) (f : ∀ x1 x2 x3, p x1 x2 x3 → P) : P := e2 h fun x1 x2 h => h.elim (f x1 x2)
theorem e4 {α1 α2 α3 α4 : Type} {p : α1 → α2 → α3 → α4 → Prop} {P : Prop} (h : ∃ x1 x2 x3 x4, p x1 x2 x3 x4) (f : ∀ x1 x2 x3 x4, p x1 x2 x3 x4 → P) : P := e3 h fun x1 x2 x3 h => h.elim (f x1 x2 x3)
theorem e5 {α1 α2 α3 α4 α5 : Type} {p : α1 → α2 → α3 → α4 → α5 → Prop} {P : Prop} (h : ∃ x1 x2 x3 x4 x5, p x1 x2 x3 x4 x5) (f : ∀ x1 x2 x3 x4 x5, p x1 x2 x3 x4 x5 → P) : P := e4 h fun x1 x2 x3 x4 h => h.elim (f x1 x2 x3 x4)
theorem e6 {α1 α2 α3 α4 α5 α6 : Type} {p : α1 → α2 → α3 → α4 → α5 → α6 → Prop} {P : Prop} (h : ∃ x1 x2 x3 x4 x5 x6, p x1 x2 x3 x4 x5 x6) (f : ∀ x1 x2 x3 x4 x5 x6, p x1 x2 x3 x4 x5 x6 → P) : P := e5 h fun x1 x2 x3 x4 x5 h => h.elim (f x1 x2 x3 x4 x5)
theorem e7 {α1 α2 α3 α4 α5 α6 α7 : Type} {p : α1 → α2 → α3 → α4 → α5 → α6 → α7 → Prop} {P : Prop} (h : ∃ x1 x2 x3 x4 x5 x6 x7, p x1 x2 x3 x4 x5 x6 x7) (f : ∀ x1 x2 x3 x4 x5 x6 x7, p x1 x2 x3 x4 x5 x6 x7 → P) : P := e6 h fun x1 x2 x3 x4 x5 x6 h => h.elim (f x1 x2 x3 x4 x5 x6)
theorem e8 {α1 α2 α3 α4 α5 α6 α7 α8 : Type} {p : α1 → α2 → α3 → α4 → α5 → α6 → α7 → α8 → Prop} {P : Prop} (h : ∃ x1 x2 x3 x4 x5 x6 x7 x8, p x1 x2 x3 x4 x5 x6 x7 x8) (f : ∀ x1 x2 x3 x4 x5 x6 x7 x8, p x1 x2 x3 x4 x5 x6 x7 x8 → P) : P := e7 h fun x1 x2 x3 x4 x5 x6 x7 h => h.elim (f x1 x2 x3 x4 x5 x6 x7)
theorem e9 {α1 α2 α3 α4 α5 α6 α7 α8 α9 : Type} {p : α1 → α2 → α3 → α4 → α5 → α6 → α7 → α8 → α9 → Prop} {P : Prop} (h : ∃ x1 x2 x3 x4 x5 x6 x7 x8 x9, p x1 x2 x3 x4 x5 x6 x7 x8 x9) (f : ∀ x1 x2 x3 x4 x5 x6 x7 x8 x9, p x1 x2 x3 x4 x5 x6 x7 x8 x9 → P) : P := e8 h fun x1 x2 x3 x4 x5 x6 x7 x8 h => h.elim (f x1 x2 x3 x4 x5 x6 x7 x8)
theorem e10 {α1 α2 α3 α4 α5 α6 α7 α8 α9 α10 : Type} {p : α1 → α2 → α3 → α4 → α5 → α6 → α7 → α8 → α9 → α10 → Prop} {P : Prop} (h : ∃ x1 x2 x3 x4 x5 x6 x7 x8 x9 x10, p x1 x2 x3 x4 x5 x6 x7 x8 x9 x10) (f : ∀ x1 x2 x3 x4 x5 x6 x7 x8 x9 x10, p x1 x2 x3 x4 x5 x6 x7 x8 x9 x10 → P) : P := e9 h fun x1 x2 x3 x4 x5 x6 x7 x8 x9 h => h.elim (f x1 x2 x3 x4 x5 x6 x7 x8 x9)
theorem e11 {α1 α2 α3 α4 α5 α6 α7 α8 α9 α10 α11 : Type} {p : α1 → α2 → α3 → α4 → α5 → α6 → α7 → α8 → α9 → α10 → α11 → Prop} {P : Prop} (h : ∃ x1 x2 x3 x4 x5 x6 x7 x8 x9 x10 x11, p x1 x2 x3 x4 x5 x6 x7 x8 x9 x10 x11) (f : ∀ x1 x2 x3 x4 x5 x6 x7 x8 x9 x10 x11, p x1 x2 x3 x4 x5 x6 x7 x8 x9 x10 x11 → P) : P := e10 h fun x1 x2 x3 x4 x5 x6 x7 x8 x9 x10 h => h.elim (f x1 x2 x3 x4 x5 x6 x7 x8 x9 x10)
theorem e12 {α1 α2 α3 α4 α5 α6 α7 α8 α9 α10 α11 α12 : Type} {p : α1 → α2 → α3 → α4 → α5 → α6 → α7 → α8 → α9 → α10 → α11 → α12 → Prop} {P : Prop} (h : ∃ x1 x2 x3 x4 x5 x6 x7 x8 x9 x10 x11 x12, p x1 x2 x3 x4 x5 x6 x7 x8 x9 x10 x11 x12) (f : ∀ x1 x2 x3 x4 x5 x6 x7 x8 x9 x10 x11 x12, p x1 x2 x3 x4 x5 x6 x7 x8 x9 x10 x11 x12 → P) : P := e11 h fun x1 x2 x3 x4 x5 x6 x7 x8 x9 x10 x11 h => h.elim (f x1 x2 x3 x4 x5 x6 x7 x8 x9 x10 x11)
theorem i2 {α1 α2 : Type} {p : α1 → α2 → Prop} (x1 : α1) (x2 : α2) (h : p x1 x2) : ∃ x1 x2, p x1 x2 := ⟨x1, x2, h⟩
theorem i3 {α1 α2 α3 : Type} {p : α1 → α2 → α3 → Prop} (x1 : α1) (x2 : α2) (x3 : α3) (h : p x1 x2 x3) : ∃ x1 x2 x3, p x1 x2 x3 := ⟨x1, x2, x3, h⟩
theorem i4 {α1 α2 α3 α4 : Type} {p : α1 → α2 → α3 → α4 → Prop} (x1 : α1) (x2 : α2) (x3 : α3) (x4 : α4) (h : p x1 x2 x3 x4) : ∃ x1 x2 x3 x4, p x1 x2 x3 x4 := ⟨x1, x2, x3, x4, h⟩
theorem i5 {α1 α2 α3 α4 α5 : Type} {p : α1 → α2 → α3 → α4 → α5 → Prop} (x1 : α1) (x2 : α2) (x3 : α3) (x4 : α4) (x5 : α5) (h : p x1 x2 x3 x4 x5) : ∃ x1 x2 x3 x4 x5, p x1 x2 x3 x4 x5 := ⟨x1, x2, x3, x4, x5, h⟩
theorem i6 {α1 α2 α3 α4 α5 α6 : Type} {p : α1 → α2 → α3 → α4 → α5 → α6 → Prop} (x1 : α1) (x2 : α2) (x3 : α3) (x4 : α4) (x5 : α5) (x6 : α6) (h : p x1 x2 x3 x4 x5 x6) : ∃ x1 x2 x3 x4 x5 x6, p x1 x2 x3 x4 x5 x6 := ⟨x1, x2, x3, x4, x5, x6, h⟩
theorem i7 {α1 α2 α3 α4 α5 α6 α7 : Type} {p : α1 → α2 → α3 → α4 → α5 → α6 → α7 → Prop} (x1 : α1) (x2 : α2) (x3 : α3) (x4 : α4) (x5 : α5) (x6 : α6) (x7 : α7) (h : p x1 x2 x3 x4 x5 x6 x7) : ∃ x1 x2 x3 x4 x5 x6 x7, p x1 x2 x3 x4 x5 x6 x7 := ⟨x1, x2, x3, x4, x5, x6, x7, h⟩
theorem i8 {α1 α2 α3 α4 α5 α6 α7 α8 : Type} {p : α1 → α2 → α3 → α4 → α5 → α6 → α7 → α8 → Prop} (x1 : α1) (x2 : α2) (x3 : α3) (x4 : α4) (x5 : α5) (x6 : α6) (x7 : α7) (x8 : α8) (h : p x1 x2 x3 x4 x5 x6 x7 x8) : ∃ x1 x2 x3 x4 x5 x6 x7 x8, p x1 x2 x3 x4 x5 x6 x7 x8 := ⟨x1, x2, x3, x4, x5, x6, x7, x8, h⟩
theorem i9 {α1 α2 α3 α4 α5 α6 α7 α8 α9 : Type} {p : α1 → α2 → α3 → α4 → α5 → α6 → α7 → α8 → α9 → Prop} (x1 : α1) (x2 : α2) (x3 : α3) (x4 : α4) (x5 : α5) (x6 : α6) (x7 : α7) (x8 : α8) (x9 : α9) (h : p x1 x2 x3 x4 x5 x6 x7 x8 x9) : ∃ x1 x2 x3 x4 x5 x6 x7 x8 x9, p x1 x2 x3 x4 x5 x6 x7 x8 x9 := ⟨x1, x2, x3, x4, x5, x6, x7, x8, x9, h⟩
theorem i10 {α1 α2 α3 α4 α5 α6 α7 α8 α9 α10 : Type} {p : α1 → α2 → α3 → α4 → α5 → α6 → α7 → α8 → α9 → α10 → Prop} (x1 : α1) (x2 : α2) (x3 : α3) (x4 : α4) (x5 : α5) (x6 : α6) (x7 : α7) (x8 : α8) (x9 : α9) (x10 : α10) (h : p x1 x2 x3 x4 x5 x6 x7 x8 x9 x10) : ∃ x1 x2 x3 x4 x5 x6 x7 x8 x9 x10, p x1 x2 x3 x4 x5 x6 x7 x8 x9 x10 := ⟨x1, x2, x3, x4, x5, x6, x7, x8, x9, x10, h⟩
theorem i11 {α1 α2 α3 α4 α5 α6 α7 α8 α9 α10 α11 : Type} {p : α1 → α2 → α3 → α4 → α5 → α6 → α7 → α8 → α9 → α10 → α11 → Prop} (x1 : α1) (x2 : α2) (x3 : α3) (x4 : α4) (x5 : α5) (x6 : α6) (x7 : α7) (x8 : α8) (x9 : α9) (x10 : α10) (x11 : α11) (h : p x1 x2 x3 x4 x5 x6 x7 x8 x9 x10 x11) : ∃ x1 x2 x3 x4 x5 x6 x7 x8 x9 x10 x11, p x1 x2 x3 x4 x5 x6 x7 x8 x9 x10 x11 := ⟨x1, x2, x3, x4, x5, x6, x7, x8, x9, x10, x11, h⟩
theorem i12 {α1 α2 α3 α4 α5 α6 α7 α8 α9 α10 α11 α12 : Type} {p : α1 → α2 → α3 → α4 → α5 → α6 → α7 → α8 → α9 → α10 → α11 → α12 → Prop} (x1 : α1) (x2 : α2) (x3 : α3) (x4 : α4) (x5 : α5) (x6 : α6) (x7 : α7) (x8 : α8) (x9 : α9) (x10 : α10) (x11 : α11) (x12 : α12) (h : p x1 x2 x3 x4 x5 x6 x7 x8 x9 x10 x11 x12) : ∃ x1 x2 x3 x4 x5 x6 x7 x8 x9 x10 x11 x12, p x1 x2 x3 x4 x5 x6 x7 x8 x9 x10 x11 x12 := ⟨x1, x2, x3, x4, x5, x6, x7, x8, x9, x10, x11, x12, h⟩
theorem c2 {a1 a2 P : Prop} (h : a1 ∧ a2) (f : a1 → a2 → P) : P := f h.1 h.2
theorem c3 {a1 a2 a3 P : Prop} (h : a1 ∧ a2 ∧ a3) (f : a1 → a2 → a3 → P) : P := f h.1 h.2.1 h.2.2
theorem c4 {a1 a2 a3 a4 P : Prop} (h : a1 ∧ a2 ∧ a3 ∧ a4) (f : a1 → a2 → a3 → a4 → P) : P := f h.1 h.2.1 h.2.2.1 h.2.2.2
theorem c5 {a1 a2 a3 a4 a5 P : Prop} (h : a1 ∧ a2 ∧ a3 ∧ a4 ∧ a5) (f : a1 → a2 → a3 → a4 → a5 → P) : P := f h.1 h.2.1 h.2.2.1 h.2.2.2.1 h.2.2.2.2
theorem c6 {a1 a2 a3 a4 a5 a6 P : Prop} (h : a1 ∧ a2 ∧ a3 ∧ a4 ∧ a5 ∧ a6) (f : a1 → a2 → a3 → a4 → a5 → a6 → P) : P := f h.1 h.2.1 h.2.2.1 h.2.2.2.1 h.2.2.2.2.1 h.2.2.2.2.2
theorem c7 {a1 a2 a3 a4 a5 a6 a7 P : Prop} (h : a1 ∧ a2 ∧ a3 ∧ a4 ∧ a5 ∧ a6 ∧ a7) (f : a1 → a2 → a3 → a4 → a5 → a6 → a7 → P) : P := f h.1 h.2.1 h.2.2.1 h.2.2.2.1 h.2.2.2.2.1 h.2.2.2.2.2.1 h.2.2.2.2.2.2
theorem c8 {a1 a2 a3 a4 a5 a6 a7 a8 P : Prop} (h : a1 ∧ a2 ∧ a3 ∧ a4 ∧ a5 ∧ a6 ∧ a7 ∧ a8) (f : a1 → a2 → a3 → a4 → a5 → a6 → a7 → a8 → P) : P := f h.1 h.2.1 h.2.2.1 h.2.2.2.1 h.2.2.2.2.1 h.2.2.2.2.2.1 h.2.2.2.2.2.2.1 h.2.2.2.2.2.2.2
theorem c9 {a1 a2 a3 a4 a5 a6 a7 a8 a9 P : Prop} (h : a1 ∧ a2 ∧ a3 ∧ a4 ∧ a5 ∧ a6 ∧ a7 ∧ a8 ∧ a9) (f : a1 → a2 → a3 → a4 → a5 → a6 → a7 → a8 → a9 → P) : P := f h.1 h.2.1 h.2.2.1 h.2.2.2.1 h.2.2.2.2.1 h.2.2.2.2.2.1 h.2.2.2.2.2.2.1 h.2.2.2.2.2.2.2.1 h.2.2.2.2.2.2.2.2
theorem c10 {a1 a2 a3 a4 a5 a6 a7 a8 a9 a10 P : Prop} (h : a1 ∧ a2 ∧ a3 ∧ a4 ∧ a5 ∧ a6 ∧ a7 ∧ a8 ∧ a9 ∧ a10) (f : a1 → a2 → a3 → a4 → a5 → a6 → a7 → a8 → a9 → a10 → P) : P := f h.1 h.2.1 h.2.2.1 h.2.2.2.1 h.2.2.2.2.1 h.2.2.2.2.2.1 h.2.2.2.2.2.2.1 h.2.2.2.2.2.2.2.1 h.2.2.2.2.2.2.2.2.1 h.2.2.2.2.2.2.2.2.2
theorem c11 {a1 a2 a3 a4 a5 a6 a7 a8 a9 a10 a11 P : Prop} (h : a1 ∧ a2 ∧ a3 ∧ a4 ∧ a5 ∧ a6 ∧ a7 ∧ a8 ∧ a9 ∧ a10 ∧ a11) (f : a1 → a2 → a3 → a4 → a5 → a6 → a7 → a8 → a9 → a10 → a11 → P) : P := f h.1 h.2.1 h.2.2.1 h.2.2.2.1 h.2.2.2.2.1 h.2.2.2.2.2.1 h.2.2.2.2.2.2.1 h.2.2.2.2.2.2.2.1 h.2.2.2.2.2.2.2.2.1 h.2.2.2.2.2.2.2.2.2.1 h.2.2.2.2.2.2.2.2.2.2
theorem c12 {a1 a2 a3 a4 a5 a6 a7 a8 a9 a10 a11 a12 P : Prop} (h : a1 ∧ a2 ∧ a3 ∧ a4 ∧ a5 ∧ a6 ∧ a7 ∧ a8 ∧ a9 ∧ a10 ∧ a11 ∧ a12) (f : a1 → a2 → a3 → a4 → a5 → a6 → a7 → a8 → a9 → a10 → a11 → a12 → P) : P := f h.1 h.2.1 h.2.2.1 h.2.2.2.1 h.2.2.2.2.1 h.2.2.2.2.2.1 h.2.2.2.2.2.2.1 h.2.2.2.2.2.2.2.1 h.2.2.2.2.2.2.2.2.1 h.2.2.2.2.2.2.2.2.2.1 h.2.2.2.2.2.2.2.2.2.2.1 h.2.2.2.2.2.2.2.2.2.2.2
theorem c13 {a1 a2 a3 a4 a5 a6 a7 a8 a9 a10 a11 a12 a13 P : Prop} (h : a1 ∧ a2 ∧ a3 ∧ a4 ∧ a5 ∧ a6 ∧ a7 ∧ a8 ∧ a9 ∧ a10 ∧ a11 ∧ a12 ∧ a13) (f : a1 → a2 → a3 → a4 → a5 → a6 → a7 → a8 → a9 → a10 → a11 → a12 → a13 → P) : P := f h.1 h.2.1 h.2.2.1 h.2.2.2.1 h.2.2.2.2.1 h.2.2.2.2.2.1 h.2.2.2.2.2.2.1 h.2.2.2.2.2.2.2.1 h.2.2.2.2.2.2.2.2.1 h.2.2.2.2.2.2.2.2.2.1 h.2.2.2.2.2.2.2.2.2.2.1 h.2.2.2.2.2.2.2.2.2.2.2.1 h.2.2.2.2.2.2.2.2.2.2.2.2
theorem c14 {a1 a2 a3 a4 a5 a6 a7 a8 a9 a10 a11 a12 a13 a14 P : Prop} (h : a1 ∧ a2 ∧ a3 ∧ a4 ∧ a5 ∧ a6 ∧ a7 ∧ a8 ∧ a9 ∧ a10 ∧ a11 ∧ a12 ∧ a13 ∧ a14) (f : a1 → a2 → a3 → a4 → a5 → a6 → a7 → a8 → a9 → a10 → a11 → a12 → a13 → a14 → P) : P := f h.1 h.2.1 h.2.2.1 h.2.2.2.1 h.2.2.2.2.1 h.2.2.2.2.2.1 h.2.2.2.2.2.2.1 h.2.2.2.2.2.2.2.1 h.2.2.2.2.2.2.2.2.1 h.2.2.2.2.2.2.2.2.2.1 h.2.2.2.2.2.2.2.2.2.2.1 h.2.2.2.2.2.2.2.2.2.2.2.1 h.2.2.2.2.2.2.2.2.2.2.2.2.1 h.2.2.2.2.2.2.2.2.2.2.2.2.2
theorem c15 {a1 a2 a3 a4 a5 a6 a7 a8 a9 a10 a11 a12 a13 a14 a15 P : Prop} (h : a1 ∧ a2 ∧ a3 ∧ a4 ∧ a5 ∧ a6 ∧ a7 ∧ a8 ∧ a9 ∧ a10 ∧ a11 ∧ a12 ∧ a13 ∧ a14 ∧ a15) (f : a1 → a2 → a3 → a4 → a5 → a6 → a7 → a8 → a9 → a10 → a11 → a12 → a13 → a14 → a15 → P) : P := f h.1 h.2.1 h.2.2.1 h.2.2.2.1 h.2.2.2.2.1 h.2.2.2.2.2.1 h.2.2.2.2.2.2.1 h.2.2.2.2.2.2.2.1 h.2.2.2.2.2.2.2.2.1 h.2.2.2.2.2.2.2.2.2.1 h.2.2.2.2.2.2.2.2.2.2.1 h.2.2.2.2.2.2.2.2.2.2.2.1 h.2.2.2.2.2.2.2.2.2.2.2.2.1 h.2.2.2.2.2.2.2.2.2.2.2.2.2.1 h.2.2.2.2.2.2.2.2.2.2.2.2.2.2
theorem c16 {a1 a2 a3 a4 a5 a6 a7 a8 a9 a10 a11 a12 a13 a14 a15 a16 P : Prop} (h : a1 ∧ a2 ∧ a3 ∧ a4 ∧ a5 ∧ a6 ∧ a7 ∧ a8 ∧ a9 ∧ a10 ∧ a11 ∧ a12 ∧ a13 ∧ a14 ∧ a15 ∧ a16) (f : a1 → a2 → a3 → a4 → a5 → a6 → a7 → a8 → a9 → a10 → a11 → a12 → a13 → a14 → a15 → a16 → P) : P := f h.1 h.2.1 h.2.2.1 h.2.2.2.1 h.2.2.2.2.1 h.2.2.2.2.2.1 h.2.2.2.2.2.2.1 h.2.2.2.2.2.2.2.1 h.2.2.2.2.2.2.2.2.1 h.2.2.2.2.2.2.2.2.2.1 h.2.2.2.2.2.2.2.2.2.2.1 h.2.2.2.2.2.2.2.2.2.2.2.1 h.2.2.2.2.2.2.2.2.2.2.2.2.1 h.2.2.2.2.2.2.2.2.2.2.2.2.2.1 h.2.2.2.2.2.2.2.2.2.2.2.2.2.2.1 h.2.2.2.2.2.2.2.2.2.2.2.2.2.2.2
theorem agn {n : Nat} {J : Nat → Prop} (m : Nat) (h : m < n) (j : J m) : ∃ m, m < n ∧ J m := ⟨m, h, j⟩
theorem om1 {x a b L : Nat} (h : x + a < L) (e : Nat.ble b a = true) : x + b < L := Nat.lt_of_le_of_lt (Nat.add_le_add_left (Nat.le_of_ble_eq_true e) x) h
theorem om2 {x a b c L : Nat} (h : x + a < L) (e : Nat.ble (b + c) a = true) : x + b + c < L := Nat.add_assoc x b c ▸ om1 h e
theorem om0 {x a L : Nat} (h : x + a < L) : x < L := om1 (b := 0) h (Nat.ble_eq_true_of_le (Nat.zero_le a))
theorem om4 {x a c : Nat} (h : x ≤ a) (e : Nat.ble a c = true) : x ≤ c := Nat.le_trans h (Nat.le_of_ble_eq_true e)
theorem om3 {x a b c : Nat} (h : x ≤ a) (e : Nat.ble (a + b) c = true) : x + b ≤ c := om4 (Nat.add_le_add_right h b) e
theorem om5 {x y a c : Nat} (h : x ≤ y) (k : y ≤ a) (e : Nat.ble a c = true) : x ≤ c := om4 (Nat.le_trans h k) e
theorem om6 {x y z a c : Nat} (h : x = y) (i : y ≤ z) (k : z ≤ a) (e : Nat.ble a c = true) : x ≤ c := om5 (h ▸ i) k e
theorem om7 {x y a c : Nat} (h : x = y) (k : y ≤ a) (e : Nat.ble a c = true) : x ≤ c := om4 (h ▸ k) e
theorem om8 {a b : Nat} (h : a < b) : b - (a + 1) < b - a := Nat.sub_succ_lt_self b a h
theorem om9 {a : Nat} (h : 0 < a) : (a - 1) / 2 < a := Nat.lt_of_le_of_lt (Nat.div_le_self _ _) (Nat.sub_lt h Nat.zero_lt_one)
theorem om10 {a b c : Nat} (h : a = b) (k : c < b) : c < a := h ▸ k
theorem om11 {a b c : Nat} (h : a = b) (k : c < a) : c < b := h ▸ k
theorem om12 {a b : Nat} (h : a < b) : a + 1 ≤ b := h
theorem om13 {a b : Nat} (h : a ≤ b) (k : ¬ a = b) : a < b := Nat.lt_of_le_of_ne h k
theorem om14 (a : Nat) : (0 : Int) ≤ (a : Int) := Int.natCast_nonneg a
theorem om15 {a b : Nat} (h : a < b) : (a : Int) < (b : Int) := Int.ofNat_lt.mpr h
theorem om16 {a b : Nat} (h : (a : Int) = (b : Int)) : a = b := Int.ofNat.inj h
theorem k0 : True := by
  k_with "B1" => refine Classical.byContradiction fun hn9 => ?_
  k_with "B2" => (refine hn9 ?_; clear hn9)
  k_with "om" => (first | (with_reducible refine om1 (by with_reducible assumption) ?_; decide) | (with_reducible refine om2 (by with_reducible assumption) ?_; decide) | (with_reducible refine om3 (by with_reducible assumption) ?_; decide) | (with_reducible refine om4 (by with_reducible assumption) ?_; decide) | (with_reducible refine om7 (by with_reducible assumption) (by with_reducible assumption) ?_; decide) | (with_reducible refine om5 (by with_reducible assumption) (by with_reducible assumption) ?_; decide) | (with_reducible refine om6 (by with_reducible assumption) (by with_reducible assumption) (by with_reducible assumption) ?_; decide) | (with_reducible exact om0 (by with_reducible assumption)) | (with_reducible exact om8 (by with_reducible assumption)) | (with_reducible exact om9 (by with_reducible assumption)) | (with_reducible exact om10 (by with_reducible assumption) (by with_reducible assumption)) | (with_reducible exact om11 (by with_reducible assumption) (by with_reducible assumption)) | (with_reducible exact om12 (by with_reducible assumption)) | (with_reducible exact om13 (by with_reducible assumption) (by with_reducible assumption)) | (with_reducible exact om15 (by with_reducible assumption)) | (with_reducible exact om16 (by with_reducible assumption)) | (with_reducible exact om14 _) | k_extra "lia")
  trivial
set_option hygiene false in
local macro_rules
  | `(tactic| omega) => `(tactic| first | k_extra "om" | omega +splitDisjunctions)
  | `(tactic| rcases $h:ident with $p:rcasesPatMed) => do
    let ps := p.raw[0][0][1].getSepArgs
    let n := ps.size
    if n < 3 || p.raw[0].getNumArgs != 1 then Lean.Macro.throwUnsupported
    let f (x : Lean.Syntax) (q : Lean.Syntax) : Lean.MacroM (Lean.Syntax × Lean.Syntax) := do
      let o := q[0][0][0]
      if q[0][0].getNumArgs == 1 && q[1].getNumArgs == 0 && o.isOfKind ``Lean.Parser.Tactic.rcasesPat.one && o[0].getId != `rfl then return (o[0], .missing)
      if o.isOfKind ``Lean.Parser.Tactic.rcasesPat.ignore then return (x, .missing)
      return (x, ← `(tactic| rcases $(⟨x⟩):ident with $(⟨q[0]⟩):rcasesPatMed))
    let xs ← (List.range (n + 1)).mapM fun j => return Lean.mkIdent (← Lean.MonadQuotation.addMacroScope (.num `q j))
    let ys ← (xs.zip ps.toList).mapM fun (x, q) => f x q
    let alts ← ((List.range (n - 2)).map (fun d => ("e", n - 1 - d, n - 1 - d)) ++ (List.range (n - 2)).map (fun d => ("c", n - d, n - 1 - d))).mapM fun (s, k, t) => do
      let lem := Lean.mkIdent (.mkSimple (s ++ toString k))
      let u ← `(Lean.Parser.Term.funBinder| _)
      let zs ← if t + 1 == n then pure ys else do
        let r : Array (Lean.TSyntax ``Lean.Parser.Tactic.rcasesPatLo) := (ps.extract t n).map (⟨·⟩)
        pure (ys.take t ++ [(xs[n]!.raw, (← `(tactic| rcases $(xs[n]!):ident with ⟨$[$r],*⟩)).raw)])
      let post ← zs.foldlM (fun a z => if z.2.isMissing then pure a else `(tactic| ($a <;> $(⟨z.2⟩):tactic))) (← `(tactic| skip))
      let bs : List (Lean.TSyntax ``Lean.binderIdent) ← zs.mapM fun z => `(Lean.binderIdent| $(⟨z.1⟩):ident)
      `(tactic| (refine $lem $h fun $(Array.replicate (t + 1) u):funBinder* => ?_; (try clear $h); rename_i $(bs.toArray)*; $post))
    `(tactic| first $[| $((alts ++ [← `(tactic| rcases ($h) with $p:rcasesPatMed)]).toArray):tactic]*)
  | `(tactic| obtain $p:rcasesPatMed := $e:term) => do
    if p.raw[0][0][1].getSepArgs.size < 3 || p.raw[0].getNumArgs != 1 then Lean.Macro.throwUnsupported
    if e.raw.isIdent then `(tactic| (k_extra "B1"; rcases $(⟨e.raw⟩):ident with $p:rcasesPatMed <;> k_extra "B2")) else `(tactic| (k_extra "B1"; have hx9 := $e; rcases hx9 with $p:rcasesPatMed <;> k_extra "B2"))
  | `(tactic| refine ⟨$xs,*⟩) => do
    let xs := xs.getElems
    let n := xs.size
    if n < 5 then Lean.Macro.throwUnsupported
    let alts ← (([("i", 0), ("fq", 9), ("cq", 10), ("agn", 2)] : List (String × Nat)).flatMap fun (s, c) => (List.range (n - c - 2)).map fun d => (s, c, n - 1 - d)).mapM fun (s, c, m) => do
      let b ← `($(Lean.mkIdent (.mkSimple ("i" ++ toString (m - c)))) $(xs.extract c m):term* $(← if m + 1 == n then pure xs[m]! else `(⟨$[$(xs.extract m n)],*⟩)))
      if c == 0 then `(tactic| refine $b) else `(tactic| refine $(Lean.mkIdent (.mkSimple s)) $(xs.extract 0 c):term* ($b))
    `(tactic| first $[| $((alts ++ [← `(tactic| refine (⟨$[$xs],*⟩))]).toArray):tactic]*)
theorem top_off : True := by w_top off; trivial
set_option maxHeartbeats 1000000
abbrev PG : Program := PySem.Challenge.rw_oy0329_01.prog
noncomputable def fv : List (Str × Option Value) → Str → Option Value
  | [], _ => none
  | p :: r, y => if y = p.1 then p.2 else fv r y
inductive FvSet (x : Str) (v : Value) : List (Str × Option Value) → List (Str × Option Value) → Prop
  | head {o r} : FvSet x v ((x, o) :: r) ((x, some v) :: r)
  | tail {p r r'} : FvSet x v r r' → FvSet x v (p :: r) (p :: r')
theorem FvSet.names {x : Str} {v : Value} {l l' : List (Str × Option Value)} (h : FvSet x v l l') : l'.map (·.1) = l.map (·.1) := by
  induction h with
  | head => rfl
  | tail _ ih => simp only [List.map_cons, ih]
theorem FvSet.mem {x : Str} {v : Value} {l l' : List (Str × Option Value)} (h : FvSet x v l l') : x ∈ l.map (·.1) := by
  induction h with
  | head => exact .head _
  | tail _ ih => exact .tail _ ih
theorem FvSet.fv {x : Str} {v : Value} {l l' : List (Str × Option Value)} (h : FvSet x v l l') (nd : (l.map (·.1)).Nodup) (y : Str) : fv l' y = if y = x then some v else fv l y := by
  induction h with
  | head =>
    show (if y = x then some v else Mine.fv _ y) = _
    by_cases e : y = x
    · rw [if_pos e, if_pos e]
    · rw [if_neg e, if_neg e]; exact (if_neg e).symm
  | @tail p r r' h ih =>
    rw [List.map_cons, List.nodup_cons] at nd
    show (if y = p.1 then p.2 else Mine.fv r' y) = if y = x then some v else (if y = p.1 then p.2 else Mine.fv r y)
    rw [ih nd.2]
    by_cases e : y = p.1
    · have : y ≠ x := fun q => nd.1 (by rw [← e, q]; exact h.mem)
      rw [if_pos e, if_neg this, if_pos e]
    · rw [if_neg e]
      by_cases q : y = x
      · rw [if_pos q, if_pos q]
      · rw [if_neg q, if_neg q, if_neg e]
theorem fv_of_mem {x : Str} {v : Value} {l : List (Str × Option Value)} (nd : (l.map (·.1)).Nodup) (h : (x, some v) ∈ l) : fv l x = some v := by
  induction l with
  | nil => cases h
  | cons p r ih =>
    rw [List.map_cons, List.nodup_cons] at nd
    show (if x = p.1 then p.2 else Mine.fv r x) = some v
    rcases List.mem_cons.mp h with e | h
    · rw [← e, if_pos rfl]
    · have : x ≠ p.1 := fun q => nd.1 (by rw [← q]; exact List.mem_map_of_mem (f := (·.1)) h)
      rw [if_neg this]; exact ih nd.2 h
noncomputable def fv0 (binds : List (Str × Value)) (rest : List Str) : List (Str × Option Value) := binds.map (fun p => (p.1, some p.2)) ++ rest.map (fun x => (x, none))
theorem fv0_names (binds : List (Str × Value)) (rest : List Str) : (fv0 binds rest).map (·.1) = binds.map (·.1) ++ rest := by
  unfold fv0
  rw [List.map_append, List.map_map, List.map_map]
  congr 1
  exact List.map_id rest
theorem fv_start {binds : List (Str × Value)} {rest : List Str} (nd : (binds.map (·.1) ++ rest).Nodup) (y : Str) :
    binds.reverse.lookup y = fv (fv0 binds rest) y := by
  have h0 : ∀ rest : List Str, fv (rest.map fun x => (x, none)) y = none := by
    intro rest
    induction rest with
    | nil => rfl
    | cons r rs ih => show (if y = r then none else Mine.fv _ y) = none; rw [ih]; split <;> rfl
  have key : ∀ (l : List (Str × Value)), (l.map (·.1)).Nodup → l.lookup y = fv (fv0 l rest) y := by
    intro l hl
    induction l with
    | nil => exact (h0 rest).symm
    | cons p r ih =>
      rw [List.map_cons, List.nodup_cons] at hl
      show _ = (if y = p.1 then some p.2 else Mine.fv (fv0 r rest) y)
      rw [← ih hl.2, List.lookup_cons]
      by_cases e : y = p.1
      · rw [if_pos e]; subst e; simp
      · rw [if_neg e]
        have : (y == p.1) = false := by simpa using e
        rw [this]
  have nb : (binds.map (·.1)).Nodup := (List.nodup_append.mp nd).1
  rw [← key binds nb]
  have rv : ∀ (l : List (Str × Value)), (l.map (·.1)).Nodup → l.reverse.lookup y = l.lookup y := by
    intro l hl
    induction l with
    | nil => rfl
    | cons p r ih =>
      rw [List.map_cons, List.nodup_cons] at hl
      rw [List.reverse_cons, List.lookup_append, ih hl.2, List.lookup_cons]
      by_cases e : y = p.1
      · subst e
        have : r.lookup p.1 = none := List.lookup_eq_none_iff.mpr fun q hq => by
          have : p.1 ≠ q.1 := fun z => hl.1 (by rw [z]; exact List.mem_map_of_mem hq)
          simpa using this
        obtain ⟨n, v⟩ := p
        simp_all [List.lookup]
      · have : (y == p.1) = false := by simpa using e
        rw [List.lookup_cons, this]; simp [List.lookup_cons, this]
  exact rv binds nb
section
variable {M : Model} {A : Around} {E : Value → Shared → Prop} {s : Shared} {cn : Str} {cs : Scope} {L a : Addr} {ccd : Value} {cl : List (Str × Addr)} {g : Heap} {l l' : List (Str × Option Value)} {W : List (Addr × Obj)}
theorem kind_mem {x : Str} {k : NameKind} {ns : List (Str × NameKind)} (nd : (ns.map (·.1)).Nodup) (h : (x, k) ∈ ns) : ns.lookup x = some k := by
  induction ns with
  | nil => cases h
  | cons p r ih =>
    rw [List.map_cons, List.nodup_cons] at nd
    rw [List.lookup_cons]
    rcases List.mem_cons.mp h with e | h
    · rw [← e]; simp
    · have : x ≠ p.1 := fun q => nd.1 (by rw [← q]; exact List.mem_map_of_mem (f := (·.1)) h)
      have : (x == p.1) = false := by simpa using this
      rw [this]; exact ih nd.2 h
theorem ldF {x : Str} {pos : Pos} {v : Value} {Q : Value → Shared → Prop} (F : Fr g L s.heap (fv l)) (nd : (l.map (·.1)).Nodup) (ns : (cs.names.map (·.1)).Nodup) (hv : (x, some v) ∈ l) (hk : (x, NameKind.local) ∈ cs.names) (h : Q v s)
    (hc : cs.kind = .function) (hd : (x == ("__debug__" : Str)) = false) : wpAny M A (eval (.Name x pos) (envX cn cs L a ccd cl)) Q E s :=
  nameX_L F (fv_of_mem nd hv) h hc (kind_mem ns hk) hd
theorem ldnF {x : Str} {v : Value} {Q : Value → Shared → Prop} (F : Fr g L s.heap (fv l)) (nd : (l.map (·.1)).Nodup) (ns : (cs.names.map (·.1)).Nodup) (hv : (x, some v) ∈ l) (hk : (x, NameKind.local) ∈ cs.names) (h : Q v s)
    (hc : cs.kind = .function) : wpAny M A (loadName (envX cn cs L a ccd cl) x) Q E s :=
  wpAny_loadName_local hc (kind_mem ns hk) F.ns (fv_of_mem nd hv) h
theorem stF {x : Str} {v : Value} {Q : Unit → Shared → Prop} (F : Fr g L s.heap (fv l)) (N : News g L s.heap W) (nd : (l.map (·.1)).Nodup) (ns : (cs.names.map (·.1)).Nodup) (hs : FvSet x v l l') (hk : (x, NameKind.local) ∈ cs.names)
    (h : ∀ h', Fr g L h' (fv l') → News g L h' W → (l'.map (·.1)).Nodup → Q () { s with heap := h', toks := s.toks + 1 }) (hc : cs.kind = .function) : wpAny M A (storeName (envX cn cs L a ccd cl) x v) Q E s :=
  storeX_L F N (fun h' F' N' => h h' (by have : fv l' = fun y => if y = x then some v else fv l y := funext (hs.fv nd); rw [this]; exact F') N' (by rw [hs.names]; exact nd)) hc (kind_mem ns hk)
end
theorem enter {w : World} {A : Around} {s : Shared} {g0 : Heap} {W : List (Addr × Obj)} {R : Result → Shared → Prop} {K : Frag} {loose : List Str} {mean : ExcName → Option Value} {mg mb : Str → Option Value} {p : Program}
    {name qual : Str} {params : Arguments} {body : List Stmt} {scope : Scope} {dV kV doc pm cdv ct oc : Value} {an od : Option Addr} {osl : Array (Option Value)} {f : Addr} {args : Args} (binds : List (Str × Value)) (rest : List Str)
    (X : K.In g0) (T : Top p loose mean mg mb g0) (k : g0.StaysIn s.heap) (hW : ∀ p ∈ W, s.heap.get? p.1 = some p.2) (hn : ∀ p ∈ W, g0.get? p.1 = none)
    (ho : K.lookup f = some ⟨oc, od, .func (fnOf name qual params body scope dV kV doc pm an cdv ct), osl⟩) (hcd : codeIn K cdv qual = true) (hroom : A.depth < recursionLimit)
    (hbind : BindsTo s (fnOf name qual params body scope dV kV doc pm an cdv ct) args binds) (hloc : ∀ y ∈ binds, scope.names.lookup y.1 = some .local)
    (hnd : (binds.map (·.1) ++ rest).Nodup) (hns : (scope.names.map (·.1)).Nodup)
    (h : ∀ g L' h₁, g0.StaysIn g → (∀ b o, s.heap.get? b = some o → (∀ p ∈ W, p.1 ≠ b) → g.get? b = some o) → (∀ b o, g.get? b = some o → s.heap.get? b = some o) →
      Fr g L' h₁ (fv (fv0 binds rest)) → News g L' h₁ W → K.In g → Top p loose mean mg mb g → ((fv0 binds rest).map (·.1)).Nodup → (scope.names.map (·.1)).Nodup →
      wpAny (model PG w) (A.deeper (envX qual scope L' f cdv [])) (execs body (envX qual scope L' f cdv []))
        (fun fl s' => R (.ok (.ret (match fl with | .ret v => v | _ => .none))) s') (fun _ _ => False)
        { s with heap := h₁, toks := s.toks + binds.length })
    (hco : scope.isCoroutine = false) (hgen : scope.isGenerator = false) (hk : scope.kind = .function)
    (hcell : ∀ x ∈ scope.names, x.2 ≠ .cell) : codeAny (model PG w) A (.call (.ref f) args) R s := by
  refine codeAny_call_def (fd := fnOf name qual params body scope dV kV doc pm an cdv ct) (body := body) (binds := binds) hroom (k _ _ (X _ _ ho)) rfl (T.nolimit.keeps k) (codeRec_of (X.keeps k) hcd) rfl hbind hcell hloc (fun h₁ hns' hk₁ => ?_) hco hgen hk
  have st : g0.StaysIn (hideAll s.heap (W.map (·.1))) := fun b o e => hideAll_get _ (k b o e) fun q => by
    obtain ⟨p, hp, rfl⟩ := List.mem_map.mp q
    rw [hn p hp] at e; cases e
  have hns2 : h₁.Ns s.heap.objs.size (fv (fv0 binds rest)) := by
    have : fv (fv0 binds rest) = fun x => binds.reverse.lookup x := funext fun y => (fv_start hnd y).symm
    rw [this]; exact hns'
  have nd2 : ((fv0 binds rest).map (·.1)).Nodup := by rw [fv0_names]; exact hnd
  refine wpAny_mono (h (hideAll s.heap (W.map (·.1))) s.heap.objs.size h₁ st (fun b o e ne => hideAll_get _ e fun q => ?_) (fun b o e => of_hideAll _ e) ⟨hns2, fun b o e => hk₁ b o (of_hideAll _ e), Nat.le_of_eq (hideAll_size _ _)⟩
    (fun p hp => ⟨hk₁ _ _ (hW p hp), Nat.ne_of_lt (Heap.lt_size (hW p hp)), hideAll_none _ (List.mem_map_of_mem hp)⟩) (X.keeps fun b o e => st b o e) (T.keeps fun b o e => st b o e) nd2 hns) (fun _ _ x => x) (fun _ _ x => x.elim)
  obtain ⟨p, hp, e⟩ := List.mem_map.mp q
  exact ne p hp e
noncomputable def pick {α : Type} (a : α) (P : α → Prop) : α := @dite α (∃ x, P x) (Classical.propDecidable _) (fun h => Classical.choose h) fun _ => a
theorem pick_all {α : Type} {a : α} {P : α → Prop} (h : P (pick a fun x => ¬ P x)) : ∀ x, P x := fun x => Classical.byContradiction fun hn => by
  have hx : ∃ x, ¬ P x := ⟨x, hn⟩
  have e : pick a (fun x => ¬ P x) = Classical.choose hx := by unfold pick; exact dif_pos hx
  rw [e] at h
  exact Classical.choose_spec hx h
noncomputable def dW : World := ⟨fun _ _ => 0, { strHash := fun _ => 0, shareClass := fun _ => 0, mergeTok := id, idOf := fun _ => 0, idOfShared := fun _ _ => 0, followText := fun _ => false, idOfImm := fun _ => 0 }⟩
noncomputable def Stop (P : Prop) : Prop := P
theorem stop_here {P : Prop} (h : Stop P) : P := h
section
variable {prog : Program} {w : World} {A : Around} {E : Value → Shared → Prop} {s : Shared} {env : Env}
noncomputable def Again (I : Nat → Shared → Prop) (n : Nat) (s : Shared) : Prop := ∃ m, m < n ∧ I m s
noncomputable def WhileQ (Q : Flow → Shared → Prop) (I : Nat → Shared → Prop) (n : Nat) : Flow → Shared → Prop
  | .next, s => Again I n s
  | .cont, s => Again I n s
  | .brk, s => Q .next s
  | .ret v, s => Q (.ret v) s
noncomputable def Hid (Q : Flow → Shared → Prop) : Flow → Shared → Prop := Q
theorem hid {Q Q' : Flow → Shared → Prop} {f : Flow} {s : Shared} (h : ∀ f s, Q f s → Q' f s) (q : Q f s) : Hid Q' f s := h f s q
theorem whileF {test : PySem.Expr} {body orelse : List Stmt} {pos : Pos} {Q : Flow → Shared → Prop} (I : Nat → Shared → Prop)
    (turn : ∀ n s, I n s → ∀ Q1 Q2 : Flow → Shared → Prop, (∀ f s, WhileQ Q I n f s → Q1 f s) → (∀ f s, Q f s → Q2 f s) → wpAny (model prog w) A (isTrue test env (eval test env)) (fun b s₂ => if b then wpAny (model prog w) A (execs body env) (Hid Q1) (fun _ _ => False) s₂ else wpAny (model prog w) A (execs orelse env) (Hid Q2) (fun _ _ => False) s₂) (fun _ _ => False) s)
    (n : Nat) (h : I n s) : wpAny (model prog w) A (exec (.While test body orelse pos) env) Q E s := by
  refine wpAny_While (codeAny_whileLoop I (fun n s hI => wpAny_mono (turn n s hI _ _ (fun _ _ h => h) (fun _ _ h => h)) (fun b s₂ hb => ?_) fun _ _ x => x.elim) n h)
  cases b with
  | true =>
    simp only [if_true] at hb ⊢
    refine wpAny_mono hb (fun f s₃ hf => ?_) fun _ _ x => x.elim
    cases f <;> exact hf
  | false =>
    simp only [Bool.false_eq_true, if_false] at hb ⊢
    exact wpAny_mono hb (fun f s₃ hf => hf) fun _ _ x => x.elim
end
theorem whileQ_brk {Q : Flow → Shared → Prop} {I : Nat → Shared → Prop} {n : Nat} {s : Shared} (h : Q .next s) : WhileQ Q I n .brk s := h
theorem whileQ_ret {Q : Flow → Shared → Prop} {I : Nat → Shared → Prop} {n : Nat} {s : Shared} {v : Value} (h : Q (.ret v) s) : WhileQ Q I n (.ret v) s := h
theorem whileQ_next {Q : Flow → Shared → Prop} {I : Nat → Shared → Prop} {n : Nat} {s : Shared} (h : Again I n s) : WhileQ Q I n .next s := h
theorem whileQ_cont {Q : Flow → Shared → Prop} {I : Nat → Shared → Prop} {n : Nat} {s : Shared} (h : Again I n s) : WhileQ Q I n .cont s := h
noncomputable def AX : Around := { handled := none, depth := 500, frames := none, guards := none, units := 5000 }
structure Low (A : Around) : Prop where
  handled : A.handled = none
  depth : A.depth ≤ 500
  units : A.units ≤ 5000
theorem low_any {M : Model} {A : Around} {α : Type} {t : Sem α} {Q : α → Shared → Prop} {E : Value → Shared → Prop} {s : Shared} (l : Low A) (h : wpAny M AX t Q E s) : wpAny M A t Q E s :=
  fun Γ p hΓ => h Γ p ⟨hΓ.1.trans l.handled, Nat.le_trans hΓ.2.1 l.depth, nofun, nofun, Nat.le_trans hΓ.2.2.2.2 l.units⟩
local macro_rules | `(tactic| walk_at $s:str) => `(tactic| k_extra $s)
theorem kp_1 : True := by
  k_with "eval Name" => (k_here; (with_reducible refine' ldF ?F ?nd ?ns ?m ?k ?_ ?c ?d); k_dflt ((case F => assumption); (case nd => assumption); (case ns => assumption); (case m => k_mem); (case k => k_mem); (case c => rfl); (case d => decide)))
  k_with "loadName" => (k_here; (with_reducible refine' ldnF ?F ?nd ?ns ?m ?k ?_ ?c); k_dflt ((case F => assumption); (case nd => assumption); (case ns => assumption); (case m => k_mem); (case k => k_mem); (case c => rfl)))
  k_with "storeName" => (k_here; (with_reducible refine' stF ?F ?N ?nd ?ns ?m ?k ?_ ?c); k_dflt ((case F => assumption); (case N => assumption); (case nd => assumption); (case ns => assumption); (case m => (repeat (first | with_reducible exact FvSet.head | (with_reducible apply FvSet.tail)))); (case k => k_mem); (case c => rfl)); (try clear nd'); intro h' F' N' nd'; (try dsimp only at F' N' nd'); (try k_sweep))
  k_with "subscriptTail" => (k_here; (with_reducible show wpAny _ _ (subscriptTail _ _ (Value.ref _) (Value.int _ _)) _ _ _); k_dflt (refine' getL ?N ?m ?a ?b ?c ?_; (case N => assumption); (case m => k_mem); (case a => omega); (case b => omega); (case c => omega); k_whole); intro v' hv')
  k_with "exec While" => (k_here; refine stop_here ?_)
  k_with "exec For" => (k_here; refine stop_here ?_)
  k_with "binaryOp RShift int int" => (k_here; with_reducible refine rshift_one ?z1 ?_; (case z1 => omega))
  k_with "setItem ref int" => (k_here; k_dflt (refine' setL ?F ?N ?a ?b ?c ?U ?_; (case F => assumption); (case N => assumption); (case U => k_upd); (case a => omega); (case b => omega); (case c => omega); k_whole); intro h' F' N'; (try dsimp only at F' N'); (try k_sweep))
  k_with "WhileQ" => (with_reducible first | refine whileQ_brk ?_ | refine whileQ_ret ?_ | refine whileQ_next ?_ | refine whileQ_cont ?_)
  k_with "call builtin:len" => (k_here; (with_reducible show wpAny _ _ (call (Value.builtin "len") [Value.ref _]) _ _ _); k_dflt (refine' lenL ?N ?m ?c ?_; (case N => assumption); (case m => k_mem); (case c => omega); k_whole))
  k_with "truthy ref" => (k_here; (with_reducible show wpAny _ _ (truthy (Value.ref _)) _ _ _); k_dflt (refine' truthL ?N ?m ?c ?_; (case N => assumption); (case m => k_mem); (case c => omega); k_whole))
  k_with "call builtin:list.append" => (k_here; (with_reducible show wpAny _ _ (call (Value.builtin _) [Value.ref _, _]) _ _ _); k_dflt (refine' appL ?F ?N ?c ?U ?_; (case F => assumption); (case N => assumption); (case U => k_upd); (case c => omega); k_whole); intro h' F' N'; (try dsimp only at F' N'); (try k_sweep))
  k_with "compareOp Lt" => (k_here; with_reducible refine' cmp_tup (k := key _) (k' := key _) ?z1 ?z2 ?z3 ?z4 ?_; k_dflt ((case z1 => refine' tup_of hkx ?hv F'.keep; case hv => assumption); (case z2 => refine' tup_of hkx ?hv F'.keep; case hv => assumption); (case z3 => (show A.depth + 1 + 50 < recursionLimit; omega)); (case z4 => (show A.units + 3 + 50 < cLine; omega))))
  k_with "call builtin:list.pop" => (k_here; (with_reducible show wpAny _ _ (call (Value.builtin _) [Value.ref _]) _ _ _); k_dflt (refine' popL ?F ?N ?e ?c ?U ?_; (case F => assumption); (case N => assumption); (case e => assumption); (case U => k_upd); (case c => omega); k_whole); intro h' F' N'; (try dsimp only at F' N'); (try k_sweep))
  k_with "Hid" => (with_reducible refine hid (by assumption) ?_)
  trivial
noncomputable def klt (a b : Int × Int) : Bool := decide (a.1 < b.1) || (decide (a.1 = b.1) && decide (a.2 < b.2))
abbrev tupO (vs : List Value) (n : Nat) : Obj := { cls := .type "tuple", data := .seq vs.toArray n }
theorem klt_t {i j x y : Int} (h : i < j) : klt (i, x) (j, y) = true := by simp [klt, h]
theorem klt_f {i j x y : Int} (h : i ≠ j) (h' : ¬ i < j) : klt (i, x) (j, y) = false := by simp [klt, h, h']
theorem klt_et {i j x y : Int} (h : i = j) (h' : x < y) : klt (i, x) (j, y) = true := by simp [klt, h, h']
theorem klt_ef {i j x y : Int} (h : i = j) (h' : ¬ x < y) : klt (i, x) (j, y) = false := by subst h; simp [klt, h']
theorem rc_lt {prog : Program} {w : World} {A : Around} {E : Value → Shared → Prop} {s : Shared} {a b : Int} {t u : Tok} {Q : Value → Shared → Prop} (h : Q (.bool (decide (a < b))) s) : wpAny (model prog w) A (richCompare .Lt (.int a t) (.int b u)) Q E s := PySem.wpAny_lt_int h
open PySem.SeqAt PySem.AutoSeq1 PySem.MeetsSeq PySem.MeetsSeq2 PySem.MeetsSeq3 PySem.SeqRoads2 in
theorem lt_two (a b : Addr) (i j x y : Int) (t u t' u' : Tok) (n n' : Nat) :
    Meets (Builtin.«tuple.__lt__» ⟨[.ref a, .ref b], []⟩)
      (fun A R s => s.heap.get? a = some ⟨.type "tuple", none, .seq #[.int i t, .int x u] n, #[]⟩ ∧ s.heap.get? b = some ⟨.type "tuple", none, .seq #[.int j t', .int y u'] n', #[]⟩ ∧
        R (.ok (.ret (.bool (klt (i, x) (j, y))))) s) :=
  .of_wp fun prog w A R s h => by
    obtain ⟨hp, g, d, tk, os⟩ := s; obtain ⟨hl, hb, h⟩ := h
    have f2 := AutoSeq1.sub_tuple_tuple
    wp_walk using wpAny_loadPart' hl, wpAny_loadPart' hb, wpAny_eqBool_int, rc_lt, wpAny_forIn_list _ (fun rest b s' => b.1 = none ∧ s' = ⟨hp, g, d, tk, os⟩ ∧ (rest = [(.int i t, .int j t'), (.int x u, .int y u')] ∨ (i = j ∧ rest = [(.int x u, .int y u')]) ∨ (i = j ∧ x = y ∧ rest = []))) _
    case turn =>
      rintro ⟨y1, x1⟩; intro rest b s' hx9; obtain ⟨-, rfl, hr⟩ := hx9
      obtain ⟨p, q, t1, t2, rfl, rfl, h1, h2⟩ : ∃ p q t1 t2, y1 = .int p t1 ∧ x1 = .int q t2 ∧ (p ≠ q → klt (i, x) (j, y) = decide (p < q)) ∧ (p = q → (i = j ∧ rest = [(.int x u, .int y u')]) ∨ (i = j ∧ x = y ∧ rest = [])) := by
        rcases hr with e | ⟨e1, e⟩ | ⟨_, _, e⟩
        · cases e; refine ⟨i, j, _, _, rfl, rfl, fun n => by simp [klt, n], fun e => .inl ⟨e, rfl⟩⟩
        · cases e; refine ⟨x, y, _, _, rfl, rfl, fun n => by simp [klt, e1], fun e => .inr ⟨e1, e, rfl⟩⟩
        · cases e
      wp_walk using wpAny_eqBool_int, rc_lt
      by_cases e : p = q
      · rw [if_neg (by simp [e])]
        wp_walk
        exact ⟨rfl, rfl, .inr (h2 e)⟩
      · rw [if_pos (by simp [e])]
        wp_walk using rc_lt
        refine ⟨_, rfl, ?_⟩
        rw [← h1 e]
        exact h
    case fin =>
      rintro ⟨b1, b2⟩; intro s' hx9; obtain ⟨hb', rfl, hr⟩ := hx9
      simp only at hb'
      subst hb'
      have e : i = j ∧ x = y := by
        rcases hr with e | ⟨_, e⟩ | ⟨e1, e2, _⟩
        · cases e
        · cases e
        · exact ⟨e1, e2⟩
      wp_walk
      refine ⟨_, rfl, ?_⟩
      have ek : klt (i, x) (j, y) = false := by simp [klt, e.1, e.2]
      rw [ek] at h
      exact h
    case h => exact ⟨rfl, rfl, .inl rfl⟩
noncomputable def TupV (h : Heap) (v : Value) (k : Int × Int) : Prop := ∃ a t u n, v = .ref a ∧ h.get? a = some ⟨.type "tuple", none, .seq #[.int k.1 t, .int k.2 u] n, #[]⟩
theorem TupV.keeps {h h' : Heap} {v : Value} {k : Int × Int} (x : TupV h v k) (q : ∀ b o, h.get? b = some o → h'.get? b = some o) : TupV h' v k :=
  let ⟨a, t, u, n, e, g⟩ := x; ⟨a, t, u, n, e, q _ _ g⟩
theorem TupV.mono {h h' : Heap} {v : Value} {k : Int × Int} (x : TupV h v k) (q : ∀ b o, h.get? b = some o → o.cls = .type "tuple" → h'.get? b = some o) : TupV h' v k :=
  let ⟨a, t, u, n, e, g⟩ := x; ⟨a, t, u, n, e, q _ _ g rfl⟩
theorem cls_ne {x y : String} (h : x ≠ y) : Value.type x ≠ Value.type y := fun e => h (Value.type.inj e)
theorem ne_of_cls {h : Heap} {a b : Addr} {o o' : Obj} (ha : h.get? a = some o) (hb : h.get? b = some o') (hc : o.cls ≠ o'.cls) : a ≠ b := fun e => by
  subst e; rw [ha] at hb; cases hb; exact hc rfl
theorem cmp_tup {prog : Program} {w : World} {s : Shared} {v v' : Value} {k k' : Int × Int} {Q : Value → Shared → Prop} {E : Value → Shared → Prop} {A : Around}
   (ha : TupV s.heap v k) (hb : TupV s.heap v' k') (hd : A.depth + 50 < recursionLimit) (hu : A.units + 50 < cLine)
   (hQ : Q (.bool (klt k k')) s) : wpAny (model prog w) A (compareOp .Lt v v') Q E s := by
  obtain ⟨a, t, u, n, rfl, ha⟩ := ha
  obtain ⟨b, t', u', n', rfl, hb⟩ := hb
  exact richCompare_meets_room (op := .Lt) ⟨_, ha, rfl⟩ ⟨_, hb, rfl⟩ PySem.F.slot_tuple_lt PySem.F.entry_tuple_lt (PySem.F.args_tuple_lt_2 _ _) (lt_two a b k.1 k'.1 k.2 k'.2 t u t' u' n n')
    ⟨ha, hb, show Value.bool (klt (k.1, k.2) (k'.1, k'.2)) ≠ Value.notImplemented ∧ Q (.bool (klt (k.1, k.2) (k'.1, k'.2))) s from ⟨(fun x => nomatch x), hQ⟩⟩ (by omega)
theorem kl_d_list : True := by
  k_with "lia" => ((fail_if_success k_extra "d_list"); lia)
  trivial
section
variable {prog : Program} {w : World} {A : Around} {E : Value → Shared → Prop} {s : Shared} {g : Heap} {L a : Addr} {m : Str → Option Value} {W W' : List (Addr × Obj)} {vs : List Value} {n : Nat} {k : Int} {t : Tok} {v : Value}
theorem sz_ok {n : Nat} (h : n ≤ 1000) : n ≤ sizeLine := Nat.le_trans h (by decide)
theorem getL {value slice : PySem.Expr} {Q : Value → Shared → Prop} (N : News g L s.heap W) (hm : (a, listOf vs.toArray n) ∈ W) (h0 : 0 ≤ k) (h1 : k < vs.length) (hz : vs.length ≤ 1000) (h : ∀ v, vs[k.toNat]? = some v → Q v s)
    (hs : subscripted slice false (.ref a) (.int k t) = operate [.ref a, .int k t] (getItem (.ref a) (.int k t)) := by with_unfolding_all rfl) (hg : ∀ r, letTemporaryGo value (.ref a) r = pure () := by intro _; with_unfolding_all rfl) :
    wpAny (model prog w) A (subscriptTail value slice (.ref a) (.int k t)) Q E s := by
  have hl : k.toNat < vs.length := by omega
  exact kim_list N hm rfl rfl h0 (by omega) (List.getElem?_eq_getElem hl) (h _ (List.getElem?_eq_getElem hl)) hs hg
theorem setL_eq : ∀ {l : List Value} {k : Nat} {v : Value}, k < l.length → ki_setL l k v = some (l.set k v)
  | [], _, _, h => absurd h (Nat.not_lt_zero _)
  | x :: r, 0, v, _ => rfl
  | x :: r, k + 1, v, h => by
    have z := setL_eq (l := r) (k := k) (v := v) (Nat.lt_of_succ_lt_succ h)
    show (match ki_setL r k v with | some q => some (x :: q) | none => none) = some (x :: r.set k v)
    rw [z]
theorem setL {Q : Unit → Shared → Prop} (F : Fr g L s.heap m) (N : News g L s.heap W) (h0 : 0 ≤ k) (h1 : k < vs.length) (hz : vs.length ≤ 1000) (U : Upd a (listOf vs.toArray n) (listOf (vs.set k.toNat v).toArray n) W W')
    (h : ∀ h', Fr g L h' m → News g L h' W' → Q () { s with heap := h' }) : wpAny (model prog w) A (setItem (.ref a) (.int k t) v) Q E s :=
  ki_set (its := vs.toArray) F N h0 (by omega) (by show ki_setL vs k.toNat v = _; exact setL_eq (by omega)) U h
theorem appL {Q : Value → Shared → Prop} (F : Fr g L s.heap m) (N : News g L s.heap W) (hz : vs.length ≤ 1000) (U : Upd a (listOf vs.toArray n) (listOf (vs ++ [v]).toArray (n + 1)) W W')
    (h : ∀ h', Fr g L h' m → News g L h' W' → Q .none { s with heap := h' }) : wpAny (model prog w) A (call (.builtin "list.append") [.ref a, v]) Q E s :=
  append_K (its := vs.toArray) F N (by rw [List.push_toArray]; exact U) h (by show vs.toArray.size ≤ _; rw [List.size_toArray]; exact sz_ok hz)
theorem kl_last_eq : ∀ {l : List Value} (h : l ≠ []), kl_last l = some (l.dropLast, l.getLast h)
  | [x], _ => rfl
  | x :: y :: r, _ => by
    have z := kl_last_eq (l := y :: r) (by simp)
    show (match kl_last (y :: r) with | some (p, z) => some (x :: p, z) | none => some ([], x)) = _
    rw [z]; rfl
theorem popL {Q : Value → Shared → Prop} (F : Fr g L s.heap m) (N : News g L s.heap W) (hne : vs ≠ []) (hz : vs.length ≤ 1000) (U : Upd a (listOf vs.toArray n) (listOf vs.dropLast.toArray (n + 1)) W W')
    (h : ∀ h', Fr g L h' m → News g L h' W' → Q (vs.getLast hne) { s with heap := h' }) : wpAny (model prog w) A (call (.builtin "list.pop") [.ref a]) Q E s :=
  kl_pop (its := vs.toArray) F N (kl_last_eq hne) U (by show vs.length ≤ _; exact sz_ok hz) h
end
theorem rshift_one {prog : Program} {w : World} {A : Around} {E : Value → Shared → Prop} {s : Shared} {a : Int} {t u : Tok} {Q : Value → Shared → Prop} (h0 : 0 ≤ a) (h : Q (.int (a / 2) s.toks) { s with toks := s.toks + 1 }) :
    wpAny (model prog w) A (binaryOp .RShift (.int a t) (.int 1 u)) Q E s := by
  refine rshift_int (by decide) ?_
  have : a.fdiv (2 ^ Int.toNat 1) = a / 2 := by
    show a.fdiv 2 = a / 2
    rw [Int.fdiv_eq_ediv_of_nonneg _ (by decide)]
  rw [this]; exact h
section
variable {prog : Program} {w : World} {A : Around} {E : Value → Shared → Prop} {s : Shared} {g h : Heap} {L a : Addr} {m : Str → Option Value} {W W' : List (Addr × Obj)} {vs : List Value} {n : Nat}
theorem lenL {Q : Value → Shared → Prop} (N : News g L s.heap W) (hm : (a, listOf vs.toArray n) ∈ W) (hz : vs.length ≤ 1000) (h : Q (.int vs.length (s.toks + 1)) { s with toks := s.toks + 1 + 1 }) : wpAny (model prog w) A (call (.builtin "len") [.ref a]) Q E s :=
  kun_lenL (N.isList hm) (by rw [List.size_toArray]) (by omega) h
theorem truthL {Q : Bool → Shared → Prop} (N : News g L s.heap W) (hm : (a, listOf vs.toArray n) ∈ W) (hz : vs.length ≤ 1000) (h : Q (!vs.isEmpty) { s with toks := s.toks + 1 + 1 }) : wpAny (model prog w) A (truthy (.ref a)) Q E s :=
  wpAny_truthy_list (items := vs.toArray) (N.isList hm) (by rw [List.size_toArray]; omega) (by rw [List.isEmpty_toArray]; exact h)
theorem after1 {h2 : Heap} {o o' : Obj} (F : Fr g L h m) (N : News g L h W) (kp : ∀ b ob, b ≠ a → h.get? b = some ob → h2.get? b = some ob) (ho : h2.get? a = some o') (U : Upd a o o' W W') : Fr g L h2 m ∧ News g L h2 W' := by
  obtain ⟨pre, post, rfl, rfl, h1, h2'⟩ := U.split
  have D := N (a, o) (by simp)
  refine ⟨⟨?_, fun b x q => kp b x (fun z => ?_) (F.keep b x q), F.above⟩, fun p hp => ?_⟩
  · obtain ⟨oL, es, ep, hL, r⟩ := F.ns
    refine ⟨oL, es, ep, kp _ _ (fun z => D.2.1 z.symm) hL, r⟩
  · have := D.2.2; rw [← z, q] at this; cases this
  · rcases List.mem_append.mp hp with q | q
    · have P := N p (List.mem_append_left _ q); exact ⟨kp _ _ (h1 p q) P.1, P.2⟩
    · rcases List.mem_cons.mp q with rfl | q
      · exact ⟨ho, D.2⟩
      · have P := N p (List.mem_append_right _ (.tail _ q)); exact ⟨kp _ _ (h2' p q) P.1, P.2⟩
end
theorem tup_of {g h : Heap} {xs : List Value} {key : Value → Int × Int} {v : Value} {i : Nat} (hkx : ∀ x ∈ xs, TupV g x (key x)) (hv : xs[i]? = some v) (kp : ∀ b o, g.get? b = some o → h.get? b = some o) : TupV h v (key v) :=
  (hkx v (List.mem_of_getElem? hv)).keeps kp
theorem kz_d_list : True := by
  k_with "d_list" => skip
  trivial
theorem kl_e_heap : True := by
  k_with "lia" => ((fail_if_success k_extra "e_heap"); lia)
  trivial
noncomputable def sdown (lt : Value → Value → Bool) (v : Value) (xs : List Value) (pos : Nat) : List Value :=
  if h : pos = 0 then xs.set 0 v
  else if lt v (xs.getD ((pos - 1) / 2) v) then sdown lt v (xs.set pos (xs.getD ((pos - 1) / 2) v)) ((pos - 1) / 2) else xs.set pos v
termination_by pos
decreasing_by omega
theorem sdown_zero (lt : Value → Value → Bool) (v : Value) (xs : List Value) : sdown lt v xs 0 = xs.set 0 v := by unfold sdown; simp
theorem sdown_up {lt : Value → Value → Bool} {v q : Value} {xs : List Value} {pos : Nat} (h : pos ≠ 0) (hq : xs[(pos - 1) / 2]? = some q) (hl : lt v q = true) : sdown lt v xs pos = sdown lt v (xs.set pos q) ((pos - 1) / 2) := by
  rw [sdown, dif_neg h]
  have : xs.getD ((pos - 1) / 2) v = q := by rw [List.getD_eq_getElem?_getD, hq]; rfl
  rw [this, if_pos hl]
theorem sdown_stop {lt : Value → Value → Bool} {v q : Value} {xs : List Value} {pos : Nat} (h : pos ≠ 0) (hq : xs[(pos - 1) / 2]? = some q) (hl : lt v q = false) : sdown lt v xs pos = xs.set pos v := by
  rw [sdown, dif_neg h]
  have : xs.getD ((pos - 1) / 2) v = q := by rw [List.getD_eq_getElem?_getD, hq]; rfl
  rw [this, if_neg (by rw [hl]; simp)]
theorem siftdown_ok {w : World} {A : Around} {s : Shared} {g0 : Heap} {loose : List Str} {mean : ExcName → Option Value} {mg mb : Str → Option Value} {p : Program} {R : Result → Shared → Prop}
    (X : (hd.heap_1 w.params).In g0) (T : Top p loose mean mg mb g0) (k : g0.StaysIn s.heap) (hroom : A.depth + 60 < recursionLimit) (hun : A.units + 60 < cLine) {a : Addr} {vs : List Value} {n : Nat} {ps : Nat} {v : Value} {t u : Tok} (key : Value → Int × Int)
    (ha : s.heap.get? a = some (listOf vs.toArray n)) (hg : g0.get? a = none) (hps : vs[ps]? = some v) (hz : vs.length ≤ 1000) (hk : ∀ v ∈ vs, TupV s.heap v (key v))
    (hR : ∀ h' tk, (∀ b o, b ≠ a → s.heap.get? b = some o → h'.get? b = some o) → h'.get? a = some (listOf (sdown (fun x y => klt (key x) (key y)) v vs ps).toArray n) → R (.ok (.ret .none)) { s with heap := h', toks := tk }) :
    codeAny (model PG w) A (.call (.ref 49) ⟨[.ref a, .int 0 t, .int ps u], []⟩) R s := by
  refine enter [("heap", .ref a), ("startpos", .int 0 t), ("pos", .int ps u)] ["newitem", "parentpos", "parent"] (K := hd.heap_1 w.params) (W := [(a, listOf vs.toArray n)]) X T k (by simpa using ha) (by simpa using hg) (by k_is) (by k_is) (by omega) (BindsTo.of_eq rfl) (locs rfl) (of_decide_eq_true (by kernel_rfl)) (by decide +kernel) ?_ rfl rfl rfl (by decide)
  have hps' : ps < vs.length := (List.getElem?_eq_some_iff.mp hps).1
  intro g' L' h' st' kp' sub' F' N' X' T' nd' ns'
  dsimp only [fv0, List.map, HAppend.hAppend, Append.append, List.append] at F' nd'
  k_fold
  k_steps
  have e1 : v = v' := by
    have : vs[ps]? = some v' := hv'
    rw [hps] at this; exact Option.some.inj this
  subst e1
  have hk' : ∀ x ∈ vs, TupV g' x (key x) := fun x hx => (hk x hx).mono fun b o e hc => kp' b o e fun p hp => by
    rw [List.mem_singleton.mp hp]
    exact ne_of_cls ha e (by rw [hc]; exact cls_ne (by decide))
  unfold Stop
  refine whileF (fun m s' => ∃ (xs : List Value) (u' : Tok) (o1 o2 : Option Value) (h' : Heap) (tk : Nat), s' = { s with heap := h', toks := tk } ∧
    Fr g' L' h' (fv [("heap", some (.ref a)), ("startpos", some (.int 0 t)), ("pos", some (.int (m : Int) u')), ("newitem", some v), ("parentpos", o1), ("parent", o2)]) ∧ News g' L' h' [(a, listOf xs.toArray n)] ∧
    xs.length = vs.length ∧ m < vs.length ∧ sdown (fun x y => klt (key x) (key y)) v xs m = sdown (fun x y => klt (key x) (key y)) v vs ps ∧ ∀ x ∈ xs, TupV g' x (key x)) ?_ ps (i6 vs u none none _ _ ⟨rfl, F', N', rfl, hps', rfl, hk'⟩)
  intro m s' hx9; obtain ⟨xs, u', o1, o2, h1, tk1, rfl, F1, N1, hl, hm, hf, hkx⟩ := hx9; intro Q1 Q2 hq1 hq2
  clear F' N' nd'
  have nd' : (List.map (fun x : Str × Option Value => x.fst) [("heap", some (.ref a)), ("startpos", some (.int 0 t)), ("pos", some (.int (m : Int) u')), ("newitem", some v), ("parentpos", o1), ("parent", o2)]).Nodup := of_decide_eq_true (by kernel_rfl)
  have hkv := (hk' v (List.mem_of_getElem? hps))
  k_steps
  · -- the parent is greater, or not
    refine cmp_tup (k := key v) (k' := key v') (hkv.keeps F'.keep) ((hkx v' (List.mem_of_getElem? hv')).keeps F'.keep) (by show A.depth + 1 + 50 < recursionLimit; omega) (by show A.units + 3 + 50 < cLine; omega) ?_
    have hm0 : m ≠ 0 := by omega
    have ei : ((m : Int) - 1) / 2 = ((m - 1) / 2 : Nat) := by omega
    have hq : xs[(m - 1) / 2]? = some v' := by rw [← hv', ei]; rfl
    k_steps
    · have hlt : klt (key v) (key v') = true := by assumption
      rw [ei] at F'
      refine ⟨(m - 1) / 2, by omega, xs.set m v', _, _, _, _, _, rfl, F', N', by rw [List.length_set]; exact hl, by omega, ?_, ?_⟩
      · rw [← hf, sdown_up hm0 hq hlt]
      · intro x hx
        rcases List.mem_or_eq_of_mem_set hx with hx | rfl
        · exact hkx x hx
        · exact hkx _ (List.mem_of_getElem? hq)
    · have hlt : klt (key v) (key v') = false := by assumption
      refine hR _ _ (fun b o hb e => F'.keep _ _ (kp' b o e fun p hp => by rw [List.mem_singleton.mp hp]; exact fun q => hb q.symm)) ?_
      rw [← hf, sdown_stop hm0 hq hlt]
      exact (N' _ (.head _)).1
  · have hm0 : m = 0 := by omega
    subst hm0
    refine hR _ _ (fun b o hb e => F'.keep _ _ (kp' b o e fun p hp => by rw [List.mem_singleton.mp hp]; exact fun q => hb q.symm)) ?_
    rw [← hf, sdown_zero]
    exact (N' _ (.head _)).1
theorem kz_e_heap : True := by
  k_with "e_heap" => skip
  trivial
noncomputable def chil (lt : Value → Value → Bool) (xs : List Value) (pos : Nat) : Nat :=
  match xs[2 * pos + 1]?, xs[2 * pos + 2]? with
  | some l, some r => if lt l r then 2 * pos + 1 else 2 * pos + 2
  | _, _ => 2 * pos + 1
theorem chil_gt (lt : Value → Value → Bool) (xs : List Value) (pos : Nat) : pos < chil lt xs pos := by
  unfold chil; split
  · split <;> omega
  · omega
noncomputable def sup (lt : Value → Value → Bool) (xs : List Value) (pos : Nat) : List Value × Nat :=
  if h : 2 * pos + 1 < xs.length then match xs[chil lt xs pos]? with
    | some q => sup lt (xs.set pos q) (chil lt xs pos)
    | none => (xs, pos)
  else (xs, pos)
termination_by xs.length - pos
decreasing_by
  have := chil_gt lt xs pos
  rw [List.length_set]; omega
theorem sup_step {lt : Value → Value → Bool} {xs : List Value} {ps c : Nat} {q : Value} (h : 2 * ps + 1 < xs.length) (hc : chil lt xs ps = c) (hq : xs[c]? = some q) : sup lt xs ps = sup lt (xs.set ps q) c := by
  subst hc
  rw [sup, dif_pos h, hq]
theorem sup_stop {lt : Value → Value → Bool} {xs : List Value} {ps : Nat} (h : ¬ 2 * ps + 1 < xs.length) : sup lt xs ps = (xs, ps) := by
  rw [sup, dif_neg h]
theorem chil_l {lt : Value → Value → Bool} {xs : List Value} {ps : Nat} {l r : Value} (h1 : xs[2 * ps + 1]? = some l) (h2 : xs[2 * ps + 2]? = some r) (h : lt l r = true) : chil lt xs ps = 2 * ps + 1 := by
  unfold chil; rw [h1, h2]; simp only [h, if_true]
theorem chil_r {lt : Value → Value → Bool} {xs : List Value} {ps : Nat} {l r : Value} (h1 : xs[2 * ps + 1]? = some l) (h2 : xs[2 * ps + 2]? = some r) (h : lt l r = false) : chil lt xs ps = 2 * ps + 2 := by
  unfold chil; rw [h1, h2]; simp only [h]; rfl
theorem chil_o {lt : Value → Value → Bool} {xs : List Value} {ps : Nat} (h : xs.length ≤ 2 * ps + 2) : chil lt xs ps = 2 * ps + 1 := by
  unfold chil; rw [List.getElem?_eq_none h]; split
  · rename_i h; cases h
  · rfl
theorem all_set {P : Value → Prop} {xs : List Value} {i : Nat} {q : Value} (h : ∀ x ∈ xs, P x) (hq : P q) : ∀ x ∈ xs.set i q, P x := fun x hx => by
  rcases List.mem_or_eq_of_mem_set hx with hx | rfl
  · exact h x hx
  · exact hq
noncomputable def siftup (lt : Value → Value → Bool) (v : Value) (xs : List Value) : List Value := sdown lt v ((sup lt xs 0).1.set (sup lt xs 0).2 v) (sup lt xs 0).2
namespace siftup_ok_
def Q_ (w : World) (A : Around) (s : Shared) (g0 : Heap) (loose : List Str) (mean : ExcName → Option Value) (mg : Str → Option Value) (mb : Str → Option Value) (p : Program) (R : Result → Shared → Prop) (a : Addr) (n : Nat) (u : Tok) : Prop := ∀ (X : (hd.heap_1 w.params).In g0) (T : Top p loose mean mg mb g0) (k : g0.StaysIn s.heap) (hroom : A.depth + 70 < recursionLimit) (hun : A.units + 70 < cLine) {vs : List Value} {v : Value} (key : Value → Int × Int) (ha : s.heap.get? a = some (listOf vs.toArray n)) (hg : g0.get? a = none) (hps : vs[0]? = some v) (hz : vs.length ≤ 1000) (hk : ∀ v ∈ vs, TupV s.heap v (key v)) (hR : ∀ h' tk, (∀ b o, b ≠ a → s.heap.get? b = some o → h'.get? b = some o) → h'.get? a = some (listOf (siftup (fun x y => klt (key x) (key y)) v vs).toArray n) → R (.ok (.ret .none)) { s with heap := h', toks := tk }), codeAny (model PG w) A (.call (.ref 56) ⟨[.ref a, .int 0 u], []⟩) R s
noncomputable section
def P_ (x : World × Around × Shared × Heap × (List Str) × (ExcName → Option Value) × (Str → Option Value) × (Str → Option Value) × Program × (Result → Shared → Prop) × Addr × Nat × Tok) : Prop := Q_ x.1 x.2.1 x.2.2.1 x.2.2.2.1 x.2.2.2.2.1 x.2.2.2.2.2.1 x.2.2.2.2.2.2.1 x.2.2.2.2.2.2.2.1 x.2.2.2.2.2.2.2.2.1 x.2.2.2.2.2.2.2.2.2.1 x.2.2.2.2.2.2.2.2.2.2.1 x.2.2.2.2.2.2.2.2.2.2.2.1 x.2.2.2.2.2.2.2.2.2.2.2.2
def x_ := pick (dW, callerA, ({} : Shared), default, default, default, default, default, PG, default, default, default, default) fun x => ¬ P_ x
@[irreducible] def w := x_.1
@[irreducible] def A := x_.2.1
@[irreducible] def s := x_.2.2.1
@[irreducible] def g0 := x_.2.2.2.1
@[irreducible] def loose := x_.2.2.2.2.1
@[irreducible] def mean := x_.2.2.2.2.2.1
@[irreducible] def mg := x_.2.2.2.2.2.2.1
@[irreducible] def mb := x_.2.2.2.2.2.2.2.1
@[irreducible] def p := x_.2.2.2.2.2.2.2.2.1
@[irreducible] def R := x_.2.2.2.2.2.2.2.2.2.1
@[irreducible] def a := x_.2.2.2.2.2.2.2.2.2.2.1
@[irreducible] def n := x_.2.2.2.2.2.2.2.2.2.2.2.1
@[irreducible] def u := x_.2.2.2.2.2.2.2.2.2.2.2.2
end
theorem core : Q_ w A s g0 loose mean mg mb p R a n u := by
  intro X T k hroom hun vs v key ha hg hps hz hk hR
  refine enter [("heap", .ref a), ("pos", .int 0 u)] ["endpos", "startpos", "newitem", "childpos", "rightpos"] (K := hd.heap_1 w.params) (W := [(a, listOf vs.toArray n)]) X T k (by simpa using ha) (by simpa using hg) (by k_is) (by k_is) (by omega) (BindsTo.of_eq rfl) (locs rfl) (of_decide_eq_true (by kernel_rfl)) (by decide +kernel) ?_ rfl rfl rfl (by decide)
  have hps' : 0 < vs.length := (List.getElem?_eq_some_iff.mp hps).1
  intro g' L' h' st' kp' sub' F' N' X' T' nd' ns'
  dsimp only [fv0, List.map, HAppend.hAppend, Append.append, List.append] at F' nd'
  k_fold
  k_steps
  have e1 : v = v' := by
    have : vs[0]? = some v' := hv'
    rw [hps] at this; exact Option.some.inj this
  subst e1
  have hk' : ∀ x ∈ vs, TupV g' x (key x) := fun x hx => (hk x hx).mono fun b o e hc => kp' b o e fun p hp => by
    rw [List.mem_singleton.mp hp]
    exact ne_of_cls ha e (by rw [hc]; exact cls_ne (by decide))
  unfold Stop
  refine whileF (fun m s' => ∃ (xs : List Value) (ps : Nat) (u1 u2 u3 : Tok) (o2 : Option Value) (h' : Heap) (tk : Nat), s' = { s with heap := h', toks := tk } ∧ m = vs.length - ps ∧
    Fr g' L' h' (fv [("heap", some (.ref a)), ("pos", some (.int ps u1)), ("endpos", some (.int vs.length u2)), ("startpos", some (.int 0 u)), ("newitem", some v), ("childpos", some (.int (2 * ps + 1) u3)), ("rightpos", o2)]) ∧ News g' L' h' [(a, listOf xs.toArray n)] ∧
    xs.length = vs.length ∧ ps < vs.length ∧ sup (fun x y => klt (key x) (key y)) xs ps = sup (fun x y => klt (key x) (key y)) vs 0 ∧ ∀ x ∈ xs, TupV g' x (key x)) ?_ vs.length (i8 vs 0 u _ _ none _ _ ⟨rfl, rfl, F', N', rfl, hps', rfl, hk'⟩)
  intro m s' hx9; obtain ⟨xs, ps, u1, u2, u3, o2, h1, tk1, rfl, rfl, F1, N1, hl, hm, hf, hkx⟩ := hx9; intro Q1 Q2 hq1 hq2
  clear F' N' nd'
  have nd' : (List.map (fun x : Str × Option Value => x.fst) [("heap", some (.ref a)), ("pos", some (.int ps u1)), ("endpos", some (.int vs.length u2)), ("startpos", some (.int 0 u)), ("newitem", some v), ("childpos", some (.int (2 * ps + 1) u3)), ("rightpos", o2)]).Nodup := of_decide_eq_true (by kernel_rfl)
  k_steps
  · rename_i va hva vb hvb _ _ _
    have hlt : klt (key va) (key vb) = true := by assumption
    have e : (2 * (ps : Int) + 1) = ((2 * ps + 1 : Nat) : Int) := by omega
    rw [e] at F'
    have hq : xs[2 * ps + 1]? = some v' := by rw [← hv', e]; rfl
    have h1 : xs[2 * ps + 1]? = some va := by rw [← hva, e]; rfl
    have h2 : xs[2 * ps + 2]? = some vb := by rw [← hvb]; congr 1
    refine ⟨vs.length - (2 * ps + 1), by omega, xs.set ps v', 2 * ps + 1, _, _, _, _, _, _, rfl, rfl, F', N', by rw [List.length_set]; exact hl, by omega, by rw [← hf, sup_step (by omega) (chil_l h1 h2 hlt) hq], all_set hkx (hkx _ (List.mem_of_getElem? hq))⟩
  · rename_i va hva vb hvb _ _ _ _
    have hlt : klt (key va) (key vb) = false := by assumption
    have e : (2 * (ps : Int) + 1 + 1) = ((2 * ps + 2 : Nat) : Int) := by omega
    rw [e] at F'
    have hq : xs[2 * ps + 2]? = some v' := by rw [← hv', e]; rfl
    have h1 : xs[2 * ps + 1]? = some va := by rw [← hva]; congr 1
    have h2 : xs[2 * ps + 2]? = some vb := by rw [← hvb]; congr 1
    refine ⟨vs.length - (2 * ps + 2), by omega, xs.set ps v', 2 * ps + 2, _, _, _, _, _, _, rfl, rfl, F', N', by rw [List.length_set]; exact hl, by omega, by rw [← hf, sup_step (by omega) (chil_r h1 h2 hlt) hq], all_set hkx (hkx _ (List.mem_of_getElem? hq))⟩
  · have e : (2 * (ps : Int) + 1) = ((2 * ps + 1 : Nat) : Int) := by omega
    rw [e] at F'
    have hq : xs[2 * ps + 1]? = some v' := by rw [← hv', e]; rfl
    refine ⟨vs.length - (2 * ps + 1), by omega, xs.set ps v', 2 * ps + 1, _, _, _, _, _, _, rfl, rfl, F', N', by rw [List.length_set]; exact hl, by omega, by rw [← hf, sup_step (by omega) (chil_o (by omega)) hq], all_set hkx (hkx _ (List.mem_of_getElem? hq))⟩
  · have hv0 := hk' v (List.mem_of_getElem? hps)
    have e2 : siftup (fun x y => klt (key x) (key y)) v vs = sdown (fun x y => klt (key x) (key y)) v (xs.set ps v) ps := by
      unfold siftup; rw [← hf, sup_stop (by omega)]
    refine wpAny_call (siftdown_ok X T (fun b o e => F'.keep _ _ (st' b o e)) (by show A.depth + 1 + 60 < recursionLimit; omega) (by show A.units + 3 + 60 < cLine; omega) key (N' _ (.head _)).1 hg (vs := xs.set ps v) (ps := ps) (v := v) (by rw [List.getElem?_set_self (by omega)]) (by rw [List.length_set]; omega)
      (fun x hx => (all_set hkx hv0 x hx).keeps F'.keep) fun h2 tk2 kp2 ho2 => ?_)
    rw [← e2] at ho2
    k_steps
    exact hR _ _ (fun b o hb e => kp2 b o hb (F'.keep _ _ (kp' b o e fun p hp => by rw [List.mem_singleton.mp hp]; exact fun q => hb q.symm))) ho2
theorem all : ∀ y, P_ y := @pick_all _ _ P_ (by with_unfolding_all exact core)
end siftup_ok_
theorem siftup_ok {w A s g0 loose mean mg mb p R a n u} : siftup_ok_.Q_ w A s g0 loose mean mg mb p R a n u := @siftup_ok_.all (w, A, s, g0, loose, mean, mg, mb, p, R, a, n, u)
theorem kl_g_heap : True := by
  k_with "lia" => ((fail_if_success k_extra "g_heap"); lia)
  trivial
theorem heappush_ok {w : World} {A : Around} {s : Shared} {g0 : Heap} {loose : List Str} {mean : ExcName → Option Value} {mg mb : Str → Option Value} {p : Program} {R : Result → Shared → Prop}
    (X : (hd.heap_1 w.params).In g0) (T : Top p loose mean mg mb g0) (k : g0.StaysIn s.heap) (hroom : A.depth + 80 < recursionLimit) (hun : A.units + 80 < cLine) {a : Addr} {vs : List Value} {n : Nat} {v : Value} (key : Value → Int × Int)
    (ha : s.heap.get? a = some (listOf vs.toArray n)) (hg : g0.get? a = none) (hz : vs.length ≤ 900) (hk : ∀ v ∈ vs, TupV s.heap v (key v)) (hv : TupV s.heap v (key v))
    (hR : ∀ h' tk, (∀ b o, b ≠ a → s.heap.get? b = some o → h'.get? b = some o) → h'.get? a = some (listOf (sdown (fun x y => klt (key x) (key y)) v (vs ++ [v]) vs.length).toArray (n + 1)) → R (.ok (.ret .none)) { s with heap := h', toks := tk }) :
    codeAny (model PG w) A (.call (.ref 28) ⟨[.ref a, v], []⟩) R s := by
  refine enter [("heap", .ref a), ("item", v)] [] (K := hd.heap_1 w.params) (W := [(a, listOf vs.toArray n)]) X T k (by simpa using ha) (by simpa using hg) (by k_is) (by k_is) (by omega) (BindsTo.of_eq rfl) (locs rfl) (of_decide_eq_true (by kernel_rfl)) (by decide +kernel) ?_ rfl rfl rfl (by decide)
  intro g' L' h' st' kp' sub' F' N' X' T' nd' ns'
  k_fold
  dsimp only [fv0, List.map, HAppend.hAppend, Append.append, List.append] at F' nd'
  have hk' : ∀ x ∈ vs ++ [v], TupV g' x (key x) := fun x hx => by
    have : TupV s.heap x (key x) := by
      rcases List.mem_append.mp hx with hx | hx
      · exact hk x hx
      · rw [List.mem_singleton.mp hx]; exact hv
    exact this.mono fun b o e hc => kp' b o e fun p hp => by
      rw [List.mem_singleton.mp hp]
      exact ne_of_cls ha e (by rw [hc]; exact cls_ne (by decide))
  have hl : (vs ++ [v]).length = vs.length + 1 := by simp
  k_steps
  have e : (((vs ++ [v]).length : Int) - 1) = ((vs.length : Nat) : Int) := by omega
  rw [e]
  refine wpAny_call (siftdown_ok X T (fun b o e => F'.keep _ _ (st' b o e)) (by show A.depth + 1 + 60 < recursionLimit; omega) (by show A.units + 3 + 60 < cLine; omega) key (N' _ (.head _)).1 hg (vs := vs ++ [v]) (ps := vs.length) (v := v) (by simp) (by omega)
      (fun x hx => (hk' x hx).keeps F'.keep) fun h2 tk2 kp2 ho2 => ?_)
  k_steps
  exact hR _ _ (fun b o hb e => kp2 b o hb (F'.keep _ _ (kp' b o e fun p hp => by rw [List.mem_singleton.mp hp]; exact fun q => hb q.symm))) ho2
theorem heapreplace_ok {w : World} {A : Around} {s : Shared} {g0 : Heap} {loose : List Str} {mean : ExcName → Option Value} {mg mb : Str → Option Value} {p : Program} {R : Result → Shared → Prop}
    (X : (hd.heap_1 w.params).In g0) (T : Top p loose mean mg mb g0) (k : g0.StaysIn s.heap) (hroom : A.depth + 80 < recursionLimit) (hun : A.units + 80 < cLine) {a : Addr} {vs : List Value} {n : Nat} {v r : Value} (key : Value → Int × Int)
    (ha : s.heap.get? a = some (listOf vs.toArray n)) (hg : g0.get? a = none) (hz : vs.length ≤ 900) (hr : vs[0]? = some r) (hk : ∀ v ∈ vs, TupV s.heap v (key v)) (hv : TupV s.heap v (key v))
    (hR : ∀ h' tk, (∀ b o, b ≠ a → s.heap.get? b = some o → h'.get? b = some o) → h'.get? a = some (listOf (siftup (fun x y => klt (key x) (key y)) v (vs.set 0 v)).toArray n) → R (.ok (.ret r)) { s with heap := h', toks := tk }) :
    codeAny (model PG w) A (.call (.ref 42) ⟨[.ref a, v], []⟩) R s := by
  refine enter [("heap", .ref a), ("item", v)] ["returnitem"] (K := hd.heap_1 w.params) (W := [(a, listOf vs.toArray n)]) X T k (by simpa using ha) (by simpa using hg) (by k_is) (by k_is) (by omega) (BindsTo.of_eq rfl) (locs rfl) (of_decide_eq_true (by kernel_rfl)) (by decide +kernel) ?_ rfl rfl rfl (by decide)
  have hps' : 0 < vs.length := (List.getElem?_eq_some_iff.mp hr).1
  intro g' L' h' st' kp' sub' F' N' X' T' nd' ns'
  k_fold
  dsimp only [fv0, List.map, HAppend.hAppend, Append.append, List.append] at F' nd'
  have up : ∀ x, TupV s.heap x (key x) → TupV g' x (key x) := fun x hx => hx.mono fun b o e hc => kp' b o e fun p hp => by
      rw [List.mem_singleton.mp hp]
      exact ne_of_cls ha e (by rw [hc]; exact cls_ne (by decide))
  have hk' : ∀ x ∈ vs.set 0 v, TupV g' x (key x) := all_set (fun x hx => up x (hk x hx)) (up v hv)
  k_steps
  have e1 : r = v' := by
    have : vs[0]? = some v' := hv'
    rw [hr] at this; exact Option.some.inj this
  subst e1
  refine wpAny_call (siftup_ok X T (fun b o e => F'.keep _ _ (st' b o e)) (by show A.depth + 1 + 70 < recursionLimit; omega) (by show A.units + 3 + 70 < cLine; omega) key (N' _ (.head _)).1 hg (vs := vs.set 0 v) (v := v) (by rw [List.getElem?_set_self hps']) (by rw [List.length_set]; omega)
      (fun x hx => (hk' x hx).keeps F'.keep) fun h2 tk2 kp2 ho2 => ?_)
  obtain ⟨F', N'⟩ := after1 F' N' kp2 ho2 (.head fun p hp => nomatch hp)
  k_steps
  exact hR _ _ (fun b o hb e => F'.keep _ _ (kp' b o e fun p hp => by rw [List.mem_singleton.mp hp]; exact fun q => hb q.symm)) ho2
noncomputable def popRest (lt : Value → Value → Bool) (vs : List Value) : List Value :=
  match vs.getLast? with
  | none => []
  | some z => if vs.dropLast = [] then [] else siftup lt z (vs.dropLast.set 0 z)
theorem heappop_ok {w : World} {A : Around} {s : Shared} {g0 : Heap} {loose : List Str} {mean : ExcName → Option Value} {mg mb : Str → Option Value} {p : Program} {R : Result → Shared → Prop}
    (X : (hd.heap_1 w.params).In g0) (T : Top p loose mean mg mb g0) (k : g0.StaysIn s.heap) (hroom : A.depth + 80 < recursionLimit) (hun : A.units + 80 < cLine) {a : Addr} {vs : List Value} {n : Nat} {r : Value} (key : Value → Int × Int)
    (ha : s.heap.get? a = some (listOf vs.toArray n)) (hg : g0.get? a = none) (hz : vs.length ≤ 900) (hr : vs[0]? = some r) (hk : ∀ v ∈ vs, TupV s.heap v (key v))
    (hR : ∀ h' tk, (∀ b o, b ≠ a → s.heap.get? b = some o → h'.get? b = some o) → h'.get? a = some (listOf (popRest (fun x y => klt (key x) (key y)) vs).toArray (n + 1)) → R (.ok (.ret r)) { s with heap := h', toks := tk }) :
    codeAny (model PG w) A (.call (.ref 35) ⟨[.ref a], []⟩) R s := by
  refine enter [("heap", .ref a)] ["lastelt", "returnitem"] (K := hd.heap_1 w.params) (W := [(a, listOf vs.toArray n)]) X T k (by simpa using ha) (by simpa using hg) (by k_is) (by k_is) (by omega) (BindsTo.of_eq rfl) (locs rfl) (of_decide_eq_true (by kernel_rfl)) (by decide +kernel) ?_ rfl rfl rfl (by decide)
  have hps' : 0 < vs.length := (List.getElem?_eq_some_iff.mp hr).1
  have hne : vs ≠ [] := by intro e; subst e; simp at hps'
  intro g' L' h' st' kp' sub' F' N' X' T' nd' ns'
  k_fold
  dsimp only [fv0, List.map, HAppend.hAppend, Append.append, List.append] at F' nd'
  have up : ∀ x, TupV s.heap x (key x) → TupV g' x (key x) := fun x hx => hx.mono fun b o e hc => kp' b o e fun p hp => by
      rw [List.mem_singleton.mp hp]
      exact ne_of_cls ha e (by rw [hc]; exact cls_ne (by decide))
  have hlz := List.getLast?_eq_some_getLast hne
  have hdl : vs.dropLast.length = vs.length - 1 := List.length_dropLast ..
  k_steps
  · have h1 : vs.dropLast = [] := List.isEmpty_iff.mp (by assumption)
    have e1 : vs.getLast hne = r := by
      have : vs.length = 1 := by rw [h1] at hdl; simp at hdl; omega
      obtain ⟨x, rfl⟩ := List.length_eq_one_iff.mp this
      simpa using hr
    rw [e1]
    refine hR _ _ (fun b o hb e => F'.keep _ _ (kp' b o e fun p hp => by rw [List.mem_singleton.mp hp]; exact fun q => hb q.symm)) ?_
    have e2 : popRest (fun x y => klt (key x) (key y)) vs = vs.dropLast := by unfold popRest; rw [hlz]; simp only [h1, if_true]
    rw [e2]
    exact (N' _ (.head _)).1
  · have h0 : vs.dropLast.isEmpty = false := by assumption
    have h1 : vs.dropLast ≠ [] := fun e => by rw [e] at h0; cases h0
    have h2 : 0 < vs.dropLast.length := List.length_pos_iff.mpr h1
    have hz2 : vs.dropLast.length ≤ 900 := by omega
    have hkl : TupV g' (vs.getLast hne) (key (vs.getLast hne)) := up _ (hk _ (List.getLast_mem hne))
    have hk' : ∀ x ∈ vs.dropLast.set 0 (vs.getLast hne), TupV g' x (key x) := all_set (fun x hx => up x (hk x (List.dropLast_subset _ hx))) hkl
    k_steps
    have e1 : r = v' := by
      have : vs.dropLast[0]? = some v' := hv'
      rw [List.getElem?_dropLast, if_pos (by omega), hr] at this
      exact Option.some.inj this
    subst e1
    refine wpAny_call (siftup_ok X T (fun b o e => F'.keep _ _ (st' b o e)) (by show A.depth + 1 + 70 < recursionLimit; omega) (by show A.units + 3 + 70 < cLine; omega) key (N' _ (.head _)).1 hg (vs := vs.dropLast.set 0 (vs.getLast hne)) (v := vs.getLast hne) (by rw [List.getElem?_set_self h2]) (by rw [List.length_set]; omega)
      (fun x hx => (hk' x hx).keeps F'.keep) fun h2 tk2 kp2 ho2 => ?_)
    obtain ⟨F', N'⟩ := after1 F' N' kp2 ho2 (.head fun p hp => nomatch hp)
    k_steps
    refine hR _ _ (fun b o hb e => F'.keep _ _ (kp' b o e fun p hp => by rw [List.mem_singleton.mp hp]; exact fun q => hb q.symm)) ?_
    have e2 : popRest (fun x y => klt (key x) (key y)) vs = siftup (fun x y => klt (key x) (key y)) (vs.getLast hne) (vs.dropLast.set 0 (vs.getLast hne)) := by unfold popRest; rw [hlz]; simp only [h1, if_false]
    rw [e2]; exact ho2
theorem kz_g_heap : True := by
  k_with "g_heap" => skip
  trivial
/-! the ledger as a finite map -/
noncomputable def putW (W : List (Addr × Obj)) (a : Addr) (o : Obj) : List (Addr × Obj) := W.map fun p => if p.1 = a then (a, o) else p
theorem putW_names (W : List (Addr × Obj)) (a : Addr) (o : Obj) : (putW W a o).map (·.1) = W.map (·.1) := by
  unfold putW
  rw [List.map_map]
  refine List.map_congr_left fun p _ => ?_
  show (if p.1 = a then (a, o) else p).1 = p.1
  split
  · rename_i h; exact h.symm
  · rfl
theorem look_mem {W : List (Addr × Obj)} {a : Addr} {o : Obj} (h : W.lookup a = some o) : (a, o) ∈ W := by
  induction W with
  | nil => cases h
  | cons p r ih =>
    rw [List.lookup_cons] at h
    by_cases e : a = p.1
    · subst e
      simp only [beq_self_eq_true] at h
      cases h; exact .head _
    · have : (a == p.1) = false := by simpa using e
      rw [this] at h
      exact .tail _ (ih h)
theorem mem_look {W : List (Addr × Obj)} {a : Addr} {o : Obj} (nd : (W.map (·.1)).Nodup) (h : (a, o) ∈ W) : W.lookup a = some o := by
  induction W with
  | nil => cases h
  | cons p r ih =>
    rw [List.map_cons, List.nodup_cons] at nd
    rw [List.lookup_cons]
    rcases List.mem_cons.mp h with e | h
    · rw [← e]; simp
    · have : a ≠ p.1 := fun q => nd.1 (by rw [← q]; exact List.mem_map_of_mem (f := (·.1)) h)
      have : (a == p.1) = false := by simpa using this
      rw [this]; exact ih nd.2 h
theorem look_put {W : List (Addr × Obj)} {a b : Addr} {o' : Obj} (ha : (W.lookup a).isSome = true) : (putW W a o').lookup b = if b = a then some o' else W.lookup b := by
  induction W with
  | nil => cases ha
  | cons p r ih =>
    unfold putW
    rw [List.map_cons, List.lookup_cons, List.lookup_cons]
    rw [List.lookup_cons] at ha
    by_cases e : p.1 = a
    · rw [if_pos e]
      show (match b == a with | true => some o' | false => (putW r a o').lookup b) = _
      by_cases q : b = a
      · subst q; simp
      · have h1 : (b == a) = false := by simpa using q
        have h2 : (b == p.1) = false := by simpa [e] using q
        rw [h1, h2, if_neg q]
        show (putW r a o').lookup b = r.lookup b
        have : ∀ l : List (Addr × Obj), (putW l a o').lookup b = l.lookup b := by
          intro l
          induction l with
          | nil => rfl
          | cons x l ihl =>
            unfold putW
            rw [List.map_cons, List.lookup_cons, List.lookup_cons]
            by_cases z : x.1 = a
            · rw [if_pos z]
              have h3 : (b == x.1) = false := by simpa [z] using q
              show (match b == a with | true => some o' | false => (putW l a o').lookup b) = _
              rw [h1, h3]; exact ihl
            · rw [if_neg z]
              split
              · rfl
              · exact ihl
        exact this r
    · rw [if_neg e]
      have h1 : (a == p.1) = false := by simpa using fun z : a = p.1 => e z.symm
      rw [h1] at ha
      by_cases q : b = p.1
      · subst q
        simp only [beq_self_eq_true]
        rw [if_neg e]
      · have h2 : (b == p.1) = false := by simpa using q
        rw [h2]
        exact ih ha
theorem upd_put {W : List (Addr × Obj)} {a : Addr} {o o' : Obj} (nd : (W.map (·.1)).Nodup) (h : W.lookup a = some o) : Upd a o o' W (putW W a o') := by
  induction W with
  | nil => cases h
  | cons p r ih =>
    rw [List.map_cons, List.nodup_cons] at nd
    rw [List.lookup_cons] at h
    by_cases e : a = p.1
    · obtain ⟨pa, po⟩ := p
      dsimp only at e nd
      subst e
      simp only [beq_self_eq_true] at h
      cases h
      have hr : ∀ q ∈ r, q.1 ≠ a := fun q hq z => nd.1 (by rw [← z]; exact List.mem_map_of_mem (f := (·.1)) hq)
      have : putW r a o' = r := by
        unfold putW
        conv => rhs; rw [← List.map_id r]
        refine List.map_congr_left fun q hq => ?_
        rw [if_neg (hr q hq)]; rfl
      unfold putW
      rw [List.map_cons, if_pos rfl]
      show Upd a o o' ((a, o) :: r) ((a, o') :: putW r a o')
      rw [this]
      exact .head hr
    · have h1 : (a == p.1) = false := by simpa using e
      rw [h1] at h
      unfold putW
      rw [List.map_cons, if_neg fun z => e z.symm]
      exact .tail (fun z => e z.symm) (ih nd.2 h)
theorem look_cons {W : List (Addr × Obj)} {a b : Addr} {o : Obj} : ((a, o) :: W).lookup b = if b = a then some o else W.lookup b := by
  rw [List.lookup_cons]
  by_cases q : b = a
  · subst q; simp
  · have : (b == a) = false := by simpa using q
    rw [this, if_neg q]
section
variable {g h h2 : Heap} {L a b : Addr} {m : Str → Option Value} {W : List (Addr × Obj)} {o o' : Obj}
theorem nget (N : News g L h W) (hl : W.lookup a = some o) : h.get? a = some o := (N _ (look_mem hl)).1
theorem ngone (N : News g L h W) (hl : W.lookup a = some o) : g.get? a = none := (N _ (look_mem hl)).2.2
theorem turn (F : Fr g L h m) (N : News g L h W) (nd : (W.map (·.1)).Nodup) (hl : W.lookup a = some o) (hs : Heap.SameBut a h h2) (ho : h2.get? a = some o') : Fr g L h2 m ∧ News g L h2 (putW W a o') ∧ ((putW W a o').map (·.1)).Nodup := by
  obtain ⟨F2, N2⟩ := after1 F N (fun b ob hb e => (hs.2 b hb).trans e) ho (upd_put nd hl)
  exact ⟨F2, N2, by rw [putW_names]; exact nd⟩
end
abbrev infoObj (d : Addr) (ls np nd : Value) : Obj := { cls := .ref 75, dict := some d, data := .plain, slots := #[some nd, some np, some ls] }
theorem mem_keep {h h' : Heap} {news : List (Addr × Obj)} (D : Mem h h' [] news) : ∀ b o, h.get? b = some o → h'.get? b = some o := fun b o e => D.keep b o e (by unfold away; simp)
theorem mem_new {h h' : Heap} {news : List (Addr × Obj)} {q : Addr × Obj} (i : Nat) (D : Mem h h' [] news) (hi : news[i]? = some q) {o : Obj} (ho : q.2 = o) : h'.get? q.1 = some o ∧ h.get? q.1 = none := by
  obtain ⟨a, o'⟩ := q; subst ho; exact D.nw _ (List.mem_of_getElem? hi)
inductive Ats : List DictEntry → List (Str × Value) → Prop
  | nil : Ats [] []
  | cons {hs : Int} {x : Str} {k v : Value} {t : Tok} {es m} : k = .str x t → Ats es m → Ats (⟨hs, k, v⟩ :: es) ((x, v) :: m)
theorem Ats.length {es m} (h : Ats es m) : es.length = m.length := by
  induction h with
  | nil => rfl
  | cons _ _ ih => simp only [List.length_cons, ih]
theorem Ats.get {es m x v} (h : Ats es m) (hx : m.lookup x = some v) : PySem.W.getL x es = some (some v) := by
  have : (es.find? (·.key.isStr x)).map (·.val) = some v := by
    induction h with
    | nil => cases hx
    | @cons hs y k u t es m e _ ih =>
      subst e
      rw [List.find?_cons]
      have e0 : (Value.str y t).isStr x = (y == x) := rfl
      simp only [e0]
      rw [List.lookup_cons] at hx
      by_cases q : x = y
      · subst q; simp at hx ⊢; exact hx
      · have h1 : (x == y) = false := by simpa using q
        have h2 : (y == x) = false := by simpa using fun z : y = x => q z.symm
        rw [h1] at hx; rw [h2]; exact ih hx
  unfold PySem.W.getL
  obtain ⟨e, he, rfl⟩ := Option.map_eq_some_iff.mp this
  rw [he]
noncomputable def atSet (x : Str) (v : Value) (m : List (Str × Value)) : List (Str × Value) := m.map fun p => if p.1 = x then (x, v) else p
theorem Ats.put {es m x v hs k} (h : Ats es m) (nd : (m.map (·.1)).Nodup) (hx : (m.lookup x).isSome = true) : Ats (putL x hs k v es) (atSet x v m) := by
  induction h with
  | nil => cases hx
  | @cons hs' y k' u t es m e h ih =>
    subst e
    rw [List.map_cons, List.nodup_cons] at nd
    rw [List.lookup_cons] at hx
    unfold putL atSet
    rw [List.map_cons]
    show Ats (if (y == x) = true then _ else _) _
    by_cases q : y = x
    · subst q
      have hr : atSet y v m = m := by
        unfold atSet
        conv => rhs; rw [← List.map_id m]
        refine List.map_congr_left fun p hp => ?_
        rw [if_neg fun z : p.1 = y => nd.1 (by rw [← z]; exact List.mem_map_of_mem (f := (·.1)) hp)]; rfl
      rw [if_pos (by simp), if_pos rfl]
      show Ats _ ((y, v) :: atSet y v m)
      rw [hr]
      exact .cons rfl h
    · have h1 : (x == y) = false := by simpa using fun z : x = y => q z.symm
      rw [h1] at hx
      rw [if_neg (by simpa using q), if_neg q]
      exact .cons rfl (ih nd.2 hx)
abbrev sK (w : World) : PySem.KeyKind PG w Str := PySem.strKind PG w
theorem condFn_ite {α : Type} (b : Bool) (x y : α) : condFn α b x y = if b = true then x else y := by cases b <;> rfl
theorem xw_reduce (i : Int) : XFast.xw12210062019545310541 i = PySem.reduceHash i := by
  unfold XFast.xw12210062019545310541 PySem.reduceHash
  have e1 : @eqQ = @Int.instDecidableEq := Subsingleton.elim _ _
  have e2 : @leQ = @Int.decLe := Subsingleton.elim _ _
  have e3 : @ltQ = @Int.decLt := Subsingleton.elim _ _
  simp only [condFn_ite]
  rw [e1, e2, e3]
theorem xw_stand (t : SetTable) (n : Nat) : XFast.xw9749593925720190779 t n = t.orStandIn n := by
  unfold XFast.xw9749593925720190779 SetTable.orStandIn
  rw [condFn_ite]
noncomputable def cHash (w : World) (x : Str) : Int := condFn Int x.cps.isEmpty 0 (XFast.xw12210062019545310541 (w.params.strHash x.cps))
theorem cHash_eq (w : World) (x : Str) : cHash w x = (sK w).hash x := by
  show cHash w x = PySem.hashStr w x
  unfold cHash PySem.hashStr
  rw [condFn_ite, xw_reduce]
theorem set_one {w : World} {h : Heap} {a : Addr} {x : Str} {t : Tok} {ep p : Nat} {tb t' : SetTable} (ho : h.get? a = some { cls := .type "set", data := .set (SetTable.insertAt #[] p (cHash w x, .str x t)) ep tb })
    (ht : tb = { XFast.xw9749593925720190779 t' (SetTable.insertAt #[] p (cHash w x, Value.str x t)).size with plain := false }) : h.SetOf (sK w) a (fun y => y == x) 1 := by
  have hl : (SetTable.insertAt #[] p (cHash w x, Value.str x t)).toList = [((sK w).hash x, .str x t)] := by
    rw [SetTable.toList_insertAt, cHash_eq]; simp
  have hz : (SetTable.insertAt #[] p (cHash w x, Value.str x t)).size = 1 := by rw [← Array.length_toList, hl]; rfl
  have hf : tb.fits 1 = true := by
    rw [ht, hz, xw_stand]
    exact SetTable.fits_plain_off (SetTable.orStandIn_fits _ _)
  refine ⟨_, _, _, _, ho, ⟨rfl, rfl, rfl⟩, rfl, ?_, ?_, ?_, ?_, hz⟩
  · rw [hl]; intro e he
    rw [List.mem_singleton.mp he]
    exact ⟨⟨x, by show Value.isStrOf x (.str x t) = true; simp [Value.isStrOf], rfl⟩, rfl⟩
  · intro k; rw [hl]
    constructor
    · intro e
      refine ⟨_, .head _, ?_⟩
      have : k = x := by simpa using e
      subst this
      show Value.isStrOf k (.str k t) = true; simp [Value.isStrOf]
    · intro hx9; obtain ⟨e, he, hk⟩ := hx9
      rw [List.mem_singleton.mp he] at hk
      have : Value.isStrOf k (.str x t) = true := hk
      simp [Value.isStrOf] at this
      simp [this]
  · rw [hz]; decide
  · rw [hz]; exact hf
theorem kl_i_sort : True := by
  k_with "lia" => ((fail_if_success k_extra "i_sort"); lia)
  trivial
/-! the sorter as a datum -/
inductive IV : List Value → List Nat → Prop
  | nil : IV [] []
  | cons {vs : List Value} {xs : List Nat} {x : Nat} {t : Tok} : IV vs xs → IV (.int (x : Int) t :: vs) (x :: xs)
theorem IV.length {vs xs} (h : IV vs xs) : vs.length = xs.length := by
  induction h with
  | nil => rfl
  | cons _ ih => simp only [List.length_cons, ih]
theorem IV.append {vs xs ws ys} (h : IV vs xs) (k : IV ws ys) : IV (vs ++ ws) (xs ++ ys) := by
  induction h with
  | nil => exact k
  | cons _ ih => exact .cons ih
theorem IV.at {vs xs v} (h : IV vs xs) {i : Nat} (hv : vs[i]? = some v) : ∃ x t, xs[i]? = some x ∧ v = .int (x : Int) t := by
  induction h generalizing i with
  | nil => simp at hv
  | @cons vs xs x t _ ih =>
    cases i with
    | zero => simp at hv; exact ⟨x, t, rfl, hv.symm⟩
    | succ i => simp at hv; simpa using ih hv
abbrev iK (w : World) : PySem.KeyKind PG w Int := PySem.intKind PG w
structure SS where
  s : Addr
  d : Addr
  n2 : Addr
  rd : Option Addr
  nodes : List Nat
  ready : List Nat
  po : Nat
  nf : Nat
  ia : Nat → Addr
  la : Nat → Addr
  da : Nat → Addr
  np : Nat → Int
  succ : Nat → List Nat
noncomputable def SS.rdV (S : SS) : Value := match S.rd with
  | none => .none
  | some a => .ref a
noncomputable def SS.kvs (S : SS) : List (Int × Value) := S.nodes.map fun x : Nat => ((x : Int), .ref (S.ia x))
noncomputable def upd {β : Type} (f : Nat → β) (x : Nat) (v : β) : Nat → β := fun y => if y = x then v else f y
theorem upd_self {β : Type} (f : Nat → β) (x : Nat) (v : β) : upd f x v x = v := if_pos rfl
theorem upd_ne {β : Type} (f : Nat → β) {x y : Nat} (v : β) (h : y ≠ x) : upd f x v y = f y := if_neg h
structure Srt (w : World) (W : List (Addr × Obj)) (S : SS) : Prop where
  nd : (W.map (·.1)).Nodup
  obj : W.lookup S.s = some (instObj 172 S.d)
  ats : ∃ es n t1 t2, W.lookup S.d = some (dictOf es n) ∧ Ats es [("_node2info", .ref S.n2), ("_ready_nodes", S.rdV), ("_npassedout", .int (S.po : Int) t1), ("_nfinished", .int (S.nf : Int) t2)]
  inf : ∃ o, W.lookup S.n2 = some o ∧ o.IsDictOf (iK w) S.kvs
  rdy : ∀ a, S.rd = some a → ∃ vs n, W.lookup a = some (listOf vs.toArray n) ∧ IV vs S.ready
  info : ∀ x ∈ S.nodes, ∃ t t', W.lookup (S.ia x) = some (infoObj (S.da x) (.ref (S.la x)) (.int (S.np x) t) (.int (x : Int) t'))
  dd : ∀ x ∈ S.nodes, W.lookup (S.da x) = some (dictOf [] 0)
  suc : ∀ x ∈ S.nodes, ∃ vs n, W.lookup (S.la x) = some (listOf vs.toArray n) ∧ IV vs (S.succ x)
  lne : ∀ x ∈ S.nodes, ∀ y ∈ S.nodes, S.la x = S.la y → x = y
  rne : ∀ a, S.rd = some a → ∀ x ∈ S.nodes, S.la x ≠ a
  dn : S.d ≠ S.n2
  ns : (S.n2 == sysModules) = false
theorem kvs_nodup {S : SS} (h : (S.kvs.map (·.1)).Nodup) : S.nodes.Nodup := by
  unfold SS.kvs at h
  rw [List.map_map] at h
  exact (List.pairwise_map.mp h).imp fun hne e => hne (by rw [e])
theorem kvs_at0 {ia : Nat → Addr} {x : Nat} : ∀ {l : List Nat}, x ∈ l → PySem.valueAt (l.map fun x : Nat => ((x : Int), Value.ref (ia x))) (x : Int) = some (.ref (ia x))
  | [], h => nomatch h
  | y :: r, h => by
    unfold PySem.valueAt
    rw [List.map_cons, List.find?_cons]
    by_cases e : y = x
    · subst e; simp
    · have : decide ((y : Int) = (x : Int)) = false := decide_eq_false (by omega)
      simp only [this]
      rcases List.mem_cons.mp h with q | q
      · exact absurd q.symm e
      · exact kvs_at0 q
theorem kvs_no0 {ia : Nat → Addr} {x : Nat} : ∀ {l : List Nat}, x ∉ l → PySem.valueAt (l.map fun x : Nat => ((x : Int), Value.ref (ia x))) (x : Int) = none
  | [], h => rfl
  | y :: r, h => by
    unfold PySem.valueAt
    rw [List.map_cons, List.find?_cons]
    have e : y ≠ x := fun q => h (by rw [q]; exact .head _)
    have : decide ((y : Int) = (x : Int)) = false := decide_eq_false (by omega)
    simp only [this]
    exact kvs_no0 fun q => h (.tail _ q)
theorem kvs_at {S : SS} {x : Nat} (h : x ∈ S.nodes) : PySem.valueAt S.kvs (x : Int) = some (.ref (S.ia x)) := kvs_at0 h
theorem kvs_no {S : SS} {x : Nat} (h : x ∉ S.nodes) : PySem.valueAt S.kvs (x : Int) = none := kvs_no0 h
section
variable {w : World} {W : List (Addr × Obj)} {S : SS}
theorem Srt.nodup (h : Srt w W S) : S.nodes.Nodup := by
  obtain ⟨o, _, es, ep, _, _, _, _, hn⟩ := h.inf
  exact kvs_nodup hn
theorem lk_ne {a b : Addr} {o o' : Obj} (ha : W.lookup a = some o) (hb : W.lookup b = some o') (hc : o.cls ≠ o'.cls) : a ≠ b := fun e => by
  subst e; rw [ha] at hb; cases hb; exact hc rfl
theorem Srt.d_da (h : Srt w W S) {x : Nat} (hx : x ∈ S.nodes) : S.da x ≠ S.d := fun e => by
  obtain ⟨es, n, t1, t2, hd, A⟩ := h.ats
  have := h.dd x hx
  rw [e, hd] at this
  have := A.length
  simp_all
theorem Srt.n2_da (h : Srt w W S) {x : Nat} (hx : x ∈ S.nodes) : S.da x ≠ S.n2 := fun e => by
  obtain ⟨o, ho, es, ep, _, hd, _, hp, _⟩ := h.inf
  have := h.dd x hx
  rw [e, ho] at this
  cases this
  cases hd
  have := hp.length
  unfold SS.kvs at this
  have h2 : S.nodes = [] := by simpa using this.symm
  rw [h2] at hx; cases hx
theorem Srt.ia_ne (h : Srt w W S) {x y : Nat} (hx : x ∈ S.nodes) (hy : y ∈ S.nodes) (e : S.ia x = S.ia y) : x = y := by
  obtain ⟨t, t', h1⟩ := h.info x hx
  obtain ⟨u, u', h2⟩ := h.info y hy
  rw [e, h2] at h1
  simp at h1
  omega
theorem Srt.inf_cls (h : Srt w W S) : ∃ o, W.lookup S.n2 = some o ∧ o.cls = .type "dict" := by
  obtain ⟨o, ho, es, ep, hc, _⟩ := h.inf
  exact ⟨o, ho, hc.1⟩
theorem Srt.setNp (h : Srt w W S) {x : Nat} (hx : x ∈ S.nodes) {v : Int} {t t' : Tok} : Srt w (putW W (S.ia x) (infoObj (S.da x) (.ref (S.la x)) (.int v t) (.int (x : Int) t'))) { S with np := upd S.np x v } := by
  obtain ⟨u, u', hi⟩ := h.info x hx
  have hs : (W.lookup (S.ia x)).isSome = true := by rw [hi]; rfl
  have L : ∀ b, b ≠ S.ia x → (putW W (S.ia x) (infoObj (S.da x) (.ref (S.la x)) (.int v t) (.int (x : Int) t'))).lookup b = W.lookup b := fun b hb => by rw [look_put hs, if_neg hb]
  refine ⟨by rw [putW_names]; exact h.nd, ?_, ?_, ?_, ?_, ?_, ?_, ?_, h.lne, h.rne, h.dn, h.ns⟩
  · show List.lookup S.s _ = _
    rw [L _ (lk_ne h.obj hi (by simp))]; exact h.obj
  · obtain ⟨es, n, t1, t2, hd, A⟩ := h.ats
    refine ⟨es, n, t1, t2, by show List.lookup S.d _ = _; rw [L _ (lk_ne hd hi (by simp))]; exact hd, A⟩
  · obtain ⟨o, ho, hd⟩ := h.inf
    obtain ⟨o', ho', hc⟩ := h.inf_cls
    rw [ho] at ho'; cases ho'
    exact ⟨o, by show List.lookup S.n2 _ = _; rw [L _ (lk_ne ho hi (by rw [hc]; simp))]; exact ho, hd⟩
  · intro a ha
    obtain ⟨vs, n, hl, hv⟩ := h.rdy a ha
    exact ⟨vs, n, by rw [L _ (lk_ne hl hi (by simp))]; exact hl, hv⟩
  · intro y hy
    by_cases e : y = x
    · subst e
      exact ⟨t, t', by show List.lookup (S.ia y) _ = _; rw [look_put hs, if_pos rfl]; show _ = some (infoObj _ _ (.int (upd S.np y v y) t) _); rw [upd_self]⟩
    · obtain ⟨r, r', hy'⟩ := h.info y hy
      exact ⟨r, r', by show List.lookup (S.ia y) _ = some (infoObj _ _ (.int (upd S.np x v y) r) _); rw [upd_ne _ _ e, L _ fun q => e (h.ia_ne hy hx q)]; exact hy'⟩
  · intro y hy
    show List.lookup (S.da y) _ = _
    rw [L _ (lk_ne (h.dd y hy) hi (by simp))]; exact h.dd y hy
  · intro y hy
    obtain ⟨vs, n, hl, hv⟩ := h.suc y hy
    exact ⟨vs, n, by show List.lookup (S.la y) _ = _; rw [L _ (lk_ne hl hi (by simp))]; exact hl, hv⟩
theorem Srt.setReady (h : Srt w W S) {a : Addr} (ha : S.rd = some a) {vs : List Value} {n : Nat} {xs : List Nat} (hv : IV vs xs) : Srt w (putW W a (listOf vs.toArray n)) { S with ready := xs } := by
  obtain ⟨vs0, n0, hi, _⟩ := h.rdy a ha
  have hs : (W.lookup a).isSome = true := by rw [hi]; rfl
  have L : ∀ b, b ≠ a → (putW W a (listOf vs.toArray n)).lookup b = W.lookup b := fun b hb => by rw [look_put hs, if_neg hb]
  refine ⟨by rw [putW_names]; exact h.nd, ?_, ?_, ?_, ?_, ?_, ?_, ?_, h.lne, h.rne, h.dn, h.ns⟩
  · show List.lookup S.s _ = _
    rw [L _ (lk_ne h.obj hi (by simp))]; exact h.obj
  · obtain ⟨es, n, t1, t2, hd, A⟩ := h.ats
    refine ⟨es, n, t1, t2, by show List.lookup S.d _ = _; rw [L _ (lk_ne hd hi (by simp))]; exact hd, A⟩
  · obtain ⟨o, ho, hd⟩ := h.inf
    obtain ⟨o', ho', hc⟩ := h.inf_cls
    rw [ho] at ho'; cases ho'
    exact ⟨o, by show List.lookup S.n2 _ = _; rw [L _ (lk_ne ho hi (by rw [hc]; simp))]; exact ho, hd⟩
  · intro b hb
    have : b = a := by have := hb.symm.trans ha; cases this; rfl
    subst this
    exact ⟨vs, n, by rw [look_put hs, if_pos rfl], hv⟩
  · intro y hy
    obtain ⟨r, r', hy'⟩ := h.info y hy
    exact ⟨r, r', by show List.lookup (S.ia y) _ = _; rw [L _ (lk_ne hy' hi (by simp))]; exact hy'⟩
  · intro y hy
    show List.lookup (S.da y) _ = _
    rw [L _ (lk_ne (h.dd y hy) hi (by simp))]; exact h.dd y hy
  · intro y hy
    obtain ⟨vs, n, hl, hv⟩ := h.suc y hy
    exact ⟨vs, n, by show List.lookup (S.la y) _ = _; rw [L _ (h.rne a ha y hy)]; exact hl, hv⟩
theorem Srt.setSucc (h : Srt w W S) {x : Nat} (hx : x ∈ S.nodes) {vs : List Value} {n : Nat} {xs : List Nat} (hv : IV vs xs) : Srt w (putW W (S.la x) (listOf vs.toArray n)) { S with succ := upd S.succ x xs } := by
  obtain ⟨vs0, n0, hi, _⟩ := h.suc x hx
  have hs : (W.lookup (S.la x)).isSome = true := by rw [hi]; rfl
  have L : ∀ b, b ≠ S.la x → (putW W (S.la x) (listOf vs.toArray n)).lookup b = W.lookup b := fun b hb => by rw [look_put hs, if_neg hb]
  refine ⟨by rw [putW_names]; exact h.nd, ?_, ?_, ?_, ?_, ?_, ?_, ?_, h.lne, h.rne, h.dn, h.ns⟩
  · show List.lookup S.s _ = _
    rw [L _ (lk_ne h.obj hi (by simp))]; exact h.obj
  · obtain ⟨es, n, t1, t2, hd, A⟩ := h.ats
    refine ⟨es, n, t1, t2, by show List.lookup S.d _ = _; rw [L _ (lk_ne hd hi (by simp))]; exact hd, A⟩
  · obtain ⟨o, ho, hd⟩ := h.inf
    obtain ⟨o', ho', hc⟩ := h.inf_cls
    rw [ho] at ho'; cases ho'
    exact ⟨o, by show List.lookup S.n2 _ = _; rw [L _ (lk_ne ho hi (by rw [hc]; simp))]; exact ho, hd⟩
  · intro a ha
    obtain ⟨vs, n, hl, hv⟩ := h.rdy a ha
    exact ⟨vs, n, by rw [L _ fun e => h.rne a ha x hx e.symm]; exact hl, hv⟩
  · intro y hy
    obtain ⟨r, r', hy'⟩ := h.info y hy
    exact ⟨r, r', by show List.lookup (S.ia y) _ = _; rw [L _ (lk_ne hy' hi (by simp))]; exact hy'⟩
  · intro y hy
    show List.lookup (S.da y) _ = _
    rw [L _ (lk_ne (h.dd y hy) hi (by simp))]; exact h.dd y hy
  · intro y hy
    by_cases e : y = x
    · subst e
      exact ⟨vs, n, by show List.lookup (S.la y) _ = _; rw [look_put hs, if_pos rfl], by show IV vs (upd S.succ y xs y); rw [upd_self]; exact hv⟩
    · obtain ⟨vs', n', hl, hv'⟩ := h.suc y hy
      exact ⟨vs', n', by show List.lookup (S.la y) _ = _; rw [L _ fun q => e (h.lne y hy x hx q)]; exact hl, by show IV vs' (upd S.succ x xs y); rw [upd_ne _ _ e]; exact hv'⟩
theorem Srt.cons (h : Srt w W S) {a : Addr} {o : Obj} (hn : ∀ p ∈ W, p.1 ≠ a) : Srt w ((a, o) :: W) S := by
  have L : ∀ b ob, W.lookup b = some ob → ((a, o) :: W).lookup b = some ob := fun b ob hb => by
    rw [look_cons, if_neg (fun e => hn _ (look_mem hb) e)]; exact hb
  refine ⟨?_, L _ _ h.obj, ?_, ?_, ?_, ?_, fun y hy => L _ _ (h.dd y hy), ?_, h.lne, h.rne, h.dn, h.ns⟩
  · rw [List.map_cons, List.nodup_cons]
    exact ⟨fun hm => by obtain ⟨p, hp, e⟩ := List.mem_map.mp hm; exact hn p hp e, h.nd⟩
  · obtain ⟨es, n, t1, t2, hd, A⟩ := h.ats; refine ⟨es, n, t1, t2, L _ _ hd, A⟩
  · obtain ⟨o, ho, hd⟩ := h.inf; exact ⟨o, L _ _ ho, hd⟩
  · intro a ha; obtain ⟨vs, n, hl, hv⟩ := h.rdy a ha; exact ⟨vs, n, L _ _ hl, hv⟩
  · intro y hy; obtain ⟨r, r', hy'⟩ := h.info y hy; exact ⟨r, r', L _ _ hy'⟩
  · intro y hy; obtain ⟨vs, n, hl, hv⟩ := h.suc y hy; exact ⟨vs, n, L _ _ hl, hv⟩
theorem Srt.setAts (h : Srt w W S) {es : List DictEntry} {n : Nat} {rd : Option Addr} {ready : List Nat} {po nf : Nat} {t1 t2 : Tok}
    (A : Ats es [("_node2info", .ref S.n2), ("_ready_nodes", ({ S with rd := rd } : SS).rdV), ("_npassedout", .int (po : Int) t1), ("_nfinished", .int (nf : Int) t2)])
    (hr : ∀ a, rd = some a → ∃ vs n, W.lookup a = some (listOf vs.toArray n) ∧ IV vs ready) (hx : ∀ a, rd = some a → ∀ x ∈ S.nodes, S.la x ≠ a) :
    Srt w (putW W S.d (dictOf es n)) { S with rd := rd, ready := ready, po := po, nf := nf } := by
  obtain ⟨es0, n0, u1, u2, hi, A0⟩ := h.ats
  have hs : (W.lookup S.d).isSome = true := by rw [hi]; rfl
  have L : ∀ b, b ≠ S.d → (putW W S.d (dictOf es n)).lookup b = W.lookup b := fun b hb => by rw [look_put hs, if_neg hb]
  refine ⟨by rw [putW_names]; exact h.nd, ?_, ?_, ?_, ?_, ?_, ?_, ?_, h.lne, hx, h.dn, h.ns⟩
  · show List.lookup S.s _ = _
    rw [L _ (lk_ne h.obj hi (by simp))]; exact h.obj
  · refine ⟨es, n, t1, t2, by show List.lookup S.d _ = _; rw [look_put hs, if_pos rfl], A⟩
  · obtain ⟨o, ho, hd⟩ := h.inf
    exact ⟨o, by show List.lookup S.n2 _ = _; rw [L _ h.dn.symm]; exact ho, hd⟩
  · intro a ha
    obtain ⟨vs, n, hl, hv⟩ := hr a ha
    exact ⟨vs, n, by rw [L _ (lk_ne hl hi (by simp))]; exact hl, hv⟩
  · intro y hy
    obtain ⟨r, r', hy'⟩ := h.info y hy
    exact ⟨r, r', by show List.lookup (S.ia y) _ = _; rw [L _ (lk_ne hy' hi (by simp))]; exact hy'⟩
  · intro y hy
    show List.lookup (S.da y) _ = _
    rw [L _ (h.d_da hy)]; exact h.dd y hy
  · intro y hy
    obtain ⟨vs, n, hl, hv⟩ := h.suc y hy
    exact ⟨vs, n, by show List.lookup (S.la y) _ = _; rw [L _ (lk_ne hl hi (by simp))]; exact hl, hv⟩
end
noncomputable def Off (o : Obj) : Prop := o.cls ≠ .type "dict" ∧ o.cls ≠ .type "list" ∧ o.cls ≠ .ref 75
noncomputable def Kp (W W' : List (Addr × Obj)) : Prop := ∀ b o, Off o → W.lookup b = some o → W'.lookup b = some o
theorem Kp.refl {W : List (Addr × Obj)} : Kp W W := fun _ _ _ h => h
theorem Kp.trans {W W' W'' : List (Addr × Obj)} (h : Kp W W') (k : Kp W' W'') : Kp W W'' := fun b o ho e => k b o ho (h b o ho e)
theorem kp_put {W : List (Addr × Obj)} {a : Addr} {o o' : Obj} (hl : W.lookup a = some o) (ho : ¬ Off o) : Kp W (putW W a o') := fun b ob hb e => by
  rw [look_put (by rw [hl]; rfl), if_neg fun q => ?_]
  · exact e
  · subst q; rw [hl] at e; cases e; exact ho hb
theorem off_no_list {vs : Array Value} {n : Nat} : ¬ Off (listOf vs n) := fun h => h.2.1 rfl
theorem off_no_dict {es : List DictEntry} {n : Nat} : ¬ Off (dictOf es n) := fun h => h.1 rfl
theorem off_no_info {d : Addr} {a b c : Value} : ¬ Off (infoObj d a b c) := fun h => h.2.2 rfl
noncomputable def Ch (a : Addr) (W W' : List (Addr × Obj)) : Prop := W'.map (·.1) = W.map (·.1) ∧ ∀ b, b ≠ a → W'.lookup b = W.lookup b
theorem ch_put {W : List (Addr × Obj)} {a : Addr} {o o' : Obj} (hl : W.lookup a = some o) : Ch a W (putW W a o') := ⟨putW_names _ _ _, fun b hb => by rw [look_put (by rw [hl]; rfl), if_neg hb]⟩
theorem kz_i_sort : True := by
  k_with "i_sort" => skip
  trivial
theorem Ats.no {es m x} (h : Ats es m) (hx : m.lookup x = none) : PySem.W.getL x es = some none := by
  have : es.find? (·.key.isStr x) = none ∧ es.any (·.refKey) = false := by
    induction h with
    | nil => exact ⟨rfl, rfl⟩
    | @cons hs y k u t es m e _ ih =>
      subst e
      rw [List.lookup_cons] at hx
      by_cases q : x = y
      · subst q; simp at hx
      · have h1 : (x == y) = false := by simpa using q
        have h2 : (y == x) = false := by simpa using fun z : y = x => q z.symm
        rw [h1] at hx
        have := ih hx
        refine ⟨?_, ?_⟩
        · rw [List.find?_cons]
          have e0 : (Value.str y t).isStr x = (y == x) := rfl
          simp only [e0, h2]; exact this.1
        · rw [List.any_cons, this.2]; rfl
  unfold PySem.W.getL
  rw [this.1, this.2]; rfl
section
variable {w : World} {A : Around} {E : Value → Shared → Prop} {s : Shared} {g : Heap} {L a : Addr} {m : Str → Option Value} {W : List (Addr × Obj)} {S : SS} {expr : Bool} {Q : Value → Shared → Prop} {x : Nat} {rl : Addr}
theorem inst_of {h : Heap} {C y dx : Addr} {es : List DictEntry} {n : Nat} (hx : h.get? y = some (instObj C dx)) (hd : h.get? dx = some (dictOf es n)) : PySem.W.InstAt h y (instObj C dx) C (some (dictOf es n)) := ⟨hx, rfl, rfl, hd⟩
theorem info_of {h : Heap} {y dx : Addr} {ls np nd : Value} (hx : h.get? y = some (infoObj dx ls np nd)) (hd : h.get? dx = some (dictOf [] 0)) : PySem.W.InstAt h y (infoObj dx ls np nd) 75 (some (dictOf [] 0)) := ⟨hx, rfl, rfl, hd⟩
theorem getN2 (F : Fr g L s.heap m) (X : (hd.heap_1 w.params).In g) (N : News g L s.heap W) (hS : Srt w W S) (ha : S.s = a) (h : Q (.ref S.n2) { s with toks := s.toks + 1 }) : wpAny (model PG w) A (getAttr (.ref a) "_node2info" expr) Q E s := by
  subst ha
  obtain ⟨es, n, t1, t2, hd, A⟩ := hS.ats
  exact get_own F X (inst_of (nget N hS.obj) (nget N hd)) (by k_is) (by k_is) (by k_is) (by k_is) (A.get rfl) rfl h
theorem getRd (F : Fr g L s.heap m) (X : (hd.heap_1 w.params).In g) (N : News g L s.heap W) (hS : Srt w W S) (ha : S.s = a) (hr : S.rd = some rl) (h : Q (.ref rl) { s with toks := s.toks + 1 }) : wpAny (model PG w) A (getAttr (.ref a) "_ready_nodes" expr) Q E s := by
  subst ha
  obtain ⟨es, n, t1, t2, hd, A⟩ := hS.ats
  have e : S.rdV = .ref rl := by unfold SS.rdV; rw [hr]
  rw [e] at A
  exact get_own F X (inst_of (nget N hS.obj) (nget N hd)) (by k_is) (by k_is) (by k_is) (by k_is) (A.get rfl) rfl h
theorem getRd0 (F : Fr g L s.heap m) (X : (hd.heap_1 w.params).In g) (N : News g L s.heap W) (hS : Srt w W S) (ha : S.s = a) (hr : S.rd = none) (h : Q .none { s with toks := s.toks + 1 }) : wpAny (model PG w) A (getAttr (.ref a) "_ready_nodes" expr) Q E s := by
  subst ha
  obtain ⟨es, n, t1, t2, hd, A⟩ := hS.ats
  have e : S.rdV = .none := by unfold SS.rdV; rw [hr]
  rw [e] at A
  exact get_own F X (inst_of (nget N hS.obj) (nget N hd)) (by k_is) (by k_is) (by k_is) (by k_is) (A.get rfl) rfl h
theorem getPo (F : Fr g L s.heap m) (X : (hd.heap_1 w.params).In g) (N : News g L s.heap W) (hS : Srt w W S) (ha : S.s = a) (h : ∀ t, Q (.int (S.po : Int) t) { s with toks := s.toks + 1 }) : wpAny (model PG w) A (getAttr (.ref a) "_npassedout" expr) Q E s := by
  subst ha
  obtain ⟨es, n, t1, t2, hd, A⟩ := hS.ats
  exact get_own F X (inst_of (nget N hS.obj) (nget N hd)) (by k_is) (by k_is) (by k_is) (by k_is) (A.get rfl) rfl (h t1)
theorem getNf (F : Fr g L s.heap m) (X : (hd.heap_1 w.params).In g) (N : News g L s.heap W) (hS : Srt w W S) (ha : S.s = a) (h : ∀ t, Q (.int (S.nf : Int) t) { s with toks := s.toks + 1 }) : wpAny (model PG w) A (getAttr (.ref a) "_nfinished" expr) Q E s := by
  subst ha
  obtain ⟨es, n, t1, t2, hd, A⟩ := hS.ats
  exact get_own F X (inst_of (nget N hS.obj) (nget N hd)) (by k_is) (by k_is) (by k_is) (by k_is) (A.get rfl) rfl (h t2)
theorem getNd (F : Fr g L s.heap m) (X : (hd.heap_1 w.params).In g) (N : News g L s.heap W) (hS : Srt w W S) (hx : x ∈ S.nodes) (ha : S.ia x = a) (h : ∀ t, Q (.int (x : Int) t) { s with toks := s.toks + 1 }) : wpAny (model PG w) A (getAttr (.ref a) "node" expr) Q E s := by
  subst ha
  obtain ⟨t, t', hi⟩ := hS.info x hx
  exact get_slot F X (info_of (nget N hi) (nget N (hS.dd x hx))) (by k_is) (by k_is) (by k_is) (by k_is) (by k_is) (by k_is) rfl rfl (h t')
theorem getNp (F : Fr g L s.heap m) (X : (hd.heap_1 w.params).In g) (N : News g L s.heap W) (hS : Srt w W S) (hx : x ∈ S.nodes) (ha : S.ia x = a) (h : ∀ t, Q (.int (S.np x) t) { s with toks := s.toks + 1 }) : wpAny (model PG w) A (getAttr (.ref a) "npredecessors" expr) Q E s := by
  subst ha
  obtain ⟨t, t', hi⟩ := hS.info x hx
  exact get_slot F X (info_of (nget N hi) (nget N (hS.dd x hx))) (by k_is) (by k_is) (by k_is) (by k_is) (by k_is) (by k_is) rfl rfl (h t)
theorem getSu (F : Fr g L s.heap m) (X : (hd.heap_1 w.params).In g) (N : News g L s.heap W) (hS : Srt w W S) (hx : x ∈ S.nodes) (ha : S.ia x = a) (h : Q (.ref (S.la x)) { s with toks := s.toks + 1 }) : wpAny (model PG w) A (getAttr (.ref a) "successors" expr) Q E s := by
  subst ha
  obtain ⟨t, t', hi⟩ := hS.info x hx
  exact get_slot F X (info_of (nget N hi) (nget N (hS.dd x hx))) (by k_is) (by k_is) (by k_is) (by k_is) (by k_is) (by k_is) rfl rfl h
end
section
variable {w : World} {A : Around} {E : Value → Shared → Prop} {s : Shared} {g : Heap} {L a : Addr} {m : Str → Option Value} {W : List (Addr × Obj)} {S : SS} {Q : Unit → Shared → Prop} {x : Nat} {rl : Addr}
abbrev atM (a b c d : Value) : List (Str × Value) := [("_node2info", a), ("_ready_nodes", b), ("_npassedout", c), ("_nfinished", d)]
theorem atSet_po {a b c d v : Value} : atSet "_npassedout" v (atM a b c d) = atM a b v d := rfl
theorem atSet_nf {a b c d v : Value} : atSet "_nfinished" v (atM a b c d) = atM a b c v := rfl
theorem atSet_rd {a b c d v : Value} : atSet "_ready_nodes" v (atM a b c d) = atM a v c d := rfl
theorem at_nd {a b c d : Value} : ((atM a b c d).map (·.1)).Nodup := of_decide_eq_true (by kernel_rfl)
theorem setPo {v : Nat} {t : Tok} (F : Fr g L s.heap m) (X : (hd.heap_1 w.params).In g) (N : News g L s.heap W) (hS : Srt w W S) (ha : S.s = a)
    (h : ∀ h' W', Fr g L h' m → News g L h' W' → Ch S.d W W' → Kp W W' → Srt w W' { S with po := v } → Q () { s with heap := h', toks := s.toks + 2 }) : wpAny (model PG w) A (setAttr (.ref a) "_npassedout" (.int (v : Int) t)) Q E s := by
  subst ha
  obtain ⟨es, n, t1, t2, hd', At⟩ := hS.ats
  have hp := At.put (v := .int (v : Int) t) (hs := PyData.keyHash w.params "_npassedout") (k := .str "_npassedout" (s.toks + 1)) at_nd (x := "_npassedout") rfl
  rw [atSet_po] at hp
  exact PySem.W.set_dict F X N (inst_of (nget N hS.obj) (nget N hd')) rfl (by k_is) (by k_is) (by k_is) (by k_is) (by rw [At.get (x := "_npassedout") rfl]; rfl) rfl (upd_put hS.nd hd') (by rw [hp.length]; show 4 ≤ 1000; decide)
    (fun h' F' N' => h h' _ F' N' (ch_put hd') (kp_put hd' off_no_dict) (hS.setAts (rd := S.rd) (ready := S.ready) (nf := S.nf) hp hS.rdy hS.rne))
theorem setNf {v : Nat} {t : Tok} (F : Fr g L s.heap m) (X : (hd.heap_1 w.params).In g) (N : News g L s.heap W) (hS : Srt w W S) (ha : S.s = a)
    (h : ∀ h' W', Fr g L h' m → News g L h' W' → Ch S.d W W' → Kp W W' → Srt w W' { S with nf := v } → Q () { s with heap := h', toks := s.toks + 2 }) : wpAny (model PG w) A (setAttr (.ref a) "_nfinished" (.int (v : Int) t)) Q E s := by
  subst ha
  obtain ⟨es, n, t1, t2, hd', At⟩ := hS.ats
  have hp := At.put (v := .int (v : Int) t) (hs := PyData.keyHash w.params "_nfinished") (k := .str "_nfinished" (s.toks + 1)) at_nd (x := "_nfinished") rfl
  rw [atSet_nf] at hp
  exact PySem.W.set_dict F X N (inst_of (nget N hS.obj) (nget N hd')) rfl (by k_is) (by k_is) (by k_is) (by k_is) (by rw [At.get (x := "_nfinished") rfl]; rfl) rfl (upd_put hS.nd hd') (by rw [hp.length]; show 4 ≤ 1000; decide)
    (fun h' F' N' => h h' _ F' N' (ch_put hd') (kp_put hd' off_no_dict) (hS.setAts (rd := S.rd) (ready := S.ready) (po := S.po) hp hS.rdy hS.rne))
theorem setRd {vs : List Value} {n0 : Nat} {xs : List Nat} (F : Fr g L s.heap m) (X : (hd.heap_1 w.params).In g) (N : News g L s.heap W) (hS : Srt w W S) (ha : S.s = a) (hl : W.lookup rl = some (listOf vs.toArray n0)) (hv : IV vs xs) (hx : ∀ x ∈ S.nodes, S.la x ≠ rl)
    (h : ∀ h' W', Fr g L h' m → News g L h' W' → Ch S.d W W' → Kp W W' → Srt w W' { S with rd := some rl, ready := xs } → Q () { s with heap := h', toks := s.toks + 2 }) : wpAny (model PG w) A (setAttr (.ref a) "_ready_nodes" (.ref rl)) Q E s := by
  subst ha
  obtain ⟨es, n, t1, t2, hd', At⟩ := hS.ats
  have hp := At.put (v := .ref rl) (hs := PyData.keyHash w.params "_ready_nodes") (k := .str "_ready_nodes" (s.toks + 1)) at_nd (x := "_ready_nodes") rfl
  rw [atSet_rd] at hp
  exact PySem.W.set_dict F X N (inst_of (nget N hS.obj) (nget N hd')) rfl (by k_is) (by k_is) (by k_is) (by k_is) (by rw [At.get (x := "_ready_nodes") rfl]; rfl) rfl (upd_put hS.nd hd') (by rw [hp.length]; show 4 ≤ 1000; decide)
    (fun h' F' N' => h h' _ F' N' (ch_put hd') (kp_put hd' off_no_dict) (hS.setAts (rd := some rl) (ready := xs) (po := S.po) (nf := S.nf) hp (fun b hb => by cases hb; exact ⟨vs, n0, hl, hv⟩) (fun b hb => by cases hb; exact hx)))
theorem setNp {v : Int} {t : Tok} (F : Fr g L s.heap m) (X : (hd.heap_1 w.params).In g) (N : News g L s.heap W) (hS : Srt w W S) (hx : x ∈ S.nodes) (ha : S.ia x = a)
    (h : ∀ h' W', Fr g L h' m → News g L h' W' → Ch (S.ia x) W W' → Kp W W' → Srt w W' { S with np := upd S.np x v } → Q () { s with heap := h', toks := s.toks + 1 }) : wpAny (model PG w) A (setAttr (.ref a) "npredecessors" (.int v t)) Q E s := by
  subst ha
  obtain ⟨t0, t', hi⟩ := hS.info x hx
  exact set_slot F X N (info_of (nget N hi) (nget N (hS.dd x hx))) (by k_is) (by k_is) (by k_is) (by k_is) (by k_is) (by decide) (ox' := infoObj (S.da x) (.ref (S.la x)) (.int v t) (.int (x : Int) t')) rfl rfl (upd_put hS.nd hi)
    (fun h' F' N' => h h' _ F' N' (ch_put hi) (kp_put hi off_no_info) (hS.setNp hx))
theorem appRd {vQ : Value → Shared → Prop} {y : Nat} {t : Tok} (F : Fr g L s.heap m) (N : News g L s.heap W) (hS : Srt w W S) (hr : S.rd = some rl) (hz : S.ready.length ≤ 900)
    (h : ∀ h' W', Fr g L h' m → News g L h' W' → Ch rl W W' → Kp W W' → Srt w W' { S with ready := S.ready ++ [y] } → vQ .none { s with heap := h' }) : wpAny (model PG w) A (call (.builtin "list.append") [.ref rl, .int (y : Int) t]) vQ E s := by
  obtain ⟨vs, n, hl, hv⟩ := hS.rdy rl hr
  have hlen := hv.length
  exact appL F N (by omega) (upd_put hS.nd hl) fun h' F' N' => h h' _ F' N' (ch_put hl) (kp_put hl off_no_list) (hS.setReady hr (hv.append (.cons .nil)))
theorem appSu {vQ : Value → Shared → Prop} {y : Nat} {t : Tok} (F : Fr g L s.heap m) (N : News g L s.heap W) (hS : Srt w W S) (hx : x ∈ S.nodes) (ha : S.la x = a) (hz : (S.succ x).length ≤ 900)
    (h : ∀ h' W', Fr g L h' m → News g L h' W' → Ch (S.la x) W W' → Kp W W' → Srt w W' { S with succ := upd S.succ x (S.succ x ++ [y]) } → vQ .none { s with heap := h' }) : wpAny (model PG w) A (call (.builtin "list.append") [.ref a, .int (y : Int) t]) vQ E s := by
  subst ha
  obtain ⟨vs, n, hl, hv⟩ := hS.suc x hx
  have hlen := hv.length
  exact appL F N (by omega) (upd_put hS.nd hl) fun h' F' N' => h h' _ F' N' (ch_put hl) (kp_put hl off_no_list) (hS.setSucc hx (hv.append (.cons .nil)))
theorem n2_dict (N : News g L s.heap W) (hS : Srt w W S) : s.heap.DictOf (iK w) S.n2 S.kvs := by
  obtain ⟨o, ho, hd⟩ := hS.inf
  exact PySem.Heap.dictOf_iff.mpr ⟨o, nget N ho, hd⟩
theorem n2Meth {pl : Sem Bool} {mQ : Value × List Value → Shared → Prop} (N : News g L s.heap W) (hS : Srt w W S) (ha : S.n2 = a) (h : mQ (.builtin "dict.get", [.ref a]) s) : wpAny (model PG w) A (getMethod (.ref a) "get" pl) mQ E s := by
  subst ha
  obtain ⟨o, ho, hd⟩ := hS.inf
  exact kdg_method (knd := iK w) N (look_mem ho) hd h
theorem n2Get {vQ : Value → Shared → Prop} {t : Tok} (N : News g L s.heap W) (hS : Srt w W S) (ha : S.n2 = a) (hx : x ∈ S.nodes) (h : vQ (.ref (S.ia x)) { s with toks := s.toks + 1 }) : wpAny (model PG w) A (call (.builtin "dict.get") [.ref a, .int (x : Int) t]) vQ E s := by
  subst ha
  obtain ⟨o, ho, hd⟩ := hS.inf
  exact kdg_get1 (knd := iK w) (k := (x : Int)) N (look_mem ho) hd hS.ns (intKind_is _ _ _ _) (some _) (kvs_at hx) h
theorem n2Get0 {vQ : Value → Shared → Prop} {t : Tok} (N : News g L s.heap W) (hS : Srt w W S) (ha : S.n2 = a) (hx : x ∉ S.nodes) (h : vQ .none { s with toks := s.toks + 1 }) : wpAny (model PG w) A (call (.builtin "dict.get") [.ref a, .int (x : Int) t]) vQ E s := by
  subst ha
  obtain ⟨o, ho, hd⟩ := hS.inf
  exact kdg_get1 (knd := iK w) (k := (x : Int)) N (look_mem ho) hd hS.ns (intKind_is _ _ _ _) none (kvs_no hx) h
theorem n2Item {value slice : PySem.Expr} {vQ : Value → Shared → Prop} {t : Tok} (N : News g L s.heap W) (hS : Srt w W S) (ha : S.n2 = a) (hx : x ∈ S.nodes) (h : vQ (.ref (S.ia x)) { s with toks := s.toks + 1 })
    (hs : subscripted slice false (.ref a) (.int (x : Int) t) = operate [.ref a, .int (x : Int) t] (getItem (.ref a) (.int (x : Int) t)) := by with_unfolding_all rfl) (hg : ∀ r, letTemporaryGo value (.ref a) r = pure () := by intro _; with_unfolding_all rfl) :
    wpAny (model PG w) A (subscriptTail value slice (.ref a) (.int (x : Int) t)) vQ E s := by
  subst ha
  obtain ⟨o, ho, hd⟩ := hS.inf
  exact kda_item (knd := iK w) (k := (x : Int)) N (look_mem ho) hd (intKind_is _ _ _ _) (kvs_at hx) h hs hg
end
theorem kp_2 : True := by
  k_with "getAttr ref" => (k_here; k_dflt (first | (with_reducible show wpAny _ _ (getAttr _ (Str.ofString "_node2info") _) _ _ _); refine' getN2 ?z1 ?z2 ?z3 ?z4 ?z5 ?_; (case z1 => assumption); (case z2 => assumption); (case z3 => assumption); (case z4 => assumption); (case z5 => first | rfl | assumption); k_whole | (with_reducible show wpAny _ _ (getAttr _ (Str.ofString "_ready_nodes") _) _ _ _); refine' getRd ?z1 ?z2 ?z3 ?z4 ?z5 ?z7 ?_; (case z1 => assumption); (case z2 => assumption); (case z3 => assumption); (case z4 => assumption); (case z5 => first | rfl | assumption); (case z7 => first | rfl | assumption); k_whole | (with_reducible show wpAny _ _ (getAttr _ (Str.ofString "_ready_nodes") _) _ _ _); refine' getRd0 ?z1 ?z2 ?z3 ?z4 ?z5 ?z7 ?_; (case z1 => assumption); (case z2 => assumption); (case z3 => assumption); (case z4 => assumption); (case z5 => first | rfl | assumption); (case z7 => first | rfl | assumption); k_whole | (with_reducible show wpAny _ _ (getAttr _ (Str.ofString "_npassedout") _) _ _ _); refine' getPo ?z1 ?z2 ?z3 ?z4 ?z5 ?_; (case z1 => assumption); (case z2 => assumption); (case z3 => assumption); (case z4 => assumption); (case z5 => first | rfl | assumption); k_whole; intro t' | (with_reducible show wpAny _ _ (getAttr _ (Str.ofString "_nfinished") _) _ _ _); refine' getNf ?z1 ?z2 ?z3 ?z4 ?z5 ?_; (case z1 => assumption); (case z2 => assumption); (case z3 => assumption); (case z4 => assumption); (case z5 => first | rfl | assumption); k_whole; intro t' | (with_reducible show wpAny _ _ (getAttr _ (Str.ofString "node") _) _ _ _); refine' getNd ?z1 ?z2 ?z3 ?z4 ?z6 ?z5 ?_; (case z1 => assumption); (case z2 => assumption); (case z3 => assumption); (case z4 => assumption); (case z6 => assumption); (case z5 => first | rfl | assumption); k_whole; intro t' | (with_reducible show wpAny _ _ (getAttr _ (Str.ofString "npredecessors") _) _ _ _); refine' getNp ?z1 ?z2 ?z3 ?z4 ?z6 ?z5 ?_; (case z1 => assumption); (case z2 => assumption); (case z3 => assumption); (case z4 => assumption); (case z6 => assumption); (case z5 => first | rfl | assumption); k_whole; intro t' | (with_reducible show wpAny _ _ (getAttr _ (Str.ofString "successors") _) _ _ _); refine' getSu ?z1 ?z2 ?z3 ?z4 ?z6 ?z5 ?_; (case z1 => assumption); (case z2 => assumption); (case z3 => assumption); (case z4 => assumption); (case z6 => assumption); (case z5 => first | rfl | assumption); k_whole))
  k_with "setAttr ref" => (k_here; k_dflt (first | (with_reducible show wpAny _ _ (setAttr _ (Str.ofString "_npassedout") _) _ _ _); refine' setPo ?z1 ?z2 ?z3 ?z4 ?z5 ?_; (case z1 => assumption); (case z2 => assumption); (case z3 => assumption); (case z4 => assumption); (case z5 => first | rfl | assumption); k_whole | (with_reducible show wpAny _ _ (setAttr _ (Str.ofString "_nfinished") _) _ _ _); refine' setNf ?z1 ?z2 ?z3 ?z4 ?z5 ?_; (case z1 => assumption); (case z2 => assumption); (case z3 => assumption); (case z4 => assumption); (case z5 => first | rfl | assumption); k_whole | (with_reducible show wpAny _ _ (setAttr _ (Str.ofString "npredecessors") _) _ _ _); refine' setNp ?z1 ?z2 ?z3 ?z4 ?z6 ?z5 ?_; (case z1 => assumption); (case z2 => assumption); (case z3 => assumption); (case z4 => assumption); (case z6 => assumption); (case z5 => first | rfl | assumption); k_whole); intro h' W' F' N' hW' hk' hS'; (try dsimp only at F' N'))
  k_with "exec For" => (k_here; k_dflt (refine PySem.wpAny_For ?_ ?hs; (case hs => intro _; rfl)))
  k_with "exec For Name Attribute cons nil" => (k_here; k_dflt (refine PySem.wpAny_For ?_ ?hs; (case hs => intro _; rfl)))
  k_with "exec For Name Name cons nil" => (k_here; k_dflt (refine PySem.wpAny_For ?_ ?hs; (case hs => intro _; rfl)))
  k_with "exec For Name Call cons nil" => (k_here; k_dflt (refine PySem.wpAny_For ?_ ?hs; (case hs => intro _; rfl)))
  k_with "exec For Tuple Name cons nil" => (k_here; k_dflt (refine PySem.wpAny_For ?_ ?hs; (case hs => intro _; rfl)))
  k_with "exec For Name Subscript cons nil" => (k_here; k_dflt (refine PySem.wpAny_For ?_ ?hs; (case hs => intro _; rfl)))
  k_with "pyIter ref" => (k_here; refine stop_here ?_)
  k_with "getMethod ref" => (k_here; (with_reducible show wpAny _ _ (getMethod (Value.ref _) (Str.ofString "get") _) _ _ _); k_dflt (refine' n2Meth ?z3 ?z4 ?z5 ?_; (case z3 => assumption); (case z4 => assumption); (case z5 => first | rfl | assumption); k_whole))
  k_with "call builtin:dict.get" => (k_here; (with_reducible show wpAny _ _ (call (Value.builtin _) [Value.ref _, _]) _ _ _); k_dflt (first | refine' n2Get ?z3 ?z4 ?z5 ?z6 ?_; (case z3 => assumption); (case z4 => assumption); (case z5 => first | rfl | assumption); (case z6 => assumption); k_whole | refine' n2Get0 ?z3 ?z4 ?z5 ?z6 ?_; (case z3 => assumption); (case z4 => assumption); (case z5 => first | rfl | assumption); (case z6 => assumption); k_whole))
  k_with "subscriptTail" => (k_here; (with_reducible show wpAny _ _ (subscriptTail _ _ (Value.ref _) (Value.int _ _)) _ _ _); k_dflt (refine' n2Item ?z3 ?z4 ?z5 ?z6 ?_; (case z3 => assumption); (case z4 => assumption); (case z5 => first | rfl | assumption); (case z6 => assumption); k_whole))
  k_with "getMethod ref" => (k_here; (with_reducible show wpAny _ _ (getMethod (Value.ref _) (Str.ofString "append") _) _ _ _); k_dflt (refine' rdMeth ?z3 ?z4 ?z7 ?_; (case z3 => assumption); (case z4 => assumption); (case z7 => first | assumption | rfl); k_whole))
  k_with "getMethod ref" => (k_here; (with_reducible show wpAny _ _ (getMethod (Value.ref _) (Str.ofString "clear") _) _ _ _); k_dflt (refine' rdMethC ?z3 ?z4 ?z7 ?_; (case z3 => assumption); (case z4 => assumption); (case z7 => first | assumption | rfl); k_whole))
  k_with "call builtin:list.append" => (k_here; (with_reducible show wpAny _ _ (call (Value.builtin _) [Value.ref _, Value.int _ _]) _ _ _); k_dflt (refine' appRd ?z1 ?z3 ?z4 ?z7 ?z8 ?_; (case z1 => assumption); (case z3 => assumption); (case z4 => assumption); (case z7 => first | assumption | (dsimp only; assumption) | rfl); (case z8 => first | assumption | (dsimp only; assumption) | omega); k_whole); intro h' W' F' N' hW' hk' hS'; (try dsimp only at F' N'))
  k_with "setAttr ref" => (k_here; k_dflt (first | (with_reducible show wpAny _ _ (setAttr _ (Str.ofString "_nfinished") (Value.int (_ + _) _)) _ _ _); refine' setNf1 ?z1 ?z2 ?z3 ?z4 ?z5 ?z6 ?_; (case z1 => assumption); (case z2 => assumption); (case z3 => assumption); (case z4 => assumption); (case z5 => first | rfl | assumption); (case z6 => first | rfl | assumption); k_whole | (with_reducible show wpAny _ _ (setAttr _ (Str.ofString "_npassedout") (Value.int (_ + _) _)) _ _ _); refine' setPo1 ?z1 ?z2 ?z3 ?z4 ?z5 ?z6 ?_; (case z1 => assumption); (case z2 => assumption); (case z3 => assumption); (case z4 => assumption); (case z5 => first | rfl | assumption); (case z6 => first | rfl | assumption); k_whole); intro h' W' F' N' hW' hk' hS'; (try dsimp only at F' N'))
  k_with "call type:tuple" => (k_here; (with_reducible show wpAny _ _ (call (Value.type _) [Value.ref _]) _ _ _); k_dflt (refine' tupRd ?z1 ?z3 ?z4 ?z7 ?z8 ?_; (case z1 => assumption); (case z3 => assumption); (case z4 => assumption); (case z7 => first | assumption | (dsimp only; assumption) | rfl); (case z8 => first | assumption | (dsimp only; assumption) | omega); k_whole); intro D' vs' h' F' N' hiv' hD' hS'; (try dsimp only at F' N'))
  k_with "call builtin:list.clear" => (k_here; (with_reducible show wpAny _ _ (call (Value.builtin _) [Value.ref _]) _ _ _); k_dflt (refine' clearRd ?z1 ?z3 ?z4 ?z7 ?z8 ?_; (case z1 => assumption); (case z3 => assumption); (case z4 => assumption); (case z7 => first | assumption | (dsimp only; assumption) | rfl); (case z8 => first | assumption | (dsimp only; assumption) | omega); k_whole); intro h' W' F' N' hW' hk' hS'; (try dsimp only at F' N'))
  k_with "getMethod ref" => (k_here; (with_reducible show wpAny _ _ (getMethod (Value.ref _) (Str.ofString "_get_nodeinfo") _) _ _ _); k_dflt (refine' methGi ?z1 ?z2 ?z3 ?z4 ?z5 ?_; (case z1 => assumption); (case z2 => assumption); (case z3 => assumption); (case z4 => assumption); (case z5 => first | rfl | assumption); k_whole))
  k_with "getMethod ref" => (k_here; (with_reducible show wpAny _ _ (getMethod (Value.ref _) (Str.ofString "append") _) _ _ _); k_dflt (refine' laMeth ?z3 ?z4 ?z6 ?z5 ?_; (case z3 => assumption); (case z4 => assumption); (case z6 => assumption); (case z5 => first | rfl | assumption); k_whole))
  k_with "call builtin:list.append" => (k_here; (with_reducible show wpAny _ _ (call (Value.builtin _) [Value.ref (SS.la _ _), Value.int _ _]) _ _ _); k_dflt (refine' appSu ?z1 ?z3 ?z4 ?z6 ?z5 ?z8 ?_; (case z1 => assumption); (case z3 => assumption); (case z4 => assumption); (case z6 => assumption); (case z5 => first | rfl | assumption); (case z8 => first | assumption | (dsimp only; assumption) | omega); k_whole); intro h' W' F' N' hW' hk' hS'; (try dsimp only at F' N'))
  trivial
theorem meets_bool_list (l : Addr) : Meets (Builtin.«bool.__new__» ⟨[.type "bool", .ref l], []⟩) (fun _ R s => ∃ items, s.heap.IsList l items ∧ (items.size : Int) < 2 ^ 63 ∧ R (.ok (.ret (.bool (!items.isEmpty)))) { s with toks := s.toks + 1 + 1 }) :=
  Meets.of_wp fun prog w A R s hs => by
    obtain ⟨items, h1, h2, h3⟩ := hs
    have f1 := F.conv_sub_bool
    repeat (any_goals (first | assumption | (with_reducible refine wpAny_truthy_list h1 h2 ?_) | wp_step))
    all_goals first | exact ⟨_, rfl, h3⟩ | exact h3 | skip
theorem boolL {w : World} {A : Around} {E : Value → Shared → Prop} {s : Shared} {rl : Addr} {items : Array Value} {Q : Value → Shared → Prop} (hl : s.heap.IsList rl items) (hz : (items.size : Int) < 2 ^ 63) (h : Q (.bool (!items.isEmpty)) { s with toks := s.toks + 1 + 1 }) : wpAny (model PG w) A (call (.type "bool") [.ref rl]) Q E s :=
  call_bool_1 (meets_bool_list rl) ⟨items, hl, hz, show wants (fun obj s₁ => s₁.TypeIs obj "bool" ∧ Q obj s₁) E _ _ from ⟨rfl, h⟩⟩
theorem rdL {w : World} {s : Shared} {g : Heap} {L rl : Addr} {W : List (Addr × Obj)} {S : SS} (N : News g L s.heap W) (hS : Srt w W S) (hr : S.rd = some rl) : ∃ vs n, s.heap.get? rl = some (listOf vs.toArray n) ∧ IV vs S.ready := by
  obtain ⟨vs, n, h, hv⟩ := hS.rdy rl hr
  exact ⟨vs, n, nget N h, hv⟩
theorem isList_of {h : Heap} {a : Addr} {vs : List Value} {n : Nat} (e : h.get? a = some (listOf vs.toArray n)) : h.IsList a vs.toArray := ⟨_, e, rfl, n, rfl⟩
theorem IV.empty {vs xs} (h : IV vs xs) : vs.isEmpty = xs.isEmpty := by cases h <;> rfl
theorem boolRd {w : World} {A : Around} {E : Value → Shared → Prop} {s : Shared} {g : Heap} {L rl : Addr} {W : List (Addr × Obj)} {S : SS} {Q : Value → Shared → Prop} (N : News g L s.heap W) (hS : Srt w W S) (hr : S.rd = some rl) (hz : S.ready.length ≤ 900) (h : Q (.bool (!S.ready.isEmpty)) { s with toks := s.toks + 1 + 1 }) : wpAny (model PG w) A (call (.type "bool") [.ref rl]) Q E s := by
  obtain ⟨vs, n, hl, hv⟩ := rdL N hS hr
  have := hv.length
  refine boolL (isList_of hl) (by rw [List.size_toArray]; omega) ?_
  rw [List.isEmpty_toArray, hv.empty]; exact h
theorem isActive_ok {w : World} {A : Around} {s : Shared} {g0 : Heap} {loose : List Str} {mean : ExcName → Option Value} {mg mb : Str → Option Value} {p : Program} {R : Result → Shared → Prop}
    (X : (hd.heap_1 w.params).In g0) (T : Top p loose mean mg mb g0) (k : g0.StaysIn s.heap) (hroom : A.depth + 60 < recursionLimit) (hun : A.units + 60 < cLine) {W : List (Addr × Obj)} {S : SS} {rl : Addr}
    (hW : ∀ p ∈ W, s.heap.get? p.1 = some p.2) (hg : ∀ p ∈ W, g0.get? p.1 = none) (hS : Srt w W S) (hrd : S.rd = some rl) (hz : S.ready.length ≤ 900)
    (hR : ∀ h' tk, (∀ b o, (∀ p ∈ W, p.1 ≠ b) → s.heap.get? b = some o → h'.get? b = some o) → (∀ p ∈ W, h'.get? p.1 = some p.2) → R (.ok (.ret (.bool (decide (S.nf < S.po) || !S.ready.isEmpty)))) { s with heap := h', toks := tk }) :
    codeAny (model PG w) A (.call (.ref 141) ⟨[.ref S.s], []⟩) R s := by
  refine enter [("self", .ref S.s)] [] (K := hd.heap_1 w.params) (W := W) X T k hW hg (by k_is) (by k_is) (by omega) (BindsTo.of_eq rfl) (locs rfl) (of_decide_eq_true (by kernel_rfl)) (by decide +kernel) ?_ rfl rfl rfl (by decide)
  intro g' L' h' st' kp' sub' F' N' X' T' nd' ns'
  dsimp only [fv0, List.map, HAppend.hAppend, Append.append, List.append] at F' nd'
  k_fold
  k_steps
  · have h1 : S.nf < S.po := by omega
    have h2 := hR h' (tk + 1 + 1) (fun b o hb e => F'.keep _ _ (kp' b o e hb)) (fun p hp => (N' p hp).1)
    rw [decide_eq_true h1] at h2
    have h3 : decide ((S.nf : Int) < (S.po : Int)) = true := decide_eq_true (by omega)
    rw [h3]
    exact h2
  · have h1 : ¬ S.nf < S.po := by omega
    refine boolRd N' hS hrd hz ?_
    have h2 := hR h' (tk + 1 + 1 + 1 + 1 + 1) (fun b o hb e => F'.keep _ _ (kp' b o e hb)) (fun p hp => (N' p hp).1)
    rw [decide_eq_false h1] at h2
    exact h2
theorem call_to {w : World} {A : Around} {s s₁ : Shared} {R : Result → Shared → Prop} {a : Addr} {o : Obj} {fd : FuncData} {body : List Stmt} {args : Args} {binds : List (Str × Value)}
    (hroom : A.depth < recursionLimit) (ho : s.heap.get? a = some o) (hdata : o.data = .func fd) (hlim : s₁.heap.NoLimit) (hcd : s.heap.CodeRec fd.code fd.qualname)
    (hbody : fd.body = .stmts body) (hbind : ∀ (M : Model) (A : Around) (E : Value → Shared → Prop) (Q : List (Str × Value) → Shared → Prop), Q binds s₁ → wpAny M A (bindArgs fd args) Q E s)
    (hcell : ∀ x ∈ fd.scope.names, x.2 ≠ .cell) (hloc : ∀ x ∈ binds, fd.scope.names.lookup x.1 = some .local)
    (h : ∀ h₀, h₀.Ns s₁.heap.objs.size (fun x => binds.reverse.lookup x) → (∀ b o, s₁.heap.get? b = some o → h₀.get? b = some o) →
      wpAny (model PG w) (A.deeper (callEnv fd s₁.heap.objs.size a)) (execs body (callEnv fd s₁.heap.objs.size a)) (fun f s' => R (.ok (.ret (match f with | .ret v => v | _ => .none))) s') (fun _ _ => False) { s₁ with heap := h₀, toks := s₁.toks + binds.length })
    (hco : fd.scope.isCoroutine = false) (hgen : fd.scope.isGenerator = false) (hk : fd.scope.kind = .function) :
    codeAny (model PG w) A (.call (.ref a) args) R s := by
  refine codeAny_call_function hroom ho hdata hco hgen hbody hcd (hbind _ _ _ _ ?_)
  refine wpAny_newFunctionEnv hcell hloc (fun h₀ hns₀ hsb₀ => ⟨hlim.fresh _ hsb₀, codeAny_func (wpAny_mono (h h₀ hns₀ fun b o e => ?_) (fun _ _ x => x) fun _ _ x => x.elim)⟩) hk
  exact hsb₀.extBut b o (Nat.ne_of_lt (Heap.lt_size e)) (Heap.get?_push_of_some _ e)
theorem enter1 {w : World} {A : Around} {s s₁ : Shared} {g0 : Heap} {W : List (Addr × Obj)} {R : Result → Shared → Prop} {K : Frag} {loose : List Str} {mean : ExcName → Option Value} {mg mb : Str → Option Value} {p : Program}
    {name qual : Str} {params : Arguments} {body : List Stmt} {scope : Scope} {dV kV doc pm cdv ct oc : Value} {an od : Option Addr} {osl : Array (Option Value)} {f : Addr} {args : Args} (binds : List (Str × Value)) (rest : List Str)
    (X : K.In g0) (T : Top p loose mean mg mb g0) (k : g0.StaysIn s.heap) (k1 : g0.StaysIn s₁.heap) (hW : ∀ p ∈ W, s₁.heap.get? p.1 = some p.2) (hn : ∀ p ∈ W, g0.get? p.1 = none)
    (ho : K.lookup f = some ⟨oc, od, .func (fnOf name qual params body scope dV kV doc pm an cdv ct), osl⟩) (hcd : codeIn K cdv qual = true) (hroom : A.depth < recursionLimit)
    (hbind : ∀ (M : Model) (A : Around) (E : Value → Shared → Prop) (Q : List (Str × Value) → Shared → Prop), Q binds s₁ → wpAny M A (bindArgs (fnOf name qual params body scope dV kV doc pm an cdv ct) args) Q E s)
    (hloc : ∀ y ∈ binds, scope.names.lookup y.1 = some .local)
    (hnd : (binds.map (·.1) ++ rest).Nodup) (hns : (scope.names.map (·.1)).Nodup)
    (h : ∀ g L' h₁, g0.StaysIn g → (∀ b o, s₁.heap.get? b = some o → (∀ p ∈ W, p.1 ≠ b) → g.get? b = some o) → (∀ b o, g.get? b = some o → s₁.heap.get? b = some o) →
      Fr g L' h₁ (fv (fv0 binds rest)) → News g L' h₁ W → K.In g → Top p loose mean mg mb g → ((fv0 binds rest).map (·.1)).Nodup → (scope.names.map (·.1)).Nodup →
      wpAny (model PG w) (A.deeper (envX qual scope L' f cdv [])) (execs body (envX qual scope L' f cdv []))
        (fun fl s' => R (.ok (.ret (match fl with | .ret v => v | _ => .none))) s') (fun _ _ => False)
        { s₁ with heap := h₁, toks := s₁.toks + binds.length })
    (hco : scope.isCoroutine = false) (hgen : scope.isGenerator = false) (hk : scope.kind = .function)
    (hcell : ∀ x ∈ scope.names, x.2 ≠ .cell) : codeAny (model PG w) A (.call (.ref f) args) R s := by
  refine call_to (s₁ := s₁) (fd := fnOf name qual params body scope dV kV doc pm an cdv ct) (body := body) (binds := binds) hroom (k _ _ (X _ _ ho)) rfl (T.nolimit.keeps k1) (codeRec_of (X.keeps k) hcd) rfl hbind hcell hloc (fun h₁ hns' hk₁ => ?_) hco hgen hk
  have st : g0.StaysIn (hideAll s₁.heap (W.map (·.1))) := fun b o e => hideAll_get _ (k1 b o e) fun q => by
    obtain ⟨p, hp, rfl⟩ := List.mem_map.mp q
    rw [hn p hp] at e; cases e
  have hns2 : h₁.Ns s₁.heap.objs.size (fv (fv0 binds rest)) := by
    have : fv (fv0 binds rest) = fun x => binds.reverse.lookup x := funext fun y => (fv_start hnd y).symm
    rw [this]; exact hns'
  have nd2 : ((fv0 binds rest).map (·.1)).Nodup := by rw [fv0_names]; exact hnd
  refine h (hideAll s₁.heap (W.map (·.1))) s₁.heap.objs.size h₁ st (fun b o e ne => hideAll_get _ e fun q => ?_) (fun b o e => of_hideAll _ e) ⟨hns2, fun b o e => hk₁ b o (of_hideAll _ e), Nat.le_of_eq (hideAll_size _ _)⟩
    (fun p hp => ⟨hk₁ _ _ (hW p hp), Nat.ne_of_lt (Heap.lt_size (hW p hp)), hideAll_none _ (List.mem_map_of_mem hp)⟩) (X.keeps fun b o e => st b o e) (T.keeps fun b o e => st b o e) nd2 hns
  obtain ⟨p, hp, e⟩ := List.mem_map.mp q
  exact ne p hp e
abbrev tupObj (vs : List Value) : Obj := { cls := .type "tuple", data := .seq vs.toArray }
theorem bind_tup {s : Shared} {fd : FuncData} {args : Args} {vs : List Value} {f : Value → List (Str × Value)} (h : bindArgs fd args = newTuple vs >>= fun v => pure (f v)) (hz : vs.length ≤ 900)
    (M : Model) (A : Around) (E : Value → Shared → Prop) (Q : List (Str × Value) → Shared → Prop) (hQ : Q (f (.ref s.heap.objs.size)) { s with heap := s.heap.push (tupObj vs) }) : wpAny M A (bindArgs fd args) Q E s := by
  rw [h]
  exact wpAny_bind (wpAny_newTuple (wpAny_pure hQ) (sz_ok (by omega)))
theorem kl_m_for : True := by
  k_with "lia" => ((fail_if_success k_extra "m_for"); lia)
  trivial
noncomputable def Sim (T : String) (W W' : List (Addr × Obj)) : Prop := ∀ b ob, (ob.cls ≠ .type T ∨ ∃ es ep, ob.data = .dict es ep) → W.lookup b = some ob → W'.lookup b = some ob
noncomputable def IterAt (T : String) (l : Addr) (i : Nat) (o : Obj) : Prop := o.cls = .type T ∧ o.data = .fields #[.ref l, .int i 0]
theorem Srt.mono {w : World} {W W' : List (Addr × Obj)} {S : SS} (h : Srt w W S) (nd : (W'.map (·.1)).Nodup) (L : ∀ b ob, ob.cls = .type "dict" ∨ ob.cls = .type "list" ∨ ob.cls = .ref 75 ∨ ob.cls = .ref 172 → W.lookup b = some ob → W'.lookup b = some ob) : Srt w W' S := by
  refine ⟨nd, L _ _ (.inr (.inr (.inr rfl))) h.obj, ?_, ?_, ?_, ?_, fun y hy => L _ _ (.inl rfl) (h.dd y hy), ?_, h.lne, h.rne, h.dn, h.ns⟩
  · obtain ⟨es, n, t1, t2, hd, A⟩ := h.ats; refine ⟨es, n, t1, t2, L _ _ (.inl rfl) hd, A⟩
  · obtain ⟨o, ho, hd⟩ := h.inf
    obtain ⟨o2, ho2, hc⟩ := h.inf_cls
    rw [ho] at ho2; cases ho2
    exact ⟨o, L _ _ (.inl hc) ho, hd⟩
  · intro a ha; obtain ⟨vs, n, hl, hv⟩ := h.rdy a ha; exact ⟨vs, n, L _ _ (.inr (.inl rfl)) hl, hv⟩
  · intro y hy; obtain ⟨r, r', hy'⟩ := h.info y hy; exact ⟨r, r', L _ _ (.inr (.inr (.inl rfl))) hy'⟩
  · intro y hy; obtain ⟨vs, n, hl, hv⟩ := h.suc y hy; exact ⟨vs, n, L _ _ (.inr (.inl rfl)) hl, hv⟩
theorem Srt.sim {w : World} {W W' : List (Addr × Obj)} {S : SS} {T : String} (h : Srt w W S) (nd : (W'.map (·.1)).Nodup) (hT : T ≠ "dict" ∧ T ≠ "list") (L : Sim T W W') : Srt w W' S :=
  h.mono nd fun b ob hc e => L b ob (.inl (by
    rcases hc with q | q | q | q <;> rw [q]
    · intro z; cases z; exact hT.1 rfl
    · intro z; cases z; exact hT.2 rfl
    · intro z; cases z
    · intro z; cases z)) e
noncomputable def ForQ (g : Heap) (L : Addr) (J : List (Str × Option Value) → List (Addr × Obj) → Prop) (it : Addr) (o : Obj) (Q : Flow → Shared → Prop) (s : Shared) : Flow → Shared → Prop
  | .brk, s3 => Q .next s3
  | .ret v, s3 => Q (.ret v) s3
  | _, s3 => ∃ fl W h tk, s3 = { s with heap := h, toks := tk } ∧ Fr g L h (fv fl) ∧ News g L h W ∧ (W.map (·.1)).Nodup ∧ W.lookup it = some o ∧ J fl W
theorem fq {g : Heap} {L : Addr} {J : List (Str × Option Value) → List (Addr × Obj) → Prop} {it : Addr} {o : Obj} {Q : Flow → Shared → Prop} {s s3 : Shared} (fl : List (Str × Option Value)) (W : List (Addr × Obj)) (h : Heap) (tk : Nat) (e : s3 = { s with heap := h, toks := tk }) (F : Fr g L h (fv fl)) (N : News g L h W) (nd : (W.map (·.1)).Nodup) (hl : W.lookup it = some o) (j : J fl W) : ForQ g L J it o Q s .next s3 := ⟨fl, W, h, tk, e, F, N, nd, hl, j⟩
theorem not_off_iter {o : Obj} {T : String} (h : o.cls = .type T) (h1 : T ≠ "dict") (h2 : T ≠ "list") : Off o := by
  refine ⟨?_, ?_, ?_⟩ <;> rw [h] <;> intro z <;> cases z
  · exact h1 rfl
  · exact h2 rfl
structure Iter (w : World) (A : Around) (x : Value) (T : String) (n : Nat) (H : Heap → Prop) (IT : Nat → Obj → Prop) (It : Nat → Value → Prop) : Prop where
  cls : ∀ i o, IT i o → o.cls = .type T
  free : ∀ i o, IT i o → o.isFreed = false
  nod : ∀ i o, IT i o → ∀ es ep, o.data ≠ .dict es ep
  start : ∀ (s : Shared) (Q : Value → Shared → Prop) (E : Value → Shared → Prop), H s.heap → (∀ o, IT 0 o → Q (.ref s.heap.objs.size) { s with heap := s.heap.push o }) → wpAny (model PG w) A (pyIter x) Q E s
  next : ∀ (s : Shared) (Q : Option Value → Shared → Prop) (E : Value → Shared → Prop) (i : Nat) (it : Addr) (o : Obj), s.heap.get? it = some o → IT i o → H s.heap → i < n →
    (∀ h' v tk o', h'.get? it = some o' → IT (i + 1) o' → Heap.SameBut it s.heap h' → It i v → Q (some v) { s with heap := h', toks := tk }) → wpAny (model PG w) A (pyNext (.ref it)) Q E s
  fin : A.handled = none → ∀ (s : Shared) (Q : Option Value → Shared → Prop) (E : Value → Shared → Prop) (it : Addr) (o : Obj), s.heap.get? it = some o → IT n o → H s.heap → (∀ h' tk, Heap.ExtBut it s.heap h' → Q none { s with heap := h', toks := tk }) → wpAny (model PG w) A (pyNext (.ref it)) Q E s
theorem iterList {w : World} {A : Around} {l : Addr} {vs : List Value} : Iter w A (.ref l) "list_iterator" vs.length (fun h => h.IsList l vs.toArray) (IterAt "list_iterator" l) (fun i v => vs[i]? = some v) where
  cls := fun i o h => h.1
  free := fun i o h => by obtain ⟨oc, od, dat, os⟩ := o; obtain ⟨_, h2⟩ := h; dsimp only at h2; subst h2; rfl
  nod := fun i o h es ep q => by have := h.2; rw [q] at this; cases this
  start := fun s Q E hl h => wpAny_pyIter_list hl (h _ ⟨rfl, rfl⟩)
  next := fun s Q E i it o ho hi hl hlt h => by
    have hx := List.getElem?_eq_getElem hlt
    exact wpAny_pyNext_list_item ⟨o, ho, hi.1, hi.2⟩ hl (by rw [List.getElem?_toArray]; exact hx) fun h' hit' hs' => by
      obtain ⟨o', ho', hc', hd'⟩ := hit'
      exact h h' _ s.toks o' ho' ⟨hc', hd'⟩ hs' hx
  fin := fun hh s Q E it o ho hi hl h => wpAny_pyNext_list_end hh ⟨o, ho, hi.1, hi.2⟩ hl (by rw [List.getElem?_toArray]; exact List.getElem?_eq_none (Nat.le_refl _)) fun h' hs' => h h' s.toks hs'
theorem iterTup {w : World} {A : Around} {l : Addr} {vs : List Value} : Iter w A (.ref l) "tuple_iterator" vs.length (fun h => h.IsTuple l vs.toArray) (IterAt "tuple_iterator" l) (fun i v => vs[i]? = some v) where
  cls := fun i o h => h.1
  free := fun i o h => by obtain ⟨oc, od, dat, os⟩ := o; obtain ⟨_, h2⟩ := h; dsimp only at h2; subst h2; rfl
  nod := fun i o h es ep q => by have := h.2; rw [q] at this; cases this
  start := fun s Q E hl h => wpAny_pyIter_tuple hl (h _ ⟨rfl, rfl⟩)
  next := fun s Q E i it o ho hi hl hlt h => by
    have hx := List.getElem?_eq_getElem hlt
    exact wpAny_pyNext_tuple_item ⟨o, ho, hi.1, hi.2⟩ hl (by rw [List.getElem?_toArray]; exact hx) fun h' hit' hs' => by
      obtain ⟨o', ho', hc', hd'⟩ := hit'
      exact h h' _ s.toks o' ho' ⟨hc', hd'⟩ hs' hx
  fin := fun hh s Q E it o ho hi hl h => wpAny_pyNext_tuple_end hh ⟨o, ho, hi.1, hi.2⟩ hl (by rw [List.getElem?_toArray]; exact List.getElem?_eq_none (Nat.le_refl _)) fun h' hs' => h h' s.toks hs'
section
variable {w : World} {A : Around} {E : Value → Shared → Prop} {s : Shared} {g : Heap} {L : Addr} {env : Env} {target : PySem.Expr} {body : List Stmt}
end
namespace forGenT_
def Q_ (w : World) (A : Around) (E : Value → Shared → Prop) (s : Shared) (g : Heap) (L : Addr) (env : Env) (target : PySem.Expr) (body : List Stmt) (K : Obj → Prop) (x : Value) (T : String) (n : Nat) (H : Heap → Prop) (IT : Nat → Obj → Prop) (It : Nat → Value → Prop) (fl0 : List (Str × Option Value)) (W0 : List (Addr × Obj)) (Q : Flow → Shared → Prop) (E' : Value → Shared → Prop) : Prop := ∀ (I : Iter w A x T n H IT It) (J : Nat → List (Str × Option Value) → List (Addr × Obj) → Prop) (hh : A.handled = none) (F0 : Fr g L s.heap (fv fl0)) (N0 : News g L s.heap W0) (nd0 : (W0.map (·.1)).Nodup) (hlist : ∀ i fl W h, J i fl W → Fr g L h (fv fl) → News g L h W → H h) (h0 : J 0 fl0 W0) (hcons : ∀ it o, (∀ p ∈ W0, p.1 ≠ it) → g.get? it = none → J 0 fl0 ((it, o) :: W0)) (hK : ∀ i o, IT i o → ¬ K o) (hst : ∀ i fl W W', (W'.map (·.1)).Nodup → (∀ p ∈ W', p.1 ∈ W.map (·.1)) → (∀ b ob, K ob → W.lookup b = some ob → W'.lookup b = some ob) → J i fl W → J i fl W') (turn : ∀ i v fl W h tk it o, i < n → It i v → J i fl W → Fr g L h (fv fl) → News g L h W → (W.map (·.1)).Nodup → W.lookup it = some o → IT (i + 1) o →
      ∀ Q' : Flow → Shared → Prop, (∀ f s', ForQ g L (J (i + 1)) it o Q s f s' → Q' f s') → wpAny (model PG w) A (assign target env v) (fun _ s₂ => wpAny (model PG w) A (execs body env) (Hid Q') (fun _ _ => False) s₂) (fun _ _ => False) { s with heap := h, toks := tk }) (done : ∀ fl W h tk, J n fl W → Fr g L h (fv fl) → News g L h W → (W.map (·.1)).Nodup → Q .next { s with heap := h, toks := tk }) (hgo : ∀ (s : Shared) (Q : Unit → Shared → Prop) (E : Value → Shared → Prop) (i : Nat) (it : Addr) (o : Obj) (v : Value), s.heap.get? it = some o → IT i o → (∃ j, It j v) → Q () s → wpAny (model PG w) A (letOwnedTupleGo target (.ref it) v) Q E s), wpAny (model PG w) A (pyIter x) (fun it s₂ => codeAny (model PG w) A (.forLoop target it body [] env) (fun r s' => match r with | .ok f => Q f s' | .error e => E' e s') s₂) E s
noncomputable section
def P_ (x : World × Around × (Value → Shared → Prop) × Shared × Heap × Addr × Env × PySem.Expr × (List Stmt) × (Obj → Prop) × Value × String × Nat × (Heap → Prop) × (Nat → Obj → Prop) × (Nat → Value → Prop) × (List (Str × Option Value)) × (List (Addr × Obj)) × (Flow → Shared → Prop) × (Value → Shared → Prop)) : Prop := Q_ x.1 x.2.1 x.2.2.1 x.2.2.2.1 x.2.2.2.2.1 x.2.2.2.2.2.1 x.2.2.2.2.2.2.1 x.2.2.2.2.2.2.2.1 x.2.2.2.2.2.2.2.2.1 x.2.2.2.2.2.2.2.2.2.1 x.2.2.2.2.2.2.2.2.2.2.1 x.2.2.2.2.2.2.2.2.2.2.2.1 x.2.2.2.2.2.2.2.2.2.2.2.2.1 x.2.2.2.2.2.2.2.2.2.2.2.2.2.1 x.2.2.2.2.2.2.2.2.2.2.2.2.2.2.1 x.2.2.2.2.2.2.2.2.2.2.2.2.2.2.2.1 x.2.2.2.2.2.2.2.2.2.2.2.2.2.2.2.2.1 x.2.2.2.2.2.2.2.2.2.2.2.2.2.2.2.2.2.1 x.2.2.2.2.2.2.2.2.2.2.2.2.2.2.2.2.2.2.1 x.2.2.2.2.2.2.2.2.2.2.2.2.2.2.2.2.2.2.2
def x_ := pick (dW, callerA, default, ({} : Shared), default, default, default, default, default, default, default, default, default, default, default, default, default, default, default, default) fun x => ¬ P_ x
@[irreducible] def w := x_.1
@[irreducible] def A := x_.2.1
@[irreducible] def E := x_.2.2.1
@[irreducible] def s := x_.2.2.2.1
@[irreducible] def g := x_.2.2.2.2.1
@[irreducible] def L := x_.2.2.2.2.2.1
@[irreducible] def env := x_.2.2.2.2.2.2.1
@[irreducible] def target := x_.2.2.2.2.2.2.2.1
@[irreducible] def body := x_.2.2.2.2.2.2.2.2.1
@[irreducible] def K := x_.2.2.2.2.2.2.2.2.2.1
@[irreducible] def x := x_.2.2.2.2.2.2.2.2.2.2.1
@[irreducible] def T := x_.2.2.2.2.2.2.2.2.2.2.2.1
@[irreducible] def n := x_.2.2.2.2.2.2.2.2.2.2.2.2.1
@[irreducible] def H := x_.2.2.2.2.2.2.2.2.2.2.2.2.2.1
@[irreducible] def IT := x_.2.2.2.2.2.2.2.2.2.2.2.2.2.2.1
@[irreducible] def It := x_.2.2.2.2.2.2.2.2.2.2.2.2.2.2.2.1
@[irreducible] def fl0 := x_.2.2.2.2.2.2.2.2.2.2.2.2.2.2.2.2.1
@[irreducible] def W0 := x_.2.2.2.2.2.2.2.2.2.2.2.2.2.2.2.2.2.1
@[irreducible] def Q := x_.2.2.2.2.2.2.2.2.2.2.2.2.2.2.2.2.2.2.1
@[irreducible] def E' := x_.2.2.2.2.2.2.2.2.2.2.2.2.2.2.2.2.2.2.2
end
theorem core : Q_ w A E s g L env target body K x T n H IT It fl0 W0 Q E' := by
  intro I J hh F0 N0 nd0 hlist h0 hcons hK hst turn done hgo
  refine I.start s _ _ (hlist 0 fl0 W0 s.heap h0 F0 N0) fun o0 ho0 => ?_
  have N1 := N0.push F0 o0 (I.free _ _ ho0)
  have F1 := F0.push o0
  have hlt : ∀ p ∈ W0, p.1 ≠ s.heap.objs.size := fun p hp => Nat.ne_of_lt (Heap.lt_size (N0 p hp).1)
  refine codeAny_forLoop_any (fun k s' => ∃ i fl W h tk o, k = n - i ∧ i ≤ n ∧ s' = { s with heap := h, toks := tk } ∧ Fr g L h (fv fl) ∧ News g L h W ∧ ((W).map (·.1)).Nodup ∧ (W).lookup s.heap.objs.size = some o ∧ IT i o ∧ J i fl W) ?_ n
    ⟨0, fl0, _, _, s.toks, _, rfl, Nat.zero_le _, rfl, F1, N1, ?_, by rw [look_cons, if_pos rfl], ho0, hcons _ _ hlt (N1 _ (.head _)).2.2⟩
  · intro k s' hx9; obtain ⟨i, fl, W, h, tk, o, rfl, hi, rfl, F, N, nd, hl, hio, j⟩ := hx9
    have hc := I.cls _ _ hio
    have hL := hlist i fl W h j F N
    by_cases hx : i < n
    · refine I.next { s with heap := h, toks := tk } _ _ i _ o (nget N hl) hio hL hx fun h' v tk1 o' ho' hio' hs' hiv => ?_
      have hc' := I.cls _ _ hio'
      obtain ⟨F', N', nd'⟩ := Mine.turn F N nd hl hs' ho'
      have hl' : (putW W s.heap.objs.size o').lookup s.heap.objs.size = some o' := by rw [look_put (by rw [hl]; rfl), if_pos rfl]
      have j' : J i fl (putW W s.heap.objs.size o') := hst i fl W _ nd' (fun p hp => by
          have := List.mem_map_of_mem (f := (·.1)) hp
          rw [putW_names] at this; exact this) (fun b ob hb e => by
          rw [look_put (by rw [hl]; rfl), if_neg fun q => ?_]
          · exact e
          · subst q; rw [hl] at e; cases e; exact hK _ _ hio hb) j
      refine hgo _ _ _ (i + 1) _ o' v ho' hio' ⟨i, hiv⟩ ?_
      refine wpAny_mono (turn i v fl _ h' tk1 _ o' hx hiv j' F' N' nd' hl' hio' _ (fun _ _ h => h)) (fun _ s₂ h2 => ?_) fun _ _ x => x.elim
      refine wpAny_mono h2 (fun f s₃ hf => ?_) fun _ _ x => x.elim
      cases f with
      | next =>
        obtain ⟨fl', W', h'', tk', rfl, F'', N'', nd'', hl'', j''⟩ := hf
        refine ⟨n - (i + 1), by omega, i + 1, fl', W', h'', tk', o', rfl, by omega, rfl, F'', N'', nd'', hl'', hio', j''⟩
      | cont =>
        obtain ⟨fl', W', h'', tk', rfl, F'', N'', nd'', hl'', j''⟩ := hf
        refine ⟨n - (i + 1), by omega, i + 1, fl', W', h'', tk', o', rfl, by omega, rfl, F'', N'', nd'', hl'', hio', j''⟩
      | brk => exact hf
      | ret v => exact hf
    · have hi2 : i = n := by omega
      subst hi2
      refine I.fin hh { s with heap := h, toks := tk } _ _ _ o (nget N hl) hio hL fun h' tk1 hs' => ?_
      have hn := N _ (look_mem hl)
      have F' : Fr g L h' (fv fl) := ⟨by
          obtain ⟨oL, es, ep, hL', r⟩ := F.ns
          refine ⟨oL, es, ep, hs' _ _ hn.2.1.symm hL', r⟩, fun b x q => hs' _ _ (fun z => by rw [z, hn.2.2] at q; cases q) (F.keep b x q), F.above⟩
      refine wpAny_mono (wpAny_pure (Q := fun f s' => Q f s') (E := fun _ _ => False) ?_) (fun _ _ x => x) fun _ _ x => x.elim
      refine done fl ((W).filter fun p => decide (p.1 ≠ s.heap.objs.size)) h' tk1 ?_ F' (fun p hp => ?_) ?_
      · refine hst _ _ W _ (List.Sublist.nodup (List.Sublist.map _ List.filter_sublist) nd) (fun p hp => List.mem_map_of_mem (f := (·.1)) (List.mem_filter.mp hp).1) (fun b ob hb e => ?_) j
        refine mem_look (List.Sublist.nodup (List.Sublist.map _ List.filter_sublist) nd) (List.mem_filter.mpr ⟨look_mem e, ?_⟩)
        refine decide_eq_true fun z => ?_
        have z' : b = s.heap.objs.size := z
        subst z'; rw [hl] at e; cases e; exact hK _ _ hio hb
      · have hp1 := List.mem_filter.mp hp
        have := N p hp1.1
        exact ⟨hs' _ _ (by simpa using hp1.2) this.1, this.2⟩
      · exact List.Sublist.nodup (List.Sublist.map _ List.filter_sublist) nd
  · rw [List.map_cons, List.nodup_cons]
    exact ⟨fun hm => by obtain ⟨p, hp, e⟩ := List.mem_map.mp hm; exact hlt p hp e, nd0⟩
theorem all : ∀ y, P_ y := @pick_all _ _ P_ (by with_unfolding_all exact core)
end forGenT_
theorem forGenT {w A E s g L env target body K x T n H IT It fl0 W0 Q E'} : forGenT_.Q_ w A E s g L env target body K x T n H IT It fl0 W0 Q E' := @forGenT_.all (w, A, E, s, g, L, env, target, body, K, x, T, n, H, IT, It, fl0, W0, Q, E')
section
variable {w : World} {A : Around} {E : Value → Shared → Prop} {s : Shared} {g : Heap} {L : Addr} {env : Env} {target : PySem.Expr} {body : List Stmt}
theorem forGenX {K : Obj → Prop} {x : Value} {T : String} {n : Nat} {H : Heap → Prop} {IT : Nat → Obj → Prop} {It : Nat → Value → Prop} (I : Iter w A x T n H IT It) {fl0 : List (Str × Option Value)} {W0 : List (Addr × Obj)} {Q : Flow → Shared → Prop} {E' : Value → Shared → Prop} (J : Nat → List (Str × Option Value) → List (Addr × Obj) → Prop)
    (hh : A.handled = none) (F0 : Fr g L s.heap (fv fl0)) (N0 : News g L s.heap W0) (nd0 : (W0.map (·.1)).Nodup)
    (hlist : ∀ i fl W h, J i fl W → Fr g L h (fv fl) → News g L h W → H h)
    (h0 : J 0 fl0 W0)
    (hcons : ∀ it o, (∀ p ∈ W0, p.1 ≠ it) → g.get? it = none → J 0 fl0 ((it, o) :: W0))
    (hK : ∀ i o, IT i o → ¬ K o) (hst : ∀ i fl W W', (W'.map (·.1)).Nodup → (∀ p ∈ W', p.1 ∈ W.map (·.1)) → (∀ b ob, K ob → W.lookup b = some ob → W'.lookup b = some ob) → J i fl W → J i fl W')
    (turn : ∀ i v fl W h tk it o, i < n → It i v → J i fl W → Fr g L h (fv fl) → News g L h W → (W.map (·.1)).Nodup → W.lookup it = some o → IT (i + 1) o →
      ∀ Q' : Flow → Shared → Prop, (∀ f s', ForQ g L (J (i + 1)) it o Q s f s' → Q' f s') → wpAny (model PG w) A (assign target env v) (fun _ s₂ => wpAny (model PG w) A (execs body env) (Hid Q') (fun _ _ => False) s₂) (fun _ _ => False) { s with heap := h, toks := tk })
    (done : ∀ fl W h tk, J n fl W → Fr g L h (fv fl) → News g L h W → (W.map (·.1)).Nodup → Q .next { s with heap := h, toks := tk })
    (ht : ∀ it v, letOwnedTupleGo target it v = pure () := by intro _ _; rfl) :
    wpAny (model PG w) A (pyIter x) (fun it s₂ => codeAny (model PG w) A (.forLoop target it body [] env) (fun r s' => match r with | .ok f => Q f s' | .error e => E' e s') s₂) E s :=
  forGenT I J hh F0 N0 nd0 hlist h0 hcons hK hst turn done fun s Q E i it o v _ _ _ h => by rw [ht]; exact wpAny_pure h
theorem forGenD {x : Value} {T : String} {n : Nat} {H : Heap → Prop} {IT : Nat → Obj → Prop} {It : Nat → Value → Prop} (I : Iter w A x T n H IT It) {fl0 : List (Str × Option Value)} {W0 : List (Addr × Obj)} {Q : Flow → Shared → Prop} {E' : Value → Shared → Prop} (J : Nat → List (Str × Option Value) → List (Addr × Obj) → Prop)
    (hh : A.handled = none) (F0 : Fr g L s.heap (fv fl0)) (N0 : News g L s.heap W0) (nd0 : (W0.map (·.1)).Nodup)
    (hlist : ∀ i fl W h, J i fl W → Fr g L h (fv fl) → News g L h W → H h)
    (h0 : J 0 fl0 W0)
    (hcons : ∀ it o, (∀ p ∈ W0, p.1 ≠ it) → g.get? it = none → J 0 fl0 ((it, o) :: W0))
    (hst : ∀ i fl W W', (W'.map (·.1)).Nodup → (∀ p ∈ W', p.1 ∈ W.map (·.1)) → Sim T W W' → J i fl W → J i fl W')
    (turn : ∀ i v fl W h tk it o, i < n → It i v → J i fl W → Fr g L h (fv fl) → News g L h W → (W.map (·.1)).Nodup → W.lookup it = some o → o.cls = .type T → (∀ es ep, o.data ≠ .dict es ep) →
      ∀ Q' : Flow → Shared → Prop, (∀ f s', ForQ g L (J (i + 1)) it o Q s f s' → Q' f s') → wpAny (model PG w) A (assign target env v) (fun _ s₂ => wpAny (model PG w) A (execs body env) (Hid Q') (fun _ _ => False) s₂) (fun _ _ => False) { s with heap := h, toks := tk })
    (done : ∀ fl W h tk, J n fl W → Fr g L h (fv fl) → News g L h W → (W.map (·.1)).Nodup → Q .next { s with heap := h, toks := tk })
    (ht : ∀ it v, letOwnedTupleGo target it v = pure () := by intro _ _; rfl) :
    wpAny (model PG w) A (pyIter x) (fun it s₂ => codeAny (model PG w) A (.forLoop target it body [] env) (fun r s' => match r with | .ok f => Q f s' | .error e => E' e s') s₂) E s := by
  refine forGenX (K := fun ob => ob.cls ≠ .type T ∨ ∃ es ep, ob.data = .dict es ep) I J hh F0 N0 nd0 hlist h0 hcons (fun i o hio hb => ?_) hst (fun i v fl W h tk it o a1 a2 a3 a4 a5 a6 a7 a8 => turn i v fl W h tk it o a1 a2 a3 a4 a5 a6 a7 (I.cls _ _ a8) (I.nod _ _ a8)) done ht
  rcases hb with hb | ⟨es, ep, hb⟩
  · exact hb (I.cls _ _ hio)
  · exact I.nod _ _ hio es ep hb
theorem forGen {x : Value} {T : String} {n : Nat} {H : Heap → Prop} {IT : Nat → Obj → Prop} {It : Nat → Value → Prop} (I : Iter w A x T n H IT It) {fl0 : List (Str × Option Value)} {W0 : List (Addr × Obj)} {Q : Flow → Shared → Prop} {E' : Value → Shared → Prop} (J : Nat → List (Str × Option Value) → List (Addr × Obj) → Prop)
    (hh : A.handled = none) (F0 : Fr g L s.heap (fv fl0)) (N0 : News g L s.heap W0) (nd0 : (W0.map (·.1)).Nodup)
    (hlist : ∀ i fl W h, J i fl W → Fr g L h (fv fl) → News g L h W → H h)
    (h0 : J 0 fl0 W0)
    (hcons : ∀ it o, (∀ p ∈ W0, p.1 ≠ it) → g.get? it = none → J 0 fl0 ((it, o) :: W0))
    (hst : ∀ i fl W W', (W'.map (·.1)).Nodup → (∀ p ∈ W', p.1 ∈ W.map (·.1)) → Sim T W W' → J i fl W → J i fl W')
    (turn : ∀ i v fl W h tk it o, i < n → It i v → J i fl W → Fr g L h (fv fl) → News g L h W → (W.map (·.1)).Nodup → W.lookup it = some o → o.cls = .type T →
      ∀ Q' : Flow → Shared → Prop, (∀ f s', ForQ g L (J (i + 1)) it o Q s f s' → Q' f s') → wpAny (model PG w) A (assign target env v) (fun _ s₂ => wpAny (model PG w) A (execs body env) (Hid Q') (fun _ _ => False) s₂) (fun _ _ => False) { s with heap := h, toks := tk })
    (done : ∀ fl W h tk, J n fl W → Fr g L h (fv fl) → News g L h W → (W.map (·.1)).Nodup → Q .next { s with heap := h, toks := tk })
    (ht : ∀ it v, letOwnedTupleGo target it v = pure () := by intro _ _; rfl) :
    wpAny (model PG w) A (pyIter x) (fun it s₂ => codeAny (model PG w) A (.forLoop target it body [] env) (fun r s' => match r with | .ok f => Q f s' | .error e => E' e s') s₂) E s := by
  exact forGenD I J hh F0 N0 nd0 hlist h0 hcons hst (fun i v fl W h tk it o a1 a2 a3 a4 a5 a6 a7 a8 _ => turn i v fl W h tk it o a1 a2 a3 a4 a5 a6 a7 a8) done ht
end
theorem kz_m_for : True := by
  k_with "m_for" => skip
  trivial
section
variable {w : World} {A : Around} {E : Value → Shared → Prop} {s : Shared} {g : Heap} {L a rl : Addr} {W : List (Addr × Obj)} {S : SS} {x : Nat} {pl : Sem Bool} {mQ : Value × List Value → Shared → Prop}
theorem setNf1 {t : Tok} {m : Str → Option Value} {Q : Unit → Shared → Prop} (F : Fr g L s.heap m) (X : (hd.heap_1 w.params).In g) (N : News g L s.heap W) (hS : Srt w W S) {z : Int} (ha : S.s = a) (hz : z = (S.nf : Int))
    (h : ∀ h' W', Fr g L h' m → News g L h' W' → Ch S.d W W' → Kp W W' → Srt w W' { S with nf := S.nf + 1 } → Q () { s with heap := h', toks := s.toks + 2 }) : wpAny (model PG w) A (setAttr (.ref a) "_nfinished" (.int (z + 1) t)) Q E s := by
  subst hz
  exact setNf (v := S.nf + 1) F X N hS ha h
theorem setPo1 {t : Tok} {m : Str → Option Value} {Q : Unit → Shared → Prop} (F : Fr g L s.heap m) (X : (hd.heap_1 w.params).In g) (N : News g L s.heap W) (hS : Srt w W S) {z : Int} {y : Nat} (ha : S.s = a) (hz : z = (S.po : Int))
    (h : ∀ h' W', Fr g L h' m → News g L h' W' → Ch S.d W W' → Kp W W' → Srt w W' { S with po := S.po + y } → Q () { s with heap := h', toks := s.toks + 2 }) : wpAny (model PG w) A (setAttr (.ref a) "_npassedout" (.int (z + (y : Int)) t)) Q E s := by
  subst hz
  exact setPo (v := S.po + y) F X N hS ha h
theorem rdMeth (N : News g L s.heap W) (hS : Srt w W S) (hr : S.rd = some rl) (h : mQ (.builtin "list.append", [.ref rl]) s) : wpAny (model PG w) A (getMethod (.ref rl) "append" pl) mQ E s := by
  obtain ⟨vs, n, hl, _⟩ := hS.rdy rl hr
  exact Calls.getMethod_list_append (nget N hl) rfl rfl h
theorem laMeth (N : News g L s.heap W) (hS : Srt w W S) (hx : x ∈ S.nodes) (ha : S.la x = a) (h : mQ (.builtin "list.append", [.ref a]) s) : wpAny (model PG w) A (getMethod (.ref a) "append" pl) mQ E s := by
  subst ha
  obtain ⟨vs, n, hl, _⟩ := hS.suc x hx
  exact Calls.getMethod_list_append (nget N hl) rfl rfl h
theorem rdMethC (N : News g L s.heap W) (hS : Srt w W S) (hr : S.rd = some rl) (h : mQ (.builtin "list.clear", [.ref rl]) s) : wpAny (model PG w) A (getMethod (.ref rl) "clear" pl) mQ E s := by
  obtain ⟨vs, n, hl, _⟩ := hS.rdy rl hr
  exact getMethod_builtin ⟨_, nget N hl, rfl⟩ PySem.F.plainAttrs_list PySem.F.slot_list_clear PySem.F.type_list_clear (fun b e => by cases e; exact ⟨_, nget N hl, rfl⟩) h
end
structure SameAs (S S' : SS) : Prop where
  s : S'.s = S.s
  d : S'.d = S.d
  n2 : S'.n2 = S.n2
  rd : S'.rd = S.rd
  nodes : S'.nodes = S.nodes
  po : S'.po = S.po
  nf : S'.nf = S.nf
  ia : S'.ia = S.ia
  la : S'.la = S.la
  da : S'.da = S.da
  succ : S'.succ = S.succ
noncomputable def stepS (S : SS) (y : Nat) : SS := if S.np y - 1 = 0 then { S with np := upd S.np y (S.np y - 1), ready := S.ready ++ [y] } else { S with np := upd S.np y (S.np y - 1) }
noncomputable def doneS (S : SS) (x : Nat) : SS :=
  let S1 := (S.succ x).foldl stepS { S with np := upd S.np x (-2) }
  { S1 with nf := S1.nf + 1 }
theorem stepS_same {S S' : SS} (h : SameAs S S') (y : Nat) : SameAs S (stepS S' y) := by
  unfold stepS
  split
  · refine ⟨h.s, h.d, h.n2, h.rd, h.nodes, h.po, h.nf, h.ia, h.la, h.da, h.succ⟩
  · refine ⟨h.s, h.d, h.n2, h.rd, h.nodes, h.po, h.nf, h.ia, h.la, h.da, h.succ⟩
theorem foldS_same {S S' : SS} (h : SameAs S S') : ∀ l : List Nat, SameAs S (l.foldl stepS S')
  | [] => h
  | y :: l => foldS_same (stepS_same h y) l
termination_by l => l.length
theorem stepS_ready {S : SS} (y : Nat) : (stepS S y).ready.length ≤ S.ready.length + 1 := by
  unfold stepS
  split
  · simp
  · simp
theorem foldS_ready {S : SS} : ∀ l : List Nat, (l.foldl stepS S).ready.length ≤ S.ready.length + l.length
  | [] => Nat.le_refl _
  | y :: l => by
    have h1 := foldS_ready (S := stepS S y) l
    have h2 := stepS_ready (S := S) y
    simp only [List.foldl_cons, List.length_cons]
    omega
theorem take_step {l : List Nat} {i y : Nat} (h : l[i]? = some y) (S : SS) : (l.take (i + 1)).foldl stepS S = stepS ((l.take i).foldl stepS S) y := by
  rw [List.take_add_one, h]
  simp [List.foldl_append]
namespace done_ok_
def Q_ (w : World) (A : Around) (s : Shared) (g0 : Heap) (loose : List Str) (mean : ExcName → Option Value) (mg : Str → Option Value) (mb : Str → Option Value) (p : Program) (R : Result → Shared → Prop) (W : List (Addr × Obj)) (S : SS) (rl : Addr) (t : Tok) : Prop := ∀ (X : (hd.heap_1 w.params).In g0) (T : Top p loose mean mg mb g0) (k : g0.StaysIn s.heap) (hroom : A.depth + 60 < recursionLimit) (hun : A.units + 60 < cLine) (hh : A.handled = none) {x : Nat} (hW : ∀ p ∈ W, s.heap.get? p.1 = some p.2) (hg : ∀ p ∈ W, g0.get? p.1 = none) (hS : Srt w W S) (hrd : S.rd = some rl) (hx : x ∈ S.nodes) (hnp : S.np x = -1) (hsu : ∀ y ∈ S.succ x, y ∈ S.nodes) (hz : S.ready.length + (S.succ x).length ≤ 900) (hR : ∀ h' tk W', (∀ b o, (∀ p ∈ W, p.1 ≠ b) → s.heap.get? b = some o → h'.get? b = some o) → (∀ p ∈ W', h'.get? p.1 = some p.2) → (∀ p ∈ W', p.1 ∈ W.map (·.1) ∨ s.heap.get? p.1 = none) → Srt w W' (doneS S x) → R (.ok (.ret .none)) { s with heap := h', toks := tk }), codeAny (model PG w) A (.call (.ref 155) ⟨[.ref S.s, .int (x : Int) t], []⟩) R s
noncomputable section
def P_ (x : World × Around × Shared × Heap × (List Str) × (ExcName → Option Value) × (Str → Option Value) × (Str → Option Value) × Program × (Result → Shared → Prop) × (List (Addr × Obj)) × SS × Addr × Tok) : Prop := Q_ x.1 x.2.1 x.2.2.1 x.2.2.2.1 x.2.2.2.2.1 x.2.2.2.2.2.1 x.2.2.2.2.2.2.1 x.2.2.2.2.2.2.2.1 x.2.2.2.2.2.2.2.2.1 x.2.2.2.2.2.2.2.2.2.1 x.2.2.2.2.2.2.2.2.2.2.1 x.2.2.2.2.2.2.2.2.2.2.2.1 x.2.2.2.2.2.2.2.2.2.2.2.2.1 x.2.2.2.2.2.2.2.2.2.2.2.2.2
def x_ := pick (dW, callerA, ({} : Shared), default, default, default, default, default, PG, default, default, (⟨0, 0, 0, none, [], [], 0, 0, fun _ => 0, fun _ => 0, fun _ => 0, fun _ => 0, fun _ => []⟩ : SS), default, default) fun x => ¬ P_ x
@[irreducible] def w := x_.1
@[irreducible] def A := x_.2.1
@[irreducible] def s := x_.2.2.1
@[irreducible] def g0 := x_.2.2.2.1
@[irreducible] def loose := x_.2.2.2.2.1
@[irreducible] def mean := x_.2.2.2.2.2.1
@[irreducible] def mg := x_.2.2.2.2.2.2.1
@[irreducible] def mb := x_.2.2.2.2.2.2.2.1
@[irreducible] def p := x_.2.2.2.2.2.2.2.2.1
@[irreducible] def R := x_.2.2.2.2.2.2.2.2.2.1
@[irreducible] def W := x_.2.2.2.2.2.2.2.2.2.2.1
@[irreducible] def S := x_.2.2.2.2.2.2.2.2.2.2.2.1
@[irreducible] def rl := x_.2.2.2.2.2.2.2.2.2.2.2.2.1
@[irreducible] def t := x_.2.2.2.2.2.2.2.2.2.2.2.2.2
end
theorem core : Q_ w A s g0 loose mean mg mb p R W S rl t := by
  intro X T k hroom hun hh x hW hg hS hrd hx hnp hsu hz hR
  have k1 : g0.StaysIn (s.heap.push (tupObj [.int (x : Int) t])) := fun b o e => Heap.get?_push_of_some _ (k b o e)
  have hD : ∀ p ∈ W, p.1 ≠ s.heap.objs.size := fun p hp => Nat.ne_of_lt (Heap.lt_size (hW p hp))
  refine enter1 (s₁ := { s with heap := s.heap.push (tupObj [.int (x : Int) t]) }) [("self", .ref S.s), ("nodes", .ref s.heap.objs.size)] ["n2i", "node", "nodeinfo", "stat", "successor", "successor_info"] (K := hd.heap_1 w.params) (W := (s.heap.objs.size, tupObj [.int (x : Int) t]) :: W) X T k k1
    (fun p hp => ?_) (fun p hp => ?_) (by k_is) (by k_is) (by omega) (bind_tup (f := fun v => [("self", .ref S.s), ("nodes", v)]) (vs := [.int (x : Int) t]) rfl (by show 1 ≤ 900; decide)) (locs rfl) (of_decide_eq_true (by kernel_rfl)) (by decide +kernel) ?_ rfl rfl rfl (by decide)
  · rcases List.mem_cons.mp hp with rfl | hp
    · exact Heap.get?_push_size _ rfl
    · exact Heap.get?_push_of_some _ (hW p hp)
  · rcases List.mem_cons.mp hp with rfl | hp
    · cases e : g0.get? s.heap.objs.size with
      | none => rfl
      | some o => exact absurd (Heap.lt_size (k _ _ e)) (Nat.lt_irrefl _)
    · exact hg p hp
  intro g' L' h' st' kp' sub' F' N' X' T' nd' ns'
  dsimp only [fv0, List.map, HAppend.hAppend, Append.append, List.append] at F' nd'
  k_fold
  have hS' := hS.cons (o := tupObj [.int (x : Int) t]) hD
  k_steps
  unfold Stop
  refine forGen (iterTup (l := s.heap.objs.size) (vs := [.int (x : Int) t])) (fun i fl W1 => W1.lookup s.heap.objs.size = some (tupObj [.int (x : Int) t]) ∧
    (∃ o1 o2 o3 o4 o5, fl = ([("self", some (.ref S.s)), ("nodes", some (.ref s.heap.objs.size)), ("n2i", some (.ref S.n2)), ("node", o1), ("nodeinfo", o2), ("stat", o3), ("successor", o4), ("successor_info", o5)] : List (Str × Option Value))) ∧ (if i = 0 then Srt w W1 S else Srt w W1 (doneS S x)))
    (by show A.handled = none; exact hh) F' N' hS'.nd ?_ ?_ ?_ ?_ ?_ ?_ (fun _ _ => rfl)
  · intro i fl W1 h1 hx9; obtain ⟨hl, _, _⟩ := hx9; intro _ N1
    refine ⟨_, nget N1 hl, rfl, 0, rfl⟩
  · exact ⟨by rw [look_cons, if_pos rfl], ⟨_, _, _, _, _, rfl⟩, by rw [if_pos rfl]; exact hS'⟩
  · intro it o hn _
    refine ⟨?_, ⟨_, _, _, _, _, rfl⟩, by rw [if_pos rfl]; exact hS'.cons hn⟩
    have := hn _ (.head _)
    rw [look_cons, if_neg this, look_cons, if_pos rfl]
  · intro i fl W1 W2 nd2 _ hsim hx9; obtain ⟨hl, hf, hs⟩ := hx9
    refine ⟨hsim _ _ (by simp) hl, hf, ?_⟩
    split at hs
    · rename_i e; rw [if_pos e]; exact hs.sim nd2 ⟨by decide, by decide⟩ hsim
    · rename_i e; rw [if_neg e]; exact hs.sim nd2 ⟨by decide, by decide⟩ hsim
  · intro i v fl W1 h1 tk1 it o hi hv hx9; obtain ⟨hl, ⟨o1, o2, o3, o4, o5, rfl⟩, hs⟩ := hx9; intro F1 N1 nd1 hlo hco Qf hQf
    clear F' N' nd' hS'
    have hi0 : i = 0 := by simpa using hi
    subst hi0
    rw [if_pos rfl] at hs
    have hv' : v = .int (x : Int) t := by simpa using hv.symm
    subst hv'
    have nd' : (List.map (fun x : Str × Option Value => x.fst) [("self", some (.ref S.s)), ("nodes", some (.ref s.heap.objs.size)), ("n2i", some (.ref S.n2)), ("node", o1), ("nodeinfo", o2), ("stat", o3), ("successor", o4), ("successor_info", o5)]).Nodup := of_decide_eq_true (by kernel_rfl)
    k_steps
    · exact absurd hnp (by assumption)
    obtain ⟨vs, nl, hla, hiv⟩ := hS'.suc x hx
    have hkD := hk' _ _ (not_off_iter (T := "tuple") rfl (by decide) (by decide)) hl
    have hkI := hk' _ _ (not_off_iter hco (by decide) (by decide)) hlo
    unfold Stop
    refine forGen (iterList (l := S.la x) (vs := vs)) (fun i fl W2 => W2.lookup s.heap.objs.size = some (tupObj [.int (x : Int) t]) ∧ W2.lookup it = some o ∧ W2.lookup (S.la x) = some (listOf vs.toArray nl) ∧
      (∃ o4 o5, fl = ([("self", some (.ref S.s)), ("nodes", some (.ref s.heap.objs.size)), ("n2i", some (.ref S.n2)), ("node", some (.int (x : Int) t)), ("nodeinfo", some (.ref (S.ia x))), ("stat", some (.int (S.np x) t')), ("successor", o4), ("successor_info", o5)] : List (Str × Option Value))) ∧
      Srt w W2 (((S.succ x).take i).foldl stepS { S with np := upd S.np x (-2) }))
      ?_ F' N' hS'.nd ?_ ?_ ?_ ?_ ?_ ?_ ?_
    · exact hh
    · intro i fl W1 h1 hx9; obtain ⟨_, _, hl, _, _⟩ := hx9; intro _ N1
      exact isList_of (nget N1 hl)
    · refine ⟨hkD, hkI, hla, ⟨_, _, rfl⟩, hS'⟩
    · intro it2 o' hn _
      have hc : ∀ b ob, W'.lookup b = some ob → ((it2, o') :: W').lookup b = some ob := fun b ob hb => by
        rw [look_cons, if_neg (fun e => hn _ (look_mem hb) e)]; exact hb
      refine ⟨hc _ _ hkD, hc _ _ hkI, hc _ _ hla, ⟨_, _, rfl⟩, hS'.cons hn⟩
    · intro i fl W1 W2 nd2 _ hsim hx9; obtain ⟨h1, h2, h3, hf, hs2⟩ := hx9
      refine ⟨hsim _ _ (by simp) h1, hsim _ _ (by rw [hco]; simp) h2, hsim _ _ (by simp) h3, hf, hs2.sim nd2 ⟨by decide, by decide⟩ hsim⟩
    · intro i v fl W1 h1 tk1 it2 o' hi hv hx9; obtain ⟨hD1, hI1, hL1, ⟨o4', o5', rfl⟩, hs1⟩ := hx9; intro F1 N1 nd1 hlo' hco' Qf hQf
      clear F' N' nd' hS'
      obtain ⟨y, ty, hy, rfl⟩ := hiv.at hv
      have hyS : y ∈ S.succ x := List.mem_of_getElem? hy
      have same := foldS_same (S := S) (S' := { S with np := upd S.np x (-2) }) ⟨rfl, rfl, rfl, rfl, rfl, rfl, rfl, rfl, rfl, rfl, rfl⟩ ((S.succ x).take i)
      have hrdz := foldS_ready (S := { S with np := upd S.np x (-2) }) ((S.succ x).take i)
      have hst := take_step hy { S with np := upd S.np x (-2) }
      generalize hSi : ((S.succ x).take i).foldl stepS { S with np := upd S.np x (-2) } = Si at hs1 same hrdz hst
      have e1 := same.s
      have e2 := same.n2
      have e3 : Si.rd = some rl := same.rd.trans hrd
      have e4 : y ∈ Si.nodes := by rw [same.nodes]; exact hsu y hyS
      have e5 : Si.ready.length ≤ 900 := by
        rw [List.length_take] at hrdz
        have hz' : Si.ready.length ≤ S.ready.length + min i (S.succ x).length := hrdz
        omega
      have nd' : (List.map (fun x : Str × Option Value => x.fst) [("self", some (.ref S.s)), ("nodes", some (.ref s.heap.objs.size)), ("n2i", some (.ref S.n2)), ("node", some (.int (x : Int) t)), ("nodeinfo", some (.ref (S.ia x))), ("stat", some (.int (S.np x) t')), ("successor", o4'), ("successor_info", o5')]).Nodup := of_decide_eq_true (by kernel_rfl)
      k_steps
      · rename Ch _ W1 _ => c1
        rename Kp W1 _ => k1
        have hlane : S.la x ≠ Si.ia y := fun e => by
          obtain ⟨u, u', hi'⟩ := hs1.info y e4
          rw [← e, hL1] at hi'; cases hi'
        have hlard : S.la x ≠ rl := fun e => hs1.rne rl e3 x (by rw [same.nodes]; exact hx) (by rw [same.la]; exact e)
        have kk := k1.trans hk'
        refine ⟨_, _, _, _, rfl, F', N', hS'.nd, kk _ _ (not_off_iter hco' (by decide) (by decide)) hlo', kk _ _ (not_off_iter (T := "tuple") rfl (by decide) (by decide)) hD1, kk _ _ (not_off_iter hco (by decide) (by decide)) hI1, (hW'.2 _ hlard).trans ((c1.2 _ hlane).trans hL1), ⟨_, _, rfl⟩, ?_⟩
        rw [hst]
        have hne : Si.np y - 1 = 0 := by
          have : upd Si.np y (Si.np y - 1) y = 0 := by assumption
          rwa [upd_self] at this
        unfold stepS
        rw [if_pos hne]
        exact hS'
      · have hlane : S.la x ≠ Si.ia y := fun e => by
          obtain ⟨u, u', hi'⟩ := hs1.info y e4
          rw [← e, hL1] at hi'; cases hi'
        refine ⟨_, _, _, _, rfl, F', N', hS'.nd, hk' _ _ (not_off_iter hco' (by decide) (by decide)) hlo', hk' _ _ (not_off_iter (T := "tuple") rfl (by decide) (by decide)) hD1, hk' _ _ (not_off_iter hco (by decide) (by decide)) hI1, (hW'.2 _ hlane).trans hL1, ⟨_, _, rfl⟩, ?_⟩
        rw [hst]
        have hne : ¬ (Si.np y - 1 = 0) := by
          have : upd Si.np y (Si.np y - 1) y ≠ 0 := by assumption
          rwa [upd_self] at this
        unfold stepS
        rw [if_neg hne]
        exact hS'
    · intro fl W2 h2 tk2 hx9; obtain ⟨hD2, hI2, _, ⟨o4', o5', rfl⟩, hs2⟩ := hx9; intro F2 N2 nd2
      clear F' N' nd' hS'
      rw [hiv.length, List.take_of_length_le (Nat.le_refl _)] at hs2
      have same := foldS_same (S := S) (S' := { S with np := upd S.np x (-2) }) ⟨rfl, rfl, rfl, rfl, rfl, rfl, rfl, rfl, rfl, rfl, rfl⟩ (S.succ x)
      have hdone : doneS S x = { ((S.succ x).foldl stepS { S with np := upd S.np x (-2) }) with nf := ((S.succ x).foldl stepS { S with np := upd S.np x (-2) }).nf + 1 } := rfl
      generalize hSi : (S.succ x).foldl stepS { S with np := upd S.np x (-2) } = Si at hs2 same hdone
      have e1 := same.s
      have nd' : (List.map (fun x : Str × Option Value => x.fst) [("self", some (.ref S.s)), ("nodes", some (.ref s.heap.objs.size)), ("n2i", some (.ref S.n2)), ("node", some (.int (x : Int) t)), ("nodeinfo", some (.ref (S.ia x))), ("stat", some (.int (S.np x) t')), ("successor", o4'), ("successor_info", o5')]).Nodup := of_decide_eq_true (by kernel_rfl)
      k_steps
      refine ⟨_, _, _, _, rfl, F', N', hS'.nd, hk' _ _ (not_off_iter hco (by decide) (by decide)) hI2, hk' _ _ (not_off_iter (T := "tuple") rfl (by decide) (by decide)) hD2, ⟨_, _, _, _, _, rfl⟩, ?_⟩
      rw [if_neg (by decide), hdone]
      exact hS'
    · exact fun _ _ => rfl
  · intro fl W1 h1 tk1 hx9; obtain ⟨hD1, _, hs1⟩ := hx9; intro F1 N1 nd1
    rw [if_neg (by simp)] at hs1
    k_steps
    refine hR h1 tk1 W1 (fun b o hb e => F1.keep _ _ (kp' b o (Heap.get?_push_of_some _ e) fun p hp => ?_)) (fun p hp => (N1 p hp).1) (fun p hp => ?_) hs1
    · rcases List.mem_cons.mp hp with rfl | hp
      · exact fun q => by rw [← q] at e; exact absurd (Heap.lt_size e) (Nat.lt_irrefl _)
      · exact hb p hp
    · by_cases hm : p.1 ∈ (W).map (·.1)
      · exact .inl hm
      · refine .inr ?_
        cases e : s.heap.get? p.1 with
        | none => rfl
        | some ob =>
          have := kp' p.1 ob (Heap.get?_push_of_some _ e) fun q hq => by
            rcases List.mem_cons.mp hq with rfl | hq
            · exact fun z => by rw [← z] at e; exact absurd (Heap.lt_size e) (Nat.lt_irrefl _)
            · exact fun z => hm (by rw [← z]; exact List.mem_map_of_mem (f := (·.1)) hq)
          rw [(N1 p hp).2.2] at this; cases this
theorem all : ∀ y, P_ y := @pick_all _ _ P_ (by with_unfolding_all exact core)
end done_ok_
theorem done_ok {w A s g0 loose mean mg mb p R W S rl t} : done_ok_.Q_ w A s g0 loose mean mg mb p R W S rl t := @done_ok_.all (w, A, s, g0, loose, mean, mg, mb, p, R, W, S, rl, t)
noncomputable def outS (S : SS) (y : Nat) : SS := { S with np := upd S.np y (-1) }
noncomputable def readyS (S : SS) : SS :=
  let S1 := S.ready.foldl outS S
  { S1 with ready := [], po := S1.po + S.ready.length }
section
variable {w : World} {A : Around} {E : Value → Shared → Prop} {s : Shared} {g : Heap} {L a rl : Addr} {m : Str → Option Value} {W : List (Addr × Obj)} {S : SS} {x : Nat} {vQ : Value → Shared → Prop}
theorem tupRd (F : Fr g L s.heap m) (N : News g L s.heap W) (hS : Srt w W S) (hr : S.rd = some rl) (hz : S.ready.length ≤ 900)
    (h : ∀ D vs h', Fr g L h' m → News g L h' ((D, tupObj vs) :: W) → IV vs S.ready → (∀ p ∈ W, p.1 ≠ D) → Srt w ((D, tupObj vs) :: W) S → vQ (.ref D) { s with heap := h' }) : wpAny (model PG w) A (call (.type "tuple") [.ref rl]) vQ E s := by
  obtain ⟨vs, n, hl, hv⟩ := hS.rdy rl hr
  have hlen := hv.length
  exact kde_tupleOf F N (isList_of (nget N hl)) (by rw [List.size_toArray]; omega) (zs := vs) (List.toList_toArray) fun D h' F' N' hD => h D vs h' F' N' hv (fun p hp => Nat.ne_of_lt (hD p hp)) (hS.cons fun p hp => Nat.ne_of_lt (hD p hp))
theorem clearRd (F : Fr g L s.heap m) (N : News g L s.heap W) (hS : Srt w W S) (hr : S.rd = some rl) (hz : S.ready.length ≤ 900)
    (h : ∀ h' W', Fr g L h' m → News g L h' W' → Ch rl W W' → Kp W W' → Srt w W' { S with ready := [] } → vQ .none { s with heap := h' }) : wpAny (model PG w) A (call (.builtin "list.clear") [.ref rl]) vQ E s := by
  obtain ⟨vs, n, hl, hv⟩ := hS.rdy rl hr
  have hlen := hv.length
  have z := N _ (look_mem hl)
  refine call_meets PySem.F.slot_list_clear ⟨_, z.1, rfl⟩ PySem.F.entry_list_clear (PySem.F.args_list_clear_1 _) (PySem.AutoSeq1.list_clear_list_0 rl vs.toArray n (by rw [List.size_toArray]; exact sz_ok (by omega))) ⟨z.1, ?_⟩
  obtain ⟨n', e⟩ : ∃ n', Obj.mapSeq (fun _ => #[]) (listOf vs.toArray n) = listOf #[] n' := ⟨_, rfl⟩
  have ho : (s.heap.update rl (Obj.mapSeq fun _ => #[])).get? rl = some (listOf #[] n') := by rw [← e]; exact Heap.get?_update_self _ z.1 rfl
  obtain ⟨F', N', nd'⟩ := Mine.turn F N hS.nd hl (Heap.SameBut.update ..) ho
  exact h _ _ F' N' (ch_put hl) (kp_put hl off_no_list) (hS.setReady (vs := []) hr .nil)
end
theorem outS_same {S S' : SS} (h : SameAs S S') (y : Nat) : SameAs S (outS S' y) := ⟨h.s, h.d, h.n2, h.rd, h.nodes, h.po, h.nf, h.ia, h.la, h.da, h.succ⟩
theorem foldO_same {S S' : SS} (h : SameAs S S') : ∀ l : List Nat, SameAs S (l.foldl outS S')
  | [] => h
  | y :: l => foldO_same (outS_same h y) l
termination_by l => l.length
theorem foldO_ready {S : SS} : ∀ l : List Nat, (l.foldl outS S).ready = S.ready
  | [] => rfl
  | y :: l => foldO_ready (S := outS S y) l
theorem take_out {l : List Nat} {i y : Nat} (h : l[i]? = some y) (S : SS) : (l.take (i + 1)).foldl outS S = outS ((l.take i).foldl outS S) y := by
  rw [List.take_add_one, h]
  simp [List.foldl_append]
namespace getReady_ok_
def Q_ (w : World) (A : Around) (s : Shared) (g0 : Heap) (loose : List Str) (mean : ExcName → Option Value) (mg : Str → Option Value) (mb : Str → Option Value) (p : Program) (R : Result → Shared → Prop) (W : List (Addr × Obj)) (S : SS) (rl : Addr) : Prop := ∀ (X : (hd.heap_1 w.params).In g0) (T : Top p loose mean mg mb g0) (k : g0.StaysIn s.heap) (hroom : A.depth + 60 < recursionLimit) (hun : A.units + 60 < cLine) (hh : A.handled = none) (hW : ∀ p ∈ W, s.heap.get? p.1 = some p.2) (hg : ∀ p ∈ W, g0.get? p.1 = none) (hS : Srt w W S) (hrd : S.rd = some rl) (hrn : ∀ y ∈ S.ready, y ∈ S.nodes) (hz : S.ready.length ≤ 900) (hR : ∀ h' tk W' D vs, (∀ b o, (∀ p ∈ W, p.1 ≠ b) → s.heap.get? b = some o → h'.get? b = some o) → (∀ p ∈ W', h'.get? p.1 = some p.2) → (∀ p ∈ W', p.1 ∈ W.map (·.1) ∨ s.heap.get? p.1 = none) → Srt w W' (readyS S) →
      W'.lookup D = some (tupObj vs) → IV vs S.ready → R (.ok (.ret (.ref D))) { s with heap := h', toks := tk }), codeAny (model PG w) A (.call (.ref 134) ⟨[.ref S.s], []⟩) R s
noncomputable section
def P_ (x : World × Around × Shared × Heap × (List Str) × (ExcName → Option Value) × (Str → Option Value) × (Str → Option Value) × Program × (Result → Shared → Prop) × (List (Addr × Obj)) × SS × Addr) : Prop := Q_ x.1 x.2.1 x.2.2.1 x.2.2.2.1 x.2.2.2.2.1 x.2.2.2.2.2.1 x.2.2.2.2.2.2.1 x.2.2.2.2.2.2.2.1 x.2.2.2.2.2.2.2.2.1 x.2.2.2.2.2.2.2.2.2.1 x.2.2.2.2.2.2.2.2.2.2.1 x.2.2.2.2.2.2.2.2.2.2.2.1 x.2.2.2.2.2.2.2.2.2.2.2.2
def x_ := pick (dW, callerA, ({} : Shared), default, default, default, default, default, PG, default, default, (⟨0, 0, 0, none, [], [], 0, 0, fun _ => 0, fun _ => 0, fun _ => 0, fun _ => 0, fun _ => []⟩ : SS), default) fun x => ¬ P_ x
@[irreducible] def w := x_.1
@[irreducible] def A := x_.2.1
@[irreducible] def s := x_.2.2.1
@[irreducible] def g0 := x_.2.2.2.1
@[irreducible] def loose := x_.2.2.2.2.1
@[irreducible] def mean := x_.2.2.2.2.2.1
@[irreducible] def mg := x_.2.2.2.2.2.2.1
@[irreducible] def mb := x_.2.2.2.2.2.2.2.1
@[irreducible] def p := x_.2.2.2.2.2.2.2.2.1
@[irreducible] def R := x_.2.2.2.2.2.2.2.2.2.1
@[irreducible] def W := x_.2.2.2.2.2.2.2.2.2.2.1
@[irreducible] def S := x_.2.2.2.2.2.2.2.2.2.2.2.1
@[irreducible] def rl := x_.2.2.2.2.2.2.2.2.2.2.2.2
end
theorem core : Q_ w A s g0 loose mean mg mb p R W S rl := by
  intro X T k hroom hun hh hW hg hS hrd hrn hz hR
  refine enter [("self", .ref S.s)] ["result", "n2i", "node"] (K := hd.heap_1 w.params) (W := W) X T k hW hg (by k_is) (by k_is) (by omega) (BindsTo.of_eq rfl) (locs rfl) (of_decide_eq_true (by kernel_rfl)) (by decide +kernel) ?_ rfl rfl rfl (by decide)
  intro g' L' h' st' kp' sub' F' N' X' T' nd' ns'
  dsimp only [fv0, List.map, HAppend.hAppend, Append.append, List.append] at F' nd'
  k_fold
  k_steps
  unfold Stop
  refine forGen (iterTup (l := D') (vs := vs')) (fun i fl W2 => W2.lookup D' = some (tupObj vs') ∧ (∃ o1, fl = ([("self", some (.ref S.s)), ("result", some (.ref D')), ("n2i", some (.ref S.n2)), ("node", o1)] : List (Str × Option Value))) ∧ Srt w W2 ((S.ready.take i).foldl outS S))
    ?_ F' N' hS'.nd ?_ ?_ ?_ ?_ ?_ ?_ ?_
  · exact hh
  · intro i fl W1 h1 hx9; obtain ⟨hl, _, _⟩ := hx9; intro _ N1
    refine ⟨_, nget N1 hl, rfl, 0, rfl⟩
  · exact ⟨by rw [look_cons, if_pos rfl], ⟨_, rfl⟩, hS'⟩
  · intro it o hn _
    refine ⟨?_, ⟨_, rfl⟩, hS'.cons hn⟩
    have := hn _ (.head _)
    rw [look_cons, if_neg this, look_cons, if_pos rfl]
  · intro i fl W1 W2 nd2 _ hsim hx9; obtain ⟨hl, hf, hs⟩ := hx9
    exact ⟨hsim _ _ (by simp) hl, hf, hs.sim nd2 ⟨by decide, by decide⟩ hsim⟩
  · intro i v fl W1 h1 tk1 it o hi hv hx9; obtain ⟨hl, ⟨o1, rfl⟩, hs1⟩ := hx9; intro F1 N1 nd1 hlo hco Qf hQf
    clear F' N' nd' hS'
    obtain ⟨y, ty, hy, rfl⟩ := hiv'.at hv
    have same := foldO_same (S := S) (S' := S) ⟨rfl, rfl, rfl, rfl, rfl, rfl, rfl, rfl, rfl, rfl, rfl⟩ (S.ready.take i)
    have hst := take_out hy S
    generalize hSi : (S.ready.take i).foldl outS S = Si at hs1 same hst
    have e2 := same.n2
    have e4 : y ∈ Si.nodes := by rw [same.nodes]; exact hrn y (List.mem_of_getElem? hy)
    have nd' : (List.map (fun x : Str × Option Value => x.fst) [("self", some (.ref S.s)), ("result", some (.ref D')), ("n2i", some (.ref S.n2)), ("node", o1)]).Nodup := of_decide_eq_true (by kernel_rfl)
    k_steps
    refine ⟨_, _, _, _, rfl, F', N', hS'.nd, hk' _ _ (not_off_iter hco (by decide) (by decide)) hlo, hk' _ _ (not_off_iter (T := "tuple") rfl (by decide) (by decide)) hl, ⟨_, rfl⟩, ?_⟩
    rw [hst]
    exact hS'
  · intro fl W2 h2 tk2 hx9; obtain ⟨hl, ⟨o1, rfl⟩, hs2⟩ := hx9; intro F2 N2 nd2
    clear F' N' nd' hS'
    rw [hiv'.length, List.take_of_length_le (Nat.le_refl _)] at hs2
    have same := foldO_same (S := S) (S' := S) ⟨rfl, rfl, rfl, rfl, rfl, rfl, rfl, rfl, rfl, rfl, rfl⟩ S.ready
    have hrr := foldO_ready (S := S) S.ready
    have hdone : readyS S = { (S.ready.foldl outS S) with ready := [], po := (S.ready.foldl outS S).po + S.ready.length } := rfl
    have hvl := hiv'.length
    generalize hSi : S.ready.foldl outS S = Si at hs2 same hdone hrr
    have e1 := same.s
    have e3 : Si.rd = some rl := same.rd.trans hrd
    have e5 : Si.ready.length ≤ 900 := by rw [hrr]; exact hz
    have nd' : (List.map (fun x : Str × Option Value => x.fst) [("self", some (.ref S.s)), ("result", some (.ref D')), ("n2i", some (.ref S.n2)), ("node", o1)]).Nodup := of_decide_eq_true (by kernel_rfl)
    k_steps
    have hl' := hk' _ _ (not_off_iter (T := "tuple") rfl (by decide) (by decide)) hl
    refine ktm_lenK N' (look_mem hl') (k := (S.ready.length : Int)) (by omega) (by rw [hvl]) ?_
    k_steps
    have hl2 := hk' _ _ (not_off_iter (T := "tuple") rfl (by decide) (by decide)) hl'
    refine hR _ _ W' D' vs' (fun b o hb e => F'.keep _ _ (kp' b o e hb)) (fun p hp => (N' p hp).1) (fun p hp => ?_) (by rw [hdone]; exact hS') hl2 hiv'
    by_cases hm : p.1 ∈ (W).map (·.1)
    · exact .inl hm
    · refine .inr ?_
      cases e : s.heap.get? p.1 with
      | none => rfl
      | some ob =>
        have := kp' p.1 ob e fun q hq z => hm (by rw [← z]; exact List.mem_map_of_mem (f := (·.1)) hq)
        rw [(N' p hp).2.2] at this; cases this
  · exact fun _ _ => rfl
theorem all : ∀ y, P_ y := @pick_all _ _ P_ (by with_unfolding_all exact core)
end getReady_ok_
theorem getReady_ok {w A s g0 loose mean mg mb p R W S rl} : getReady_ok_.Q_ w A s g0 loose mean mg mb p R W S rl := @getReady_ok_.all (w, A, s, g0, loose, mean, mg, mb, p, R, W, S, rl)
theorem updF_put {W : List (Addr × Obj)} {a : Addr} {o : Obj} (nd : (W.map (·.1)).Nodup) (h : W.lookup a = some o) : UpdF a o W (fun o' => putW W a o') := by
  induction W with
  | nil => cases h
  | cons p r ih =>
    rw [List.map_cons, List.nodup_cons] at nd
    rw [List.lookup_cons] at h
    by_cases e : a = p.1
    · obtain ⟨pa, po⟩ := p
      dsimp only at e nd
      subst e
      simp only [beq_self_eq_true] at h
      cases h
      have hr : ∀ q ∈ r, q.1 ≠ a := fun q hq z => nd.1 (by rw [← z]; exact List.mem_map_of_mem (f := (·.1)) hq)
      have : (fun o' => putW ((a, o) :: r) a o') = fun o' => (a, o') :: r := funext fun o' => by
        have : putW r a o' = r := by
          unfold putW
          conv => rhs; rw [← List.map_id r]
          refine List.map_congr_left fun q hq => ?_
          rw [if_neg (hr q hq)]; rfl
        unfold putW
        rw [List.map_cons, if_pos rfl]
        show (a, o') :: putW r a o' = _
        rw [this]
      rw [this]
      exact .head hr
    · have h1 : (a == p.1) = false := by simpa using e
      rw [h1] at h
      have : (fun o' => putW (p :: r) a o') = fun o' => p :: putW r a o' := funext fun o' => by
        unfold putW
        rw [List.map_cons, if_neg fun z => e z.symm]
      rw [this]
      exact .tail (fun z => e z.symm) (ih nd.2 h)
noncomputable def addNode (S : SS) (x : Nat) (a la d : Addr) : SS := { S with nodes := S.nodes ++ [x], ia := upd S.ia x a, la := upd S.la x la, da := upd S.da x d }
noncomputable def Ens (S : SS) (x : Nat) (S' : SS) : Prop := (x ∈ S.nodes ∧ S' = S) ∨ (x ∉ S.nodes ∧ ∃ a la d, S' = addNode S x a la d)
theorem addNode_kvs {S : SS} {x : Nat} {a la d : Addr} (hx : x ∉ S.nodes) : (addNode S x a la d).kvs = S.kvs ++ [((x : Int), .ref a)] := by
  unfold SS.kvs addNode
  dsimp only
  rw [List.map_append]
  congr 1
  · refine List.map_congr_left fun y hy => ?_
    rw [upd_ne _ _ fun e => hx (by rw [← e]; exact hy)]
  · simp [upd_self]
theorem stored_new {S : SS} {x : Nat} {v : Value} (hx : x ∉ S.nodes) : PySem.stored S.kvs (x : Int) v = S.kvs ++ [((x : Int), v)] := by
  unfold PySem.stored
  rw [if_neg]
  simp only [SS.kvs, List.any_map, List.any_eq_true, Function.comp_apply, decide_eq_true_eq, not_exists, not_and]
  intro y hy e
  have : y = x := by omega
  exact hx (this ▸ hy)
theorem Srt.grow {w : World} {W : List (Addr × Obj)} {S : SS} (h : Srt w W S) {x : Nat} (hx : x ∉ S.nodes) {a la d : Addr} {t t' : Tok} {o' : Obj}
    (ha : ∀ p ∈ W, p.1 ≠ a) (hla : ∀ p ∈ W, p.1 ≠ la) (hd : ∀ p ∈ W, p.1 ≠ d) (h1 : a ≠ la) (h2 : a ≠ d) (h3 : la ≠ d) (hnp : S.np x = 0) (hsu : S.succ x = [])
    (ho' : o'.IsDictOf (iK w) (S.kvs ++ [((x : Int), .ref a)])) :
    Srt w (putW ((a, infoObj d (.ref la) (.int 0 t) (.int (x : Int) t')) :: (la, listOf #[] 0) :: (d, dictOf [] 0) :: W) S.n2 o') (addNode S x a la d) := by
  have hW3 : ∀ b ob, W.lookup b = some ob → ((a, infoObj d (.ref la) (.int 0 t) (.int (x : Int) t')) :: (la, listOf #[] 0) :: (d, dictOf [] 0) :: W).lookup b = some ob := fun b ob hb => by
    have hm := look_mem hb
    rw [look_cons, if_neg fun e => ha _ hm e, look_cons, if_neg fun e => hla _ hm e, look_cons, if_neg fun e => hd _ hm e]
    exact hb
  obtain ⟨on, hon, hdn⟩ := h.inf
  have hin : ∀ b, b ∈ W.map (·.1) → b ≠ a ∧ b ≠ la ∧ b ≠ d := fun b hb => by
    obtain ⟨p, hp, rfl⟩ := List.mem_map.mp hb
    exact ⟨ha p hp, hla p hp, hd p hp⟩
  have hn2 := hin S.n2 (List.mem_map_of_mem (f := (·.1)) (look_mem hon))
  have hs : (((a, infoObj d (.ref la) (.int 0 t) (.int (x : Int) t')) :: (la, listOf #[] 0) :: (d, dictOf [] 0) :: W).lookup S.n2).isSome = true := by rw [hW3 _ _ hon]; rfl
  have L : ∀ b ob, b ≠ S.n2 → W.lookup b = some ob → (putW ((a, infoObj d (.ref la) (.int 0 t) (.int (x : Int) t')) :: (la, listOf #[] 0) :: (d, dictOf [] 0) :: W) S.n2 o').lookup b = some ob := fun b ob hb e => by
    rw [look_put hs, if_neg hb]; exact hW3 b ob e
  have La : (putW ((a, infoObj d (.ref la) (.int 0 t) (.int (x : Int) t')) :: (la, listOf #[] 0) :: (d, dictOf [] 0) :: W) S.n2 o').lookup a = some (infoObj d (.ref la) (.int 0 t) (.int (x : Int) t')) := by
    rw [look_put hs, if_neg fun e => hn2.1 e.symm, look_cons, if_pos rfl]
  have Lla : (putW ((a, infoObj d (.ref la) (.int 0 t) (.int (x : Int) t')) :: (la, listOf #[] 0) :: (d, dictOf [] 0) :: W) S.n2 o').lookup la = some (listOf #[] 0) := by
    rw [look_put hs, if_neg fun e => hn2.2.1 e.symm, look_cons, if_neg fun e => h1 e.symm, look_cons, if_pos rfl]
  have Ld : (putW ((a, infoObj d (.ref la) (.int 0 t) (.int (x : Int) t')) :: (la, listOf #[] 0) :: (d, dictOf [] 0) :: W) S.n2 o').lookup d = some (dictOf [] 0) := by
    rw [look_put hs, if_neg fun e => hn2.2.2 e.symm, look_cons, if_neg fun e => h2 e.symm, look_cons, if_neg fun e => h3 e.symm, look_cons, if_pos rfl]
  have ne : ∀ y, y ∈ S.nodes → y ≠ x := fun y hy e => hx (e ▸ hy)
  have hclsn : on.cls = .type "dict" := by obtain ⟨es, ep, hc, _⟩ := hdn; exact hc.1
  refine ⟨?_, L _ _ (lk_ne h.obj hon (by rw [hclsn]; simp)) h.obj, ?_, ?_, ?_, ?_, ?_, ?_, ?_, ?_, h.dn, h.ns⟩
  · rw [putW_names]
    simp only [List.map_cons, List.nodup_cons, List.mem_cons, not_or]
    exact ⟨⟨h1, h2, fun q => (hin a q).1 rfl⟩, ⟨h3, fun q => (hin la q).2.1 rfl⟩, fun q => (hin d q).2.2 rfl, h.nd⟩
  · obtain ⟨es, n, t1, t2, hd', A⟩ := h.ats
    refine ⟨es, n, t1, t2, L _ _ h.dn hd', A⟩
  · exact ⟨o', by show List.lookup S.n2 _ = _; rw [look_put hs, if_pos rfl], by rw [addNode_kvs hx]; exact ho'⟩
  · intro b hb
    obtain ⟨vs, n, hl, hv⟩ := h.rdy b hb
    exact ⟨vs, n, L _ _ (lk_ne hl hon (by rw [hclsn]; simp)) hl, hv⟩
  · intro y hy
    rcases List.mem_append.mp hy with q | q
    · obtain ⟨r, r', hi⟩ := h.info y q
      refine ⟨r, r', ?_⟩
      show List.lookup (upd S.ia x a y) _ = some (infoObj (upd S.da x d y) (.ref (upd S.la x la y)) _ _)
      rw [upd_ne _ _ (ne y q), upd_ne _ _ (ne y q), upd_ne _ _ (ne y q)]
      exact L _ _ (lk_ne hi hon (by rw [hclsn]; simp)) hi
    · have e := List.mem_singleton.mp q
      subst e
      refine ⟨t, t', ?_⟩
      show List.lookup (upd S.ia y a y) _ = some (infoObj (upd S.da y d y) (.ref (upd S.la y la y)) (.int (S.np y) t) _)
      rw [upd_self, upd_self, upd_self, hnp]
      exact La
  · intro y hy
    rcases List.mem_append.mp hy with q | q
    · show List.lookup (upd S.da x d y) _ = _
      rw [upd_ne _ _ (ne y q)]
      exact L _ _ (h.n2_da q) (h.dd y q)
    · have e := List.mem_singleton.mp q
      subst e
      show List.lookup (upd S.da y d y) _ = _
      rw [upd_self]; exact Ld
  · intro y hy
    rcases List.mem_append.mp hy with q | q
    · obtain ⟨vs, n, hl, hv⟩ := h.suc y q
      refine ⟨vs, n, ?_, hv⟩
      show List.lookup (upd S.la x la y) _ = _
      rw [upd_ne _ _ (ne y q)]
      exact L _ _ (lk_ne hl hon (by rw [hclsn]; simp)) hl
    · have e := List.mem_singleton.mp q
      subst e
      refine ⟨[], 0, ?_, by show IV [] (S.succ y); rw [hsu]; exact .nil⟩
      show List.lookup (upd S.la y la y) _ = _
      rw [upd_self]; exact Lla
  · have hold : ∀ y, y ∈ S.nodes → S.la y ≠ la := fun y hy => by
      obtain ⟨vs, n, hl, _⟩ := h.suc y hy
      exact (hin _ (List.mem_map_of_mem (f := (·.1)) (look_mem hl))).2.1
    intro y hy z hz e
    have e' : upd S.la x la y = upd S.la x la z := e
    rcases List.mem_append.mp hy with q | q <;> rcases List.mem_append.mp hz with r | r
    · rw [upd_ne _ _ (ne y q), upd_ne _ _ (ne z r)] at e'
      exact h.lne y q z r e'
    · have := List.mem_singleton.mp r; subst this
      rw [upd_ne _ _ (ne y q), upd_self] at e'
      exact absurd e' (hold y q)
    · have := List.mem_singleton.mp q; subst this
      rw [upd_ne _ _ (ne z r), upd_self] at e'
      exact absurd e'.symm (hold z r)
    · rw [List.mem_singleton.mp q, List.mem_singleton.mp r]
  · intro b hb y hy
    show upd S.la x la y ≠ b
    rcases List.mem_append.mp hy with q | q
    · rw [upd_ne _ _ (ne y q)]; exact h.rne b hb y q
    · have e := List.mem_singleton.mp q
      subst e
      rw [upd_self]
      obtain ⟨vs, n, hl, _⟩ := h.rdy b hb
      exact fun e => (hin _ (List.mem_map_of_mem (f := (·.1)) (look_mem hl))).2.1 e.symm
theorem fresh_ne {g h : Heap} {L b : Addr} {m : Str → Option Value} {W : List (Addr × Obj)} (F : Fr g L h m) (N : News g L h W) (hb : h.get? b = none) : b ≠ L ∧ g.get? b = none ∧ ∀ p ∈ W, p.1 ≠ b := by
  refine ⟨fun e => ?_, ?_, fun p hp e => ?_⟩
  · obtain ⟨oL, es, ep, hL, _⟩ := F.ns
    rw [e, hL] at hb; cases hb
  · cases e : g.get? b with
    | none => rfl
    | some o => rw [F.keep _ _ e] at hb; cases hb
  · have := (N p hp).1
    rw [e, hb] at this; cases this
theorem kw_p_info : True := by
  k_with "setAttr ref" => ((fail_if_success k_extra "p_info"); k_here; (have hx7 := hx9); clear hx7; k_dflt (refine' set_slot ?k1 ?k2 ?k3 ?k4 ?k5 ?k6 ?k7 ?k8 ?k9 ?k10 ?k11 ?k12 ?k13 ?_; (case k1 => assumption); (case k2 => assumption); (case k3 => assumption); (case k4 => k_inst); (case k5 => k_is); (case k6 => k_is); (case k7 => k_is); (case k8 => k_is); (case k9 => k_is); (case k10 => decide); (case k11 => k_slotset); (case k12 => exact rfl); (case k13 => first | exact .head hx9 | exact .tail hx8 (.head hx9)); k_whole); intro h' F' N'; k_sweep)
  trivial
theorem newInfo {w : World} {A : Around} {E : Value → Shared → Prop} {s : Shared} {g : Heap} {L : Addr} {m : Str → Option Value} {W : List (Addr × Obj)} {x : Int} {t : Tok} {Q : Value → Shared → Prop} {loose : List Str} {mean : ExcName → Option Value} {mg mb : Str → Option Value} {p : Program}
    (l : Low A) (F : Fr g L s.heap m) (X : (hd.heap_1 w.params).In g) (T : Top p loose mean mg mb g) (N : News g L s.heap W)
    (h : ∀ a la d t0 h' tk, Fr g L h' m → News g L h' ((a, infoObj d (.ref la) (.int 0 t0) (.int x t)) :: (la, listOf #[] 0) :: (d, dictOf [] 0) :: W) → (∀ p ∈ W, p.1 ≠ a) → (∀ p ∈ W, p.1 ≠ la) → (∀ p ∈ W, p.1 ≠ d) → a ≠ la → a ≠ d → la ≠ d → Q (.ref a) { s with heap := h', toks := tk }) :
    wpAny (model PG w) A (call (.ref 75) [.int x t]) Q E s := by
  have hd1 := l.depth
  refine wpAny_call (make_K F N (X.keeps F.keep) (by k_is) (by k_is) (by k_is) fun y dx h1 F1 N1 l1 l2 => ?_)
  refine enter [("self", .ref y), ("node", .int x t)] [] (K := hd.heap_1 w.params) (W := [(y, instObj 75 dx), (dx, dictOf [] 0)]) X T F1.keep (fun p hp => (N1 p (List.mem_append_left W hp)).1) (fun p hp => (N1 p (List.mem_append_left W hp)).2.2) (by k_is) (by k_is) ?_ (BindsTo.of_eq rfl) (locs rfl) (of_decide_eq_true (by kernel_rfl)) (by decide +kernel) ?_ rfl rfl rfl (by decide)
  · show A.depth + 1 < recursionLimit
    exact Nat.lt_of_le_of_lt (Nat.add_le_add_right hd1 1) (by decide)
  intro g' L' h' st' kp' sub' F' N' X' T' nd' ns'
  dsimp only [fv0, List.map, HAppend.hAppend, Append.append, List.append] at F' nd'
  k_fold
  have hx9 : ∀ p ∈ [(dx, dictOf [] 0)], p.1 ≠ y := fun p hp => by rw [List.mem_singleton] at hp; subst hp; exact Nat.ne_of_lt l2
  k_steps
  rename_i la h2 F2 N2 ll
  have F' := F2
  have N' := N2
  clear F2 N2
  have hx8 : la ≠ y := Nat.ne_of_gt ll.1
  k_steps
  rename Fr _ _ _ _ => F3
  rename News _ _ _ _ => N3
  obtain ⟨t0, N4⟩ : ∃ t0, News g' L' h' [(la, listOf #[] 0), (y, infoObj dx (.ref la) (.int 0 t0) (.int x t)), (dx, dictOf [] 0)] := ⟨_, N3⟩
  clear N3
  have kp : ∀ b o, h1.get? b = some o → b ≠ y → b ≠ dx → h'.get? b = some o := fun b o e b1 b2 => F3.keep b o (kp' b o e fun p hp => by
    rcases List.mem_cons.mp hp with rfl | hp
    · exact b1.symm
    · rw [List.mem_singleton] at hp; subst hp; exact b2.symm)
  have x1 := N1 _ (.head _)
  have x2 := N1 _ (.tail _ (.head _))
  have g2 : ∀ b o, h1.get? b = some o → b ≠ y → b ≠ dx → b ≠ la := fun b o e b1 b2 q => by
    have := (N4 _ (.head _)).2.2
    rw [← q, kp' b o e (fun p hp => by
      rcases List.mem_cons.mp hp with rfl | hp
      · exact b1.symm
      · rw [List.mem_singleton] at hp; subst hp; exact b2.symm)] at this
    cases this
  obtain ⟨oL, eL, pL, hL, rL⟩ := F1.ns
  have hLd := g2 L oL hL x1.2.1.symm x2.2.1.symm
  have hg2 : g.get? la = none := by
    cases e : g.get? la with
    | none => rfl
    | some o =>
      have := (N4 _ (.head _)).2.2
      rw [st' _ _ e] at this; cases this
  have hW : ∀ q ∈ W, q.1 ≠ y ∧ q.1 ≠ dx := fun q hq => ⟨Nat.ne_of_lt (Nat.lt_trans (l1 q hq) l2), Nat.ne_of_lt (l1 q hq)⟩
  have hW1 : ∀ q ∈ W, h1.get? q.1 = some q.2 ∧ q.1 ≠ L ∧ g.get? q.1 = none := fun q hq => N1 q (.tail _ (.tail _ hq))
  refine ⟨rfl, h y la dx t0 h' _ ⟨⟨oL, eL, pL, kp _ _ hL x1.2.1.symm x2.2.1.symm, rL⟩, fun b o e => F3.keep b o (st' b o e), F1.above⟩ (fun p hp => ?_) (fun q hq => (hW q hq).1) (fun q hq => g2 _ _ (hW1 q hq).1 (hW q hq).1 (hW q hq).2) (fun q hq => (hW q hq).2) hx8.symm (Nat.ne_of_gt l2) (Nat.ne_of_gt ll.2)⟩
  rcases List.mem_cons.mp hp with rfl | hp
  · exact ⟨(N4 _ (.tail _ (.head _))).1, x1.2⟩
  rcases List.mem_cons.mp hp with rfl | hp
  · exact ⟨(N4 _ (.head _)).1, hLd.symm, hg2⟩
  rcases List.mem_cons.mp hp with rfl | hp
  · exact ⟨(N4 _ (.tail _ (.tail _ (.head _)))).1, x2.2⟩
  · exact ⟨kp _ _ (hW1 p hp).1 (hW p hp).1 (hW p hp).2, (hW1 p hp).2⟩
theorem getInfo_ok {w : World} {A : Around} {s : Shared} {g0 : Heap} {loose : List Str} {mean : ExcName → Option Value} {mg mb : Str → Option Value} {p : Program} {R : Result → Shared → Prop}
    (X : (hd.heap_1 w.params).In g0) (T : Top p loose mean mg mb g0) (k : g0.StaysIn s.heap) (hh : A.handled = none) (hroom : A.depth ≤ 450) (hun : A.units ≤ 4500) {W : List (Addr × Obj)} {S : SS} {x : Nat} {t : Tok}
    (hW : ∀ p ∈ W, s.heap.get? p.1 = some p.2) (hg : ∀ p ∈ W, g0.get? p.1 = none) (hS : Srt w W S) (hnew : x ∉ S.nodes → S.np x = 0 ∧ S.succ x = []) (hz : S.nodes.length ≤ 900)
    (hR : ∀ h' tk W' S', (∀ b o, (∀ p ∈ W, p.1 ≠ b) → s.heap.get? b = some o → h'.get? b = some o) → (∀ p ∈ W', h'.get? p.1 = some p.2) → (∀ p ∈ W', p.1 ∈ W.map (·.1) ∨ s.heap.get? p.1 = none) → Kp W W' → Srt w W' S' → Ens S x S' → R (.ok (.ret (.ref (S'.ia x)))) { s with heap := h', toks := tk }) :
    codeAny (model PG w) A (.call (.ref 115) ⟨[.ref S.s, .int (x : Int) t], []⟩) R s := by
  have hr1 : A.depth + 60 < recursionLimit := Nat.lt_of_le_of_lt (Nat.add_le_add_right hroom 60) (by decide)
  have hu1 : A.units + 60 < cLine := Nat.lt_of_le_of_lt (Nat.add_le_add_right hun 60) (by decide)
  refine enter [("self", .ref S.s), ("node", .int (x : Int) t)] ["result"] (K := hd.heap_1 w.params) (W := W) X T k hW hg (by k_is) (by k_is) (by omega) (BindsTo.of_eq rfl) (locs rfl) (of_decide_eq_true (by kernel_rfl)) (by decide +kernel) ?_ rfl rfl rfl (by decide)
  intro g' L' h' st' kp' sub' F' N' X' T' nd' ns'
  dsimp only [fv0, List.map, HAppend.hAppend, Append.append, List.append] at F' nd'
  k_fold
  by_cases hx : x ∈ S.nodes
  · k_steps
    exact hR _ _ W S (fun b o hb e => F'.keep _ _ (kp' b o e hb)) (fun p hp => (N' p hp).1) (fun p hp => .inl (List.mem_map_of_mem (f := (·.1)) hp)) Kp.refl hS (.inl ⟨hx, rfl⟩)
  · k_steps
    refine newInfo ⟨hh, by show A.depth + 1 ≤ 500; omega, by show A.units + 3 ≤ 5000; omega⟩ F' X' T' N' fun a la d t0 h2 tk2 F2 N2 na nla nd3 h1 h12 h13 => ?_
    clear F' N'
    have F' := F2
    have N' := N2
    have hS3 : Srt w ((a, infoObj d (.ref la) (.int 0 t0) (.int (x : Int) t)) :: (la, listOf #[] 0) :: (d, dictOf [] 0) :: W) S :=
      ((hS.cons nd3).cons fun p hp => by
        rcases List.mem_cons.mp hp with rfl | hp
        · exact h13.symm
        · exact nla p hp).cons fun p hp => by
        rcases List.mem_cons.mp hp with rfl | hp
        · exact h1.symm
        rcases List.mem_cons.mp hp with rfl | hp
        · exact h12.symm
        · exact na p hp
    k_steps
    obtain ⟨on, hon, hdn⟩ := hS3.inf
    refine kda_set (knd := iK w) (k := (x : Int)) (kvs := S.kvs) F' N' (updF_put hS3.nd hon) hdn (intKind_is _ _ _ _) (by unfold SS.kvs; rw [List.length_map]; exact sz_ok (by omega)) fun h4 o4 F4 N4 hd4 => ?_
    rw [stored_new hx] at hd4
    have hS4 := hS.grow hx (t := t0) (t' := t) na nla nd3 h1 h12 h13 (hnew hx).1 (hnew hx).2 hd4
    clear F' N'
    have F' := F4
    have N' := N4
    have kk : Kp W (putW ((a, infoObj d (.ref la) (.int 0 t0) (.int (x : Int) t)) :: (la, listOf #[] 0) :: (d, dictOf [] 0) :: W) S.n2 o4) := fun b ob hb e => by
      have hm := look_mem e
      refine kp_put hon (fun q => q.1 (by obtain ⟨es, ep, hc, _⟩ := hdn; exact hc.1)) b ob hb ?_
      rw [look_cons, if_neg fun e => na _ hm e, look_cons, if_neg fun e => nla _ hm e, look_cons, if_neg fun e => nd3 _ hm e]
      exact e
    clear hS3
    k_steps
    have e1 : (addNode S x a la d).ia x = a := upd_self _ _ _
    have hR' := hR h' tk (putW ((a, infoObj d (.ref la) (.int 0 t0) (.int (x : Int) t)) :: (la, listOf #[] 0) :: (d, dictOf [] 0) :: W) S.n2 o4) _ (fun b o hb e => F'.keep _ _ (kp' b o e hb)) (fun p hp => (N' p hp).1) (fun p hp => by
      by_cases hm : p.1 ∈ W.map (·.1)
      · exact .inl hm
      · refine .inr ?_
        cases e : s.heap.get? p.1 with
        | none => rfl
        | some ob =>
          have := kp' p.1 ob e fun q hq z => hm (by rw [← z]; exact List.mem_map_of_mem (f := (·.1)) hq)
          rw [(N' p hp).2.2] at this; cases this) kk hS4 (.inr ⟨hx, a, la, d, rfl⟩)
    rw [e1] at hR'
    exact hR'
theorem kz_p_info : True := by
  k_with "p_info" => skip
  trivial
theorem kl_q_add : True := by
  k_with "lia" => ((fail_if_success k_extra "q_add"); lia)
  trivial
theorem after_call {g h h' : Heap} {L : Addr} {m : Str → Option Value} {W W' : List (Addr × Obj)} (F : Fr g L h m) (N : News g L h W) (keep : ∀ b o, (∀ p ∈ W, p.1 ≠ b) → h.get? b = some o → h'.get? b = some o)
    (hW' : ∀ p ∈ W', h'.get? p.1 = some p.2) (fr : ∀ p ∈ W', p.1 ∈ W.map (·.1) ∨ h.get? p.1 = none) : Fr g L h' m ∧ News g L h' W' := by
  refine ⟨⟨?_, fun b o e => keep b o (fun p hp q => ?_) (F.keep b o e), F.above⟩, fun p hp => ⟨hW' p hp, ?_⟩⟩
  · obtain ⟨oL, es, ep, hL, r⟩ := F.ns
    refine ⟨oL, es, ep, keep _ _ (fun p hp => (N p hp).2.1) hL, r⟩
  · have := (N p hp).2.2
    rw [q, e] at this; cases this
  · rcases fr p hp with q | q
    · obtain ⟨p', hp', e⟩ := List.mem_map.mp q
      rw [← e]; exact (N p' hp').2
    · exact ⟨(fresh_ne F N q).1, (fresh_ne F N q).2.1⟩
noncomputable def Cl (S : SS) : Prop := ∀ y, y ∉ S.nodes → S.np y = 0 ∧ S.succ y = []
inductive AddTo (x : Nat) (S : SS) : List Nat → SS → Prop
  | nil : AddTo x S [] S
  | snoc {l Si y Sm} : AddTo x S l Si → Ens Si y Sm → AddTo x S (l ++ [y]) { Sm with succ := upd Sm.succ y (Sm.succ y ++ [x]) }
theorem Ens.mem {S S' : SS} {x : Nat} (h : Ens S x S') : x ∈ S'.nodes := by
  rcases h with ⟨hx, rfl⟩ | ⟨_, a, la, d, rfl⟩
  · exact hx
  · exact List.mem_append_right _ (.head _)
theorem Ens.cl {S S' : SS} {x : Nat} (h : Ens S x S') (c : Cl S) : Cl S' := by
  rcases h with ⟨hx, rfl⟩ | ⟨_, a, la, d, rfl⟩
  · exact c
  · exact fun y hy => c y fun q => hy (List.mem_append_left _ q)
theorem Ens.len {S S' : SS} {x : Nat} (h : Ens S x S') : S'.nodes.length ≤ S.nodes.length + 1 := by
  rcases h with ⟨hx, rfl⟩ | ⟨_, a, la, d, rfl⟩
  · omega
  · show (S.nodes ++ [x]).length ≤ _
    simp
theorem Ens.np {S S' : SS} {x : Nat} (h : Ens S x S') : S'.np = S.np ∧ S'.succ = S.succ ∧ S'.rd = S.rd ∧ S'.s = S.s ∧ S'.d = S.d ∧ S'.n2 = S.n2 ∧ S'.po = S.po ∧ S'.nf = S.nf ∧ S'.ready = S.ready := by
  rcases h with ⟨hx, rfl⟩ | ⟨_, a, la, d, rfl⟩
  · refine ⟨rfl, rfl, rfl, rfl, rfl, rfl, rfl, rfl, rfl⟩
  · refine ⟨rfl, rfl, rfl, rfl, rfl, rfl, rfl, rfl, rfl⟩
theorem Cl.setSucc {S : SS} (c : Cl S) {y : Nat} (hy : y ∈ S.nodes) (l : List Nat) : Cl { S with succ := upd S.succ y l } := fun z hz => by
  have hzy : z ≠ y := fun e => hz (e ▸ hy)
  exact ⟨(c z hz).1, by show upd S.succ y l z = []; rw [upd_ne _ _ hzy]; exact (c z hz).2⟩
theorem Cl.setNp {S : SS} (c : Cl S) {y : Nat} (hy : y ∈ S.nodes) (v : Int) : Cl { S with np := upd S.np y v } := fun z hz => by
  have hzy : z ≠ y := fun e => hz (e ▸ hy)
  exact ⟨by show upd S.np y v z = 0; rw [upd_ne _ _ hzy]; exact (c z hz).1, (c z hz).2⟩
theorem methGi {w : World} {A : Around} {E : Value → Shared → Prop} {s : Shared} {g : Heap} {L a : Addr} {m : Str → Option Value} {W : List (Addr × Obj)} {S : SS} {pl : Sem Bool} {mQ : Value × List Value → Shared → Prop} (F : Fr g L s.heap m) (X : (hd.heap_1 w.params).In g) (N : News g L s.heap W) (hS : Srt w W S) (ha : S.s = a)
    (h : mQ (.ref 115, [.ref a]) s) : wpAny (model PG w) A (getMethod (.ref a) "_get_nodeinfo" pl) mQ E s := by
  subst ha
  obtain ⟨es, n, t1, t2, hd', At⟩ := hS.ats
  exact method_inst F X (inst_of (nget N hS.obj) (nget N hd')) (by k_is) (by k_is) (by k_is) (At.no rfl) h
namespace add_ok_
def Q_ (w : World) (A : Around) (s : Shared) (g0 : Heap) (loose : List Str) (mean : ExcName → Option Value) (mg : Str → Option Value) (mb : Str → Option Value) (p : Program) (R : Result → Shared → Prop) (W : List (Addr × Obj)) (S : SS) (x : Nat) (t : Tok) (vs : List Value) (ys : List Nat) : Prop := ∀ (X : (hd.heap_1 w.params).In g0) (T : Top p loose mean mg mb g0) (k : g0.StaysIn s.heap) (hh : A.handled = none) (hroom : A.depth ≤ 440) (hun : A.units ≤ 4400) (hW : ∀ p ∈ W, s.heap.get? p.1 = some p.2) (hg : ∀ p ∈ W, g0.get? p.1 = none) (hS : Srt w W S) (hcl : Cl S) (hrd : S.rd = none) (hv : IV vs ys) (hz : S.nodes.length + ys.length ≤ 90) (hzs : ∀ y, (S.succ y).length ≤ 800) (hR : ∀ h' tk W' S1 S', (∀ b o, (∀ p ∈ W, p.1 ≠ b) → s.heap.get? b = some o → h'.get? b = some o) → (∀ p ∈ W', h'.get? p.1 = some p.2) → (∀ p ∈ W', p.1 ∈ W.map (·.1) ∨ s.heap.get? p.1 = none) → Srt w W' S' →
      Ens S x S1 → AddTo x { S1 with np := upd S1.np x (S1.np x + ys.length) } ys S' → R (.ok (.ret .none)) { s with heap := h', toks := tk }), codeAny (model PG w) A (.call (.ref 122) ⟨.ref S.s :: .int (x : Int) t :: vs, []⟩) R s
noncomputable section
def P_ (x : World × Around × Shared × Heap × (List Str) × (ExcName → Option Value) × (Str → Option Value) × (Str → Option Value) × Program × (Result → Shared → Prop) × (List (Addr × Obj)) × SS × Nat × Tok × (List Value) × (List Nat)) : Prop := Q_ x.1 x.2.1 x.2.2.1 x.2.2.2.1 x.2.2.2.2.1 x.2.2.2.2.2.1 x.2.2.2.2.2.2.1 x.2.2.2.2.2.2.2.1 x.2.2.2.2.2.2.2.2.1 x.2.2.2.2.2.2.2.2.2.1 x.2.2.2.2.2.2.2.2.2.2.1 x.2.2.2.2.2.2.2.2.2.2.2.1 x.2.2.2.2.2.2.2.2.2.2.2.2.1 x.2.2.2.2.2.2.2.2.2.2.2.2.2.1 x.2.2.2.2.2.2.2.2.2.2.2.2.2.2.1 x.2.2.2.2.2.2.2.2.2.2.2.2.2.2.2
def x_ := pick (dW, callerA, ({} : Shared), default, default, default, default, default, PG, default, default, (⟨0, 0, 0, none, [], [], 0, 0, fun _ => 0, fun _ => 0, fun _ => 0, fun _ => 0, fun _ => []⟩ : SS), default, default, default, default) fun x => ¬ P_ x
@[irreducible] def w := x_.1
@[irreducible] def A := x_.2.1
@[irreducible] def s := x_.2.2.1
@[irreducible] def g0 := x_.2.2.2.1
@[irreducible] def loose := x_.2.2.2.2.1
@[irreducible] def mean := x_.2.2.2.2.2.1
@[irreducible] def mg := x_.2.2.2.2.2.2.1
@[irreducible] def mb := x_.2.2.2.2.2.2.2.1
@[irreducible] def p := x_.2.2.2.2.2.2.2.2.1
@[irreducible] def R := x_.2.2.2.2.2.2.2.2.2.1
@[irreducible] def W := x_.2.2.2.2.2.2.2.2.2.2.1
@[irreducible] def S := x_.2.2.2.2.2.2.2.2.2.2.2.1
@[irreducible] def x := x_.2.2.2.2.2.2.2.2.2.2.2.2.1
@[irreducible] def t := x_.2.2.2.2.2.2.2.2.2.2.2.2.2.1
@[irreducible] def vs := x_.2.2.2.2.2.2.2.2.2.2.2.2.2.2.1
@[irreducible] def ys := x_.2.2.2.2.2.2.2.2.2.2.2.2.2.2.2
end
theorem core : Q_ w A s g0 loose mean mg mb p R W S x t vs ys := by
  intro X T k hh hroom hun hW hg hS hcl hrd hv hz hzs hR
  have hr1 : A.depth + 60 < recursionLimit := Nat.lt_of_le_of_lt (Nat.add_le_add_right hroom 60) (by decide)
  have hu1 : A.units + 60 < cLine := Nat.lt_of_le_of_lt (Nat.add_le_add_right hun 60) (by decide)
  have hvl := hv.length
  have k1 : g0.StaysIn (s.heap.push (tupObj vs)) := fun b o e => Heap.get?_push_of_some _ (k b o e)
  have hD : ∀ p ∈ W, p.1 ≠ s.heap.objs.size := fun p hp => Nat.ne_of_lt (Heap.lt_size (hW p hp))
  refine enter1 (s₁ := { s with heap := s.heap.push (tupObj vs) }) [("self", .ref S.s), ("node", .int (x : Int) t), ("predecessors", .ref s.heap.objs.size)] ["nodeinfo", "pred", "pred_info"] (K := hd.heap_1 w.params) (W := (s.heap.objs.size, tupObj vs) :: W) X T k k1
    (fun p hp => ?_) (fun p hp => ?_) (by k_is) (by k_is) (by omega) (bind_tup (f := fun v => [("self", .ref S.s), ("node", .int (x : Int) t), ("predecessors", v)]) (vs := vs) ?bt (by omega)) (locs rfl) (of_decide_eq_true (by kernel_rfl)) (by decide +kernel) ?_ rfl rfl rfl (by decide)
  case bt =>
    cases vs with
    | nil => rfl
    | cons v r => rfl
  · rcases List.mem_cons.mp hp with rfl | hp
    · exact Heap.get?_push_size _ rfl
    · exact Heap.get?_push_of_some _ (hW p hp)
  · rcases List.mem_cons.mp hp with rfl | hp
    · cases e : g0.get? s.heap.objs.size with
      | none => rfl
      | some o => exact absurd (Heap.lt_size (k _ _ e)) (Nat.lt_irrefl _)
    · exact hg p hp
  intro g' L' h' st' kp' sub' F' N' X' T' nd' ns'
  dsimp only [fv0, List.map, HAppend.hAppend, Append.append, List.append] at F' nd'
  k_fold
  have hS' := hS.cons (o := tupObj vs) hD
  k_steps
  refine wpAny_call (getInfo_ok X' T' (fun b o e => F'.keep b o e) (by show A.handled = none; exact hh) (by show A.depth + 1 ≤ 450; omega) (by show A.units + 3 ≤ 4500; omega) (fun p hp => (N' p hp).1) (fun p hp => (N' p hp).2.2) hS' (hcl x) (by omega) fun h1 tk1 W1 S1 kp1 hW1 fr1 kk1 hS1 ens1 => ?_)
  obtain ⟨F1, N1⟩ := after_call F' N' kp1 hW1 fr1
  have hl1 := kk1 _ _ (not_off_iter (T := "tuple") (o := tupObj vs) rfl (by decide) (by decide)) (by rw [look_cons, if_pos rfl])
  obtain ⟨en1, en2, en3, en4, en5, en6, en7, en8, en9⟩ := ens1.np
  have hx1 := ens1.mem
  have cl1 := ens1.cl hcl
  have len1 := ens1.len
  clear F' N' hS'
  have F' := F1
  have N' := N1
  k_steps
  refine ktm_lenK N' (look_mem hl1) (k := (ys.length : Int)) (by omega) (by rw [hvl]) ?_
  k_steps
  have hl2 := hk' _ _ (not_off_iter (T := "tuple") (o := tupObj vs) rfl (by decide) (by decide)) hl1
  unfold Stop
  refine forGen (iterTup (l := s.heap.objs.size) (vs := vs)) (fun i fl W2 => W2.lookup s.heap.objs.size = some (tupObj vs) ∧
    (∃ o1 o2, fl = ([("self", some (.ref S.s)), ("node", some (.int (x : Int) t)), ("predecessors", some (.ref s.heap.objs.size)), ("nodeinfo", some (.ref (S1.ia x))), ("pred", o1), ("pred_info", o2)] : List (Str × Option Value))) ∧
    ∃ Si, Srt w W2 Si ∧ AddTo x { S1 with np := upd S1.np x (S1.np x + ys.length) } (ys.take i) Si ∧ Cl Si ∧ Si.s = S.s ∧ Si.nodes.length ≤ S.nodes.length + 1 + i ∧ (∀ y, (Si.succ y).length ≤ 800 + i))
    ?_ F' N' hS'.nd ?_ ?_ ?_ ?_ ?_ ?_ ?_
  · exact hh
  · intro i fl W2 h2 hx9; obtain ⟨hl, _, _⟩ := hx9; intro _ N2
    refine ⟨_, nget N2 hl, rfl, 0, rfl⟩
  · refine ⟨hl2, ⟨_, _, rfl⟩, _, hS', .nil, cl1.setNp hx1 _, en4, by show S1.nodes.length ≤ _; omega, fun y => by show (S1.succ y).length ≤ _; rw [en2]; have := hzs y; omega⟩
  · intro it o hn _
    refine ⟨?_, ⟨_, _, rfl⟩, _, hS'.cons hn, .nil, cl1.setNp hx1 _, en4, by show S1.nodes.length ≤ _; omega, fun y => by show (S1.succ y).length ≤ _; rw [en2]; have := hzs y; omega⟩
    rw [look_cons, if_neg fun e => hn _ (look_mem hl2) e]; exact hl2
  · intro i fl W2 W3 nd2 _ hsim hx9; obtain ⟨hl, hf, Si, hs, hr⟩ := hx9
    refine ⟨hsim _ _ (by simp) hl, hf, Si, hs.sim nd2 ⟨by decide, by decide⟩ hsim, hr⟩
  · intro i v fl W2 h2 tk2 it o hi hvv hx9; obtain ⟨hl, ⟨o1, o2, rfl⟩, Si, hsi, hadd, hcli, e1, hlen, hsz⟩ := hx9; intro F2 N2 nd2 hlo hco Qf hQf
    clear F' N' nd' hS'
    obtain ⟨y, ty, hy, rfl⟩ := hv.at hvv
    have nd' : (List.map (fun x : Str × Option Value => x.fst) [("self", some (.ref S.s)), ("node", some (.int (x : Int) t)), ("predecessors", some (.ref s.heap.objs.size)), ("nodeinfo", some (.ref (S1.ia x))), ("pred", o1), ("pred_info", o2)]).Nodup := of_decide_eq_true (by kernel_rfl)
    k_steps
    rw [← e1]
    refine wpAny_call (getInfo_ok X' T' (fun b o e => F'.keep b o e) (by show A.handled = none; exact hh) (by show A.depth + 1 ≤ 450; omega) (by show A.units + 3 ≤ 4500; omega) (fun p hp => (N' p hp).1) (fun p hp => (N' p hp).2.2) hsi (hcli y) (by omega) fun h3 tk3 W3 Sm kp3 hW3 fr3 kk3 hS3 ens3 => ?_)
    obtain ⟨F3, N3⟩ := after_call F' N' kp3 hW3 fr3
    obtain ⟨em1, em2, em3, em4, em5, em6, em7, em8, em9⟩ := ens3.np
    have hy3 := ens3.mem
    have cl3 := ens3.cl hcli
    have len3 := ens3.len
    have e5 : (Sm.succ y).length ≤ 900 := by rw [em2]; have := hsz y; omega
    clear F' N' hsi
    have F' := F3
    have N' := N3
    k_steps
    refine ⟨_, _, _, _, rfl, F', N', hS'.nd, hk' _ _ (not_off_iter hco (by decide) (by decide)) (kk3 _ _ (not_off_iter hco (by decide) (by decide)) hlo), hk' _ _ (not_off_iter (T := "tuple") rfl (by decide) (by decide)) (kk3 _ _ (not_off_iter (T := "tuple") rfl (by decide) (by decide)) hl), ⟨_, _, rfl⟩, _, hS', ?_, cl3.setSucc hy3 _, em4.trans e1, by show Sm.nodes.length ≤ _; omega, fun z => ?_⟩
    · rw [List.take_add_one, hy]
      exact .snoc hadd ens3
    · show (upd Sm.succ y (Sm.succ y ++ [x]) z).length ≤ _
      by_cases ez : z = y
      · subst ez
        rw [upd_self, List.length_append, em2]
        have := hsz z
        simp only [List.length_cons, List.length_nil]; omega
      · rw [upd_ne _ _ ez, em2]
        have := hsz z; omega
  · intro fl W2 h2 tk2 hx9; obtain ⟨hl, ⟨o1, o2, rfl⟩, Si, hsi, hadd, hcli, e1, hlen, hsz⟩ := hx9; intro F2 N2 nd2
    rw [hvl, List.take_of_length_le (Nat.le_refl _)] at hadd
    k_steps
    refine hR h2 tk2 W2 S1 Si (fun b o hb e => F2.keep _ _ (kp' b o (Heap.get?_push_of_some _ e) fun p hp => ?_)) (fun p hp => (N2 p hp).1) (fun p hp => ?_) hsi ens1 hadd
    · rcases List.mem_cons.mp hp with rfl | hp
      · exact fun q => by rw [← q] at e; exact absurd (Heap.lt_size e) (Nat.lt_irrefl _)
      · exact hb p hp
    · by_cases hm : p.1 ∈ (W).map (·.1)
      · exact .inl hm
      · refine .inr ?_
        cases e : s.heap.get? p.1 with
        | none => rfl
        | some ob =>
          have := kp' p.1 ob (Heap.get?_push_of_some _ e) fun q hq => by
            rcases List.mem_cons.mp hq with rfl | hq
            · exact fun z => by rw [← z] at e; exact absurd (Heap.lt_size e) (Nat.lt_irrefl _)
            · exact fun z => hm (by rw [← z]; exact List.mem_map_of_mem (f := (·.1)) hq)
          rw [(N2 p hp).2.2] at this; cases this
  · exact fun _ _ => rfl
theorem all : ∀ y, P_ y := @pick_all _ _ P_ (by with_unfolding_all exact core)
end add_ok_
theorem add_ok {w A s g0 loose mean mg mb p R W S x t vs ys} : add_ok_.Q_ w A s g0 loose mean mg mb p R W S x t vs ys := @add_ok_.all (w, A, s, g0, loose, mean, mg, mb, p, R, W, S, x, t, vs, ys)
theorem kz_q_add : True := by
  k_with "q_add" => skip
  trivial
abbrev iterObj (l : Addr) (i : Nat) : Obj := { cls := .type "list_iterator", data := .fields #[.ref l, .int (i : Int) 0] }
abbrev wrapObj (it : Addr) : Obj := { cls := .type "method-wrapper", data := .fields #[.builtin "list_iterator.__next__", .ref it] }
theorem slot_li_ga : Slot "list_iterator" "__getattribute__" "object.__getattribute__" :=
  .of (owner := "object") (n := "__getattribute__") (by rw [typeLookup_type, builtinLookup_eq_fast]; kernel_rfl) (by decide +kernel) (by decide +kernel) (by decide +kernel)
    (by first | exact .inl (by decide +kernel) | exact .inr (by decide +kernel)) (by rw [isSubtype_type]; kernel_rfl)
theorem li_getattr_none : typeLookup (.type "list_iterator") "__getattr__" = pure none := by rw [typeLookup_type, builtinLookup_eq_fast]; kernel_rfl
section
theorem kx_r_cyc : True := by
  k_with "rx" => ((fail_if_success k_extra "r_cyc"); rename Mem _ _ _ _ => D; exact hQ _ _ _ (mem_keep D) (mem_new 0 D rfl rfl))
  trivial
local macro_rules | `(tactic| x_close) => `(tactic| k_extra "rx")
theorem getNext0 {PG : Program} {w : World} {h : Heap} {ge : Array GenState} {dr : Drawn} {tk : Nat} {os : OsState} {it l : Addr} {t : Tok} {Q : Value → Shared → Prop} {E : Value → Shared → Prop}
   (X : (hd.heap_1 w.params).In h) (hi : h.get? it = some {cls := .type "list_iterator", data := .fields #[.ref l, .int 0 0] })
   (hQ : ∀ a h' tk', (∀ b o, h.get? b = some o → h'.get? b = some o) → (h'.get? a = some (wrapObj it) ∧ h.get? a = none) → Q (.ref a) ⟨h', ge, dr, tk', os⟩) :
   wpAny (model PG w) ⟨none, 500, none, none, 5000⟩ (call (.builtin "object.__getattribute__") [.ref it, .str "__next__" t]) Q E ⟨h, ge, dr, tk, os⟩ := by
  x_run
end
theorem extend1 {g h h' : Heap} {L a : Addr} {o : Obj} {m : Str → Option Value} {W : List (Addr × Obj)} (F : Fr g L h m) (N : News g L h W) (k : ∀ b o, h.get? b = some o → h'.get? b = some o) (ha : h'.get? a = some o) (hn : h.get? a = none) :
    Fr g L h' m ∧ News g L h' ((a, o) :: W) ∧ ∀ p ∈ W, p.1 ≠ a := by
  have z := fresh_ne F N hn
  refine ⟨⟨?_, fun b o e => k b o (F.keep b o e), F.above⟩, fun p hp => ?_, z.2.2⟩
  · obtain ⟨oL, es, ep, hL, r⟩ := F.ns
    refine ⟨oL, es, ep, k _ _ hL, r⟩
  · rcases List.mem_cons.mp hp with rfl | hp
    · exact ⟨ha, z.1, z.2.1⟩
    · exact ⟨k _ _ (N p hp).1, (N p hp).2⟩
theorem getNext {w : World} {A : Around} {E : Value → Shared → Prop} {s : Shared} {g : Heap} {L it l : Addr} {m : Str → Option Value} {W : List (Addr × Obj)} {Q : Value → Shared → Prop} (lo : Low A) (F : Fr g L s.heap m) (X : (hd.heap_1 w.params).In g) (N : News g L s.heap W)
    (hi : W.lookup it = some (iterObj l 0))
    (hQ : ∀ a h' tk', Fr g L h' m → News g L h' ((a, wrapObj it) :: W) → (∀ p ∈ W, p.1 ≠ a) → Q (.ref a) { s with heap := h', toks := tk' }) :
    wpAny (model PG w) A (getAttr (.ref it) "__next__" true) Q E s := by
  have ho := nget N hi
  obtain ⟨hp, ge, d, tk, os⟩ := s
  dsimp only at ho F N hQ
  have hT : ∀ tk', (⟨hp, ge, d, tk', os⟩ : Shared).TypeIs (.ref it) "list_iterator" := fun _ => ⟨_, ho, rfl⟩
  have f3 := slot_li_ga.lookup
  have f4 := slot_li_ga.bind (.ref it)
  have f5 := li_getattr_none
  have key : ∀ tk t (Q : Value → Shared → Prop) (E : Value → Shared → Prop), (∀ a h' tk', (∀ b o, hp.get? b = some o → h'.get? b = some o) → (h'.get? a = some (wrapObj it) ∧ hp.get? a = none) → Q (.ref a) ⟨h', ge, d, tk', os⟩) →
      wpAny (model PG w) A (call (.builtin "object.__getattribute__") [.ref it, .str "__next__" t]) Q E ⟨hp, ge, d, tk, os⟩ := fun tk t Q E h => low_any lo (getNext0 (X.keeps F.keep) ho h)
  unfold getAttr getAttrBy
  repeat (any_goals (first | assumption | exact hT _ | ((with_reducible show wpAny _ _ (call (Value.builtin "object.__getattribute__") _ _) _ _ _); refine key _ _ _ _ fun a h' tk' k z => ?_) | wp_step))
  obtain ⟨F', N', na⟩ := extend1 F N k z.1 z.2
  exact hQ _ _ _ F' N' na
theorem ifso {α : Type} {M : Model} {A : Around} {E : Value → Shared → Prop} {s : Shared} {c : Bool} {a b : Sem α} {Q : α → Shared → Prop} (hc : c = true) (h : wpAny M A a Q E s) : wpAny M A (if c = true then a else b) Q E s := by
  rw [if_pos hc]; exact h
theorem li_check {it : Addr} : checkBoundCall "list_iterator.__next__" ⟨[.ref it], []⟩ = pure () := by first | kernel_rfl | rfl
theorem li_quiet {as : Args} : (Code.builtin "list_iterator.__next__" as).quiet = true := Code.quiet_builtin _ (by decide +kernel)
section
variable {w : World} {A : Around} {E : Value → Shared → Prop} {s : Shared} {wr it l : Addr}
theorem callWr {Q : Value → Shared → Prop} (hwr : s.heap.get? wr = some (wrapObj it))
    (h : ∀ A' : Around, A'.handled = A.handled → wpAny (model PG w) A' (Builtin.«list_iterator.__next__» ⟨[.ref it], []⟩) (fun fin s' => ∃ v, fin = .done (.ret v) ∧ Q v s') E s) :
    wpAny (model PG w) A (call (.ref wr) []) Q E s := by
  refine wpAny_call (codeAny_of_tree ?_)
  show wpAny _ _ (callAny (.ref wr) ⟨[], []⟩) _ _ s
  simp only [callAny]
  refine wpAny_bind (wpAny_load hwr ?_)
  simp only [wrapObj, show (Value.type "method-wrapper" == Value.type "method" || Value.type "method-wrapper" == Value.type "builtin_function_or_method" || Value.type "method-wrapper" == Value.type "method-wrapper") = true by decide, if_true]
  refine ifso (by decide) ?_
  refine wpAny_bind (wpAny_of_eq (a := ()) li_check ?_)
  refine wpAny_bind (wpAny_pure (wpAny_pure ?_))
  refine ⟨li_quiet, codeAny_builtin entry_listiter_next (wpAny_mono (h _ rfl) (fun fin s' hf => ?_) fun _ _ x => x)⟩
  obtain ⟨v, rfl, hq⟩ := hf
  exact hq
variable {g : Heap} {L : Addr} {m : Str → Option Value} {W : List (Addr × Obj)}
theorem li_dead {i : Nat} {it : Addr} {h : Heap} (ho : h.get? it = some (iterObj l i)) : (h.update it (Obj.mapFields (·.setIfInBounds 0 .none))).get? it = some { cls := .type "list_iterator", data := .fields #[.none, .int (i : Int) 0] } :=
  Heap.get?_update_self _ ho rfl
theorem nextItem {i : Nat} {items : Array Value} {x : Value} {Q : Value → Shared → Prop} (F : Fr g L s.heap m) (N : News g L s.heap W) (nd : (W.map (·.1)).Nodup) (hwr : W.lookup wr = some (wrapObj it)) (hit : W.lookup it = some (iterObj l i))
    (hl : s.heap.IsList l items) (hx : items[i]? = some x)
    (hQ : ∀ h', Fr g L h' m → News g L h' (putW W it (iterObj l (i + 1))) → Q x { s with heap := h' }) : wpAny (model PG w) A (call (.ref wr) []) Q E s := by
  have ho := nget N hit
  obtain ⟨ol, hol, _, nl, hdl⟩ := hl
  refine callWr (nget N hwr) fun A' _ => ?_
  show wpAny _ _ (field (.ref it) 0 >>= _) _ _ s
  refine wpAny_bind (wpAny_field ho rfl (x := .ref l) rfl ?_)
  show wpAny _ _ (if (Value.ref l == Value.none) = true then _ else _) _ _ s
  rw [if_neg (show ¬ ((Value.ref l == Value.none) = true) from Bool.false_ne_true)]
  show wpAny _ _ (field (.ref it) 1 >>= _) _ _ s
  refine wpAny_bind (wpAny_field ho rfl (x := .int i 0) rfl ?_)
  show wpAny _ _ (seqItems? (.ref l) >>= _) _ _ s
  refine wpAny_bind (wpAny_seqItems hol hdl ?_)
  simp only [Int.toNat_natCast, hx]
  have ho' : (s.heap.update it (Obj.mapFields (·.setIfInBounds 1 (rawInt ((i : Int) + 1))))).get? it = some (iterObj l (i + 1)) := Heap.get?_update_self _ ho rfl
  obtain ⟨F', N', _⟩ := Mine.turn F N nd hit (Heap.SameBut.update ..) ho'
  exact wpAny_bind (wpAny_setField ho rfl (by simp) (wpAny_pure ⟨x, rfl, hQ _ F' N'⟩))
theorem nextEnd {i : Nat} {items : Array Value} {Q : Value → Shared → Prop} (hh : A.handled = none) (F : Fr g L s.heap m) (N : News g L s.heap W) (nd : (W.map (·.1)).Nodup) (hwr : W.lookup wr = some (wrapObj it)) (hit : W.lookup it = some (iterObj l i))
    (hl : s.heap.IsList l items) (hx : items[i]? = none)
    (hQ : ∀ h1 h' e o', Fr g L h1 m → News g L h1 (putW W it o') → Heap.NewExc h1 h' e "StopIteration" → E (.ref e) { s with heap := h' }) : wpAny (model PG w) A (call (.ref wr) []) Q E s := by
  have ho := nget N hit
  obtain ⟨ol, hol, _, nl, hdl⟩ := hl
  refine callWr (nget N hwr) fun A' hA' => ?_
  show wpAny _ _ (field (.ref it) 0 >>= _) _ _ s
  refine wpAny_bind (wpAny_field ho rfl (x := .ref l) rfl ?_)
  show wpAny _ _ (if (Value.ref l == Value.none) = true then _ else _) _ _ s
  rw [if_neg (show ¬ ((Value.ref l == Value.none) = true) from Bool.false_ne_true)]
  show wpAny _ _ (field (.ref it) 1 >>= _) _ _ s
  refine wpAny_bind (wpAny_field ho rfl (x := .int i 0) rfl ?_)
  show wpAny _ _ (seqItems? (.ref l) >>= _) _ _ s
  refine wpAny_bind (wpAny_seqItems hol hdl ?_)
  simp only [Int.toNat_natCast, hx]
  obtain ⟨F', N', _⟩ := Mine.turn F N nd hit (Heap.SameBut.update ..) (li_dead ho)
  refine wpAny_bind (wpAny_rule (wpAny_bind (wpAny_setField ho rfl (by simp) ?_)))
  show wpAny _ _ (newExc (.type "StopIteration") [] >>= _) _ _ _
  refine wpAny_bind ?_
  simp only [newExc, newTuple]
  refine wpAny_bind (wpAny_newObj_type ?_ (by size_fits))
  refine wpAny_bind (m := firstArgMember _ _) (wpAny_of_eq (a := Value.none) (by first | rfl | (simp only [firstArgMember]; rfl)) ?_)
  refine wpAny_newObj_type ?_ (by size_fits)
  simp only [raiseNew]
  refine wpAny_bind (wpAny_handled ?_)
  rw [hA', hh]
  refine wpAny_bind (wpAny_pure (wpAny_throw ?_))
  refine hQ _ _ _ _ F' N' ⟨fun b o e => ?_, ?_, ?_⟩
  · exact Heap.get?_push_of_some _ (Heap.get?_push_of_some _ e)
  · exact Heap.get?_none_of_le (by simp)
  · refine ⟨_, _, Heap.get?_push_size _ rfl, rfl, rfl⟩
theorem callWith_wr {pos : Pos} {args : List (Bool × Sem Value)} {Q : Value → Shared → Prop} (hwr : s.heap.get? wr = some (wrapObj it)) (h : wpAny (model PG w) A (call (.ref wr) []) Q E s) (ha : args = [] := by rfl) : wpAny (model PG w) A (callWith pos (.ref wr) [] args []) Q E s := by
  subst ha
  unfold callWith
  refine wpAny_bind (wpAny_holding (wpAny_of_eq (a := ⟨[], []⟩) (by first | rfl | kernel_rfl) (wpAny_bind (wpAny_standAt ?_))))
  refine wpAny_bind (m := keeperOf (.ref wr)) ?_
  unfold keeperOf
  refine wpAny_bind (wpAny_load hwr ?_)
  refine wpAny_pure ?_
  exact wpAny_bind (wpAny_mono h (fun r s₂ hr => wpAny_bind (wpAny_holding (wpAny_point (wpAny_pure hr)))) fun _ _ x => x)
end
theorem kz_r_cyc : True := by
  k_with "r_cyc" => skip
  trivial
/-! an exception is noted: the frames' slots are turned, nothing else that the ledger holds -/
theorem sameUp_names : ∀ {a b : List (Addr × Obj)}, TI.SameUp a b → b.map (·.1) = a.map (·.1)
  | [], [], _ => rfl
  | p :: ps, q :: qs, h => by
    obtain ⟨h1, _, h3⟩ := h
    rw [List.map_cons, List.map_cons, h1, sameUp_names h3]
  | [], _ :: _, h => h.elim
  | _ :: _, [], h => h.elim
structure Up (l : List Env) (frs : List (Addr × Obj)) (W : List (Addr × Obj)) : Prop where
  fr : TI.Frs l frs
  at_ : ∀ p ∈ frs, W.lookup p.1 = some p.2
theorem notedW {w : World} {A₀ : Around} {E : Value → Shared → Prop} {s' : Shared} {g h : Heap} {L a e : Addr} {m : Str → Option Value} {name : Str} {scope : Scope} {cd : Value} {Q : Unit → Shared → Prop} {X : String} {l : List Env} {frs W : List (Addr × Obj)}
    (hfr : A₀.frames = some l) (U : Up l frs W) (fnd : (frs.map (·.1)).Nodup) (nd : (W.map (·.1)).Nodup) (hx : Heap.NewExc h s'.heap e X) (F : Fr g L h m) (N : News g L h W)
    (k : ∀ h' W' frs', TI.SameUp frs frs' → Up l frs' W' → (W'.map (·.1)).Nodup → (∀ b o, (∀ p ∈ frs, p.1 ≠ b) → W.lookup b = some o → W'.lookup b = some o) → (∀ p ∈ W', p.1 ∈ W.map (·.1)) →
      TT.HeldN g L h' m e X W' → Q () { s' with heap := h' }) (hk : scope.kind = .function := by rfl) :
    wpAny (model PG w) (A₀.deeper (envX name scope L a cd [])) (noteFrame (.ref e) (envX name scope L a cd [])) Q E s' := by
  have hin : ∀ p ∈ W.filter (fun p => decide (p.1 ∉ frs.map (·.1))), p ∈ W ∧ p.1 ∉ frs.map (·.1) := fun p hp => ⟨(List.mem_filter.mp hp).1, by simpa using (List.mem_filter.mp hp).2⟩
  refine TLg.noted_newA (new := W.filter (fun p => decide (p.1 ∉ frs.map (·.1)))) hfr U.fr hx F (fun p hp => ?_) (fun p hp hm => ?_) (fun h' frs' SU Fs' H => ?_) hk
  · rcases List.mem_append.mp hp with hp | hp
    · exact N p (hin p hp).1
    · exact N p (look_mem (U.at_ p hp))
  · rcases List.mem_cons.mp hm with q | hm
    · exact (N p (hin p hp).1).2.1 q
    · exact (hin p hp).2 hm
  · have nm := sameUp_names SU
    have ndW' : ((W.filter (fun p => decide (p.1 ∉ frs.map (·.1))) ++ frs').map (·.1)).Nodup := by
      rw [List.map_append, nm, List.nodup_append]
      refine ⟨List.Sublist.nodup (List.Sublist.map _ List.filter_sublist) nd, fnd, fun a ha b hb q => ?_⟩
      obtain ⟨p, hp, rfl⟩ := List.mem_map.mp ha
      exact (hin p hp).2 (by rw [q]; exact hb)
    refine k h' _ frs' SU ⟨Fs', fun p hp => mem_look ndW' (List.mem_append_right _ hp)⟩ ndW' (fun b o hb e => ?_) (fun p hp => ?_) H
    · refine mem_look ndW' (List.mem_append_left _ (List.mem_filter.mpr ⟨look_mem e, ?_⟩))
      refine decide_eq_true fun hm => ?_
      obtain ⟨p, hp, q⟩ := List.mem_map.mp hm
      exact hb p hp q
    · rcases List.mem_append.mp hp with hp | hp
      · exact List.mem_map_of_mem (f := (·.1)) (hin p hp).1
      · obtain ⟨q, hq, e⟩ := SU.fwd p hp
        rw [e]
        exact List.mem_map_of_mem (f := (·.1)) (look_mem (U.at_ q hq))
theorem clauseStop {w : World} {A₀ : Around} {E : Value → Shared → Prop} {s' : Shared} {g : Heap} {L a e : Addr} {m : Str → Option Value} {name : Str} {scope : Scope} {cd fl : Value} {Q : Flow → Shared → Prop} {W : List (Addr × Obj)} {K : Frag} {p : Program} {loose : List Str} {mg mb : Str → Option Value}
    {b₀ : Stmt} {suite : List Stmt} {pos np : Pos} {rest : List ExceptHandler}
    (H : TT.HeldNA g L s'.heap m e "StopIteration" W fl) (hc : KtsName K "StopIteration" (.type "StopIteration")) (X : K.In g) (T : TopRead p loose mg mb g)
    (k : ∀ h', Fr g L h' m → News g L h' W → wpAny (model PG w) ((A₀.deeper (envX name scope L a cd [])).mark (some (.ref e))) (execs (b₀ :: suite) (envX name scope L a cd [])) Q E { s' with heap := h' })
    (hE : PassesOwnAt (model PG w) ((A₀.deeper (envX name scope L a cd [])).mark (some (.ref e))) (A₀.deeper (envX name scope L a cd [])) (envX name scope L a cd []) E)
    (hk : scope.kind = .function := by rfl) (hxk : (envX name scope L a cd []).kindOf "StopIteration" = some .globalImplicit := by rfl) :
    wpAny (model PG w) (A₀.deeper (envX name scope L a cd [])) (handleBy (.ref e) (envX name scope L a cd []) (.ExceptHandler (some (.Name "StopIteration" np)) none (b₀ :: suite) pos :: rest)) Q E s' := by
  refine wpAny_handleBy_builtin (X := "StopIteration") (T := "StopIteration") (b := true) (isSubtype_of_subB (by decide +kernel)) (isSubtype_of_subB (by decide +kernel)) (isSubtype_of_subB (by decide +kernel))
    (wpAny_passesOwnAt hE (kts_name hc H.held.fr X T ⟨rfl, H.isA, ?_⟩ hk hxk (by decide)))
  rw [if_pos rfl]
  exact H.lands fun h' F' N' => wpAny_passesOwnAt hE (k h' F' N')
/-! the keys of a dict walked -/
noncomputable def KeyAt (d : Addr) (n ep : Nat) (i : Nat) (o : Obj) : Prop := o.cls = .type "dict_keyiterator" ∧ o.data = .fields #[.ref d, .int i 0, .int n 0, .int ep 0]
theorem iterKeys {w : World} {A : Around} {d : Addr} {kvs : List (Int × Value)} {ep : Nat} (hd : (d == sysModules) = false) : Iter w A (.ref d) "dict_keyiterator" kvs.length (fun h => h.DictAt (iK w) d kvs ep) (KeyAt d kvs.length ep) (fun i v => ∃ k v' t, kvs[i]? = some (k, v') ∧ v = .int k t) where
  cls := fun i o h => h.1
  free := fun i o h => by obtain ⟨oc, od, dat, os⟩ := o; obtain ⟨_, h2⟩ := h; dsimp only at h2; subst h2; rfl
  nod := fun i o h es ep q => by have := h.2; rw [q] at this; cases this
  start := fun s Q E hl h => wpAny_pyIter_dict hd hl (h _ ⟨rfl, rfl⟩)
  next := fun s Q E i it o ho hi hl hlt h => by
    have hx := List.getElem?_eq_getElem hlt
    refine wpAny_pyNext_dict_item (knd := iK w) (k := (kvs[i]).1) (v := (kvs[i]).2) ⟨o, ho, hi.1, hi.2⟩ hl hx fun key h' hk hit' hs' => ?_
    obtain ⟨o', ho', hc', hd'⟩ := hit'
    obtain ⟨t, rfl⟩ := Value.isInt_shape hk
    exact h h' _ s.toks o' ho' ⟨hc', hd'⟩ hs' ⟨_, _, t, hx, rfl⟩
  fin := fun hh s Q E it o ho hi hl h => wpAny_pyNext_dict_end (knd := iK w) hh ⟨o, ho, hi.1, hi.2⟩ hl (List.getElem?_eq_none (Nat.le_refl _)) fun h' hs' => h h' s.toks hs'
/-! a sorter that stands in the base -/
structure Vis (w : World) (g : Heap) (V : List (Addr × Obj)) (S : SS) : Prop where
  X : (hd.heap_1 w.params).In (hideAll g (V.map (·.1)))
  hV : ∀ p ∈ V, g.get? p.1 = some p.2
  S : Srt w V S
section
variable {w : World} {A : Around} {E : Value → Shared → Prop} {s : Shared} {g : Heap} {L a : Addr} {m : Str → Option Value} {V : List (Addr × Obj)} {S : SS} {x : Nat}
theorem Vis.of {g0 : Heap} (X : (hd.heap_1 w.params).In g0) (st : g0.StaysIn g) (hV : ∀ p ∈ V, g.get? p.1 = some p.2) (hg : ∀ p ∈ V, g0.get? p.1 = none) (hS : Srt w V S) : Vis w g V S :=
  ⟨X.keeps (fun b o e => hideAll_get _ (st b o e) fun q => by
    obtain ⟨p, hp, rfl⟩ := List.mem_map.mp q
    have := hg p hp
    rw [e] at this; exact nomatch this), hV, hS⟩
theorem Vis.fr {h : Heap} (Z : Vis w g V S) (F : Fr g L h m) : Fr (hideAll g (V.map (·.1))) L h m := ⟨F.ns, fun b o e => F.keep b o (of_hideAll _ e), by rw [hideAll_size]; exact F.above⟩
theorem Vis.news {h : Heap} (Z : Vis w g V S) (F : Fr g L h m) : News (hideAll g (V.map (·.1))) L h V := fun p hp => ⟨F.keep _ _ (Z.hV p hp), Nat.ne_of_lt (Nat.lt_of_lt_of_le (Heap.lt_size (Z.hV p hp)) F.above), hideAll_none _ (List.mem_map_of_mem hp)⟩
theorem visN2 {expr : Bool} {Q : Value → Shared → Prop} (Z : Vis w g V S) (F : Fr g L s.heap m) (ha : S.s = a) (h : Q (.ref S.n2) { s with toks := s.toks + 1 }) : wpAny (model PG w) A (getAttr (.ref a) "_node2info" expr) Q E s := getN2 (Z.fr F) Z.X (Z.news F) Z.S ha h
theorem visSu {expr : Bool} {Q : Value → Shared → Prop} (Z : Vis w g V S) (F : Fr g L s.heap m) (hx : x ∈ S.nodes) (ha : S.ia x = a) (h : Q (.ref (S.la x)) { s with toks := s.toks + 1 }) : wpAny (model PG w) A (getAttr (.ref a) "successors" expr) Q E s := getSu (Z.fr F) Z.X (Z.news F) Z.S hx ha h
theorem visItem {value slice : PySem.Expr} {Q : Value → Shared → Prop} {t : Tok} (Z : Vis w g V S) (F : Fr g L s.heap m) (ha : S.n2 = a) (hx : x ∈ S.nodes) (h : Q (.ref (S.ia x)) { s with toks := s.toks + 1 })
    (hs : subscripted slice false (.ref a) (.int (x : Int) t) = operate [.ref a, .int (x : Int) t] (getItem (.ref a) (.int (x : Int) t)) := by with_unfolding_all rfl) (hg : ∀ r, letTemporaryGo value (.ref a) r = pure () := by intro _; with_unfolding_all rfl) :
    wpAny (model PG w) A (subscriptTail value slice (.ref a) (.int (x : Int) t)) Q E s := n2Item (Z.news F) Z.S ha hx h hs hg
theorem Vis.suc {h : Heap} (Z : Vis w g V S) (F : Fr g L h m) (hx : x ∈ S.nodes) : ∃ vs, h.IsList (S.la x) vs.toArray ∧ IV vs (S.succ x) := by
  obtain ⟨vs, n, hl, hv⟩ := Z.S.suc x hx
  exact ⟨vs, isList_of (nget (Z.news F) hl), hv⟩
end
structure Cy (w : World) (W : List (Addr × Obj)) (S : SS) (a1 a2 a3 a4 : Addr) (l : List Env) (frs0 : List (Addr × Obj)) (EX : List (Addr × Obj)) (xs : List Nat) (ws : List Addr) (T : List (Nat × Addr × Addr × Nat)) (ks seen : List Nat) : Prop where
  nd : (W.map (·.1)).Nodup
  h1 : ∃ vs n, W.lookup a1 = some (listOf vs.toArray n) ∧ IV vs xs
  h2 : ∃ n, W.lookup a2 = some (listOf (ws.map Value.ref).toArray n)
  h3 : ∃ o, W.lookup a3 = some o ∧ o.cls = .type "set" ∧ (∀ es ep, o.data ≠ .dict es ep) ∧ o.SetObjOf (iK w) (fun k => seen.any fun y : Nat => decide ((y : Int) = k)) seen.length
  h4 : ∃ o kvs, W.lookup a4 = some o ∧ o.cls = .type "dict" ∧ o.IsDictOf (iK w) kvs ∧ kvs.map (·.1) = ks.map (fun k : Nat => (k : Int))
  wr : ∀ t ∈ T, W.lookup t.2.1 = some (wrapObj t.2.2.1)
  it : ∀ t ∈ T, W.lookup t.2.2.1 = some (iterObj (S.la t.1) t.2.2.2)
  itn : (T.map (·.2.2.1)).Nodup
  ne : a1 ≠ a2
  fr : ∃ frs, TI.SameUp frs0 frs ∧ Up l frs W
  fne : ∀ p ∈ frs0, p.1 ≠ a4
  a4n : (a4 == sysModules) = false
  ex : ∀ p ∈ EX, W.lookup p.1 = some p.2
  exc : ∀ p ∈ EX, p.2.cls = .type "dict_keyiterator"
  exd : ∀ p ∈ EX, ∀ es ep, p.2.data ≠ .dict es ep
theorem lk_neD {W : List (Addr × Obj)} {a b : Addr} {o o' : Obj} (ha : W.lookup a = some o) (hb : W.lookup b = some o') (hc : o.data ≠ o'.data) : a ≠ b := fun e => by
  subst e; rw [ha] at hb; cases hb; exact hc rfl
theorem up_keep {l : List Env} {frs W W' : List (Addr × Obj)} (U : Up l frs W) (h : ∀ p ∈ frs, W'.lookup p.1 = W.lookup p.1) : Up l frs W' := ⟨U.fr, fun p hp => (h p hp).trans (U.at_ p hp)⟩
theorem up_ne {l : List Env} {frs W : List (Addr × Obj)} {a : Addr} {o : Obj} (U : Up l frs W) (h : W.lookup a = some o) (hd : ∀ es ep, o.data ≠ .dict es ep) : ∀ p ∈ frs, p.1 ≠ a := fun p hp => by
  obtain ⟨es, ep, e⟩ := U.fr.dict p hp
  exact lk_neD (U.at_ p hp) h (by rw [e]; exact (hd es ep).symm)
section
variable {w : World} {W : List (Addr × Obj)} {S : SS} {a1 a2 a3 a4 : Addr} {l : List Env} {frs0 EX : List (Addr × Obj)} {xs : List Nat} {ws : List Addr} {T : List (Nat × Addr × Addr × Nat)} {ks seen : List Nat}
theorem Cy.put1 (C : Cy w W S a1 a2 a3 a4 l frs0 EX xs ws T ks seen) {vs : List Value} {n : Nat} {xs' : List Nat} (hv : IV vs xs') : Cy w (putW W a1 (listOf vs.toArray n)) S a1 a2 a3 a4 l frs0 EX xs' ws T ks seen := by
  obtain ⟨vs0, n0, e1, _⟩ := C.h1
  have hs : (W.lookup a1).isSome = true := by rw [e1]; rfl
  have L : ∀ b, b ≠ a1 → (putW W a1 (listOf vs.toArray n)).lookup b = W.lookup b := fun b hb => by rw [look_put hs, if_neg hb]
  obtain ⟨n2, e2⟩ := C.h2
  obtain ⟨o3, e3, c3, q3, d3⟩ := C.h3
  obtain ⟨o4, kvs, e4, c4, d4, k4⟩ := C.h4
  obtain ⟨frs, SU, U⟩ := C.fr
  refine ⟨by rw [putW_names]; exact C.nd, ⟨vs, n, by rw [look_put hs, if_pos rfl], hv⟩, ⟨n2, by rw [L _ C.ne.symm]; exact e2⟩, ⟨o3, by rw [L _ (lk_ne e3 e1 (by rw [c3]; simp))]; exact e3, c3, q3, d3⟩, ⟨o4, kvs, by rw [L _ (lk_ne e4 e1 (by rw [c4]; simp))]; exact e4, c4, d4, k4⟩, fun t ht => ?_, fun t ht => ?_, C.itn, C.ne, ⟨frs, SU, up_keep U fun p hp => L _ (up_ne U e1 (by simp) p hp)⟩, C.fne, C.a4n, fun p hp => (L _ (lk_ne (C.ex p hp) e1 (by rw [C.exc p hp]; simp))).trans (C.ex p hp), C.exc, C.exd⟩
  · rw [L _ (lk_ne (C.wr t ht) e1 (by simp))]; exact C.wr t ht
  · rw [L _ (lk_ne (C.it t ht) e1 (by simp))]; exact C.it t ht
theorem Cy.put2 (C : Cy w W S a1 a2 a3 a4 l frs0 EX xs ws T ks seen) {ws' : List Addr} {n : Nat} : Cy w (putW W a2 (listOf (ws'.map Value.ref).toArray n)) S a1 a2 a3 a4 l frs0 EX xs ws' T ks seen := by
  obtain ⟨n2, e2⟩ := C.h2
  have hs : (W.lookup a2).isSome = true := by rw [e2]; rfl
  have L : ∀ b, b ≠ a2 → (putW W a2 (listOf (ws'.map Value.ref).toArray n)).lookup b = W.lookup b := fun b hb => by rw [look_put hs, if_neg hb]
  obtain ⟨vs0, n0, e1, i1⟩ := C.h1
  obtain ⟨o3, e3, c3, q3, d3⟩ := C.h3
  obtain ⟨o4, kvs, e4, c4, d4, k4⟩ := C.h4
  obtain ⟨frs, SU, U⟩ := C.fr
  refine ⟨by rw [putW_names]; exact C.nd, ⟨vs0, n0, by rw [L _ C.ne]; exact e1, i1⟩, ⟨n, by rw [look_put hs, if_pos rfl]⟩, ⟨o3, by rw [L _ (lk_ne e3 e2 (by rw [c3]; simp))]; exact e3, c3, q3, d3⟩, ⟨o4, kvs, by rw [L _ (lk_ne e4 e2 (by rw [c4]; simp))]; exact e4, c4, d4, k4⟩, fun t ht => ?_, fun t ht => ?_, C.itn, C.ne, ⟨frs, SU, up_keep U fun p hp => L _ (up_ne U e2 (by simp) p hp)⟩, C.fne, C.a4n, fun p hp => (L _ (lk_ne (C.ex p hp) e2 (by rw [C.exc p hp]; simp))).trans (C.ex p hp), C.exc, C.exd⟩
  · rw [L _ (lk_ne (C.wr t ht) e2 (by simp))]; exact C.wr t ht
  · rw [L _ (lk_ne (C.it t ht) e2 (by simp))]; exact C.it t ht
theorem Cy.put3 (C : Cy w W S a1 a2 a3 a4 l frs0 EX xs ws T ks seen) {o : Obj} {seen' : List Nat} (hc : o.cls = .type "set") (hq : ∀ es ep, o.data ≠ .dict es ep) (ho : o.SetObjOf (iK w) (fun k => seen'.any fun y : Nat => decide ((y : Int) = k)) seen'.length) : Cy w (putW W a3 o) S a1 a2 a3 a4 l frs0 EX xs ws T ks seen' := by
  obtain ⟨o3, e3, c3, q3, d3⟩ := C.h3
  have hs : (W.lookup a3).isSome = true := by rw [e3]; rfl
  have L : ∀ b, b ≠ a3 → (putW W a3 o).lookup b = W.lookup b := fun b hb => by rw [look_put hs, if_neg hb]
  obtain ⟨vs0, n0, e1, i1⟩ := C.h1
  obtain ⟨n2, e2⟩ := C.h2
  obtain ⟨o4, kvs, e4, c4, d4, k4⟩ := C.h4
  obtain ⟨frs, SU, U⟩ := C.fr
  refine ⟨by rw [putW_names]; exact C.nd, ⟨vs0, n0, by rw [L _ (lk_ne e1 e3 (by rw [c3]; simp))]; exact e1, i1⟩, ⟨n2, by rw [L _ (lk_ne e2 e3 (by rw [c3]; simp))]; exact e2⟩, ⟨o, by rw [look_put hs, if_pos rfl], hc, hq, ho⟩, ⟨o4, kvs, by rw [L _ (lk_ne e4 e3 (by rw [c4, c3]; simp))]; exact e4, c4, d4, k4⟩, fun t ht => ?_, fun t ht => ?_, C.itn, C.ne, ⟨frs, SU, up_keep U fun p hp => L _ (up_ne U e3 q3 p hp)⟩, C.fne, C.a4n, fun p hp => (L _ (lk_ne (C.ex p hp) e3 (by rw [C.exc p hp, c3]; simp))).trans (C.ex p hp), C.exc, C.exd⟩
  · rw [L _ (lk_ne (C.wr t ht) e3 (by rw [c3]; simp))]; exact C.wr t ht
  · rw [L _ (lk_ne (C.it t ht) e3 (by rw [c3]; simp))]; exact C.it t ht
theorem Cy.put4 (C : Cy w W S a1 a2 a3 a4 l frs0 EX xs ws T ks seen) {o : Obj} {ks' : List Nat} {kvs' : List (Int × Value)} (hc : o.cls = .type "dict") (hd : o.IsDictOf (iK w) kvs') (hk : kvs'.map (·.1) = ks'.map (fun k : Nat => (k : Int))) : Cy w (putW W a4 o) S a1 a2 a3 a4 l frs0 EX xs ws T ks' seen := by
  obtain ⟨o4, kvs, e4, c4, d4, k4⟩ := C.h4
  have hs : (W.lookup a4).isSome = true := by rw [e4]; rfl
  have L : ∀ b, b ≠ a4 → (putW W a4 o).lookup b = W.lookup b := fun b hb => by rw [look_put hs, if_neg hb]
  obtain ⟨vs0, n0, e1, i1⟩ := C.h1
  obtain ⟨n2, e2⟩ := C.h2
  obtain ⟨o3, e3, c3, q3, d3⟩ := C.h3
  obtain ⟨frs, SU, U⟩ := C.fr
  refine ⟨by rw [putW_names]; exact C.nd, ⟨vs0, n0, by rw [L _ (lk_ne e1 e4 (by rw [c4]; simp))]; exact e1, i1⟩, ⟨n2, by rw [L _ (lk_ne e2 e4 (by rw [c4]; simp))]; exact e2⟩, ⟨o3, by rw [L _ (lk_ne e3 e4 (by rw [c4, c3]; simp))]; exact e3, c3, q3, d3⟩, ⟨o, kvs', by rw [look_put hs, if_pos rfl], hc, hd, hk⟩, fun t ht => ?_, fun t ht => ?_, C.itn, C.ne, ⟨frs, SU, up_keep U fun p hp => L _ ?_⟩, C.fne, C.a4n, fun p hp => (L _ (lk_ne (C.ex p hp) e4 (by rw [C.exc p hp, c4]; simp))).trans (C.ex p hp), C.exc, C.exd⟩
  · rw [L _ (lk_ne (C.wr t ht) e4 (by rw [c4]; simp))]; exact C.wr t ht
  · rw [L _ (lk_ne (C.it t ht) e4 (by rw [c4]; simp))]; exact C.it t ht
  · obtain ⟨q, hq, e⟩ := SU.fwd p hp
    rw [e]; exact C.fne q hq
theorem Cy.putI {x i : Nat} {wr it : Addr} {o : Obj} (C : Cy w W S a1 a2 a3 a4 l frs0 EX xs ws (T ++ [(x, wr, it, i)]) ks seen) : Cy w (putW W it o) S a1 a2 a3 a4 l frs0 EX xs ws T ks seen := by
  have e0 := C.it (x, wr, it, i) (List.mem_append_right _ (.head _))
  dsimp only at e0
  have hs : (W.lookup it).isSome = true := by rw [e0]; rfl
  have L : ∀ b, b ≠ it → (putW W it o).lookup b = W.lookup b := fun b hb => by rw [look_put hs, if_neg hb]
  obtain ⟨vs0, n0, e1, i1⟩ := C.h1
  obtain ⟨n2, e2⟩ := C.h2
  obtain ⟨o3, e3, c3, q3, d3⟩ := C.h3
  obtain ⟨o4, kvs, e4, c4, d4, k4⟩ := C.h4
  obtain ⟨frs, SU, U⟩ := C.fr
  have hn := C.itn
  rw [List.map_append, List.nodup_append] at hn
  refine ⟨by rw [putW_names]; exact C.nd, ⟨vs0, n0, by rw [L _ (lk_ne e1 e0 (by simp))]; exact e1, i1⟩, ⟨n2, by rw [L _ (lk_ne e2 e0 (by simp))]; exact e2⟩, ⟨o3, by rw [L _ (lk_ne e3 e0 (by rw [c3]; simp))]; exact e3, c3, q3, d3⟩, ⟨o4, kvs, by rw [L _ (lk_ne e4 e0 (by rw [c4]; simp))]; exact e4, c4, d4, k4⟩, fun t ht => ?_, fun t ht => ?_, hn.1, C.ne, ⟨frs, SU, up_keep U fun p hp => L _ (up_ne U e0 (by simp) p hp)⟩, C.fne, C.a4n, fun p hp => (L _ (lk_ne (C.ex p hp) e0 (by rw [C.exc p hp]; simp))).trans (C.ex p hp), C.exc, C.exd⟩
  · have z := C.wr t (List.mem_append_left _ ht)
    rw [L _ (lk_ne z e0 (by simp))]; exact z
  · have z := C.it t (List.mem_append_left _ ht)
    rw [L _ fun q => hn.2.2 _ (List.mem_map_of_mem (f := (·.2.2.1)) ht) it (.head _) q]; exact z
theorem Cy.stepI {x i : Nat} {wr it : Addr} (C : Cy w W S a1 a2 a3 a4 l frs0 EX xs ws (T ++ [(x, wr, it, i)]) ks seen) : Cy w (putW W it (iterObj (S.la x) (i + 1))) S a1 a2 a3 a4 l frs0 EX xs ws (T ++ [(x, wr, it, i + 1)]) ks seen := by
  have e0 := C.it (x, wr, it, i) (List.mem_append_right _ (.head _))
  have ew := C.wr (x, wr, it, i) (List.mem_append_right _ (.head _))
  dsimp only at e0 ew
  have hs : (W.lookup it).isSome = true := by rw [e0]; rfl
  have D := C.putI (o := iterObj (S.la x) (i + 1))
  refine ⟨D.nd, D.h1, D.h2, D.h3, D.h4, fun t ht => ?_, fun t ht => ?_, ?_, D.ne, D.fr, D.fne, D.a4n, D.ex, D.exc, D.exd⟩
  · rcases List.mem_append.mp ht with ht | ht
    · exact D.wr t ht
    · rw [List.mem_singleton] at ht; subst ht
      show List.lookup wr _ = _
      rw [look_put hs, if_neg (lk_ne ew e0 (by simp))]; exact ew
  · rcases List.mem_append.mp ht with ht | ht
    · exact D.it t ht
    · rw [List.mem_singleton] at ht; subst ht
      show List.lookup it _ = _
      rw [look_put hs, if_pos rfl]
  · have := C.itn
    rw [List.map_append] at this ⊢; exact this
theorem Cy.cons (C : Cy w W S a1 a2 a3 a4 l frs0 EX xs ws T ks seen) {a : Addr} {o : Obj} (hn : ∀ p ∈ W, p.1 ≠ a) : Cy w ((a, o) :: W) S a1 a2 a3 a4 l frs0 EX xs ws T ks seen := by
  have L : ∀ b ob, W.lookup b = some ob → ((a, o) :: W).lookup b = some ob := fun b ob hb => by
    rw [look_cons, if_neg (fun e => hn _ (look_mem hb) e)]; exact hb
  obtain ⟨vs0, n0, e1, i1⟩ := C.h1
  obtain ⟨n2, e2⟩ := C.h2
  obtain ⟨o3, e3, r3⟩ := C.h3
  obtain ⟨o4, kvs, e4, r4⟩ := C.h4
  obtain ⟨frs, SU, U⟩ := C.fr
  refine ⟨?_, ⟨vs0, n0, L _ _ e1, i1⟩, ⟨n2, L _ _ e2⟩, ⟨o3, L _ _ e3, r3⟩, ⟨o4, kvs, L _ _ e4, r4⟩, fun t ht => L _ _ (C.wr t ht), fun t ht => L _ _ (C.it t ht), C.itn, C.ne, ⟨frs, SU, U.fr, fun p hp => L _ _ (U.at_ p hp)⟩, C.fne, C.a4n, fun p hp => L _ _ (C.ex p hp), C.exc, C.exd⟩
  rw [List.map_cons, List.nodup_cons]
  exact ⟨fun hm => by obtain ⟨p, hp, e⟩ := List.mem_map.mp hm; exact hn p hp e, C.nd⟩
theorem Cy.noted (C : Cy w W S a1 a2 a3 a4 l frs0 EX xs ws T ks seen) {frs frs' W' : List (Addr × Obj)} (SU0 : TI.SameUp frs0 frs) (U : Up l frs W) (SU : TI.SameUp frs frs') (U' : Up l frs' W') (nd' : (W'.map (·.1)).Nodup) (K : ∀ b o, (∀ p ∈ frs, p.1 ≠ b) → W.lookup b = some o → W'.lookup b = some o) : Cy w W' S a1 a2 a3 a4 l frs0 EX xs ws T ks seen := by
  obtain ⟨vs0, n0, e1, i1⟩ := C.h1
  obtain ⟨n2, e2⟩ := C.h2
  obtain ⟨o3, e3, c3, q3, d3⟩ := C.h3
  obtain ⟨o4, kvs, e4, r4⟩ := C.h4
  refine ⟨nd', ⟨vs0, n0, K _ _ (up_ne U e1 (by simp)) e1, i1⟩, ⟨n2, K _ _ (up_ne U e2 (by simp)) e2⟩, ⟨o3, K _ _ (up_ne U e3 q3) e3, c3, q3, d3⟩, ⟨o4, kvs, K _ _ (fun p hp => ?_) e4, r4⟩, fun t ht => K _ _ (up_ne U (C.wr t ht) (by simp)) (C.wr t ht), fun t ht => K _ _ (up_ne U (C.it t ht) (by simp)) (C.it t ht), C.itn, C.ne, ⟨frs', SU0.trans SU, U'⟩, C.fne, C.a4n, fun p hp => K _ _ (up_ne U (C.ex p hp) (C.exd p hp)) (C.ex p hp), C.exc, C.exd⟩
  obtain ⟨q, hq, e⟩ := SU0.fwd p hp
  rw [e]; exact C.fne q hq
theorem Cy.sim (C : Cy w W S a1 a2 a3 a4 l frs0 [] xs ws T ks seen) {W' : List (Addr × Obj)} {TT : String} (nd' : (W'.map (·.1)).Nodup) (hT : TT ≠ "set" ∧ TT ≠ "list" ∧ TT ≠ "dict" ∧ TT ≠ "method-wrapper" ∧ TT ≠ "list_iterator") (K : Sim TT W W') : Cy w W' S a1 a2 a3 a4 l frs0 [] xs ws T ks seen := by
  obtain ⟨vs0, n0, e1, i1⟩ := C.h1
  obtain ⟨n2, e2⟩ := C.h2
  obtain ⟨o3, e3, c3, q3, d3⟩ := C.h3
  obtain ⟨o4, kvs, e4, c4, r4⟩ := C.h4
  obtain ⟨frs, SU, U⟩ := C.fr
  obtain ⟨z1, z2, z3, z4, z5⟩ := hT
  have nT : ∀ (X : String) (o : Obj), o.cls = .type X → TT ≠ X → o.cls ≠ .type TT := fun X o h1 h2 q => by rw [h1] at q; cases q; exact h2 rfl
  refine ⟨nd', ⟨vs0, n0, K _ _ (.inl <| nT _ _ rfl z2) e1, i1⟩, ⟨n2, K _ _ (.inl <| nT _ _ rfl z2) e2⟩, ⟨o3, K _ _ (.inl <| nT _ _ c3 z1) e3, c3, q3, d3⟩, ⟨o4, kvs, K _ _ (.inl <| nT _ _ c4 z3) e4, c4, r4⟩, fun t ht => K _ _ (.inl <| nT _ _ rfl z4) (C.wr t ht), fun t ht => K _ _ (.inl <| nT _ _ rfl z5) (C.it t ht), C.itn, C.ne, ⟨frs, SU, U.fr, fun p hp => K _ _ (.inr (U.fr.dict p hp)) (U.at_ p hp)⟩, C.fne, C.a4n, (fun _ h => nomatch h), (fun _ h => nomatch h), (fun _ h => nomatch h)⟩
theorem Cy.addEx (C : Cy w W S a1 a2 a3 a4 l frs0 [] xs ws T ks seen) {a : Addr} {o : Obj} (h : W.lookup a = some o) (hc : o.cls = .type "dict_keyiterator") (hd : ∀ es ep, o.data ≠ .dict es ep) : Cy w W S a1 a2 a3 a4 l frs0 [(a, o)] xs ws T ks seen :=
  ⟨C.nd, C.h1, C.h2, C.h3, C.h4, C.wr, C.it, C.itn, C.ne, C.fr, C.fne, C.a4n, fun p hp => by rw [List.mem_singleton] at hp; subst hp; exact h, fun p hp => by rw [List.mem_singleton] at hp; subst hp; exact hc, fun p hp => by rw [List.mem_singleton] at hp; subst hp; exact hd⟩
theorem Cy.noEx (C : Cy w W S a1 a2 a3 a4 l frs0 EX xs ws T ks seen) : Cy w W S a1 a2 a3 a4 l frs0 [] xs ws T ks seen :=
  ⟨C.nd, C.h1, C.h2, C.h3, C.h4, C.wr, C.it, C.itn, C.ne, C.fr, C.fne, C.a4n, (fun _ h => nomatch h), (fun _ h => nomatch h), (fun _ h => nomatch h)⟩
theorem Cy.pushT (C : Cy w W S a1 a2 a3 a4 l frs0 EX xs ws T ks seen) {x : Nat} {wr it : Addr} (h1 : W.lookup wr = some (wrapObj it)) (h2 : W.lookup it = some (iterObj (S.la x) 0)) (h3 : ∀ t ∈ T, t.2.2.1 ≠ it) : Cy w W S a1 a2 a3 a4 l frs0 EX xs ws (T ++ [(x, wr, it, 0)]) ks seen := by
  refine ⟨C.nd, C.h1, C.h2, C.h3, C.h4, fun t ht => ?_, fun t ht => ?_, ?_, C.ne, C.fr, C.fne, C.a4n, C.ex, C.exc, C.exd⟩
  · rcases List.mem_append.mp ht with ht | ht
    · exact C.wr t ht
    · rw [List.mem_singleton] at ht; subst ht; exact h1
  · rcases List.mem_append.mp ht with ht | ht
    · exact C.it t ht
    · rw [List.mem_singleton] at ht; subst ht; exact h2
  · rw [List.map_append, List.nodup_append]
    refine ⟨C.itn, by simp, fun a ha b hb q => ?_⟩
    obtain ⟨t, ht, rfl⟩ := List.mem_map.mp ha
    simp at hb
    exact h3 t ht (q.trans hb)
end
theorem kl_u_cy : True := by
  k_with "lia" => ((fail_if_success k_extra "u_cy"); lia)
  trivial
section
variable {w : World} {A : Around} {E : Value → Shared → Prop} {s : Shared} {g : Heap} {L : Addr} {m : Str → Option Value} {W : List (Addr × Obj)} {S : SS} {a1 a2 a3 a4 : Addr} {l : List Env} {frs0 EX : List (Addr × Obj)} {xs : List Nat} {ws : List Addr} {T : List (Nat × Addr × Addr × Nat)} {ks seen : List Nat} {x : Nat} {wr : Addr} {t : Tok}
theorem cyTruth {Q : Bool → Shared → Prop} (N : News g L s.heap W) (C : Cy w W S a1 a2 a3 a4 l frs0 EX xs ws T ks seen) (hz : xs.length ≤ 900) (h : Q (!xs.isEmpty) { s with toks := s.toks + 1 + 1 }) : wpAny (model PG w) A (truthy (.ref a1)) Q E s := by
  obtain ⟨vs, n, e1, i1⟩ := C.h1
  refine truthL N (look_mem e1) (by rw [i1.length]; omega) ?_
  rw [i1.empty]; exact h
theorem cyLen {Q : Value → Shared → Prop} (N : News g L s.heap W) (C : Cy w W S a1 a2 a3 a4 l frs0 EX xs ws T ks seen) (hz : xs.length ≤ 900) (h : ∀ t, Q (.int (xs.length : Int) t) { s with toks := s.toks + 1 + 1 }) : wpAny (model PG w) A (call (.builtin "len") [.ref a1]) Q E s := by
  obtain ⟨vs, n, e1, i1⟩ := C.h1
  refine lenL N (look_mem e1) (by rw [i1.length]; omega) ?_
  rw [i1.length]; exact h _
theorem cyApp1 {Q : Value → Shared → Prop} (F : Fr g L s.heap m) (N : News g L s.heap W) (C : Cy w W S a1 a2 a3 a4 l frs0 EX xs ws T ks seen) (hz : xs.length ≤ 900)
    (h : ∀ h' W', Fr g L h' m → News g L h' W' → Cy w W' S a1 a2 a3 a4 l frs0 EX (xs ++ [x]) ws T ks seen → Q .none { s with heap := h' }) : wpAny (model PG w) A (call (.builtin "list.append") [.ref a1, .int (x : Int) t]) Q E s := by
  obtain ⟨vs, n, e1, i1⟩ := C.h1
  exact appL F N (by rw [i1.length]; omega) (upd_put C.nd e1) fun h' F' N' => h h' _ F' N' (C.put1 (i1.append (.cons .nil)))
theorem cyApp2 {Q : Value → Shared → Prop} (F : Fr g L s.heap m) (N : News g L s.heap W) (C : Cy w W S a1 a2 a3 a4 l frs0 EX xs ws T ks seen) (hz : ws.length ≤ 900)
    (h : ∀ h' W', Fr g L h' m → News g L h' W' → Cy w W' S a1 a2 a3 a4 l frs0 EX xs (ws ++ [wr]) T ks seen → Q .none { s with heap := h' }) : wpAny (model PG w) A (call (.builtin "list.append") [.ref a2, .ref wr]) Q E s := by
  obtain ⟨n, e2⟩ := C.h2
  refine appL F N (by rw [List.length_map]; omega) (upd_put C.nd e2) fun h' F' N' => h h' (putW W a2 (listOf ((ws ++ [wr]).map Value.ref).toArray (n + 1))) F' ?_ C.put2
  rw [List.map_append]; exact N'
theorem IV.snoc_inv {vs : List Value} {xs : List Nat} {x : Nat} (h : IV vs (xs ++ [x])) : ∃ vs0 t, vs = vs0 ++ [.int (x : Int) t] ∧ IV vs0 xs := by
  induction xs generalizing vs with
  | nil =>
    cases h with
    | cons h => cases h; exact ⟨[], _, rfl, .nil⟩
  | cons y ys ih =>
    cases h with
    | cons h =>
      obtain ⟨vs0, t, rfl, i⟩ := ih h
      exact ⟨_ :: vs0, t, rfl, .cons i⟩
theorem cyPop1 {Q : Value → Shared → Prop} (F : Fr g L s.heap m) (N : News g L s.heap W) (C : Cy w W S a1 a2 a3 a4 l frs0 EX (xs ++ [x]) ws T ks seen) (hz : xs.length ≤ 900)
    (h : ∀ h' W' t, Fr g L h' m → News g L h' W' → Cy w W' S a1 a2 a3 a4 l frs0 EX xs ws T ks seen → Q (.int (x : Int) t) { s with heap := h' }) : wpAny (model PG w) A (call (.builtin "list.pop") [.ref a1]) Q E s := by
  obtain ⟨vs, n, e1, i1⟩ := C.h1
  obtain ⟨vs0, t, rfl, i0⟩ := i1.snoc_inv
  have hl := i0.length
  refine popL F N (by simp) (by simp; omega) (upd_put C.nd e1) fun h' F' N' => ?_
  have z := h h' (putW W a1 (listOf vs0.toArray (n + 1))) t F' (by rw [List.dropLast_concat] at N'; exact N') (C.put1 i0)
  rw [List.getLast_concat]; exact z
theorem cyPop2 {Q : Value → Shared → Prop} (F : Fr g L s.heap m) (N : News g L s.heap W) (C : Cy w W S a1 a2 a3 a4 l frs0 EX xs (ws ++ [wr]) T ks seen) (hz : ws.length ≤ 900)
    (h : ∀ h' W', Fr g L h' m → News g L h' W' → Cy w W' S a1 a2 a3 a4 l frs0 EX xs ws T ks seen → Q (.ref wr) { s with heap := h' }) : wpAny (model PG w) A (call (.builtin "list.pop") [.ref a2]) Q E s := by
  obtain ⟨n, e2⟩ := C.h2
  have em : ((ws ++ [wr]).map Value.ref) = ws.map Value.ref ++ [.ref wr] := by simp
  rw [em] at e2
  refine popL F N (by simp) (by simp; omega) (upd_put C.nd e2) fun h' F' N' => ?_
  have z := h h' (putW W a2 (listOf (ws.map Value.ref).toArray (n + 1))) F' (by rw [List.dropLast_concat] at N'; exact N') C.put2
  rw [List.getLast_concat]; exact z
theorem cyLast {value slice : PySem.Expr} {Q : Value → Shared → Prop} (N : News g L s.heap W) (C : Cy w W S a1 a2 a3 a4 l frs0 EX xs (ws ++ [wr]) T ks seen) (hz : ws.length ≤ 900) (h : Q (.ref wr) s)
    (hs : subscripted slice false (.ref a2) (.int (-1) t) = operate [.ref a2, .int (-1) t] (getItem (.ref a2) (.int (-1) t)) := by with_unfolding_all rfl) (hg : ∀ r, letTemporaryGo value (.ref a2) r = pure () := by intro _; with_unfolding_all rfl) :
    wpAny (model PG w) A (subscriptTail value slice (.ref a2) (.int (-1) t)) Q E s := by
  obtain ⟨n, e2⟩ := C.h2
  have em : ((ws ++ [wr]).map Value.ref) = ws.map Value.ref ++ [.ref wr] := by simp
  rw [em] at e2
  refine kim_back N (look_mem e2) rfl rfl (by decide) (by simp; omega) (by decide) (x := .ref wr) ?_ h hs hg
  have : ((-1 : Int) + ((ws.map Value.ref ++ [Value.ref wr]).length : Int)).toNat = (ws.map Value.ref).length := by simp only [List.length_append, List.length_cons, List.length_nil]; omega
  rw [this, List.getElem?_append_right (Nat.le_refl _), Nat.sub_self]; rfl
theorem seen_any : (seen.any fun y : Nat => decide ((y : Int) = (x : Int))) = decide (x ∈ seen) := by
  rw [Bool.eq_iff_iff, List.any_eq_true, decide_eq_true_iff]
  constructor
  · intro hx9; obtain ⟨y, hy, e⟩ := hx9
    have := of_decide_eq_true e
    have : y = x := by omega
    exact this ▸ hy
  · intro h; exact ⟨x, h, decide_eq_true rfl⟩
theorem cySet3 (N : News g L s.heap W) (C : Cy w W S a1 a2 a3 a4 l frs0 EX xs ws T ks seen) (hz : seen.length ≤ 900) : s.heap.SetOf (iK w) a3 (fun k => seen.any fun y : Nat => decide ((y : Int) = k)) seen.length := by
  obtain ⟨o3, e3, c3, q3, d3⟩ := C.h3
  exact d3.setOf (nget N e3) (Nat.lt_of_le_of_lt hz (by decide))
theorem cyIn3 {Q : Value → Shared → Prop} (N : News g L s.heap W) (C : Cy w W S a1 a2 a3 a4 l frs0 EX xs ws T ks seen) (hz : seen.length ≤ 900) (h : Q (.bool (decide (x ∈ seen))) { s with toks := s.toks + 1 }) : wpAny (model PG w) A (compareOp .In (.int (x : Int) t) (.ref a3)) Q E s := by
  refine PySem.wpAny_inSet_of (knd := iK w) (k := (x : Int)) (intKind_is _ _ _ _) rfl (cySet3 N C hz) ?_
  rw [seen_any]; exact h
theorem cyAddM {pl : Sem Bool} {Q : Value × List Value → Shared → Prop} (N : News g L s.heap W) (C : Cy w W S a1 a2 a3 a4 l frs0 EX xs ws T ks seen) (hz : seen.length ≤ 900) (h : Q (.builtin "set.add", [.ref a3]) s) : wpAny (model PG w) A (getMethod (.ref a3) "add" pl) Q E s :=
  PySem.getMethod_set_add (cySet3 N C hz) h
theorem cyAdd3 {Q : Value → Shared → Prop} (F : Fr g L s.heap m) (N : News g L s.heap W) (C : Cy w W S a1 a2 a3 a4 l frs0 EX xs ws T ks seen) (hz : seen.length ≤ 900) (hx : x ∉ seen)
    (h : ∀ h' W', Fr g L h' m → News g L h' W' → Cy w W' S a1 a2 a3 a4 l frs0 EX xs ws T ks (seen ++ [x]) → Q .none { s with heap := h', toks := s.toks + 1 }) : wpAny (model PG w) A (call (.builtin "set.add") [.ref a3, .int (x : Int) t]) Q E s := by
  refine PySem.call_set_add (knd := iK w) (k := (x : Int)) (intKind_is _ _ _ _) rfl (cySet3 N C hz) (Nat.lt_of_le_of_lt (Nat.add_le_add_right hz 1) (by decide)) fun h' hs' hS' => ?_
  obtain ⟨o3, e3, c3, q3, d3⟩ := C.h3
  obtain ⟨o', ho', hd'⟩ := hS'.objOf
  obtain ⟨F', N', _⟩ := Mine.turn F N C.nd e3 hs' ho'
  have hd2 := id hd'
  obtain ⟨hex, es, ep, tt, hdat, _⟩ := hd2
  refine h h' _ F' N' (C.put3 hex.1 (fun es' ep' q => by rw [hdat] at q; cases q) ?_)
  have e1 : (if (seen.any fun y : Nat => decide ((y : Int) = (x : Int))) = true then seen.length else seen.length + 1) = (seen ++ [x]).length := by
    rw [seen_any, if_neg (by simpa using hx)]; simp
  have e2 : (fun k' : Int => (seen.any fun y : Nat => decide ((y : Int) = k')) || decide (k' = (x : Int))) = fun k => (seen ++ [x]).any fun y : Nat => decide ((y : Int) = k) := by
    funext k
    rw [List.any_append, List.any_cons, List.any_nil, Bool.or_false]
    congr 1
    exact decide_eq_decide.mpr eq_comm
  rw [← e1, ← e2]; exact hd'
theorem valueAt_isSome {K : Type} [DecidableEq K] {kvs : List (K × Value)} {k : K} : (PySem.valueAt kvs k).isSome = decide (k ∈ kvs.map (·.1)) := by
  unfold PySem.valueAt
  rw [Option.isSome_map]
  induction kvs with
  | nil => rfl
  | cons p r ih =>
    rw [List.find?_cons, List.map_cons]
    by_cases e : p.1 = k
    · simp [e]
    · have h1 : decide (p.1 = k) = false := decide_eq_false e
      have h2 : ¬ k = p.1 := fun q => e q.symm
      rw [h1]; simp only [List.mem_cons, h2, false_or]; exact ih
theorem cyKey : ((x : Int) ∈ ks.map fun k : Nat => (k : Int)) ↔ x ∈ ks := by
  rw [List.mem_map]
  constructor
  · intro hx9; obtain ⟨y, hy, e⟩ := hx9
    have : y = x := by omega
    exact this ▸ hy
  · intro h; exact ⟨x, h, rfl⟩
theorem cyIn4 {Q : Value → Shared → Prop} (N : News g L s.heap W) (C : Cy w W S a1 a2 a3 a4 l frs0 EX xs ws T ks seen) (h : Q (.bool (decide (x ∈ ks))) { s with toks := s.toks + 1 }) : wpAny (model PG w) A (compareOp .In (.int (x : Int) t) (.ref a4)) Q E s := by
  obtain ⟨o4, kvs, e4, c4, d4, k4⟩ := C.h4
  refine kda_in (knd := iK w) (k := (x : Int)) N (look_mem e4) d4 C.a4n (intKind_is _ _ _ _) (decide (x ∈ ks)) ?_ h
  rw [valueAt_isSome, k4]
  exact decide_eq_decide.mpr cyKey
theorem cySet4 {v : Value} {Q : Unit → Shared → Prop} (F : Fr g L s.heap m) (N : News g L s.heap W) (C : Cy w W S a1 a2 a3 a4 l frs0 EX xs ws T ks seen) (hz : ks.length ≤ 900) (hx : x ∉ ks)
    (h : ∀ h' W', Fr g L h' m → News g L h' W' → Cy w W' S a1 a2 a3 a4 l frs0 EX xs ws T (ks ++ [x]) seen → Q () { s with heap := h', toks := s.toks + 1 }) : wpAny (model PG w) A (setItem (.ref a4) (.int (x : Int) t) v) Q E s := by
  obtain ⟨o4, kvs, e4, c4, d4, k4⟩ := C.h4
  have hlen : kvs.length = ks.length := by have := congrArg List.length k4; simpa using this
  refine kda_set (knd := iK w) (k := (x : Int)) F N (updF_put C.nd e4) d4 (intKind_is _ _ _ _) (sz_ok (by omega)) fun h' o' F' N' hd' => ?_
  have hno : (kvs.any fun kv => decide (kv.1 = (x : Int))) = false := by
    rw [Bool.eq_false_iff]
    intro q
    obtain ⟨kv, hkv, e⟩ := List.any_eq_true.mp q
    have e' := of_decide_eq_true e
    refine hx (cyKey.mp ?_)
    rw [← k4, ← e']
    exact List.mem_map_of_mem (f := (·.1)) hkv
  unfold PySem.stored at hd'
  rw [if_neg (by rw [hno]; decide)] at hd'
  refine h h' _ F' N' (C.put4 (kvs' := kvs ++ [((x : Int), v)]) ?_ hd' (by rw [List.map_append, List.map_append, k4]; rfl))
  obtain ⟨es, ep, hc, _⟩ := hd'
  exact hc.1
theorem cyDel4 {Q : Unit → Shared → Prop} (F : Fr g L s.heap m) (N : News g L s.heap W) (C : Cy w W S a1 a2 a3 a4 l frs0 EX xs ws T (ks ++ [x]) seen) (hz : ks.length ≤ 900) (hx : x ∉ ks)
    (h : ∀ h' W', Fr g L h' m → News g L h' W' → Cy w W' S a1 a2 a3 a4 l frs0 EX xs ws T ks seen → Q () { s with heap := h', toks := s.toks + 1 }) : wpAny (model PG w) A (delItem (.ref a4) (.int (x : Int) t)) Q E s := by
  obtain ⟨o4, kvs, e4, c4, d4, k4⟩ := C.h4
  have hlen : kvs.length = ks.length + 1 := by have := congrArg List.length k4; simpa using this
  have hD : s.heap.DictOf (iK w) a4 kvs := PySem.Heap.dictOf_iff.mpr ⟨o4, nget N e4, d4⟩
  have hsm : (PySem.valueAt kvs (x : Int)).isSome = true := by
    rw [valueAt_isSome, k4]
    exact decide_eq_true (cyKey.mpr (List.mem_append_right _ (.head _)))
  unfold delItem
  try with_reducible refine wpAny_holding ?_
  refine wpAny_bind (wpAny_sequenceKey hD.typeIs (by decide) ?_)
  refine wpAny_bind (wpAny_callSpecial?_slot (name := Str.ofString "__delitem__") hD.typeIs PySem.F.slot_dict_delitem
    (call_meetsIn PySem.F.slot_dict_delitem hD.typeIs PySem.F.entry_dict_delitem (PySem.F.args_dict_delitem_2 _ _) (meets_dict_delitem_pairs (iK w) a4 (k := (x : Int)) (intKind_is _ _ _ _)) ⟨kvs, hD, sz_ok (by omega), hsm, fun h' hmm hs => ?_⟩))
  obtain ⟨o', ho', hd'⟩ := PySem.Heap.dictOf_iff.mp hmm
  obtain ⟨F', N', _⟩ := Mine.turn F N C.nd e4 hs ho'
  refine wpAny_pure (h h' _ F' N' (C.put4 ?_ hd' ?_))
  · obtain ⟨es, ep, hc, _⟩ := hd'
    exact hc.1
  · have hnd : (kvs.map (·.1)).Nodup := by obtain ⟨es, ep, _, _, _, _, hn⟩ := d4; exact hn
    have hw : ∀ l : List (Int × Value), (PySem.without l (x : Int)).map (·.1) = (l.map (·.1)).filter fun k => decide (k ≠ (x : Int)) := by
      intro l
      unfold PySem.without
      induction l with
      | nil => rfl
      | cons p r ih =>
        rw [List.filter_cons, List.map_cons, List.filter_cons]
        split <;> rename_i q <;> simp_all
    rw [hw, k4, List.map_append, List.filter_append]
    have f1 : (List.map (fun k : Nat => (k : Int)) ks).filter (fun k => decide (k ≠ (x : Int))) = List.map (fun k : Nat => (k : Int)) ks := List.filter_eq_self.mpr fun k hk => by
      obtain ⟨y, hy, rfl⟩ := List.mem_map.mp hk
      have : y ≠ x := fun e => hx (e ▸ hy)
      exact decide_eq_true (by omega)
    rw [f1]
    simp
theorem cyM1 {pl : Sem Bool} {Q : Value × List Value → Shared → Prop} (N : News g L s.heap W) (C : Cy w W S a1 a2 a3 a4 l frs0 EX xs ws T ks seen) (h : Q (.builtin "list.append", [.ref a1]) s) : wpAny (model PG w) A (getMethod (.ref a1) "append" pl) Q E s := by
  obtain ⟨vs, n, e1, _⟩ := C.h1
  exact Calls.getMethod_list_append (nget N e1) rfl rfl h
theorem cyM2 {pl : Sem Bool} {Q : Value × List Value → Shared → Prop} (N : News g L s.heap W) (C : Cy w W S a1 a2 a3 a4 l frs0 EX xs ws T ks seen) (h : Q (.builtin "list.append", [.ref a2]) s) : wpAny (model PG w) A (getMethod (.ref a2) "append" pl) Q E s := by
  obtain ⟨n, e1⟩ := C.h2
  exact Calls.getMethod_list_append (nget N e1) rfl rfl h
theorem cyP1 {pl : Sem Bool} {Q : Value × List Value → Shared → Prop} (N : News g L s.heap W) (C : Cy w W S a1 a2 a3 a4 l frs0 EX xs ws T ks seen) (h : Q (.builtin "list.pop", [.ref a1]) s) : wpAny (model PG w) A (getMethod (.ref a1) "pop" pl) Q E s := by
  obtain ⟨vs, n, e1, _⟩ := C.h1
  exact getMethod_builtin ⟨_, nget N e1, rfl⟩ PySem.F.plainAttrs_list PySem.F.slot_list_pop PySem.F.type_list_pop (fun b e => by cases e; exact ⟨_, nget N e1, rfl⟩) h
theorem cyP2 {pl : Sem Bool} {Q : Value × List Value → Shared → Prop} (N : News g L s.heap W) (C : Cy w W S a1 a2 a3 a4 l frs0 EX xs ws T ks seen) (h : Q (.builtin "list.pop", [.ref a2]) s) : wpAny (model PG w) A (getMethod (.ref a2) "pop" pl) Q E s := by
  obtain ⟨n, e1⟩ := C.h2
  exact getMethod_builtin ⟨_, nget N e1, rfl⟩ PySem.F.plainAttrs_list PySem.F.slot_list_pop PySem.F.type_list_pop (fun b e => by cases e; exact ⟨_, nget N e1, rfl⟩) h
theorem cyTruth0 {Q : Bool → Shared → Prop} (N : News g L s.heap W) (C : Cy w W S a1 a2 a3 a4 l frs0 EX [] ws T ks seen) (h : Q false { s with toks := s.toks + 1 + 1 }) : wpAny (model PG w) A (truthy (.ref a1)) Q E s := cyTruth N C (Nat.zero_le _) h
theorem cyTruth1 {Q : Bool → Shared → Prop} (N : News g L s.heap W) (C : Cy w W S a1 a2 a3 a4 l frs0 EX (xs ++ [x]) ws T ks seen) (hz : (xs ++ [x]).length ≤ 900) (h : Q true { s with toks := s.toks + 1 + 1 }) : wpAny (model PG w) A (truthy (.ref a1)) Q E s := by
  refine cyTruth N C hz ?_
  have : (!(xs ++ [x]).isEmpty) = true := by simp
  rw [this]; exact h
theorem cyIn4n {Q : Value → Shared → Prop} (N : News g L s.heap W) (C : Cy w W S a1 a2 a3 a4 l frs0 EX xs ws T ks seen) (hx : x ∉ ks) (h : Q (.bool false) { s with toks := s.toks + 1 }) : wpAny (model PG w) A (compareOp .In (.int (x : Int) t) (.ref a4)) Q E s := by
  refine cyIn4 N C ?_
  rw [decide_eq_false hx]; exact h
theorem cyIter {a : Addr} {Q : Value → Shared → Prop} {V : List (Addr × Obj)} (Z : Vis w g V S) (F : Fr g L s.heap m) (N : News g L s.heap W) (C : Cy w W S a1 a2 a3 a4 l frs0 EX xs ws T ks seen) (hx : x ∈ S.nodes) (ha : S.la x = a)
    (h : ∀ it h', Fr g L h' m → News g L h' ((it, iterObj (S.la x) 0) :: W) → Cy w ((it, iterObj (S.la x) 0) :: W) S a1 a2 a3 a4 l frs0 EX xs ws T ks seen → (∀ t ∈ T, t.2.2.1 ≠ it) → Q (.ref it) { s with heap := h' }) : wpAny (model PG w) A (call (.builtin "iter") [.ref a]) Q E s := by
  subst ha
  obtain ⟨vs, hl, _⟩ := Z.suc F hx
  have hlt : ∀ p ∈ W, p.1 ≠ s.heap.objs.size := fun p hp => Nat.ne_of_lt (Heap.lt_size (N p hp).1)
  refine call_function_entry (by decide +kernel) (by decide +kernel) kdk_entry_iter (kdk_args_iter _) ?_
  unfold Builtin.«iter»
  refine wpAny_bind (m := someArgs "iter" 1 2 _) (wpAny_of_eq (a := [Value.ref (S.la x)]) (by first | rfl | kernel_rfl!) ?_)
  show wpAny _ _ (pyIter (.ref (S.la x)) >>= _) _ _ _
  refine wpAny_bind (wpAny_pyIter_list hl ?_)
  exact wpAny_pure ⟨_, rfl, h _ _ (F.push _) (N.push F _ rfl) (C.cons hlt) fun t ht => hlt _ (look_mem (C.it t ht))⟩
theorem cyNext {it : Addr} {Q : Value → Shared → Prop} (lo : Low A) (F : Fr g L s.heap m) (X : (hd.heap_1 w.params).In g) (N : News g L s.heap ((it, iterObj (S.la x) 0) :: W)) (C : Cy w ((it, iterObj (S.la x) 0) :: W) S a1 a2 a3 a4 l frs0 EX xs ws T ks seen) (hT : ∀ t ∈ T, t.2.2.1 ≠ it)
    (h : ∀ wr h' W' tk', Fr g L h' m → News g L h' W' → Cy w W' S a1 a2 a3 a4 l frs0 EX xs ws (T ++ [(x, wr, it, 0)]) ks seen → Q (.ref wr) { s with heap := h', toks := tk' }) : wpAny (model PG w) A (getAttr (.ref it) "__next__" true) Q E s := by
  have hi : ((it, iterObj (S.la x) 0) :: W).lookup it = some (iterObj (S.la x) 0) := by rw [look_cons, if_pos rfl]
  refine getNext lo F X N hi fun wr h' tk' F' N' hne => ?_
  refine h wr h' _ tk' F' N' ((C.cons hne).pushT ?_ ?_ hT)
  · rw [look_cons, if_pos rfl]
  · rw [look_cons, if_neg (hne _ (.head _))]; exact hi
end
theorem kz_u_cy : True := by
  k_with "u_cy" => skip
  trivial
theorem kl_v_gd : True := by
  k_with "lia" => ((fail_if_success k_extra "v_gd"); lia)
  trivial
noncomputable def EndIf (P : Shared → Prop) (f : Flow) (s' : Shared) : Prop := f = .next ∧ P s'
theorem if_join {M : Model} {A : Around} {E : Value → Shared → Prop} {s : Shared} {t : Sem Flow} {Q : Flow → Shared → Prop} (P : Shared → Prop) (h1 : ∀ P' : Shared → Prop, (∀ s', P s' → P' s') → wpAny M A t (EndIf P') E s) (h2 : ∀ s', P s' → Q .next s') : wpAny M A t Q E s :=
  wpAny_mono (h1 P fun _ h => h) (fun _ s' h => by rw [h.1]; exact h2 s' h.2) fun _ _ x => x
/-! the search's measure -/
noncomputable def Wt (S : SS) (seen : List Nat) : Nat := ((S.nodes.filter fun y => decide (y ∉ seen)).map fun y => (S.succ y).length + 2).sum
noncomputable def Tw (S : SS) (T : List (Nat × Addr × Addr × Nat)) : Nat := (T.map fun t => (S.succ t.1).length + 1 - t.2.2.2).sum
structure Gd (S : SS) (rk : Nat → Nat) (T : List (Nat × Addr × Addr × Nat)) (seen : List Nat) : Prop where
  snd : seen.Nodup
  sub : ∀ y ∈ seen, y ∈ S.nodes
  ts : ∀ t ∈ T, t.1 ∈ seen
  idx : ∀ t ∈ T, t.2.2.2 ≤ (S.succ t.1).length
  pw : (T.map (·.1)).Pairwise fun a b => rk a < rk b
theorem wt_add {f : Nat → Nat} {x : Nat} {seen : List Nat} (hs : x ∉ seen) : ∀ {l : List Nat}, l.Nodup → x ∈ l →
    ((l.filter fun y => decide (y ∉ seen ++ [x])).map f).sum + f x = ((l.filter fun y => decide (y ∉ seen)).map f).sum
  | [], _, h => nomatch h
  | a :: r, nd, h => by
    rw [List.nodup_cons] at nd
    have same : ∀ {r : List Nat}, x ∉ r → (r.filter fun y => decide (y ∉ seen ++ [x])) = r.filter fun y => decide (y ∉ seen) := fun {r} hr => by
      refine List.filter_congr fun y hy => ?_
      have : y ≠ x := fun e => hr (e ▸ hy)
      simp [this]
    rw [List.filter_cons, List.filter_cons]
    by_cases e : a = x
    · subst e
      rw [if_neg (by simp), if_pos (by simpa using hs), List.map_cons, List.sum_cons, same nd.1]
      omega
    · have hx : x ∈ r := by
        rcases List.mem_cons.mp h with q | q
        · exact absurd q.symm e
        · exact q
      have ih := wt_add (f := f) hs nd.2 hx
      by_cases q : a ∈ seen
      · rw [if_neg (by simp [q]), if_neg (by simp [q])]; exact ih
      · rw [if_pos (by simp [q, e]), if_pos (by simp [q]), List.map_cons, List.map_cons, List.sum_cons, List.sum_cons]
        omega
theorem nodup_len {α : Type} [DecidableEq α] : ∀ {l m : List α}, l.Nodup → (∀ x ∈ l, x ∈ m) → l.length ≤ m.length
  | [], _, _, _ => Nat.zero_le _
  | a :: l, m, nd, h => by
    rw [List.nodup_cons] at nd
    have ha := h a (.head _)
    have := nodup_len (l := l) (m := m.erase a) nd.2 fun x hx => by
      have hne : x ≠ a := fun e => nd.1 (e ▸ hx)
      exact (List.mem_erase_of_ne hne).mpr (h x (.tail _ hx))
    rw [List.length_erase_of_mem ha] at this
    have hp : 0 < m.length := List.length_pos_of_mem ha
    simp only [List.length_cons]
    omega
section
variable {S : SS} {rk : Nat → Nat} {T : List (Nat × Addr × Addr × Nat)} {seen : List Nat}
theorem Gd.tn (G : Gd S rk T seen) : (T.map (·.1)).Nodup := G.pw.imp fun h e => by rw [e] at h; exact Nat.lt_irrefl _ h
theorem Gd.len (G : Gd S rk T seen) : seen.length ≤ S.nodes.length := nodup_len G.snd G.sub
theorem Gd.tlen (G : Gd S rk T seen) : T.length ≤ S.nodes.length := by
  have h1 := nodup_len (l := T.map (·.1)) (m := seen) G.tn fun x hx => by
    obtain ⟨t, ht, rfl⟩ := List.mem_map.mp hx
    exact G.ts t ht
  rw [List.length_map] at h1
  exact Nat.le_trans h1 G.len
theorem Gd.nil (h1 : seen.Nodup) (h2 : ∀ y ∈ seen, y ∈ S.nodes) : Gd S rk [] seen := ⟨h1, h2, nofun, nofun, .nil⟩
theorem Gd.push (G : Gd S rk T seen) {x : Nat} {wr it : Addr} (hx : x ∈ S.nodes) (hs : x ∉ seen) (hc : ∀ t ∈ T, rk t.1 < rk x) : Gd S rk (T ++ [(x, wr, it, 0)]) (seen ++ [x]) := by
  refine ⟨?_, fun y hy => ?_, fun t ht => ?_, fun t ht => ?_, ?_⟩
  · rw [List.nodup_append]
    exact ⟨G.snd, by simp, fun a ha b hb q => by simp at hb; subst hb; subst q; exact hs ha⟩
  · rcases List.mem_append.mp hy with hy | hy
    · exact G.sub y hy
    · rw [List.mem_singleton] at hy; subst hy; exact hx
  · rcases List.mem_append.mp ht with ht | ht
    · exact List.mem_append_left _ (G.ts t ht)
    · rw [List.mem_singleton] at ht; subst ht; exact List.mem_append_right _ (.head _)
  · rcases List.mem_append.mp ht with ht | ht
    · exact G.idx t ht
    · rw [List.mem_singleton] at ht; subst ht; exact Nat.zero_le _
  · rw [List.map_append, List.pairwise_append]
    refine ⟨G.pw, List.pairwise_singleton _ _, fun a ha b hb => ?_⟩
    obtain ⟨t, ht, rfl⟩ := List.mem_map.mp ha
    simp at hb; subst hb
    exact hc t ht
theorem Gd.pop (G : Gd S rk (T ++ [t]) seen) : Gd S rk T seen := by
  have := G.pw
  rw [List.map_append, List.pairwise_append] at this
  refine ⟨G.snd, G.sub, fun t ht => G.ts t (List.mem_append_left _ ht), fun t ht => G.idx t (List.mem_append_left _ ht), this.1⟩
theorem Gd.step {x i : Nat} {wr it : Addr} (G : Gd S rk (T ++ [(x, wr, it, i)]) seen) (hi : i < (S.succ x).length) : Gd S rk (T ++ [(x, wr, it, i + 1)]) seen := by
  refine ⟨G.snd, G.sub, fun t ht => ?_, fun t ht => ?_, ?_⟩
  · rcases List.mem_append.mp ht with ht | ht
    · exact G.ts t (List.mem_append_left _ ht)
    · rw [List.mem_singleton] at ht; subst ht; exact G.ts (x, wr, it, i) (List.mem_append_right _ (.head _))
  · rcases List.mem_append.mp ht with ht | ht
    · exact G.idx t (List.mem_append_left _ ht)
    · rw [List.mem_singleton] at ht; subst ht; exact hi
  · have := G.pw
    rw [List.map_append] at this ⊢; exact this
theorem Gd.below {x i : Nat} {wr it : Addr} (G : Gd S rk (T ++ [(x, wr, it, i)]) seen) {y j : Nat} (hy : rk x < rk y) : ∀ t ∈ T ++ [(x, wr, it, j)], rk t.1 < rk y := fun t ht => by
  have := G.pw
  rw [List.map_append, List.pairwise_append] at this
  rcases List.mem_append.mp ht with ht | ht
  · exact Nat.lt_trans (this.2.2 t.1 (List.mem_map_of_mem (f := (·.1)) ht) x (.head _)) hy
  · rw [List.mem_singleton] at ht; subst ht; exact hy
theorem tw_snoc {t : Nat × Addr × Addr × Nat} : Tw S (T ++ [t]) = Tw S T + ((S.succ t.1).length + 1 - t.2.2.2) := by
  unfold Tw; simp
end
theorem kz_v_gd : True := by
  k_with "v_gd" => skip
  trivial
theorem kp_3 : True := by
  k_with "eval Name" => (k_here; (with_reducible refine' ldF ?z1 ?z2 ?z3 ?z4 ?z5 ?_ ?z6 ?z7); k_dflt ((case z1 => assumption); (case z2 => assumption); (case z3 => assumption); (case z4 => k_mem); (case z5 => k_mem); (case z6 => rfl); (case z7 => decide)))
  k_with "loadName" => (k_here; (with_reducible refine' ldnF ?z1 ?z2 ?z3 ?z4 ?z5 ?_ ?z6); k_dflt ((case z1 => assumption); (case z2 => assumption); (case z3 => assumption); (case z4 => k_mem); (case z5 => k_mem); (case z6 => rfl)))
  k_with "storeName" => (k_here; (with_reducible refine' stF ?z1 ?z2 ?z3 ?z4 ?z5 ?z6 ?_ ?z7); k_dflt ((case z1 => assumption); (case z2 => assumption); (case z3 => assumption); (case z4 => assumption); (case z5 => (repeat (first | with_reducible exact FvSet.head | (with_reducible apply FvSet.tail)))); (case z6 => k_mem); (case z7 => rfl)); (try clear nd'); intro h' F' N' nd'; (try dsimp only at F' N' nd'); (try k_sweep))
  k_with "eval ListComp" => (k_here; k_dflt (refine' evalComp ?z1 ?z2 ?z3 ?_; (case z1 => first | rfl | exact closureFor_none (by decide)); (case z2 => rfl); (case z3 => decide); k_whole))
  k_with "eval Name" => (k_here; (with_reducible show wpAny _ _ (eval (Expr.Name _ _) (compEnvC _ _ _ _)) _ _ _); k_dflt (refine' ldC ?z1 ?z2 ?z3 ?z4 ?_ ?z5 ?z6 ?z7; (case z1 => assumption); (case z2 => assumption); (case z3 => assumption); (case z4 => assumption); (case z5 => rfl); (case z6 => decide); (case z7 => decide); k_whole))
  k_with "getMethod ref" => (k_here; (with_reducible show wpAny _ _ (getMethod (Value.ref _) (Str.ofString "values") _) _ _ _); k_dflt (refine' n2ValM ?z3 ?z4 ?z5 ?_; (case z3 => assumption); (case z4 => assumption); (case z5 => first | rfl | assumption); k_whole))
  k_with "call builtin:dict.values" => (k_here; k_dflt (refine' n2Vals ?z1 ?z2 ?z3 ?z4 ?_; (case z1 => assumption); (case z2 => assumption); (case z3 => assumption); (case z4 => first | rfl | assumption); k_whole); intro v' h' F' N' nv'; (try dsimp only at F' N'))
  trivial
theorem kl_v_cyc : True := by
  k_with "lia" => ((fail_if_success k_extra "v_cyc"); lia)
  trivial
section
theorem kw_v_cyc : True := by
  k_with "getAttr ref" => ((fail_if_success k_extra "v_cyc"); k_here; k_dflt (first | (with_reducible show wpAny _ _ (getAttr _ (Str.ofString "_node2info") _) _ _ _); refine' visN2 ?z1 ?z2 ?z5 ?_; (case z1 => assumption); (case z2 => assumption); (case z5 => first | rfl | assumption); k_whole | (with_reducible show wpAny _ _ (getAttr _ (Str.ofString "successors") _) _ _ _); refine' visSu ?z1 ?z2 ?z6 ?z5 ?_; (case z1 => assumption); (case z2 => assumption); (case z6 => assumption); (case z5 => first | rfl | assumption); k_whole))
  k_with "subscriptTail" => ((fail_if_success k_extra "v_cyc"); k_here; (with_reducible show wpAny _ _ (subscriptTail _ _ (Value.ref _) (Value.int _ _)) _ _ _); k_dflt (refine' cyLast ?z1 ?z2 ?z3 ?_; (case z1 => assumption); (case z2 => assumption); (case z3 => ((simp only [List.length_map, List.length_append, List.length_cons, List.length_nil]); omega)); k_whole))
  k_with "subscriptTail" => ((fail_if_success k_extra "v_cyc"); k_here; (with_reducible show wpAny _ _ (subscriptTail _ _ (Value.ref _) (Value.int (Nat.cast _) _)) _ _ _); k_dflt (refine' visItem ?z1 ?z2 ?z5 ?z6 ?_; (case z1 => assumption); (case z2 => assumption); (case z5 => first | rfl | assumption); (case z6 => assumption); k_whole))
  k_with "compareOp In int ref" => ((fail_if_success k_extra "v_cyc"); k_here; k_dflt (first | refine' cyIn3 ?z1 ?z2 ?z3 ?_; (case z1 => assumption); (case z2 => assumption); (case z3 => assumption); k_whole | refine' cyIn4n ?z1 ?z2 ?z3 ?_; (case z1 => assumption); (case z2 => assumption); (case z3 => assumption); k_whole))
  k_with "getMethod ref" => ((fail_if_success k_extra "v_cyc"); k_here; k_dflt (first | (with_reducible show wpAny _ _ (getMethod _ (Str.ofString "append") _) _ _ _); refine' cyM1 ?z1 ?z2 ?_; (case z1 => assumption); (case z2 => assumption); k_whole | (with_reducible show wpAny _ _ (getMethod _ (Str.ofString "append") _) _ _ _); refine' cyM2 ?z1 ?z2 ?_; (case z1 => assumption); (case z2 => assumption); k_whole | (with_reducible show wpAny _ _ (getMethod _ (Str.ofString "pop") _) _ _ _); refine' cyP1 ?z1 ?z2 ?_; (case z1 => assumption); (case z2 => assumption); k_whole | (with_reducible show wpAny _ _ (getMethod _ (Str.ofString "pop") _) _ _ _); refine' cyP2 ?z1 ?z2 ?_; (case z1 => assumption); (case z2 => assumption); k_whole | (with_reducible show wpAny _ _ (getMethod _ (Str.ofString "add") _) _ _ _); refine' cyAddM ?z1 ?z2 ?z3 ?_; (case z1 => assumption); (case z2 => assumption); (case z3 => assumption); k_whole))
  k_with "call builtin:list.append" => ((fail_if_success k_extra "v_cyc"); k_here; k_dflt (first | refine' cyApp1 ?z1 ?z2 ?z3 ?z4 ?_; (case z1 => assumption); (case z2 => assumption); (case z3 => assumption); (case z4 => ((simp only [List.length_map, List.length_append, List.length_cons, List.length_nil]); omega)); k_whole | refine' cyApp2 ?z1 ?z2 ?z3 ?z4 ?_; (case z1 => assumption); (case z2 => assumption); (case z3 => assumption); (case z4 => ((simp only [List.length_map, List.length_append, List.length_cons, List.length_nil]); omega)); k_whole); intro h' W' F' N' C'; (try dsimp only at F' N'))
  k_with "call builtin:set.add" => ((fail_if_success k_extra "v_cyc"); k_here; k_dflt (refine' cyAdd3 ?z1 ?z2 ?z3 ?z4 ?z5 ?_; (case z1 => assumption); (case z2 => assumption); (case z3 => assumption); (case z4 => assumption); (case z5 => assumption); k_whole); intro h' W' F' N' C'; (try dsimp only at F' N'))
  k_with "setItem ref int" => ((fail_if_success k_extra "v_cyc"); k_here; k_dflt (refine' cySet4 ?z1 ?z2 ?z3 ?z4 ?z5 ?_; (case z1 => assumption); (case z2 => assumption); (case z3 => assumption); (case z4 => ((simp only [List.length_map, List.length_append, List.length_cons, List.length_nil]); omega)); (case z5 => assumption); k_whole); intro h' W' F' N' C'; (try dsimp only at F' N'))
  k_with "call builtin:len" => ((fail_if_success k_extra "v_cyc"); k_here; k_dflt (refine' cyLen ?z1 ?z2 ?z3 ?_; (case z1 => assumption); (case z2 => assumption); (case z3 => ((simp only [List.length_map, List.length_append, List.length_cons, List.length_nil]); omega)); k_whole); intro t')
  k_with "truthy ref" => ((fail_if_success k_extra "v_cyc"); k_here; k_dflt (first | refine' cyTruth0 ?z1 ?z2 ?_; (case z1 => assumption); (case z2 => assumption); k_whole | refine' cyTruth1 ?z1 ?z2 ?z3 ?_; (case z1 => assumption); (case z2 => assumption); (case z3 => ((simp only [List.length_map, List.length_append, List.length_cons, List.length_nil]); omega)); k_whole))
  k_with "call builtin:iter" => ((fail_if_success k_extra "v_cyc"); k_here; k_dflt (refine' cyIter ?z1 ?z2 ?z3 ?z4 ?z5 ?z6 ?_; (case z1 => assumption); (case z2 => assumption); (case z3 => assumption); (case z4 => assumption); (case z5 => assumption); (case z6 => rfl); k_whole); intro it' h' F' N' C' hT'; (try dsimp only at F' N'))
  k_with "getAttr ref" => ((fail_if_success k_extra "v_cyc"); k_here; k_dflt ((with_reducible show wpAny _ _ (getAttr _ (Str.ofString "__next__") _) _ _ _); refine' cyNext ?z1 ?z2 ?z3 ?z4 ?z5 ?z6 ?_; (case z2 => assumption); (case z3 => assumption); (case z4 => assumption); (case z5 => assumption); (case z6 => assumption); (case z1 => exact ⟨hh, by show A.depth + 1 ≤ 500; omega, by show A.units + 3 ≤ 5000; omega⟩); k_whole); intro wr' h' W' tk' F' N' C'; (try dsimp only at F' N'))
  k_with "call builtin:list.pop" => ((fail_if_success k_extra "v_cyc"); k_here; k_dflt (first | (refine' cyPop1 ?z1 ?z2 ?z3 ?z4 ?_; (case z1 => assumption); (case z2 => assumption); (case z3 => assumption); (case z4 => ((simp only [List.length_map, List.length_append, List.length_cons, List.length_nil]); omega)); k_whole; intro h' W' t' F' N' C') | (refine' cyPop2 ?z1 ?z2 ?z3 ?z4 ?_; (case z1 => assumption); (case z2 => assumption); (case z3 => assumption); (case z4 => ((simp only [List.length_map, List.length_append, List.length_cons, List.length_nil]); omega)); k_whole; intro h' W' F' N' C')); (try dsimp only at F' N'))
  k_with "delItem ref int" => ((fail_if_success k_extra "v_cyc"); k_here; k_dflt (refine' cyDel4 ?z1 ?z2 ?z3 ?z4 ?z5 ?_; (case z1 => assumption); (case z2 => assumption); (case z3 => assumption); (case z4 => ((simp only [List.length_map, List.length_append, List.length_cons, List.length_nil]); omega)); (case z5 => assumption); k_whole); intro h' W' F' N' C'; (try dsimp only at F' N'))
  k_with "exec If" => ((fail_if_success k_extra "v_cyc"); k_here; (with_reducible show wpAny _ _ (exec (Stmt.If _ _ (_ :: _) _) _) _ _ _); refine stop_here ?_)
  k_with "exec Try" => ((fail_if_success k_extra "v_cyc"); k_here; refine stop_here ?_)
  trivial
theorem cy_start {w : World} {W : List (Addr × Obj)} {S : SS} {a1 a2 a3 a4 : Addr} {l : List Env} {frs : List (Addr × Obj)} {o4 : Obj} {es : Array (Int × Value)} {n3 : Nat} {st : SetTable} (nd : (W.map (·.1)).Nodup) (m1 : (a1, listOf #[] 0) ∈ W) (m2 : (a2, listOf #[] 0) ∈ W)
    (m3 : (a3, ({ cls := .type "set", data := .set es n3 st } : Obj)) ∈ W) (m4 : (a4, o4) ∈ W) (mf : ∀ p ∈ frs, p ∈ W) (hs : Obj.SetObjOf (iK w) ({ cls := .type "set", data := .set es n3 st } : Obj) (fun _ => false) 0) (hc : o4.cls = .type "dict") (hd : o4.IsDictOf (iK w) []) (ne : a1 ≠ a2) (Fs : TI.Frs l frs) (fne : ∀ p ∈ frs, p.1 ≠ a4) (lo : (a4 == sysModules) = false) :
    Cy w W S a1 a2 a3 a4 l frs [] [] [] [] [] [] where
  nd := nd
  h1 := ⟨[], 0, mem_look nd m1, .nil⟩
  h2 := ⟨0, mem_look nd m2⟩
  h3 := by
    refine ⟨_, mem_look nd m3, rfl, fun _ _ q => (by cases q), ?_⟩
    have e : (fun k : Int => ([] : List Nat).any fun y : Nat => decide ((y : Int) = k)) = fun _ => false := funext fun k => rfl
    rw [e]; exact hs
  h4 := ⟨o4, [], mem_look nd m4, hc, hd, rfl⟩
  wr := nofun
  it := nofun
  itn := .nil
  ne := ne
  fr := ⟨frs, TI.SameUp.refl _, Fs, fun p hp => mem_look nd (mf p hp)⟩
  fne := fne
  a4n := lo
  ex := fun _ h => nomatch h
  exc := fun _ h => nomatch h
  exd := fun _ h => nomatch h
theorem snoc_case (T : List (Nat × Addr × Addr × Nat)) : T = [] ∨ ∃ T0 z wr it i, T = T0 ++ [(z, wr, it, i)] := by
  rcases List.eq_nil_or_concat T with e | ⟨T0, ⟨z, wr, it, i⟩, e⟩
  · exact .inl e
  · exact .inr ⟨T0, z, wr, it, i, by rw [e]; exact List.concat_eq_append⟩
theorem allLt_mem {d : Addr} : ∀ {l : List (Addr × Obj)}, AllLt d l → ∀ p ∈ l, p.1 < d
  | [], _, _, h => nomatch h
  | q :: r, h, p, hp => by
    rcases List.mem_cons.mp hp with rfl | hp
    · exact h.1
    · exact allLt_mem h.2 p hp
namespace findCycle_ok_
def Q_ (w : World) (A : Around) (s : Shared) (g0 : Heap) (loose : List Str) (mean : ExcName → Option Value) (mg : Str → Option Value) (mb : Str → Option Value) (p : Program) (R : Result → Shared → Prop) (l : List Env) (frs : List (Addr × Obj)) (V : List (Addr × Obj)) (S : SS) : Prop := ∀ (X : (hd.heap_1 w.params).In g0) (T : Top p loose mean mg mb g0) (k : g0.StaysIn s.heap) (hh : A.handled = none) (hroom : A.depth ≤ 440) (hun : A.units ≤ 4400) (hfr : A.frames = some l) (Fs : TI.Frs l frs) (fnd : (frs.map (·.1)).Nodup) (hf : ∀ p ∈ frs, s.heap.get? p.1 = some p.2) (hfg : ∀ p ∈ frs, g0.get? p.1 = none) (hV : ∀ p ∈ V, s.heap.get? p.1 = some p.2) (hVg : ∀ p ∈ V, g0.get? p.1 = none) (hVf : ∀ p ∈ V, ∀ q ∈ frs, q.1 ≠ p.1) (hS : Srt w V S) (rk : Nat → Nat) (hrk : ∀ x ∈ S.nodes, ∀ y ∈ S.succ x, y ∈ S.nodes ∧ rk x < rk y) (hz : S.nodes.length ≤ 90) (hR : ∀ h' tk frs', TI.SameUp frs frs' → (∀ p ∈ frs', h'.get? p.1 = some p.2) → (∀ b o, (∀ p ∈ frs, p.1 ≠ b) → s.heap.get? b = some o → h'.get? b = some o) → R (.ok (.ret .none)) { s with heap := h', toks := tk }), codeAny (model PG w) A (.call (.ref 162) ⟨[.ref S.s], []⟩) R s
noncomputable section
def P_ (x : World × Around × Shared × Heap × (List Str) × (ExcName → Option Value) × (Str → Option Value) × (Str → Option Value) × Program × (Result → Shared → Prop) × (List Env) × (List (Addr × Obj)) × (List (Addr × Obj)) × SS) : Prop := Q_ x.1 x.2.1 x.2.2.1 x.2.2.2.1 x.2.2.2.2.1 x.2.2.2.2.2.1 x.2.2.2.2.2.2.1 x.2.2.2.2.2.2.2.1 x.2.2.2.2.2.2.2.2.1 x.2.2.2.2.2.2.2.2.2.1 x.2.2.2.2.2.2.2.2.2.2.1 x.2.2.2.2.2.2.2.2.2.2.2.1 x.2.2.2.2.2.2.2.2.2.2.2.2.1 x.2.2.2.2.2.2.2.2.2.2.2.2.2
def x_ := pick (dW, callerA, ({} : Shared), default, default, default, default, default, PG, default, default, default, default, (⟨0, 0, 0, none, [], [], 0, 0, fun _ => 0, fun _ => 0, fun _ => 0, fun _ => 0, fun _ => []⟩ : SS)) fun x => ¬ P_ x
@[irreducible] def w := x_.1
@[irreducible] def A := x_.2.1
@[irreducible] def s := x_.2.2.1
@[irreducible] def g0 := x_.2.2.2.1
@[irreducible] def loose := x_.2.2.2.2.1
@[irreducible] def mean := x_.2.2.2.2.2.1
@[irreducible] def mg := x_.2.2.2.2.2.2.1
@[irreducible] def mb := x_.2.2.2.2.2.2.2.1
@[irreducible] def p := x_.2.2.2.2.2.2.2.2.1
@[irreducible] def R := x_.2.2.2.2.2.2.2.2.2.1
@[irreducible] def l := x_.2.2.2.2.2.2.2.2.2.2.1
@[irreducible] def frs := x_.2.2.2.2.2.2.2.2.2.2.2.1
@[irreducible] def V := x_.2.2.2.2.2.2.2.2.2.2.2.2.1
@[irreducible] def S := x_.2.2.2.2.2.2.2.2.2.2.2.2.2
end
set_option maxHeartbeats 2000000 in
theorem core : Q_ w A s g0 loose mean mg mb p R l frs V S := by
  intro X T k hh hroom hun hfr Fs fnd hf hfg hV hVg hVf hS rk hrk hz hR
  have hr1 : A.depth + 60 < recursionLimit := Nat.lt_of_le_of_lt (Nat.add_le_add_right hroom 60) (by decide)
  have hu1 : A.units + 60 < cLine := Nat.lt_of_le_of_lt (Nat.add_le_add_right hun 60) (by decide)
  refine enter [("self", .ref S.s)] ["n2i", "stack", "itstack", "seen", "node2stacki", "node"] (K := hd.heap_1 w.params) (W := frs) X T k hf hfg (by k_is) (by k_is) (by omega) (BindsTo.of_eq rfl) (locs rfl) (of_decide_eq_true (by kernel_rfl)) (by decide +kernel) ?_ rfl rfl rfl (by decide)
  intro g' L' h' st' kp' sub' F' N' X' T' nd' ns'
  dsimp only [fv0, List.map, HAppend.hAppend, Append.append, List.append] at F' nd'
  k_fold
  have Z : Vis w g' V S := Vis.of X st' (fun p hp => kp' _ _ (hV p hp) (hVf p hp)) hVg hS
  k_steps
  rename_i a1 _h6 l11 _h5 _tk a2 _h4 l12 _h3 a3 _h2 led hs3 hz3 l13 _h1 a4 _h0 o4 lo4 hs4 fs4 hi4 fi4 l14
  have hdc : o4.cls = .type "dict" := by obtain ⟨es, ep, hc, _⟩ := hi4; exact hc.1
  have hlt1 : ∀ p ∈ frs, p.1 < a1 := l11
  have hlt2 : a1 < a2 := l12.1
  have hlt3 : a2 < a3 := l13.1
  have hlt4 : a3 < a4 := l14.1
  have frlt : ∀ p ∈ frs, p.1 ≠ a2 ∧ p.1 ≠ a3 ∧ p.1 ≠ a4 ∧ p.1 ≠ a1 := fun p hp => by
    have := hlt1 p hp
    exact ⟨Nat.ne_of_lt (Nat.lt_trans this hlt2), Nat.ne_of_lt (Nat.lt_trans this (Nat.lt_trans hlt2 hlt3)), Nat.ne_of_lt (Nat.lt_trans this (Nat.lt_trans hlt2 (Nat.lt_trans hlt3 hlt4))), Nat.ne_of_lt this⟩
  have nd0 : (((a4, o4) :: (a3, ({ cls := .type "set", data := .set #[] 0 (.fresh 0 0 led) } : Obj)) :: (a2, listOf #[] 0) :: (a1, listOf #[] 0) :: frs).map (·.1)).Nodup := by
    simp only [List.map_cons, List.nodup_cons, List.mem_cons, not_or, List.mem_map, not_exists, not_and]
    refine ⟨⟨?_, ?_, ?_, fun p hp => (frlt p hp).2.2.1⟩, ⟨?_, ?_, fun p hp => (frlt p hp).2.1⟩, ⟨?_, fun p hp => (frlt p hp).1⟩, fun p hp => (frlt p hp).2.2.2, fnd⟩
    · exact Nat.ne_of_gt hlt4
    · exact Nat.ne_of_gt (Nat.lt_trans hlt3 hlt4)
    · exact Nat.ne_of_gt (Nat.lt_trans hlt2 (Nat.lt_trans hlt3 hlt4))
    · exact Nat.ne_of_gt hlt3
    · exact Nat.ne_of_gt (Nat.lt_trans hlt2 hlt3)
    · exact Nat.ne_of_gt hlt2
  have m1 : (a1, listOf #[] 0) ∈ ((a4, o4) :: (a3, ({ cls := .type "set", data := .set #[] 0 (.fresh 0 0 led) } : Obj)) :: (a2, listOf #[] 0) :: (a1, listOf #[] 0) :: frs) := .tail _ (.tail _ (.tail _ (.head _)))
  have m2 : (a2, listOf #[] 0) ∈ ((a4, o4) :: (a3, ({ cls := .type "set", data := .set #[] 0 (.fresh 0 0 led) } : Obj)) :: (a2, listOf #[] 0) :: (a1, listOf #[] 0) :: frs) := .tail _ (.tail _ (.head _))
  have m3 : (a3, ({ cls := .type "set", data := .set #[] 0 (.fresh 0 0 led) } : Obj)) ∈ ((a4, o4) :: (a3, ({ cls := .type "set", data := .set #[] 0 (.fresh 0 0 led) } : Obj)) :: (a2, listOf #[] 0) :: (a1, listOf #[] 0) :: frs) := .tail _ (.head _)
  have m4 : (a4, o4) ∈ ((a4, o4) :: (a3, ({ cls := .type "set", data := .set #[] 0 (.fresh 0 0 led) } : Obj)) :: (a2, listOf #[] 0) :: (a1, listOf #[] 0) :: frs) := .head _
  have mf : ∀ p ∈ frs, p ∈ ((a4, o4) :: (a3, ({ cls := .type "set", data := .set #[] 0 (.fresh 0 0 led) } : Obj)) :: (a2, listOf #[] 0) :: (a1, listOf #[] 0) :: frs) := fun p hp => .tail _ (.tail _ (.tail _ (.tail _ hp)))
  have C0 := cy_start (S := S) (l := l) nd0 m1 m2 m3 m4 mf hs3 hdc hi4 (Nat.ne_of_lt hlt2) Fs (fun p hp => (frlt p hp).2.2.1) lo4
  have hD0 : g'.DictOf (iK w) S.n2 S.kvs := by
    obtain ⟨o, ho, hd⟩ := Z.S.inf
    exact PySem.Heap.dictOf_iff.mpr ⟨o, Z.hV _ (look_mem ho), hd⟩
  obtain ⟨ep, hD⟩ := hD0.dictAt
  clear l11 l12 l13 l14 hs3 hz3 lo4 hs4 fs4 hi4 fi4 _h6 _h5 _tk _h4 _h3 _h2 _h1 _h0
  unfold Stop
  refine forGenD (iterKeys (kvs := S.kvs) (ep := ep) hS.ns) (fun i fl W2 => ∃ o1 seen, fl = ([("self", some (.ref S.s)), ("n2i", some (.ref S.n2)), ("stack", some (.ref a1)), ("itstack", some (.ref a2)), ("seen", some (.ref a3)), ("node2stacki", some (.ref a4)), ("node", o1)] : List (Str × Option Value)) ∧
      Cy w W2 S a1 a2 a3 a4 l frs [] [] [] [] [] seen ∧ seen.Nodup ∧ ∀ y ∈ seen, y ∈ S.nodes)
    ?_ F' N' nd0 ?_ ?_ ?_ ?_ ?_ ?_ ?_
  · exact hh
  · rintro i fl W1 h1 _ F1 _
    exact hD.keep F1.keep
  · refine ⟨_, [], rfl, C0, .nil, nofun⟩
  · intro it o hn _
    refine ⟨_, [], rfl, C0.cons hn, .nil, nofun⟩
  · intro i fl W1 W2 nd2 _ hsim hx9; obtain ⟨o1, seen, hfl, C, hsn, hsub⟩ := hx9
    refine ⟨o1, seen, hfl, C.sim nd2 ⟨by decide, by decide, by decide, by decide, by decide⟩ hsim, hsn, hsub⟩
  · intro i v fl W1 h1 tk1 it o hi hx9; obtain ⟨kk, vv, ty, hkv, rfl⟩ := hx9; intro hx9; obtain ⟨o1, seen, rfl, C, hsn, hsub⟩ := hx9; intro F1 N1 nd1 hlo hco hod Qf hQf
    clear F' N' nd' C0
    obtain ⟨x, hx, rfl⟩ : ∃ x, x ∈ S.nodes ∧ kk = (x : Int) := by
      have := List.mem_of_getElem? hkv
      unfold SS.kvs at this
      obtain ⟨x, hx, e⟩ := List.mem_map.mp this
      cases e
      exact ⟨x, hx, rfl⟩
    have C1 := C.addEx hlo hco hod
    clear C
    have hsl : seen.length ≤ 900 := Nat.le_trans (nodup_len hsn hsub) (by omega)
    have nd' : (List.map (fun x : Str × Option Value => x.fst) [("self", some (.ref S.s)), ("n2i", some (.ref S.n2)), ("stack", some (.ref a1)), ("itstack", some (.ref a2)), ("seen", some (.ref a3)), ("node2stacki", some (.ref a4)), ("node", o1)]).Nodup := of_decide_eq_true (by kernel_rfl)
    k_steps
    · refine ⟨_, _, _, _, rfl, F', N', C1.nd, hlo, _, seen, rfl, C1.noEx, hsn, hsub⟩
    unfold Stop
    refine whileF (fun n s' => ∃ (y : Nat) (t : Tok) (T : List (Nat × Addr × Addr × Nat)) (seen : List Nat) (W : List (Addr × Obj)) (h : Heap) (tk : Nat), s' = { s with heap := h, toks := tk } ∧
      Fr g' L' h (fv ([("self", some (.ref S.s)), ("n2i", some (.ref S.n2)), ("stack", some (.ref a1)), ("itstack", some (.ref a2)), ("seen", some (.ref a3)), ("node2stacki", some (.ref a4)), ("node", some (.int (y : Int) t))] : List (Str × Option Value))) ∧ News g' L' h W ∧
      Cy w W S a1 a2 a3 a4 l frs [(it, o)] (T.map (·.1)) (T.map (·.2.1)) T (T.map (·.1)) seen ∧ Gd S rk T seen ∧ y ∈ S.nodes ∧ (∀ t ∈ T, rk t.1 < rk y) ∧ Wt S seen + Tw S T ≤ n)
      ?_ (Wt S seen + Tw S []) (i7 x ty [] seen W1 h' _ ⟨rfl, F', N', C1, Gd.nil hsn hsub, hx, (fun _ h => nomatch h), Nat.le_refl _⟩)
    clear F' N' nd' C1 hsl hsn hsub
    intro n s1 hx9; obtain ⟨y, t, T, seen1, W, h1', tk1', rfl, F', N', C, G, hy, hrky, hΦ⟩ := hx9; intro Q1 Q2 hq1 hq2
    have hsl : seen1.length ≤ 900 := Nat.le_trans G.len (by omega)
    have htl : T.length ≤ 90 := Nat.le_trans G.tlen hz
    have hyk : y ∉ T.map (·.1) := fun q => by
      obtain ⟨t0, ht0, e⟩ := List.mem_map.mp q
      have := hrky t0 ht0
      rw [e] at this; exact Nat.lt_irrefl _ this
    have nd' : (List.map (fun x : Str × Option Value => x.fst) [("self", some (.ref S.s)), ("n2i", some (.ref S.n2)), ("stack", some (.ref a1)), ("itstack", some (.ref a2)), ("seen", some (.ref a3)), ("node2stacki", some (.ref a4)), ("node", some (.int (y : Int) t))]).Nodup := of_decide_eq_true (by kernel_rfl)
    k_steps
    unfold Stop
    refine if_join (fun s' => ∃ (T2 : List (Nat × Addr × Addr × Nat)) (seen2 : List Nat) (W2 : List (Addr × Obj)) (h2 : Heap) (tk2 : Nat), s' = { s with heap := h2, toks := tk2 } ∧
      Fr g' L' h2 (fv ([("self", some (.ref S.s)), ("n2i", some (.ref S.n2)), ("stack", some (.ref a1)), ("itstack", some (.ref a2)), ("seen", some (.ref a3)), ("node2stacki", some (.ref a4)), ("node", some (.int (y : Int) t))] : List (Str × Option Value))) ∧ News g' L' h2 W2 ∧
      Cy w W2 S a1 a2 a3 a4 l frs [(it, o)] (T2.map (·.1)) (T2.map (·.2.1)) T2 (T2.map (·.1)) seen2 ∧ Gd S rk T2 seen2 ∧ Wt S seen2 + Tw S T2 ≤ n) (fun P hP => ?_) ?_
    · refine PySem.wpAny_If ?_
      k_steps
      · exact ⟨rfl, hP _ (i5 T seen1 W _ _ ⟨rfl, F', N', C, G, hΦ⟩)⟩
      · have hys : y ∉ seen1 := by assumption
        refine ⟨rfl, hP _ (i5 (T ++ [(y, wr', it', 0)]) (seen1 ++ [y]) W' _ _ ⟨rfl, F', N', by simpa only [List.map_append, List.map_cons, List.map_nil] using C', G.push hy hys hrky, ?_⟩)⟩
        have := wt_add (f := fun y => (S.succ y).length + 2) hys hS.nodup hy
        rw [tw_snoc]
        unfold Wt at hΦ ⊢
        dsimp only at this ⊢
        omega
    clear F' N' nd' hsl htl C hyk hΦ hrky G
    intro s5 hx9; obtain ⟨T2, seen2, W2, h2, tk2, rfl, F', N', C2, G2, hΦ2⟩ := hx9
    k_steps
    unfold Stop
    refine whileF (fun k s' => ∃ (T : List (Nat × Addr × Addr × Nat)) (W : List (Addr × Obj)) (h : Heap) (tk : Nat), s' = { s with heap := h, toks := tk } ∧
      Fr g' L' h (fv ([("self", some (.ref S.s)), ("n2i", some (.ref S.n2)), ("stack", some (.ref a1)), ("itstack", some (.ref a2)), ("seen", some (.ref a3)), ("node2stacki", some (.ref a4)), ("node", some (.int (y : Int) t))] : List (Str × Option Value))) ∧ News g' L' h W ∧
      Cy w W S a1 a2 a3 a4 l frs [(it, o)] (T.map (·.1)) (T.map (·.2.1)) T (T.map (·.1)) seen2 ∧ Gd S rk T seen2 ∧ Wt S seen2 + Tw S T ≤ n ∧ k = T.length)
      ?_ T2.length (i4 T2 _ _ _ ⟨rfl, F', N', C2, G2, hΦ2, rfl⟩)
    clear F' N' C2 G2 hΦ2
    intro k s2 hx9; obtain ⟨T3, W3, h3, tk3, rfl, F', N', C, G, hΦ3, rfl⟩ := hx9; intro Q1 Q2 hq1 hq2
    have htl : T3.length ≤ 90 := Nat.le_trans G.tlen hz
    have nd' : (List.map (fun x : Str × Option Value => x.fst) [("self", some (.ref S.s)), ("n2i", some (.ref S.n2)), ("stack", some (.ref a1)), ("itstack", some (.ref a2)), ("seen", some (.ref a3)), ("node2stacki", some (.ref a4)), ("node", some (.int (y : Int) t))]).Nodup := of_decide_eq_true (by kernel_rfl)
    rcases snoc_case T3 with rfl | ⟨T0, z, wr, it2, i2, rfl⟩
    · simp only [List.map_nil] at C
      k_steps
      refine ⟨_, _, _, _, rfl, F', N', C.nd, C.ex (it, o) (.head _), _, seen2, rfl, C.noEx, G.snd, G.sub⟩
    · simp only [List.map_append, List.map_cons, List.map_nil] at C
      rw [List.length_append, List.length_singleton] at htl
      k_steps
      unfold Stop
      refine wpAny_Try_except ?_
      have hcw := C.wr (z, wr, it2, i2) (List.mem_append_right _ (.head _))
      have hci := C.it (z, wr, it2, i2) (List.mem_append_right _ (.head _))
      have hzn := G.sub z (G.ts (z, wr, it2, i2) (List.mem_append_right _ (.head _)))
      k_steps
      refine callWith_wr (nget N' hcw) ?_
      obtain ⟨vs, hl, hiv⟩ := Z.suc F' hzn
      have hlen := hiv.length
      by_cases hlt : i2 < (S.succ z).length
      · obtain ⟨y2, t2, hy2, ev⟩ := hiv.at (List.getElem?_eq_getElem (show i2 < vs.length by omega))
        refine nextItem (x := .int (y2 : Int) t2) F' N' C.nd hcw hci hl (by rw [List.getElem?_toArray, List.getElem?_eq_getElem (show i2 < vs.length by omega), ev]) fun h5 F5 N5 => ?_
        have C5 := C.stepI
        clear F' N' C hl
        have F' := F5
        have N' := N5
        clear F5 N5
        k_steps
        have hyz := hrk z hzn y2 (List.mem_of_getElem? hy2)
        refine ⟨Wt S seen2 + Tw S (T0 ++ [(z, wr, it2, i2 + 1)]), ?_, y2, t2, T0 ++ [(z, wr, it2, i2 + 1)], seen2, _, _, _, rfl, F', N', by simpa only [List.map_append, List.map_cons, List.map_nil] using C5, G.step hlt, hyz.1, G.below hyz.2, Nat.le_refl _⟩
        rw [tw_snoc] at hΦ3 ⊢
        dsimp only at hΦ3 ⊢
        omega
      · refine nextEnd hh F' N' C.nd hcw hci hl (by rw [List.getElem?_toArray]; exact List.getElem?_eq_none (show vs.length ≤ i2 by omega)) fun h5 h6 e o' F5 N5 hx => ?_
        have C5 := C.putI (o := o')
        obtain ⟨frs1, SU1, U1⟩ := C5.fr
        refine notedW hfr U1 (by rw [sameUp_names SU1]; exact fnd) C5.nd hx F5 N5 (fun h6 W6 frs2 SU2 U2 nd6 K6 _ H => ?_)
        have C6 := C5.noted SU1 U1 SU2 U2 nd6 K6
        refine H.land fun h7 H7 => ?_
        refine clauseStop (K := hd.heap_1 w.params) H7 (.inr ⟨by k_is, by decide +kernel, by decide⟩) X' (topRead_of T') (fun h8 F8 N8 => ?_) PassesOwnAt.never
        clear F' N' C C5 F5 N5 U1 SU1 U2 SU2 H H7 K6 hcw hci hl
        have F' := F8
        have N' := N8
        clear F8 N8
        have hnk : z ∉ T0.map (·.1) := fun q => by
          have := G.tn
          rw [List.map_append, List.nodup_append] at this
          exact this.2.2 z q z (.head _) rfl
        k_steps
        refine ⟨T0.length, by simp, T0, _, _, _, rfl, F', N', C', G.pop, by rw [tw_snoc] at hΦ3; omega, rfl⟩
  · intro fl W2 h2 tk2 hx9; obtain ⟨o1, seen, rfl, C, hsn, hsub⟩ := hx9; intro F2 N2 nd2
    k_steps
    obtain ⟨frs', SU, U⟩ := C.fr
    exact hR _ _ frs' SU (fun p hp => nget N2 (U.at_ p hp)) (fun b o hb e => F2.keep _ _ (kp' b o e hb))
  · exact fun _ _ => rfl
theorem all : ∀ y, P_ y := @pick_all _ _ P_ (by with_unfolding_all exact core)
end findCycle_ok_
theorem findCycle_ok {w A s g0 loose mean mg mb p R l frs V S} : findCycle_ok_.Q_ w A s g0 loose mean mg mb p R l frs V S := @findCycle_ok_.all (w, A, s, g0, loose, mean, mg, mb, p, R, l, frs, V, S)
end
theorem kz_v_cyc : True := by
  k_with "v_cyc" => skip
  trivial
theorem kl_w_comp : True := by
  k_with "lia" => ((fail_if_success k_extra "w_comp"); lia)
  trivial
noncomputable def NsOf (o : Obj) (m : Str → Option Value) : Prop := ∃ es ep, o.data = .dict es ep ∧ StrKeys es ∧ ∀ name, nsFind es name = m name
theorem NsOf.at {o : Obj} {m : Str → Option Value} (h : NsOf o m) {hp : Heap} {a : Addr} (ha : hp.get? a = some o) : hp.Ns a m := by
  obtain ⟨es, ep, r⟩ := h
  refine ⟨o, es, ep, ha, r⟩
theorem NsOf.of {hp : Heap} {a : Addr} {m : Str → Option Value} (h : hp.Ns a m) : ∃ o, hp.get? a = some o ∧ NsOf o m := by
  obtain ⟨o, es, ep, ha, r⟩ := h
  refine ⟨o, ha, es, ep, r⟩
noncomputable def CompB (g : Heap) (L : Addr) (fl : List (Str × Option Value)) (J : Nat → List Value → List (Addr × Obj) → Prop) (i : Nat) (vs : List Value) (it : Addr) (o : Obj) (D : Addr) (oD : Obj) (B : List (Addr × Obj) → Prop) (s s' : Shared) : Prop :=
  ∃ W h tk, s' = { s with heap := h, toks := tk } ∧ Fr g L h (fv fl) ∧ News g L h W ∧ (W.map (·.1)).Nodup ∧ W.lookup it = some o ∧ W.lookup D = some oD ∧ B W ∧ J i vs W
noncomputable def CompQ (g : Heap) (L : Addr) (fl : List (Str × Option Value)) (J : Nat → List Value → List (Addr × Obj) → Prop) (i : Nat) (vs : List Value) (it : Addr) (o : Obj) (D : Addr) (oD : Obj) (C : Addr) (s s' : Shared) : Prop :=
  ∃ W h tk, s' = { s with heap := h, toks := tk } ∧ Fr g L h (fv fl) ∧ News g L h W ∧ (W.map (·.1)).Nodup ∧ W.lookup it = some o ∧ W.lookup D = some oD ∧ (∃ oC m, W.lookup C = some oC ∧ NsOf oC m) ∧ J i vs W
theorem cq {g : Heap} {L : Addr} {fl : List (Str × Option Value)} {J : Nat → List Value → List (Addr × Obj) → Prop} {i : Nat} {vs : List Value} {it : Addr} {o : Obj} {D : Addr} {oD : Obj} {C : Addr} {s s' : Shared} (W : List (Addr × Obj)) (h : Heap) (tk : Nat) (e : s' = { s with heap := h, toks := tk }) (F : Fr g L h (fv fl)) (N : News g L h W) (nd : (W.map (·.1)).Nodup) (h1 : W.lookup it = some o) (h2 : W.lookup D = some oD) (h3 : ∃ oC m, W.lookup C = some oC ∧ NsOf oC m) (j : J i vs W) : CompQ g L fl J i vs it o D oD C s s' := ⟨W, h, tk, e, F, N, nd, h1, h2, h3, j⟩
section
variable {w : World} {A : Around} {E : Value → Shared → Prop} {s : Shared} {g : Heap} {L : Addr} {env : Env}
theorem evalComp {elt iter : PySem.Expr} {x : Str} {px : Pos} {ifs : List PySem.Expr} {scope : Scope} {cl : List (Str × Addr)} {pos : Pos} {Q : Value → Shared → Prop}
    (hclos : closureFor scope env = pure cl) (hkind : scope.kind = .function) (hnames : ∀ y ∈ scope.names, y.2 = .local → scope.names.lookup y.1 = some .local)
    (h : wpAny (model PG w) A (eval iter env) (fun xv s₁ => wpAny (model PG w) A (pyIter xv) (fun it s₂ => wpAny (model PG w) A (newList []) (fun acc s₃ => wpAny (model PG w) A (newFunctionEnv scope env.globals cl [] env.qual none .none (some env)) (fun cenv s₄ =>
      codeAny (model PG w) A (.compStart (.ListComp elt [⟨.Name x px, iter, ifs, 0⟩] scope pos) 0 it acc { cenv with scope := relabel scope env }) (compPost (model PG w) A E none Q acc cenv.locals) s₄) E s₃) E s₂) E s₁) E s)
    (hs : ∀ x, foldedSetIterable iter env x = pure x := by intro _; rfl) :
    wpAny (model PG w) A (eval (.ListComp elt [⟨.Name x px, iter, ifs, 0⟩] scope pos) env) Q E s := by
  rw [eval_ListComp]
  exact wpAny_comprehension_free (use := none) rfl hs hclos hkind hnames h
theorem nHit {K : Obj → Prop} {W : List (Addr × Obj)} {a b : Addr} {o ob : Obj} (ha : W.lookup a = some o) (hn : ¬ K o) (hb : K ob ∨ b ≠ a) (e : W.lookup b = some ob) : b ≠ a := fun q => by
  subst q
  rw [ha] at e; cases e
  exact hb.elim hn fun z => z rfl
end
namespace loopCore_
def Q_ (w : World) (A : Around) (s : Shared) (g : Heap) (L : Addr) (K : Obj → Prop) (priv : Addr → Prop) (B : List (Addr × Obj) → Prop) (Bv : Value → List (Addr × Obj) → Prop) (xv : Value) (T : String) (n : Nat) (H : Heap → Prop) (IT : Nat → Obj → Prop) (It : Nat → Value → Prop) (fl : List (Str × Option Value)) (elt : PySem.Expr) (target : PySem.Expr) (iter : PySem.Expr) (ifs : List PySem.Expr) (scope : Scope) (pos : Pos) (ce : Env) (it : Addr) (D : Addr) (W0 : List (Addr × Obj)) (h0 : Heap) (tk0 : Nat) (nD0 : Nat) (o0 : Obj) : Prop := ∀ (I : Iter w A xv T n H IT It) (R : Result → Shared → Prop) (J : Nat → List Value → List (Addr × Obj) → Prop) (e1 : it ≠ D) (pit : ¬ priv it) (pD : ¬ priv D) (hh : A.handled = none) (hn : n ≤ 900) (hlist : ∀ i vs W h, J i vs W → Fr g L h (fv fl) → News g L h W → H h) (hK : (∀ i o, IT i o → ¬ K o) ∧ ∀ vs n, ¬ K (listOf vs n)) (st : ∀ i vs W W', (W'.map (·.1)).Nodup → (∀ b o, K o ∨ (b ≠ it ∧ b ≠ D ∧ ¬ priv b) → W.lookup b = some o → W'.lookup b = some o) → J i vs W → J i vs W') (bst : ∀ W W', (∀ b o, priv b → W.lookup b = some o → W'.lookup b = some o) → B W → B W') (store : ∀ v W h tk (Q : Unit → Shared → Prop) (E : Value → Shared → Prop), Fr g L h (fv fl) → News g L h W → (W.map (·.1)).Nodup → B W → (∀ W' h' tk', Fr g L h' (fv fl) → News g L h' W' → (W'.map (·.1)).Nodup → Bv v W' → (∀ b o, K o ∨ ¬ priv b → W.lookup b = some o → W'.lookup b = some o) → (∀ b o, ¬ priv b → W.lookup b = some o → W'.lookup b = some o) → Q () { s with heap := h', toks := tk' }) →
      wpAny (model PG w) A (assign target ce v) Q E { s with heap := h, toks := tk }) (turn : ∀ i v vs W h tk o nD, i < n → It i v → J i vs W → vs.length ≤ i → Fr g L h (fv fl) → News g L h W → (W.map (·.1)).Nodup → W.lookup it = some o → W.lookup D = some (listOf vs.toArray nD) → Bv v W →
      wpAny (model PG w) A (forIn ifs true fun c r => if r = true then do let ok ← isTrue c ce (eval c ce); pure (ForInStep.yield ok) else pure (ForInStep.yield r))
        (fun ok s₃ => if ok = true then wpAny (model PG w) A (eval elt ce) (fun y s₄ => CompB g L fl J (i + 1) (vs ++ [y]) it o D (listOf vs.toArray nD) B s s₄) (fun _ _ => False) s₃
          else CompB g L fl J (i + 1) vs it o D (listOf vs.toArray nD) B s s₃) (fun _ _ => False) { s with heap := h, toks := tk }) (fin : ∀ vs W h tk nD, J n vs W → Fr g L h (fv fl) → News g L h W → (W.map (·.1)).Nodup → W.lookup D = some (listOf vs.toArray nD) → B W → R (.ok .next) { s with heap := h, toks := tk }) (ht : ∀ v, letOwnedTupleGo target (.ref it) v = pure ()) (F0 : Fr g L h0 (fv fl)) (N0 : News g L h0 W0) (nd0 : (W0.map (·.1)).Nodup) (hl0 : W0.lookup it = some o0) (hio0 : IT 0 o0) (hlD0 : W0.lookup D = some (listOf [].toArray nD0)) (b0 : B W0) (j0 : J 0 [] W0), codeAny (model PG w) A (.compLoop (.ListComp elt [⟨target, iter, ifs, 0⟩] scope pos) 0 (.ref it) (.ref D) ce) R { s with heap := h0, toks := tk0 }
noncomputable section
def P_ (x : World × Around × Shared × Heap × Addr × (Obj → Prop) × (Addr → Prop) × (List (Addr × Obj) → Prop) × (Value → List (Addr × Obj) → Prop) × Value × String × Nat × (Heap → Prop) × (Nat → Obj → Prop) × (Nat → Value → Prop) × (List (Str × Option Value)) × PySem.Expr × PySem.Expr × PySem.Expr × (List PySem.Expr) × Scope × Pos × Env × Addr × Addr × (List (Addr × Obj)) × Heap × Nat × Nat × Obj) : Prop := Q_ x.1 x.2.1 x.2.2.1 x.2.2.2.1 x.2.2.2.2.1 x.2.2.2.2.2.1 x.2.2.2.2.2.2.1 x.2.2.2.2.2.2.2.1 x.2.2.2.2.2.2.2.2.1 x.2.2.2.2.2.2.2.2.2.1 x.2.2.2.2.2.2.2.2.2.2.1 x.2.2.2.2.2.2.2.2.2.2.2.1 x.2.2.2.2.2.2.2.2.2.2.2.2.1 x.2.2.2.2.2.2.2.2.2.2.2.2.2.1 x.2.2.2.2.2.2.2.2.2.2.2.2.2.2.1 x.2.2.2.2.2.2.2.2.2.2.2.2.2.2.2.1 x.2.2.2.2.2.2.2.2.2.2.2.2.2.2.2.2.1 x.2.2.2.2.2.2.2.2.2.2.2.2.2.2.2.2.2.1 x.2.2.2.2.2.2.2.2.2.2.2.2.2.2.2.2.2.2.1 x.2.2.2.2.2.2.2.2.2.2.2.2.2.2.2.2.2.2.2.1 x.2.2.2.2.2.2.2.2.2.2.2.2.2.2.2.2.2.2.2.2.1 x.2.2.2.2.2.2.2.2.2.2.2.2.2.2.2.2.2.2.2.2.2.1 x.2.2.2.2.2.2.2.2.2.2.2.2.2.2.2.2.2.2.2.2.2.2.1 x.2.2.2.2.2.2.2.2.2.2.2.2.2.2.2.2.2.2.2.2.2.2.2.1 x.2.2.2.2.2.2.2.2.2.2.2.2.2.2.2.2.2.2.2.2.2.2.2.2.1 x.2.2.2.2.2.2.2.2.2.2.2.2.2.2.2.2.2.2.2.2.2.2.2.2.2.1 x.2.2.2.2.2.2.2.2.2.2.2.2.2.2.2.2.2.2.2.2.2.2.2.2.2.2.1 x.2.2.2.2.2.2.2.2.2.2.2.2.2.2.2.2.2.2.2.2.2.2.2.2.2.2.2.1 x.2.2.2.2.2.2.2.2.2.2.2.2.2.2.2.2.2.2.2.2.2.2.2.2.2.2.2.2.1 x.2.2.2.2.2.2.2.2.2.2.2.2.2.2.2.2.2.2.2.2.2.2.2.2.2.2.2.2.2
def x_ := pick (dW, callerA, ({} : Shared), default, default, default, default, default, default, default, default, default, default, default, default, default, default, default, default, default, default, default, default, default, default, default, default, default, default, default) fun x => ¬ P_ x
@[irreducible] def w := x_.1
@[irreducible] def A := x_.2.1
@[irreducible] def s := x_.2.2.1
@[irreducible] def g := x_.2.2.2.1
@[irreducible] def L := x_.2.2.2.2.1
@[irreducible] def K := x_.2.2.2.2.2.1
@[irreducible] def priv := x_.2.2.2.2.2.2.1
@[irreducible] def B := x_.2.2.2.2.2.2.2.1
@[irreducible] def Bv := x_.2.2.2.2.2.2.2.2.1
@[irreducible] def xv := x_.2.2.2.2.2.2.2.2.2.1
@[irreducible] def T := x_.2.2.2.2.2.2.2.2.2.2.1
@[irreducible] def n := x_.2.2.2.2.2.2.2.2.2.2.2.1
@[irreducible] def H := x_.2.2.2.2.2.2.2.2.2.2.2.2.1
@[irreducible] def IT := x_.2.2.2.2.2.2.2.2.2.2.2.2.2.1
@[irreducible] def It := x_.2.2.2.2.2.2.2.2.2.2.2.2.2.2.1
@[irreducible] def fl := x_.2.2.2.2.2.2.2.2.2.2.2.2.2.2.2.1
@[irreducible] def elt := x_.2.2.2.2.2.2.2.2.2.2.2.2.2.2.2.2.1
@[irreducible] def target := x_.2.2.2.2.2.2.2.2.2.2.2.2.2.2.2.2.2.1
@[irreducible] def iter := x_.2.2.2.2.2.2.2.2.2.2.2.2.2.2.2.2.2.2.1
@[irreducible] def ifs := x_.2.2.2.2.2.2.2.2.2.2.2.2.2.2.2.2.2.2.2.1
@[irreducible] def scope := x_.2.2.2.2.2.2.2.2.2.2.2.2.2.2.2.2.2.2.2.2.1
@[irreducible] def pos := x_.2.2.2.2.2.2.2.2.2.2.2.2.2.2.2.2.2.2.2.2.2.1
@[irreducible] def ce := x_.2.2.2.2.2.2.2.2.2.2.2.2.2.2.2.2.2.2.2.2.2.2.1
@[irreducible] def it := x_.2.2.2.2.2.2.2.2.2.2.2.2.2.2.2.2.2.2.2.2.2.2.2.1
@[irreducible] def D := x_.2.2.2.2.2.2.2.2.2.2.2.2.2.2.2.2.2.2.2.2.2.2.2.2.1
@[irreducible] def W0 := x_.2.2.2.2.2.2.2.2.2.2.2.2.2.2.2.2.2.2.2.2.2.2.2.2.2.1
@[irreducible] def h0 := x_.2.2.2.2.2.2.2.2.2.2.2.2.2.2.2.2.2.2.2.2.2.2.2.2.2.2.1
@[irreducible] def tk0 := x_.2.2.2.2.2.2.2.2.2.2.2.2.2.2.2.2.2.2.2.2.2.2.2.2.2.2.2.1
@[irreducible] def nD0 := x_.2.2.2.2.2.2.2.2.2.2.2.2.2.2.2.2.2.2.2.2.2.2.2.2.2.2.2.2.1
@[irreducible] def o0 := x_.2.2.2.2.2.2.2.2.2.2.2.2.2.2.2.2.2.2.2.2.2.2.2.2.2.2.2.2.2
end
theorem core : Q_ w A s g L K priv B Bv xv T n H IT It fl elt target iter ifs scope pos ce it D W0 h0 tk0 nD0 o0 := by
  intro I R J e1 pit pD hh hn hlist hK st bst store turn fin ht F0 N0 nd0 hl0 hio0 hlD0 b0 j0
  refine codeAny_compLoop_tests (fun k s' => ∃ i vs W h tk nD o, k = n - i ∧ i ≤ n ∧ vs.length ≤ i ∧ s' = { s with heap := h, toks := tk } ∧ Fr g L h (fv fl) ∧ News g L h W ∧ ((W).map (·.1)).Nodup ∧ (W).lookup it = some o ∧ IT i o ∧ (W).lookup D = some (listOf vs.toArray nD) ∧ B W ∧ J i vs W)
    ?_ n (i7 0 [] W0 h0 tk0 nD0 o0 ⟨rfl, Nat.zero_le _, Nat.le_refl _, rfl, F0, N0, nd0, hl0, hio0, hlD0, b0, j0⟩) ht
  intro k s' hx9; obtain ⟨i, vs, W, h, tk, nD, o, rfl, hi, hvl, rfl, F, N, nd, hl, hio, hlD, b, j⟩ := hx9
  have hL := hlist i vs W h j F N
  have kp : ∀ {W' : List (Addr × Obj)}, (∀ b o, b ≠ it → (W).lookup b = some o → W'.lookup b = some o) → B W' := fun L => bst W _ (fun b o pb e => L b o (fun q => pit (q ▸ pb)) e) b
  by_cases hxi : i < n
  · refine I.next { s with heap := h, toks := tk } _ _ i _ o (nget N hl) hio hL hxi fun h' v tk1 o' ho' hio' hs' hiv => ?_
    obtain ⟨F', N', nd'⟩ := Mine.turn F N nd hl hs' ho'
    have hsome : ((W).lookup it).isSome = true := by rw [hl]; rfl
    have j' : J i vs (putW W it o') := st i vs W _ nd' (fun b ob hb e => by rw [look_put hsome, if_neg (nHit hl (hK.1 _ _ hio) (hb.imp_right fun z => z.1) e)]; exact e) j
    refine store v _ h' tk1 _ _ F' N' nd' (kp fun b ob hb e => by rw [look_put hsome, if_neg hb]; exact e) fun W2 h2 tk2 F2 N2 nd2 b2 kp2 kq2 => ?_
    have hl2 := kq2 it o' pit (by rw [look_put hsome, if_pos rfl])
    have hlD2 := kq2 D _ pD (by rw [look_put hsome, if_neg e1.symm]; exact hlD)
    have j2 := st i vs _ _ nd2 (fun b ob hb e => kp2 b ob (hb.imp_right fun z => z.2.2) e) j'
    refine wpAny_mono (turn i v vs W2 h2 tk2 o' nD hxi hiv j2 hvl F2 N2 nd2 hl2 hlD2 b2) (fun ok s₃ h3 => ?_) fun _ _ x => x.elim
    cases ok with
    | false =>
      simp only [Bool.false_eq_true, if_false] at h3 ⊢
      obtain ⟨W4, h4, tk4, rfl, F4, N4, nd4, hl4, hlD4, b4, j4⟩ := h3
      refine ⟨n - (i + 1), by omega, i + 1, vs, W4, h4, tk4, nD, o', rfl, by omega, by omega, rfl, F4, N4, nd4, hl4, hio', hlD4, b4, j4⟩
    | true =>
      simp only [if_true] at h3 ⊢
      refine wpAny_mono h3 (fun y s₄ h4 => ?_) fun _ _ x => x.elim
      obtain ⟨W4, h4, tk4, rfl, F4, N4, nd4, hl4, hlD4, b4, j4⟩ := h4
      refine appL F4 N4 (by omega) (upd_put nd4 hlD4) fun h5 F5 N5 => ?_
      have hsD : (W4.lookup D).isSome = true := by rw [hlD4]; rfl
      have nd5 : ((putW W4 D (listOf (vs ++ [y]).toArray (nD + 1))).map (·.1)).Nodup := by rw [putW_names]; exact nd4
      refine ⟨n - (i + 1), by omega, i + 1, vs ++ [y], _, h5, tk4, nD + 1, o', rfl, by omega, by simp; omega, rfl, F5, N5, nd5, by rw [look_put hsD, if_neg e1]; exact hl4, hio', by rw [look_put hsD, if_pos rfl], bst W4 _ (fun b ob pb e => by rw [look_put hsD, if_neg (fun q : b = D => pD (q ▸ pb))]; exact e) b4,
        st _ _ W4 _ nd5 (fun b ob hb e => by rw [look_put hsD, if_neg (nHit hlD4 (hK.2 _ _) (hb.imp_right fun z => z.2.1) e)]; exact e) j4⟩
  · have hi2 : i = n := by omega
    subst hi2
    refine I.fin hh { s with heap := h, toks := tk } _ _ _ o (nget N hl) hio hL fun h' tk1 hs' => ?_
    have hn' := N _ (look_mem hl)
    have F1 : Fr g L h' (fv fl) := ⟨by
        obtain ⟨oL, es, ep, hL', r⟩ := F.ns
        refine ⟨oL, es, ep, hs' _ _ hn'.2.1.symm hL', r⟩, fun b z q => hs' _ _ (fun zz => by rw [zz, hn'.2.2] at q; cases q) (F.keep b z q), F.above⟩
    have ndf1 : (((W).filter fun p => decide (p.1 ≠ it)).map (·.1)).Nodup := List.Sublist.nodup (List.Sublist.map _ List.filter_sublist) nd
    have lk1 : ∀ b ob, b ≠ it → (W).lookup b = some ob → ((W).filter fun p => decide (p.1 ≠ it)).lookup b = some ob := fun b ob b1 e => mem_look ndf1 (List.mem_filter.mpr ⟨look_mem e, decide_eq_true b1⟩)
    exact fin vs _ h' tk1 nD (st _ _ W _ ndf1 (fun b ob hb e => lk1 b ob (nHit hl (hK.1 _ _ hio) (hb.imp_right fun z => z.1) e) e) j) F1 (fun p hp => ⟨hs' _ _ (of_decide_eq_true (List.mem_filter.mp hp).2) (N p (List.mem_filter.mp hp).1).1, (N p (List.mem_filter.mp hp).1).2⟩) ndf1 (lk1 _ _ e1.symm hlD) (kp lk1)
theorem all : ∀ y, P_ y := @pick_all _ _ P_ (by with_unfolding_all exact core)
end loopCore_
theorem loopCore {w A s g L K priv B Bv xv T n H IT It fl elt target iter ifs scope pos ce it D W0 h0 tk0 nD0 o0} : loopCore_.Q_ w A s g L K priv B Bv xv T n H IT It fl elt target iter ifs scope pos ce it D W0 h0 tk0 nD0 o0 := @loopCore_.all (w, A, s, g, L, K, priv, B, Bv, xv, T, n, H, IT, It, fl, elt, target, iter, ifs, scope, pos, ce, it, D, W0, h0, tk0, nD0, o0)
section
variable {w : World} {A : Around} {E : Value → Shared → Prop} {s : Shared} {g : Heap} {L : Addr} {env : Env}
theorem dropC {h h3 : Heap} {C : Addr} {oC : Obj} {fl : List (Str × Option Value)} {W : List (Addr × Obj)} (F : Fr g L h (fv fl)) (N : News g L h W) (nd : (W.map (·.1)).Nodup) (hl : W.lookup C = some oC) (hs : Heap.SameBut C h h3) :
    Fr g L h3 (fv fl) ∧ News g L h3 (W.filter fun p => decide (p.1 ≠ C)) ∧ ((W.filter fun p => decide (p.1 ≠ C)).map (·.1)).Nodup := by
  have hnC := N _ (look_mem hl)
  have keep : ∀ b ob, b ≠ C → h.get? b = some ob → h3.get? b = some ob := fun b ob b1 e => hs.extBut b ob b1 e
  refine ⟨⟨?_, fun b z q => keep _ _ (fun zz => by rw [zz, hnC.2.2] at q; cases q) (F.keep b z q), F.above⟩, fun p hp => ⟨keep _ _ (of_decide_eq_true (List.mem_filter.mp hp).2) (N p (List.mem_filter.mp hp).1).1, (N p (List.mem_filter.mp hp).1).2⟩, List.Sublist.nodup (List.Sublist.map _ List.filter_sublist) nd⟩
  obtain ⟨oL, es, ep, hL', r⟩ := F.ns
  refine ⟨oL, es, ep, keep _ _ hnC.2.1.symm hL', r⟩
theorem compCore {K : Obj → Prop} {xv : Value} {T : String} {n : Nat} {H : Heap → Prop} {IT : Nat → Obj → Prop} {It : Nat → Value → Prop} (I : Iter w A xv T n H IT It) {fl : List (Str × Option Value)} {W0 : List (Addr × Obj)}
    {elt iter : PySem.Expr} {x : Str} {px : Pos} {ifs : List PySem.Expr} {scope : Scope} {cl : List (Str × Addr)} {pos : Pos} (R : Value → Addr → Result → Shared → Prop) (J : Nat → List Value → List (Addr × Obj) → Prop)
    (hself : ∀ (s : Shared) (Q : Value → Shared → Prop) (E : Value → Shared → Prop) (it : Addr) (o : Obj), s.heap.get? it = some o → IT 0 o → Q (.ref it) s → wpAny (model PG w) A (pyIter (.ref it)) Q E s)
    (hh : A.handled = none) (hcell : ∀ y ∈ scope.names, y.2 ≠ .cell) (hkind : scope.kind = .function) (hx : scope.names.lookup x = some .local) (hn : n ≤ 900)
    (F0 : Fr g L s.heap (fv fl)) (N0 : News g L s.heap W0) (nd0 : (W0.map (·.1)).Nodup)
    (hlist : ∀ i vs W h, J i vs W → Fr g L h (fv fl) → News g L h W → H h) (h0 : J 0 [] W0)
    (hK : (∀ i o, IT i o → ¬ K o) ∧ (∀ vs n, ¬ K (listOf vs n)) ∧ ∀ o m, NsOf o m → ¬ K o)
    (hst : ∀ it D C, (∀ p ∈ W0, p.1 ≠ it ∧ p.1 ≠ D ∧ p.1 ≠ C) → ∀ i vs W W', (W'.map (·.1)).Nodup → (∀ b o, K o ∨ (b ≠ it ∧ b ≠ D ∧ b ≠ C) → W.lookup b = some o → W'.lookup b = some o) → J i vs W → J i vs W')
    (turn : ∀ i v vs W h tk it o D nD C oC m, i < n → It i v → J i vs W → vs.length ≤ i → Fr g L h (fv fl) → News g L h W → (W.map (·.1)).Nodup → (∀ p ∈ W0, p.1 ≠ it ∧ p.1 ≠ D ∧ p.1 ≠ C) → W.lookup it = some o → W.lookup D = some (listOf vs.toArray nD) → W.lookup C = some oC → NsOf oC m → m x = some v →
      wpAny (model PG w) A (forIn ifs true fun c r => if r = true then do let ok ← isTrue c (compEnvC scope cl C env) (eval c (compEnvC scope cl C env)); pure (ForInStep.yield ok) else pure (ForInStep.yield r))
        (fun ok s₃ => if ok = true then wpAny (model PG w) A (eval elt (compEnvC scope cl C env)) (fun y s₄ => CompQ g L fl J (i + 1) (vs ++ [y]) it o D (listOf vs.toArray nD) C s s₄) (fun _ _ => False) s₃
          else CompQ g L fl J (i + 1) vs it o D (listOf vs.toArray nD) C s s₃) (fun _ _ => False) { s with heap := h, toks := tk })
    (fin' : ∀ vs W h tk D C nD oC m, J n vs W → J n vs (W.filter fun p => decide (p.1 ≠ C)) → Fr g L h (fv fl) → News g L h W → (W.map (·.1)).Nodup → W.lookup D = some (listOf vs.toArray nD) → W.lookup C = some oC → NsOf oC m → D ≠ C → (∀ p ∈ W0, p.1 ≠ D) → R (.ref D) C (.ok .next) { s with heap := h, toks := tk }) :
    wpAny (model PG w) A (pyIter xv) (fun it s₂ => wpAny (model PG w) A (newList []) (fun acc s₃ => wpAny (model PG w) A (newFunctionEnv scope env.globals cl [] env.qual none .none (some env)) (fun cenv s₄ =>
      codeAny (model PG w) A (.compStart (.ListComp elt [⟨.Name x px, iter, ifs, 0⟩] scope pos) 0 it acc { cenv with scope := relabel scope env }) (R acc cenv.locals) s₄) E s₃) E s₂) E s := by
  refine I.start s _ _ (hlist 0 [] W0 s.heap h0 F0 N0) fun o0 ho0 => ?_
  have N1 := N0.push F0 o0 (I.free _ _ ho0)
  have F1 := F0.push o0
  have hlt1 : ∀ p ∈ W0, p.1 < s.heap.objs.size := fun p hp => Heap.lt_size (N0 p hp).1
  refine wpAny_newObj_type (wpAny_newFunctionEnv hcell (by intro y hy; simp at hy) (fun h₁ hns₁ hsb₁ => ?_) hkind)
  dsimp only at hns₁ hsb₁ ⊢
  have N2 := N1.push F1 { cls := .type "list", dict := none, data := .seq ([] : List Value).toArray } rfl
  have F2 := F1.push { cls := .type "list", dict := none, data := .seq ([] : List Value).toArray }
  have hD : (s.heap.push o0).objs.size = s.heap.objs.size + 1 := Heap.size_push ..
  generalize hH2 : (s.heap.push o0).push { cls := .type "list", dict := none, data := .seq ([] : List Value).toArray } = H2 at hns₁ hsb₁ N2 F2 ⊢
  have hC : H2.objs.size = s.heap.objs.size + 2 := by rw [← hH2, Heap.size_push, hD]
  obtain ⟨oC, hoC, hnC⟩ := NsOf.of hns₁
  have old : ∀ b o, H2.get? b = some o → h₁.get? b = some o := fun b o e => hsb₁.extBut b o (Nat.ne_of_lt (Heap.lt_size e)) (Heap.get?_push_of_some _ e)
  obtain ⟨F3, N3, hlt3⟩ := extend1 F2 N2 old hoC (Heap.get?_none_of_le (Nat.le_refl _))
  have nd3 : (((H2.objs.size, oC) :: ((s.heap.push o0).objs.size, ({ cls := .type "list", dict := none, data := .seq ([] : List Value).toArray } : Obj)) :: (s.heap.objs.size, o0) :: W0).map (·.1)).Nodup := by
    rw [List.map_cons, List.nodup_cons]
    refine ⟨fun hm => ?_, ?_⟩
    · obtain ⟨p, hp, e⟩ := List.mem_map.mp hm
      exact hlt3 p hp e
    rw [List.map_cons, List.map_cons, List.nodup_cons, List.nodup_cons]
    refine ⟨fun hm => ?_, fun hm => ?_, nd0⟩
    · rcases List.mem_cons.mp hm with e | hm
      · rw [hD] at e; exact absurd e (Nat.succ_ne_self _)
      · obtain ⟨p, hp, e⟩ := List.mem_map.mp hm
        have := hlt1 p hp
        have e' : p.1 = (s.heap.push o0).objs.size := e
        rw [e', hD] at this
        exact absurd this (Nat.not_lt.mpr (Nat.le_succ _))
    · obtain ⟨p, hp, e⟩ := List.mem_map.mp hm
      exact Nat.ne_of_lt (hlt1 p hp) e
  have ap : ∀ p ∈ W0, p.1 ≠ s.heap.objs.size ∧ p.1 ≠ (s.heap.push o0).objs.size ∧ p.1 ≠ H2.objs.size := fun p hp => by
    have := hlt1 p hp
    refine ⟨Nat.ne_of_lt this, ?_, ?_⟩
    · rw [hD]; exact Nat.ne_of_lt (Nat.lt_succ_of_lt this)
    · rw [hC]; exact Nat.ne_of_lt (Nat.lt_succ_of_lt (Nat.lt_succ_of_lt this))
  have ne1 : s.heap.objs.size ≠ (s.heap.push o0).objs.size := by rw [hD]; exact Nat.ne_of_lt (Nat.lt_succ_self _)
  have ne2 : s.heap.objs.size ≠ H2.objs.size := by rw [hC]; exact Nat.ne_of_lt (Nat.lt_succ_of_lt (Nat.lt_succ_self _))
  have ne3 : (s.heap.push o0).objs.size ≠ H2.objs.size := by rw [hC, hD]; exact Nat.ne_of_lt (Nat.lt_succ_self _)
  have hl0 := mem_look nd3 (a := s.heap.objs.size) (o := o0) (.tail _ (.tail _ (.head _)))
  have st := hst _ _ _ ap
  have fin := loopCore (K := K) (priv := fun b => b = H2.objs.size) (B := fun W => ∃ oC m, W.lookup H2.objs.size = some oC ∧ NsOf oC m) (Bv := fun v W => ∃ oC m, W.lookup H2.objs.size = some oC ∧ NsOf oC m ∧ m x = some v) (s := s) (target := .Name x px) (elt := elt) (iter := iter) (ifs := ifs) (scope := scope) (pos := pos) (ce := compEnvC scope cl H2.objs.size env) I (R (.ref (s.heap.push o0).objs.size) H2.objs.size) J ne1 ne2 ne3 hh hn hlist ⟨hK.1, hK.2.1⟩ st
    (fun W W' L ⟨oC, m, hlC, hm⟩ => ⟨oC, m, L _ _ rfl hlC, hm⟩) (fun v W h tk Q E F N nd ⟨oC, m, hlC, hm⟩ hq => ?_) (fun i v vs W h tk o nD hxi hiv j hvl F N nd hl hlD ⟨oC, m, hlC, hm, hmx⟩ => turn i v vs W h tk _ o _ nD _ oC m hxi hiv j hvl F N nd ap hl hlD hlC hm hmx)
    (fun vs W h tk nD j F N nd hlD ⟨oC, m, hlC, hm⟩ => ?_) (fun _ => rfl) (tk0 := s.toks + ([] : List (Str × Value)).length) F3 N3 nd3 hl0 ho0 (mem_look nd3 (.tail _ (.head _))) ⟨oC, _, mem_look nd3 (.head _), hnC⟩ (st 0 [] W0 _ nd3 (fun b o _ e => mem_look nd3 (.tail _ (.tail _ (.tail _ (look_mem e))))) h0)
  · exact codeAny_compStart_list fin (hself _ _ _ _ _ (nget N3 hl0) ho0 fin)
  · refine wpAny_assign_Name (wpAny_storeName_local (env := compEnvC scope cl H2.objs.size env) (lookup_relabel_local hx) (hm.at (nget N hlC)) (fun h₂ hn₂ hs₂ => ?_) (by simp [compEnvC, relabel, hkind]))
    obtain ⟨oC2, hoC2, hnC2⟩ := NsOf.of hn₂
    obtain ⟨F', N', nd'⟩ := Mine.turn F N nd hlC hs₂ hoC2
    have hsome : (W.lookup H2.objs.size).isSome = true := by rw [hlC]; rfl
    exact hq _ _ _ F' N' nd' ⟨oC2, _, by rw [look_put hsome, if_pos rfl], hnC2, if_pos rfl⟩ (fun b ob hb e => by rw [look_put hsome, if_neg (nHit hlC (hK.2.2 _ _ hm) hb e)]; exact e) (fun b ob hb e => by rw [look_put hsome, if_neg hb]; exact e)
  · have ndf : ((W.filter fun p => decide (p.1 ≠ H2.objs.size)).map (·.1)).Nodup := List.Sublist.nodup (List.Sublist.map _ List.filter_sublist) nd
    exact fin' vs W h tk _ _ nD oC m j (st _ _ _ _ ndf (fun b ob hb e => mem_look ndf (List.mem_filter.mpr ⟨look_mem e, decide_eq_true fun q => nHit hlC (hK.2.2 _ _ hm) (hb.imp_right fun z => z.2.2) e q⟩)) j) F N nd hlD hlC hm ne3 (fun p hp => (ap p hp).2.1)
theorem compGenX {K : Obj → Prop} {xv : Value} {T : String} {n : Nat} {H : Heap → Prop} {IT : Nat → Obj → Prop} {It : Nat → Value → Prop} (I : Iter w A xv T n H IT It) {fl : List (Str × Option Value)} {W0 : List (Addr × Obj)}
    {elt iter : PySem.Expr} {x : Str} {px : Pos} {ifs : List PySem.Expr} {scope : Scope} {cl : List (Str × Addr)} {pos : Pos} {Q : Value → Shared → Prop} (J : Nat → List Value → List (Addr × Obj) → Prop)
    (hself : ∀ (s : Shared) (Q : Value → Shared → Prop) (E : Value → Shared → Prop) (it : Addr) (o : Obj), s.heap.get? it = some o → IT 0 o → Q (.ref it) s → wpAny (model PG w) A (pyIter (.ref it)) Q E s)
    (hh : A.handled = none) (hcell : ∀ y ∈ scope.names, y.2 ≠ .cell) (hkind : scope.kind = .function) (hx : scope.names.lookup x = some .local) (hn : n ≤ 900)
    (F0 : Fr g L s.heap (fv fl)) (N0 : News g L s.heap W0) (nd0 : (W0.map (·.1)).Nodup)
    (hlist : ∀ i vs W h, J i vs W → Fr g L h (fv fl) → News g L h W → H h) (h0 : J 0 [] W0)
    (hK : (∀ i o, IT i o → ¬ K o) ∧ (∀ vs n, ¬ K (listOf vs n)) ∧ ∀ o m, NsOf o m → ¬ K o)
    (hst : ∀ it D C, (∀ p ∈ W0, p.1 ≠ it ∧ p.1 ≠ D ∧ p.1 ≠ C) → ∀ i vs W W', (W'.map (·.1)).Nodup → (∀ b o, K o ∨ (b ≠ it ∧ b ≠ D ∧ b ≠ C) → W.lookup b = some o → W'.lookup b = some o) → J i vs W → J i vs W')
    (turn : ∀ i v vs W h tk it o D nD C oC m, i < n → It i v → J i vs W → vs.length ≤ i → Fr g L h (fv fl) → News g L h W → (W.map (·.1)).Nodup → (∀ p ∈ W0, p.1 ≠ it ∧ p.1 ≠ D ∧ p.1 ≠ C) → W.lookup it = some o → W.lookup D = some (listOf vs.toArray nD) → W.lookup C = some oC → NsOf oC m → m x = some v →
      wpAny (model PG w) A (forIn ifs true fun c r => if r = true then do let ok ← isTrue c (compEnvC scope cl C env) (eval c (compEnvC scope cl C env)); pure (ForInStep.yield ok) else pure (ForInStep.yield r))
        (fun ok s₃ => if ok = true then wpAny (model PG w) A (eval elt (compEnvC scope cl C env)) (fun y s₄ => CompQ g L fl J (i + 1) (vs ++ [y]) it o D (listOf vs.toArray nD) C s s₄) (fun _ _ => False) s₃
          else CompQ g L fl J (i + 1) vs it o D (listOf vs.toArray nD) C s s₃) (fun _ _ => False) { s with heap := h, toks := tk })
    (done : ∀ vs W h tk D nD, J n vs W → Fr g L h (fv fl) → News g L h W → (W.map (·.1)).Nodup → W.lookup D = some (listOf vs.toArray nD) → (∀ p ∈ W0, p.1 ≠ D) → Q (.ref D) { s with heap := h, toks := tk }) :
    wpAny (model PG w) A (pyIter xv) (fun it s₂ => wpAny (model PG w) A (newList []) (fun acc s₃ => wpAny (model PG w) A (newFunctionEnv scope env.globals cl [] env.qual none .none (some env)) (fun cenv s₄ =>
      codeAny (model PG w) A (.compStart (.ListComp elt [⟨.Name x px, iter, ifs, 0⟩] scope pos) 0 it acc { cenv with scope := relabel scope env }) (compPost (model PG w) A E none Q acc cenv.locals) s₄) E s₃) E s₂) E s := by
  refine compCore I (compPost (model PG w) A E none Q) J hself hh hcell hkind hx hn F0 N0 nd0 hlist h0 hK hst turn fun vs W h tk D C nD oC m _ j F N nd hlD hlC hm e3 hap => ⟨m, hm.at (nget N hlC), fun h3 hs3 => ?_⟩
  obtain ⟨F3, N3, nd3⟩ := dropC F N nd hlC hs3
  exact done vs _ h3 _ D nD j F3 N3 nd3 (mem_look nd3 (List.mem_filter.mpr ⟨look_mem hlD, decide_eq_true e3⟩)) hap
theorem compGen {xv : Value} {T : String} {n : Nat} {H : Heap → Prop} {IT : Nat → Obj → Prop} {It : Nat → Value → Prop} (I : Iter w A xv T n H IT It) {fl : List (Str × Option Value)} {W0 : List (Addr × Obj)}
    {elt iter : PySem.Expr} {x : Str} {px : Pos} {ifs : List PySem.Expr} {scope : Scope} {cl : List (Str × Addr)} {pos : Pos} {Q : Value → Shared → Prop} (J : Nat → List Value → List (Addr × Obj) → Prop)
    (hself : ∀ (s : Shared) (Q : Value → Shared → Prop) (E : Value → Shared → Prop) (it : Addr) (o : Obj), s.heap.get? it = some o → IT 0 o → Q (.ref it) s → wpAny (model PG w) A (pyIter (.ref it)) Q E s)
    (hh : A.handled = none) (hcell : ∀ y ∈ scope.names, y.2 ≠ .cell) (hkind : scope.kind = .function) (hx : scope.names.lookup x = some .local) (hn : n ≤ 900)
    (F0 : Fr g L s.heap (fv fl)) (N0 : News g L s.heap W0) (nd0 : (W0.map (·.1)).Nodup)
    (hlist : ∀ i vs W h, J i vs W → Fr g L h (fv fl) → News g L h W → H h) (h0 : J 0 [] W0)
    (hst : ∀ it D C, (∀ p ∈ W0, p.1 ≠ it ∧ p.1 ≠ D ∧ p.1 ≠ C) → ∀ i vs W W', (W'.map (·.1)).Nodup → (∀ b o, b ≠ it → b ≠ D → b ≠ C → W.lookup b = some o → W'.lookup b = some o) → J i vs W → J i vs W')
    (turn : ∀ i v vs W h tk it o D nD C oC m, i < n → It i v → J i vs W → vs.length ≤ i → Fr g L h (fv fl) → News g L h W → (W.map (·.1)).Nodup → (∀ p ∈ W0, p.1 ≠ it ∧ p.1 ≠ D ∧ p.1 ≠ C) → W.lookup it = some o → W.lookup D = some (listOf vs.toArray nD) → W.lookup C = some oC → NsOf oC m → m x = some v →
      wpAny (model PG w) A (forIn ifs true fun c r => if r = true then do let ok ← isTrue c (compEnvC scope cl C env) (eval c (compEnvC scope cl C env)); pure (ForInStep.yield ok) else pure (ForInStep.yield r))
        (fun ok s₃ => if ok = true then wpAny (model PG w) A (eval elt (compEnvC scope cl C env)) (fun y s₄ => CompQ g L fl J (i + 1) (vs ++ [y]) it o D (listOf vs.toArray nD) C s s₄) (fun _ _ => False) s₃
          else CompQ g L fl J (i + 1) vs it o D (listOf vs.toArray nD) C s s₃) (fun _ _ => False) { s with heap := h, toks := tk })
    (done : ∀ vs W h tk D nD, J n vs W → Fr g L h (fv fl) → News g L h W → (W.map (·.1)).Nodup → W.lookup D = some (listOf vs.toArray nD) → (∀ p ∈ W0, p.1 ≠ D) → Q (.ref D) { s with heap := h, toks := tk }) :
    wpAny (model PG w) A (pyIter xv) (fun it s₂ => wpAny (model PG w) A (newList []) (fun acc s₃ => wpAny (model PG w) A (newFunctionEnv scope env.globals cl [] env.qual none .none (some env)) (fun cenv s₄ =>
      codeAny (model PG w) A (.compStart (.ListComp elt [⟨.Name x px, iter, ifs, 0⟩] scope pos) 0 it acc { cenv with scope := relabel scope env }) (compPost (model PG w) A E none Q acc cenv.locals) s₄) E s₃) E s₂) E s := by
  exact compGenX (K := fun _ => False) I J hself hh hcell hkind hx hn F0 N0 nd0 hlist h0 ⟨fun _ _ _ h => h, fun _ _ h => h, fun _ _ _ h => h⟩ (fun it D C hap i vs W W' nd hk => hst it D C hap i vs W W' nd fun b o b1 b2 b3 e => hk b o (.inr ⟨b1, b2, b3⟩) e) turn done
end
section
variable {w : World} {A : Around} {E : Value → Shared → Prop} {s : Shared} {g : Heap} {L C : Addr} {env : Env} {W : List (Addr × Obj)} {scope : Scope} {cl : List (Str × Addr)}
theorem ldC {x : Str} {pos : Pos} {v : Value} {oC : Obj} {m : Str → Option Value} {Q : Value → Shared → Prop} (N : News g L s.heap W) (hC : W.lookup C = some oC) (hm : NsOf oC m) (hv : m x = some v) (h : Q v s)
    (hk : scope.kind = .function) (hl : scope.names.lookup x = some .local) (hd : (x == ("__debug__" : Str)) = false) : wpAny (model PG w) A (eval (.Name x pos) (compEnvC scope cl C env)) Q E s :=
  wpAny_Name (wpAny_loadName_local (env := compEnvC scope cl C env) (by show scope.kind = _; exact hk) (lookup_relabel_local hl) (hm.at (nget N hC)) hv h) hd
/-! the values of a dict walked -/
noncomputable def ValAt (d : Addr) (n ep : Nat) (i : Nat) (o : Obj) : Prop := o.cls = .type "dict_valueiterator" ∧ o.data = .fields #[.ref d, .int i 0, .int n 0, .int ep 0]
theorem iterVals {v d : Addr} {kvs : List (Int × Value)} {ep : Nat} : Iter w A (.ref v) "dict_valueiterator" kvs.length (fun h => h.IsValuesView v d ∧ h.DictAt (iK w) d kvs ep) (ValAt d kvs.length ep) (fun i x => ∃ k, kvs[i]? = some (k, x)) where
  cls := fun i o h => h.1
  free := fun i o h => by obtain ⟨oc, od, dat, os⟩ := o; obtain ⟨_, h2⟩ := h; dsimp only at h2; subst h2; rfl
  nod := fun i o h es ep q => by have := h.2; rw [q] at this; cases this
  start := fun s Q E hl h => wpAny_pyIter_values hl.1 hl.2 (h _ ⟨rfl, rfl⟩)
  next := fun s Q E i it o ho hi hl hlt h => by
    have hx := List.getElem?_eq_getElem hlt
    refine wpAny_pyNext_values_item (knd := iK w) (k := (kvs[i]).1) (v := (kvs[i]).2) ⟨o, ho, hi.1, hi.2⟩ hl.2 hx fun h' hit' hs' => ?_
    obtain ⟨o', ho', hc', hd'⟩ := hit'
    exact h h' _ s.toks o' ho' ⟨hc', hd'⟩ hs' ⟨_, hx⟩
  fin := fun hh s Q E it o ho hi hl h => wpAny_pyNext_values_end (knd := iK w) hh ⟨o, ho, hi.1, hi.2⟩ hl.2 (List.getElem?_eq_none (Nat.le_refl _)) fun h' hs' => h h' s.toks hs'
theorem selfVals {d : Addr} {n ep : Nat} (s : Shared) (Q : Value → Shared → Prop) (E : Value → Shared → Prop) (it : Addr) (o : Obj) (ho : s.heap.get? it = some o) (hi : ValAt d n ep 0 o) (h : Q (.ref it) s) : wpAny (model PG w) A (pyIter (.ref it)) Q E s :=
  wpAny_pyIter_valiter (d := d) (i := 0) (n := n) (ep := ep) ⟨o, ho, hi.1, hi.2⟩ h
theorem selfList {l : Addr} (s : Shared) (Q : Value → Shared → Prop) (E : Value → Shared → Prop) (it : Addr) (o : Obj) (ho : s.heap.get? it = some o) (hi : IterAt "list_iterator" l 0 o) (h : Q (.ref it) s) : wpAny (model PG w) A (pyIter (.ref it)) Q E s :=
  wpAny_pyIter_listiter (l := l) (i := 0) ⟨o, ho, hi.1, hi.2⟩ h
theorem selfTup {l : Addr} (s : Shared) (Q : Value → Shared → Prop) (E : Value → Shared → Prop) (it : Addr) (o : Obj) (ho : s.heap.get? it = some o) (hi : IterAt "tuple_iterator" l 0 o) (h : Q (.ref it) s) : wpAny (model PG w) A (pyIter (.ref it)) Q E s :=
  wpAny_pyIter_tupleiter (t := l) (i := 0) ⟨o, ho, hi.1, hi.2⟩ h
theorem n2ValM {a : Addr} {S : SS} {pl : Sem Bool} {mQ : Value × List Value → Shared → Prop} (N : News g L s.heap W) (hS : Srt w W S) (ha : S.n2 = a) (h : mQ (.builtin "dict.values", [.ref a]) s) : wpAny (model PG w) A (getMethod (.ref a) "values" pl) mQ E s := by
  subst ha
  obtain ⟨o, ho, hc⟩ := hS.inf_cls
  have hd := n2_dict N hS
  exact getMethod_builtin ⟨o, nget N ho, hc⟩ PySem.F.plainAttrs_dict PySem.F.slot_dict_values PySem.F.type_dict_values (fun b e => by cases e; obtain ⟨o', es, ep, ho', hex, _⟩ := hd; exact ⟨o', ho', hex.2.1⟩) h
theorem n2Vals {a : Addr} {S : SS} {m : Str → Option Value} {Q : Value → Shared → Prop} (F : Fr g L s.heap m) (N : News g L s.heap W) (hS : Srt w W S) (ha : S.n2 = a)
    (h : ∀ v h', Fr g L h' m → News g L h' ((v, { cls := .type "dict_values", data := .fields #[.ref a] }) :: W) → (∀ p ∈ W, p.1 ≠ v) → Q (.ref v) { s with heap := h' }) : wpAny (model PG w) A (call (.builtin "dict.values") [.ref a]) Q E s := by
  subst ha
  obtain ⟨o, ho, hc⟩ := hS.inf_cls
  refine call_meetsIn PySem.F.slot_dict_values ⟨o, nget N ho, hc⟩ PySem.F.entry_dict_values (PySem.F.args_dict_values_1 _) (meets_dict_values (iK w) S.n2 hS.ns) ⟨⟨_, n2_dict N hS⟩, ?_⟩
  exact h _ _ (F.push _) (N.push F _ rfl) fun p hp => Nat.ne_of_lt (Heap.lt_size (N p hp).1)
end
noncomputable def Std (W1 W2 : List (Addr × Obj)) : Prop := ∀ b o, W1.lookup b = some o → W2.lookup b = some o
theorem Std.refl {W : List (Addr × Obj)} : Std W W := fun _ _ h => h
theorem Std.comp {W1 W2 W3 : List (Addr × Obj)} {it D C : Addr} (hap : ∀ p ∈ W1, p.1 ≠ it ∧ p.1 ≠ D ∧ p.1 ≠ C) (h : Std W1 W2) (k : ∀ b o, b ≠ it → b ≠ D → b ≠ C → W2.lookup b = some o → W3.lookup b = some o) : Std W1 W3 := fun b o e => by
  have z := hap _ (look_mem e)
  exact k b o z.1 z.2.1 z.2.2 (h b o e)
theorem Std.cons {W1 W2 : List (Addr × Obj)} {a : Addr} {o : Obj} (h : Std W1 W2) (hn : ∀ p ∈ W2, p.1 ≠ a) : Std W1 ((a, o) :: W2) := fun b ob e => by
  have := h b ob e
  rw [look_cons, if_neg (fun q => hn _ (look_mem this) q)]; exact this
theorem Srt.std {w : World} {W W' : List (Addr × Obj)} {S : SS} (h : Srt w W S) (nd : (W'.map (·.1)).Nodup) (k : Std W W') : Srt w W' S := h.mono nd fun b ob _ e => k b ob e
theorem std_app {W V : List (Addr × Obj)} : Std W (W ++ V) := fun b o e => by rw [List.lookup_append, e]; rfl
theorem std_app2 {W V : List (Addr × Obj)} (nd : ((W ++ V).map (·.1)).Nodup) : Std V (W ++ V) := fun b o e => mem_look nd (List.mem_append_right _ (look_mem e))
noncomputable def SAddr (S : SS) (b : Addr) : Prop := b = S.s ∨ b = S.d ∨ b = S.n2 ∨ S.rd = some b ∨ ∃ x ∈ S.nodes, b = S.ia x ∨ b = S.la x ∨ b = S.da x
theorem Srt.mono2 {w : World} {W W' : List (Addr × Obj)} {S : SS} (h : Srt w W S) (nd : (W'.map (·.1)).Nodup) (L : ∀ b ob, SAddr S b → W.lookup b = some ob → W'.lookup b = some ob) : Srt w W' S := by
  refine ⟨nd, L _ _ (.inl rfl) h.obj, ?_, ?_, ?_, ?_, fun y hy => L _ _ (.inr (.inr (.inr (.inr ⟨y, hy, .inr (.inr rfl)⟩)))) (h.dd y hy), ?_, h.lne, h.rne, h.dn, h.ns⟩
  · obtain ⟨es, n, t1, t2, hd, A⟩ := h.ats; refine ⟨es, n, t1, t2, L _ _ (.inr (.inl rfl)) hd, A⟩
  · obtain ⟨o, ho, hd⟩ := h.inf; exact ⟨o, L _ _ (.inr (.inr (.inl rfl))) ho, hd⟩
  · intro a ha; obtain ⟨vs, n, hl, hv⟩ := h.rdy a ha; exact ⟨vs, n, L _ _ (.inr (.inr (.inr (.inl ha)))) hl, hv⟩
  · intro y hy; obtain ⟨r, r', hy'⟩ := h.info y hy; exact ⟨r, r', L _ _ (.inr (.inr (.inr (.inr ⟨y, hy, .inl rfl⟩)))) hy'⟩
  · intro y hy; obtain ⟨vs, n, hl, hv⟩ := h.suc y hy; exact ⟨vs, n, L _ _ (.inr (.inr (.inr (.inr ⟨y, hy, .inr (.inl rfl)⟩)))) hl, hv⟩
theorem Srt.has {w : World} {W : List (Addr × Obj)} {S : SS} (h : Srt w W S) {b : Addr} (hb : SAddr S b) : ∃ o, W.lookup b = some o := by
  rcases hb with rfl | rfl | rfl | hb | ⟨x, hx, rfl | rfl | rfl⟩
  · exact ⟨_, h.obj⟩
  · obtain ⟨es, n, t1, t2, hd, A⟩ := h.ats; exact ⟨_, hd⟩
  · obtain ⟨o, ho, hd⟩ := h.inf; exact ⟨_, ho⟩
  · obtain ⟨vs, n, hl, hv⟩ := h.rdy b hb; exact ⟨_, hl⟩
  · obtain ⟨r, r', hy'⟩ := h.info x hx; exact ⟨_, hy'⟩
  · obtain ⟨vs, n, hl, hv⟩ := h.suc x hx; exact ⟨_, hl⟩
  · exact ⟨_, h.dd x hx⟩
theorem methFc {w : World} {A : Around} {E : Value → Shared → Prop} {s : Shared} {g : Heap} {L a : Addr} {m : Str → Option Value} {W : List (Addr × Obj)} {S : SS} {pl : Sem Bool} {mQ : Value × List Value → Shared → Prop} (F : Fr g L s.heap m) (X : (hd.heap_1 w.params).In g) (N : News g L s.heap W) (hS : Srt w W S) (ha : S.s = a)
    (h : mQ (.ref 162, [.ref a]) s) : wpAny (model PG w) A (getMethod (.ref a) "_find_cycle" pl) mQ E s := by
  subst ha
  obtain ⟨es, n, t1, t2, hd', At⟩ := hS.ats
  exact method_inst F X (inst_of (nget N hS.obj) (nget N hd')) (by k_is) (by k_is) (by k_is) (At.no rfl) h
theorem kz_w_comp : True := by
  k_with "w_comp" => skip
  trivial
namespace prepare_ok_
def Q_ (w : World) (A : Around) (s : Shared) (g0 : Heap) (loose : List Str) (mean : ExcName → Option Value) (mg : Str → Option Value) (mb : Str → Option Value) (p : Program) (R : Result → Shared → Prop) (l : List Env) (frs : List (Addr × Obj)) (W : List (Addr × Obj)) (S : SS) : Prop := ∀ (X : (hd.heap_1 w.params).In g0) (T : Top p loose mean mg mb g0) (k : g0.StaysIn s.heap) (hh : A.handled = none) (hroom : A.depth ≤ 400) (hun : A.units ≤ 4000) (hfr : A.frames = some l) (Fs : TI.Frs l frs) (fnd : (frs.map (·.1)).Nodup) (hf : ∀ p ∈ frs, s.heap.get? p.1 = some p.2) (hfg : ∀ p ∈ frs, g0.get? p.1 = none) (hW : ∀ p ∈ W, s.heap.get? p.1 = some p.2) (hg : ∀ p ∈ W, g0.get? p.1 = none) (hap : ∀ p ∈ W, ∀ q ∈ frs, q.1 ≠ p.1) (hS : Srt w W S) (hrd : S.rd = none) (rk : Nat → Nat) (hrk : ∀ x ∈ S.nodes, ∀ y ∈ S.succ x, y ∈ S.nodes ∧ rk x < rk y) (hz : S.nodes.length ≤ 90) (hR : ∀ h' tk V' frs' rl, TI.SameUp frs frs' → (∀ p ∈ frs', h'.get? p.1 = some p.2) → (∀ p ∈ V', h'.get? p.1 = some p.2) → (∀ p ∈ V', ∀ q ∈ frs, q.1 ≠ p.1) → (∀ p ∈ V', p.1 ∈ W.map (·.1) ∨ s.heap.get? p.1 = none) →
      (∀ b o, (∀ p ∈ W, p.1 ≠ b) → (∀ p ∈ frs, p.1 ≠ b) → s.heap.get? b = some o → h'.get? b = some o) → Srt w V' { S with rd := some rl, ready := S.nodes.filter fun y => decide (S.np y = 0) } → R (.ok (.ret .none)) { s with heap := h', toks := tk }), codeAny (model PG w) A (.call (.ref 127) ⟨[.ref S.s], []⟩) R s
noncomputable section
def P_ (x : World × Around × Shared × Heap × (List Str) × (ExcName → Option Value) × (Str → Option Value) × (Str → Option Value) × Program × (Result → Shared → Prop) × (List Env) × (List (Addr × Obj)) × (List (Addr × Obj)) × SS) : Prop := Q_ x.1 x.2.1 x.2.2.1 x.2.2.2.1 x.2.2.2.2.1 x.2.2.2.2.2.1 x.2.2.2.2.2.2.1 x.2.2.2.2.2.2.2.1 x.2.2.2.2.2.2.2.2.1 x.2.2.2.2.2.2.2.2.2.1 x.2.2.2.2.2.2.2.2.2.2.1 x.2.2.2.2.2.2.2.2.2.2.2.1 x.2.2.2.2.2.2.2.2.2.2.2.2.1 x.2.2.2.2.2.2.2.2.2.2.2.2.2
def x_ := pick (dW, callerA, ({} : Shared), default, default, default, default, default, PG, default, default, default, default, (⟨0, 0, 0, none, [], [], 0, 0, fun _ => 0, fun _ => 0, fun _ => 0, fun _ => 0, fun _ => []⟩ : SS)) fun x => ¬ P_ x
@[irreducible] def w := x_.1
@[irreducible] def A := x_.2.1
@[irreducible] def s := x_.2.2.1
@[irreducible] def g0 := x_.2.2.2.1
@[irreducible] def loose := x_.2.2.2.2.1
@[irreducible] def mean := x_.2.2.2.2.2.1
@[irreducible] def mg := x_.2.2.2.2.2.2.1
@[irreducible] def mb := x_.2.2.2.2.2.2.2.1
@[irreducible] def p := x_.2.2.2.2.2.2.2.2.1
@[irreducible] def R := x_.2.2.2.2.2.2.2.2.2.1
@[irreducible] def l := x_.2.2.2.2.2.2.2.2.2.2.1
@[irreducible] def frs := x_.2.2.2.2.2.2.2.2.2.2.2.1
@[irreducible] def W := x_.2.2.2.2.2.2.2.2.2.2.2.2.1
@[irreducible] def S := x_.2.2.2.2.2.2.2.2.2.2.2.2.2
end
theorem core : Q_ w A s g0 loose mean mg mb p R l frs W S := by
  intro X T k hh hroom hun hfr Fs fnd hf hfg hW hg hap hS hrd rk hrk hz hR
  have hr1 : A.depth + 60 < recursionLimit := Nat.lt_of_le_of_lt (Nat.add_le_add_right hroom 60) (by decide)
  have hu1 : A.units + 60 < cLine := Nat.lt_of_le_of_lt (Nat.add_le_add_right hun 60) (by decide)
  have ndWF : ((W ++ frs).map (·.1)).Nodup := by
    rw [List.map_append, List.nodup_append]
    refine ⟨hS.nd, fnd, fun a ha b hb e => ?_⟩
    obtain ⟨p, hp, rfl⟩ := List.mem_map.mp ha
    obtain ⟨q, hq, rfl⟩ := List.mem_map.mp hb
    exact hap p hp q hq e.symm
  have hS2 : Srt w (W ++ frs) S := hS.std ndWF std_app
  refine enter [("self", .ref S.s)] ["cycle"] (K := hd.heap_1 w.params) (W := W ++ frs) X T k (fun p hp => (List.mem_append.mp hp).elim (hW p) (hf p)) (fun p hp => (List.mem_append.mp hp).elim (hg p) (hfg p)) (by k_is) (by k_is) (by omega) (BindsTo.of_eq rfl) (locs rfl) (of_decide_eq_true (by kernel_rfl)) (by decide +kernel) ?_ rfl rfl rfl (by decide)
  intro g' L' h' st' kp' sub' F' N' X' T' nd' ns'
  dsimp only [fv0, List.map, HAppend.hAppend, Append.append, List.append] at F' nd'
  k_fold
  k_steps
  have nd1 : (((v', ({ cls := .type "dict_values", data := .fields #[.ref S.n2] } : Obj)) :: (W ++ frs)).map (·.1)).Nodup := by
    rw [List.map_cons, List.nodup_cons]
    exact ⟨fun hm => by obtain ⟨p, hp, e⟩ := List.mem_map.mp hm; exact nv' p hp e, ndWF⟩
  generalize hW1 : ((v', ({ cls := .type "dict_values", data := .fields #[.ref S.n2] } : Obj)) :: (W ++ frs)) = W1 at N' nd1
  have hv1 : W1.lookup v' = some { cls := .type "dict_values", data := .fields #[.ref S.n2] } := by rw [← hW1, look_cons, if_pos rfl]
  have s1 : Std (W ++ frs) W1 := by rw [← hW1]; exact Std.refl.cons nv'
  have hS3 : Srt w W1 S := hS2.std nd1 s1
  obtain ⟨on, hon, hdn⟩ := id hS3.inf
  obtain ⟨es, ep, hex, hdd, hkk, hpp, hnn⟩ := id hdn
  unfold Stop
  refine compGen (iterVals (v := v') (d := S.n2) (kvs := S.kvs) (ep := ep)) (fun i vs W2 => Std W1 W2 ∧ IV vs ((S.nodes.take i).filter fun y => decide (S.np y = 0))) selfVals hh (by decide) rfl (by decide) (by unfold SS.kvs; rw [List.length_map]; omega) F' N' nd1 ?_ ?_ ?_ ?_ ?_
  · rintro i vs W2 h2 ⟨hs, _⟩ F2 N2
    exact ⟨⟨_, nget N2 (hs _ _ hv1), rfl, rfl⟩, ⟨on, es, nget N2 (hs _ _ hon), hex, hdd, hkk, hpp, hnn⟩⟩
  · exact ⟨Std.refl, .nil⟩
  · rintro it D C hap2 i vs W2 W3 nd3 hk ⟨hs, hiv⟩
    exact ⟨hs.comp hap2 hk, hiv⟩
  · rintro i v vs W2 h2 tk2 it o D nD C oC m hi ⟨kk, hkv⟩ ⟨hs, hiv⟩ hvl F2 N2 nd2 hap2 hl hlD hlC hm hmx
    clear F' N' nd'
    obtain ⟨x, hx, rfl, rfl⟩ : ∃ x, S.nodes[i]? = some x ∧ kk = (x : Int) ∧ v = .ref (S.ia x) := by
      unfold SS.kvs at hkv
      rw [List.getElem?_map] at hkv
      obtain ⟨x, hx, e⟩ := Option.map_eq_some_iff.mp hkv
      cases e
      exact ⟨x, hx, rfl, rfl⟩
    have hxn := List.mem_of_getElem? hx
    have hS' : Srt w W2 S := hS3.std nd2 hs
    have F' := F2
    have N' := N2
    clear F2 N2
    k_steps
    · refine ⟨W2, h2, _, rfl, F', N', nd2, hl, hlD, ⟨oC, m, hlC, hm⟩, hs, ?_⟩
      rw [List.take_add_one, hx, List.filter_append]
      have h0 : S.np x = 0 := by assumption
      have : ((some x).toList.filter fun y => decide (S.np y = 0)) = [x] := by simp [h0]
      rw [this]
      exact hiv.append (.cons .nil)
    · refine ⟨W2, h2, _, rfl, F', N', nd2, hl, hlD, ⟨oC, m, hlC, hm⟩, hs, ?_⟩
      rw [List.take_add_one, hx, List.filter_append]
      have h0 : S.np x ≠ 0 := by assumption
      have : ((some x).toList.filter fun y => decide (S.np y = 0)) = [] := by simp [h0]
      rw [this, List.append_nil]
      exact hiv
  · rintro vs W2 h2 tk2 D nD ⟨hs, hiv⟩ F2 N2 nd2 hlD hD0
    have hkl : S.kvs.length = S.nodes.length := by unfold SS.kvs; rw [List.length_map]
    rw [hkl, List.take_of_length_le (Nat.le_refl _)] at hiv
    have hS' : Srt w W2 S := hS3.std nd2 hs
    have hlaD : ∀ x ∈ S.nodes, S.la x ≠ D := fun x hx => by
      obtain ⟨o, ho⟩ := hS3.has (b := S.la x) (.inr (.inr (.inr (.inr ⟨x, hx, .inr (.inl rfl)⟩))))
      exact hD0 _ (look_mem ho)
    clear F' N' nd'
    have F' := F2
    have N' := N2
    clear F2 N2
    have nd' : (List.map (fun x : Str × Option Value => x.fst) [("self", some (.ref S.s)), ("cycle", (none : Option Value))]).Nodup := of_decide_eq_true (by kernel_rfl)
    k_steps
    refine setRd F' X' N' hS' rfl hlD hiv hlaD fun h3 W3 F3 N3 hch3 hk3 hS4 => ?_
    clear F' N'
    have F' := F3
    have N' := N3
    clear F3 N3
    k_steps
    refine methFc F' X' N' hS4 rfl ?_
    k_steps
    have hfW : ∀ q ∈ frs, W3.lookup q.1 = some q.2 := fun q hq => by
      have e1 : (W ++ frs).lookup q.1 = some q.2 := mem_look ndWF (List.mem_append_right _ hq)
      have e2 := hs _ _ (s1 _ _ e1)
      obtain ⟨o, ho⟩ := hS.has (b := S.d) (.inr (.inl rfl))
      exact (hch3.2 _ (hap _ (look_mem ho) q hq)).trans e2
    have hrl : ∀ q ∈ frs, q.1 ≠ D := fun q hq => hD0 _ (look_mem (s1 _ _ (mem_look ndWF (List.mem_append_right _ hq))))
    obtain ⟨oL, esL, epL, hoL, hdL, hrL⟩ := id F'.ns
    have hV4 : ∀ p ∈ W3.filter (fun p => decide (p.1 ∉ frs.map (·.1))), p ∈ W3 ∧ p.1 ∉ frs.map (·.1) := fun p hp => ⟨(List.mem_filter.mp hp).1, by simpa using (List.mem_filter.mp hp).2⟩
    have hndV : ((W3.filter (fun p => decide (p.1 ∉ frs.map (·.1)))).map (·.1)).Nodup := List.Sublist.nodup (List.Sublist.map _ List.filter_sublist) hS4.nd
    have hS5 := hS4.mono2 (W' := W3.filter (fun p => decide (p.1 ∉ frs.map (·.1)))) hndV fun b ob hb e => by
      refine mem_look hndV (List.mem_filter.mpr ⟨look_mem e, decide_eq_true fun hm => ?_⟩)
      obtain ⟨q, hq, rfl⟩ := List.mem_map.mp hm
      have old : SAddr S q.1 → False := fun hb => by
        obtain ⟨o, ho⟩ := hS.has hb
        exact hap _ (look_mem ho) q hq rfl
      rcases hb with hb | hb | hb | hb | hb
      · exact old (.inl hb)
      · exact old (.inr (.inl hb))
      · exact old (.inr (.inr (.inl hb)))
      · have : D = q.1 := Option.some.inj hb
        exact hrl q hq this.symm
      · exact old (.inr (.inr (.inr (.inr hb))))
    refine wpAny_call (findCycle_ok (frs := (L', oL) :: frs) (S := { S with rd := some D, ready := S.nodes.filter fun y => decide (S.np y = 0) }) X' T' (fun b o e => F'.keep b o e) (by show A.handled = none; exact hh) (by show A.depth + 1 ≤ 440; omega) (by show A.units + 3 ≤ 4400; omega) (l := ?z8) ?z9 ?_ ?_ ?_ ?_
      (fun p hp => (N' p (hV4 p hp).1).1) (fun p hp => (N' p (hV4 p hp).1).2.2) ?_ hS5 rk hrk hz fun h5 tk5 frs5 SU5 hf5 hk5 => ?_)
    case z9 => exact Around.frames_deeper hfr
    · exact ⟨(by show ScopeKind.function ≠ ScopeKind.module; decide), rfl, ⟨esL, epL, hdL⟩, Fs⟩
    · rw [List.map_cons, List.nodup_cons]
      refine ⟨fun hm => ?_, fnd⟩
      obtain ⟨q, hq, e⟩ := List.mem_map.mp hm
      exact (N' _ (look_mem (hfW q hq))).2.1 e
    · intro p hp
      rcases List.mem_cons.mp hp with rfl | hp
      · exact hoL
      · exact nget N' (hfW p hp)
    · intro p hp
      rcases List.mem_cons.mp hp with rfl | hp
      · cases e : g'.get? L' with
        | none => rfl
        | some o => exact absurd (Heap.lt_size e) (Nat.not_lt.mpr F'.above)
      · exact (N' _ (look_mem (hfW p hp))).2.2
    · intro p hp q hq
      rcases List.mem_cons.mp hq with rfl | hq
      · exact fun e => (N' p (hV4 p hp).1).2.1 e.symm
      · exact fun e => (hV4 p hp).2 (by rw [← e]; exact List.mem_map_of_mem (f := (·.1)) hq)
    obtain ⟨fL, frs6, rfl, ⟨e6, sl6, hsl6⟩, SU6⟩ : ∃ fL frs6, frs5 = fL :: frs6 ∧ (fL.1 = L' ∧ ∃ sl, fL.2 = { oL with slots := sl }) ∧ TI.SameUp frs frs6 := by
      cases frs5 with
      | nil => exact SU5.elim
      | cons q qs => refine ⟨q, qs, rfl, ⟨SU5.1, SU5.2.1⟩, SU5.2.2⟩
    have hL5 : h5.get? L' = some { oL with slots := sl6 } := by
      have := hf5 _ (.head _)
      rw [hsl6] at this
      rw [← e6]; exact this
    have gL : ∀ b o, g'.get? b = some o → ∀ p ∈ (L', oL) :: frs, p.1 ≠ b := fun b o e p hp q => by
      rcases List.mem_cons.mp hp with rfl | hp
      · have q' : L' = b := q
        rw [← q'] at e
        exact absurd (Heap.lt_size e) (Nat.not_lt.mpr F'.above)
      · have := (N' _ (look_mem (hfW p hp))).2.2
        rw [q, e] at this; cases this
    have F5 : Fr g' L' h5 (fv [("self", some (.ref S.s)), ("cycle", (none : Option Value))]) := ⟨⟨_, esL, epL, hL5, hdL, hrL⟩, fun b o e => hk5 b o (gL b o e) (F'.keep b o e), F'.above⟩
    have N5 : News g' L' h5 (W3.filter (fun p => decide (p.1 ∉ frs.map (·.1)))) := fun p hp => by
      have hp3 := N' p (hV4 p hp).1
      refine ⟨hk5 _ _ (fun q hq e => ?_) hp3.1, hp3.2⟩
      rcases List.mem_cons.mp hq with rfl | hq
      · exact hp3.2.1 e.symm
      · exact (hV4 p hp).2 (by rw [← e]; exact List.mem_map_of_mem (f := (·.1)) hq)
    have N6 : News g' L' h5 frs6 := fun p hp => by
      obtain ⟨q, hq, e⟩ := SU6.fwd p hp
      have := N' _ (look_mem (hfW q hq))
      exact ⟨hf5 p (.tail _ hp), by rw [e]; exact this.2.1, by rw [e]; exact this.2.2⟩
    have N7 : News g' L' h5 (W3.filter (fun p => decide (p.1 ∉ frs.map (·.1))) ++ frs6) := fun p hp => (List.mem_append.mp hp).elim (N5 p) (N6 p)
    clear F' N' hoL N5 N6
    have F' := F5
    have N' := N7
    clear F5 N7
    k_steps
    refine hR _ _ (W3.filter (fun p => decide (p.1 ∉ frs.map (·.1)))) frs6 D SU6 (fun p hp => (N' p (List.mem_append_right _ hp)).1) (fun p hp => (N' p (List.mem_append_left _ hp)).1) (fun p hp q hq e => (hV4 p hp).2 (by rw [← e]; exact List.mem_map_of_mem (f := (·.1)) hq)) (fun p hp => ?_) (fun b o hb1 hb2 e => F'.keep b o (kp' b o e fun p hp => (List.mem_append.mp hp).elim (hb1 p) (hb2 p))) hS5
    by_cases hm : p.1 ∈ (W).map (·.1)
    · exact .inl hm
    · refine .inr ?_
      cases e : s.heap.get? p.1 with
      | none => rfl
      | some ob =>
        have := kp' p.1 ob e fun q hq z => (List.mem_append.mp hq).elim (fun hq => hm (by rw [← z]; exact List.mem_map_of_mem (f := (·.1)) hq)) (fun hq => (hV4 p hp).2 (by rw [← z]; exact List.mem_map_of_mem (f := (·.1)) hq))
        rw [(N' p (List.mem_append_left _ hp)).2.2] at this; cases this
theorem all : ∀ y, P_ y := @pick_all _ _ P_ (by with_unfolding_all exact core)
end prepare_ok_
theorem prepare_ok {w A s g0 loose mean mg mb p R l frs W S} : prepare_ok_.Q_ w A s g0 loose mean mg mb p R l frs W S := @prepare_ok_.all (w, A, s, g0, loose, mean, mg, mb, p, R, l, frs, W, S)
theorem kl_x_ign : True := by
  k_with "lia" => ((fail_if_success k_extra "x_ign"); lia)
  trivial
noncomputable def One (w : World) (o : Obj) (x : Str) : Prop := o.SetObjOf (sK w) (fun y => y == x) 1 ∧ ∃ es ep tb, o.data = .set es ep tb ∧ (w.params.followText "set-order" = true ∨ tb.led = true)
theorem One.parts {w : World} {o : Obj} {x : Str} (h : One w o x) : o.cls = .type "set" ∧ ∃ hs t ep tb, o.data = .set #[(hs, .str x t)] ep tb ∧ tb.fits 1 = true ∧ (w.params.followText "set-order" = true ∨ tb.led = true) := by
  obtain ⟨⟨hex, es, ep, tb, hd, he, hk, hz, hf⟩, es', ep', tb', hd', hl⟩ := h
  rw [hd] at hd'
  cases hd'
  refine ⟨hex.1, ?_⟩
  obtain ⟨es⟩ := es
  obtain ⟨⟨hs, v⟩, rfl⟩ := List.length_eq_one_iff.mp (show es.length = 1 from hz)
  obtain ⟨⟨k, hkv, _⟩, _⟩ := he (hs, v) (.head _)
  obtain ⟨t, rfl⟩ := PySem.Value.isStrOf_shape hkv
  have : (k == x) = true := (hk k).mpr ⟨(hs, .str k t), .head _, hkv⟩
  have e : k = x := by simpa using this
  subst e
  refine ⟨hs, t, ep, tb, hd, hf, hl⟩
theorem place1 {tb : SetTable} (h : tb.fits 1 = true) : tb.place.size = 1 := by
  simp only [SetTable.fits, Bool.and_eq_true, beq_iff_eq] at h
  exact h.1
theorem below0 {xs : Array Nat} (h : xs.size = 1) : SetTable.below xs 0 = 0 := by
  unfold SetTable.below
  rw [h]
  simp [SetTable.below.go]
theorem below1 {xs : Array Nat} (h : xs.size = 1) {j : Nat} (hj : xs[0]? = some j) : SetTable.below xs (j + 1) = 1 := by
  unfold SetTable.below
  rw [h]
  have : xs.getD 0 (j + 1) = j := by simp [Array.getD_eq_getD_getElem?, hj]
  simp [SetTable.below.go, this]
theorem entry_set_iter : entryFor table "set.__iter__" = some Builtin.«frozenset.__iter__» :=
  entryFor_alias (id' := "frozenset.__iter__") (by kernel_rfl) (by first | rfl | decide +kernel) (by decide +kernel) (by kernel_rfl)
theorem slot_si_next : Slot "set_iterator" "__next__" "set_iterator.__next__" :=
  .of (owner := "set_iterator") (n := "__next__") (by rw [typeLookup_type, builtinLookup_eq_fast]; kernel_rfl) (by decide +kernel) (by decide +kernel) (by decide +kernel)
    (by first | exact .inl (by decide +kernel) | exact .inr (by decide +kernel)) (by rw [isSubtype_type]; kernel_rfl)
theorem entry_si_next : entryFor table "set_iterator.__next__" = some Builtin.«set_iterator.__next__» := entryFor_of_fast (by kernel_rfl)
theorem args_si_next (a : Value) : argsOk "set_iterator.__next__" ⟨[a], []⟩ := by unfold argsOk; kernel_rfl
theorem ifno {α : Type} {M : Model} {A : Around} {E : Value → Shared → Prop} {s : Shared} {c : Bool} {a b : Sem α} {Q : α → Shared → Prop} (hc : c = false) (h : wpAny M A b Q E s) : wpAny M A (if c = true then a else b) Q E s := by
  rw [if_neg (by rw [hc]; decide)]; exact h
section
variable {w : World} {A : Around} {E : Value → Shared → Prop} {s : Shared} {st : Addr} {o : Obj} {x : Str}
noncomputable def SetIt (w : World) (st : Addr) (ep : Nat) (tb : SetTable) (i : Nat) (o : Obj) : Prop :=
  o.cls = .type "set_iterator" ∧ ((i = 0 ∧ o.data = .fields #[.int 0 0, .int 0 0, .ref st, .int 1 0, .int ep 0]) ∨ (i = 1 ∧ ∃ sl : Nat, o.data = .fields #[.int sl 0, .int 1 0, .ref st, .int 1 0, .int ep 0] ∧ (w.params.followText "set-order" = true ∨ SetTable.below tb.place sl = 1)))
theorem setIter_start {hs : Int} {t : Tok} {ep : Nat} {tb : SetTable} {Q : Value → Shared → Prop} (ho : s.heap.get? st = some o) (hc : o.cls = .type "set") (hd : o.data = .set #[(hs, .str x t)] ep tb) (hf : tb.fits 1 = true)
    (h : Q (.ref s.heap.objs.size) { s with heap := s.heap.push { cls := .type "set_iterator", data := .fields #[.int 0 0, .int 0 0, .ref st, .int 1 0, .int ep 0] } }) : wpAny (model PG w) A (pyIter (.ref st)) Q E s := by
  have hT : s.TypeIs (.ref st) "set" := ⟨o, ho, hc⟩
  refine wpAny_pyIter_slot hT PySem.F.slot_set_iter (wpAny_call_entry PySem.F.slot_set_iter hT entry_set_iter ?_ (PySem.F.args_set_iter_1 _))
  unfold Builtin.«frozenset.__iter__»
  refine wpAny_bind (wpAny_of_eq (a := st) (by first | rfl | kernel_rfl) ?_)
  refine wpAny_bind (m := Builtin.Frozenset.sizeOf st) ?_
  unfold Builtin.Frozenset.sizeOf setEntries
  refine wpAny_bind (wpAny_bind (wpAny_setState_of ho hd hf (wpAny_pure (wpAny_pure ?_))))
  refine wpAny_bind (m := setDrawn st) ?_
  unfold setDrawn
  refine wpAny_bind (wpAny_setState_of ho hd hf ?_)
  refine wpAny_bind (m := setsByText) ?_
  unfold setsByText
  refine wpAny_bind (wpAny_askSetting (wpAny_pure (wpAny_pure ?_)))
  have hb : ∀ b : Bool, (!b && (!tb.plain && decide ((#[(hs, Value.str x t)] : Array (Int × Value)).size > 1))) = false := by
    intro b
    have : decide ((#[(hs, Value.str x t)] : Array (Int × Value)).size > 1) = false := by simp
    rw [this, Bool.and_false, Bool.and_false]
  refine ifno (hb _) ?_
  refine wpAny_bind (wpAny_pure ?_)
  refine wpAny_bind (wpAny_setEpoch_of ho hd hf ?_)
  refine wpAny_bind ?_
  unfold newFields
  refine wpAny_newObj_type (wpAny_pure ⟨_, rfl, "set_iterator", _, ⟨_, Heap.get?_push_size _ rfl, rfl⟩, slot_si_next.lookup, ?_⟩)
  exact h
theorem pick1 {α : Type} (f : Nat → Nat) (e : α) : pickOrder f #[e] = #[e] := by
  unfold pickOrder
  show pickOrder.go f 1 0 [e] #[] = #[e]
  unfold pickOrder.go
  have : f 0 % [e].length = 0 := by simp [Nat.mod_one]
  rw [this]
  rfl
theorem setWalk1 {hs : Int} {t : Tok} {ep : Nat} {tb : SetTable} {Q : Array (Int × Value) → Shared → Prop} (ho : s.heap.get? st = some o) (hd : o.data = .set #[(hs, .str x t)] ep tb) (hf : tb.fits 1 = true) (hb : w.params.followText "set-order" = true)
    (h : Q #[(hs, .str x t)] s) : wpAny (model PG w) A (setWalk st) Q E s := by
  unfold setWalk
  refine wpAny_bind (wpAny_setState_of ho hd hf ?_)
  refine wpAny_bind (m := setsByText) ?_
  unfold setsByText
  refine wpAny_bind (wpAny_askSetting (wpAny_pure ?_))
  refine ifso hb ?_
  refine wpAny_bind (wpAny_askSetting (wpAny_pure ?_))
  rw [pick1]; exact h
theorem ledOk {es : Array (Int × Value)} {tb : SetTable} (h : tb.led = true) : (!tb.led && !es.isEmpty) = false := by rw [h]; rfl
theorem setNext0 {hs : Int} {t : Tok} {ep : Nat} {tb : SetTable} {Q : Option (Value × Nat) → Shared → Prop} (ho : s.heap.get? st = some o) (hd : o.data = .set #[(hs, .str x t)] ep tb) (hf : tb.fits 1 = true) (hl : w.params.followText "set-order" = true ∨ tb.led = true)
    (h : ∀ sl, (w.params.followText "set-order" = true ∨ SetTable.below tb.place sl = 1) → Q (some (.str x t, sl)) s) : wpAny (model PG w) A (setNext st 0 0 ep) Q E s := by
  unfold setNext
  refine wpAny_bind (wpAny_setState_of ho hd hf ?_)
  refine wpAny_bind (m := setsByText) ?_
  unfold setsByText
  refine wpAny_bind (wpAny_askSetting (wpAny_pure ?_))
  by_cases hb : w.params.followText "set-order" = true
  · refine ifso hb ?_
    refine ifno (by simp) ?_
    refine wpAny_bind (setWalk1 ho hd hf hb (wpAny_pure ?_))
    exact h 0 (.inl hb)
  · have hb' : w.params.followText "set-order" = false := by simpa using hb
    have hled := hl.resolve_left hb
    refine ifno hb' ?_
    refine ifno (by show (!tb.plain && decide ((#[(hs, Value.str x t)] : Array (Int × Value)).size > 1)) = false; simp) ?_
    refine wpAny_bind (wpAny_of_eq (a := ()) (by show (if (!tb.led && !(#[(hs, Value.str x t)] : Array (Int × Value)).isEmpty) = true then unsupported "set:maker-not-led" else pure ()) = pure (); rw [ledOk hled]; rfl) ?_)
    refine wpAny_pure ?_
    have hp := place1 hf
    obtain ⟨j, hj⟩ : ∃ j, tb.place[0]? = some j := ⟨tb.place[0], by rw [Array.getElem?_eq_getElem]⟩
    try dsimp only
    rw [below0 hp, hj]
    exact h (j + 1) (.inr (below1 hp hj))
theorem setNext1 {hs : Int} {t : Tok} {ep sl : Nat} {tb : SetTable} {Q : Option (Value × Nat) → Shared → Prop} (ho : s.heap.get? st = some o) (hd : o.data = .set #[(hs, .str x t)] ep tb) (hf : tb.fits 1 = true) (hl : w.params.followText "set-order" = true ∨ tb.led = true)
    (hsl : w.params.followText "set-order" = true ∨ SetTable.below tb.place sl = 1) (h : Q none s) : wpAny (model PG w) A (setNext st sl 1 ep) Q E s := by
  unfold setNext
  refine wpAny_bind (wpAny_setState_of ho hd hf ?_)
  refine wpAny_bind (m := setsByText) ?_
  unfold setsByText
  refine wpAny_bind (wpAny_askSetting (wpAny_pure ?_))
  by_cases hb : w.params.followText "set-order" = true
  · refine ifso hb ?_
    refine ifno (by simp) ?_
    refine wpAny_bind (setWalk1 ho hd hf hb (wpAny_pure ?_))
    exact h
  · have hb' : w.params.followText "set-order" = false := by simpa using hb
    have hled := hl.resolve_left hb
    refine ifno hb' ?_
    refine ifno (by show (!tb.plain && decide ((#[(hs, Value.str x t)] : Array (Int × Value)).size > 1)) = false; simp) ?_
    refine wpAny_bind (wpAny_of_eq (a := ()) (by show (if (!tb.led && !(#[(hs, Value.str x t)] : Array (Int × Value)).isEmpty) = true then unsupported "set:maker-not-led" else pure ()) = pure (); rw [ledOk hled]; rfl) ?_)
    refine wpAny_pure ?_
    try dsimp only
    rw [hsl.resolve_left hb]
    exact h
theorem iterSet1 (hone : One w o x) : ∃ ep tb, Iter w A (.ref st) "set_iterator" 1 (fun h => h.get? st = some o) (SetIt w st ep tb) (fun i v => ∃ t, v = .str x t) := by
  obtain ⟨hc, hs, t, ep, tb, hd, hf, hl⟩ := hone.parts
  refine ⟨ep, tb, fun i o h => h.1, fun i o h => ?_, fun i o h es ep q => ?_, fun s Q E ho h => setIter_start ho hc hd hf (h _ ⟨rfl, .inl ⟨rfl, rfl⟩⟩), ?_, ?_⟩
  · obtain ⟨oc, od, dat, os⟩ := o
    rcases h.2 with ⟨_, q⟩ | ⟨_, sl, q, _⟩ <;> (dsimp only at q; subst q; rfl)
  · rcases h.2 with ⟨_, q'⟩ | ⟨_, sl, q', _⟩ <;> (rw [q] at q'; cases q')
  · intro s Q E i it oi hit hio ho hlt h
    have i0 : i = 0 := by omega
    subst i0
    rcases hio.2 with ⟨_, hdi⟩ | ⟨q, _⟩
    case inr => cases q
    have hT : s.TypeIs (.ref it) "set_iterator" := ⟨oi, hit, hio.1⟩
    unfold pyNext
    refine wpAny_bind (wpAny_attempt (wpAny_callSpecial?_slot (name := Str.ofString "__next__") hT slot_si_next (wpAny_call_entry slot_si_next hT entry_si_next ?_ (args_si_next _))))
    unfold Builtin.«set_iterator.__next__»
    refine wpAny_bind (wpAny_of_eq (a := (Value.ref it, ([] : List Value))) (by first | rfl | kernel_rfl) ?_)
    refine wpAny_bind (wpAny_fieldsOf hit hdi ?_)
    show wpAny _ _ (setEntries st >>= _) _ _ _
    refine wpAny_bind ?_
    unfold setEntries
    refine wpAny_bind (wpAny_setState_of ho hd hf (wpAny_pure ?_))
    refine ifno (by simp) ?_
    refine wpAny_bind (m := setNext st 0 0 ep) (setNext0 ho hd hf hl fun sl hsl => ?_)
    refine wpAny_bind (wpAny_setField hit hdi (by simp) ?_)
    refine wpAny_bind (wpAny_setField (Heap.get?_update_self _ hit (Obj.isFreed_of_fields (Obj.data_mapFields hdi _))) (Obj.data_mapFields hdi _) (by simp) ?_)
    refine wpAny_pure ⟨_, rfl, wpAny_pure ?_⟩
    have e1 := Obj.data_mapFields hdi (·.setIfInBounds 0 (rawInt sl))
    have g1 : (s.heap.update it (Obj.mapFields (·.setIfInBounds 0 (rawInt sl)))).get? it = some (oi.mapFields (·.setIfInBounds 0 (rawInt sl))) := Heap.get?_update_self _ hit (Obj.isFreed_of_fields e1)
    have e2 := Obj.data_mapFields e1 (·.setIfInBounds 1 (rawInt ((0 : Int) + 1)))
    refine h _ _ _ _ (Heap.get?_update_self _ g1 (Obj.isFreed_of_fields e2)) ⟨?_, .inr ⟨rfl, sl, ?_, hsl⟩⟩ ((Heap.SameBut.update ..).trans (Heap.SameBut.update ..)) ⟨t, rfl⟩
    · rw [Obj.cls_mapFields, Obj.cls_mapFields]; exact hio.1
    · rw [e2]; simp [rawInt]
  · intro hh s Q E it oi hit hio ho h
    rcases hio.2 with ⟨q, _⟩ | ⟨_, sl, hdi, hsl⟩
    case inl => cases q
    have hT : s.TypeIs (.ref it) "set_iterator" := ⟨oi, hit, hio.1⟩
    unfold pyNext
    refine wpAny_bind (wpAny_attempt (wpAny_callSpecial?_slot (name := Str.ofString "__next__") hT slot_si_next (wpAny_call_entry slot_si_next hT entry_si_next ?_ (args_si_next _))))
    unfold Builtin.«set_iterator.__next__»
    refine wpAny_bind (wpAny_of_eq (a := (Value.ref it, ([] : List Value))) (by first | rfl | kernel_rfl) ?_)
    refine wpAny_bind (wpAny_fieldsOf hit hdi ?_)
    show wpAny _ _ (setEntries st >>= _) _ _ _
    refine wpAny_bind ?_
    unfold setEntries
    refine wpAny_bind (wpAny_setState_of ho hd hf (wpAny_pure ?_))
    refine ifno (by simp) ?_
    refine wpAny_bind (m := setNext st sl 1 ep) (setNext1 ho hd hf hl hsl ?_)
    refine wpAny_bind (wpAny_setField hit hdi (by simp) ?_)
    show wpAny _ _ (newExc (.type "StopIteration") [] >>= _) _ _ _
    refine wpAny_bind ?_
    simp only [newExc, newTuple]
    refine wpAny_bind (wpAny_newObj_type ?_ (by size_fits))
    refine wpAny_bind (m := firstArgMember _ _) (wpAny_of_eq (a := Value.none) (by first | rfl | (simp only [firstArgMember]; rfl)) ?_)
    refine wpAny_newObj_type ?_ (by size_fits)
    simp only [raiseNew]
    refine wpAny_bind (wpAny_handled ?_)
    rw [show A.in1.handled = none from hh]
    refine wpAny_bind (wpAny_pure (wpAny_throw ?_))
    refine wpAny_bind (wpAny_isInstance (T := "StopIteration") (b := true) ⟨_, Heap.get?_push_size _ rfl, rfl⟩ isSubtype_stop ?_)
    exact wpAny_pure (h _ _ (((Heap.SameBut.update ..).extBut.push _).push _))
end
theorem kz_x_ign : True := by
  k_with "x_ign" => skip
  trivial
structure IG where
  s : Addr
  d : Addr
  ds : Addr
  st : Addr
  ig : Addr
  x : Str
noncomputable def hit (x m : Str) : Bool := m == x || PySem.Txt.startswith m (x ++ Str.ofString ".")
structure Ign (w : World) (W : List (Addr × Obj)) (G : IG) (kvs : List (Str × Value)) : Prop where
  nd : (W.map (·.1)).Nodup
  obj : W.lookup G.s = some (instObj 234 G.d)
  ats : ∃ es n, W.lookup G.d = some (dictOf es n) ∧ Ats es [("_mods", .ref G.st), ("_dirs", .ref G.ds), ("_ignore", .ref G.ig)]
  dirs : W.lookup G.ds = some (listOf #[] 0)
  mods : ∃ o, W.lookup G.st = some o ∧ One w o G.x
  ign : ∃ o, W.lookup G.ig = some o ∧ o.IsDictOf (sK w) kvs
  igns : (G.ig == sysModules) = false
  good : ∀ m v, PySem.valueAt kvs m = some v → m ≠ Str.ofString "<string>" → ∃ t, v = .int (if hit G.x m then 1 else 0) t
  dne : G.d ≠ G.ig
section
variable {w : World} {A : Around} {E : Value → Shared → Prop} {s : Shared} {g : Heap} {L a : Addr} {m : Str → Option Value} {W : List (Addr × Obj)} {G : IG} {kvs : List (Str × Value)} {expr : Bool} {Q : Value → Shared → Prop} {x : Str} {t : Tok}
theorem getIgn (F : Fr g L s.heap m) (X : (hd.heap_1 w.params).In g) (N : News g L s.heap W) (hS : Ign w W G kvs) (ha : G.s = a) (h : Q (.ref G.ig) { s with toks := s.toks + 1 }) : wpAny (model PG w) A (getAttr (.ref a) "_ignore" expr) Q E s := by
  subst ha
  obtain ⟨es, n, hd, A⟩ := hS.ats
  exact get_own F X (inst_of (nget N hS.obj) (nget N hd)) (by k_is) (by k_is) (by k_is) (by k_is) (A.get rfl) rfl h
theorem getMods (F : Fr g L s.heap m) (X : (hd.heap_1 w.params).In g) (N : News g L s.heap W) (hS : Ign w W G kvs) (ha : G.s = a) (h : Q (.ref G.st) { s with toks := s.toks + 1 }) : wpAny (model PG w) A (getAttr (.ref a) "_mods" expr) Q E s := by
  subst ha
  obtain ⟨es, n, hd, A⟩ := hS.ats
  exact get_own F X (inst_of (nget N hS.obj) (nget N hd)) (by k_is) (by k_is) (by k_is) (by k_is) (A.get rfl) rfl h
theorem getDirs (F : Fr g L s.heap m) (X : (hd.heap_1 w.params).In g) (N : News g L s.heap W) (hS : Ign w W G kvs) (ha : G.s = a) (h : Q (.ref G.ds) { s with toks := s.toks + 1 }) : wpAny (model PG w) A (getAttr (.ref a) "_dirs" expr) Q E s := by
  subst ha
  obtain ⟨es, n, hd, A⟩ := hS.ats
  exact get_own F X (inst_of (nget N hS.obj) (nget N hd)) (by k_is) (by k_is) (by k_is) (by k_is) (A.get rfl) rfl h
theorem inIgn (N : News g L s.heap W) (hS : Ign w W G kvs) (ha : G.ig = a) (h : Q (.bool (decide (x ∈ kvs.map (·.1)))) { s with toks := s.toks + 1 }) : wpAny (model PG w) A (compareOp .In (.str x t) (.ref a)) Q E s := by
  subst ha
  obtain ⟨o, ho, hd⟩ := hS.ign
  exact kda_in (knd := sK w) (k := x) N (look_mem ho) hd hS.igns (strKind_is _ _ _ _) _ valueAt_isSome h
theorem inMods (N : News g L s.heap W) (hS : Ign w W G kvs) (ha : G.st = a) (h : Q (.bool (x == G.x)) { s with toks := s.toks + 1 }) : wpAny (model PG w) A (compareOp .In (.str x t) (.ref a)) Q E s := by
  subst ha
  obtain ⟨o, ho, hd, _⟩ := hS.mods
  exact PySem.wpAny_inSet_of (knd := sK w) (k := x) (strKind_is _ _ _ _) rfl (hd.setOf (nget N ho) (by decide)) h
theorem itemIgn {value slice : PySem.Expr} (N : News g L s.heap W) (hS : Ign w W G kvs) (ha : G.ig = a) (hx : x ∈ kvs.map (·.1)) (hne : x ≠ Str.ofString "<string>") (h : ∀ t', Q (.int (if hit G.x x then 1 else 0) t') { s with toks := s.toks + 1 })
    (hs : subscripted slice false (.ref a) (.str x t) = operate [.ref a, .str x t] (getItem (.ref a) (.str x t)) := by with_unfolding_all rfl) (hg : ∀ r, letTemporaryGo value (.ref a) r = pure () := by intro _; with_unfolding_all rfl) :
    wpAny (model PG w) A (subscriptTail value slice (.ref a) (.str x t)) Q E s := by
  subst ha
  obtain ⟨o, ho, hd⟩ := hS.ign
  have : (PySem.valueAt kvs x).isSome = true := by rw [valueAt_isSome]; exact decide_eq_true hx
  obtain ⟨v, hv⟩ := Option.isSome_iff_exists.mp this
  obtain ⟨t', rfl⟩ := hS.good x v hv hne
  exact kda_item (knd := sK w) (k := x) N (look_mem ho) hd (strKind_is _ _ _ _) hv (h t') hs hg
theorem stored_at {K : Type} [DecidableEq K] {kvs : List (K × Value)} {k k' : K} {v : Value} : PySem.valueAt (PySem.stored kvs k v) k' = if k' = k then some v else PySem.valueAt kvs k' := by
  have key : ∀ l : List (K × Value), (l.any fun kv => decide (kv.1 = k)) = true → PySem.valueAt (l.map fun kv => if kv.1 = k then (kv.1, v) else kv) k' = if k' = k then some v else PySem.valueAt l k' := by
    intro l
    induction l with
    | nil => intro h; cases h
    | cons p r ih =>
      intro h
      unfold PySem.valueAt at ih ⊢
      rw [List.map_cons, List.find?_cons, List.find?_cons]
      by_cases e : p.1 = k
      · rw [if_pos e]
        by_cases e2 : k' = k
        · subst e2; simp [e]
        · have e3 : ¬ p.1 = k' := fun q => e2 (q.symm.trans e)
          rw [if_neg e2]
          simp only [decide_eq_false e3]
          have : ∀ l : List (K × Value), (l.map fun kv => if kv.1 = k then (kv.1, v) else kv).find? (fun kv => decide (kv.1 = k')) = l.find? (fun kv => decide (kv.1 = k')) := by
            intro l
            induction l with
            | nil => rfl
            | cons q l ihl =>
              rw [List.map_cons, List.find?_cons, List.find?_cons]
              by_cases z : q.1 = k
              · have z2 : ¬ q.1 = k' := fun y => e2 (y.symm.trans z)
                rw [if_pos z]; simp only [decide_eq_false z2]; exact ihl
              · rw [if_neg z]
                cases decide (q.1 = k') <;> simp only [ihl]
          rw [this]
      · rw [if_neg e]
        rw [List.any_cons, decide_eq_false e, Bool.false_or] at h
        by_cases e2 : p.1 = k'
        · have e3 : k' ≠ k := fun q => e (e2.trans q)
          rw [if_neg e3]; simp [e2]
        · simp only [decide_eq_false e2]; exact ih h
  unfold PySem.stored
  split
  · rename_i h; exact key kvs h
  · rename_i h
    unfold PySem.valueAt
    rw [List.find?_append]
    by_cases e : k' = k
    · subst e
      rw [if_pos rfl]
      have : kvs.find? (fun kv => decide (kv.1 = k')) = none := by
        rw [List.find?_eq_none]
        intro p hp q
        exact h (List.any_eq_true.mpr ⟨p, hp, q⟩)
      rw [this]; simp
    · rw [if_neg e]
      have e3 : ¬ k = k' := fun q => e q.symm
      simp [e3]
theorem setIgn {r : Int} {u : Tok} {Q : Unit → Shared → Prop} (F : Fr g L s.heap m) (N : News g L s.heap W) (hS : Ign w W G kvs) (ha : G.ig = a) (hz : kvs.length ≤ 900) (hr : r = if hit G.x x then 1 else 0)
    (h : ∀ h' W' kvs', Fr g L h' m → News g L h' W' → Ch G.ig W W' → Ign w W' G kvs' → kvs'.length ≤ kvs.length + 1 → W'.map (·.1) = W.map (·.1) → Q () { s with heap := h', toks := s.toks + 1 }) : wpAny (model PG w) A (setItem (.ref a) (.str x t) (.int r u)) Q E s := by
  subst ha hr
  obtain ⟨o, ho, hd⟩ := hS.ign
  have hc : o.cls = .type "dict" := by obtain ⟨es, ep, hc, _⟩ := hd; exact hc.1
  have hdict : ∃ es ep, o.data = .dict es ep := by obtain ⟨es, ep, _, hdd, _⟩ := hd; exact ⟨es, ep, hdd⟩
  refine kda_set (knd := sK w) (k := x) F N (updF_put hS.nd ho) hd (strKind_is _ _ _ _) (sz_ok (by omega)) fun h' o' F' N' hd' => ?_
  have hs : (W.lookup G.ig).isSome = true := by rw [ho]; rfl
  have L : ∀ b, b ≠ G.ig → (putW W G.ig o').lookup b = W.lookup b := fun b hb => by rw [look_put hs, if_neg hb]
  obtain ⟨om, hom, h1⟩ := hS.mods
  have hcm := h1.parts.1
  refine h h' _ _ F' N' (ch_put ho) ⟨by rw [putW_names]; exact hS.nd, by rw [L _ (lk_ne hS.obj ho (by rw [hc]; simp))]; exact hS.obj, ?_, by rw [L _ (lk_ne hS.dirs ho (by rw [hc]; simp))]; exact hS.dirs, ⟨om, by rw [L _ (lk_ne hom ho (by rw [hc, hcm]; simp))]; exact hom, h1⟩, ⟨o', by rw [look_put hs, if_pos rfl], hd'⟩, hS.igns, fun k v hv hne => ?_, hS.dne⟩ ?_ (putW_names _ _ _)
  · obtain ⟨es, n, hd2, A2⟩ := hS.ats
    exact ⟨es, n, by rw [L _ hS.dne]; exact hd2, A2⟩
  · rw [stored_at] at hv
    by_cases e : k = x
    · rw [if_pos e] at hv
      cases hv
      subst e
      exact ⟨u, rfl⟩
    · rw [if_neg e] at hv
      exact hS.good k v hv hne
  · unfold PySem.stored
    split
    · rw [List.length_map]; exact Nat.le_succ _
    · rw [List.length_append]; exact Nat.le_refl _
end
theorem Ign.mono {w : World} {W W' : List (Addr × Obj)} {G : IG} {kvs : List (Str × Value)} (h : Ign w W G kvs) (nd : (W'.map (·.1)).Nodup) (L : ∀ b o, b = G.s ∨ b = G.d ∨ b = G.ds ∨ b = G.st ∨ b = G.ig → (o.cls = .ref 234 ∨ o.cls = .type "dict" ∨ o.cls = .type "list" ∨ o.cls = .type "set") → W.lookup b = some o → W'.lookup b = some o) : Ign w W' G kvs := by
  obtain ⟨es, n, hd, A⟩ := h.ats
  obtain ⟨om, hom, h1⟩ := h.mods
  obtain ⟨oi, hoi, hdi⟩ := h.ign
  have hc : oi.cls = .type "dict" := by obtain ⟨es, ep, hc, _⟩ := hdi; exact hc.1
  refine ⟨nd, L _ _ (.inl rfl) (.inl rfl) h.obj, ⟨es, n, L _ _ (.inr (.inl rfl)) (.inr (.inl rfl)) hd, A⟩, L _ _ (.inr (.inr (.inl rfl))) (.inr (.inr (.inl rfl))) h.dirs, ⟨om, L _ _ (.inr (.inr (.inr (.inl rfl)))) (.inr (.inr (.inr h1.parts.1))) hom, h1⟩, ⟨oi, L _ _ (.inr (.inr (.inr (.inr rfl)))) (.inr (.inl hc)) hoi, hdi⟩, h.igns, h.good, h.dne⟩
theorem Ign.sim {w : World} {W W' : List (Addr × Obj)} {G : IG} {kvs : List (Str × Value)} {T : String} (h : Ign w W G kvs) (nd : (W'.map (·.1)).Nodup) (hT : T ≠ "dict" ∧ T ≠ "list" ∧ T ≠ "set") (K : Sim T W W') : Ign w W' G kvs :=
  h.mono nd fun b o _ hc e => K b o (.inl (by
    rcases hc with q | q | q | q <;> rw [q] <;> intro z <;> cases z
    · exact hT.1 rfl
    · exact hT.2.1 rfl
    · exact hT.2.2 rfl)) e
theorem Ign.cons {w : World} {W : List (Addr × Obj)} {G : IG} {kvs : List (Str × Value)} (h : Ign w W G kvs) {a : Addr} {o : Obj} (hn : ∀ p ∈ W, p.1 ≠ a) : Ign w ((a, o) :: W) G kvs :=
  h.mono (by
    rw [List.map_cons, List.nodup_cons]
    exact ⟨fun hm => by obtain ⟨p, hp, e⟩ := List.mem_map.mp hm; exact hn p hp e, h.nd⟩) fun b ob _ _ hb => by
    rw [look_cons, if_neg (fun e => hn _ (look_mem hb) e)]; exact hb
section
theorem kw_y_names : True := by
  k_with "getAttr ref" => ((fail_if_success k_extra "y_names"); k_here; k_dflt (first | (with_reducible show wpAny _ _ (getAttr _ (Str.ofString "_ignore") _) _ _ _); refine' getIgn ?z1 ?z2 ?z3 ?z4 ?z5 ?_; (case z1 => assumption); (case z2 => assumption); (case z3 => assumption); (case z4 => assumption); (case z5 => first | rfl | assumption); k_whole | (with_reducible show wpAny _ _ (getAttr _ (Str.ofString "_mods") _) _ _ _); refine' getMods ?z1 ?z2 ?z3 ?z4 ?z5 ?_; (case z1 => assumption); (case z2 => assumption); (case z3 => assumption); (case z4 => assumption); (case z5 => first | rfl | assumption); k_whole | (with_reducible show wpAny _ _ (getAttr _ (Str.ofString "_dirs") _) _ _ _); refine' getDirs ?z1 ?z2 ?z3 ?z4 ?z5 ?_; (case z1 => assumption); (case z2 => assumption); (case z3 => assumption); (case z4 => assumption); (case z5 => first | rfl | assumption); k_whole))
  k_with "compareOp In str ref" => ((fail_if_success k_extra "y_names"); k_here; k_dflt (first | refine' inIgn ?z1 ?z2 ?z3 ?_; (case z1 => assumption); (case z2 => assumption); (case z3 => rfl); k_whole | refine' inMods ?z1 ?z2 ?z3 ?_; (case z1 => assumption); (case z2 => assumption); (case z3 => rfl); k_whole))
  k_with "setItem ref str" => ((fail_if_success k_extra "y_names"); k_here; k_dflt (refine' setIgn ?z1 ?z2 ?z3 ?z4 ?z5 ?z6 ?_; (case z1 => assumption); (case z2 => assumption); (case z3 => assumption); (case z4 => rfl); (case z5 => omega); (case z6 => assumption); k_whole); intro h' W' kvs' F' N' hc' hS' hz' hn'; (try dsimp only at F' N'))
  k_with "subscriptTail" => ((fail_if_success k_extra "y_names"); k_here; (with_reducible show wpAny _ _ (subscriptTail _ _ (Value.ref _) (Value.str _ _)) _ _ _); k_dflt (refine' itemIgn ?z1 ?z2 ?z3 ?z4 ?z5 ?_; (case z1 => assumption); (case z2 => assumption); (case z3 => rfl); (case z4 => assumption); (case z5 => assumption); k_whole); intro t')
  k_with "binaryOp Add str str" => ((fail_if_success k_extra "y_names"); k_here; k_dflt (refine' PyProof.Rows.add_str ?_ ?z1; (case z1 => assumption)); intro t' tk')
  trivial
namespace names_ok_
def Q_ (w : World) (A : Around) (s : Shared) (g0 : Heap) (loose : List Str) (mean : ExcName → Option Value) (mg : Str → Option Value) (mb : Str → Option Value) (p : Program) (R : Result → Shared → Prop) (W : List (Addr × Obj)) (G : IG) (kvs : List (Str × Value)) (f : Str) (mo : Str) (tf : Tok) (tm : Tok) : Prop := ∀ (X : (hd.heap_1 w.params).In g0) (T : Top p loose mean mg mb g0) (k : g0.StaysIn s.heap) (hh : A.handled = none) (hroom : A.depth ≤ 400) (hun : A.units ≤ 4000) (hW : ∀ p ∈ W, s.heap.get? p.1 = some p.2) (hg : ∀ p ∈ W, g0.get? p.1 = none) (hS : Ign w W G kvs) (hz : kvs.length ≤ 100) (hlen : G.x.length + (Str.ofString ".").length ≤ sizeLine) (hne : mo ≠ Str.ofString "<string>") (hR : ∀ h' tk W' kvs' t, (∀ b o, (∀ p ∈ W, p.1 ≠ b) → s.heap.get? b = some o → h'.get? b = some o) → (∀ p ∈ W', h'.get? p.1 = some p.2) → (∀ p ∈ W', p.1 ∈ W.map (·.1) ∨ s.heap.get? p.1 = none) → Ign w W' G kvs' → kvs'.length ≤ kvs.length + 1 →
      R (.ok (.ret (.int (if hit G.x mo then 1 else 0) t))) { s with heap := h', toks := tk }), codeAny (model PG w) A (.call (.ref 231) ⟨[.ref G.s, .str f tf, .str mo tm], []⟩) R s
noncomputable section
def P_ (x : World × Around × Shared × Heap × (List Str) × (ExcName → Option Value) × (Str → Option Value) × (Str → Option Value) × Program × (Result → Shared → Prop) × (List (Addr × Obj)) × IG × (List (Str × Value)) × Str × Str × Tok × Tok) : Prop := Q_ x.1 x.2.1 x.2.2.1 x.2.2.2.1 x.2.2.2.2.1 x.2.2.2.2.2.1 x.2.2.2.2.2.2.1 x.2.2.2.2.2.2.2.1 x.2.2.2.2.2.2.2.2.1 x.2.2.2.2.2.2.2.2.2.1 x.2.2.2.2.2.2.2.2.2.2.1 x.2.2.2.2.2.2.2.2.2.2.2.1 x.2.2.2.2.2.2.2.2.2.2.2.2.1 x.2.2.2.2.2.2.2.2.2.2.2.2.2.1 x.2.2.2.2.2.2.2.2.2.2.2.2.2.2.1 x.2.2.2.2.2.2.2.2.2.2.2.2.2.2.2.1 x.2.2.2.2.2.2.2.2.2.2.2.2.2.2.2.2
def x_ := pick (dW, callerA, ({} : Shared), default, default, default, default, default, PG, default, default, (⟨0, 0, 0, 0, 0, Str.ofString ""⟩ : IG), default, default, default, default, default) fun x => ¬ P_ x
@[irreducible] def w := x_.1
@[irreducible] def A := x_.2.1
@[irreducible] def s := x_.2.2.1
@[irreducible] def g0 := x_.2.2.2.1
@[irreducible] def loose := x_.2.2.2.2.1
@[irreducible] def mean := x_.2.2.2.2.2.1
@[irreducible] def mg := x_.2.2.2.2.2.2.1
@[irreducible] def mb := x_.2.2.2.2.2.2.2.1
@[irreducible] def p := x_.2.2.2.2.2.2.2.2.1
@[irreducible] def R := x_.2.2.2.2.2.2.2.2.2.1
@[irreducible] def W := x_.2.2.2.2.2.2.2.2.2.2.1
@[irreducible] def G := x_.2.2.2.2.2.2.2.2.2.2.2.1
@[irreducible] def kvs := x_.2.2.2.2.2.2.2.2.2.2.2.2.1
@[irreducible] def f := x_.2.2.2.2.2.2.2.2.2.2.2.2.2.1
@[irreducible] def mo := x_.2.2.2.2.2.2.2.2.2.2.2.2.2.2.1
@[irreducible] def tf := x_.2.2.2.2.2.2.2.2.2.2.2.2.2.2.2.1
@[irreducible] def tm := x_.2.2.2.2.2.2.2.2.2.2.2.2.2.2.2.2
end
theorem core : Q_ w A s g0 loose mean mg mb p R W G kvs f mo tf tm := by
  intro X T k hh hroom hun hW hg hS hz hlen hne hR
  have hr1 : A.depth + 60 < recursionLimit := Nat.lt_of_le_of_lt (Nat.add_le_add_right hroom 60) (by decide)
  have hu1 : A.units + 60 < cLine := Nat.lt_of_le_of_lt (Nat.add_le_add_right hun 60) (by decide)
  refine enter [("self", .ref G.s), ("filename", .str f tf), ("modulename", .str mo tm)] ["mod", "d"] (K := hd.heap_1 w.params) (W := W) X T k hW hg (by k_is) (by k_is) (by omega) (BindsTo.of_eq rfl) (locs rfl) (of_decide_eq_true (by kernel_rfl)) (by decide +kernel) ?_ rfl rfl rfl (by decide)
  intro g' L' h' st' kp' sub' F' N' X' T' nd' ns'
  dsimp only [fv0, List.map, HAppend.hAppend, Append.append, List.append] at F' nd'
  k_fold
  have hnew : ∀ (W2 : List (Addr × Obj)) (h2 : Heap), News g' L' h2 W2 → ∀ p ∈ W2, p.1 ∈ (W).map (·.1) ∨ s.heap.get? p.1 = none := fun W2 h2 N2 p hp => by
    by_cases hm : p.1 ∈ (W).map (·.1)
    · exact .inl hm
    · refine .inr ?_
      cases e : s.heap.get? p.1 with
      | none => rfl
      | some ob =>
        have := kp' p.1 ob e fun q hq z => hm (by rw [← z]; exact List.mem_map_of_mem (f := (·.1)) hq)
        rw [(N2 p hp).2.2] at this; cases this
  k_steps
  · exact hR _ _ W kvs _ (fun b o hb e => F'.keep _ _ (kp' b o e hb)) (fun p hp => (N' p hp).1) (hnew _ _ N') hS (Nat.le_succ _)
  · have hmx : mo = G.x := by
      have : (mo == G.x) = true := by assumption
      simpa using this
    have hhit : hit G.x mo = true := by unfold hit; rw [hmx]; simp
    have hr : (1 : Int) = if hit G.x mo then 1 else 0 := by rw [hhit]; rfl
    k_steps
    simp only [hhit, if_true] at hR
    exact hR _ _ W' kvs' _ (fun b o hb e => F'.keep _ _ (kp' b o e hb)) (fun p hp => (N' p hp).1) (hnew _ _ N') hS' hz'
  have hmx : (mo == G.x) = false := by assumption
  obtain ⟨om, hom, h1⟩ := id hS.mods
  obtain ⟨ep, tb, itr⟩ := iterSet1 (A := _) (st := G.st) h1
  unfold Stop
  refine forGen itr (fun i fl W2 => (∃ o1, fl = ([("self", some (.ref G.s)), ("filename", some (.str f tf)), ("modulename", some (.str mo tm)), ("mod", o1), ("d", none)] : List (Str × Option Value))) ∧ Ign w W2 G kvs ∧ W2.lookup G.st = some om ∧ (i = 1 → PySem.Txt.startswith mo (G.x ++ Str.ofString ".") = false))
    ?_ F' N' hS.nd ?_ ?_ ?_ ?_ ?_ ?_ ?_
  · exact hh
  · intro i fl W2 h2 hx9; obtain ⟨_, _, hl, _⟩ := hx9; intro _ N2
    exact nget N2 hl
  · exact ⟨⟨_, rfl⟩, hS, hom, fun h => by cases h⟩
  · intro it o hn _
    refine ⟨⟨_, rfl⟩, hS.cons hn, ?_, fun h => by cases h⟩
    rw [look_cons, if_neg (fun e => hn _ (look_mem hom) e)]; exact hom
  · intro i fl W2 W3 nd3 _ hsim hx9; obtain ⟨hf, hs, hl, hi⟩ := hx9
    exact ⟨hf, hs.sim nd3 ⟨by decide, by decide, by decide⟩ hsim, hsim _ _ (.inl (by rw [h1.parts.1]; decide)) hl, hi⟩
  · intro i v fl W2 h2 tk2 it o hi; rintro ⟨tx, rfl⟩; intro hx9; obtain ⟨⟨o1, rfl⟩, hs, hl, _⟩ := hx9; intro F2 N2 nd2 hlo hco Qf hQf
    clear F' N' nd' hS
    have i0 : i = 0 := by omega
    subst i0
    have F' := F2
    have N' := N2
    clear F2 N2
    have nd' : (List.map (fun x : Str × Option Value => x.fst) [("self", some (.ref G.s)), ("filename", some (.str f tf)), ("modulename", some (.str mo tm)), ("mod", o1), ("d", none)]).Nodup := of_decide_eq_true (by kernel_rfl)
    k_steps
    · have hsw : PySem.Txt.startswith mo (G.x ++ Str.ofString ".") = true := by assumption
      have hhit : hit G.x mo = true := by unfold hit; rw [hsw, Bool.or_true]
      have hr : (1 : Int) = if hit G.x mo then 1 else 0 := by rw [hhit]; rfl
      k_steps
      simp only [hhit, if_true] at hR
      exact hR _ _ W' kvs' _ (fun b o hb e => F'.keep _ _ (kp' b o e hb)) (fun p hp => (N' p hp).1) (hnew _ _ N') hS' hz'
    · have hsw : PySem.Txt.startswith mo (G.x ++ Str.ofString ".") = false := by assumption
      refine ⟨_, _, _, _, rfl, F', N', nd2, hlo, ⟨_, rfl⟩, hs, hl, fun _ => hsw⟩
  · intro fl W2 h2 tk2 hx9; obtain ⟨⟨o1, rfl⟩, hs, hl, hno⟩ := hx9; intro F2 N2 nd2
    clear F' N' nd' hS
    have hhit : hit G.x mo = false := by unfold hit; rw [hmx, hno rfl]; rfl
    have hr : (0 : Int) = if hit G.x mo then 1 else 0 := by rw [hhit]; rfl
    have F' := F2
    have N' := N2
    clear F2 N2
    have nd' : (List.map (fun x : Str × Option Value => x.fst) [("self", some (.ref G.s)), ("filename", some (.str f tf)), ("modulename", some (.str mo tm)), ("mod", o1), ("d", none)]).Nodup := of_decide_eq_true (by kernel_rfl)
    k_steps
    unfold Stop
    refine forGen (iterList (l := G.ds) (vs := [])) (fun i fl W2 => fl = ([("self", some (.ref G.s)), ("filename", some (.str f tf)), ("modulename", some (.str mo tm)), ("mod", o1), ("d", none)] : List (Str × Option Value)) ∧ Ign w W2 G kvs)
      ?_ F' N' hs.nd ?_ ?_ ?_ ?_ ?_ ?_ ?_
    · exact hh
    · rintro i fl W3 h3 ⟨_, hs3⟩ _ N3
      exact isList_of (nget N3 hs3.dirs)
    · exact ⟨rfl, hs⟩
    · intro it o hn _
      exact ⟨rfl, hs.cons hn⟩
    · rintro i fl W3 W4 nd4 _ hsim ⟨hf, hs3⟩
      exact ⟨hf, hs3.sim nd4 ⟨by decide, by decide, by decide⟩ hsim⟩
    · rintro i v fl W3 h3 tk3 it o hi
      exact absurd hi (Nat.not_lt_zero _)
    · rintro fl W3 h3 tk3 ⟨rfl, hs3⟩ F3 N3 nd3
      clear F' N' hs
      have F' := F3
      have N' := N3
      clear F3 N3
      k_steps
      simp only [hhit, Bool.false_eq_true, if_false] at hR
      exact hR _ _ W' kvs' _ (fun b o hb e => F'.keep _ _ (kp' b o e hb)) (fun p hp => (N' p hp).1) (hnew _ _ N') hS' hz'
    · exact fun _ _ => rfl
  · exact fun _ _ => rfl
theorem all : ∀ y, P_ y := @pick_all _ _ P_ (by with_unfolding_all exact core)
end names_ok_
theorem names_ok {w A s g0 loose mean mg mb p R W G kvs f mo tf tm} : names_ok_.Q_ w A s g0 loose mean mg mb p R W G kvs f mo tf tm := @names_ok_.all (w, A, s, g0, loose, mean, mg, mb, p, R, W, G, kvs, f, mo, tf, tm)
end
theorem kz_y_names : True := by
  k_with "y_names" => skip
  trivial
theorem look1 {w : World} : ∃ o, (hd.heap_1 w.params).lookup 1 = some o := ⟨_, by k_is⟩
theorem not_mods {w : World} {g : Heap} (X : (hd.heap_1 w.params).In g) {a : Addr} (h : g.get? a = none) : (a == sysModules) = false := by
  obtain ⟨o, ho⟩ := look1 (w := w)
  have := X _ _ ho
  refine beq_eq_false_iff_ne.mpr fun e => ?_
  have e' : a = 1 := e
  rw [e', this] at h; cases h
theorem nd_app {W new : List (Addr × Obj)} (h1 : (new.map (·.1)).Nodup) (h2 : (W.map (·.1)).Nodup) (h : ∀ p ∈ new, ∀ q ∈ W, q.1 ≠ p.1) : ((new ++ W).map (·.1)).Nodup := by
  rw [List.map_append, List.nodup_append]
  refine ⟨h1, h2, fun a ha b hb e => ?_⟩
  obtain ⟨p, hp, rfl⟩ := List.mem_map.mp ha
  obtain ⟨q, hq, rfl⟩ := List.mem_map.mp hb
  exact h p hp q hq e.symm
theorem kw_z_new : True := by
  k_with "setAttr ref" => ((fail_if_success k_extra "z_new"); k_here; (have hn9 := hn1); clear hn9; k_dflt (refine' set_dict ?k1 ?k2 ?k3 ?k4 ?k5 ?k6 ?k7 ?k8 ?k9 ?k10 ?k11 ?k12 ?k13 ?_; (case k1 => assumption); (case k2 => assumption); (case k3 => assumption); (case k4 => k_inst); (case k5 => exact rfl); (case k6 => k_is); (case k7 => k_is); (case k8 => k_is); (case k9 => k_is); (case k10 => k_get); (case k11 => k_put); (case k12 => exact .tail hn1 (.tail hn2 (.head (fun _ h => nomatch h)))); (case k13 => exact Nat.le_of_ble_eq_true rfl); k_whole); intro h' F' N'; k_sweep)
  trivial
namespace newSrtK_
def Q_ (w : World) (A : Around) (E : Value → Shared → Prop) (s : Shared) (g : Heap) (L : Addr) (m : Str → Option Value) (W : List (Addr × Obj)) (Q : Value → Shared → Prop) (loose : List Str) (mean : ExcName → Option Value) (mg : Str → Option Value) (mb : Str → Option Value) (p : Program) : Prop := ∀ (l : Low A) (F : Fr g L s.heap m) (X : (hd.heap_1 w.params).In g) (T : Top p loose mean mg mb g) (N : News g L s.heap W) (nd : (W.map (·.1)).Nodup) (h : ∀ a d n2 o2 es n t1 t2 h' tk', Fr g L h' m → News g L h' ([(a, instObj 172 d), (d, dictOf es n), (n2, o2)] ++ W) → (∀ p ∈ ([(a, instObj 172 d), (d, dictOf es n), (n2, o2)] : List (Addr × Obj)), ∀ q ∈ W, q.1 ≠ p.1) → a ≠ d → a ≠ n2 → d ≠ n2 →
      o2.IsDictOf (intKind PG w) [] → Ats es [("_node2info", .ref n2), ("_ready_nodes", .none), ("_npassedout", .int 0 t1), ("_nfinished", .int 0 t2)] → Q (.ref a) { s with heap := h', toks := tk' }), wpAny (model PG w) A (call (.ref 172) []) Q E s
noncomputable section
def P_ (x : World × Around × (Value → Shared → Prop) × Shared × Heap × Addr × (Str → Option Value) × (List (Addr × Obj)) × (Value → Shared → Prop) × (List Str) × (ExcName → Option Value) × (Str → Option Value) × (Str → Option Value) × Program) : Prop := Q_ x.1 x.2.1 x.2.2.1 x.2.2.2.1 x.2.2.2.2.1 x.2.2.2.2.2.1 x.2.2.2.2.2.2.1 x.2.2.2.2.2.2.2.1 x.2.2.2.2.2.2.2.2.1 x.2.2.2.2.2.2.2.2.2.1 x.2.2.2.2.2.2.2.2.2.2.1 x.2.2.2.2.2.2.2.2.2.2.2.1 x.2.2.2.2.2.2.2.2.2.2.2.2.1 x.2.2.2.2.2.2.2.2.2.2.2.2.2
def x_ := pick (dW, callerA, default, ({} : Shared), default, default, default, default, default, default, default, default, default, PG) fun x => ¬ P_ x
@[irreducible] def w := x_.1
@[irreducible] def A := x_.2.1
@[irreducible] def E := x_.2.2.1
@[irreducible] def s := x_.2.2.2.1
@[irreducible] def g := x_.2.2.2.2.1
@[irreducible] def L := x_.2.2.2.2.2.1
@[irreducible] def m := x_.2.2.2.2.2.2.1
@[irreducible] def W := x_.2.2.2.2.2.2.2.1
@[irreducible] def Q := x_.2.2.2.2.2.2.2.2.1
@[irreducible] def loose := x_.2.2.2.2.2.2.2.2.2.1
@[irreducible] def mean := x_.2.2.2.2.2.2.2.2.2.2.1
@[irreducible] def mg := x_.2.2.2.2.2.2.2.2.2.2.2.1
@[irreducible] def mb := x_.2.2.2.2.2.2.2.2.2.2.2.2.1
@[irreducible] def p := x_.2.2.2.2.2.2.2.2.2.2.2.2.2
end
theorem core : Q_ w A E s g L m W Q loose mean mg mb p := by
  intro l F X T N nd h
  have hd1 := l.depth
  refine wpAny_call (make_K F N (X.keeps F.keep) (by k_is) (by k_is) (by k_is) fun x dx h1 F1 N1 l1 l2 => ?_)
  refine enter [("self", .ref x), ("graph", .none)] [] (K := hd.heap_1 w.params) (W := [(x, instObj 172 dx), (dx, dictOf [] 0)]) X T F1.keep (fun p hp => (N1 p (List.mem_append_left W hp)).1) (fun p hp => (N1 p (List.mem_append_left W hp)).2.2) (by k_is) (by k_is) ?_ (binds_K (X.keeps F1.keep) rfl (by k_is) rfl rfl rfl) (locs rfl) (of_decide_eq_true (by kernel_rfl)) (by decide +kernel) ?_ rfl rfl rfl (by decide)
  · show A.depth + 1 < recursionLimit
    exact Nat.lt_of_le_of_lt (Nat.add_le_add_right hd1 1) (by decide)
  intro g' L' h' st' kp' sub' F' N' X' T' nd' ns'
  dsimp only [fv0, List.map, HAppend.hAppend, Append.append, List.append] at F' nd'
  k_fold
  k_steps
  rename_i d2 h2 o2 F2 N2 lo2 ds2 di2 a2 fl2 y2
  have F' := F2
  have N' := N2
  clear F2 N2
  have hn1 : d2 ≠ dx := Nat.ne_of_gt y2.2
  have hn2 : x ≠ dx := Nat.ne_of_gt l2
  k_steps
  rename Fr _ _ _ _ => F3
  rename News _ _ _ _ => N3
  obtain ⟨es, n, t1, t2, N4, At⟩ : ∃ es n t1 t2, News g' L' h' [(d2, o2), (x, instObj 172 dx), (dx, dictOf es n)] ∧ Ats es [("_node2info", .ref d2), ("_ready_nodes", .none), ("_npassedout", .int 0 t1), ("_nfinished", .int 0 t2)] := ⟨_, _, _, _, N3, .cons rfl (.cons rfl (.cons rfl (.cons rfl .nil)))⟩
  clear N3
  have kp : ∀ b o, h1.get? b = some o → b ≠ x → b ≠ dx → h'.get? b = some o := fun b o e b1 b2 => F3.keep b o (kp' b o e fun p hp => by
    rcases List.mem_cons.mp hp with rfl | hp
    · exact b1.symm
    · rw [List.mem_singleton] at hp; subst hp; exact b2.symm)
  have x1 := N1 _ (.head _)
  have x2 := N1 _ (.tail _ (.head _))
  have g2 : ∀ b o, h1.get? b = some o → b ≠ x → b ≠ dx → b ≠ d2 := fun b o e b1 b2 q => by
    have := (N4 _ (.head _)).2.2
    rw [← q, kp' b o e (fun p hp => by
      rcases List.mem_cons.mp hp with rfl | hp
      · exact b1.symm
      · rw [List.mem_singleton] at hp; subst hp; exact b2.symm)] at this
    cases this
  obtain ⟨oL, eL, pL, hL, rL⟩ := F1.ns
  have hLd := g2 L oL hL x1.2.1.symm x2.2.1.symm
  have hg2 : g.get? d2 = none := by
    cases e : g.get? d2 with
    | none => rfl
    | some o =>
      have := (N4 _ (.head _)).2.2
      rw [st' _ _ e] at this; cases this
  have hW : ∀ q ∈ W, q.1 ≠ x ∧ q.1 ≠ dx := fun q hq => ⟨Nat.ne_of_lt (Nat.lt_trans (l1 q hq) l2), Nat.ne_of_lt (l1 q hq)⟩
  have hW1 : ∀ q ∈ W, h1.get? q.1 = some q.2 ∧ q.1 ≠ L ∧ g.get? q.1 = none := fun q hq => N1 q (.tail _ (.tail _ hq))
  refine ⟨rfl, h x dx d2 o2 es n t1 t2 h' _ ⟨⟨oL, eL, pL, kp _ _ hL x1.2.1.symm x2.2.1.symm, rL⟩, fun b o e => F3.keep b o (st' b o e), F1.above⟩ (fun p hp => ?_) (fun p hp q hq => ?_) hn2 (Nat.ne_of_lt y2.1) hn1.symm a2 At⟩
  · rcases List.mem_append.mp hp with hp | hp
    · rcases List.mem_cons.mp hp with rfl | hp
      · exact ⟨(N4 _ (.tail _ (.head _))).1, x1.2⟩
      rcases List.mem_cons.mp hp with rfl | hp
      · exact ⟨(N4 _ (.tail _ (.tail _ (.head _)))).1, x2.2⟩
      rw [List.mem_singleton] at hp; subst hp
      exact ⟨(N4 _ (.head _)).1, hLd.symm, hg2⟩
    · exact ⟨kp _ _ (hW1 p hp).1 (hW p hp).1 (hW p hp).2, (hW1 p hp).2⟩
  · rcases List.mem_cons.mp hp with rfl | hp
    · exact (hW q hq).1
    rcases List.mem_cons.mp hp with rfl | hp
    · exact (hW q hq).2
    rw [List.mem_singleton] at hp; subst hp
    exact g2 _ _ (hW1 q hq).1 (hW q hq).1 (hW q hq).2
theorem all : ∀ y, P_ y := @pick_all _ _ P_ (by with_unfolding_all exact core)
end newSrtK_
theorem newSrtK {w A E s g L m W Q loose mean mg mb p} : newSrtK_.Q_ w A E s g L m W Q loose mean mg mb p := @newSrtK_.all (w, A, E, s, g, L, m, W, Q, loose, mean, mg, mb, p)
section
variable {w : World} {A : Around} {E : Value → Shared → Prop} {s : Shared} {g : Heap} {L : Addr} {m : Str → Option Value} {W : List (Addr × Obj)} {Q : Value → Shared → Prop}
theorem newSrt {loose : List Str} {mean : ExcName → Option Value} {mg mb : Str → Option Value} {p : Program} (l : Low A) (F : Fr g L s.heap m) (X : (hd.heap_1 w.params).In g) (T : Top p loose mean mg mb g) (N : News g L s.heap W) (nd : (W.map (·.1)).Nodup)
    (h : ∀ S W' h' tk', S.nodes = [] → S.rd = none → S.ready = [] → S.po = 0 → S.nf = 0 → (∀ y, S.np y = 0 ∧ S.succ y = []) → Srt w W' S → Std W W' → Fr g L h' m → News g L h' W' → Q (.ref S.s) { s with heap := h', toks := tk' }) :
    wpAny (model PG w) A (call (.ref 172) []) Q E s := by
  refine newSrtK l F X T N nd fun a d n2 o2 es n t1 t2 h' tk' F' N' ap e1 e2 e3 hd2 At => ?_
  have nd' := nd_app (new := [(a, instObj 172 d), (d, dictOf es n), (n2, o2)]) (by simp [e1, e2, e3]) nd ap
  refine h ⟨a, d, n2, none, [], [], 0, 0, fun _ => 0, fun _ => 0, fun _ => 0, fun _ => 0, fun _ => []⟩ _ h' tk' rfl rfl rfl rfl rfl (fun y => ⟨rfl, rfl⟩) ⟨nd', mem_look nd' (.head _), ⟨es, n, t1, t2, mem_look nd' (.tail _ (.head _)), At⟩, ⟨_, mem_look nd' (.tail _ (.tail _ (.head _))), hd2⟩, nofun, nofun, nofun, nofun, nofun, nofun, e3, not_mods X (N' (n2, o2) (.tail _ (.tail _ (.head _)))).2.2⟩
    (fun b o e => mem_look nd' (List.mem_append_right _ (look_mem e))) F' N'
end
theorem set_led {tb t' : SetTable} {n : Nat} {b : Bool} (ht : tb = { XFast.xw9749593925720190779 t' n with plain := false }) (hl : t'.led = !b) : b = true ∨ tb.led = true := by
  cases b with
  | true => exact .inl rfl
  | false =>
    refine .inr ?_
    rw [ht, xw_stand]
    show (t'.orStandIn n).led = true
    unfold SetTable.orStandIn
    split
    · exact hl
    · exact hl
section
theorem kx_z_new : True := by
  k_with "zx" => ((fail_if_success k_extra "z_new"); rename Mem _ _ _ _ => D; have y5 := mem_new 3 D rfl rfl; have q5 := set_one (w := w) (x := x) (t := t) y5.1 rfl; exact hQ _ _ _ (mem_keep D) ⟨⟨q5, _, _, _, y5.1, set_led (b := w.params.followText "set-order") rfl rfl⟩, y5.2⟩)
  trivial
local macro_rules | `(tactic| x_close) => `(tactic| k_extra "zx")
theorem setOne0 {PG : Program} {w : World} {h : Heap} {ge : Array GenState} {dr : Drawn} {tk : Nat} {os : OsState} {l : Addr} {n : Nat} {x : Str} {t : Tok} {Q : Value → Shared → Prop} {E : Value → Shared → Prop}
   (hl : h.get? l = some { cls := .type "list", data := .seq #[.str x t] n })
   (hQ : ∀ st h' tk', (∀ b o, h.get? b = some o → h'.get? b = some o) →
      ((h'.SetOf (sK w) st (fun y => y == x) 1 ∧ ∃ se ep tb, h'.get? st = some { cls := .type "set", data := .set se ep tb } ∧ (w.params.followText "set-order" = true ∨ tb.led = true)) ∧ h.get? st = none) → Q (.ref st) ⟨h', ge, dr, tk', os⟩) :
   wpAny (model PG w) ⟨none, 500, none, none, 5000⟩ (call (.type "set") [.ref l]) Q E ⟨h, ge, dr, tk, os⟩ := by
  x_run
end
theorem setOneK {w : World} {A : Around} {E : Value → Shared → Prop} {s : Shared} {g : Heap} {L : Addr} {m : Str → Option Value} {W : List (Addr × Obj)} {Q : Value → Shared → Prop} {la : Addr} {n : Nat} {x : Str} {t : Tok} (l : Low A) (F : Fr g L s.heap m) (N : News g L s.heap W) (hm : (la, listOf [.str x t].toArray n) ∈ W)
    (h : ∀ st so h' tk', Fr g L h' m → News g L h' ((st, so) :: W) → (∀ p ∈ W, p.1 ≠ st) → One w so x → Q (.ref st) { s with heap := h', toks := tk' }) :
    wpAny (model PG w) A (call (.type "set") [.ref la]) Q E s := by
  have ho := (N _ hm).1
  obtain ⟨hp, ge, dr, tk, os⟩ := s
  refine low_any l (setOne0 ho fun st h' tk' kp h5 => ?_)
  obtain ⟨⟨h5a, se, ep, tb, h5b, h5c⟩, h5d⟩ := h5
  obtain ⟨F', N', ap⟩ := extend1 F N kp h5b h5d
  obtain ⟨o, ho', hd'⟩ := h5a.objOf
  rw [h5b] at ho'; cases ho'
  exact h st _ h' tk' F' N' ap ⟨hd', se, ep, tb, rfl, h5c⟩
theorem kw_z_ign : True := by
  k_with "call type:set" => ((fail_if_success k_extra "z_new"); k_here; k_dflt (refine' setOneK ?k1 ?k2 ?k3 ?k4 ?_; (case k1 => exact low2 _); (case k2 => assumption); (case k3 => assumption); (case k4 => k_mem); k_whole); intro st9 so9 h' tk9 F' N' ns9 hs9; k_sweep)
  k_with "setAttr ref" => ((fail_if_success k_extra "z_new"); k_here; (have hn9 := hn2); clear hn9; k_dflt (refine' set_dict ?k1 ?k2 ?k3 ?k4 ?k5 ?k6 ?k7 ?k8 ?k9 ?k10 ?k11 ?k12 ?k13 ?_; (case k1 => assumption); (case k2 => assumption); (case k3 => assumption); (case k4 => k_inst); (case k5 => exact rfl); (case k6 => k_is); (case k7 => k_is); (case k8 => k_is); (case k9 => k_is); (case k10 => k_get); (case k11 => k_put); (case k12 => first | exact .tail hS3 (.tail hS2 (.tail hS1 (.tail hn2 (.head hC)))) | exact .tail hS2 (.tail hS1 (.tail hn2 (.head hC))) | exact .tail hS1 (.tail hn2 (.head hC))); (case k13 => exact Nat.le_of_ble_eq_true rfl); k_whole); intro h' F' N'; k_sweep)
  trivial
namespace newIgn_
def Q_ (w : World) (A : Around) (E : Value → Shared → Prop) (s : Shared) (g : Heap) (L : Addr) (m : Str → Option Value) (W : List (Addr × Obj)) (Q : Value → Shared → Prop) (loose : List Str) (mean : ExcName → Option Value) (mg : Str → Option Value) (mb : Str → Option Value) (p : Program) (la : Addr) (n : Nat) (x : Str) (t : Tok) : Prop := ∀ (l : Low A) (l' : A.depth ≤ 400 ∧ A.units ≤ 4000) (F : Fr g L s.heap m) (X : (hd.heap_1 w.params).In g) (T : Top p loose mean mg mb g) (N : News g L s.heap W) (nd : (W.map (·.1)).Nodup) (hl : W.lookup la = some (listOf [.str x t].toArray n)) (h : ∀ G kvs W0 h' tk', G.x = x → kvs.length = 1 → Ign w W0 G kvs → (∀ p ∈ W0, ∀ q ∈ W, q.1 ≠ p.1) → Fr g L h' m → News g L h' (W0 ++ W) → Q (.ref G.s) { s with heap := h', toks := tk' }), wpAny (model PG w) A (call (.ref 234) [.ref la]) Q E s
noncomputable section
def P_ (x : World × Around × (Value → Shared → Prop) × Shared × Heap × Addr × (Str → Option Value) × (List (Addr × Obj)) × (Value → Shared → Prop) × (List Str) × (ExcName → Option Value) × (Str → Option Value) × (Str → Option Value) × Program × Addr × Nat × Str × Tok) : Prop := Q_ x.1 x.2.1 x.2.2.1 x.2.2.2.1 x.2.2.2.2.1 x.2.2.2.2.2.1 x.2.2.2.2.2.2.1 x.2.2.2.2.2.2.2.1 x.2.2.2.2.2.2.2.2.1 x.2.2.2.2.2.2.2.2.2.1 x.2.2.2.2.2.2.2.2.2.2.1 x.2.2.2.2.2.2.2.2.2.2.2.1 x.2.2.2.2.2.2.2.2.2.2.2.2.1 x.2.2.2.2.2.2.2.2.2.2.2.2.2.1 x.2.2.2.2.2.2.2.2.2.2.2.2.2.2.1 x.2.2.2.2.2.2.2.2.2.2.2.2.2.2.2.1 x.2.2.2.2.2.2.2.2.2.2.2.2.2.2.2.2.1 x.2.2.2.2.2.2.2.2.2.2.2.2.2.2.2.2.2
def x_ := pick (dW, callerA, default, ({} : Shared), default, default, default, default, default, default, default, default, default, PG, default, default, default, default) fun x => ¬ P_ x
@[irreducible] def w := x_.1
@[irreducible] def A := x_.2.1
@[irreducible] def E := x_.2.2.1
@[irreducible] def s := x_.2.2.2.1
@[irreducible] def g := x_.2.2.2.2.1
@[irreducible] def L := x_.2.2.2.2.2.1
@[irreducible] def m := x_.2.2.2.2.2.2.1
@[irreducible] def W := x_.2.2.2.2.2.2.2.1
@[irreducible] def Q := x_.2.2.2.2.2.2.2.2.1
@[irreducible] def loose := x_.2.2.2.2.2.2.2.2.2.1
@[irreducible] def mean := x_.2.2.2.2.2.2.2.2.2.2.1
@[irreducible] def mg := x_.2.2.2.2.2.2.2.2.2.2.2.1
@[irreducible] def mb := x_.2.2.2.2.2.2.2.2.2.2.2.2.1
@[irreducible] def p := x_.2.2.2.2.2.2.2.2.2.2.2.2.2.1
@[irreducible] def la := x_.2.2.2.2.2.2.2.2.2.2.2.2.2.2.1
@[irreducible] def n := x_.2.2.2.2.2.2.2.2.2.2.2.2.2.2.2.1
@[irreducible] def x := x_.2.2.2.2.2.2.2.2.2.2.2.2.2.2.2.2.1
@[irreducible] def t := x_.2.2.2.2.2.2.2.2.2.2.2.2.2.2.2.2.2
end
theorem core : Q_ w A E s g L m W Q loose mean mg mb p la n x t := by
  intro l l' F X T N nd hl h
  have hd1 := l'.1
  refine wpAny_call (make_K F N (X.keeps F.keep) (by k_is) (by k_is) (by k_is) fun y dx h1 F1 N1 l1 l2 => ?_)
  have hla := look_mem hl
  refine enter [("self", .ref y), ("modules", .ref la), ("dirs", .none)] [] (K := hd.heap_1 w.params) (W := [(y, instObj 234 dx), (dx, dictOf [] 0), (la, listOf [.str x t].toArray n)]) X T F1.keep (fun p hp => ?_) (fun p hp => ?_) (by k_is) (by k_is) ?_ (binds_K (X.keeps F1.keep) rfl (by k_is) rfl rfl rfl) (locs rfl) (of_decide_eq_true (by kernel_rfl)) (by decide +kernel) ?_ rfl rfl rfl (by decide)
  · rcases List.mem_cons.mp hp with rfl | hp
    · exact (N1 _ (.head _)).1
    rcases List.mem_cons.mp hp with rfl | hp
    · exact (N1 _ (.tail _ (.head _))).1
    rw [List.mem_singleton] at hp; subst hp
    exact (N1 _ (.tail _ (.tail _ hla))).1
  · rcases List.mem_cons.mp hp with rfl | hp
    · exact (N1 _ (.head _)).2.2
    rcases List.mem_cons.mp hp with rfl | hp
    · exact (N1 _ (.tail _ (.head _))).2.2
    rw [List.mem_singleton] at hp; subst hp
    exact (N1 _ (.tail _ (.tail _ hla))).2.2
  · show A.depth + 1 < recursionLimit
    exact Nat.lt_of_le_of_lt (Nat.add_le_add_right hd1 1) (by decide)
  intro g' L' h' st' kp' sub' F' N' X' T' nd' ns'
  dsimp only [fv0, List.map, HAppend.hAppend, Append.append, List.append] at F' nd'
  k_fold
  have hn2 : y ≠ dx := Nat.ne_of_gt l2
  have hl2 := l1 _ hla
  have low2 : ∀ en, Low ((A.under (.builtin "type.__call__" ⟨[.ref 234, .ref la], []⟩)).deeper en) := fun en => ⟨l.handled, by show A.depth + 1 + 1 ≤ 500; omega, by
    have := l'.2
    first | (show A.units + 1 + 3 ≤ 5000; omega) | (show A.units + 3 + 3 ≤ 5000; omega) | (show A.units + 2 + 3 ≤ 5000; omega) | (show A.units + 4 + 3 ≤ 5000; omega) | (show A.units + 0 + 3 ≤ 5000; omega)⟩
  have hC : ∀ p ∈ [(la, listOf [.str x t].toArray n)], p.1 ≠ dx := fun p hp => by rw [List.mem_singleton] at hp; subst hp; exact Nat.ne_of_lt hl2
  k_steps
  have hS1 : st9 ≠ dx := (ns9 _ (.tail _ (.head _))).symm
  k_steps
  rename_i lds h8 F8 N8 ll
  have F' := F8
  have N' := N8
  clear F8 N8
  have hS2 : lds ≠ dx := Nat.ne_of_gt ll.2.2.1
  k_steps
  rename_i h9 o9 F9 N9 lo9 hd9 fl9 ne9 l9
  show wpAny _ _ (setAttr (Value.ref y) _ (Value.ref h'.objs.size)) _ _ _
  clear fl9 ne9
  generalize h'.objs.size = dig at N9 lo9 l9 ⊢
  have F' := F9
  have N' := N9
  clear F9 N9
  have hS3 : dig ≠ dx := Nat.ne_of_gt l9.2.2.2.1
  k_steps
  rename Fr _ _ _ _ => F3
  rename News _ _ _ _ => N3
  obtain ⟨es, n', t1, N4, At, hd4⟩ : ∃ es n' t1, News g' L' h' [(dig, o9), (lds, listOf #[] 0), (st9, so9), (y, instObj 234 dx), (dx, dictOf es n'), (la, listOf [.str x t].toArray n)] ∧ Ats es [("_mods", .ref st9), ("_dirs", .ref lds), ("_ignore", .ref dig)] ∧ o9.IsDictOf (sK w) [(Str.ofString "<string>", .int 1 t1)] := ⟨_, _, _, N3, .cons rfl (.cons rfl (.cons rfl .nil)), hd9⟩
  clear N3 hd9
  have kp : ∀ b o, h1.get? b = some o → b ≠ y → b ≠ dx → b ≠ la → h'.get? b = some o := fun b o e b1 b2 b3 => F3.keep b o (kp' b o e fun p hp => by
    rcases List.mem_cons.mp hp with rfl | hp
    · exact b1.symm
    rcases List.mem_cons.mp hp with rfl | hp
    · exact b2.symm
    · rw [List.mem_singleton] at hp; subst hp; exact b3.symm)
  have g2 : ∀ b o c oc, h1.get? b = some o → b ≠ y → b ≠ dx → b ≠ la → g'.get? c = none → (c, oc) ∈ ([(dig, o9), (lds, listOf #[] 0), (st9, so9)] : List (Addr × Obj)) → b ≠ c := fun b o c oc e b1 b2 b3 hc _ q => by
    rw [← q, kp' b o e (fun p hp => by
      rcases List.mem_cons.mp hp with rfl | hp
      · exact b1.symm
      rcases List.mem_cons.mp hp with rfl | hp
      · exact b2.symm
      · rw [List.mem_singleton] at hp; subst hp; exact b3.symm)] at hc
    cases hc
  have gn : ∀ c, g'.get? c = none → g.get? c = none := fun c hc => by
    cases e : g.get? c with
    | none => rfl
    | some o => rw [st' _ _ e] at hc; cases hc
  have x1 := N1 _ (.head _)
  have x2 := N1 _ (.tail _ (.head _))
  have x3 := N1 _ (.tail _ (.tail _ hla))
  have m1 := N4 _ (.head _)
  have m2 := N4 _ (.tail _ (.head _))
  have m3 := N4 _ (.tail _ (.tail _ (.head _)))
  have m4 := N4 _ (.tail _ (.tail _ (.tail _ (.head _))))
  have m5 := N4 _ (.tail _ (.tail _ (.tail _ (.tail _ (.head _)))))
  have m6 := N4 _ (.tail _ (.tail _ (.tail _ (.tail _ (.tail _ (.head _))))))
  obtain ⟨oL, eL, pL, hL, rL⟩ := F1.ns
  have e1 : y ≠ st9 := ns9 _ (.head _)
  have e2 : la ≠ st9 := ns9 _ (.tail _ (.tail _ (.head _)))
  have hLk := fun c oc hc hm => g2 L oL c oc hL x1.2.1.symm x2.2.1.symm x3.2.1.symm hc hm
  have nd0 : (([(y, instObj 234 dx), (dx, dictOf es n'), (dig, o9), (lds, listOf #[] 0), (st9, so9)] : List (Addr × Obj)).map (·.1)).Nodup := by
    simp [hn2, hS1.symm, hS2.symm, hS3.symm, e1, Nat.ne_of_lt l9.2.2.1, Nat.ne_of_lt ll.2.1, Nat.ne_of_gt l9.1, Nat.ne_of_gt l9.2.1, Nat.ne_of_gt ll.1]
  have hW : ∀ q ∈ W, q.1 ≠ y ∧ q.1 ≠ dx := fun q hq => ⟨Nat.ne_of_lt (Nat.lt_trans (l1 q hq) l2), Nat.ne_of_lt (l1 q hq)⟩
  have hW1 : ∀ q ∈ W, h1.get? q.1 = some q.2 ∧ q.1 ≠ L ∧ g.get? q.1 = none := fun q hq => N1 q (.tail _ (.tail _ hq))
  refine ⟨rfl, h ⟨y, dx, lds, st9, dig, x⟩ [(Str.ofString "<string>", .int 1 t1)] [(y, instObj 234 dx), (dx, dictOf es n'), (dig, o9), (lds, listOf #[] 0), (st9, so9)] h' _ rfl rfl
    ⟨nd0, mem_look nd0 (.head _), ⟨es, n', mem_look nd0 (.tail _ (.head _)), At⟩, mem_look nd0 (.tail _ (.tail _ (.tail _ (.head _)))), ⟨_, mem_look nd0 (.tail _ (.tail _ (.tail _ (.tail _ (.head _))))), hs9⟩, ⟨_, mem_look nd0 (.tail _ (.tail _ (.head _))), hd4⟩, lo9, fun k v hv hne => ?_, hS3.symm⟩
    (fun p hp q hq => ?_) ⟨⟨oL, eL, pL, kp _ _ hL x1.2.1.symm x2.2.1.symm x3.2.1.symm, rL⟩, fun b o e => F3.keep b o (st' b o e), F1.above⟩ (fun p hp => ?_)⟩
  · unfold PySem.valueAt at hv
    rw [List.find?_cons] at hv
    have : decide (Str.ofString "<string>" = k) = false := decide_eq_false fun e => hne e.symm
    rw [this] at hv; cases hv
  · have hq3 : q.1 = la ∨ q.1 ≠ la := Nat.decEq q.1 la |>.casesOn .inr .inl
    rcases List.mem_cons.mp hp with rfl | hp
    · exact (hW q hq).1
    rcases List.mem_cons.mp hp with rfl | hp
    · exact (hW q hq).2
    rcases List.mem_cons.mp hp with rfl | hp
    · rcases hq3 with hq3 | hq3
      · rw [hq3]; exact Nat.ne_of_lt l9.2.2.2.2
      · exact g2 _ _ _ _ (hW1 q hq).1 (hW q hq).1 (hW q hq).2 hq3 m1.2.2 (.head _)
    rcases List.mem_cons.mp hp with rfl | hp
    · rcases hq3 with hq3 | hq3
      · rw [hq3]; exact Nat.ne_of_lt ll.2.2.2
      · exact g2 _ _ _ _ (hW1 q hq).1 (hW q hq).1 (hW q hq).2 hq3 m2.2.2 (.tail _ (.head _))
    rw [List.mem_singleton] at hp; subst hp
    rcases hq3 with hq3 | hq3
    · rw [hq3]; exact e2
    · exact g2 _ _ _ _ (hW1 q hq).1 (hW q hq).1 (hW q hq).2 hq3 m3.2.2 (.tail _ (.tail _ (.head _)))
  · rcases List.mem_append.mp hp with hp | hp
    · rcases List.mem_cons.mp hp with rfl | hp
      · exact ⟨m4.1, x1.2⟩
      rcases List.mem_cons.mp hp with rfl | hp
      · exact ⟨m5.1, x2.2⟩
      rcases List.mem_cons.mp hp with rfl | hp
      · exact ⟨m1.1, (hLk _ _ m1.2.2 (.head _)).symm, gn _ m1.2.2⟩
      rcases List.mem_cons.mp hp with rfl | hp
      · exact ⟨m2.1, (hLk _ _ m2.2.2 (.tail _ (.head _))).symm, gn _ m2.2.2⟩
      rw [List.mem_singleton] at hp; subst hp
      exact ⟨m3.1, (hLk _ _ m3.2.2 (.tail _ (.tail _ (.head _)))).symm, gn _ m3.2.2⟩
    · refine ⟨?_, (hW1 p hp).2⟩
      by_cases q : p.1 = la
      · have := mem_look nd hp
        rw [q, hl] at this
        cases p; cases q; cases this
        exact m6.1
      · exact kp _ _ (hW1 p hp).1 (hW p hp).1 (hW p hp).2 q
theorem all : ∀ y, P_ y := @pick_all _ _ P_ (by with_unfolding_all exact core)
end newIgn_
theorem newIgn {w A E s g L m W Q loose mean mg mb p la n x t} : newIgn_.Q_ w A E s g L m W Q loose mean mg mb p la n x t := @newIgn_.all (w, A, E, s, g, L, m, W, Q, loose, mean, mg, mb, p, la, n, x, t)
theorem kz_z_new : True := by
  k_with "z_new" => skip
  trivial
theorem kl_za_read : True := by
  k_with "lia" => ((fail_if_success k_extra "za_read"); lia)
  trivial
section
variable {w : World} {A : Around} {E : Value → Shared → Prop} {s : Shared} {g : Heap} {L : Addr} {m : Str → Option Value} {W : List (Addr × Obj)} {Q : Value → Shared → Prop}
abbrev rangeObj (n : Int) (t u v : Tok) : Obj := { cls := .type "range", data := .fields #[.int 0 t, .int n u, .int 1 v] }
theorem callRange {n : Int} {t : Tok} (F : Fr g L s.heap m) (N : News g L s.heap W) (h : ∀ r h' t u v tk, Fr g L h' m → News g L h' ((r, rangeObj n t u v) :: W) → (∀ p ∈ W, p.1 ≠ r) → Q (.ref r) { s with heap := h', toks := tk }) :
    wpAny (model PG w) A (call (.type "range") [.int n t]) Q E s :=
  call_range_1 (h _ _ _ _ _ _ (F.push _) (N.push F _ rfl) fun p hp => Nat.ne_of_lt (Heap.lt_size (N p hp).1))
theorem fitsL {x : Int} (h0 : 0 ≤ x) (h1 : x ≤ 1000) : Builtin.Range.rangeFitsLong x = true := by
  unfold Builtin.Range.rangeFitsLong
  simp
  omega
abbrev rangeIt (n i : Nat) : Obj := { cls := .type "range_iterator", data := .fields #[rawInt i, rawInt ((n : Int) - i), rawInt 1] }
theorem iterRange {r : Addr} {n : Nat} (hn : n ≤ 900) : Iter w A (.ref r) "range_iterator" n (fun h => ∃ t u v, h.get? r = some (rangeObj n t u v)) (fun i o => o = rangeIt n i) (fun i v => ∃ t, v = .int (i : Int) t) where
  cls := fun i o h => by rw [h]
  free := fun i o h => by rw [h]; rfl
  nod := fun i o h es ep q => by rw [h] at q; cases q
  start := fun s Q E ⟨t, u, v, hr⟩ h => by
    have hs : Builtin.Range.rangeSize 0 n 1 = n := by
      rw [rangeSize_one]; split <;> omega
    have hsm : Builtin.Range.small 0 n 1 = true := by
      unfold Builtin.Range.small
      rw [hs, fitsL (Int.le_refl 0) (by decide), fitsL (by omega) (by omega), fitsL (by decide) (by decide), if_pos (by decide), fitsL (by omega) (by omega)]
      simp
    refine wpAny_pyIter_range hr hsm ?_
    rw [hs]
    exact h _ (by simp)
  next := fun s Q E i it o ho hi _ hlt h => by
    subst hi
    refine wpAny_pyNext_range_item (x := i) (left := (n : Int) - i) (step := 1) ho (by omega) fun h' hit' hs' => ?_
    refine h h' _ _ (rangeIt n (i + 1)) ?_ rfl hs' ⟨_, rfl⟩
    have e : (n : Int) - ((i + 1 : Nat) : Int) = (n : Int) - i - 1 := by omega
    have e2 : ((i + 1 : Nat) : Int) = (i : Int) + 1 := by omega
    show h'.get? it = some { cls := .type "range_iterator", data := .fields #[rawInt ((i + 1 : Nat) : Int), rawInt ((n : Int) - ((i + 1 : Nat) : Int)), rawInt 1] }
    rw [e, e2]; exact hit'
  fin := fun hh s Q E it o ho hi _ h => by
    subst hi
    exact wpAny_pyNext_range_end (x := n) (left := (n : Int) - n) (step := 1) hh ho (by omega) fun h' hs' => h h' s.toks hs'
theorem selfRange {n : Nat} (s : Shared) (Q : Value → Shared → Prop) (E : Value → Shared → Prop) (it : Addr) (o : Obj) (ho : s.heap.get? it = some o) (hi : o = rangeIt n 0) (h : Q (.ref it) s) : wpAny (model PG w) A (pyIter (.ref it)) Q E s := by
  subst hi
  exact wpAny_pyIter_rangeiter (x := (0 : Nat)) (left := (n : Int) - (0 : Nat)) (step := 1) ho h
theorem seen1 {a : Addr} {o : Obj} (F : Fr g L s.heap m) (ha : g.get? a = some o) : News (hideAll g [a]) L s.heap [(a, o)] := fun p hp => by
  rw [List.mem_singleton] at hp
  subst hp
  exact ⟨F.keep _ _ ha, Nat.ne_of_lt (Nat.lt_of_lt_of_le (Heap.lt_size ha) F.above), hideAll_none _ (.head _)⟩
end
noncomputable def prim (p : Nat) : Int := [0, 2, 3, 5, 7, 11, 13, 17, 19, 23, 29].getD p 0
section
theorem kw_za_read : True := by
  k_with "call type:range" => ((fail_if_success k_extra "za_read"); k_here; k_dflt (refine' callRange ?z1 ?z2 ?_; (case z1 => assumption); (case z2 => assumption); k_whole); intro r' h' t' u' v' tk' F' N' nr'; (try dsimp only at F' N'))
  trivial
theorem prime_ok {w : World} {A : Around} {s : Shared} {g0 : Heap} {loose : List Str} {mean : ExcName → Option Value} {mg mb : Str → Option Value} {p : Program} {R : Result → Shared → Prop}
    (X : (hd.heap_1 w.params).In g0) (T : Top p loose mean mg mb g0) (k : g0.StaysIn s.heap) (hroom : A.depth ≤ 450) (hun : A.units ≤ 4500) {q : Nat} {t : Tok} (hq : q ≤ 10)
    (hR : ∀ h' tk t', (∀ b o, s.heap.get? b = some o → h'.get? b = some o) → R (.ok (.ret (.int (prim q) t'))) { s with heap := h', toks := tk }) :
    codeAny (model PG w) A (.call (.ref 252) ⟨[.int (q : Int) t], []⟩) R s := by
  have hr1 : A.depth + 60 < recursionLimit := Nat.lt_of_le_of_lt (Nat.add_le_add_right hroom 60) (by decide)
  have hu1 : A.units + 60 < cLine := Nat.lt_of_le_of_lt (Nat.add_le_add_right hun 60) (by decide)
  refine enter [("place", .int (q : Int) t)] [] (K := hd.heap_1 w.params) (W := []) X T k (fun p hp => nomatch hp) (fun p hp => nomatch hp) (by k_is) (by k_is) (by omega) (BindsTo.of_eq rfl) (locs rfl) (of_decide_eq_true (by kernel_rfl)) (by decide +kernel) ?_ rfl rfl rfl (by decide)
  intro g' L' h' st' kp' sub' F' N' X' T' nd' ns'
  dsimp only [fv0, List.map, HAppend.hAppend, Append.append, List.append] at F' nd'
  k_fold
  k_steps
  rename Fr _ _ _ _ => F2
  have := fun tk t => hR _ tk t (fun b o e => F2.keep b o (kp' b o e fun p hp => nomatch hp))
  unfold prim at this
  rw [Int.toNat_natCast]
  exact this _ _
end
theorem kz_za_read : True := by
  k_with "za_read" => skip
  trivial
theorem kl_zb_num : True := by
  k_with "lia" => ((fail_if_success k_extra "zb_num"); lia)
  trivial
structure Tabs (w : World) (h : Heap) (rows deep told : Addr) (n : Nat) (M : Nat → Nat → Bool) (dp : Nat → Nat) (tv : Nat → Option Nat) : Prop where
  tRows : ∃ (rv : List Value) (k : Nat), h.get? rows = some (listOf rv.toArray k) ∧ rv.length = n ∧ ∀ x, x < n → ∃ (a : Addr) (cs : List Value) (k' : Nat), rv[x]? = some (.ref a) ∧ h.get? a = some (listOf cs.toArray k') ∧ cs.length = n ∧ ∀ y, y < n → ∃ t, cs[y]? = some (.int (if M x y then 1 else 0) t)
  tDeep : ∃ (dv : List Value) (k : Nat), h.get? deep = some (listOf dv.toArray k) ∧ dv.length = n ∧ ∀ y, y < n → ∃ t, dv[y]? = some (.int (dp y : Int) t)
  tTold : ∃ o kvs, h.get? told = some o ∧ o.IsDictOf (iK w) kvs ∧ ∀ y, y < n → (tv y = none → PySem.valueAt kvs (y : Int) = none) ∧ ∀ q, tv y = some q → ∃ t, PySem.valueAt kvs (y : Int) = some (.int (q : Int) t)
  tolds : (told == sysModules) = false
theorem Tabs.keep {w : World} {h h' : Heap} {rows deep told : Addr} {n : Nat} {M : Nat → Nat → Bool} {dp : Nat → Nat} {tv : Nat → Option Nat} (T : Tabs w h rows deep told n M dp tv) (k : ∀ b o, h.get? b = some o → h'.get? b = some o) : Tabs w h' rows deep told n M dp tv := by
  obtain ⟨rv, k1, h1, l1, r1⟩ := T.tRows
  obtain ⟨dv, k2, h2, r2⟩ := T.tDeep
  obtain ⟨o, kvs, h3, r3⟩ := T.tTold
  refine ⟨⟨rv, k1, k _ _ h1, l1, fun x hx => ?_⟩, ⟨dv, k2, k _ _ h2, r2⟩, ⟨o, kvs, k _ _ h3, r3⟩, T.tolds⟩
  obtain ⟨a, cs, k', e1, e2, e3⟩ := r1 x hx
  refine ⟨a, cs, k', e1, k _ _ e2, e3⟩
noncomputable def numS (M : Nat → Nat → Bool) (dp : Nat → Nat) (tv : Nat → Option Nat) (x : Nat) (a : Int) (y : Nat) : Int := if y ≠ x ∧ M x y = true ∧ dp y = dp x + 1 then a * prim ((tv y).getD 0) else a
noncomputable def numF (n : Nat) (M : Nat → Nat → Bool) (dp : Nat → Nat) (tv : Nat → Option Nat) (x : Nat) : Int := (List.range n).foldl (numS M dp tv x) 1
section
variable {w : World} {A : Around} {E : Value → Shared → Prop} {s : Shared} {g : Heap} {L a : Addr} {m : Str → Option Value} {Q : Value → Shared → Prop} {vs : List Value} {n x : Nat} {v : Value} {t : Tok}
theorem rdG {value slice : PySem.Expr} (F : Fr g L s.heap m) (ha : g.get? a = some (listOf vs.toArray n)) (hv : vs[x]? = some v) (hz : vs.length ≤ 1000) (h : Q v s)
    (hs : subscripted slice false (.ref a) (.int (x : Int) t) = operate [.ref a, .int (x : Int) t] (getItem (.ref a) (.int (x : Int) t)) := by with_unfolding_all rfl) (hg : ∀ r, letTemporaryGo value (.ref a) r = pure () := by intro _; with_unfolding_all rfl) :
    wpAny (model PG w) A (subscriptTail value slice (.ref a) (.int (x : Int) t)) Q E s := by
  have hlt : x < vs.length := (List.getElem?_eq_some_iff.mp hv).1
  refine getL (seen1 F ha) (.head _) (by omega) (by omega) hz (fun v' hv' => ?_) hs hg
  rw [Int.toNat_natCast, hv] at hv'
  cases hv'; exact h
theorem lenG (F : Fr g L s.heap m) (ha : g.get? a = some (listOf vs.toArray n)) (hz : vs.length ≤ 1000) (h : ∀ t, Q (.int (vs.length : Int) t) { s with toks := s.toks + 1 + 1 }) : wpAny (model PG w) A (call (.builtin "len") [.ref a]) Q E s :=
  lenL (seen1 F ha) (.head _) hz (h _)
theorem toldM {o : Obj} {kvs : List (Int × Value)} {pl : Sem Bool} {mQ : Value × List Value → Shared → Prop} (F : Fr g L s.heap m) (ha : g.get? a = some o) (hd : o.IsDictOf (iK w) kvs) (h : mQ (.builtin "dict.get", [.ref a]) s) : wpAny (model PG w) A (getMethod (.ref a) "get" pl) mQ E s :=
  kdg_method (knd := iK w) (seen1 F ha) (.head _) hd h
theorem toldG {o : Obj} {kvs : List (Int × Value)} {tv : Nat → Option Nat} {u : Tok} (F : Fr g L s.heap m) (ha : g.get? a = some o) (hd : o.IsDictOf (iK w) kvs) (lo : (a == sysModules) = false)
    (hv : (tv x = none → PySem.valueAt kvs (x : Int) = none) ∧ ∀ q, tv x = some q → ∃ t, PySem.valueAt kvs (x : Int) = some (.int (q : Int) t)) (h : ∀ t, Q (.int (((tv x).getD 0 : Nat) : Int) t) { s with toks := s.toks + 1 }) :
    wpAny (model PG w) A (call (.builtin "dict.get") [.ref a, .int (x : Int) t, .int 0 u]) Q E s := by
  cases hx : tv x with
  | none =>
    rw [hx] at h
    exact kdg_get2 (knd := iK w) (k := (x : Int)) (seen1 F ha) (.head _) hd lo (intKind_is _ _ _ _) none (hv.1 hx) (h u)
  | some q =>
    rw [hx] at h
    obtain ⟨t', e⟩ := hv.2 q hx
    exact kdg_get2 (knd := iK w) (k := (x : Int)) (seen1 F ha) (.head _) hd lo (intKind_is _ _ _ _) (some _) e (h t')
end
section
theorem kw_zb_num : True := by
  k_with "call type:range" => ((fail_if_success k_extra "zb_num"); k_here; k_dflt (refine' callRange ?z1 ?z2 ?_; (case z1 => assumption); (case z2 => assumption); k_whole); intro r' h' t' u' v' tk' F' N' nr'; (try dsimp only at F' N'))
  k_with "subscriptTail" => ((fail_if_success k_extra "zb_num"); k_here; (with_reducible show wpAny _ _ (subscriptTail _ _ (Value.ref _) (Value.int (Nat.cast _) _)) _ _ _); k_dflt (refine' rdG ?z1 ?z2 ?z3 ?z4 ?_; (case z1 => assumption); (case z2 => assumption); (case z3 => assumption); (case z4 => omega); k_whole))
  k_with "call builtin:len" => ((fail_if_success k_extra "zb_num"); k_here; k_dflt (refine' lenG ?z1 ?z2 ?z3 ?_; (case z1 => assumption); (case z2 => assumption); (case z3 => omega); k_whole); intro t')
  k_with "getMethod ref" => ((fail_if_success k_extra "zb_num"); k_here; (with_reducible show wpAny _ _ (getMethod (Value.ref _) (Str.ofString "get") _) _ _ _); k_dflt (refine' toldM ?z1 ?z2 ?z3 ?_; (case z1 => assumption); (case z2 => assumption); (case z3 => assumption); k_whole))
  k_with "call builtin:dict.get" => ((fail_if_success k_extra "zb_num"); k_here; k_dflt (refine' toldG ?z1 ?z2 ?z3 ?z4 ?z5 ?_; (case z1 => assumption); (case z2 => assumption); (case z3 => assumption); (case z4 => assumption); (case z5 => assumption); k_whole); intro t')
  k_with "inplaceOp Mult int int" => ((fail_if_success k_extra "zb_num"); k_here; k_dflt (refine' PyProof.Rows.imul_int ?_ (IntMulOk.of_right ?z1); (case z1 => assumption); k_whole))
  trivial
theorem prim_bits {q : Nat} (h : q ≤ 10) : Builtin.Int.intBits (prim q) ≤ 64 := by
  have : ∀ q : Fin 11, Builtin.Int.intBits (prim q.1) ≤ 64 := by decide +kernel
  exact this ⟨q, by omega⟩
theorem take_num {n i : Nat} (hi : i < n) (M : Nat → Nat → Bool) (dp : Nat → Nat) (tv : Nat → Option Nat) (x : Nat) : ((List.range n).take (i + 1)).foldl (numS M dp tv x) 1 = numS M dp tv x (((List.range n).take i).foldl (numS M dp tv x) 1) i := by
  have h : (List.range n)[i]? = some i := by rw [List.getElem?_range hi]
  rw [List.take_add_one, h]
  simp [List.foldl_append]
namespace number_ok_
def Q_ (w : World) (A : Around) (s : Shared) (g0 : Heap) (loose : List Str) (mean : ExcName → Option Value) (mg : Str → Option Value) (mb : Str → Option Value) (p : Program) (R : Result → Shared → Prop) (rows : Addr) (deep : Addr) (told : Addr) (n : Nat) (M : Nat → Nat → Bool) (dp : Nat → Nat) (tv : Nat → Option Nat) (x : Nat) (t : Tok) : Prop := ∀ (X : (hd.heap_1 w.params).In g0) (T : Top p loose mean mg mb g0) (k : g0.StaysIn s.heap) (hh : A.handled = none) (hroom : A.depth ≤ 400) (hun : A.units ≤ 4000) (hT : Tabs w s.heap rows deep told n M dp tv) (hn : n ≤ 90) (hx : x < n) (htv : ∀ y q, tv y = some q → q ≤ 10) (hR : ∀ h' tk t', (∀ b o, s.heap.get? b = some o → h'.get? b = some o) → R (.ok (.ret (.int (numF n M dp tv x) t'))) { s with heap := h', toks := tk }), codeAny (model PG w) A (.call (.ref 259) ⟨[.int (x : Int) t, .ref rows, .ref deep, .ref told], []⟩) R s
noncomputable section
def P_ (x : World × Around × Shared × Heap × (List Str) × (ExcName → Option Value) × (Str → Option Value) × (Str → Option Value) × Program × (Result → Shared → Prop) × Addr × Addr × Addr × Nat × (Nat → Nat → Bool) × (Nat → Nat) × (Nat → Option Nat) × Nat × Tok) : Prop := Q_ x.1 x.2.1 x.2.2.1 x.2.2.2.1 x.2.2.2.2.1 x.2.2.2.2.2.1 x.2.2.2.2.2.2.1 x.2.2.2.2.2.2.2.1 x.2.2.2.2.2.2.2.2.1 x.2.2.2.2.2.2.2.2.2.1 x.2.2.2.2.2.2.2.2.2.2.1 x.2.2.2.2.2.2.2.2.2.2.2.1 x.2.2.2.2.2.2.2.2.2.2.2.2.1 x.2.2.2.2.2.2.2.2.2.2.2.2.2.1 x.2.2.2.2.2.2.2.2.2.2.2.2.2.2.1 x.2.2.2.2.2.2.2.2.2.2.2.2.2.2.2.1 x.2.2.2.2.2.2.2.2.2.2.2.2.2.2.2.2.1 x.2.2.2.2.2.2.2.2.2.2.2.2.2.2.2.2.2.1 x.2.2.2.2.2.2.2.2.2.2.2.2.2.2.2.2.2.2
def x_ := pick (dW, callerA, ({} : Shared), default, default, default, default, default, PG, default, default, default, default, default, default, default, default, default, default) fun x => ¬ P_ x
@[irreducible] def w := x_.1
@[irreducible] def A := x_.2.1
@[irreducible] def s := x_.2.2.1
@[irreducible] def g0 := x_.2.2.2.1
@[irreducible] def loose := x_.2.2.2.2.1
@[irreducible] def mean := x_.2.2.2.2.2.1
@[irreducible] def mg := x_.2.2.2.2.2.2.1
@[irreducible] def mb := x_.2.2.2.2.2.2.2.1
@[irreducible] def p := x_.2.2.2.2.2.2.2.2.1
@[irreducible] def R := x_.2.2.2.2.2.2.2.2.2.1
@[irreducible] def rows := x_.2.2.2.2.2.2.2.2.2.2.1
@[irreducible] def deep := x_.2.2.2.2.2.2.2.2.2.2.2.1
@[irreducible] def told := x_.2.2.2.2.2.2.2.2.2.2.2.2.1
@[irreducible] def n := x_.2.2.2.2.2.2.2.2.2.2.2.2.2.1
@[irreducible] def M := x_.2.2.2.2.2.2.2.2.2.2.2.2.2.2.1
@[irreducible] def dp := x_.2.2.2.2.2.2.2.2.2.2.2.2.2.2.2.1
@[irreducible] def tv := x_.2.2.2.2.2.2.2.2.2.2.2.2.2.2.2.2.1
@[irreducible] def x := x_.2.2.2.2.2.2.2.2.2.2.2.2.2.2.2.2.2.1
@[irreducible] def t := x_.2.2.2.2.2.2.2.2.2.2.2.2.2.2.2.2.2.2
end
set_option maxHeartbeats 2000000 in
theorem core : Q_ w A s g0 loose mean mg mb p R rows deep told n M dp tv x t := by
  intro X T k hh hroom hun hT hn hx htv hR
  have hr1 : A.depth + 60 < recursionLimit := Nat.lt_of_le_of_lt (Nat.add_le_add_right hroom 60) (by decide)
  have hu1 : A.units + 60 < cLine := Nat.lt_of_le_of_lt (Nat.add_le_add_right hun 60) (by decide)
  refine enter [("x", .int (x : Int) t), ("rows", .ref rows), ("deep", .ref deep), ("told", .ref told)] ["product", "y"] (K := hd.heap_1 w.params) (W := []) X T k (fun p hp => nomatch hp) (fun p hp => nomatch hp) (by k_is) (by k_is) (by omega) (BindsTo.of_eq rfl) (locs rfl) (of_decide_eq_true (by kernel_rfl)) (by decide +kernel) ?_ rfl rfl rfl (by decide)
  intro g' L' h' st' kp' sub' F' N' X' T' nd' ns'
  dsimp only [fv0, List.map, HAppend.hAppend, Append.append, List.append] at F' nd'
  k_fold
  have hT2 : Tabs w g' rows deep told n M dp tv := hT.keep fun b o e => kp' b o e fun p hp => nomatch hp
  obtain ⟨⟨rv, k1, hrows, hrl, hrr⟩, ⟨dv, k2, hdeep, hdl, hdd⟩, ⟨od, kvs, htold, hdict, hval⟩, htn⟩ := hT2
  obtain ⟨ra, cs, k3, hrx, hra, hcl, hcc⟩ := hrr x hx
  obtain ⟨tdx, hdx⟩ := hdd x hx
  k_steps
  unfold Stop
  rw [hrl] at N'
  refine forGen (iterRange (r := r') (n := n) (by omega)) (fun i fl W2 => (∃ o1 a t1, fl = ([("x", some (.int (x : Int) t)), ("rows", some (.ref rows)), ("deep", some (.ref deep)), ("told", some (.ref told)), ("product", some (.int a t1)), ("y", o1)] : List (Str × Option Value)) ∧ a = ((List.range n).take i).foldl (numS M dp tv x) 1) ∧ ∃ t u v, W2.lookup r' = some (rangeObj n t u v))
    ?_ F' N' (by simp) ?_ ?_ ?_ ?_ ?_ ?_ ?_
  · exact hh
  · intro i fl W2 h2 hx9; obtain ⟨_, t1, u1, v1, hl⟩ := hx9; intro _ N2
    exact ⟨t1, u1, v1, nget N2 hl⟩
  · refine ⟨⟨_, _, _, rfl, rfl⟩, _, _, _, by rw [look_cons, if_pos rfl]⟩
  · intro it o hni _
    refine ⟨⟨_, _, _, rfl, rfl⟩, t', u', v', ?_⟩
    rw [look_cons, if_neg (fun e => hni _ (.head _) e), look_cons, if_pos rfl]
  · intro i fl W2 W3 nd3 _ hsim hx9; obtain ⟨hf, t1, u1, v1, hl⟩ := hx9
    refine ⟨hf, t1, u1, v1, hsim _ _ (.inl (by simp)) hl⟩
  · rintro i v fl W2 h2 tk2 it o hi ⟨ty, rfl⟩ ⟨⟨o1, a, t1, rfl, ha⟩, hl⟩ F2 N2 nd2 hlo hco Qf hQf
    clear F' N' nd'
    have F' := F2
    have N' := N2
    clear F2 N2
    obtain ⟨tc, hcy⟩ := hcc i hi
    obtain ⟨tdy, hdy⟩ := hdd i hi
    have hvi := hval i hi
    have nd' : (List.map (fun x : Str × Option Value => x.fst) [("x", some (.int (x : Int) t)), ("rows", some (.ref rows)), ("deep", some (.ref deep)), ("told", some (.ref told)), ("product", some (.int a t1)), ("y", o1)]).Nodup := of_decide_eq_true (by kernel_rfl)
    k_steps
    · have hq : (tv i).getD 0 ≤ 10 := by cases e : tv i with | none => simp | some q => simpa using htv i q e
      refine wpAny_call (prime_ok X' T' (fun b o e => F'.keep b o e) (by show A.depth + 1 ≤ 450; omega) (by show A.units + 3 ≤ 4500; omega) hq fun h3 tk3 t3 kp3 => ?_)
      have hpb := prim_bits hq
      have F3 := F'.keptAll kp3
      have N3 := N'.keepsAll kp3
      clear F' N'
      have F' := F3
      have N' := N3
      clear F3 N3
      dsimp only
      k_steps
      refine ⟨_, _, _, _, rfl, F', N', nd2, hlo, ⟨_, _, _, rfl, ?_⟩, hl⟩
      have h1 : (i : Int) ≠ (x : Int) := by assumption
      have h2 : (if M x i = true then 1 else 0 : Int) = 1 := by assumption
      have h3' : (dp i : Int) = (dp x : Int) + 1 := by assumption
      rw [take_num hi, ← ha]
      unfold numS
      have h4 : M x i = true := by
        cases e : M x i with
        | true => rfl
        | false => rw [e] at h2; cases h2
      rw [if_pos ⟨fun e => h1 (by rw [e]), h4, by omega⟩]
    · refine ⟨_, _, _, _, rfl, F', N', nd2, hlo, ⟨_, _, _, rfl, ?_⟩, hl⟩
      have h3' : (dp i : Int) ≠ (dp x : Int) + 1 := by assumption
      rw [take_num hi, ← ha]
      unfold numS
      rw [if_neg fun z => h3' (by omega)]
    · refine ⟨_, _, _, _, rfl, F', N', nd2, hlo, ⟨_, _, _, rfl, ?_⟩, hl⟩
      have h2 : (if M x i = true then 1 else 0 : Int) ≠ 1 := by assumption
      rw [take_num hi, ← ha]
      unfold numS
      rw [if_neg fun z => h2 (by rw [if_pos z.2.1])]
    · refine ⟨_, _, _, _, rfl, F', N', nd2, hlo, ⟨_, _, _, rfl, ?_⟩, hl⟩
      have h1 : (i : Int) = (x : Int) := by assumption
      rw [take_num hi, ← ha]
      unfold numS
      rw [if_neg fun z => z.1 (by omega)]
  · rintro fl W2 h2 tk2 ⟨⟨o1, a, t1, rfl, ha⟩, hl⟩ F2 N2 nd2
    k_steps
    rw [List.take_of_length_le (by rw [List.length_range]; exact Nat.le_refl _)] at ha
    subst ha
    exact hR _ _ _ fun b o e => F2.keep b o (kp' b o e fun p hp => nomatch hp)
  · exact fun _ _ => rfl
theorem all : ∀ y, P_ y := @pick_all _ _ P_ (by with_unfolding_all exact core)
end number_ok_
theorem number_ok {w A s g0 loose mean mg mb p R rows deep told n M dp tv x t} : number_ok_.Q_ w A s g0 loose mean mg mb p R rows deep told n M dp tv x t := @number_ok_.all (w, A, s, g0, loose, mean, mg, mb, p, R, rows, deep, told, n, M, dp, tv, x, t)
end
theorem kz_zb_num : True := by
  k_with "zb_num" => skip
  trivial
theorem enterC {w : World} {A : Around} {s : Shared} {g0 : Heap} {W : List (Addr × Obj)} {R : Result → Shared → Prop} {K : Frag} {loose : List Str} {mean : ExcName → Option Value} {mg mb : Str → Option Value} {p : Program}
    {name qual : Str} {params : Arguments} {body : List Stmt} {scope : Scope} {dV kV doc pm cdv ct oc : Value} {an od : Option Addr} {osl : Array (Option Value)} {f : Addr} {args : Args} (binds : List (Str × Value)) (fl : List (Str × Option Value))
    (X : K.In g0) (T : Top p loose mean mg mb g0) (k : g0.StaysIn s.heap) (hW : ∀ p ∈ W, s.heap.get? p.1 = some p.2) (hn : ∀ p ∈ W, g0.get? p.1 = none)
    (ho : K.lookup f = some ⟨oc, od, .func (fnOf name qual params body scope dV kV doc pm an cdv ct), osl⟩) (hcd : codeIn K cdv qual = true) (hroom : A.depth < recursionLimit)
    (hbind : BindsTo s (fnOf name qual params body scope dV kV doc pm an cdv ct) args binds)
    (hkind : ∀ n, ∀ x ∈ binds, scope.names.lookup x.1 = some .local ∨ (scope.names.lookup x.1 = some .cell ∧ ((cellsFrom n scope.names []).lookup x.1).isSome = true))
    (hcn : ((cellsFrom 0 scope.names []).map (·.1)).Nodup)
    (hfl : ∀ L', bindL (envOfC qual scope L' f cdv).kindOf binds (fun _ => none) = fv fl) (hnd : (fl.map (·.1)).Nodup) (hns : (scope.names.map (·.1)).Nodup)
    (h : ∀ g L' h₁ tk cells, g0.StaysIn g → (∀ b o, s.heap.get? b = some o → (∀ p ∈ W, p.1 ≠ b) → g.get? b = some o) → (∀ b o, g.get? b = some o → s.heap.get? b = some o) →
      Fr g L' h₁ (fv fl) → News g L' h₁ (cells ++ W) → CellsAre (bindC (envOfC qual scope L' f cdv).kindOf binds fun _ => none) (cellsFrom (L' + 1) scope.names []) cells → (∀ p ∈ W, p.1 < L') → K.In g → Top p loose mean mg mb g → (fl.map (·.1)).Nodup → (scope.names.map (·.1)).Nodup →
      wpAny (model PG w) (A.deeper (envX qual scope L' f cdv (cellsFrom (L' + 1) scope.names []))) (execs body (envX qual scope L' f cdv (cellsFrom (L' + 1) scope.names [])))
        (fun fl s' => R (.ok (.ret (match fl with | .ret v => v | _ => .none))) s') (fun _ _ => False) { s with heap := h₁, toks := tk })
    (hco : scope.isCoroutine = false := by rfl) (hgen : scope.isGenerator = false := by rfl) (hk : scope.kind = .function := by rfl) : codeAny (model PG w) A (.call (.ref f) args) R s := by
  refine codeAny_call_function hroom (k _ _ (X _ _ ho)) rfl hco hgen rfl (codeRec_of (X.keeps k) hcd) (hbind _ _ _ _ ?_)
  refine wpAny_newFunctionEnv_cells hk (hkind _) fun env' he s' x => ?_
  subst he
  refine ⟨(T.nolimit.keeps k).keeps x.toInCall.keep, codeAny_func ?_⟩
  obtain ⟨h₁, tk, rfl, _⟩ := x.done
  have hk₁ := x.toInCall.keep
  obtain ⟨cells, NC, Y⟩ := Cl.news (h₀ := s.heap) (Nat.le_refl _) fun n c hm => ⟨x.cell n c (lookup_of_mem_nodup (cellsFrom_names scope.names 0 (s.heap.objs.size + 1) [] [] rfl ▸ hcn) hm), x.above n c hm⟩
  have st : g0.StaysIn (hideAll s.heap (W.map (·.1))) := fun b o e => hideAll_get _ (k b o e) fun q => by
    obtain ⟨p, hp, rfl⟩ := List.mem_map.mp q
    rw [hn p hp] at e; cases e
  refine wpAny_mono (h (hideAll s.heap (W.map (·.1))) s.heap.objs.size h₁ tk cells st (fun b o e ne => hideAll_get _ e fun q => ?_) (fun b o e => of_hideAll _ e)
    ⟨by rw [← hfl]; exact x.toInCall.ns, fun b o e => hk₁ b o (of_hideAll _ e), Nat.le_of_eq (hideAll_size _ _)⟩ (fun p hp => ?_) Y (fun p hp => Heap.lt_size (hW p hp)) (X.keeps fun b o e => st b o e) (T.keeps fun b o e => st b o e) hnd hns) (fun _ _ x => x) fun _ _ x => x.elim
  · obtain ⟨p, hp, e⟩ := List.mem_map.mp q
    exact ne p hp e
  · rcases List.mem_append.mp hp with hp | hp
    · refine ⟨(NC p hp).1, (NC p hp).2.1, ?_⟩
      cases q : (hideAll s.heap (W.map (·.1))).get? p.1 with
      | none => rfl
      | some o => have := of_hideAll _ q; rw [(NC p hp).2.2] at this; cases this
    · exact ⟨hk₁ _ _ (hW p hp), Nat.ne_of_lt (Heap.lt_size (hW p hp)), hideAll_none _ (List.mem_map_of_mem hp)⟩
theorem after_part {g h h' : Heap} {L : Addr} {m : Str → Option Value} {V W W' : List (Addr × Obj)} (F : Fr g L h m) (N : News g L h (V ++ W)) (nd : ((V ++ W).map (·.1)).Nodup) (keep : ∀ b o, (∀ p ∈ W, p.1 ≠ b) → h.get? b = some o → h'.get? b = some o)
    (hW' : ∀ p ∈ W', h'.get? p.1 = some p.2) (fr : ∀ p ∈ W', p.1 ∈ W.map (·.1) ∨ h.get? p.1 = none) (nd' : (W'.map (·.1)).Nodup) : Fr g L h' m ∧ News g L h' (V ++ W') ∧ ((V ++ W').map (·.1)).Nodup := by
  have ap : ∀ p ∈ V, ∀ q ∈ W, q.1 ≠ p.1 := fun p hp q hq e => by
    rw [List.map_append, List.nodup_append] at nd
    exact nd.2.2 p.1 (List.mem_map_of_mem (f := (·.1)) hp) q.1 (List.mem_map_of_mem (f := (·.1)) hq) e.symm
  have ndV : (V.map (·.1)).Nodup := by
    rw [List.map_append, List.nodup_append] at nd; exact nd.1
  have NW : News g L h W := fun p hp => N p (List.mem_append_right _ hp)
  obtain ⟨F', N'⟩ := after_call F NW keep hW' fr
  refine ⟨F', fun p hp => ?_, nd_app ndV nd' fun p hp q hq e => ?_⟩
  · rcases List.mem_append.mp hp with hp | hp
    · have z := N p (List.mem_append_left _ hp)
      exact ⟨keep _ _ (ap p hp) z.1, z.2⟩
    · exact N' p hp
  · rcases fr q hq with z | z
    · obtain ⟨y, hy, ey⟩ := List.mem_map.mp z
      exact ap p hp y hy (ey.trans e)
    · have := (N p (List.mem_append_left _ hp)).1
      rw [← e, z] at this; cases this
section
variable {w : World} {A : Around} {E : Value → Shared → Prop} {s : Shared} {g : Heap} {L a : Addr} {m : Str → Option Value} {W : List (Addr × Obj)} {S : SS} {pl : Sem Bool} {mQ : Value × List Value → Shared → Prop}
theorem methGr (F : Fr g L s.heap m) (X : (hd.heap_1 w.params).In g) (N : News g L s.heap W) (hS : Srt w W S) (ha : S.s = a) (h : mQ (.ref 134, [.ref a]) s) : wpAny (model PG w) A (getMethod (.ref a) "get_ready" pl) mQ E s := by
  subst ha
  obtain ⟨es, n, t1, t2, hd', At⟩ := hS.ats
  exact method_inst F X (inst_of (nget N hS.obj) (nget N hd')) (by k_is) (by k_is) (by k_is) (At.no rfl) h
theorem methDn (F : Fr g L s.heap m) (X : (hd.heap_1 w.params).In g) (N : News g L s.heap W) (hS : Srt w W S) (ha : S.s = a) (h : mQ (.ref 155, [.ref a]) s) : wpAny (model PG w) A (getMethod (.ref a) "done" pl) mQ E s := by
  subst ha
  obtain ⟨es, n, t1, t2, hd', At⟩ := hS.ats
  exact method_inst F X (inst_of (nget N hS.obj) (nget N hd')) (by k_is) (by k_is) (by k_is) (At.no rfl) h
theorem methIa (F : Fr g L s.heap m) (X : (hd.heap_1 w.params).In g) (N : News g L s.heap W) (hS : Srt w W S) (ha : S.s = a) (h : mQ (.ref 141, [.ref a]) s) : wpAny (model PG w) A (getMethod (.ref a) "is_active" pl) mQ E s := by
  subst ha
  obtain ⟨es, n, t1, t2, hd', At⟩ := hS.ats
  exact method_inst F X (inst_of (nget N hS.obj) (nget N hd')) (by k_is) (by k_is) (by k_is) (At.no rfl) h
theorem methPr (F : Fr g L s.heap m) (X : (hd.heap_1 w.params).In g) (N : News g L s.heap W) (hS : Srt w W S) (ha : S.s = a) (h : mQ (.ref 127, [.ref a]) s) : wpAny (model PG w) A (getMethod (.ref a) "prepare" pl) mQ E s := by
  subst ha
  obtain ⟨es, n, t1, t2, hd', At⟩ := hS.ats
  exact method_inst F X (inst_of (nget N hS.obj) (nget N hd')) (by k_is) (by k_is) (by k_is) (At.no rfl) h
theorem methNm {G : IG} {kvs : List (Str × Value)} (F : Fr g L s.heap m) (X : (hd.heap_1 w.params).In g) (N : News g L s.heap W) (hS : Ign w W G kvs) (ha : G.s = a) (h : mQ (.ref 231, [.ref a]) s) : wpAny (model PG w) A (getMethod (.ref a) "names" pl) mQ E s := by
  subst ha
  obtain ⟨es, n, hd', At⟩ := hS.ats
  exact method_inst F X (inst_of (nget N hS.obj) (nget N hd')) (by k_is) (by k_is) (by k_is) (At.no rfl) h
end
/-! a part of the ledger, by its addresses -/
noncomputable def inP (P : Addr → Bool) (W : List (Addr × Obj)) : List (Addr × Obj) := W.filter fun p => P p.1
noncomputable def outP (P : Addr → Bool) (W : List (Addr × Obj)) : List (Addr × Obj) := W.filter fun p => !P p.1
theorem inP_nd {P : Addr → Bool} {W : List (Addr × Obj)} (nd : (W.map (·.1)).Nodup) : ((inP P W).map (·.1)).Nodup := List.Sublist.nodup (List.Sublist.map _ List.filter_sublist) nd
theorem inP_look {P : Addr → Bool} {W : List (Addr × Obj)} (nd : (W.map (·.1)).Nodup) {b : Addr} {o : Obj} (hb : P b = true) (h : W.lookup b = some o) : (inP P W).lookup b = some o :=
  mem_look (inP_nd nd) (List.mem_filter.mpr ⟨look_mem h, hb⟩)
theorem outP_look {P : Addr → Bool} {W : List (Addr × Obj)} (nd : (W.map (·.1)).Nodup) {b : Addr} {o : Obj} (hb : P b = false) (h : W.lookup b = some o) : (outP P W).lookup b = some o :=
  mem_look (List.Sublist.nodup (List.Sublist.map _ List.filter_sublist) nd) (List.mem_filter.mpr ⟨look_mem h, by rw [hb]; rfl⟩)
theorem inP_sub {P : Addr → Bool} {W : List (Addr × Obj)} : ∀ p ∈ inP P W, p ∈ W ∧ P p.1 = true := fun p hp => List.mem_filter.mp hp
theorem parts_news {P : Addr → Bool} {g h : Heap} {L : Addr} {W : List (Addr × Obj)} (N : News g L h W) : News g L h (outP P W ++ inP P W) := fun p hp => by
  rcases List.mem_append.mp hp with hp | hp
  · exact N p (List.mem_filter.mp hp).1
  · exact N p (List.mem_filter.mp hp).1
theorem parts_nd {P : Addr → Bool} {W : List (Addr × Obj)} (nd : (W.map (·.1)).Nodup) : ((outP P W ++ inP P W).map (·.1)).Nodup := by
  refine nd_app (List.Sublist.nodup (List.Sublist.map _ List.filter_sublist) nd) (inP_nd nd) fun p hp q hq e => ?_
  have h1 := (List.mem_filter.mp hp).2
  have h2 := (List.mem_filter.mp hq).2
  rw [e] at h2
  rw [h2] at h1
  cases h1
theorem after_P {P : Addr → Bool} {g h h' : Heap} {L : Addr} {m : Str → Option Value} {W W' : List (Addr × Obj)} (F : Fr g L h m) (N : News g L h W) (nd : (W.map (·.1)).Nodup) (keep : ∀ b o, (∀ p ∈ inP P W, p.1 ≠ b) → h.get? b = some o → h'.get? b = some o)
    (hW' : ∀ p ∈ W', h'.get? p.1 = some p.2) (fr : ∀ p ∈ W', p.1 ∈ (inP P W).map (·.1) ∨ h.get? p.1 = none) (nd' : (W'.map (·.1)).Nodup) :
    ∃ W2, Fr g L h' m ∧ News g L h' W2 ∧ (W2.map (·.1)).Nodup ∧ Std W' W2 ∧ ∀ b o, P b = false → W.lookup b = some o → W2.lookup b = some o := by
  obtain ⟨F', N', nd2⟩ := after_part F (parts_news (P := P) N) (parts_nd nd) keep hW' fr nd'
  refine ⟨_, F', N', nd2, fun b o e => mem_look nd2 (List.mem_append_right _ (look_mem e)), fun b o hb e => mem_look nd2 (List.mem_append_left _ (look_mem (outP_look nd hb e)))⟩
open Classical in
noncomputable def sP (S : SS) : Addr → Bool := fun b => decide (SAddr S b)
theorem sP_iff {S : SS} {b : Addr} : sP S b = true ↔ SAddr S b := ⟨fun h => @of_decide_eq_true _ (Classical.propDecidable _) h, fun h => @decide_eq_true _ (Classical.propDecidable _) h⟩
theorem Srt.inP {w : World} {W : List (Addr × Obj)} {S : SS} (h : Srt w W S) : Srt w (inP (sP S) W) S := h.mono2 (inP_nd h.nd) fun b ob hb e => inP_look h.nd (sP_iff.mpr hb) e
theorem kl_ze_heap : True := by
  k_with "lia" => ((fail_if_success k_extra "ze_heap"); lia)
  trivial
/-! plain law: what the heap's walks leave is a heap of the same things -/
section
variable {α : Type}
theorem cons_set_perm {a b : α} : ∀ {r : List α} {j : Nat}, j < r.length → (a :: r.set j b).Perm (b :: r.set j a)
  | [], _, h => absurd h (Nat.not_lt_zero _)
  | x :: r, 0, _ => .swap ..
  | x :: r, j + 1, h => by
    rw [List.set_cons_succ, List.set_cons_succ]
    refine (List.Perm.swap ..).trans ?_
    refine List.Perm.trans ?_ (List.Perm.swap ..)
    exact (cons_set_perm (r := r) (j := j) (Nat.lt_of_succ_lt_succ h)).cons x
theorem set_swap {a b : α} : ∀ {xs : List α} {i j : Nat}, i < xs.length → j < xs.length → i ≠ j → ((xs.set i a).set j b).Perm ((xs.set i b).set j a)
  | [], _, _, h, _, _ => absurd h (Nat.not_lt_zero _)
  | x :: r, 0, 0, _, _, h => absurd rfl h
  | x :: r, 0, j + 1, _, hj, _ => by
    show (a :: r.set j b).Perm (b :: r.set j a)
    exact cons_set_perm (Nat.lt_of_succ_lt_succ hj)
  | x :: r, i + 1, 0, hi, _, _ => by
    show (b :: r.set i a).Perm (a :: r.set i b)
    exact cons_set_perm (Nat.lt_of_succ_lt_succ hi)
  | x :: r, i + 1, j + 1, hi, hj, h => by
    show (x :: (r.set i a).set j b).Perm (x :: (r.set i b).set j a)
    exact (set_swap (Nat.lt_of_succ_lt_succ hi) (Nat.lt_of_succ_lt_succ hj) (fun e => h (by rw [e]))).cons x
theorem set_move {xs : List α} {i j : Nat} {q v : α} (hi : i < xs.length) (hj : xs[j]? = some q) (h : i ≠ j) : ((xs.set i q).set j v).Perm (xs.set i v) := by
  have hl : j < xs.length := (List.getElem?_eq_some_iff.mp hj).1
  refine (set_swap hi hl h).trans ?_
  have : (xs.set i v).set j q = xs.set i v := by
    refine List.ext_getElem? fun k => ?_
    rw [List.getElem?_set]
    split
    · rename_i e; subst e
      rw [if_pos (by rw [List.length_set]; exact hl), List.getElem?_set, if_neg h, hj]
    · rfl
  rw [this]
end
structure Tot (lt : Value → Value → Bool) : Prop where
  asym : ∀ a b, lt a b = true → lt b a = false
  trans : ∀ a b c, lt b a = false → lt c b = false → lt c a = false
section
variable {lt : Value → Value → Bool} {v : Value}
noncomputable def Le (lt : Value → Value → Bool) (a b : Value) : Prop := lt b a = false
noncomputable def par (i : Nat) : Nat := (i - 1) / 2
noncomputable def HpA (lt : Value → Value → Bool) (xs : List Value) (pos : Nat) : Prop := ∀ i a b, 0 < i → i ≠ pos → par i ≠ pos → xs[par i]? = some a → xs[i]? = some b → Le lt a b
noncomputable def HpC (lt : Value → Value → Bool) (xs : List Value) (pos : Nat) : Prop := 0 < pos → ∀ i a b, 0 < i → par i = pos → xs[par pos]? = some a → xs[i]? = some b → Le lt a b
noncomputable def HpB (lt : Value → Value → Bool) (xs : List Value) (pos : Nat) (v : Value) : Prop := ∀ i b, 0 < i → par i = pos → xs[i]? = some b → Le lt v b
noncomputable def IsHp (lt : Value → Value → Bool) (xs : List Value) : Prop := ∀ i a b, 0 < i → xs[par i]? = some a → xs[i]? = some b → Le lt a b
theorem get_set {xs : List Value} {i j : Nat} {a : Value} : (xs.set i a)[j]? = if i = j then (if i < xs.length then some a else none) else xs[j]? := List.getElem?_set
theorem sdown_hp (T : Tot lt) : ∀ (pos : Nat) (xs : List Value), pos < xs.length → HpA lt xs pos → HpB lt xs pos v → HpC lt xs pos → IsHp lt (sdown lt v xs pos) := by
  intro pos
  induction pos using Nat.strongRecOn with
  | _ pos ih =>
  intro xs hp hA hB hC
  have close : (∀ a, 0 < pos → xs[par pos]? = some a → Le lt a v) → IsHp lt (xs.set pos v) := by
    intro hpar i a b hi ha hb
    have hlt : par i < i := by unfold par; omega
    rw [get_set] at ha hb
    by_cases e : pos = i
    · subst e
      rw [if_pos rfl, if_pos hp] at hb
      cases hb
      rw [if_neg (by omega)] at ha
      exact hpar a hi ha
    · rw [if_neg e] at hb
      by_cases e2 : pos = par i
      · rw [if_pos e2, if_pos hp] at ha
        cases ha
        exact hB i b hi e2.symm hb
      · rw [if_neg e2] at ha
        exact hA i a b hi (fun z => e z.symm) (fun z => e2 z.symm) ha hb
  by_cases h0 : pos = 0
  · subst h0
    rw [sdown_zero]
    exact close fun a h => absurd h (Nat.lt_irrefl _)
  · have hq : xs[par pos]? = some (xs[par pos]'(by unfold par; omega)) := List.getElem?_eq_getElem _
    generalize xs[par pos]'(by unfold par; omega) = q at hq
    cases hl : lt v q with
    | false =>
      rw [sdown_stop h0 hq hl]
      refine close fun a _ ha => ?_
      rw [hq] at ha; cases ha; exact hl
    | true =>
      rw [sdown_up h0 hq hl]
      have hlp : par pos < pos := by unfold par; omega
      have hvq : Le lt v q := T.asym _ _ hl
      refine ih (par pos) hlp (xs.set pos q) (by rw [List.length_set]; omega) ?_ ?_ ?_
      · intro i a b hi h1 h2 ha hb
        have hlt : par i < i := by unfold par; omega
        rw [get_set] at ha hb
        have e1 : pos ≠ i := fun e => h2 (by rw [← e])
        rw [if_neg e1] at hb
        by_cases e2 : pos = par i
        · rw [if_pos e2, if_pos hp] at ha
          cases ha
          exact hC (by omega) i _ b hi e2.symm hq hb
        · rw [if_neg e2] at ha
          exact hA i a b hi (fun z => e1 z.symm) (fun z => e2 z.symm) ha hb
      · intro i b hi h1 hb
        rw [get_set] at hb
        by_cases e1 : pos = i
        · rw [if_pos e1, if_pos hp] at hb
          cases hb; exact hvq
        · rw [if_neg e1] at hb
          have : Le lt q b := hA i q b hi (fun z => e1 z.symm) (by omega) (by rw [h1]; exact hq) hb
          exact T.trans _ _ _ hvq this
      · intro hpp i a b hi h1 ha hb
        rw [get_set] at ha hb
        have hlp2 : par (par pos) < par pos := by unfold par at hpp ⊢; omega
        rw [if_neg (by omega)] at ha
        have haq : Le lt a q := hA (par pos) a q hpp (by omega) (by omega) ha hq
        by_cases e1 : pos = i
        · rw [if_pos e1, if_pos hp] at hb
          cases hb; exact haq
        · rw [if_neg e1] at hb
          have : Le lt q b := hA i q b hi (fun z => e1 z.symm) (by omega) (by rw [h1]; exact hq) hb
          exact T.trans _ _ _ haq this
theorem sdown_perm : ∀ (pos : Nat) (xs : List Value), pos < xs.length → (sdown lt v xs pos).Perm (xs.set pos v) := by
  intro pos
  induction pos using Nat.strongRecOn with
  | _ pos ih =>
  intro xs hp
  by_cases h0 : pos = 0
  · subst h0; rw [sdown_zero]
  · have hq : xs[par pos]? = some (xs[par pos]'(by unfold par; omega)) := List.getElem?_eq_getElem _
    generalize xs[par pos]'(by unfold par; omega) = q at hq
    cases hl : lt v q with
    | false => rw [sdown_stop h0 hq hl]
    | true =>
      rw [sdown_up h0 hq hl]
      have hlp : par pos < pos := by unfold par; omega
      refine (ih (par pos) hlp (xs.set pos q) (by rw [List.length_set]; omega)).trans ?_
      exact set_move hp hq (by omega)
theorem hp_top (T : Tot lt) (hr : ∀ a, lt a a = false) {xs : List Value} (h : IsHp lt xs) : ∀ (i : Nat) (t b : Value), xs[0]? = some t → xs[i]? = some b → Le lt t b := by
  intro i
  induction i using Nat.strongRecOn with
  | _ i ih =>
  intro t b ht hb
  by_cases h0 : i = 0
  · subst h0; rw [ht] at hb; cases hb; exact hr _
  · have hlt : par i < i := by unfold par; omega
    have hi : i < xs.length := (List.getElem?_eq_some_iff.mp hb).1
    have hq : xs[par i]? = some (xs[par i]'(by omega)) := List.getElem?_eq_getElem _
    exact T.trans _ _ _ (ih (par i) hlt t _ ht hq) (h i _ b (by omega) hq hb)
theorem chil_spec (T : Tot lt) {xs : List Value} {pos : Nat} (h : 2 * pos + 1 < xs.length) : ∃ q, xs[chil lt xs pos]? = some q ∧ par (chil lt xs pos) = pos ∧ chil lt xs pos < xs.length ∧ ∀ i b, 0 < i → par i = pos → i ≠ chil lt xs pos → xs[i]? = some b → Le lt q b := by
  obtain ⟨l, hl⟩ : ∃ l, xs[2 * pos + 1]? = some l := ⟨_, List.getElem?_eq_getElem h⟩
  by_cases h2 : 2 * pos + 2 < xs.length
  · obtain ⟨r, hr⟩ : ∃ r, xs[2 * pos + 2]? = some r := ⟨_, List.getElem?_eq_getElem h2⟩
    cases hlr : lt l r with
    | true =>
      rw [chil_l hl hr hlr]
      refine ⟨l, hl, by unfold par; omega, h, fun i b hi hp hne hb => ?_⟩
      have : i = 2 * pos + 2 := by unfold par at hp; omega
      subst this
      rw [hr] at hb; cases hb
      exact T.asym _ _ hlr
    | false =>
      rw [chil_r hl hr hlr]
      refine ⟨r, hr, by unfold par; omega, h2, fun i b hi hp hne hb => ?_⟩
      have : i = 2 * pos + 1 := by unfold par at hp; omega
      subst this
      rw [hl] at hb; cases hb
      exact hlr
  · rw [chil_o (by omega)]
    refine ⟨l, hl, by unfold par; omega, h, fun i b hi hp hne hb => ?_⟩
    have : i = 2 * pos + 2 := by unfold par at hp; omega
    subst this
    rw [List.getElem?_eq_none (by omega)] at hb; cases hb
theorem sup_hp (T : Tot lt) : ∀ (k pos : Nat) (xs : List Value), xs.length - pos = k → pos < xs.length → HpA lt xs pos → HpC lt xs pos →
    HpA lt (sup lt xs pos).1 (sup lt xs pos).2 ∧ (sup lt xs pos).1.length = xs.length ∧ (sup lt xs pos).2 < xs.length ∧ xs.length ≤ 2 * (sup lt xs pos).2 + 1 ∧ ∀ v, ((sup lt xs pos).1.set (sup lt xs pos).2 v).Perm (xs.set pos v) := by
  intro k
  induction k using Nat.strongRecOn with
  | _ k ih =>
  intro pos xs hk hp hA hC
  by_cases h : 2 * pos + 1 < xs.length
  · obtain ⟨q, hq, hpar, hcl, hmin⟩ := chil_spec T h
    have hgt := chil_gt lt xs pos
    generalize hc : chil lt xs pos = c at hq hpar hcl hmin hgt
    rw [sup_step h hc hq]
    obtain ⟨r1, r2, r3, r4, r5⟩ := ih (xs.length - c) (by omega) c (xs.set pos q) (by rw [List.length_set]) (by rw [List.length_set]; exact hcl) (by
      intro i a b hi h1 h2 ha hb
      have hlt : par i < i := by unfold par; omega
      rw [get_set] at ha hb
      by_cases e1 : pos = i
      · rw [if_pos e1, if_pos hp] at hb
        cases hb
        rw [if_neg (by omega)] at ha
        subst e1
        exact hC hi c a q (by omega) hpar ha hq
      · rw [if_neg e1] at hb
        by_cases e2 : pos = par i
        · rw [if_pos e2, if_pos hp] at ha
          cases ha
          exact hmin i b hi e2.symm h1 hb
        · rw [if_neg e2] at ha
          exact hA i a b hi (fun z => e1 z.symm) (fun z => e2 z.symm) ha hb) (by
      intro hc0 i a b hi h1 ha hb
      have hlt : par i < i := by unfold par; omega
      rw [hpar, get_set, if_pos rfl, if_pos hp] at ha
      cases ha
      rw [get_set, if_neg (by omega)] at hb
      exact hA i q b hi (by omega) (by omega) (by rw [h1]; exact hq) hb)
    rw [List.length_set] at r2 r3 r4
    refine ⟨r1, r2, r3, r4, fun v => (r5 v).trans (set_move hp hq (by omega))⟩
  · rw [sup_stop h]
    refine ⟨hA, rfl, hp, by omega, fun v => .refl _⟩
theorem siftup_hp (T : Tot lt) {xs : List Value} (h0 : 0 < xs.length) (hA : HpA lt xs 0) : IsHp lt (siftup lt v xs) ∧ (siftup lt v xs).Perm (xs.set 0 v) := by
  obtain ⟨r1, r2, r3, r4, r5⟩ := sup_hp T _ 0 xs rfl h0 hA (fun h => absurd h (Nat.lt_irrefl _))
  unfold siftup
  generalize hz : sup lt xs 0 = z at r1 r2 r3 r4 r5
  obtain ⟨ys, p⟩ := z
  dsimp only at r1 r2 r3 r4 r5
  dsimp only
  have hlen : (ys.set p v).length = xs.length := by rw [List.length_set]; exact r2
  have noch : ∀ i b, 0 < i → par i = p → (ys.set p v)[i]? = some b → False := fun i b hi hp hb => by
    have := (List.getElem?_eq_some_iff.mp hb).1
    unfold par at hp
    omega
  refine ⟨sdown_hp T p (ys.set p v) (by omega) ?_ (fun i b hi hp hb => (noch i b hi hp hb).elim) (fun _ i a b hi hp _ hb => (noch i b hi hp hb).elim), ?_⟩
  · intro i a b hi h1 h2 ha hb
    rw [get_set, if_neg (fun e => h2 e.symm)] at ha
    rw [get_set, if_neg (fun e => h1 e.symm)] at hb
    exact r1 i a b hi h1 h2 ha hb
  · refine (sdown_perm p (ys.set p v) (by omega)).trans ?_
    rw [List.set_set]
    exact r5 v
theorem hp_A0 {xs : List Value} {z : Value} (h : IsHp lt xs) : HpA lt (xs.set 0 z) 0 := fun i a b hi h1 h2 ha hb => by
  rw [get_set, if_neg (fun e => h2 e.symm)] at ha
  rw [get_set, if_neg (fun e => h1 e.symm)] at hb
  exact h i a b hi ha hb
theorem push_hp (T : Tot lt) {xs : List Value} (h : IsHp lt xs) : IsHp lt (sdown lt v (xs ++ [v]) xs.length) ∧ (sdown lt v (xs ++ [v]) xs.length).Perm (v :: xs) := by
  have hl : (xs ++ [v]).length = xs.length + 1 := by simp
  have noch : ∀ i b, 0 < i → par i = xs.length → (xs ++ [v])[i]? = some b → False := fun i b hi hp hb => by
    have := (List.getElem?_eq_some_iff.mp hb).1
    unfold par at hp
    omega
  refine ⟨sdown_hp T _ _ (by omega) ?_ (fun i b hi hp hb => (noch i b hi hp hb).elim) (fun _ i a b hi hp _ hb => (noch i b hi hp hb).elim), ?_⟩
  · intro i a b hi h1 h2 ha hb
    have hlt : par i < i := by unfold par; omega
    have := (List.getElem?_eq_some_iff.mp hb).1
    rw [List.getElem?_append_left (by omega)] at ha hb
    exact h i a b hi ha hb
  · refine (sdown_perm _ _ (by omega)).trans ?_
    have : (xs ++ [v]).set xs.length v = xs ++ [v] := by
      rw [List.set_append_right _ _ (Nat.le_refl _), Nat.sub_self]; rfl
    rw [this]
    exact List.perm_append_comm
theorem replace_hp (T : Tot lt) {xs : List Value} {r : Value} (h : IsHp lt (r :: xs)) : IsHp lt (siftup lt v ((r :: xs).set 0 v)) ∧ (siftup lt v ((r :: xs).set 0 v)).Perm (v :: xs) := by
  obtain ⟨r1, r2⟩ := siftup_hp (v := v) T (xs := (r :: xs).set 0 v) (by simp) (hp_A0 h)
  exact ⟨r1, r2⟩
theorem pop_hp (T : Tot lt) {xs : List Value} {r : Value} (h : IsHp lt (r :: xs)) : IsHp lt (popRest lt (r :: xs)) ∧ (popRest lt (r :: xs)).Perm xs := by
  unfold popRest
  rcases List.eq_nil_or_concat xs with rfl | ⟨ys, z, rfl⟩
  · simp only [List.getLast?_singleton, List.dropLast_singleton, if_true]
    exact ⟨fun i a b _ _ hb => by simp at hb, .refl _⟩
  · rw [List.concat_eq_append] at h ⊢
    have e1 : (r :: (ys ++ [z])).getLast? = some z := by rw [← List.cons_append, List.getLast?_concat]
    have e2 : (r :: (ys ++ [z])).dropLast = r :: ys := by rw [← List.cons_append, List.dropLast_concat]
    rw [e1, e2]
    simp only [reduceCtorEq, if_false]
    have hys : IsHp lt (r :: ys) := fun i a b hi ha hb => by
      have hlt : par i < i := by unfold par; omega
      have hi2 := (List.getElem?_eq_some_iff.mp hb).1
      refine h i a b hi ?_ ?_
      · rw [← List.cons_append, List.getElem?_append_left (by omega)]; exact ha
      · rw [← List.cons_append, List.getElem?_append_left hi2]; exact hb
    obtain ⟨r1, r2⟩ := siftup_hp (v := z) T (xs := (r :: ys).set 0 z) (by simp) (hp_A0 hys)
    refine ⟨r1, r2.trans ?_⟩
    show (z :: ys).Perm (ys ++ [z])
    exact (List.perm_append_comm (l₁ := [z]) (l₂ := ys))
end
theorem kz_ze_heap : True := by
  k_with "ze_heap" => skip
  trivial
theorem kl_zg_plain : True := by
  k_with "lia" => ((fail_if_success k_extra "zg_plain"); lia)
  trivial
/-! plain law of the sorter: what done leaves -/
theorem stepS_np {S : SS} {a : Nat} : (stepS S a).np = upd S.np a (S.np a - 1) := by
  unfold stepS; split <;> rfl
theorem stepS_rd {S : SS} {a : Nat} : (stepS S a).ready = S.ready ++ (if S.np a - 1 = 0 then [a] else []) := by
  unfold stepS
  split
  · rfl
  · show S.ready = S.ready ++ []
    rw [List.append_nil]
theorem foldS_np : ∀ {l : List Nat} {S : SS} {y : Nat}, l.Nodup → (l.foldl stepS S).np y = if y ∈ l then S.np y - 1 else S.np y
  | [], S, y, _ => by simp
  | a :: l, S, y, nd => by
    rw [List.nodup_cons] at nd
    rw [List.foldl_cons, foldS_np nd.2, stepS_np]
    by_cases e : y = a
    · subst e
      rw [if_neg nd.1, upd_self, if_pos (.head _)]
    · rw [upd_ne _ _ e]
      simp [e]
theorem foldS_rd : ∀ {l : List Nat} {S : SS}, l.Nodup → (l.foldl stepS S).ready = S.ready ++ l.filter fun y => decide (S.np y - 1 = 0)
  | [], S, _ => by simp
  | a :: l, S, nd => by
    rw [List.nodup_cons] at nd
    rw [List.foldl_cons, foldS_rd nd.2, stepS_rd, List.append_assoc]
    congr 1
    have : (l.filter fun y => decide ((stepS S a).np y - 1 = 0)) = l.filter fun y => decide (S.np y - 1 = 0) := by
      refine List.filter_congr fun y hy => ?_
      have e : y ≠ a := fun q => nd.1 (q ▸ hy)
      rw [stepS_np, upd_ne _ _ e]
    rw [this, List.filter_cons]
    by_cases h : S.np a - 1 = 0
    · simp [h]
    · simp [h]
theorem foldO_np : ∀ {l : List Nat} {S : SS} {y : Nat}, (l.foldl outS S).np y = if y ∈ l then -1 else S.np y
  | [], S, y => by simp
  | a :: l, S, y => by
    rw [List.foldl_cons, foldO_np]
    by_cases h : y ∈ l
    · simp [h]
    · rw [if_neg h]
      show upd S.np a (-1) y = _
      by_cases e : y = a
      · subst e; rw [upd_self, if_pos (.head _)]
      · rw [upd_ne _ _ e]; simp [h, e]
theorem doneS_np {S : SS} {x y : Nat} (nd : (S.succ x).Nodup) (hx : x ∉ S.succ x) : (doneS S x).np y = if y = x then -2 else if y ∈ S.succ x then S.np y - 1 else S.np y := by
  show ((S.succ x).foldl stepS { S with np := upd S.np x (-2) }).np y = _
  rw [foldS_np nd]
  by_cases e : y = x
  · subst e
    rw [if_neg hx, if_pos rfl]
    show upd S.np y (-2) y = _
    rw [upd_self]
  · rw [if_neg e]
    show (if y ∈ S.succ x then upd S.np x (-2) y - 1 else upd S.np x (-2) y) = _
    rw [upd_ne _ _ e]
theorem doneS_rd {S : SS} {x : Nat} (nd : (S.succ x).Nodup) (hx : x ∉ S.succ x) : (doneS S x).ready = S.ready ++ (S.succ x).filter fun y => decide (S.np y - 1 = 0) := by
  show ((S.succ x).foldl stepS { S with np := upd S.np x (-2) }).ready = _
  rw [foldS_rd nd]
  congr 1
  refine List.filter_congr fun y hy => ?_
  have e : y ≠ x := fun q => hx (q ▸ hy)
  show decide (upd S.np x (-2) y - 1 = 0) = _
  rw [upd_ne _ _ e]
theorem readyS_np {S : SS} {y : Nat} : (readyS S).np y = if y ∈ S.ready then -1 else S.np y := foldO_np
/-! the trees, and the sorter that sorts them -/
@[reducible] noncomputable def Bel (n : Nat) (M : Nat → Nat → Bool) (y x : Nat) : Prop := y < n ∧ x < n ∧ y ≠ x ∧ M x y = true
structure Tree (n : Nat) (M : Nat → Nat → Bool) (dp : Nat → Nat) (num : Nat → Nat) : Prop where
  n40 : n ≤ 40
  num10 : ∀ x, num x ≤ 10
  less : ∀ y x, Bel n M y x → num y < num x
  trans : ∀ z y x, Bel n M z y → Bel n M y x → Bel n M z x
  number : ∀ (tv : Nat → Option Nat) x, x < n → (∀ y, Bel n M y x → tv y = some (num y)) → numF n M dp tv x = (num x : Int)
noncomputable def rest (n : Nat) (M : Nat → Nat → Bool) (C : List Nat) (y : Nat) : List Nat := (List.range n).filter fun z => decide (Bel n M z y ∧ z ∉ C)
structure Mid (n : Nat) (M : Nat → Nat → Bool) (S : SS) (C H : List Nat) : Prop where
  nodes : ∀ x, x ∈ S.nodes ↔ x < n
  snd : ∀ x, (S.succ x).Nodup
  suc : ∀ x, x < n → ∀ y, y ∈ S.succ x ↔ Bel n M x y
  cn : ∀ x ∈ C, x < n ∧ x ∉ H
  hn : ∀ x ∈ H, x < n
  npC : ∀ x ∈ C, S.np x = -2
  npH : ∀ x ∈ H, S.np x = -1
  np : ∀ y, y < n → y ∉ C → y ∉ H → S.np y = ((rest n M C y).length : Int)
  rd : ∀ y, y ∈ S.ready ↔ y < n ∧ y ∉ C ∧ y ∉ H ∧ rest n M C y = []
  rnd : S.ready.Nodup
  hbel : ∀ x ∈ H, ∀ y, Bel n M y x → y ∈ C
  cbel : ∀ x ∈ C, ∀ y, Bel n M y x → y ∈ C
theorem rest_nil {n : Nat} {M : Nat → Nat → Bool} {C : List Nat} {y : Nat} : rest n M C y = [] ↔ ∀ z, Bel n M z y → z ∈ C := by
  unfold rest
  rw [List.filter_eq_nil_iff]
  constructor
  · intro h z hz
    have := h z (List.mem_range.mpr hz.1)
    by_cases q : z ∈ C
    · exact q
    · exact absurd (decide_eq_true ⟨hz, q⟩) this
  · intro h z _ q
    have := of_decide_eq_true q
    exact this.2 (h z this.1)
theorem Mid.pass {n : Nat} {M : Nat → Nat → Bool} {S : SS} {C H : List Nat} (m : Mid n M S C H) : Mid n M (readyS S) C (H ++ S.ready) := by
  have same := foldO_same (S := S) (S' := S) ⟨rfl, rfl, rfl, rfl, rfl, rfl, rfl, rfl, rfl, rfl, rfl⟩ S.ready
  have en : (readyS S).nodes = S.nodes := same.nodes
  have es : (readyS S).succ = S.succ := same.succ
  refine ⟨fun x => by rw [en]; exact m.nodes x, fun x => by rw [es]; exact m.snd x, fun x hx y => by rw [es]; exact m.suc x hx y, fun x hx => ⟨(m.cn x hx).1, fun h => ?_⟩, fun x hx => ?_, fun x hx => ?_, fun x hx => ?_, fun y hy hC hH => ?_, fun y => ?_, .nil, fun x hx y hy => ?_, m.cbel⟩
  · rcases List.mem_append.mp h with h | h
    · exact (m.cn x hx).2 h
    · exact ((m.rd x).mp h).2.1 hx
  · rcases List.mem_append.mp hx with h | h
    · exact m.hn x h
    · exact ((m.rd x).mp h).1
  · rw [readyS_np, if_neg fun h => ((m.rd x).mp h).2.1 hx]; exact m.npC x hx
  · rw [readyS_np]
    rcases List.mem_append.mp hx with h | h
    · rw [if_neg fun q => ((m.rd x).mp q).2.2.1 h]; exact m.npH x h
    · rw [if_pos h]
  · rw [readyS_np, if_neg fun h => hH (List.mem_append_right _ h)]
    exact m.np y hy hC fun h => hH (List.mem_append_left _ h)
  · constructor
    · intro h; exact nomatch (show y ∈ ([] : List Nat) from h)
    · intro hx9; obtain ⟨h1, h2, h3, h4⟩ := hx9
      exact absurd (List.mem_append_right _ ((m.rd y).mpr ⟨h1, h2, fun q => h3 (List.mem_append_left _ q), h4⟩)) h3
  · rcases List.mem_append.mp hx with h | h
    · exact m.hbel x h y hy
    · exact rest_nil.mp ((m.rd x).mp h).2.2.2 y hy
theorem len_without {x : Nat} : ∀ {l : List Nat}, l.Nodup → (l.filter fun z => decide (z ≠ x)).length = if x ∈ l then l.length - 1 else l.length
  | [], _ => rfl
  | a :: l, nd => by
    rw [List.nodup_cons] at nd
    have ih := len_without (x := x) nd.2
    rw [List.filter_cons]
    by_cases e : a = x
    · subst e
      rw [if_neg (by simp), ih, if_neg nd.1, if_pos (.head _)]
      simp
    · rw [if_pos (by simpa using e), List.length_cons, ih]
      by_cases h : x ∈ l
      · have : 0 < l.length := List.length_pos_of_mem h
        rw [if_pos h, if_pos (.tail _ h), List.length_cons]; omega
      · have e' : ¬ x = a := fun q => e q.symm
        rw [if_neg h, if_neg (by simp [e', h]), List.length_cons]
theorem rest_nd {n : Nat} {M : Nat → Nat → Bool} {C : List Nat} {y : Nat} : (rest n M C y).Nodup := List.Sublist.nodup List.filter_sublist List.nodup_range
theorem mem_rest {n : Nat} {M : Nat → Nat → Bool} {C : List Nat} {z y : Nat} : z ∈ rest n M C y ↔ Bel n M z y ∧ z ∉ C := by
  unfold rest
  rw [List.mem_filter, List.mem_range, decide_eq_true_iff]
  exact ⟨fun h => h.2, fun h => ⟨h.1.1, h⟩⟩
theorem rest_step {n : Nat} {M : Nat → Nat → Bool} {C : List Nat} {x y : Nat} : (rest n M (C ++ [x]) y) = (rest n M C y).filter fun z => decide (z ≠ x) := by
  unfold rest
  rw [List.filter_filter]
  refine List.filter_congr fun z _ => ?_
  rw [Bool.eq_iff_iff]
  simp only [List.mem_append, List.mem_singleton, not_or, decide_eq_true_eq, Bool.and_eq_true]
  constructor
  · intro hx9; obtain ⟨h1, h2, h3⟩ := hx9; exact ⟨h3, h1, h2⟩
  · intro hx9; obtain ⟨h3, h1, h2⟩ := hx9; exact ⟨h1, h2, h3⟩
theorem Mid.done {n : Nat} {M : Nat → Nat → Bool} {S : SS} {C H : List Nat} (m : Mid n M S C H) (nH : H.Nodup) (hr : S.ready = []) {x : Nat} (hx : x ∈ H) : Mid n M (doneS S x) (C ++ [x]) (H.erase x) := by
  have hxn := m.hn x hx
  have hxC : x ∉ C := fun h => (m.cn x h).2 hx
  have hself : x ∉ S.succ x := fun h => ((m.suc x hxn x).mp h).2.2.1 rfl
  have same := foldS_same (S := S) (S' := { S with np := upd S.np x (-2) }) ⟨rfl, rfl, rfl, rfl, rfl, rfl, rfl, rfl, rfl, rfl, rfl⟩ (S.succ x)
  have en : (doneS S x).nodes = S.nodes := same.nodes
  have es : (doneS S x).succ = S.succ := same.succ
  have npx : ∀ y, (doneS S x).np y = if y = x then -2 else if y ∈ S.succ x then S.np y - 1 else S.np y := fun y => doneS_np (m.snd x) hself
  have sucN : ∀ y, y ∈ S.succ x → y ∉ C ∧ y ∉ H := fun y hy => by
    have b := (m.suc x hxn y).mp hy
    exact ⟨fun h => hxC (m.cbel y h x b), fun h => hxC (m.hbel y h x b)⟩
  have mE : ∀ y, y ∈ H.erase x ↔ y ∈ H ∧ y ≠ x := fun y => by rw [nH.mem_erase_iff]; exact ⟨fun h => ⟨h.2, h.1⟩, fun h => ⟨h.2, h.1⟩⟩
  have hnp : ∀ y, y < n → y ∉ C ++ [x] → y ∉ H.erase x → (doneS S x).np y = ((rest n M (C ++ [x]) y).length : Int) := fun y hy hC hH => by
    have hyx : y ≠ x := fun e => hC (by rw [e]; exact List.mem_append_right _ (.head _))
    have hyC : y ∉ C := fun h => hC (List.mem_append_left _ h)
    have hyH : y ∉ H := fun h => hH ((mE y).mpr ⟨h, hyx⟩)
    rw [npx, if_neg hyx, rest_step, len_without rest_nd, m.np y hy hyC hyH]
    by_cases b : Bel n M x y
    · have h1 : x ∈ rest n M C y := mem_rest.mpr ⟨b, hxC⟩
      have := List.length_pos_of_mem h1
      rw [if_pos ((m.suc x hxn y).mpr b), if_pos h1]; omega
    · rw [if_neg fun h => b ((m.suc x hxn y).mp h), if_neg fun h => b (mem_rest.mp h).1]
  have hrd : (doneS S x).ready = (S.succ x).filter fun y => decide (S.np y - 1 = 0) := by
    rw [doneS_rd (m.snd x) hself, hr, List.nil_append]
  refine ⟨fun y => by rw [en]; exact m.nodes y, fun y => by rw [es]; exact m.snd y, fun y hy z => by rw [es]; exact m.suc y hy z, fun y hy => ?_, fun y hy => m.hn y ((mE y).mp hy).1, fun y hy => ?_, fun y hy => ?_, hnp, fun y => ?_, ?_, fun y hy z hz => ?_, fun y hy z hz => ?_⟩
  · rcases List.mem_append.mp hy with h | h
    · exact ⟨(m.cn y h).1, fun q => (m.cn y h).2 ((mE y).mp q).1⟩
    · rw [List.mem_singleton] at h; subst h
      exact ⟨hxn, fun q => ((mE y).mp q).2 rfl⟩
  · rw [npx]
    rcases List.mem_append.mp hy with h | h
    · rw [if_neg (fun e : y = x => hxC (by rw [← e]; exact h)), if_neg fun q => (sucN y q).1 h]; exact m.npC y h
    · rw [List.mem_singleton] at h; rw [if_pos h]
  · obtain ⟨h1, h2⟩ := (mE y).mp hy
    rw [npx, if_neg h2, if_neg fun q => (sucN y q).2 h1]; exact m.npH y h1
  · rw [hrd, List.mem_filter]
    constructor
    · rintro ⟨h1, h2⟩
      have b := (m.suc x hxn y).mp h1
      have hyx : y ≠ x := fun e => b.2.2.1 e.symm
      have hC : y ∉ C ++ [x] := fun h => by
        rcases List.mem_append.mp h with h | h
        · exact (sucN y h1).1 h
        · exact hyx (List.mem_singleton.mp h)
      have hH : y ∉ H.erase x := fun h => (sucN y h1).2 ((mE y).mp h).1
      refine ⟨b.2.1, hC, hH, ?_⟩
      have h3 := hnp y b.2.1 hC hH
      rw [npx, if_neg hyx, if_pos h1, of_decide_eq_true h2] at h3
      exact List.eq_nil_of_length_eq_zero (by omega)
    · intro hx9; obtain ⟨h1, h2, h3, h4⟩ := hx9
      have hyx : y ≠ x := fun e => h2 (by rw [e]; exact List.mem_append_right _ (.head _))
      have hyC : y ∉ C := fun h => h2 (List.mem_append_left _ h)
      have hyH : y ∉ H := fun h => h3 ((mE y).mpr ⟨h, hyx⟩)
      have hnr : y ∉ S.ready := by rw [hr]; exact nofun
      have hne : rest n M C y ≠ [] := fun e => hnr ((m.rd y).mpr ⟨h1, hyC, hyH, e⟩)
      have hy : y ∈ S.succ x := by
        refine (m.suc x hxn y).mpr ?_
        obtain ⟨z, hz⟩ := List.exists_mem_of_ne_nil _ hne
        have hz2 := mem_rest.mp hz
        have := rest_nil.mp h4 z hz2.1
        rcases List.mem_append.mp this with q | q
        · exact absurd q hz2.2
        · rw [List.mem_singleton] at q; rw [← q]; exact hz2.1
      refine ⟨hy, ?_⟩
      have h5 := hnp y h1 h2 h3
      rw [npx, if_neg hyx, if_pos hy, h4] at h5
      exact decide_eq_true h5
  · rw [hrd]; exact List.Sublist.nodup List.filter_sublist (m.snd x)
  · exact List.mem_append_left _ (m.hbel y ((mE y).mp hy).1 z hz)
  · rcases List.mem_append.mp hy with h | h
    · exact List.mem_append_left _ (m.cbel y h z hz)
    · rw [List.mem_singleton] at h; subst h
      exact List.mem_append_left _ (m.hbel y hx z hz)
theorem Mid.below {n : Nat} {M : Nat → Nat → Bool} {dp num : Nat → Nat} {S : SS} {C H : List Nat} (T : Tree n M dp num) (m : Mid n M S C H) (hr : S.ready = []) : ∀ (k y : Nat), num y ≤ k → y < n → y ∉ C → y ∉ H → ∃ z ∈ H, num z < num y := by
  intro k
  induction k using Nat.strongRecOn with
  | _ k ih =>
  intro y hk hy hC hH
  have hne : rest n M C y ≠ [] := fun e => by
    have := (m.rd y).mpr ⟨hy, hC, hH, e⟩
    rw [hr] at this; exact nomatch this
  obtain ⟨z, hz⟩ := List.exists_mem_of_ne_nil _ hne
  have hz2 := mem_rest.mp hz
  have hlt := T.less z y hz2.1
  by_cases hzH : z ∈ H
  · exact ⟨z, hzH, hlt⟩
  · obtain ⟨u, hu, hul⟩ := ih (num z) (by omega) z (Nat.le_refl _) hz2.1.1 hz2.2 hzH
    exact ⟨u, hu, by omega⟩
theorem Mid.all {n : Nat} {M : Nat → Nat → Bool} {dp num : Nat → Nat} {S : SS} {C : List Nat} (T : Tree n M dp num) (m : Mid n M S C []) (hr : S.ready = []) : ∀ y, y < n → y ∈ C := fun y hy => by
  by_cases h : y ∈ C
  · exact h
  · obtain ⟨z, hz, _⟩ := m.below T hr (num y) y (Nat.le_refl _) hy h nofun
    exact nomatch hz
noncomputable def kx (num : Nat → Nat) (x : Nat) : Int × Int := ((num x : Int), (x : Int))
theorem klt_kx {num : Nat → Nat} {x y : Nat} : klt (kx num x) (kx num y) = true ↔ num x < num y ∨ (num x = num y ∧ x < y) := by
  unfold klt kx
  simp only [Bool.or_eq_true, Bool.and_eq_true, decide_eq_true_eq]
  omega
structure Given (n : Nat) (num : Nat → Nat) (C : List Nat) : Prop where
  pw : C.Pairwise fun a b => klt (kx num a) (kx num b) = true
  low : ∀ c ∈ C, ∀ y, y < n → y ∉ C → klt (kx num c) (kx num y) = true
theorem Given.nil {n : Nat} {num : Nat → Nat} : Given n num [] := ⟨.nil, nofun⟩
theorem Given.step {n : Nat} {M : Nat → Nat → Bool} {dp num : Nat → Nat} {S : SS} {C H : List Nat} (T : Tree n M dp num) (m : Mid n M S C H) (hr : S.ready = []) (G : Given n num C) {t : Nat} (ht : t ∈ H) (hl : ∀ z ∈ H, z ≠ t → klt (kx num t) (kx num z) = true) : Given n num (C ++ [t]) := by
  have htC : t ∉ C := fun h => (m.cn t h).2 ht
  refine ⟨?_, fun c hc y hy hyC => ?_⟩
  · rw [List.pairwise_append]
    refine ⟨G.pw, List.pairwise_singleton _ _, fun c hc b hb => ?_⟩
    rw [List.mem_singleton] at hb; subst hb
    exact G.low c hc b (m.hn b ht) htC
  · have hyC' : y ∉ C := fun h => hyC (List.mem_append_left _ h)
    have hyt : y ≠ t := fun e => hyC (by rw [e]; exact List.mem_append_right _ (.head _))
    rcases List.mem_append.mp hc with h | h
    · exact G.low c h y hy hyC'
    · rw [List.mem_singleton] at h; subst h
      by_cases hyH : y ∈ H
      · exact hl y hyH hyt
      · obtain ⟨z, hz, hzl⟩ := m.below T hr (num y) y (Nat.le_refl _) hy hyC' hyH
        by_cases e : z = c
        · subst e; exact klt_kx.mpr (.inl hzl)
        · have := klt_kx.mp (hl z hz e)
          exact klt_kx.mpr (.inl (by omega))
theorem sorted_one {r : Nat → Nat → Prop} (as : ∀ a b, r a b → r b a → False) : ∀ {C D : List Nat}, C.Pairwise r → D.Pairwise r → (∀ x, x ∈ C ↔ x ∈ D) → C = D
  | [], [], _, _, _ => rfl
  | [], b :: D, _, _, h => nomatch (h b).mpr (.head _)
  | a :: C, [], _, _, h => nomatch (h a).mp (.head _)
  | a :: C, b :: D, h1, h2, h => by
    rw [List.pairwise_cons] at h1 h2
    have e : a = b := by
      rcases List.mem_cons.mp ((h a).mp (.head _)) with e | ha
      · exact e
      · rcases List.mem_cons.mp ((h b).mpr (.head _)) with e | hb
        · exact e.symm
        · exact (as _ _ (h1.1 b hb) (h2.1 a ha)).elim
    subst e
    have ir : ∀ x, ¬ r x x := fun x q => as x x q q
    rw [sorted_one as h1.2 h2.2 fun x => ?_]
    constructor
    · intro hx
      rcases List.mem_cons.mp ((h x).mp (.tail _ hx)) with e | q
      · subst e; exact absurd (h1.1 x hx) (ir x)
      · exact q
    · intro hx
      rcases List.mem_cons.mp ((h x).mpr (.tail _ hx)) with e | q
      · subst e; exact absurd (h2.1 x hx) (ir x)
      · exact q
/-! keys of tuples by their places -/
noncomputable def keyOf (num : Nat → Nat) (as : List (Addr × Nat)) : Value → Int × Int
  | .ref a => kx num ((as.lookup a).getD 0)
  | _ => (0, 0)
noncomputable def ltOf (num : Nat → Nat) (as : List (Addr × Nat)) (a b : Value) : Bool := klt (keyOf num as a) (keyOf num as b)
inductive HV (num : Nat → Nat) (as : List (Addr × Nat)) (W : List (Addr × Obj)) : List Value → List Nat → Prop
  | nil : HV num as W [] []
  | cons {a : Addr} {x : Nat} {t t' : Tok} {vs : List Value} {xs : List Nat} : as.lookup a = some x → W.lookup a = some (tupObj [.int (num x : Int) t, .int (x : Int) t']) → HV num as W vs xs → HV num as W (.ref a :: vs) (x :: xs)
theorem HV.perm {num : Nat → Nat} {as : List (Addr × Nat)} {W : List (Addr × Obj)} {vs vs' : List Value} (p : vs.Perm vs') : ∀ {xs : List Nat}, HV num as W vs xs → ∃ xs', HV num as W vs' xs' ∧ xs.Perm xs' := by
  induction p with
  | nil => intro xs h; exact ⟨xs, h, .refl _⟩
  | cons v _ ih =>
    intro xs h
    cases h with
    | cons h1 h2 h3 =>
      obtain ⟨ys, hy, p⟩ := ih h3
      exact ⟨_, .cons h1 h2 hy, p.cons _⟩
  | swap v v' l =>
    intro xs h
    cases h with
    | cons h1 h2 h3 =>
      cases h3 with
      | cons k1 k2 k3 => exact ⟨_, .cons k1 k2 (.cons h1 h2 k3), .swap ..⟩
  | trans _ _ ih1 ih2 =>
    intro xs h
    obtain ⟨ys, hy, p⟩ := ih1 h
    obtain ⟨zs, hz, q⟩ := ih2 hy
    exact ⟨zs, hz, p.trans q⟩
theorem HV.length {num : Nat → Nat} {as : List (Addr × Nat)} {W : List (Addr × Obj)} {vs : List Value} {xs : List Nat} (h : HV num as W vs xs) : vs.length = xs.length := by
  induction h with
  | nil => rfl
  | cons _ _ _ ih => simp [ih]
theorem HV.tup {num : Nat → Nat} {as : List (Addr × Nat)} {W : List (Addr × Obj)} {vs : List Value} {xs : List Nat} (h : HV num as W vs xs) {hp : Heap} (N : ∀ a o, W.lookup a = some o → hp.get? a = some o) : ∀ v ∈ vs, TupV hp v (keyOf num as v) := by
  induction h with
  | nil => exact fun _ h => nomatch h
  | @cons a x t t' vs xs h1 h2 _ ih =>
    intro v hv
    rcases List.mem_cons.mp hv with rfl | hv
    · refine ⟨a, t, t', 0, rfl, ?_⟩
      have := N a _ h2
      show hp.get? a = some ⟨.type "tuple", none, .seq #[.int (kx num ((as.lookup a).getD 0)).1 t, .int (kx num ((as.lookup a).getD 0)).2 t'] 0, #[]⟩
      rw [h1]; exact this
    · exact ih v hv
theorem HV.mono {num : Nat → Nat} {as as' : List (Addr × Nat)} {W W' : List (Addr × Obj)} {vs : List Value} {xs : List Nat} (h : HV num as W vs xs) (ha : ∀ a x, as.lookup a = some x → as'.lookup a = some x) (hw : ∀ a vs, W.lookup a = some (tupObj vs) → W'.lookup a = some (tupObj vs)) : HV num as' W' vs xs := by
  induction h with
  | nil => exact .nil
  | cons h1 h2 _ ih => exact .cons (ha _ _ h1) (hw _ _ h2) ih
theorem HV.at {num : Nat → Nat} {as : List (Addr × Nat)} {W : List (Addr × Obj)} {vs : List Value} {xs : List Nat} (h : HV num as W vs xs) : ∀ {i : Nat} {v : Value}, vs[i]? = some v → ∃ x, xs[i]? = some x ∧ keyOf num as v = kx num x := by
  induction h with
  | nil => intro i v hv; simp at hv
  | @cons a x t t' vs xs h1 h2 _ ih =>
    intro i v hv
    cases i with
    | zero =>
      simp at hv; subst hv
      refine ⟨x, rfl, ?_⟩
      show kx num ((as.lookup a).getD 0) = _
      rw [h1]; rfl
    | succ i => simp at hv; simpa using ih hv
theorem hp_keys {num : Nat → Nat} {as as' : List (Addr × Nat)} {W W' : List (Addr × Obj)} {vs : List Value} {xs : List Nat} (h : HV num as W vs xs) (h' : HV num as' W' vs xs) (hp : IsHp (ltOf num as) vs) : IsHp (ltOf num as') vs := by
  have e : ∀ {i : Nat} {v : Value}, vs[i]? = some v → keyOf num as v = keyOf num as' v := fun {i v} hv => by
    obtain ⟨x, hx, k1⟩ := h.at hv
    obtain ⟨y, hy, k2⟩ := h'.at hv
    rw [hx] at hy; cases hy
    rw [k1, k2]
  intro i a b hi ha hb
  have := hp i a b hi ha hb
  unfold Le ltOf at *
  rw [← e ha, ← e hb]; exact this
theorem kz_zg_plain : True := by
  k_with "zg_plain" => skip
  trivial
theorem kl_zh_ci : True := by
  k_with "lia" => ((fail_if_success k_extra "zh_ci"); lia)
  trivial
theorem klt_tot (key : Value → Int × Int) : Tot (fun x y => klt (key x) (key y)) where
  asym := fun a b h => by
    unfold klt at *
    simp only [Bool.or_eq_true, Bool.and_eq_true, decide_eq_true_eq, Bool.or_eq_false_iff, Bool.and_eq_false_imp, decide_eq_false_iff_not] at *
    omega
  trans := fun a b c h1 h2 => by
    unfold klt at *
    simp only [Bool.or_eq_false_iff, Bool.and_eq_false_imp, decide_eq_true_eq, decide_eq_false_iff_not] at *
    omega
theorem nd_len : ∀ (n : Nat) (l : List Nat), l.Nodup → (∀ x ∈ l, x < n) → l.length ≤ n
  | 0, l, _, h => by
    cases l with
    | nil => exact Nat.le_refl _
    | cons a r => exact absurd (h a (.head _)) (Nat.not_lt_zero _)
  | n + 1, l, nd, h => by
    have ih := nd_len n (l.filter fun z => decide (z ≠ n)) (List.Sublist.nodup List.filter_sublist nd) (fun x hx => by
      have h0 := List.mem_filter.mp hx
      have h1 := h x h0.1
      have h2 := of_decide_eq_true h0.2
      omega)
    rw [len_without nd] at ih
    split at ih <;> omega
/-! the ledger of the course -/
noncomputable def Told (w : World) (o : Obj) (num : Nat → Nat) (ks : List Nat) : Prop := ∃ kvs, o.IsDictOf (iK w) kvs ∧ kvs.map (·.1) = ks.map (fun k : Nat => (k : Int)) ∧ ∀ y ∈ ks, ∃ t, PySem.valueAt kvs (y : Int) = some (.int (num y : Int) t)
abbrev Kf (o : Obj) : Prop := ∀ xs, o.data ≠ .fields xs
theorem Told.cls {w : World} {o : Obj} {num : Nat → Nat} {ks : List Nat} (h : Told w o num ks) : o.cls = .type "dict" := by obtain ⟨kvs, ⟨es, ep, hc, _⟩, _⟩ := h; exact hc.1
theorem Told.kf {w : World} {o : Obj} {num : Nat → Nat} {ks : List Nat} (h : Told w o num ks) : Kf o := by
  obtain ⟨kvs, ⟨es, ep, hc, hd, _⟩, _⟩ := h
  intro xs e; rw [hd] at e; cases e
noncomputable def tvOf (num : Nat → Nat) (ks : List Nat) (y : Nat) : Option Nat := if y ∈ ks then some (num y) else none
theorem Srt.monoK {w : World} {W W' : List (Addr × Obj)} {S : SS} (h : Srt w W S) (nd : (W'.map (·.1)).Nodup) (L : ∀ b ob, Kf ob → W.lookup b = some ob → W'.lookup b = some ob) : Srt w W' S := by
  refine ⟨nd, L _ _ (fun _ e => nomatch e) h.obj, ?_, ?_, ?_, ?_, fun y hy => L _ _ (fun _ e => nomatch e) (h.dd y hy), ?_, h.lne, h.rne, h.dn, h.ns⟩
  · obtain ⟨es, n, t1, t2, hd, A⟩ := h.ats; refine ⟨es, n, t1, t2, L _ _ (fun _ e => nomatch e) hd, A⟩
  · obtain ⟨o, ho, hd⟩ := h.inf
    obtain ⟨es, ep, hc, hdd, r⟩ := hd
    refine ⟨o, L _ _ (fun _ e => by rw [hdd] at e; cases e) ho, es, ep, hc, hdd, r⟩
  · intro a ha; obtain ⟨vs, n, hl, hv⟩ := h.rdy a ha; exact ⟨vs, n, L _ _ (fun _ e => nomatch e) hl, hv⟩
  · intro y hy; obtain ⟨r, r', hy'⟩ := h.info y hy; exact ⟨r, r', L _ _ (fun _ e => nomatch e) hy'⟩
  · intro y hy; obtain ⟨vs, n, hl, hv⟩ := h.suc y hy; exact ⟨vs, n, L _ _ (fun _ e => nomatch e) hl, hv⟩
theorem Srt.kinds {w : World} {W : List (Addr × Obj)} {S : SS} (h : Srt w W S) {b : Addr} {o : Obj} (hb : SAddr S b) (e : W.lookup b = some o) : o.cls ≠ .type "tuple" := by
  have key : ∀ o' : Obj, W.lookup b = some o' → o'.cls ≠ .type "tuple" → o.cls ≠ .type "tuple" := fun o' e' hc => by rw [e] at e'; cases e'; exact hc
  rcases hb with rfl | rfl | rfl | hb | ⟨x, hx, rfl | rfl | rfl⟩
  · exact key _ h.obj (by simp)
  · obtain ⟨es, n, t1, t2, hd, A⟩ := h.ats; exact key _ hd (by simp)
  · obtain ⟨o, ho, hc⟩ := h.inf_cls; exact key _ ho (by rw [hc]; simp)
  · obtain ⟨vs, n, hl, hv⟩ := h.rdy b hb; exact key _ hl (by simp)
  · obtain ⟨r, r', hy'⟩ := h.info x hx; exact key _ hy' (by simp)
  · obtain ⟨vs, n, hl, hv⟩ := h.suc x hx; exact key _ hl (by simp)
  · exact key _ (h.dd x hx) (by simp)
structure SameN (S S' : SS) : Prop where
  s : S'.s = S.s
  d : S'.d = S.d
  n2 : S'.n2 = S.n2
  rd : S'.rd = S.rd
  nodes : S'.nodes = S.nodes
  ia : S'.ia = S.ia
  la : S'.la = S.la
  da : S'.da = S.da
  succ : S'.succ = S.succ
theorem SameN.trans {S S' S'' : SS} (h : SameN S S') (k : SameN S' S'') : SameN S S'' := ⟨k.s.trans h.s, k.d.trans h.d, k.n2.trans h.n2, k.rd.trans h.rd, k.nodes.trans h.nodes, k.ia.trans h.ia, k.la.trans h.la, k.da.trans h.da, k.succ.trans h.succ⟩
theorem done_same (S : SS) (x : Nat) : SameN S (doneS S x) :=
  have same := foldS_same (S := S) (S' := { S with np := upd S.np x (-2) }) ⟨rfl, rfl, rfl, rfl, rfl, rfl, rfl, rfl, rfl, rfl, rfl⟩ (S.succ x)
  ⟨same.s, same.d, same.n2, same.rd, same.nodes, same.ia, same.la, same.da, same.succ⟩
theorem done_count (S : SS) (x : Nat) : (doneS S x).po = S.po ∧ (doneS S x).nf = S.nf + 1 :=
  have same := foldS_same (S := S) (S' := { S with np := upd S.np x (-2) }) ⟨rfl, rfl, rfl, rfl, rfl, rfl, rfl, rfl, rfl, rfl, rfl⟩ (S.succ x)
  ⟨same.po, congrArg (· + 1) same.nf⟩
theorem ready_same (S : SS) : SameN S (readyS S) :=
  have same := foldO_same (S := S) (S' := S) ⟨rfl, rfl, rfl, rfl, rfl, rfl, rfl, rfl, rfl, rfl, rfl⟩ S.ready
  ⟨same.s, same.d, same.n2, same.rd, same.nodes, same.ia, same.la, same.da, same.succ⟩
theorem ready_count (S : SS) : (readyS S).po = S.po + S.ready.length ∧ (readyS S).nf = S.nf :=
  have same := foldO_same (S := S) (S' := S) ⟨rfl, rfl, rfl, rfl, rfl, rfl, rfl, rfl, rfl, rfl, rfl⟩ S.ready
  ⟨congrArg (· + S.ready.length) same.po, same.nf⟩
theorem SAddr.same {S S' : SS} (h : SameN S S') {b : Addr} : SAddr S' b ↔ SAddr S b := by
  unfold SAddr
  rw [h.s, h.d, h.n2, h.rd, h.nodes, h.ia, h.la, h.da]
theorem sP_no {S : SS} {b : Addr} (h : ¬ SAddr S b) : sP S b = false := by
  cases e : sP S b with
  | false => rfl
  | true => exact absurd (sP_iff.mp e) h
theorem HV.mono2 {num : Nat → Nat} {as as' : List (Addr × Nat)} {W W' : List (Addr × Obj)} {vs : List Value} {xs : List Nat} (h : HV num as W vs xs) (hw : ∀ a x us, as.lookup a = some x → W.lookup a = some (tupObj us) → as'.lookup a = some x ∧ W'.lookup a = some (tupObj us)) : HV num as' W' vs xs := by
  induction h with
  | nil => exact .nil
  | cons h1 h2 _ ih =>
    have z := hw _ _ _ h1 h2
    exact .cons z.1 z.2 ih
structure CI (w : World) (W CE : List (Addr × Obj)) (lh lc told sa rl : Addr) (num : Nat → Nat) (as : List (Addr × Nat)) (ks : List Nat) (hv cv : List Value) (H C : List Nat) (S : SS) : Prop where
  srt : Srt w W S
  sid : S.s = sa
  rd : S.rd = some rl
  hp : ∃ n, W.lookup lh = some (listOf hv.toArray n)
  co : ∃ n, W.lookup lc = some (listOf cv.toArray n)
  td : ∃ o, W.lookup told = some o ∧ Told w o num ks
  hH : HV num as W hv H
  hC : HV num as W cv C
  ih : IsHp (ltOf num as) hv
  n1 : ¬ SAddr S lh
  n2 : ¬ SAddr S lc
  n3 : ¬ SAddr S told
  n4 : lh ≠ lc
  cel : ∀ p ∈ CE, W.lookup p.1 = some p.2 ∧ p.1 ≠ lh ∧ p.1 ≠ lc ∧ p.1 ≠ told ∧ ¬ SAddr S p.1
  ak : ∀ a x, as.lookup a = some x → ∃ t t', W.lookup a = some (tupObj [.int (num x : Int) t, .int (x : Int) t'])
section
variable {w : World} {W W' CE : List (Addr × Obj)} {lh lc told sa rl : Addr} {num : Nat → Nat} {as : List (Addr × Nat)} {ks : List Nat} {hv cv : List Value} {H C : List Nat} {S S' : SS}
theorem CI.nd (h : CI w W CE lh lc told sa rl num as ks hv cv H C S) : (W.map (·.1)).Nodup := h.srt.nd
theorem tup_kf {vs : List Value} : Kf (tupObj vs) := fun _ e => nomatch e
theorem CI.mono (h : CI w W CE lh lc told sa rl num as ks hv cv H C S) (nd : (W'.map (·.1)).Nodup) (L : ∀ b ob, Kf ob → W.lookup b = some ob → W'.lookup b = some ob) (LC : ∀ p ∈ CE, W.lookup p.1 = some p.2 → W'.lookup p.1 = some p.2) : CI w W' CE lh lc told sa rl num as ks hv cv H C S := by
  obtain ⟨n, hp⟩ := h.hp
  obtain ⟨n', co⟩ := h.co
  obtain ⟨o, td, hto⟩ := h.td
  refine ⟨h.srt.monoK nd L, h.sid, h.rd, ⟨n, L _ _ (fun _ e => nomatch e) hp⟩, ⟨n', L _ _ (fun _ e => nomatch e) co⟩, ⟨o, L _ _ hto.kf td, hto⟩, h.hH.mono2 fun a x us h1 h2 => ⟨h1, L _ _ tup_kf h2⟩, h.hC.mono2 fun a x us h1 h2 => ⟨h1, L _ _ tup_kf h2⟩, h.ih, h.n1, h.n2, h.n3, h.n4,
    fun p hp => ⟨LC p hp (h.cel p hp).1, (h.cel p hp).2⟩, fun a x hx => by obtain ⟨t, t', hu⟩ := h.ak a x hx; exact ⟨t, t', L _ _ tup_kf hu⟩⟩
theorem CI.comp {W0 : List (Addr × Obj)} {as0 : List (Addr × Nat)} {ks0 : List Nat} {hv0 cv0 : List Value} {H0 C0 : List Nat} {it D Cc : Addr} (h : CI w W CE lh lc told sa rl num as ks hv cv H C S) (h0 : CI w W0 CE lh lc told sa rl num as0 ks0 hv0 cv0 H0 C0 S)
    (hap : ∀ p ∈ W0, p.1 ≠ it ∧ p.1 ≠ D ∧ p.1 ≠ Cc) (nd : (W'.map (·.1)).Nodup) (L : ∀ b o, (∃ us, o = tupObj us) ∨ (b ≠ it ∧ b ≠ D ∧ b ≠ Cc) → W.lookup b = some o → W'.lookup b = some o) : CI w W' CE lh lc told sa rl num as ks hv cv H C S := by
  obtain ⟨n, hp⟩ := h.hp
  obtain ⟨n', co⟩ := h.co
  obtain ⟨o, td, hto⟩ := h.td
  have ap : ∀ b o, W0.lookup b = some o → b ≠ it ∧ b ≠ D ∧ b ≠ Cc := fun b o e => hap _ (look_mem e)
  obtain ⟨m, hp0⟩ := h0.hp
  obtain ⟨m', co0⟩ := h0.co
  obtain ⟨o0, td0, _⟩ := h0.td
  have tu : ∀ a us, W.lookup a = some (tupObj us) → W'.lookup a = some (tupObj us) := fun a us e => L _ _ (.inl ⟨us, rfl⟩) e
  refine ⟨h.srt.mono2 nd fun b ob hb e => by obtain ⟨o', e'⟩ := h0.srt.has hb; exact L _ _ (.inr (ap _ _ e')) e, h.sid, h.rd, ⟨n, L _ _ (.inr (ap _ _ hp0)) hp⟩, ⟨n', L _ _ (.inr (ap _ _ co0)) co⟩, ⟨o, L _ _ (.inr (ap _ _ td0)) td, hto⟩, h.hH.mono2 fun a x us h1 h2 => ⟨h1, tu _ _ h2⟩, h.hC.mono2 fun a x us h1 h2 => ⟨h1, tu _ _ h2⟩, h.ih, h.n1, h.n2, h.n3, h.n4,
    fun p hp => ⟨L _ _ (.inr (ap _ _ (h0.cel p hp).1)) (h.cel p hp).1, (h.cel p hp).2⟩, fun a x hx => by obtain ⟨t, t', hu⟩ := h.ak a x hx; exact ⟨t, t', tu _ _ hu⟩⟩
theorem CI.std (h : CI w W CE lh lc told sa rl num as ks hv cv H C S) (nd : (W'.map (·.1)).Nodup) (L : Std W W') : CI w W' CE lh lc told sa rl num as ks hv cv H C S := h.mono nd (fun b ob _ e => L b ob e) fun p _ e => L _ _ e
theorem CI.add (h : CI w W CE lh lc told sa rl num as ks hv cv H C S) {b : Addr} {o : Obj} (hb : W.lookup b = some o) (h1 : b ≠ lh) (h2 : b ≠ lc) (h3 : b ≠ told) (h4 : ¬ SAddr S b) : CI w W ((b, o) :: CE) lh lc told sa rl num as ks hv cv H C S :=
  ⟨h.srt, h.sid, h.rd, h.hp, h.co, h.td, h.hH, h.hC, h.ih, h.n1, h.n2, h.n3, h.n4, fun p hp => (List.mem_cons.mp hp).elim (fun e => by subst e; refine ⟨hb, h1, h2, h3, h4⟩) (h.cel p), h.ak⟩
theorem CI.drop {p : Addr × Obj} (h : CI w W (p :: CE) lh lc told sa rl num as ks hv cv H C S) : CI w W CE lh lc told sa rl num as ks hv cv H C S :=
  ⟨h.srt, h.sid, h.rd, h.hp, h.co, h.td, h.hH, h.hC, h.ih, h.n1, h.n2, h.n3, h.n4, fun p hp => h.cel p (.tail _ hp), h.ak⟩
theorem CI.look {p : Addr × Obj} (h : CI w W (p :: CE) lh lc told sa rl num as ks hv cv H C S) : W.lookup p.1 = some p.2 := (h.cel p (.head _)).1
theorem CI.sort (h : CI w W CE lh lc told sa rl num as ks hv cv H C S) {W3 : List (Addr × Obj)} (nd : (W'.map (·.1)).Nodup) (hs : Srt w W3 S') (st : Std W3 W') (sm : SameN S S') (L : ∀ b o, ¬ SAddr S b → W.lookup b = some o → W'.lookup b = some o) : CI w W' CE lh lc told sa rl num as ks hv cv H C S' := by
  obtain ⟨n, hp⟩ := h.hp
  obtain ⟨n', co⟩ := h.co
  obtain ⟨o, td, hto⟩ := h.td
  have tu : ∀ a us, W.lookup a = some (tupObj us) → W'.lookup a = some (tupObj us) := fun a us e => L _ _ (fun q => h.srt.kinds q e rfl) e
  refine ⟨hs.std nd st, sm.s.trans h.sid, sm.rd.trans h.rd, ⟨n, L _ _ h.n1 hp⟩, ⟨n', L _ _ h.n2 co⟩, ⟨o, L _ _ h.n3 td, hto⟩, h.hH.mono2 fun a x us h1 h2 => ⟨h1, tu _ _ h2⟩, h.hC.mono2 fun a x us h1 h2 => ⟨h1, tu _ _ h2⟩, h.ih,
    fun q => h.n1 ((SAddr.same sm).mp q), fun q => h.n2 ((SAddr.same sm).mp q), fun q => h.n3 ((SAddr.same sm).mp q), h.n4,
    fun p hp => let z := h.cel p hp; ⟨L _ _ z.2.2.2.2 z.1, z.2.1, z.2.2.1, z.2.2.2.1, fun q => z.2.2.2.2 ((SAddr.same sm).mp q)⟩, fun a x hx => by obtain ⟨t, t', hu⟩ := h.ak a x hx; exact ⟨t, t', tu _ _ hu⟩⟩
theorem CI.put (h : CI w W CE lh lc told sa rl num as ks hv cv H C S) {a : Addr} {o o' : Obj} (ha : W.lookup a = some o) (hc : o.cls ≠ .type "tuple") (na : ¬ SAddr S a) :
    Srt w (putW W a o') S ∧ (∀ b us, W.lookup b = some (tupObj us) → (putW W a o').lookup b = some (tupObj us)) ∧ ∀ b, b ≠ a → (putW W a o').lookup b = W.lookup b := by
  have hs : (W.lookup a).isSome = true := by rw [ha]; rfl
  have L : ∀ b, b ≠ a → (putW W a o').lookup b = W.lookup b := fun b hb => by rw [look_put hs, if_neg hb]
  refine ⟨h.srt.mono2 (by rw [putW_names]; exact h.nd) fun b ob hb e => ?_, fun b us e => ?_, L⟩
  · rw [L _ fun q => na (by rw [← q]; exact hb)]; exact e
  · rw [L _ fun q => by subst q; rw [ha] at e; cases e; exact hc rfl]; exact e
theorem CI.lh_told (h : CI w W CE lh lc told sa rl num as ks hv cv H C S) : told ≠ lh := fun e => by
  obtain ⟨n, hp⟩ := h.hp
  obtain ⟨o, td, hto⟩ := h.td
  rw [e, hp] at td; cases td
  exact absurd hto.cls (by simp)
theorem CI.lc_told (h : CI w W CE lh lc told sa rl num as ks hv cv H C S) : told ≠ lc := fun e => by
  obtain ⟨n, hp⟩ := h.co
  obtain ⟨o, td, hto⟩ := h.td
  rw [e, hp] at td; cases td
  exact absurd hto.cls (by simp)
theorem CI.setHp (h : CI w W CE lh lc told sa rl num as ks hv cv H C S) {vs : List Value} {k : Nat} {H' : List Nat} (hH : HV num as W vs H') (ih : IsHp (ltOf num as) vs) : CI w (putW W lh (listOf vs.toArray k)) CE lh lc told sa rl num as ks vs cv H' C S := by
  obtain ⟨n, hp⟩ := h.hp
  obtain ⟨n', co⟩ := h.co
  obtain ⟨o, td, hto⟩ := h.td
  obtain ⟨hs, tu, L⟩ := h.put (o' := listOf vs.toArray k) hp (by simp) h.n1
  refine ⟨hs, h.sid, h.rd, ⟨k, by rw [look_put (by rw [hp]; rfl), if_pos rfl]⟩, ⟨n', by rw [L _ h.n4.symm]; exact co⟩, ⟨o, by rw [L _ h.lh_told]; exact td, hto⟩, hH.mono2 fun a x us h1 h2 => ⟨h1, tu _ _ h2⟩, h.hC.mono2 fun a x us h1 h2 => ⟨h1, tu _ _ h2⟩, ih, h.n1, h.n2, h.n3, h.n4,
    fun p hp => let z := h.cel p hp; ⟨by rw [L _ z.2.1]; exact z.1, z.2⟩, fun a x hx => by obtain ⟨t, t', hu⟩ := h.ak a x hx; exact ⟨t, t', tu _ _ hu⟩⟩
theorem CI.setCo (h : CI w W CE lh lc told sa rl num as ks hv cv H C S) {vs : List Value} {k : Nat} {C' : List Nat} (hC : HV num as W vs C') : CI w (putW W lc (listOf vs.toArray k)) CE lh lc told sa rl num as ks hv vs H C' S := by
  obtain ⟨n, hp⟩ := h.hp
  obtain ⟨n', co⟩ := h.co
  obtain ⟨o, td, hto⟩ := h.td
  obtain ⟨hs, tu, L⟩ := h.put (o' := listOf vs.toArray k) co (by simp) h.n2
  refine ⟨hs, h.sid, h.rd, ⟨n, by rw [L _ h.n4]; exact hp⟩, ⟨k, by rw [look_put (by rw [co]; rfl), if_pos rfl]⟩, ⟨o, by rw [L _ h.lc_told]; exact td, hto⟩, h.hH.mono2 fun a x us h1 h2 => ⟨h1, tu _ _ h2⟩, hC.mono2 fun a x us h1 h2 => ⟨h1, tu _ _ h2⟩, h.ih, h.n1, h.n2, h.n3, h.n4,
    fun p hp => let z := h.cel p hp; ⟨by rw [L _ z.2.2.1]; exact z.1, z.2⟩, fun a x hx => by obtain ⟨t, t', hu⟩ := h.ak a x hx; exact ⟨t, t', tu _ _ hu⟩⟩
theorem CI.setTd (h : CI w W CE lh lc told sa rl num as ks hv cv H C S) {o' : Obj} {ks' : List Nat} (ht : Told w o' num ks') : CI w (putW W told o') CE lh lc told sa rl num as ks' hv cv H C S := by
  obtain ⟨n, hp⟩ := h.hp
  obtain ⟨n', co⟩ := h.co
  obtain ⟨o, td, hto⟩ := h.td
  obtain ⟨hs, tu, L⟩ := h.put (o' := o') td (by rw [hto.cls]; simp) h.n3
  refine ⟨hs, h.sid, h.rd, ⟨n, by rw [L _ h.lh_told.symm]; exact hp⟩, ⟨n', by rw [L _ h.lc_told.symm]; exact co⟩, ⟨o', by rw [look_put (by rw [td]; rfl), if_pos rfl], ht⟩, h.hH.mono2 fun a x us h1 h2 => ⟨h1, tu _ _ h2⟩, h.hC.mono2 fun a x us h1 h2 => ⟨h1, tu _ _ h2⟩, h.ih, h.n1, h.n2, h.n3, h.n4,
    fun p hp => let z := h.cel p hp; ⟨by rw [L _ z.2.2.2.1]; exact z.1, z.2⟩, fun a x hx => by obtain ⟨t, t', hu⟩ := h.ak a x hx; exact ⟨t, t', tu _ _ hu⟩⟩
theorem as_cons {as : List (Addr × Nat)} {D a : Addr} {x y : Nat} (h : as.lookup a = some y) (hn : a ≠ D) : ((D, x) :: as).lookup a = some y := by
  rw [List.lookup_cons]
  have : (a == D) = false := by simpa using hn
  rw [this]; exact h
theorem CI.grow (h : CI w W CE lh lc told sa rl num as ks hv cv H C S) {as' : List (Addr × Nat)} (ha : ∀ a x, as.lookup a = some x → as'.lookup a = some x) (ak : ∀ a x, as'.lookup a = some x → ∃ t t', W.lookup a = some (tupObj [.int (num x : Int) t, .int (x : Int) t'])) : CI w W CE lh lc told sa rl num as' ks hv cv H C S :=
  have h1 : HV num as' W hv H := h.hH.mono2 fun a x us h1 h2 => ⟨ha _ _ h1, h2⟩
  ⟨h.srt, h.sid, h.rd, h.hp, h.co, h.td, h1, h.hC.mono2 fun a x us h1 h2 => ⟨ha _ _ h1, h2⟩, hp_keys h.hH h1 h.ih, h.n1, h.n2, h.n3, h.n4, h.cel, ak⟩
theorem CI.top {v : Value} {hv0 : List Value} {y : Nat} {H0 : List Nat} (h : CI w W CE lh lc told sa rl num as ks (v :: hv0) cv (y :: H0) C S) : ∀ z ∈ (y :: H0), z ≠ y → klt (kx num y) (kx num z) = true := fun z hz hne => by
  obtain ⟨i, hi⟩ := List.getElem?_of_mem hz
  obtain ⟨u, hu⟩ : ∃ u, (v :: hv0)[i]? = some u := by
    have hl := h.hH.length
    have := (List.getElem?_eq_some_iff.mp hi).1
    exact ⟨_, List.getElem?_eq_getElem (by omega)⟩
  obtain ⟨z', hz', ku⟩ := h.hH.at hu
  rw [hi] at hz'; cases hz'
  obtain ⟨y', hy', kv⟩ := h.hH.at (i := 0) rfl
  have : y' = y := by simpa using hy'.symm
  subst this
  have t := hp_top (klt_tot (keyOf num as)) (fun a => by unfold klt; simp) h.ih i _ _ rfl hu
  unfold Le at t
  dsimp only at t
  rw [ku, kv] at t
  cases e : klt (kx num y') (kx num z) with
  | true => rfl
  | false =>
    unfold klt kx at t e
    simp only [Bool.or_eq_false_iff, Bool.and_eq_false_imp, decide_eq_true_eq, decide_eq_false_iff_not] at t e
    omega
end
theorem kz_zh_ci : True := by
  k_with "zh_ci" => skip
  trivial
/-! the course's steps on its ledger -/
structure Base (w : World) (h : Heap) (rows deep : Addr) (n : Nat) (M : Nat → Nat → Bool) (dp : Nat → Nat) : Prop where
  tRows : ∃ (rv : List Value) (k : Nat), h.get? rows = some (listOf rv.toArray k) ∧ rv.length = n ∧ ∀ x, x < n → ∃ (a : Addr) (cs : List Value) (k' : Nat), rv[x]? = some (.ref a) ∧ h.get? a = some (listOf cs.toArray k') ∧ cs.length = n ∧ ∀ y, y < n → ∃ t, cs[y]? = some (.int (if M x y then 1 else 0) t)
  tDeep : ∃ (dv : List Value) (k : Nat), h.get? deep = some (listOf dv.toArray k) ∧ dv.length = n ∧ ∀ y, y < n → ∃ t, dv[y]? = some (.int (dp y : Int) t)
theorem Base.keep {w : World} {h h' : Heap} {rows deep : Addr} {n : Nat} {M : Nat → Nat → Bool} {dp : Nat → Nat} (T : Base w h rows deep n M dp) (k : ∀ b o, h.get? b = some o → h'.get? b = some o) : Base w h' rows deep n M dp := by
  obtain ⟨rv, k1, h1, l1, r1⟩ := T.tRows
  obtain ⟨dv, k2, h2, r2⟩ := T.tDeep
  refine ⟨⟨rv, k1, k _ _ h1, l1, fun x hx => ?_⟩, ⟨dv, k2, k _ _ h2, r2⟩⟩
  obtain ⟨a, cs, k', e1, e2, e3⟩ := r1 x hx
  refine ⟨a, cs, k', e1, k _ _ e2, e3⟩
theorem cast_mem {ks : List Nat} {y : Nat} : (y : Int) ∈ ks.map (fun k : Nat => (k : Int)) ↔ y ∈ ks := by
  rw [List.mem_map]
  constructor
  · intro hx9; obtain ⟨a, ha, e⟩ := hx9
    have : a = y := by exact_mod_cast e
    rwa [← this]
  · intro h; exact ⟨y, h, rfl⟩
theorem valueAt_none {kvs : List (Int × Value)} {k : Int} (h : k ∉ kvs.map (·.1)) : PySem.valueAt kvs k = none := by
  have := valueAt_isSome (kvs := kvs) (k := k)
  rw [decide_eq_false h] at this
  cases e : PySem.valueAt kvs k with
  | none => rfl
  | some v => rw [e] at this; cases this
theorem Told.vals {w : World} {o : Obj} {num : Nat → Nat} {ks : List Nat} (h : Told w o num ks) : ∃ kvs, o.IsDictOf (iK w) kvs ∧ ∀ y : Nat, (tvOf num ks y = none → PySem.valueAt kvs (y : Int) = none) ∧ ∀ q, tvOf num ks y = some q → ∃ t, PySem.valueAt kvs (y : Int) = some (.int (q : Int) t) := by
  obtain ⟨kvs, hd, hk, hv⟩ := h
  refine ⟨kvs, hd, fun y => ⟨fun e => ?_, fun q e => ?_⟩⟩
  · refine valueAt_none ?_
    rw [hk, cast_mem]
    intro hy
    unfold tvOf at e
    rw [if_pos hy] at e; cases e
  · unfold tvOf at e
    by_cases hy : y ∈ ks
    · rw [if_pos hy] at e; cases e; exact hv y hy
    · rw [if_neg hy] at e; cases e
theorem Told.set {w : World} {o' : Obj} {num : Nat → Nat} {ks : List Nat} {kvs : List (Int × Value)} {x : Nat} {u : Tok} (hk : kvs.map (·.1) = ks.map (fun k : Nat => (k : Int))) (hv : ∀ y ∈ ks, ∃ t, PySem.valueAt kvs (y : Int) = some (.int (num y : Int) t)) (hx : x ∉ ks)
    (hd : o'.IsDictOf (iK w) (PySem.stored kvs (x : Int) (.int (num x : Int) u))) : Told w o' num (ks ++ [x]) := by
  refine ⟨_, hd, ?_, fun y hy => ?_⟩
  · have hno : (kvs.any fun kv => decide (kv.1 = (x : Int))) = false := by
      rw [Bool.eq_false_iff]
      intro q
      obtain ⟨kv, hkv, e⟩ := List.any_eq_true.mp q
      have e' := of_decide_eq_true e
      refine hx (cast_mem.mp ?_)
      rw [← hk, ← e']
      exact List.mem_map_of_mem (f := (·.1)) hkv
    unfold PySem.stored
    rw [if_neg (by rw [hno]; decide), List.map_append, List.map_append, hk]; rfl
  · rw [stored_at]
    by_cases e : (y : Int) = (x : Int)
    · rw [if_pos e]
      have : y = x := by exact_mod_cast e
      subst this
      exact ⟨u, rfl⟩
    · rw [if_neg e]
      rcases List.mem_append.mp hy with hy | hy
      · exact hv y hy
      · rw [List.mem_singleton] at hy; exact absurd (by rw [hy]) e
section
variable {w : World} {A : Around} {E : Value → Shared → Prop} {s : Shared} {g : Heap} {L : Addr} {m : Str → Option Value} {loose : List Str} {mean : ExcName → Option Value} {mg mb : Str → Option Value} {p : Program} {R : Result → Shared → Prop}
  {W CE : List (Addr × Obj)} {lh lc told sa rl : Addr} {num : Nat → Nat} {as : List (Addr × Nat)} {ks : List Nat} {hv cv : List Value} {H C : List Nat} {S : SS}
theorem pushC (X : (hd.heap_1 w.params).In g) (T : Top p loose mean mg mb g) (F : Fr g L s.heap m) (N : News g L s.heap W) (ci : CI w W CE lh lc told sa rl num as ks hv cv H C S) (hroom : A.depth + 80 < recursionLimit) (hun : A.units + 80 < cLine) (hz : H.length ≤ 900) {a : Addr} {x : Nat} {t t' : Tok} (has : as.lookup a = some x) (hta : W.lookup a = some (tupObj [.int (num x : Int) t, .int (x : Int) t']))
    (hR : ∀ h' tk W' hv' H', Fr g L h' m → News g L h' W' → CI w W' CE lh lc told sa rl num as ks hv' cv H' C S → (x :: H).Perm H' → R (.ok (.ret .none)) { s with heap := h', toks := tk }) :
    codeAny (model PG w) A (.call (.ref 28) ⟨[.ref lh, .ref a], []⟩) R s := by
  obtain ⟨n, hp⟩ := ci.hp
  have NL : ∀ b o, W.lookup b = some o → s.heap.get? b = some o := fun b o e => nget N e
  have hx1 : HV num as W (.ref a :: hv) (x :: H) := .cons has hta ci.hH
  refine heappush_ok X T (fun b o e => F.keep b o e) hroom hun (keyOf num as) (nget N hp) (ngone N hp) (by rw [ci.hH.length]; exact hz) (ci.hH.tup NL) (hx1.tup NL _ (.head _)) fun h' tk kp ho => ?_
  obtain ⟨ih, pm⟩ := push_hp (lt := ltOf num as) (klt_tot (keyOf num as)) (v := .ref a) ci.ih
  obtain ⟨H', hH', pH⟩ := hx1.perm pm.symm
  obtain ⟨F', N'⟩ := after1 F N kp ho (upd_put ci.nd hp)
  exact hR h' tk _ _ H' F' N' (ci.setHp hH' ih) pH
theorem replaceC {v : Value} {hv0 : List Value} {y : Nat} {H0 : List Nat} (X : (hd.heap_1 w.params).In g) (T : Top p loose mean mg mb g) (F : Fr g L s.heap m) (N : News g L s.heap W) (ci : CI w W CE lh lc told sa rl num as ks (v :: hv0) cv (y :: H0) C S) (hroom : A.depth + 80 < recursionLimit) (hun : A.units + 80 < cLine) (hz : (y :: H0).length ≤ 900) {a : Addr} {x : Nat} {t t' : Tok} (has : as.lookup a = some x) (hta : W.lookup a = some (tupObj [.int (num x : Int) t, .int (x : Int) t']))
    (hR : ∀ h' tk W' hv' H', Fr g L h' m → News g L h' W' → CI w W' CE lh lc told sa rl num as ks hv' cv H' C S → HV num as W' [v] [y] → (x :: H0).Perm H' → R (.ok (.ret v)) { s with heap := h', toks := tk }) :
    codeAny (model PG w) A (.call (.ref 42) ⟨[.ref lh, .ref a], []⟩) R s := by
  obtain ⟨n, hp⟩ := ci.hp
  have NL : ∀ b o, W.lookup b = some o → s.heap.get? b = some o := fun b o e => nget N e
  have hx1 : HV num as W [.ref a] [x] := .cons has hta .nil
  have hv1 : HV num as W [v] [y] ∧ HV num as W hv0 H0 := by
    cases ci.hH with
    | cons h1 h2 h3 => exact ⟨.cons h1 h2 .nil, h3⟩
  refine heapreplace_ok X T (fun b o e => F.keep b o e) hroom hun (keyOf num as) (nget N hp) (ngone N hp) (by rw [ci.hH.length]; exact hz) rfl (ci.hH.tup NL) (hx1.tup NL _ (.head _)) fun h' tk kp ho => ?_
  obtain ⟨ih, pm⟩ := replace_hp (lt := ltOf num as) (klt_tot (keyOf num as)) (v := .ref a) ci.ih
  obtain ⟨H', hH', pH⟩ := HV.perm pm.symm (show HV num as W (.ref a :: hv0) (x :: H0) from .cons has hta hv1.2)
  obtain ⟨F', N'⟩ := after1 F N kp ho (upd_put ci.nd hp)
  obtain ⟨_, tu, _⟩ := ci.put (o' := listOf (siftup (ltOf num as) (.ref a) ((v :: hv0).set 0 (.ref a))).toArray n) hp (by simp) ci.n1
  exact hR h' tk _ _ H' F' N' (ci.setHp hH' ih) (hv1.1.mono2 fun a x us h1 h2 => ⟨h1, tu _ _ h2⟩) pH
theorem popC {v : Value} {hv0 : List Value} {y : Nat} {H0 : List Nat} (X : (hd.heap_1 w.params).In g) (T : Top p loose mean mg mb g) (F : Fr g L s.heap m) (N : News g L s.heap W) (ci : CI w W CE lh lc told sa rl num as ks (v :: hv0) cv (y :: H0) C S) (hroom : A.depth + 80 < recursionLimit) (hun : A.units + 80 < cLine) (hz : (y :: H0).length ≤ 900)
    (hR : ∀ h' tk W' hv' H', Fr g L h' m → News g L h' W' → CI w W' CE lh lc told sa rl num as ks hv' cv H' C S → HV num as W' [v] [y] → H0.Perm H' → R (.ok (.ret v)) { s with heap := h', toks := tk }) :
    codeAny (model PG w) A (.call (.ref 35) ⟨[.ref lh], []⟩) R s := by
  obtain ⟨n, hp⟩ := ci.hp
  have NL : ∀ b o, W.lookup b = some o → s.heap.get? b = some o := fun b o e => nget N e
  have hv1 : HV num as W [v] [y] ∧ HV num as W hv0 H0 := by
    cases ci.hH with
    | cons h1 h2 h3 => exact ⟨.cons h1 h2 .nil, h3⟩
  refine heappop_ok X T (fun b o e => F.keep b o e) hroom hun (keyOf num as) (nget N hp) (ngone N hp) (by rw [ci.hH.length]; exact hz) rfl (ci.hH.tup NL) fun h' tk kp ho => ?_
  obtain ⟨ih, pm⟩ := pop_hp (lt := ltOf num as) (klt_tot (keyOf num as)) ci.ih
  obtain ⟨H', hH', pH⟩ := HV.perm pm.symm hv1.2
  obtain ⟨F', N'⟩ := after1 F N kp ho (upd_put ci.nd hp)
  obtain ⟨_, tu, _⟩ := ci.put (o' := listOf (popRest (ltOf num as) (v :: hv0)).toArray (n + 1)) hp (by simp) ci.n1
  exact hR h' tk _ _ H' F' N' (ci.setHp hH' ih) (hv1.1.mono2 fun a x us h1 h2 => ⟨h1, tu _ _ h2⟩) pH
theorem doneC {x : Nat} {t : Tok} (X : (hd.heap_1 w.params).In g) (T : Top p loose mean mg mb g) (F : Fr g L s.heap m) (N : News g L s.heap W) (ci : CI w W CE lh lc told sa rl num as ks hv cv H C S) (hroom : A.depth + 80 < recursionLimit) (hun : A.units + 80 < cLine) (hh : A.handled = none) (hx : x ∈ S.nodes) (hnp : S.np x = -1) (hsu : ∀ y ∈ S.succ x, y ∈ S.nodes) (hz : S.ready.length + (S.succ x).length ≤ 900)
    (hR : ∀ h' tk W', Fr g L h' m → News g L h' W' → CI w W' CE lh lc told sa rl num as ks hv cv H C (doneS S x) → R (.ok (.ret .none)) { s with heap := h', toks := tk }) :
    codeAny (model PG w) A (.call (.ref 155) ⟨[.ref sa, .int (x : Int) t], []⟩) R s := by
  have hs := ci.sid
  subst hs
  refine done_ok (W := inP (sP S) W) X T (fun b o e => F.keep b o e) (by omega) (by omega) hh (fun p hp => (N p (inP_sub p hp).1).1) (fun p hp => (N p (inP_sub p hp).1).2.2) ci.srt.inP ci.rd hx hnp hsu hz fun h3 tk3 W3 kp3 hW3 fr3 hS3 => ?_
  obtain ⟨W4, F4, N4, nd4, L4, O4⟩ := after_P F N ci.nd kp3 hW3 fr3 hS3.nd
  exact hR h3 tk3 W4 F4 N4 (ci.sort nd4 hS3 L4 (done_same S x) fun b o hb e => O4 b o (sP_no hb) e)
theorem readyC (X : (hd.heap_1 w.params).In g) (T : Top p loose mean mg mb g) (F : Fr g L s.heap m) (N : News g L s.heap W) (ci : CI w W CE lh lc told sa rl num as ks hv cv H C S) (hroom : A.depth + 80 < recursionLimit) (hun : A.units + 80 < cLine) (hh : A.handled = none) (hrn : ∀ y ∈ S.ready, y ∈ S.nodes) (hz : S.ready.length ≤ 900)
    (hR : ∀ h' tk W' D vs, Fr g L h' m → News g L h' W' → CI w W' CE lh lc told sa rl num as ks hv cv H C (readyS S) → W'.lookup D = some (tupObj vs) → IV vs S.ready → R (.ok (.ret (.ref D))) { s with heap := h', toks := tk }) :
    codeAny (model PG w) A (.call (.ref 134) ⟨[.ref sa], []⟩) R s := by
  have hs := ci.sid
  subst hs
  refine getReady_ok (W := inP (sP S) W) X T (fun b o e => F.keep b o e) (by omega) (by omega) hh (fun p hp => (N p (inP_sub p hp).1).1) (fun p hp => (N p (inP_sub p hp).1).2.2) ci.srt.inP ci.rd hrn hz fun h3 tk3 W3 D vs kp3 hW3 fr3 hS3 hD3 hiv3 => ?_
  obtain ⟨W4, F4, N4, nd4, L4, O4⟩ := after_P F N ci.nd kp3 hW3 fr3 hS3.nd
  exact hR h3 tk3 W4 D vs F4 N4 (ci.sort nd4 hS3 L4 (ready_same S) fun b o hb e => O4 b o (sP_no hb) e) (L4 _ _ hD3) hiv3
theorem numberC {rows deep : Addr} {n : Nat} {M : Nat → Nat → Bool} {dp : Nat → Nat} {x : Nat} {t : Tok} (X : (hd.heap_1 w.params).In g) (T : Top p loose mean mg mb g) (F : Fr g L s.heap m) (N : News g L s.heap W) (ci : CI w W CE lh lc told sa rl num as ks hv cv H C S) (hh : A.handled = none) (hroom : A.depth ≤ 400) (hun : A.units ≤ 4000)
    (hb : Base w g rows deep n M dp) (hts : (told == sysModules) = false) (tr : Tree n M dp num) (hx : x < n) (hk : ∀ y, Bel n M y x → y ∈ ks)
    (hR : ∀ h' tk t', Fr g L h' m → News g L h' W → R (.ok (.ret (.int (num x : Int) t'))) { s with heap := h', toks := tk }) :
    codeAny (model PG w) A (.call (.ref 259) ⟨[.int (x : Int) t, .ref rows, .ref deep, .ref told], []⟩) R s := by
  obtain ⟨o, ho, hto⟩ := ci.td
  obtain ⟨kvs, hd, hvv⟩ := hto.vals
  have B := hb.keep fun b o e => F.keep b o e
  have e : numF n M dp (tvOf num ks) x = (num x : Int) := tr.number _ x hx fun y hy => by
    unfold tvOf; rw [if_pos (hk y hy)]
  refine number_ok (tv := tvOf num ks) X T (fun b o e => F.keep b o e) hh hroom hun ⟨B.tRows, B.tDeep, ⟨o, kvs, nget N ho, hd, fun y _ => hvv y⟩, hts⟩ (by have := tr.n40; omega) hx (fun y q hq => ?_) fun h' tk t' kp => ?_
  · unfold tvOf at hq
    split at hq
    · cases hq; exact tr.num10 y
    · cases hq
  · rw [e]
    exact hR h' tk t' (F.keptAll kp) (N.keepsAll kp)
theorem tellC {x : Nat} {t u : Tok} {Q : Unit → Shared → Prop} (F : Fr g L s.heap m) (N : News g L s.heap W) (ci : CI w W CE lh lc told sa rl num as ks hv cv H C S) (hz : ks.length ≤ 900) (hx : x ∉ ks)
    (h : ∀ h' W', Fr g L h' m → News g L h' W' → CI w W' CE lh lc told sa rl num as (ks ++ [x]) hv cv H C S → Q () { s with heap := h', toks := s.toks + 1 }) : wpAny (model PG w) A (setItem (.ref told) (.int (x : Int) t) (.int (num x : Int) u)) Q E s := by
  obtain ⟨o, ho, kvs, hd, hk, hv'⟩ := ci.td
  have hlen : kvs.length = ks.length := by have := congrArg List.length hk; simpa using this
  refine kda_set (knd := iK w) (k := (x : Int)) F N (updF_put ci.nd ho) hd (intKind_is _ _ _ _) (sz_ok (by omega)) fun h' o' F' N' hd' => ?_
  exact h h' _ F' N' (ci.setTd (Told.set hk hv' hx hd'))
theorem readC {x : Nat} {t : Tok} {value slice : PySem.Expr} {Q : Value → Shared → Prop} (N : News g L s.heap W) (ci : CI w W CE lh lc told sa rl num as ks hv cv H C S) (hx : x ∈ ks) (h : ∀ t', Q (.int (num x : Int) t') { s with toks := s.toks + 1 })
    (hs : subscripted slice false (.ref told) (.int (x : Int) t) = operate [.ref told, .int (x : Int) t] (getItem (.ref told) (.int (x : Int) t)) := by with_unfolding_all rfl) (hg : ∀ r, letTemporaryGo value (.ref told) r = pure () := by intro _; with_unfolding_all rfl) :
    wpAny (model PG w) A (subscriptTail value slice (.ref told) (.int (x : Int) t)) Q E s := by
  obtain ⟨o, ho, kvs, hd, hk, hv'⟩ := ci.td
  obtain ⟨t', e⟩ := hv' x hx
  exact kda_item (knd := iK w) (k := (x : Int)) N (look_mem ho) hd (intKind_is _ _ _ _) e (h t') hs hg
theorem neNil {a b : Addr} {vs : List Value} {k k2 : Nat} {Q : Value → Shared → Prop} (ha : s.heap.get? a = some (listOf vs.toArray k)) (hb : s.heap.get? b = some (listOf #[] k2)) (hu : A.units < cLine) (h : Q (.bool (!vs.isEmpty)) s) : wpAny (model PG w) A (compareOp .NotEq (.ref a) (.ref b)) Q E s := by
  show wpAny _ _ (richCompare .NotEq _ _) _ _ _
  have la : s.heap.IsList a vs.toArray := ⟨_, ha, rfl, k, rfl⟩
  have lb : s.heap.IsList b #[] := ⟨_, hb, rfl, k2, rfl⟩
  cases vs with
  | nil => exact PySem.SeqAt.RcNeAt.lists (e := fun _ => true) la lb rfl hu (fun j h1 _ => absurd h1 (Nat.not_lt_zero _)) PG w E Q h
  | cons x r => exact PySem.SeqAt.RcNeAt.lists_lengths la lb (by simp) hu PG w E Q h
theorem eqNil {a b : Addr} {vs : List Value} {k k2 : Nat} {Q : Value → Shared → Prop} (ha : s.heap.get? a = some (listOf vs.toArray k)) (hb : s.heap.get? b = some (listOf #[] k2)) (hu : A.units < cLine) (h : Q (.bool vs.isEmpty) s) : wpAny (model PG w) A (compareOp .Eq (.ref a) (.ref b)) Q E s := by
  show wpAny _ _ (richCompare .Eq _ _) _ _ _
  have la : s.heap.IsList a vs.toArray := ⟨_, ha, rfl, k, rfl⟩
  have lb : s.heap.IsList b #[] := ⟨_, hb, rfl, k2, rfl⟩
  cases vs with
  | nil => exact PySem.SeqAt.RcAt.lists (e := fun _ => true) la lb rfl hu (fun j h1 _ => absurd h1 (Nat.not_lt_zero _)) PG w E Q h
  | cons x r => exact PySem.SeqAt.RcAt.lists_lengths la lb (by simp) hu PG w E Q h
theorem lenC {Q : Value → Shared → Prop} (N : News g L s.heap W) (ci : CI w W CE lh lc told sa rl num as ks hv cv H C S) (hz : C.length ≤ 900) (h : ∀ t, Q (.int (C.length : Int) t) { s with toks := s.toks + 1 + 1 }) : wpAny (model PG w) A (call (.builtin "len") [.ref lc]) Q E s := by
  obtain ⟨n, hc⟩ := ci.co
  refine lenL N (look_mem hc) (by rw [ci.hC.length]; omega) ?_
  rw [ci.hC.length]; exact h _
theorem lenB {rows deep : Addr} {n : Nat} {M : Nat → Nat → Bool} {dp : Nat → Nat} {Q : Value → Shared → Prop} (F : Fr g L s.heap m) (hb : Base w g rows deep n M dp) (hz : n ≤ 900) (h : ∀ t, Q (.int (n : Int) t) { s with toks := s.toks + 1 + 1 }) : wpAny (model PG w) A (call (.builtin "len") [.ref rows]) Q E s := by
  obtain ⟨rv, k, hr, hl, _⟩ := hb.tRows
  refine lenG F hr (by omega) fun t => ?_
  rw [hl]; exact h t
theorem topC {a : Addr} {hv0 : List Value} {value slice : PySem.Expr} {t : Tok} {Q : Value → Shared → Prop} (N : News g L s.heap W) (ci : CI w W CE lh lc told sa rl num as ks (.ref a :: hv0) cv H C S) (hz : H.length ≤ 900) (h : Q (.ref a) s)
    (hs : subscripted slice false (.ref lh) (.int 0 t) = operate [.ref lh, .int 0 t] (getItem (.ref lh) (.int 0 t)) := by with_unfolding_all rfl) (hg : ∀ r, letTemporaryGo value (.ref lh) r = pure () := by intro _; with_unfolding_all rfl) :
    wpAny (model PG w) A (subscriptTail value slice (.ref lh) (.int 0 t)) Q E s := by
  obtain ⟨n, hp⟩ := ci.hp
  have hl := ci.hH.length
  refine getL N (look_mem hp) (Int.le_refl 0) (by simp) (by omega) (fun v hv' => ?_) hs hg
  simp at hv'; subst hv'; exact h
theorem itemT {a : Addr} {x y : Value} {value slice : PySem.Expr} {t : Tok} {Q : Value → Shared → Prop} (N : News g L s.heap W) (ha : W.lookup a = some (tupObj [x, y])) (h : Q y s)
    (hs : subscripted slice false (.ref a) (.int 1 t) = operate [.ref a, .int 1 t] (getItem (.ref a) (.int 1 t)) := by with_unfolding_all rfl) :
    wpAny (model PG w) A (subscriptTail value slice (.ref a) (.int 1 t)) Q E s :=
  kba_turn (value' := PySem.Expr.Name (PySem.Str.ofString "_") ⟨0, 0, 0, 0⟩) (fun _ => rfl) (kim_tup (l := [x, y]) (j := 1) N (look_mem ha) rfl rfl (by decide) (by decide) (by rfl) rfl h hs (fun _ => rfl))
theorem appC {y : Nat} {v : Value} {Q : Value → Shared → Prop} (F : Fr g L s.heap m) (N : News g L s.heap W) (ci : CI w W CE lh lc told sa rl num as ks hv cv H C S) (hz : C.length ≤ 900) (hv1 : HV num as W [v] [y])
    (h : ∀ h' W' cv', Fr g L h' m → News g L h' W' → CI w W' CE lh lc told sa rl num as ks hv cv' H (C ++ [y]) S → Q .none { s with heap := h' }) : wpAny (model PG w) A (call (.builtin "list.append") [.ref lc, v]) Q E s := by
  obtain ⟨n, hc⟩ := ci.co
  refine appL F N (by rw [ci.hC.length]; omega) (upd_put ci.nd hc) fun h' F' N' => ?_
  refine h h' _ (cv ++ [v]) F' N' (ci.setCo ?_)
  have : ∀ {vs : List Value} {xs : List Nat}, HV num as W vs xs → HV num as W (vs ++ [v]) (xs ++ [y]) := by
    intro vs xs hx
    induction hx with
    | nil => exact hv1
    | cons h1 h2 _ ih => exact .cons h1 h2 ih
  exact this ci.hC
theorem CI.push {a : Addr} {o : Obj} (ci : CI w W CE lh lc told sa rl num as ks hv cv H C S) (hn : ∀ p ∈ W, p.1 ≠ a) : CI w ((a, o) :: W) CE lh lc told sa rl num as ks hv cv H C S :=
  ci.std (by
    rw [List.map_cons, List.nodup_cons]
    exact ⟨fun hm => by obtain ⟨p, hp, e⟩ := List.mem_map.mp hm; exact hn p hp e, ci.nd⟩) (Std.refl.cons hn)
theorem CI.pair {a : Addr} {x : Nat} {t t' : Tok} (ci : CI w W CE lh lc told sa rl num as ks hv cv H C S) (hn : ∀ p ∈ W, p.1 ≠ a) : CI w ((a, tupObj [.int (num x : Int) t, .int (x : Int) t']) :: W) CE lh lc told sa rl num ((a, x) :: as) ks hv cv H C S := by
  have ha : ∀ b y, as.lookup b = some y → ((a, x) :: as).lookup b = some y := fun b y e => as_cons e fun q => by
    obtain ⟨_, _, hu⟩ := ci.ak b y e
    exact hn _ (look_mem hu) q
  refine (ci.push hn).grow ha fun b y e => ?_
  rw [List.lookup_cons] at e
  by_cases q : b = a
  · subst q
    have e' : some x = some y := by simpa using e
    cases e'
    exact ⟨_, _, by rw [look_cons, if_pos rfl]⟩
  · have : (b == a) = false := by simpa using q
    rw [this] at e
    obtain ⟨t1, t2, hu⟩ := ci.ak b y e
    exact ⟨t1, t2, by rw [look_cons, if_neg q]; exact hu⟩
inductive HP (as : List (Addr × Nat)) : List Value → List Nat → Prop
  | nil : HP as [] []
  | cons {a : Addr} {x : Nat} {vs : List Value} {xs : List Nat} : as.lookup a = some x → HP as vs xs → HP as (.ref a :: vs) (x :: xs)
theorem HP.mono {as' : List (Addr × Nat)} {vs : List Value} {xs : List Nat} (h : HP as vs xs) (ha : ∀ a x, as.lookup a = some x → as'.lookup a = some x) : HP as' vs xs := by
  induction h with
  | nil => exact .nil
  | cons h1 _ ih => exact .cons (ha _ _ h1) ih
theorem HP.append {vs vs' : List Value} {xs xs' : List Nat} (h : HP as vs xs) (k : HP as vs' xs') : HP as (vs ++ vs') (xs ++ xs') := by
  induction h with
  | nil => exact k
  | cons h1 _ ih => exact .cons h1 ih
theorem HP.length {vs : List Value} {xs : List Nat} (h : HP as vs xs) : vs.length = xs.length := by
  induction h with
  | nil => rfl
  | cons _ _ ih => simp [ih]
theorem HP.at {vs : List Value} {xs : List Nat} (h : HP as vs xs) : ∀ {i : Nat} {v : Value}, vs[i]? = some v → ∃ a x, v = .ref a ∧ xs[i]? = some x ∧ as.lookup a = some x := by
  induction h with
  | nil => intro i v hv; simp at hv
  | cons h1 _ ih =>
    intro i v hv
    cases i with
    | zero => simp at hv; subst hv; refine ⟨_, _, rfl, rfl, h1⟩
    | succ i => simp at hv; simpa using ih hv
theorem HP.split {vs : List Value} {xs : List Nat} (h : HP as vs xs) : (vs = [] ∧ xs = []) ∨ ∃ b x vs0 xs0, vs = .ref b :: vs0 ∧ xs = x :: xs0 ∧ as.lookup b = some x ∧ HP as vs0 xs0 := by
  cases h with
  | nil => exact .inl ⟨rfl, rfl⟩
  | cons h1 h2 => exact .inr ⟨_, _, _, _, rfl, rfl, h1, h2⟩
theorem headL {D : Addr} {v : Value} {vs : List Value} {n : Nat} {value slice : PySem.Expr} {t : Tok} {Q : Value → Shared → Prop} (N : News g L s.heap W) (hl : W.lookup D = some (listOf (v :: vs).toArray n)) (hz : vs.length ≤ 900) (h : Q v s)
    (hs : subscripted slice false (.ref D) (.int 0 t) = operate [.ref D, .int 0 t] (getItem (.ref D) (.int 0 t)) := by with_unfolding_all rfl) (hg : ∀ r, letTemporaryGo value (.ref D) r = pure () := by intro _; with_unfolding_all rfl) :
    wpAny (model PG w) A (subscriptTail value slice (.ref D) (.int 0 t)) Q E s := by
  refine getL N (look_mem hl) (Int.le_refl 0) (by simp) (by simp; omega) (fun v' hv' => ?_) hs hg
  simp at hv'; subst hv'; exact h
theorem as_head {a : Addr} {x : Nat} : ((a, x) :: as).lookup a = some x := by rw [List.lookup_cons]; simp
theorem CI.alien {b : Addr} {o : Obj} (ci : CI w W CE lh lc told sa rl num as ks hv cv H C S) (hb : W.lookup b = some o) (hc : o.cls ≠ .type "list" ∧ o.cls ≠ .type "dict") (hn : ¬ SAddr S b) : CI w W ((b, o) :: CE) lh lc told sa rl num as ks hv cv H C S := by
  obtain ⟨n, hp⟩ := ci.hp
  obtain ⟨n', co⟩ := ci.co
  obtain ⟨o', td, hto⟩ := ci.td
  refine ci.add hb (fun q => ?_) (fun q => ?_) (fun q => ?_) hn
  · rw [q, hp] at hb; cases hb; exact hc.1 rfl
  · rw [q, co] at hb; cases hb; exact hc.1 rfl
  · rw [q, td] at hb; cases hb; exact hc.2 hto.cls
theorem Srt.alien {b : Addr} {xs : Array Value} {o : Obj} (hS : Srt w W S) (hb : W.lookup b = some o) (hd : o.data = .fields xs) : ¬ SAddr S b := fun q => by
  have key : ∀ o' : Obj, W.lookup b = some o' → (∀ xs, o'.data ≠ .fields xs) → False := fun o' e' hc => by rw [hb] at e'; cases e'; exact hc _ hd
  rcases q with rfl | rfl | rfl | q | ⟨x, hx, rfl | rfl | rfl⟩
  · exact key _ hS.obj (fun _ e => nomatch e)
  · obtain ⟨es, n, t1, t2, hd, A⟩ := hS.ats; exact key _ hd (fun _ e => nomatch e)
  · obtain ⟨o, ho, es, ep, hc, hdd, _⟩ := hS.inf
    exact key _ ho (fun _ e => by rw [hdd] at e; cases e)
  · obtain ⟨vs, n, hl, hv⟩ := hS.rdy b q; exact key _ hl (fun _ e => nomatch e)
  · obtain ⟨r, r', hy'⟩ := hS.info x hx; exact key _ hy' (fun _ e => nomatch e)
  · obtain ⟨vs, n, hl, hv⟩ := hS.suc x hx; exact key _ hl (fun _ e => nomatch e)
  · exact key _ (hS.dd x hx) (fun _ e => nomatch e)
theorem CI.iter {b l : Addr} {T : String} {i : Nat} {o : Obj} (ci : CI w W CE lh lc told sa rl num as ks hv cv H C S) (hb : W.lookup b = some o) (hi : IterAt T l i o) (hT : T ≠ "list" ∧ T ≠ "dict") : CI w W ((b, o) :: CE) lh lc told sa rl num as ks hv cv H C S :=
  ci.alien hb ⟨by rw [hi.1]; intro q; cases q; exact hT.1 rfl, by rw [hi.1]; intro q; cases q; exact hT.2 rfl⟩ (ci.srt.alien hb hi.2)
theorem CI.tup {b : Addr} {us : List Value} (ci : CI w W CE lh lc told sa rl num as ks hv cv H C S) (hb : W.lookup b = some (tupObj us)) : CI w W ((b, tupObj us) :: CE) lh lc told sa rl num as ks hv cv H C S :=
  ci.alien hb ⟨by simp, by simp⟩ fun q => ci.srt.kinds q hb rfl
theorem cutOne {v : Value} {vs : List Value} : kms_pick (v :: vs) (some 1) none = vs := by
  simp [kms_pick, kms_lo, kms_hi]
theorem tailL {D : Addr} {v : Value} {vs : List Value} {n : Nat} {value slice : PySem.Expr} {t : Tok} {Q : Value → Shared → Prop} (F : Fr g L s.heap m) (N : News g L s.heap W) (hl : W.lookup D = some (listOf (v :: vs).toArray n)) (hz : vs.length ≤ 900)
    (h : ∀ D2 h', Fr g L h' m → News g L h' ((D2, listOf vs.toArray 0) :: W) → (∀ p ∈ W, p.1 < D2) → Q (.ref D2) { s with heap := h' })
    (hs : subscripted slice false (.ref D) (.ref s.heap.objs.size) = operate [.ref s.heap.objs.size, .ref D] (getItem (.ref D) (.ref s.heap.objs.size)) := by with_unfolding_all rfl) (ht : ∀ r, letTemporaryGo value (.ref D) r = pure () := by intro _; with_unfolding_all rfl) :
    wpAny (model PG w) A (subscriptTail value slice (.ref D) (.ref s.heap.objs.size)) Q E { s with heap := s.heap.push { cls := .type "slice", data := .fields #[.int 1 t, .none, .none] } } :=
  kms_slice_lit F N (its := (v :: vs).toArray) ⟨_, nget N hl, rfl, n, rfl⟩ (.int 1 t) .none cutOne h hs ht (by rw [List.size_toArray, List.length_cons]; exact sz_ok (by omega))
theorem neNil0 {a b : Addr} {k k2 : Nat} {Q : Value → Shared → Prop} (F : Fr g L s.heap m) (N : News g L s.heap ((b, listOf #[] k2) :: W)) (ha : W.lookup a = some (listOf ([] : List Value).toArray k)) (hu : A.units < cLine) (h : Fr g L s.heap m → News g L s.heap W → Q (.bool false) s) : wpAny (model PG w) A (compareOp .NotEq (.ref a) (.ref b)) Q E s :=
  have N' : News g L s.heap W := fun p hp => N p (.tail _ hp)
  neNil (nget N' ha) (N _ (.head _)).1 hu (h F N')
theorem neNil1 {a b : Addr} {v : Value} {vs : List Value} {k k2 : Nat} {Q : Value → Shared → Prop} (F : Fr g L s.heap m) (N : News g L s.heap ((b, listOf #[] k2) :: W)) (ha : W.lookup a = some (listOf (v :: vs).toArray k)) (hu : A.units < cLine) (h : Fr g L s.heap m → News g L s.heap W → Q (.bool true) s) : wpAny (model PG w) A (compareOp .NotEq (.ref a) (.ref b)) Q E s :=
  have N' : News g L s.heap W := fun p hp => N p (.tail _ hp)
  neNil (nget N' ha) (N _ (.head _)).1 hu (h F N')
theorem eqNil0 {a b : Addr} {k k2 : Nat} {Q : Value → Shared → Prop} (F : Fr g L s.heap m) (N : News g L s.heap ((b, listOf #[] k2) :: W)) (ha : W.lookup a = some (listOf ([] : List Value).toArray k)) (hu : A.units < cLine) (h : Fr g L s.heap m → News g L s.heap W → Q (.bool true) s) : wpAny (model PG w) A (compareOp .Eq (.ref a) (.ref b)) Q E s :=
  have N' : News g L s.heap W := fun p hp => N p (.tail _ hp)
  eqNil (nget N' ha) (N _ (.head _)).1 hu (h F N')
theorem eqNil1 {a b : Addr} {v : Value} {vs : List Value} {k k2 : Nat} {Q : Value → Shared → Prop} (F : Fr g L s.heap m) (N : News g L s.heap ((b, listOf #[] k2) :: W)) (ha : W.lookup a = some (listOf (v :: vs).toArray k)) (hu : A.units < cLine) (h : Fr g L s.heap m → News g L s.heap W → Q (.bool false) s) : wpAny (model PG w) A (compareOp .Eq (.ref a) (.ref b)) Q E s :=
  have N' : News g L s.heap W := fun p hp => N p (.tail _ hp)
  eqNil (nget N' ha) (N _ (.head _)).1 hu (h F N')
theorem HV.split {vs : List Value} {xs : List Nat} (h : HV num as W vs xs) : (vs = [] ∧ xs = []) ∨ ∃ a y t t' vs0 xs0, vs = .ref a :: vs0 ∧ xs = y :: xs0 ∧ as.lookup a = some y ∧ W.lookup a = some (tupObj [.int (num y : Int) t, .int (y : Int) t']) := by
  cases h with
  | nil => exact .inl ⟨rfl, rfl⟩
  | cons h1 h2 _ => exact .inr ⟨_, _, _, _, _, _, rfl, rfl, h1, h2⟩
theorem methDnC {pl : Sem Bool} {mQ : Value × List Value → Shared → Prop} (F : Fr g L s.heap m) (X : (hd.heap_1 w.params).In g) (N : News g L s.heap W) (ci : CI w W CE lh lc told sa rl num as ks hv cv H C S) (h : mQ (.ref 155, [.ref sa]) s) : wpAny (model PG w) A (getMethod (.ref sa) "done" pl) mQ E s := methDn F X N ci.srt ci.sid h
theorem methGrC {pl : Sem Bool} {mQ : Value × List Value → Shared → Prop} (F : Fr g L s.heap m) (X : (hd.heap_1 w.params).In g) (N : News g L s.heap W) (ci : CI w W CE lh lc told sa rl num as ks hv cv H C S) (h : mQ (.ref 134, [.ref sa]) s) : wpAny (model PG w) A (getMethod (.ref sa) "get_ready" pl) mQ E s := methGr F X N ci.srt ci.sid h
theorem methApC {pl : Sem Bool} {mQ : Value × List Value → Shared → Prop} (N : News g L s.heap W) (ci : CI w W CE lh lc told sa rl num as ks hv cv H C S) (h : mQ (.builtin "list.append", [.ref lc]) s) : wpAny (model PG w) A (getMethod (.ref lc) "append" pl) mQ E s := by
  obtain ⟨n, hc⟩ := ci.co
  exact Calls.getMethod_list_append (nget N hc) rfl rfl h
end
theorem kl_zj_tree : True := by
  k_with "lia" => ((fail_if_success k_extra "zj_tree"); lia)
  trivial
/-! the forest, plain -/
noncomputable def wl (p pl : Nat) : Nat → Nat → List Nat → Nat × List Nat
  | 0, l, ks => (l, ks)
  | f + 1, l, ks => if l % p = 0 then wl p pl f (l / p) (ks ++ [pl]) else (l, ks)
noncomputable def pr4 (i : Nat) : Nat := [2, 3, 5, 7].getD i 1
noncomputable def stk (num : Nat) : Nat → Nat × List Nat
  | 0 => (num, [])
  | i + 1 => wl (pr4 i) (i + 1) 4 (stk num i).1 (stk num i).2
theorem stk_ok : ∀ num : Fin 11, 1 ≤ num.1 → ∀ i : Fin 5, 1 ≤ (stk num.1 i.1).1 ∧ (stk num.1 i.1).1 ≤ 10 ∧ (stk num.1 i.1).2.length ≤ 4 := by decide +kernel
theorem stk_ok2 {num i : Nat} (h10 : num ≤ 10) (h1 : 1 ≤ num) (hi : i ≤ 4) : 1 ≤ (stk num i).1 ∧ (stk num i).1 ≤ 10 ∧ (stk num i).2.length ≤ 4 := stk_ok ⟨num, by omega⟩ h1 ⟨i, by omega⟩
noncomputable def kidName (nm : Str) (i : Nat) : Str := nm ++ Str.ofString "." ++ PySem.Txt.mul (Str.ofString "a") ((i : Int) + 1)
noncomputable def kids (tu : Bool) (num : Nat) : List Nat := if tu then (stk num 4).2.reverse else (stk num 4).2
noncomputable def plant : Nat → Bool → Nat → Str → List (Str × Nat)
  | 0, _, num, nm => [(nm, num)]
  | f + 1, tu, num, nm => ((List.range (kids tu num).length).flatMap fun i => plant f tu ((kids tu num).getD i 0) (kidName nm i)) ++ [(nm, num)]
theorem kids_ok0 : ∀ num : Fin 11, 1 ≤ num.1 → ∀ c ∈ (stk num.1 4).2, 1 ≤ c ∧ c < num.1 := by decide +kernel
theorem kids_ok {tu : Bool} {num c : Nat} (h10 : num ≤ 10) (h1 : 1 ≤ num) (hc : c ∈ kids tu num) : 1 ≤ c ∧ c < num := by
  refine kids_ok0 ⟨num, by omega⟩ h1 c ?_
  unfold kids at hc
  split at hc
  · exact List.mem_reverse.mp hc
  · exact hc
theorem kz_zj_tree : True := by
  k_with "zj_tree" => skip
  trivial
theorem kl_zj_wh : True := by
  k_with "lia" => ((fail_if_success k_extra "zj_wh"); lia)
  trivial
/-! the course's while loop, plain -/
theorem Mid.perm {n : Nat} {M : Nat → Nat → Bool} {S : SS} {C H H' : List Nat} (m : Mid n M S C H) (p : H.Perm H') : Mid n M S C H' :=
  ⟨m.nodes, m.snd, m.suc, fun x hx => ⟨(m.cn x hx).1, fun h => (m.cn x hx).2 (p.mem_iff.mpr h)⟩, fun x hx => m.hn x (p.mem_iff.mpr hx), m.npC, fun x hx => m.npH x (p.mem_iff.mpr hx), fun y hy hC hH => m.np y hy hC fun h => hH (p.mem_iff.mp h),
    fun y => (m.rd y).trans ⟨fun h => ⟨h.1, h.2.1, fun q => h.2.2.1 (p.mem_iff.mpr q), h.2.2.2⟩, fun h => ⟨h.1, h.2.1, fun q => h.2.2.1 (p.mem_iff.mp q), h.2.2.2⟩⟩, m.rnd, fun x hx => m.hbel x (p.mem_iff.mpr hx), m.cbel⟩
structure Wh (n : Nat) (M : Nat → Nat → Bool) (num : Nat → Nat) (S : SS) (C H ks : List Nat) (S' : SS) : Prop where
  mid : Mid n M S' C H
  rd : S'.ready = []
  hnd : H.Nodup
  cnd : C.Nodup
  giv : Given n num C
  same : SameN S S'
  ksm : ∀ y, y ∈ ks ↔ y ∈ C ∨ y ∈ H
  knd : ks.Nodup
  po : S'.po = S'.nf + H.length
section
variable {n : Nat} {M : Nat → Nat → Bool} {dp num : Nat → Nat} {S S' : SS} {C H ks : List Nat}
theorem Wh.len (h : Wh n M num S C H ks S') : C.length + H.length ≤ n := by
  rw [← List.length_append]
  refine nd_len n _ ?_ fun x hx => ?_
  · rw [List.nodup_append]
    exact ⟨h.cnd, h.hnd, fun a ha b hb e => (h.mid.cn a ha).2 (e ▸ hb)⟩
  · rcases List.mem_append.mp hx with hx | hx
    · exact (h.mid.cn x hx).1
    · exact h.mid.hn x hx
theorem Wh.klen (h : Wh n M num S C H ks S') : ks.length ≤ n := nd_len n _ h.knd fun x hx => by
  rcases (h.ksm x).mp hx with hx | hx
  · exact (h.mid.cn x hx).1
  · exact h.mid.hn x hx
theorem Wh.start (hM : Mid n M S [] []) (hpo : S.po = S.nf) (p : S.ready.Perm H) : Wh n M num S [] H S.ready (readyS S) := by
  refine ⟨hM.pass.perm p, rfl, p.nodup_iff.mp hM.rnd, .nil, Given.nil, ready_same S, fun y => ?_, hM.rnd, ?_⟩
  · rw [p.mem_iff]; simp
  · rw [(ready_count S).1, (ready_count S).2, p.length_eq, hpo]
structure Fresh (n : Nat) (M : Nat → Nat → Bool) (ks : List Nat) (y : Nat) (S2 : SS) : Prop where
  nd : S2.ready.Nodup
  lt : ∀ x ∈ S2.ready, x < n
  nk : ∀ x ∈ S2.ready, x ∉ ks
  bel : ∀ x ∈ S2.ready, ∀ z, Bel n M z x → z ∈ ks
theorem Wh.fresh {y : Nat} {H0 : List Nat} (h : Wh n M num S C (y :: H0) ks S') : Mid n M (doneS S' y) (C ++ [y]) H0 ∧ Fresh n M ks y (doneS S' y) := by
  have m := h.mid.done h.hnd h.rd (.head _)
  rw [List.erase_cons_head] at m
  refine ⟨m, m.rnd, fun x hx => ((m.rd x).mp hx).1, fun x hx q => ?_, fun x hx z hz => ?_⟩
  · have r := (m.rd x).mp hx
    rcases (h.ksm x).mp q with q | q
    · exact r.2.1 (List.mem_append_left _ q)
    · rcases List.mem_cons.mp q with rfl | q
      · exact r.2.1 (List.mem_append_right _ (.head _))
      · exact r.2.2.1 q
  · have r := rest_nil.mp ((m.rd x).mp hx).2.2.2 z hz
    refine (h.ksm z).mpr ?_
    rcases List.mem_append.mp r with r | r
    · exact .inl r
    · rw [List.mem_singleton] at r; subst r; exact .inr (.head _)
theorem Wh.next {y : Nat} {H0 H' : List Nat} (tr : Tree n M dp num) (h : Wh n M num S C (y :: H0) ks S') (top : ∀ z ∈ (y :: H0), z ≠ y → klt (kx num y) (kx num z) = true) (p : (H0 ++ (doneS S' y).ready).Perm H') :
    Wh n M num S (C ++ [y]) H' (ks ++ (doneS S' y).ready) (readyS (doneS S' y)) := by
  obtain ⟨m, f⟩ := h.fresh
  have hc := done_count S' y
  have hr := ready_count (doneS S' y)
  refine ⟨m.pass.perm p, rfl, p.nodup_iff.mp ?_, ?_, Given.step tr h.mid h.rd h.giv (.head _) top, h.same.trans ((done_same S' y).trans (ready_same _)), fun z => ?_, ?_, ?_⟩
  · rw [List.nodup_append]
    exact ⟨(List.nodup_cons.mp h.hnd).2, f.nd, fun a ha b hb e => ((m.rd b).mp hb).2.2.1 (e ▸ ha)⟩
  · rw [List.nodup_append]
    refine ⟨h.cnd, by simp, fun a ha b hb e => ?_⟩
    rw [List.mem_singleton] at hb
    exact (h.mid.cn a ha).2 (by rw [e, hb]; exact .head _)
  · rw [← p.mem_iff, List.mem_append, h.ksm, List.mem_append, List.mem_append, List.mem_cons, List.mem_singleton]
    constructor
    · rintro ((a | a | a) | a)
      · exact .inl (.inl a)
      · exact .inl (.inr a)
      · exact .inr (.inl a)
      · exact .inr (.inr a)
    · rintro ((a | a) | a | a)
      · exact .inl (.inl a)
      · exact .inl (.inr (.inl a))
      · exact .inl (.inr (.inr a))
      · exact .inr a
  · rw [List.nodup_append]
    exact ⟨h.knd, f.nd, fun a ha b hb e => f.nk b hb (e ▸ ha)⟩
  · have := p.length_eq
    rw [List.length_append] at this
    have h1 := h.po
    rw [List.length_cons] at h1
    rw [hr.1, hr.2, hc.1, hc.2]
    omega
end
theorem kz_zj_wh : True := by
  k_with "zj_wh" => skip
  trivial
/-! a for loop whose target is a tuple -/
section
variable {w : World} {A : Around} {E : Value → Shared → Prop} {s : Shared} {g : Heap} {L : Addr} {env : Env} {target : PySem.Expr} {body : List Stmt}
theorem goList {l : Addr} {elts : List PySem.Expr} {x1} {pos : Pos} (s : Shared) (Q : Unit → Shared → Prop) (E : Value → Shared → Prop) (i : Nat) (it : Addr) (o : Obj) (T : Addr) (ho : s.heap.get? it = some o) (hi : IterAt "list_iterator" l i o) (h : Q () s) :
    wpAny (model PG w) A (letOwnedTupleGo (.Tuple elts x1 pos) (.ref it) (.ref T)) Q E s := wpAny_letOwnedTupleGo_listiter ⟨o, ho, hi.1, hi.2⟩ h
theorem unpT {m : Str → Option Value} {W : List (Addr × Obj)} {elts : List PySem.Expr} {x1} {pos : Pos} {t : Addr} {vs : List Value} {Q : Unit → Shared → Prop} (F : Fr g L s.heap m) (N : News g L s.heap W) (hh : A.handled = none) (ht : W.lookup t = some (tupObj vs))
    (h : ∀ h', Fr g L h' m → News g L h' W → wpAny (model PG w) A (assignInOrder ((assignEach elts env).map (·.2)) vs) Q E { s with heap := h' })
    (hn : (assignEach elts env).length = vs.length) (hstar : (assignEach elts env).findIdx? (·.1) = none) :
    wpAny (model PG w) A (assign (.Tuple elts x1 pos) env (.ref t)) Q E s :=
  wpAny_assign_Tuple hh ⟨_, nget N ht, rfl, 0, rfl⟩ hn hstar fun h' hk =>
    have kp : ∀ b o, s.heap.get? b = some o → h'.get? b = some o := fun b o e => hk b o (Nat.ne_of_lt (Heap.lt_size e)) e
    h h' (F.keptAll kp) (N.keepsAll kp)
end
/-! a comprehension whose list is stored by the statement itself -/
section
variable {w : World} {A : Around} {E : Value → Shared → Prop} {s : Shared} {g : Heap} {L : Addr} {env : Env}
theorem assignComp {elt iter : PySem.Expr} {x y : Str} {px py : Pos} {ifs : List PySem.Expr} {scope : Scope} {cl : List (Str × Addr)} {pos spos : Pos} {Q : Flow → Shared → Prop}
    (hsw : swapsWith (.ListComp elt [⟨.Name x px, iter, ifs, 0⟩] scope pos) (some (.Name y py)) spos.line env = pure true)
    (hclos : closureFor scope env = pure cl) (hkind : scope.kind = .function) (hnames : ∀ z ∈ scope.names, z.2 = .local → scope.names.lookup z.1 = some .local)
    (h : wpAny (model PG w) A (eval iter env) (fun xv s₁ => wpAny (model PG w) A (pyIter xv) (fun it s₂ => wpAny (model PG w) A (newList []) (fun acc s₃ => wpAny (model PG w) A (newFunctionEnv scope env.globals cl [] env.qual none .none (some env)) (fun cenv s₄ =>
      codeAny (model PG w) A (.compStart (.ListComp elt [⟨.Name x px, iter, ifs, 0⟩] scope pos) 0 it acc { cenv with scope := relabel scope env }) (compPost (model PG w) A E (some (assign (.Name y py) env)) (fun _ s' => Q .next s') acc cenv.locals) s₄) E s₃) E s₂) E s₁) E s)
    (hs : ∀ x, foldedSetIterable iter env x = pure x := by intro _; rfl) :
    wpAny (model PG w) A (exec (.Assign [.Name y py] (.ListComp elt [⟨.Name x px, iter, ifs, 0⟩] scope pos) spos) env) Q E s := by
  rw [exec_Assign_Name_used _ _ _ _ hsw]
  refine wpAny_bind (wpAny_standAt (wpAny_bind ?_))
  show wpAny _ A (do let _ ← comprehension (.ListComp elt [⟨.Name x px, iter, ifs, 0⟩] scope pos) scope env _ (newList []) false (eval iter env) (some (assign (.Name y py) env))) _ _ s
  exact wpAny_bind (wpAny_mono (wpAny_comprehension_free (use := some (assign (.Name y py) env)) (Q := fun _ s' => Q .next s') rfl hs hclos hkind hnames h) (fun _ s' hq => wpAny_pure (wpAny_pure hq)) fun _ _ e => e)
theorem compGenU {K : Obj → Prop} {xv : Value} {T : String} {n : Nat} {H : Heap → Prop} {IT : Nat → Obj → Prop} {It : Nat → Value → Prop} (I : Iter w A xv T n H IT It) {fl : List (Str × Option Value)} {W0 : List (Addr × Obj)}
    {elt iter : PySem.Expr} {x : Str} {px : Pos} {ifs : List PySem.Expr} {scope : Scope} {cl : List (Str × Addr)} {pos : Pos} {Q : Shared → Prop} {y : Str} {py : Pos} {cn : Str} {cs : Scope} {fa : Addr} {ccd : Value} {ecl : List (Str × Addr)} {fl' : Addr → List (Str × Option Value)} (J : Nat → List Value → List (Addr × Obj) → Prop)
    (hself : ∀ (s : Shared) (Q : Value → Shared → Prop) (E : Value → Shared → Prop) (it : Addr) (o : Obj), s.heap.get? it = some o → IT 0 o → Q (.ref it) s → wpAny (model PG w) A (pyIter (.ref it)) Q E s)
    (ndfl : (fl.map (·.1)).Nodup) (ns : (cs.names.map (·.1)).Nodup) (hset : ∀ D, FvSet y (.ref D) fl (fl' D)) (hky : (y, NameKind.local) ∈ cs.names) (hkc : cs.kind = .function)
    (hh : A.handled = none) (hcell : ∀ y ∈ scope.names, y.2 ≠ .cell) (hkind : scope.kind = .function) (hx : scope.names.lookup x = some .local) (hn : n ≤ 900)
    (F0 : Fr g L s.heap (fv fl)) (N0 : News g L s.heap W0) (nd0 : (W0.map (·.1)).Nodup)
    (hlist : ∀ i vs W h, J i vs W → Fr g L h (fv fl) → News g L h W → H h) (h0 : J 0 [] W0)
    (hK : (∀ i o, IT i o → ¬ K o) ∧ (∀ vs n, ¬ K (listOf vs n)) ∧ ∀ o m, NsOf o m → ¬ K o)
    (hst : ∀ it D C, (∀ p ∈ W0, p.1 ≠ it ∧ p.1 ≠ D ∧ p.1 ≠ C) → ∀ i vs W W', (W'.map (·.1)).Nodup → (∀ b o, K o ∨ (b ≠ it ∧ b ≠ D ∧ b ≠ C) → W.lookup b = some o → W'.lookup b = some o) → J i vs W → J i vs W')
    (turn : ∀ i v vs W h tk it o D nD C oC m, i < n → It i v → J i vs W → vs.length ≤ i → Fr g L h (fv fl) → News g L h W → (W.map (·.1)).Nodup → (∀ p ∈ W0, p.1 ≠ it ∧ p.1 ≠ D ∧ p.1 ≠ C) → W.lookup it = some o → W.lookup D = some (listOf vs.toArray nD) → W.lookup C = some oC → NsOf oC m → m x = some v →
      wpAny (model PG w) A (forIn ifs true fun c r => if r = true then do let ok ← isTrue c (compEnvC scope cl C (envX cn cs L fa ccd ecl)) (eval c (compEnvC scope cl C (envX cn cs L fa ccd ecl))); pure (ForInStep.yield ok) else pure (ForInStep.yield r))
        (fun ok s₃ => if ok = true then wpAny (model PG w) A (eval elt (compEnvC scope cl C (envX cn cs L fa ccd ecl))) (fun y s₄ => CompQ g L fl J (i + 1) (vs ++ [y]) it o D (listOf vs.toArray nD) C s s₄) (fun _ _ => False) s₃
          else CompQ g L fl J (i + 1) vs it o D (listOf vs.toArray nD) C s s₃) (fun _ _ => False) { s with heap := h, toks := tk })
    (done : ∀ vs W h tk D nD, J n vs W → Fr g L h (fv (fl' D)) → News g L h W → (W.map (·.1)).Nodup → W.lookup D = some (listOf vs.toArray nD) → (∀ p ∈ W0, p.1 ≠ D) → ((fl' D).map (·.1)).Nodup → Q { s with heap := h, toks := tk }) :
    wpAny (model PG w) A (pyIter xv) (fun it s₂ => wpAny (model PG w) A (newList []) (fun acc s₃ => wpAny (model PG w) A (newFunctionEnv scope (envX cn cs L fa ccd ecl).globals cl [] (envX cn cs L fa ccd ecl).qual none .none (some (envX cn cs L fa ccd ecl))) (fun cenv s₄ =>
      codeAny (model PG w) A (.compStart (.ListComp elt [⟨.Name x px, iter, ifs, 0⟩] scope pos) 0 it acc { cenv with scope := relabel scope (envX cn cs L fa ccd ecl) }) (compPost (model PG w) A E (some (assign (.Name y py) (envX cn cs L fa ccd ecl))) (fun _ s' => Q s') acc cenv.locals) s₄) E s₃) E s₂) E s := by
  refine compCore I (compPost (model PG w) A E (some (assign (.Name y py) (envX cn cs L fa ccd ecl))) (fun _ s' => Q s')) J hself hh hcell hkind hx hn F0 N0 nd0 hlist h0 hK hst turn fun vs W h tk D C nD oC m _ j F N nd hlD hlC hm e3 hap => ?_
  show wpAny (model PG w) A (assign (.Name y py) (envX cn cs L fa ccd ecl) (.ref D)) _ _ _
  refine wpAny_assign_Name (stF F N ndfl ns (hset D) hky (fun h2 F2 N2 nd2' => ?_) hkc)
  refine ⟨m, hm.at (nget N2 hlC), fun h3 hs3 => ?_⟩
  obtain ⟨F3, N3, nd3⟩ := dropC F2 N2 nd hlC hs3
  exact done vs _ h3 _ D nD j F3 N3 nd3 (mem_look nd3 (List.mem_filter.mpr ⟨look_mem hlD, decide_eq_true e3⟩)) hap nd2'
end
theorem kl_zf_course : True := by
  k_with "lia" => ((fail_if_success k_extra "zf_course"); lia)
  trivial
section
variable {w : World} {A : Around} {E : Value → Shared → Prop} {s : Shared} {g : Heap} {L C c : Addr} {env : Env} {W : List (Addr × Obj)} {scope : Scope} {cl : List (Str × Addr)} {x : Str} {pos : Pos} {v : Value} {o : Obj} {Q : Value → Shared → Prop}
theorem ldCC (N : News g L s.heap W) (hc : cl.lookup x = some c) (hC : W.lookup c = some o) (hd : o.data = .cell (some v)) (h : Q v s)
    (hk : scope.kind = .function) (hl : (compEnvC scope cl C env).kindOf x = some .cell) (hdb : (x == ("__debug__" : Str)) = false) : wpAny (model PG w) A (eval (.Name x pos) (compEnvC scope cl C env)) Q E s :=
  wpAny_Name (wpAny_loadName_cell (env := compEnvC scope cl C env) (by show scope.kind = _; exact hk) hl hc ⟨o, nget N hC, hd⟩ h) hdb
theorem ldXC {cn : Str} {cs : Scope} {a : Addr} {ccd : Value} (N : News g L s.heap W) (hc : cl.lookup x = some c) (hC : W.lookup c = some o) (hd : o.data = .cell (some v)) (h : Q v s)
    (hk : cs.kind = .function) (hl : (envX cn cs L a ccd cl).kindOf x = some .cell) (hdb : (x == ("__debug__" : Str)) = false) : wpAny (model PG w) A (eval (.Name x pos) (envX cn cs L a ccd cl)) Q E s :=
  wpAny_Name (wpAny_loadName_cell (env := envX cn cs L a ccd cl) hk hl hc ⟨o, nget N hC, hd⟩ h) hdb
end
theorem three_ne (n : Nat) : n + 1 + 1 + 1 ≠ n + 1 + 1 ∧ n + 1 + 1 + 1 ≠ n + 1 ∧ n + 1 + 1 ≠ n + 1 := by omega
theorem three_lt {m n : Nat} (h : m < n) : m ≠ n + 1 + 1 + 1 ∧ m ≠ n + 1 + 1 ∧ m ≠ n + 1 := by omega
theorem nd_three {L : Addr} {ot od orr : Obj} {W : List (Addr × Obj)} (nd : (W.map (·.1)).Nodup) (hlt : ∀ p ∈ W, p.1 < L) : (([(L + 1 + 1 + 1, ot), (L + 1 + 1, od), (L + 1, orr)] ++ W).map (·.1)).Nodup := by
  have z := three_ne L
  refine nd_app ?_ nd fun q hq y hy => ?_
  · rw [List.map_cons, List.nodup_cons, List.map_cons, List.nodup_cons, List.map_cons, List.nodup_cons]
    refine ⟨fun h => ?_, fun h => ?_, nofun, .nil⟩
    · rcases List.mem_cons.mp h with e | h
      · exact z.1 e
      · rw [List.map_nil, List.mem_singleton] at h; exact z.2.1 h
    · rw [List.map_nil, List.mem_singleton] at h; exact z.2.2 h
  · have w := three_lt (hlt y hy)
    rcases List.mem_cons.mp hq with rfl | hq
    · exact w.1
    rcases List.mem_cons.mp hq with rfl | hq
    · exact w.2.1
    rw [List.mem_singleton] at hq; subst hq
    exact w.2.2
theorem not_take {x : Nat} : ∀ {l : List Nat} {i : Nat}, l.Nodup → l[i]? = some x → x ∉ l.take i
  | [], _, _, h => by simp at h
  | a :: l, 0, _, _ => by simp
  | a :: l, i + 1, nd, h => by
    rw [List.nodup_cons] at nd
    rw [List.getElem?_cons_succ] at h
    rw [List.take_succ_cons]
    intro q
    rcases List.mem_cons.mp q with e | q
    · exact nd.1 (e ▸ List.mem_of_getElem? h)
    · exact not_take nd.2 h q
section
theorem kw_zf_course : True := by
  k_with "eval Name" => ((fail_if_success k_extra "zf_course"); k_here; (with_reducible show wpAny _ _ (eval (Expr.Name _ _) (envX _ _ _ _ _ _)) _ _ _); k_dflt (refine' ldXC ?z1 ?z2 ?z3 ?z4 ?_ ?z5 ?z6 ?z7; (case z1 => assumption); (case z2 => rfl); (case z3 => assumption); (case z4 => assumption); (case z5 => rfl); (case z6 => rfl); (case z7 => decide); k_whole))
  k_with "eval Name" => ((fail_if_success k_extra "zf_course"); k_here; (with_reducible show wpAny _ _ (eval (Expr.Name _ _) (compEnvC _ _ _ _)) _ _ _); k_dflt (refine' ldCC ?z1 ?z2 ?z3 ?z4 ?_ ?z5 ?z6 ?z7; (case z1 => assumption); (case z2 => rfl); (case z3 => assumption); (case z4 => assumption); (case z5 => rfl); (case z6 => rfl); (case z7 => decide); k_whole))
  k_with "subscriptTail" => ((fail_if_success k_extra "zf_course"); k_here; k_dflt (refine' tailL ?z1 ?z2 ?z3 ?z4 ?_; (case z1 => assumption); (case z2 => assumption); (case z3 => assumption); (case z4 => omega); k_whole); intro D2 h' F' N' l2; (try dsimp only at F' N'))
  k_with "subscriptTail Name Slice ref ref" => ((fail_if_success k_extra "zf_course"); k_here; k_dflt (refine' tailL ?z1 ?z2 ?z3 ?z4 ?_; (case z1 => assumption); (case z2 => assumption); (case z3 => assumption); (case z4 => omega); k_whole); intro D2 h' F' N' l2; (try dsimp only at F' N'))
  k_with "exec Assign cons ListComp" => ((fail_if_success k_extra "zf_course"); k_here; k_dflt (refine' assignComp ?z1 ?z2 ?z3 ?z4 ?_; (case z1 => with_unfolding_all rfl); (case z2 => with_unfolding_all rfl); (case z3 => rfl); (case z4 => decide); k_whole))
  k_with "compareOp NotEq" => ((fail_if_success k_extra "zf_course"); k_here; k_dflt (first | (refine' neNil0 ?z4 ?z1 ?z2 ?z3 ?_; (case z4 => assumption); (case z1 => assumption); (case z2 => assumption); (case z3 => (show A.units + 3 < cLine; omega)); k_whole) | (refine' neNil1 ?z4 ?z1 ?z2 ?z3 ?_; (case z4 => assumption); (case z1 => assumption); (case z2 => assumption); (case z3 => (show A.units + 3 < cLine; omega)); k_whole)); intro F' N'; (try dsimp only at F' N'))
  k_with "compareOp Eq" => ((fail_if_success k_extra "zf_course"); k_here; k_dflt (first | (refine' eqNil0 ?z4 ?z1 ?z2 ?z3 ?_; (case z4 => assumption); (case z1 => assumption); (case z2 => assumption); (case z3 => (show A.units + 3 < cLine; omega)); k_whole) | (refine' eqNil1 ?z4 ?z1 ?z2 ?z3 ?_; (case z4 => assumption); (case z1 => assumption); (case z2 => assumption); (case z3 => (show A.units + 3 < cLine; omega)); k_whole)); intro F' N'; (try dsimp only at F' N'))
  k_with "call builtin:len" => ((fail_if_success k_extra "zf_course"); k_here; k_dflt (first | (refine' lenC ?z1 ?z2 ?z3 ?_; (case z1 => assumption); (case z2 => assumption); (case z3 => omega); k_whole) | (refine' lenB ?z1 ?z2 ?z3 ?_; (case z1 => assumption); (case z2 => assumption); (case z3 => omega); k_whole)); intro t')
  k_with "getMethod ref" => ((fail_if_success k_extra "zf_course"); k_here; k_dflt (first | (with_reducible show wpAny _ _ (getMethod (Value.ref _) (Str.ofString "get_ready") _) _ _ _); refine' methGrC ?z1 ?z2 ?z3 ?z4 ?_; (case z1 => assumption); (case z2 => assumption); (case z3 => assumption); (case z4 => assumption); k_whole | (with_reducible show wpAny _ _ (getMethod (Value.ref _) (Str.ofString "done") _) _ _ _); refine' methDnC ?z1 ?z2 ?z3 ?z4 ?_; (case z1 => assumption); (case z2 => assumption); (case z3 => assumption); (case z4 => assumption); k_whole | (with_reducible show wpAny _ _ (getMethod (Value.ref _) (Str.ofString "append") _) _ _ _); refine' methApC ?z1 ?z2 ?_; (case z1 => assumption); (case z2 => assumption); k_whole))
  k_with "call builtin:list.append" => ((fail_if_success k_extra "zf_course"); k_here; k_dflt (refine' appC ?z1 ?z2 ?z3 ?z4 ?z5 ?_; (case z1 => assumption); (case z2 => assumption); (case z3 => assumption); (case z4 => omega); (case z5 => assumption); k_whole); intro h' W' cv' F' N' ci'; (try dsimp only at F' N'); (try (have hlD' := ci'.look; dsimp only at hlD')))
  k_with "setItem ref int" => ((fail_if_success k_extra "zf_course"); k_here; k_dflt (refine' tellC ?z1 ?z2 ?z3 ?z4 ?z5 ?_; (case z1 => assumption); (case z2 => assumption); (case z3 => assumption); (case z4 => omega); (case z5 => assumption); k_whole); intro h' W' F' N' ci'; (try dsimp only at F' N'); (try obtain ⟨c1', c2', c3'⟩ := cells ci'.drop.drop))
  k_with "subscriptTail" => ((fail_if_success k_extra "zf_course"); k_here; k_dflt (first | ((with_reducible show wpAny _ _ (subscriptTail _ _ (Value.ref _) (Value.int (Nat.cast _) _)) _ _ _); refine' readC ?z1 ?z2 ?z3 ?_; (case z1 => assumption); (case z2 => assumption); (case z3 => first | assumption | exact List.mem_append_right _ (.head _)); k_whole; intro t') | ((with_reducible show wpAny _ _ (subscriptTail _ _ (Value.ref _) (Value.int 1 _)) _ _ _); refine' itemT ?z1 ?z2 ?_; (case z1 => assumption); (case z2 => assumption); k_whole) | (refine' headL ?z1 ?z2 ?z3 ?_; (case z1 => assumption); (case z2 => assumption); (case z3 => omega); k_whole) | (refine' topC ?z1 ?z2 ?z3 ?_; (case z1 => assumption); (case z2 => assumption); (case z3 => omega); k_whole)))
  trivial
namespace course_ok_
def Q_ (w : World) (A : Around) (s : Shared) (g0 : Heap) (loose : List Str) (mean : ExcName → Option Value) (mg : Str → Option Value) (mb : Str → Option Value) (p : Program) (R : Result → Shared → Prop) (W : List (Addr × Obj)) (S : SS) (rl : Addr) (rows : Addr) (deep : Addr) (told : Addr) (n : Nat) (M : Nat → Nat → Bool) (dp : Nat → Nat) (num : Nat → Nat) (oT : Obj) : Prop := ∀ (X : (hd.heap_1 w.params).In g0) (T : Top p loose mean mg mb g0) (k : g0.StaysIn s.heap) (hh : A.handled = none) (hroom : A.depth ≤ 310) (hun : A.units ≤ 3000) (hW : ∀ p ∈ W, s.heap.get? p.1 = some p.2) (hg : ∀ p ∈ W, g0.get? p.1 = none) (hS : Srt w W S) (hrd : S.rd = some rl) (hB : Base w (hideAll s.heap (W.map (·.1))) rows deep n M dp) (hts : (told == sysModules) = false) (hoT : W.lookup told = some oT) (hT : Told w oT num []) (hnT : ¬ SAddr S told) (tr : Tree n M dp num) (hM : Mid n M S [] []) (hpo : S.po = S.nf) (hR : ∀ h' tk W' lc cv C kc S', (∀ b o, (∀ p ∈ W, p.1 ≠ b) → s.heap.get? b = some o → h'.get? b = some o) → (∀ p ∈ W', h'.get? p.1 = some p.2) → (∀ p ∈ W', p.1 ∈ W.map (·.1) ∨ s.heap.get? p.1 = none) → Srt w W' S' → SameN S S' → S'.po = S'.nf → S'.ready = [] →
      W'.lookup lc = some (listOf cv.toArray kc) → (∃ as, HV num as W' cv C) → C.Pairwise (fun a b => klt (kx num a) (kx num b) = true) → (∀ y, y ∈ C ↔ y < n) → (∃ o ks, W'.lookup told = some o ∧ Told w o num ks ∧ ∀ y, y ∈ ks ↔ y < n) → R (.ok (.ret (.ref lc))) { s with heap := h', toks := tk }), codeAny (model PG w) A (.call (.ref 264) ⟨[.ref rows, .ref deep, .ref S.s, .ref told], []⟩) R s
noncomputable section
def P_ (x : World × Around × Shared × Heap × (List Str) × (ExcName → Option Value) × (Str → Option Value) × (Str → Option Value) × Program × (Result → Shared → Prop) × (List (Addr × Obj)) × SS × Addr × Addr × Addr × Addr × Nat × (Nat → Nat → Bool) × (Nat → Nat) × (Nat → Nat) × Obj) : Prop := Q_ x.1 x.2.1 x.2.2.1 x.2.2.2.1 x.2.2.2.2.1 x.2.2.2.2.2.1 x.2.2.2.2.2.2.1 x.2.2.2.2.2.2.2.1 x.2.2.2.2.2.2.2.2.1 x.2.2.2.2.2.2.2.2.2.1 x.2.2.2.2.2.2.2.2.2.2.1 x.2.2.2.2.2.2.2.2.2.2.2.1 x.2.2.2.2.2.2.2.2.2.2.2.2.1 x.2.2.2.2.2.2.2.2.2.2.2.2.2.1 x.2.2.2.2.2.2.2.2.2.2.2.2.2.2.1 x.2.2.2.2.2.2.2.2.2.2.2.2.2.2.2.1 x.2.2.2.2.2.2.2.2.2.2.2.2.2.2.2.2.1 x.2.2.2.2.2.2.2.2.2.2.2.2.2.2.2.2.2.1 x.2.2.2.2.2.2.2.2.2.2.2.2.2.2.2.2.2.2.1 x.2.2.2.2.2.2.2.2.2.2.2.2.2.2.2.2.2.2.2.1 x.2.2.2.2.2.2.2.2.2.2.2.2.2.2.2.2.2.2.2.2
def x_ := pick (dW, callerA, ({} : Shared), default, default, default, default, default, PG, default, default, (⟨0, 0, 0, none, [], [], 0, 0, fun _ => 0, fun _ => 0, fun _ => 0, fun _ => 0, fun _ => []⟩ : SS), default, default, default, default, default, default, default, default, default) fun x => ¬ P_ x
@[irreducible] def w := x_.1
@[irreducible] def A := x_.2.1
@[irreducible] def s := x_.2.2.1
@[irreducible] def g0 := x_.2.2.2.1
@[irreducible] def loose := x_.2.2.2.2.1
@[irreducible] def mean := x_.2.2.2.2.2.1
@[irreducible] def mg := x_.2.2.2.2.2.2.1
@[irreducible] def mb := x_.2.2.2.2.2.2.2.1
@[irreducible] def p := x_.2.2.2.2.2.2.2.2.1
@[irreducible] def R := x_.2.2.2.2.2.2.2.2.2.1
@[irreducible] def W := x_.2.2.2.2.2.2.2.2.2.2.1
@[irreducible] def S := x_.2.2.2.2.2.2.2.2.2.2.2.1
@[irreducible] def rl := x_.2.2.2.2.2.2.2.2.2.2.2.2.1
@[irreducible] def rows := x_.2.2.2.2.2.2.2.2.2.2.2.2.2.1
@[irreducible] def deep := x_.2.2.2.2.2.2.2.2.2.2.2.2.2.2.1
@[irreducible] def told := x_.2.2.2.2.2.2.2.2.2.2.2.2.2.2.2.1
@[irreducible] def n := x_.2.2.2.2.2.2.2.2.2.2.2.2.2.2.2.2.1
@[irreducible] def M := x_.2.2.2.2.2.2.2.2.2.2.2.2.2.2.2.2.2.1
@[irreducible] def dp := x_.2.2.2.2.2.2.2.2.2.2.2.2.2.2.2.2.2.2.1
@[irreducible] def num := x_.2.2.2.2.2.2.2.2.2.2.2.2.2.2.2.2.2.2.2.1
@[irreducible] def oT := x_.2.2.2.2.2.2.2.2.2.2.2.2.2.2.2.2.2.2.2.2
end
set_option maxHeartbeats 2000000 in
theorem core : Q_ w A s g0 loose mean mg mb p R W S rl rows deep told n M dp num oT := by
  intro X T k hh hroom hun hW hg hS hrd hB hts hoT hT hnT tr hM hpo hR
  have hr1 : A.depth + 100 < recursionLimit := Nat.lt_of_le_of_lt (Nat.add_le_add_right hroom 100) (by decide)
  have hu1 : A.units + 100 < cLine := Nat.lt_of_le_of_lt (Nat.add_le_add_right hun 100) (by decide)
  refine enterC [("rows", .ref rows), ("deep", .ref deep), ("sorter", .ref S.s), ("told", .ref told)] [("sorter", some (.ref S.s)), ("heap", none), ("course", none), ("x", none), ("fresh", none), ("number", none), ("pair", none)] (K := hd.heap_1 w.params) (W := W) X T k hW hg (by k_is) (by k_is) (by omega) (BindsTo.of_eq rfl) ?_ ?_ ?_ ?_ ?_ ?_
  · intro n x hx
    rcases List.mem_cons.mp hx with rfl | hx
    · exact .inr ⟨rfl, rfl⟩
    rcases List.mem_cons.mp hx with rfl | hx
    · exact .inr ⟨rfl, rfl⟩
    rcases List.mem_cons.mp hx with rfl | hx
    · exact .inl rfl
    rw [List.mem_singleton] at hx; subst hx
    exact .inr ⟨rfl, rfl⟩
  · decide +kernel
  · intro L'
    funext y
    show (if y = Str.ofString "sorter" then some (Value.ref S.s) else none) = fv _ y
    simp only [fv]
    split
    · rfl
    · repeat (first | rfl | (split <;> first | rfl | skip))
  · exact of_decide_eq_true (by kernel_rfl)
  · decide +kernel
  intro g' L' h' tk cells st' kp' sub' F' N' Y hlt X' T' nd' ns'
  k_fold
  obtain ⟨ot, od, orr, rfl, d1, d2, d3⟩ := (show CellsAre _ [(Str.ofString "told", L' + 1 + 1 + 1), (Str.ofString "deep", L' + 1 + 1), (Str.ofString "rows", L' + 1)] cells from Y).three
  have d1' : ot.data = .cell (some (.ref told)) := d1
  have d2' : od.data = .cell (some (.ref deep)) := d2
  have d3' : orr.data = .cell (some (.ref rows)) := d3
  clear d1 d2 d3 Y
  have nd1 := nd_three (ot := ot) (od := od) (orr := orr) hS.nd hlt
  generalize hW1 : [(L' + 1 + 1 + 1, ot), (L' + 1 + 1, od), (L' + 1, orr)] ++ W = W1 at N' nd1
  have c1 : W1.lookup (L' + 1 + 1 + 1) = some ot := mem_look nd1 (by rw [← hW1]; exact .head _)
  have c2 : W1.lookup (L' + 1 + 1) = some od := mem_look nd1 (by rw [← hW1]; exact .tail _ (.head _))
  have c3 : W1.lookup (L' + 1) = some orr := mem_look nd1 (by rw [← hW1]; exact .tail _ (.tail _ (.head _)))
  have s1 : Std W W1 := fun b o e => mem_look nd1 (by rw [← hW1]; exact List.mem_append_right _ (look_mem e))
  have hS' := hS.std nd1 s1
  k_steps
  rename_i lh _h2 la _h1 _tk lc _h0 lb
  have hlh : ∀ p ∈ W1, p.1 ≠ lh := fun p hp => Nat.ne_of_lt (la p hp)
  have hlc1 : lh ≠ lc := Nat.ne_of_lt lb.1
  have hlc : ∀ p ∈ W1, p.1 ≠ lc := fun p hp => Nat.ne_of_lt (allLt_mem lb.2 p hp)
  obtain ⟨W2, hW2, N2, nd2, L2, kh, kc⟩ : ∃ W2, ((lc, listOf #[] 0) :: (lh, listOf #[] 0) :: W1) = W2 ∧ News g' L' h' W2 ∧ (W2.map (·.1)).Nodup ∧ Std W1 W2 ∧ W2.lookup lh = some (listOf [].toArray 0) ∧ W2.lookup lc = some (listOf [].toArray 0) := by
    have hb : ∀ p ∈ ((lh, listOf #[] 0) :: W1), p.1 ≠ lc := fun p hp => by
      rcases List.mem_cons.mp hp with rfl | hp
      · exact hlc1
      · exact hlc p hp
    have nd2 : (((lc, listOf #[] 0) :: (lh, listOf #[] 0) :: W1).map (·.1)).Nodup := by
      rw [List.map_cons, List.nodup_cons, List.map_cons, List.nodup_cons]
      refine ⟨fun hm => ?_, fun hm => ?_, nd1⟩
      · rw [← List.map_cons (f := (·.1)) (a := (lh, listOf #[] 0))] at hm
        obtain ⟨p, hp, e⟩ := List.mem_map.mp hm; exact hb p hp e
      · obtain ⟨p, hp, e⟩ := List.mem_map.mp hm; exact hlh p hp e
    refine ⟨_, rfl, N', nd2, (Std.refl.cons hlh).cons hb, mem_look nd2 (.tail _ (.head _)), mem_look nd2 (.head _)⟩
  clear N'
  have N' := N2
  have hS2 : Srt w W2 S := hS'.std nd2 L2
  clear hS' N2
  have hB' : Base w g' rows deep n M dp := hB.keep fun b o e => kp' b o (of_hideAll _ e) fun p hp q => by
    have z := hideAll_none (h := s.heap) _ (List.mem_map_of_mem (f := (·.1)) hp)
    rw [q, e] at z; cases z
  have cT1 : W1.lookup told = some oT := s1 _ _ hoT
  have aps : ∀ b : Addr, (∀ o, (W).lookup b ≠ some o) → ¬ SAddr S b := fun b hb q => by
    obtain ⟨o, e⟩ := hS.has q
    exact hb o e
  have fresh : ∀ b : Addr, (∀ p ∈ W, p.1 ≠ b) → ¬ SAddr S b := fun b hb => aps b fun o e => hb _ (look_mem e) rfl
  have apW1 : ∀ b : Addr, (∀ p ∈ W1, p.1 ≠ b) → ¬ SAddr S b := fun b hb => aps b fun o e => hb _ (look_mem (s1 _ _ e)) rfl
  have ltC : ∀ q ∈ W, q.1 ≠ L' + 1 + 1 + 1 ∧ q.1 ≠ L' + 1 + 1 ∧ q.1 ≠ L' + 1 := fun q hq => three_lt (hlt q hq)
  have cellNe : ∀ c o v, W2.lookup c = some o → o.data = .cell v → c ≠ lh ∧ c ≠ lc := fun c o v e d => ⟨fun q => by (rw [q, kh] at e; cases e; cases d), fun q => by (rw [q, kc] at e; cases e; cases d)⟩
  have toldNe : told ≠ L' + 1 + 1 + 1 ∧ told ≠ L' + 1 + 1 ∧ told ≠ L' + 1 := ltC _ (look_mem hoT)
  have C0 : CI w W2 [(L' + 1 + 1 + 1, ot), (L' + 1 + 1, od), (L' + 1, orr)] lh lc told S.s rl num [] [] [] [] [] [] S := by
    refine ⟨hS2, rfl, hrd, ⟨0, kh⟩, ⟨0, kc⟩, ⟨oT, L2 _ _ cT1, hT⟩, .nil, .nil, fun i a b _ ha => by simp at ha, apW1 _ hlh, apW1 _ hlc, hnT, hlc1, fun p hp => ?_, nofun⟩
    rcases List.mem_cons.mp hp with rfl | hp
    · refine ⟨L2 _ _ c1, (cellNe _ _ _ (L2 _ _ c1) d1').1, (cellNe _ _ _ (L2 _ _ c1) d1').2, toldNe.1.symm, fresh _ fun q hq => (ltC q hq).1⟩
    rcases List.mem_cons.mp hp with rfl | hp
    · refine ⟨L2 _ _ c2, (cellNe _ _ _ (L2 _ _ c2) d2').1, (cellNe _ _ _ (L2 _ _ c2) d2').2, toldNe.2.1.symm, fresh _ fun q hq => (ltC q hq).2.1⟩
    rw [List.mem_singleton] at hp; subst hp
    refine ⟨L2 _ _ c3, (cellNe _ _ _ (L2 _ _ c3) d3').1, (cellNe _ _ _ (L2 _ _ c3) d3').2, toldNe.2.2.symm, fresh _ fun q hq => (ltC q hq).2.2⟩
  have hn40 := tr.n40
  have hrl : S.ready.length ≤ n := nd_len n _ hM.rnd fun x hx => ((hM.rd x).mp hx).1
  k_steps
  refine wpAny_call (readyC X' T' F' N' C0 (by show A.depth + 1 + 80 < recursionLimit; omega) (by show A.units + 3 + 80 < cLine; omega) (by show A.handled = none; exact hh) (fun y hy => (hM.nodes y).mpr ((hM.rd y).mp hy).1) (by omega) fun h3 tk3 W3 D vs F3 N3 C3 hD3 hiv3 => ?_)
  clear F' N'
  have F' := F3
  have N' := N3
  clear F3 N3
  dsimp only
  have kfC : ∀ p ∈ [(L' + 1 + 1 + 1, ot), (L' + 1 + 1, od), (L' + 1, orr)], Kf p.2 := fun p hp => by
    rcases List.mem_cons.mp hp with rfl | hp
    · intro xs e; rw [d1'] at e; cases e
    rcases List.mem_cons.mp hp with rfl | hp
    · intro xs e; rw [d2'] at e; cases e
    rw [List.mem_singleton] at hp; subst hp
    intro xs e; rw [d3'] at e; cases e
  generalize hCE : [(L' + 1 + 1 + 1, ot), (L' + 1 + 1, od), (L' + 1, orr)] = CE at kfC C3
  have kfD : ∀ p ∈ (D, tupObj vs) :: CE, Kf p.2 := fun p hp => by
    rcases List.mem_cons.mp hp with rfl | hp
    · exact tup_kf
    · exact kfC p hp
  have cells : ∀ {W as ks hv cv H C S'}, CI w W CE lh lc told S.s rl num as ks hv cv H C S' → (W).lookup (L' + 1 + 1 + 1) = some ot ∧ (W).lookup (L' + 1 + 1) = some od ∧ (W).lookup (L' + 1) = some orr := fun {W as ks hv cv H C S'} c => by
    rw [← hCE] at c
    exact ⟨(c.cel _ (.head _)).1, (c.cel _ (.tail _ (.head _))).1, (c.cel _ (.tail _ (.tail _ (.head _)))).1⟩
  k_steps
  unfold Stop
  refine forGenX (K := Kf) (iterTup (l := D) (vs := vs)) (fun i fl W2 => ∃ o1 as hv H, fl = ([("sorter", some (.ref S.s)), ("heap", some (.ref lh)), ("course", some (.ref lc)), ("x", o1), ("fresh", none), ("number", none), ("pair", none)] : List (Str × Option Value)) ∧
    CI w W2 ((D, tupObj vs) :: CE) lh lc told S.s rl num as (S.ready.take i) hv [] H [] (readyS S) ∧ (S.ready.take i).Perm H) ?_ F' N' C3.nd ?_ ?_ ?_ ?_ ?_ ?_ ?_ ?_
  · exact hh
  · intro i fl W4 h4 hx9; obtain ⟨o1, as, hv, H, rfl, ci, pm⟩ := hx9; intro _ N4
    refine ⟨_, nget N4 ci.look, rfl, 0, rfl⟩
  · refine ⟨none, [], [], [], rfl, C3.tup hD3, .refl _⟩
  · rintro it o hni _
    refine ⟨none, [], [], [], rfl, (C3.tup hD3).push hni, .refl _⟩
  · exact fun i o h q => q _ h.2
  · intro i fl W4 W5 nd5 _ hk hx9; obtain ⟨o1, as, hv, H, hf, ci, pm⟩ := hx9
    refine ⟨o1, as, hv, H, hf, ci.mono nd5 hk fun p hp e => hk _ _ (kfD p hp) e, pm⟩
  · intro i v fl W4 h4 tk4 it o hi hv hx9; obtain ⟨o1, as, hv0, H, rfl, ci, pm⟩ := hx9; intro F4 N4 nd4 hlo hio Qf hQf
    clear F' N' nd'
    have F' := F4
    have N' := N4
    clear F4 N4
    obtain ⟨x, t, hx, rfl⟩ := hiv3.at hv
    have hxr := List.mem_of_getElem? hx
    have hxm := (hM.rd x).mp hxr
    have hxi : x ∉ S.ready.take i := not_take hM.rnd hx
    have hzi : (S.ready.take i).length ≤ 900 := by rw [List.length_take]; omega
    have hzH : H.length ≤ 900 := by rw [← pm.length_eq]; exact hzi
    have hts' : S.ready.take (i + 1) = S.ready.take i ++ [x] := by rw [List.take_add_one, hx]; rfl
    have ci' := ci.iter hlo hio (by decide)
    obtain ⟨c1', c2', c3'⟩ := cells ci.drop
    have nd' : (List.map (fun x : Str × Option Value => x.fst) [("sorter", some (.ref S.s)), ("heap", some (.ref lh)), ("course", some (.ref lc)), ("x", o1), ("fresh", none), ("number", none), ("pair", none)]).Nodup := of_decide_eq_true (by kernel_rfl)
    k_steps
    refine wpAny_call (numberC X' T' F' N' ci' (by show A.handled = none; exact hh) (by show A.depth + 1 ≤ 400; omega) (by show A.units + 3 ≤ 4000; omega) hB' hts tr hxm.1 (fun y hy => absurd (rest_nil.mp hxm.2.2.2 y hy) nofun) fun h5 tk5 t5 F5 N5 => ?_)
    clear F' N'
    have F' := F5
    have N' := N5
    clear F5 N5
    dsimp only
    k_steps
    rename_i Dq hq Fq Nq lq
    have ciP := ci'.pair (x := x) (t := t') (t' := t) (fun p hp => Nat.ne_of_lt (lq p hp))
    refine wpAny_call (pushC X' T' Fq Nq ciP (by show A.depth + 1 + 80 < recursionLimit; omega) (by show A.units + 3 + 80 < cLine; omega) hzH as_head (by rw [look_cons, if_pos rfl]) fun h6 tk6 W6 hv6 H6 F6 N6 ci6 pm6 => ?_)
    clear Fq Nq
    have F' := F6
    have N' := N6
    clear F6 N6
    dsimp only
    k_steps
    refine ⟨_, W6, h6, _, rfl, F', N', ci6.nd, ci6.look, _, (Dq, x) :: as, hv6, H6, rfl, ?_, ?_⟩
    · rw [hts']; exact ci6.drop
    · rw [hts']; exact (List.perm_append_singleton _ _).trans ((pm.cons x).trans pm6)
  · intro fl W4 h4 tk4 hx9; obtain ⟨o1, as, hv, H, rfl, ci, pm⟩ := hx9; intro F4 N4 nd4
    clear F' N' nd'
    have F' := F4
    have N' := N4
    clear F4 N4
    rw [hiv3.length, List.take_length] at ci pm
    have nd' : (List.map (fun x : Str × Option Value => x.fst) [("sorter", some (.ref S.s)), ("heap", some (.ref lh)), ("course", some (.ref lc)), ("x", o1), ("fresh", none), ("number", none), ("pair", none)]).Nodup := of_decide_eq_true (by kernel_rfl)
    k_steps
    unfold Stop
    refine whileF (fun k s' => ∃ C H S' hv cv as ks V h tk o1 o2 o3 o4, s' = { s with heap := h, toks := tk } ∧ k = n - C.length ∧ Fr g' L' h (fv ([("sorter", some (.ref S.s)), ("heap", some (.ref lh)), ("course", some (.ref lc)), ("x", o1), ("fresh", o2), ("number", o3), ("pair", o4)] : List (Str × Option Value))) ∧ News g' L' h V ∧
      CI w V CE lh lc told S.s rl num as ks hv cv H C S' ∧ Wh n M num S C H ks S') ?_ n (i12 [] H (readyS S) hv [] as S.ready W4 h4 _ o1 none (i2 none none ⟨rfl, rfl, F', N', ci.drop, Wh.start hM hpo pm⟩))
    clear F' N' nd' ci pm
    intro k s1 hx9; obtain ⟨C, H, S', hv, cv, as, ks, V, h, tk, o1, o2, o3, o4, rfl, rfl, F', N', ci, wh⟩ := hx9; intro Q1 Q2 hq1 hq2
    have hlen := wh.len
    have hkl := wh.klen
    have hC9 : C.length ≤ 900 := by omega
    have hH9 : H.length ≤ 900 := by omega
    have nd' : (List.map (fun x : Str × Option Value => x.fst) [("sorter", some (.ref S.s)), ("heap", some (.ref lh)), ("course", some (.ref lc)), ("x", o1), ("fresh", o2), ("number", o3), ("pair", o4)]).Nodup := of_decide_eq_true (by kernel_rfl)
    obtain ⟨c1', c2', c3'⟩ := cells ci
    rcases ci.hH.split with ⟨rfl, rfl⟩ | ⟨a, y, ty, ty', hv0, H0, rfl, rfl, has, hta⟩
    · obtain ⟨nh, hph⟩ := id ci.hp
      k_steps
      refine hR _ _ V lc cv C _ S' (fun b o hb e => F'.keep b o (kp' b o e hb)) (fun p hp => (N' p hp).1) (fun p hp => ?_) ci.srt wh.same (by rw [wh.po]; rfl) wh.rd ci.co.choose_spec ⟨as, ci.hC⟩ wh.giv.pw (fun y => ⟨fun h => (wh.mid.cn y h).1, wh.mid.all tr wh.rd y⟩) ?_
      · by_cases hm : p.1 ∈ (W).map (·.1)
        · exact .inl hm
        · refine .inr ?_
          cases e : s.heap.get? p.1 with
          | none => rfl
          | some o =>
            have := kp' _ _ e fun q hq e2 => hm (by rw [← e2]; exact List.mem_map_of_mem hq)
            rw [(N' p hp).2.2] at this; cases this
      · obtain ⟨o, td, hto⟩ := ci.td
        refine ⟨o, ks, td, hto, fun y => (wh.ksm y).trans ⟨fun h => h.elim (fun h => (wh.mid.cn y h).1) (fun h => nomatch h), fun h => .inl (wh.mid.all tr wh.rd y h)⟩⟩
    · obtain ⟨nh, hph⟩ := id ci.hp
      have hlt : C.length < n := by rw [List.length_cons] at hlen; omega
      have hyn := wh.mid.hn y (.head _)
      have hsl : (S'.succ y).length ≤ n := nd_len n _ (wh.mid.snd y) fun z hz => ((wh.mid.suc y hyn z).mp hz).2.1
      have top := ci.top
      obtain ⟨m5, fr⟩ := wh.fresh
      have hfl : (doneS S' y).ready.length ≤ n := nd_len n _ fr.nd fr.lt
      k_steps
      refine wpAny_call (doneC X' T' F' N' ci (by show A.depth + 1 + 80 < recursionLimit; omega) (by show A.units + 3 + 80 < cLine; omega) (by show A.handled = none; exact hh) ((wh.mid.nodes y).mpr hyn) (wh.mid.npH y (.head _)) (fun z hz => (wh.mid.nodes z).mpr ((wh.mid.suc y hyn z).mp hz).2.1) (by rw [wh.rd, List.length_nil]; omega) fun h5 tk5 V5 F5 N5 ci5 => ?_)
      clear F' N' ci
      have F' := F5
      have N' := N5
      clear F5 N5 hta c1' c2' c3' hph
      obtain ⟨c1', c2', c3'⟩ := cells ci5
      dsimp only
      k_steps
      refine wpAny_call (readyC X' T' F' N' ci5 (by show A.depth + 1 + 80 < recursionLimit; omega) (by show A.units + 3 + 80 < cLine; omega) (by show A.handled = none; exact hh) (fun z hz => (m5.nodes z).mpr (fr.lt z hz)) (by omega) fun h6 tk6 V6 D6 vs6 F6 N6 ci6 hD6 hiv6 => ?_)
      clear F' N' ci5 c1' c2' c3'
      have F' := F6
      have N' := N6
      clear F6 N6
      dsimp only
      k_steps
      unfold Stop
      have hvl6 := hiv6.length
      refine compGenU (K := fun o => ∃ us, o = tupObj us) (iterTup (l := D6) (vs := vs6)) (fl' := fun D => [("sorter", some (.ref S.s)), ("heap", some (.ref lh)), ("course", some (.ref lc)), ("x", o1), ("fresh", some (.ref D)), ("number", o3), ("pair", o4)])
        (fun i vs V => ∃ as', (∀ b z, as.lookup b = some z → as'.lookup b = some z) ∧ CI w V ((D6, tupObj vs6) :: CE) lh lc told S.s rl num as' ks (.ref a :: hv0) cv (y :: H0) C (readyS (doneS S' y)) ∧ HP as' vs ((doneS S' y).ready.take i))
        selfTup nd' ns' (fun D => .tail (.tail (.tail (.tail .head)))) (by decide) rfl hh (by decide) rfl (by decide) (by omega) F' N' ci6.nd ?_ ?_ ?_ ?_ ?_ ?_
      · intro i vs V h hx9; obtain ⟨as', _, ci, _⟩ := hx9; intro _ N
        refine ⟨_, nget N ci.look, rfl, 0, rfl⟩
      · exact ⟨as, fun _ _ h => h, ci6.tup hD6, .nil⟩
      · refine ⟨fun i o h ⟨us, q⟩ => ?_, fun vs n ⟨us, q⟩ => ?_, fun o m ⟨es, ep, h, _⟩ ⟨us, q⟩ => ?_⟩
        · have := h.1; rw [q] at this; exact absurd this (by simp)
        · exact absurd (congrArg Obj.cls q) (by simp)
        · rw [q] at h; cases h
      · intro it D Cc hap i vs V V' ndV hk hx9; obtain ⟨as', ha, ci, hp⟩ := hx9
        exact ⟨as', ha, ci.comp (ci6.tup hD6) hap ndV hk, hp⟩
      · intro i v vs V h tk it o D nD Cc oC m hi hv hx9; obtain ⟨as', ha, ci, hp⟩ := hx9; intro hvl F4 N4 nd4 hap hlo hlD hlC hm hmx
        clear F' N' nd'
        have F' := F4
        have N' := N4
        clear F4 N4
        obtain ⟨x, t, hx, rfl⟩ := hiv6.at hv
        have hxr := List.mem_of_getElem? hx
        obtain ⟨c1', c2', c3'⟩ := cells ci.drop
        k_steps
        refine wpAny_call (numberC X' T' F' N' ci (by show A.handled = none; exact hh) (by show A.depth + 1 ≤ 400; omega) (by show A.units + 3 ≤ 4000; omega) hB' hts tr (fr.lt x hxr) (fr.bel x hxr) fun h7 tk7 t7 F7 N7 => ?_)
        clear F' N'
        have F' := F7
        have N' := N7
        clear F7 N7
        dsimp only
        k_steps
        rename_i Dq hq Fq Nq lq
        have nq : ∀ p ∈ V, p.1 ≠ Dq := fun p hp => Nat.ne_of_lt (lq p hp)
        have ciP := ci.pair (x := x) (t := t7) (t' := t) nq
        have lkq : ∀ b ob, V.lookup b = some ob → ((Dq, tupObj [.int (num x : Int) t7, .int (x : Int) t]) :: V).lookup b = some ob := fun b ob e => by
          rw [look_cons, if_neg fun q => nq _ (look_mem e) q]; exact e
        refine ⟨_, hq, _, rfl, Fq, Nq, ciP.nd, lkq _ _ hlo, lkq _ _ hlD, ⟨oC, m, lkq _ _ hlC, hm⟩, _, fun b z e => as_cons (ha b z e) fun q => ?_, ciP, ?_⟩
        · obtain ⟨_, _, hu⟩ := ci.ak b z (ha b z e)
          exact nq _ (look_mem hu) q
        · have : (doneS S' y).ready.take (i + 1) = (doneS S' y).ready.take i ++ [x] := by rw [List.take_add_one, hx]; rfl
          rw [this]
          exact (hp.mono fun b z e => as_cons e fun q => by
            obtain ⟨_, _, hu⟩ := ci.ak b z e
            exact nq _ (look_mem hu) q).append (.cons as_head .nil)
      · intro vs V h tk D nD hx9; obtain ⟨as', ha, ci, hp⟩ := hx9; intro F4 N4 nd4 hlD hapD nd4'
        clear F' N' nd'
        have F' := F4
        have N' := N4
        have nd' := nd4'
        clear F4 N4 nd4'
        rw [hvl6, List.take_of_length_le (Nat.le_refl _)] at hp
        have hpl := hp.length
        have neD : ∀ b o, V6.lookup b = some o → D ≠ b := fun b o e q => hapD _ (look_mem e) q.symm
        have ciD : CI w V ((D, listOf vs.toArray nD) :: CE) lh lc told S.s rl num as' ks (.ref a :: hv0) cv (y :: H0) C (readyS (doneS S' y)) :=
          ci.drop.add hlD (neD _ _ ci6.hp.choose_spec) (neD _ _ ci6.co.choose_spec) (neD _ _ ci6.td.choose_spec.1) fun q => by
            obtain ⟨o', e'⟩ := ci6.srt.has q
            exact neD _ _ e' rfl
        have kfL : ∀ p ∈ (D, listOf vs.toArray nD) :: CE, Kf p.2 := fun p hp => by
          rcases List.mem_cons.mp hp with rfl | hp
          · exact fun _ e => nomatch e
          · exact kfC p hp
        clear ci hlD hapD
        k_steps
        unfold Stop
        refine forGenT (K := Kf) (iterList (l := D) (vs := vs)) (fun i fl V => ∃ o1 o3, fl = ([("sorter", some (.ref S.s)), ("heap", some (.ref lh)), ("course", some (.ref lc)), ("x", o1), ("fresh", some (.ref D)), ("number", o3), ("pair", o4)] : List (Str × Option Value)) ∧
          CI w V ((D, listOf vs.toArray nD) :: CE) lh lc told S.s rl num as' (ks ++ (doneS S' y).ready.take i) (.ref a :: hv0) cv (y :: H0) C (readyS (doneS S' y))) ?_ F' N' ciD.nd ?_ ?_ ?_ ?_ ?_ ?_ ?_ ?_
        · exact hh
        · intro i fl V h hx9; obtain ⟨o1, o3, rfl, ci⟩ := hx9; intro _ N
          refine ⟨_, nget N ci.look, rfl, nD, rfl⟩
        · exact ⟨_, _, rfl, by rw [List.take_zero, List.append_nil]; exact ciD⟩
        · rintro it o hni _
          exact ⟨_, _, rfl, by rw [List.take_zero, List.append_nil]; exact ciD.push hni⟩
        · exact fun i o h q => q _ h.2
        · intro i fl V V' ndV _ hk hx9; obtain ⟨o1, o3, hf, ci⟩ := hx9
          exact ⟨o1, o3, hf, ci.mono ndV hk fun p hp e => hk _ _ (kfL p hp) e⟩
        · intro i v fl V h tk it o hi hv hx9; obtain ⟨o1, o3, rfl, ci⟩ := hx9; intro F4 N4 nd4 hlo hio Qf hQf
          clear F' N' nd'
          have F' := F4
          have N' := N4
          clear F4 N4
          obtain ⟨b, x, rfl, hx, hb⟩ := hp.at hv
          have hxr := List.mem_of_getElem? hx
          obtain ⟨u1, u2, hu⟩ := ci.ak b x hb
          have htk : (doneS S' y).ready.take (i + 1) = (doneS S' y).ready.take i ++ [x] := by rw [List.take_add_one, hx]; rfl
          have hxk : x ∉ ks ++ (doneS S' y).ready.take i := fun q => by
            rcases List.mem_append.mp q with q | q
            · exact fr.nk x hxr q
            · exact not_take fr.nd hx q
          have hk9 : (ks ++ (doneS S' y).ready.take i).length ≤ 900 := by rw [List.length_append, List.length_take]; omega
          have ci' := ci.iter hlo hio (by decide)
          obtain ⟨c1', c2', c3'⟩ := cells ci.drop
          have nd' : (List.map (fun x : Str × Option Value => x.fst) [("sorter", some (.ref S.s)), ("heap", some (.ref lh)), ("course", some (.ref lc)), ("x", o1), ("fresh", some (.ref D)), ("number", o3), ("pair", o4)]).Nodup := of_decide_eq_true (by kernel_rfl)
          refine unpT F' N' hh hu (fun h5 F5 N5 => ?_) rfl rfl
          clear F' N'
          have F' := F5
          have N' := N5
          clear F5 N5
          k_steps
          refine ⟨_, W', h', _, rfl, F', N', ci'.nd, ci'.look, _, _, rfl, ?_⟩
          rw [htk, ← List.append_assoc]
          exact ci'.drop
        · intro fl V h tk hx9; obtain ⟨o1, o3, rfl, ci⟩ := hx9; intro F4 N4 nd4
          clear F' N' nd'
          have F' := F4
          have N' := N4
          clear F4 N4 ciD
          rw [hpl, List.take_of_length_le (Nat.le_refl _)] at ci
          have nd' : (List.map (fun x : Str × Option Value => x.fst) [("sorter", some (.ref S.s)), ("heap", some (.ref lh)), ("course", some (.ref lc)), ("x", o1), ("fresh", some (.ref D)), ("number", o3), ("pair", o4)]).Nodup := of_decide_eq_true (by kernel_rfl)
          have hnext := fun H' pm => wh.next tr top (H' := H') pm
          have hm : n - (C ++ [y]).length < n - C.length := by rw [List.length_append, List.length_singleton]; omega
          rcases hp.split with ⟨rfl, hr0⟩ | ⟨b, x, vs0, xs0, rfl, hr0, hb, hp0⟩
          · have hlD : V.lookup D = some (listOf ([] : List Value).toArray nD) := ci.look
            k_steps
            refine wpAny_call (popC X' T' F' N' ci (by show A.depth + 1 + 80 < recursionLimit; omega) (by show A.units + 3 + 80 < cLine; omega) hH9 fun h5 tk5 V5 hv5 H5 F5 N5 ci5 hv1 pm5 => ?_)
            clear F' N' ci
            have F' := F5
            have N' := N5
            clear F5 N5
            dsimp only
            k_steps
            refine ⟨_, hm, C ++ [y], H5, _, hv5, _, as', _, _, _, _, _, _, _, _, rfl, rfl, F', N', ci'.drop, hnext H5 (by rw [hr0, List.append_nil]; exact pm5)⟩
          · have hlD : V.lookup D = some (listOf (.ref b :: vs0).toArray nD) := ci.look
            obtain ⟨u1, u2, hu⟩ := ci.ak b x hb
            have hv0l := hp0.length
            have hx0 : xs0.length ≤ n := by rw [hr0, List.length_cons] at hfl; omega
            k_steps
            refine wpAny_call (replaceC X' T' F' N' ci (by show A.depth + 1 + 80 < recursionLimit; omega) (by show A.units + 3 + 80 < cLine; omega) hH9 hb hu fun h5 tk5 V5 hv5 H5 F5 N5 ci5 hv1 pm5 => ?_)
            clear F' N' ci hlD
            have F' := F5
            have N' := N5
            clear F5 N5
            dsimp only
            have hlD : V5.lookup D = some (listOf (.ref b :: vs0).toArray nD) := ci5.look
            k_steps
            have n2 : ∀ p ∈ W', p.1 ≠ D2 := fun p hp => Nat.ne_of_lt (l2 p hp)
            have neD2 : ∀ b o, W'.lookup b = some o → D2 ≠ b := fun b o e q => n2 _ (look_mem e) q.symm
            have ci2 := (ci'.drop.push (o := listOf vs0.toArray 0) n2).add (b := D2) (o := listOf vs0.toArray 0) (by rw [look_cons, if_pos rfl]) (neD2 _ _ ci'.hp.choose_spec) (neD2 _ _ ci'.co.choose_spec) (neD2 _ _ ci'.td.choose_spec.1) fun q => by
              obtain ⟨o', e'⟩ := ci'.srt.has q
              exact neD2 _ _ e' rfl
            have kfL : ∀ p ∈ (D2, listOf vs0.toArray 0) :: CE, Kf p.2 := fun p hp => by
              rcases List.mem_cons.mp hp with rfl | hp
              · exact fun _ e => nomatch e
              · exact kfC p hp
            have pm0 : (H0 ++ (x :: xs0).take 1).Perm H5 := (List.perm_append_singleton x H0).trans pm5
            have hH5 : H5.length ≤ n := by
              have h1 := (hnext _ (List.Perm.refl _)).len
              rw [hr0] at h1
              rw [← pm0.length_eq]
              simp only [List.length_append, List.length_cons, List.length_nil, List.take_succ_cons, List.take_zero] at h1 ⊢
              omega
            unfold Stop
            refine forGenX (K := Kf) (iterList (l := D2) (vs := vs0)) (fun i fl V => ∃ o4 hv H, fl = ([("sorter", some (.ref S.s)), ("heap", some (.ref lh)), ("course", some (.ref lc)), ("x", o1), ("fresh", some (.ref D)), ("number", o3), ("pair", o4)] : List (Str × Option Value)) ∧
              CI w V ((D2, listOf vs0.toArray 0) :: CE) lh lc told S.s rl num as' (ks ++ (doneS S' y).ready) hv cv' H (C ++ [y]) (readyS (doneS S' y)) ∧ (H0 ++ (x :: xs0).take (i + 1)).Perm H) ?_ F' N' ci2.nd ?_ ?_ ?_ ?_ ?_ ?_ ?_ ?_
            · exact hh
            · intro i fl V h hx9; obtain ⟨o4, hv, H, rfl, ci, pm⟩ := hx9; intro _ N
              refine ⟨_, nget N ci.look, rfl, 0, rfl⟩
            · refine ⟨_, _, _, rfl, ci2, pm0⟩
            · rintro it o hni _
              refine ⟨_, _, _, rfl, ci2.push hni, pm0⟩
            · exact fun i o h q => q _ h.2
            · intro i fl V V' ndV _ hk hx9; obtain ⟨o4, hv, H, hf, ci, pm⟩ := hx9
              refine ⟨o4, hv, H, hf, ci.mono ndV hk fun p hp e => hk _ _ (kfL p hp) e, pm⟩
            · intro i v fl V h tk it o hi hv hx9; obtain ⟨o4, hv7, H7, rfl, ci, pm⟩ := hx9; intro F4 N4 nd4 hlo hio Qf hQf
              clear F' N' nd'
              have F' := F4
              have N' := N4
              clear F4 N4
              obtain ⟨b2, x2, rfl, hx2, hb2⟩ := hp0.at hv
              obtain ⟨v1, v2, hv12⟩ := ci.ak b2 x2 hb2
              have htk : (x :: xs0).take (i + 1 + 1) = (x :: xs0).take (i + 1) ++ [x2] := by rw [List.take_add_one (i := i + 1), List.getElem?_cons_succ, hx2]; rfl
              have hz7 : H7.length ≤ 900 := by
                have h1 := (hnext _ (List.Perm.refl _)).len
                rw [hr0] at h1
                rw [← pm.length_eq]
                simp only [List.length_append] at h1 ⊢
                have h3 : ((x :: xs0).take (i + 1)).length ≤ (x :: xs0).length := by rw [List.length_take]; exact Nat.min_le_right _ _
                omega
              have ci' := ci.iter hlo hio (by decide)
              have nd' : (List.map (fun x : Str × Option Value => x.fst) [("sorter", some (.ref S.s)), ("heap", some (.ref lh)), ("course", some (.ref lc)), ("x", o1), ("fresh", some (.ref D)), ("number", o3), ("pair", o4)]).Nodup := of_decide_eq_true (by kernel_rfl)
              k_steps
              refine wpAny_call (pushC X' T' F' N' ci' (by show A.depth + 1 + 80 < recursionLimit; omega) (by show A.units + 3 + 80 < cLine; omega) hz7 hb2 hv12 fun h6 tk6 W6 hv6 H6 F6 N6 ci6 pm6 => ?_)
              clear F' N'
              have F' := F6
              have N' := N6
              clear F6 N6
              dsimp only
              k_steps
              refine ⟨_, W6, h6, _, rfl, F', N', ci6.nd, ci6.look, _, hv6, H6, rfl, ci6.drop, ?_⟩
              rw [htk, ← List.append_assoc]
              exact (List.perm_append_singleton _ _).trans ((pm.cons x2).trans pm6)
            · intro fl V h tk hx9; obtain ⟨o4, hv, H, rfl, ci, pm⟩ := hx9; intro F4 N4 nd4
              clear F' N' nd'
              have F' := F4
              have N' := N4
              clear F4 N4
              rw [List.take_of_length_le (by rw [List.length_cons, hv0l]; exact Nat.le_refl _), ← hr0] at pm
              k_steps
              refine ⟨_, hm, C ++ [y], H, _, hv, _, as', _, _, _, _, _, _, _, _, rfl, rfl, F', N', ci.drop, hnext H pm⟩
            · exact fun _ _ => rfl
        · exact fun s Q E i it o v ho hi hv h => by
            obtain ⟨j, hj⟩ := hv
            obtain ⟨b, x, rfl, _, _⟩ := hp.at hj
            exact goList s Q E i it o b ho hi h
  · exact fun _ _ => rfl
theorem all : ∀ y, P_ y := @pick_all _ _ P_ (by with_unfolding_all exact core)
end course_ok_
theorem course_ok {w A s g0 loose mean mg mb p R W S rl rows deep told n M dp num oT} : course_ok_.Q_ w A s g0 loose mean mg mb p R W S rl rows deep told n M dp num oT := @course_ok_.all (w, A, s, g0, loose, mean, mg, mb, p, R, W, S, rl, rows, deep, told, n, M, dp, num, oT)
end
theorem kz_zf_course : True := by
  k_with "zf_course" => skip
  trivial
theorem kl_zc_plant : True := by
  k_with "lia" => ((fail_if_success k_extra "zc_plant"); lia)
  trivial
theorem IV.rev {vs xs} (h : IV vs xs) : IV vs.reverse xs.reverse := by
  induction h with
  | nil => exact .nil
  | cons _ ih => rw [List.reverse_cons, List.reverse_cons]; exact ih.append (.cons .nil)
inductive PT : List (Addr × Obj) → List (Str × Nat) → Prop
  | nil : PT [] []
  | cons {Tn : List (Addr × Obj)} {ps : List (Str × Nat)} {ta : Addr} {t t' : Tok} {nm : Str} {num : Nat} : PT Tn ps → PT ((ta, tupObj [.str nm t, .int (num : Int) t']) :: Tn) ((nm, num) :: ps)
theorem PT.length {Tn ps} (p : PT Tn ps) : Tn.length = ps.length := by
  induction p with
  | nil => rfl
  | cons _ ih => simp [ih]
theorem PT.append {Tn ps Tn' ps'} (p : PT Tn ps) (q : PT Tn' ps') : PT (Tn ++ Tn') (ps ++ ps') := by
  induction p with
  | nil => exact q
  | cons _ ih => exact .cons ih
theorem PT.cls {Tn ps} (p : PT Tn ps) : ∀ q ∈ Tn, q.2.cls = .type "tuple" := by
  induction p with
  | nil => exact fun _ h => nomatch h
  | cons _ ih => intro q hq; rcases List.mem_cons.mp hq with rfl | hq; exact rfl; exact ih q hq
noncomputable def pk (f : Nat) (tu : Bool) (num : Nat) (nm : Str) (i : Nat) : List (Str × Nat) := ((List.range (kids tu num).length).take i).flatMap fun i => plant f tu ((kids tu num).getD i 0) (kidName nm i)
theorem pk_succ {f : Nat} {tu : Bool} {num : Nat} {nm : Str} {i : Nat} (hi : i < (kids tu num).length) : pk f tu num nm (i + 1) = pk f tu num nm i ++ plant f tu ((kids tu num).getD i 0) (kidName nm i) := by
  unfold pk
  rw [List.take_add_one, List.getElem?_range hi]
  simp
theorem pk_all {f : Nat} {tu : Bool} {num : Nat} {nm : Str} : plant (f + 1) tu num nm = pk f tu num nm (kids tu num).length ++ [(nm, num)] := by
  unfold pk
  rw [List.take_of_length_le (by rw [List.length_range]; exact Nat.le_refl _)]
  rfl
theorem pk_le {f : Nat} {tu : Bool} {num : Nat} {nm : Str} {i : Nat} : (pk f tu num nm i).length ≤ (pk f tu num nm (kids tu num).length).length := by
  unfold pk
  rw [List.take_of_length_le (i := (kids tu num).length) (by rw [List.length_range]; exact Nat.le_refl _)]
  conv => rhs; rw [← List.take_append_drop i (List.range (kids tu num).length), List.flatMap_append]
  rw [List.length_append]; exact Nat.le_add_right _ _
abbrev refs (Tn : List (Addr × Obj)) : List Value := Tn.map fun p => Value.ref p.1
theorem fdiv_nat (l p : Nat) : (l : Int).fdiv (p : Int) = ((l / p : Nat) : Int) := by
  rw [Int.fdiv_eq_ediv_of_nonneg _ (Int.natCast_nonneg p)]; rfl
theorem mod_nat {l p : Nat} (h : (l : Int).fmod (p : Int) = 0) : l % p = 0 := by
  rw [Int.fmod_eq_emod_of_nonneg _ (Int.natCast_nonneg p)] at h
  omega
theorem mod_nat_ne {l p : Nat} (h : (l : Int).fmod (p : Int) ≠ 0) : ¬ l % p = 0 := fun e => h (by
  rw [Int.fmod_eq_emod_of_nonneg _ (Int.natCast_nonneg p)]
  omega)
theorem one_more {g h : Heap} {L a : Addr} {o : Obj} {W : List (Addr × Obj)} (N : News g L h ((a, o) :: W)) (nd : (W.map (·.1)).Nodup) (h1 : ∀ p ∈ W, p.1 ≠ a) : ∃ W4, News g L h W4 ∧ (W4.map (·.1)).Nodup ∧ Std W W4 := by
  refine ⟨_, N, ?_, Std.refl.cons h1⟩
  rw [List.map_cons, List.nodup_cons]
  exact ⟨fun hm => by obtain ⟨p, hp, e⟩ := List.mem_map.mp hm; exact h1 p hp e, nd⟩
theorem two_more {g h : Heap} {L a b : Addr} {o o' : Obj} {W : List (Addr × Obj)} (N : News g L h ((b, o') :: (a, o) :: W)) (nd : (W.map (·.1)).Nodup) (h1 : ∀ p ∈ W, p.1 ≠ a) (h2 : ∀ p ∈ W, p.1 ≠ b) (h3 : a ≠ b) : ∃ W4, News g L h W4 ∧ (W4.map (·.1)).Nodup ∧ Std W W4 := by
  have hb : ∀ p ∈ (a, o) :: W, p.1 ≠ b := fun p hp => by
    rcases List.mem_cons.mp hp with rfl | hp
    · exact h3
    · exact h2 p hp
  refine ⟨_, N, ?_, (Std.refl.cons h1).cons hb⟩
  rw [List.map_cons, List.nodup_cons, List.map_cons, List.nodup_cons]
  refine ⟨fun hm => ?_, fun hm => ?_, nd⟩
  · rw [← List.map_cons (f := (·.1)) (a := (a, o))] at hm
    obtain ⟨p, hp, e⟩ := List.mem_map.mp hm; exact hb p hp e
  · obtain ⟨p, hp, e⟩ := List.mem_map.mp hm; exact h1 p hp e
theorem appW {w : World} {A : Around} {E : Value → Shared → Prop} {s : Shared} {g : Heap} {L a : Addr} {m : Str → Option Value} {W : List (Addr × Obj)} {Q : Value → Shared → Prop} {vs : List Value} {n : Nat} {v : Value} (F : Fr g L s.heap m) (N : News g L s.heap W) (nd : (W.map (·.1)).Nodup) (hl : W.lookup a = some (listOf vs.toArray n)) (hz : vs.length ≤ 1000)
    (h : ∀ h' W', Fr g L h' m → News g L h' W' → (W'.map (·.1)).Nodup → W'.lookup a = some (listOf (vs ++ [v]).toArray (n + 1)) → (∀ b, b ≠ a → W'.lookup b = W.lookup b) → Q .none { s with heap := h' }) : wpAny (model PG w) A (call (.builtin "list.append") [.ref a, v]) Q E s := by
  have hs : (W.lookup a).isSome = true := by rw [hl]; rfl
  exact appL F N hz (upd_put nd hl) fun h' F' N' => h h' _ F' N' (by rw [putW_names]; exact nd) (by rw [look_put hs, if_pos rfl]) fun b hb => by rw [look_put hs, if_neg hb]
theorem lenW {w : World} {A : Around} {E : Value → Shared → Prop} {s : Shared} {g : Heap} {L a : Addr} {W : List (Addr × Obj)} {Q : Value → Shared → Prop} {vs : List Value} {n : Nat} (N : News g L s.heap W) (hl : W.lookup a = some (listOf vs.toArray n)) (hz : vs.length ≤ 1000) (h : ∀ t, Q (.int (vs.length : Int) t) { s with toks := s.toks + 1 + 1 }) : wpAny (model PG w) A (call (.builtin "len") [.ref a]) Q E s :=
  lenL N (look_mem hl) hz (h _)
theorem rdW {w : World} {A : Around} {E : Value → Shared → Prop} {s : Shared} {g : Heap} {L a : Addr} {W : List (Addr × Obj)} {Q : Value → Shared → Prop} {vs : List Value} {n x : Nat} {v : Value} {t : Tok} {value slice : PySem.Expr} (N : News g L s.heap W) (hl : W.lookup a = some (listOf vs.toArray n)) (hv : vs[x]? = some v) (hz : vs.length ≤ 1000) (h : Q v s)
    (hs : subscripted slice false (.ref a) (.int (x : Int) t) = operate [.ref a, .int (x : Int) t] (getItem (.ref a) (.int (x : Int) t)) := by with_unfolding_all rfl) (hg : ∀ r, letTemporaryGo value (.ref a) r = pure () := by intro _; with_unfolding_all rfl) :
    wpAny (model PG w) A (subscriptTail value slice (.ref a) (.int (x : Int) t)) Q E s := by
  have hlt : x < vs.length := (List.getElem?_eq_some_iff.mp hv).1
  refine getL N (look_mem hl) (by omega) (by omega) hz (fun v' hv' => ?_) hs hg
  rw [Int.toNat_natCast, hv] at hv'
  cases hv'; exact h
theorem appWM {w : World} {A : Around} {E : Value → Shared → Prop} {s : Shared} {g : Heap} {L a : Addr} {W : List (Addr × Obj)} {vs : List Value} {n : Nat} {pl : Sem Bool} {mQ : Value × List Value → Shared → Prop} (N : News g L s.heap W) (hl : W.lookup a = some (listOf vs.toArray n)) (h : mQ (.builtin "list.append", [.ref a]) s) : wpAny (model PG w) A (getMethod (.ref a) "append" pl) mQ E s :=
  Calls.getMethod_list_append (nget N hl) rfl rfl h
section
theorem pr4_two : ∀ i : Fin 4, 2 ≤ pr4 i.1 := by decide
theorem pr4_ge {i : Nat} (hi : i < 4) : 2 ≤ pr4 i := pr4_two ⟨i, hi⟩
theorem pr4_sev : ∀ i : Fin 4, pr4 i.1 ≤ 7 := by decide
theorem pr4_le {i : Nat} (hi : i < 4) : pr4 i ≤ 7 := pr4_sev ⟨i, hi⟩
theorem pr4_ne {i : Nat} (hi : i < 4) : (pr4 i : Int) ≠ 0 := by have := pr4_ge hi; omega
theorem menu_at : ∀ i : Fin 4, ([2, 3, 5, 7] : List Int).getD i.1 0 = (pr4 i.1 : Int) := by decide
theorem menu_eq {i : Nat} (hi : i < 4) : ([2, 3, 5, 7] : List Int).getD (i : Int).toNat 0 = (pr4 i : Int) := by rw [Int.toNat_natCast]; exact menu_at ⟨i, hi⟩
theorem kw_zc_plant : True := by
  k_with "call type:range" => ((fail_if_success k_extra "zc_plant"); k_here; k_dflt (refine' callRange ?z1 ?z2 ?_; (case z1 => assumption); (case z2 => assumption); k_whole); intro r' h' t' u' v' tk' F' N' nr'; (try dsimp only at F' N'))
  k_with "getMethod ref" => ((fail_if_success k_extra "zc_plant"); k_here; (with_reducible show wpAny _ _ (getMethod (Value.ref _) (Str.ofString "append") _) _ _ _); k_dflt (first | (refine' appWM ?z1 ?z2 ?_; (case z1 => assumption); (case z2 => assumption); k_whole) | refine stop_here ?_))
  k_with "call builtin:list.append" => ((fail_if_success k_extra "zc_plant"); k_here; k_dflt (first | (refine' appW ?z1 ?z2 ?z3 ?z4 ?z5 ?_; (case z1 => assumption); (case z2 => assumption); (case z3 => assumption); (case z4 => assumption); (case z5 => omega); k_whole; intro h' W' F' N' nW' hA' hB'; (try dsimp only at F' N')) | refine stop_here ?_))
  k_with "call builtin:len" => ((fail_if_success k_extra "zc_plant"); k_here; k_dflt (refine' lenW ?z1 ?z2 ?z3 ?_; (case z1 => assumption); (case z2 => assumption); (case z3 => omega); k_whole); intro t')
  k_with "subscriptTail" => ((fail_if_success k_extra "zc_plant"); k_here; (with_reducible show wpAny _ _ (subscriptTail _ _ (Value.ref _) (Value.int (Nat.cast _) _)) _ _ _); k_dflt (refine' rdW ?z1 ?z2 ?z3 ?z4 ?_; (case z1 => assumption); (case z2 => assumption); (case z3 => assumption); (case z4 => omega); k_whole))
  k_with "binaryOp Mod int int" => ((fail_if_success k_extra "zc_plant"); k_here; rw [menu_eq hi4]; (refine mod_int' ?z1 ?_); (case z1 => exact pr4_ne hi4))
  k_with "inplaceOp FloorDiv int int" => ((fail_if_success k_extra "zc_plant"); k_here; rw [menu_eq hi4]; (refine ifloordiv_int ?z1 ?_); (case z1 => exact pr4_ne hi4))
  k_with "exec If" => ((fail_if_success k_extra "zc_plant"); k_here; refine stop_here ?_)
  k_with "call ref" => ((fail_if_success k_extra "zc_plant"); k_here; refine stop_here ?_)
  k_with "subscriptTail Name Slice ref ref" => ((fail_if_success k_extra "zc_plant"); k_here; refine stop_here ?_)
  trivial
set_option maxHeartbeats 4000000 in
theorem plant_ok {w : World} {loose : List Str} {mean : ExcName → Option Value} {mg mb : Str → Option Value} {p : Program}
    (tu : Bool) (f : Nat) : ∀ {A : Around} {s : Shared} {g0 : Heap} {R : Result → Shared → Prop} {pl : Addr} {vs : List Value} {n num : Nat} {nm : Str} {t tn : Tok}
    (X : (hd.heap_1 w.params).In g0) (T : Top p loose mean mg mb g0) (k : g0.StaysIn s.heap) (hh : A.handled = none) (hroom : A.depth + 5 * f ≤ 400) (hun : A.units + 10 * f ≤ 4000) (h1 : 1 ≤ num) (hf : num ≤ f) (h10 : num ≤ 10)
    (hW : s.heap.get? pl = some (listOf vs.toArray n)) (hg : g0.get? pl = none) (hz : vs.length + (plant f tu num nm).length ≤ 900) (hnm : nm.length + 10 * f ≤ 500)
    (hR : ∀ h' tk Tn n', (∀ b o, b ≠ pl → s.heap.get? b = some o → h'.get? b = some o) → (∀ p ∈ Tn, h'.get? p.1 = some p.2 ∧ s.heap.get? p.1 = none) → (Tn.map (·.1)).Nodup → PT Tn (plant f tu num nm) → h'.get? pl = some (listOf (vs ++ refs Tn).toArray n') → R (.ok (.ret .none)) { s with heap := h', toks := tk }),
    codeAny (model PG w) A (.call (.ref 245) ⟨[.int (num : Int) t, .str nm tn, .bool tu, .ref pl], []⟩) R s := by
  induction f with
  | zero => intro A s g0 R pl vs n num nm t tn X T k hh hroom hun h1 hf; omega
  | succ f ih =>
  intro A s g0 R pl vs n num nm t tn X T k hh hroom hun h1 hf h10 hW hg hz hnm hR
  have hr1 : A.depth + 60 < recursionLimit := Nat.lt_of_le_of_lt (show A.depth + 60 ≤ 460 by omega) (by decide)
  have hu1 : A.units + 60 < cLine := Nat.lt_of_le_of_lt (show A.units + 60 ≤ 4060 by omega) (by decide)
  refine enter [("number", .int (num : Int) t), ("name", .str nm tn), ("turned", .bool tu), ("planted", .ref pl)] ["kids", "left", "place", "k"] (K := hd.heap_1 w.params) (W := [(pl, listOf vs.toArray n)]) X T k (fun p hp => by rw [List.mem_singleton] at hp; subst hp; exact hW) (fun p hp => by rw [List.mem_singleton] at hp; subst hp; exact hg) (by k_is) (by k_is) (by omega) (BindsTo.of_eq rfl) (locs rfl) (of_decide_eq_true (by kernel_rfl)) (by decide +kernel) ?_ rfl rfl rfl (by decide)
  intro g' L' h' st' kp' sub' F' N' X' T' nd' ns'
  dsimp only [fv0, List.map, HAppend.hAppend, Append.append, List.append] at F' nd'
  k_fold
  have hfresh : ∀ (h3 : Heap), (∀ b o, g'.get? b = some o → h3.get? b = some o) → (∃ o, h3.get? pl = some o) → ∀ a, h3.get? a = none → s.heap.get? a = none := by
    intro h3 kp hpl a ha
    cases e : s.heap.get? a with
    | none => rfl
    | some ob =>
      by_cases q : a = pl
      · subst q
        obtain ⟨o, ho⟩ := hpl
        rw [ho] at ha; cases ha
      · have := kp _ _ (kp' a ob e (fun p hp => by rw [List.mem_singleton] at hp; subst hp; exact fun z => q z.symm))
        rw [this] at ha; cases ha
  k_steps
  rename_i lk _h2 l1 _h1 _h0 _F _N
  clear _F _N
  have hne : pl ≠ lk := Nat.ne_of_lt l1
  have nd0 : (([(r', rangeObj 4 t' u' v'), (lk, listOf #[] 0), (pl, listOf vs.toArray n)] : List (Addr × Obj)).map (·.1)).Nodup := by
    have e1 := nr' _ (.head _)
    have e2 := nr' _ (.tail _ (.head _))
    simp only [List.map_cons, List.map_nil, List.nodup_cons, List.mem_cons, List.not_mem_nil, or_false, not_or, not_false_eq_true, List.nodup_nil, and_true]
    exact ⟨⟨fun e => e1 e.symm, fun e => e2 e.symm⟩, fun e => hne e.symm⟩
  generalize hW0 : ([(r', rangeObj 4 t' u' v'), (lk, listOf #[] 0), (pl, listOf vs.toArray n)] : List (Addr × Obj)) = W0 at N' nd0
  have hr0 : W0.lookup r' = some (rangeObj 4 t' u' v') := mem_look nd0 (by rw [← hW0]; exact .head _)
  have hk0 : W0.lookup lk = some (listOf [].toArray 0) := mem_look nd0 (by rw [← hW0]; exact .tail _ (.head _))
  have hp0 : W0.lookup pl = some (listOf vs.toArray n) := mem_look nd0 (by rw [← hW0]; exact .tail _ (.tail _ (.head _)))
  unfold Stop
  refine forGen (iterRange (r := r') (n := 4) (by omega)) (fun i fl W2 => (∃ o1 t1, fl = ([("number", some (.int (num : Int) t)), ("name", some (.str nm tn)), ("turned", some (.bool tu)), ("planted", some (.ref pl)), ("kids", some (.ref lk)), ("left", some (.int ((stk num i).1 : Int) t1)), ("place", o1), ("k", none)] : List (Str × Option Value))) ∧
      (∃ kv nk, W2.lookup lk = some (listOf kv.toArray nk) ∧ IV kv (stk num i).2) ∧ W2.lookup pl = some (listOf vs.toArray n) ∧ ∃ t u v, W2.lookup r' = some (rangeObj 4 t u v))
    ?_ F' N' nd0 ?_ ?_ ?_ ?_ ?_ ?_ ?_
  · exact hh
  · intro i fl W2 h2 hx9; obtain ⟨_, _, _, t1, u1, v1, hl⟩ := hx9; intro _ N2
    exact ⟨t1, u1, v1, nget N2 hl⟩
  · refine ⟨⟨_, _, rfl⟩, ⟨[], 0, hk0, .nil⟩, hp0, _, _, _, hr0⟩
  · intro it o hn _
    have L : ∀ b ob, W0.lookup b = some ob → ((it, o) :: W0).lookup b = some ob := fun b ob hb => by
      rw [look_cons, if_neg (fun e => hn _ (look_mem hb) e)]; exact hb
    refine ⟨⟨_, _, rfl⟩, ⟨[], 0, L _ _ hk0, .nil⟩, L _ _ hp0, _, _, _, L _ _ hr0⟩
  · intro i fl W2 W3 nd3 _ hsim hx9; obtain ⟨hf, ⟨kv, nk, hk1, hk2⟩, hl, t1, u1, v1, hr⟩ := hx9
    refine ⟨hf, ⟨kv, nk, hsim _ _ (.inl (by simp)) hk1, hk2⟩, hsim _ _ (.inl (by simp)) hl, t1, u1, v1, hsim _ _ (.inl (by simp)) hr⟩
  · intro i v fl W2 h2 tk2 it o hi; rintro ⟨ty, hv⟩; intro hx9; obtain ⟨⟨o1, t1, rfl⟩, ⟨kv, nk, hk1, hk2⟩, hl, hr⟩ := hx9; intro F2 N2 nd2 hlo hco Qf hQf
    clear F' N' nd'
    have F' := F2
    have N' := N2
    clear F2 N2
    have nd' : (List.map (fun x : Str × Option Value => x.fst) [("number", some (.int (num : Int) t)), ("name", some (.str nm tn)), ("turned", some (.bool tu)), ("planted", some (.ref pl)), ("kids", some (.ref lk)), ("left", some (.int ((stk num i).1 : Int) t1)), ("place", o1), ("k", none)]).Nodup := of_decide_eq_true (by kernel_rfl)
    have hs0 : 1 ≤ (stk num i).1 ∧ (stk num i).1 ≤ 10 ∧ (stk num i).2.length ≤ 4 := stk_ok2 h10 h1 (by omega)
    generalize hstk : stk num i = st0 at F' nd' hk2 hs0
    obtain ⟨l0, k0⟩ := st0
    dsimp only at F' nd' hk2 hs0
    obtain rfl : v = .int (i : Int) ty := hv
    have hi4 : i < 4 := hi
    have hq2 := pr4_ge hi4
    have hq7 := pr4_le hi4
    k_steps
    unfold Stop
    refine whileF (fun f s' => ∃ l ks kv nk t1 W h tk, s' = { s with heap := h, toks := tk } ∧ Fr g' L' h (fv ([("number", some (.int (num : Int) t)), ("name", some (.str nm tn)), ("turned", some (.bool tu)), ("planted", some (.ref pl)), ("kids", some (.ref lk)), ("left", some (.int (l : Nat) t1)), ("place", some (.int (i : Int) ty)), ("k", none)] : List (Str × Option Value))) ∧ News g' L' h W ∧ (W.map (·.1)).Nodup ∧
      W.lookup lk = some (listOf kv.toArray nk) ∧ IV kv ks ∧ W.lookup pl = some (listOf vs.toArray n) ∧ (∃ t u v, W.lookup r' = some (rangeObj 4 t u v)) ∧ W.lookup it = some o ∧ 1 ≤ l ∧ l < 2 ^ f ∧ wl (pr4 i) (i + 1) f l ks = stk num (i + 1) ∧ ks.length + f ≤ 8)
      ?_ 4 (i8 l0 k0 kv nk t1 W2 _ _ ⟨rfl, F', N', nd2, hk1, hk2, hl, hr, hlo, hs0.1, Nat.lt_of_le_of_lt hs0.2.1 (by decide), by show _ = wl (pr4 i) (i + 1) 4 (stk num i).1 (stk num i).2; rw [hstk], by have := hs0.2.2; omega⟩)
    clear F' N' nd' nd2 hk1 hk2 hl hr hlo
    intro fu s1 hx9; obtain ⟨l, ks, kv, nk, t1, W, h3, tk3, rfl, F', N', nd3, hk1, hk2, hl, hr, hlo, hl1, hlf, hwl, hks⟩ := hx9; intro Q1 Q2 hQ1 hQ2
    have hkl := hk2.length
    have nd' : (List.map (fun x : Str × Option Value => x.fst) [("number", some (.int (num : Int) t)), ("name", some (.str nm tn)), ("turned", some (.bool tu)), ("planted", some (.ref pl)), ("kids", some (.ref lk)), ("left", some (.int (l : Nat) t1)), ("place", some (.int (i : Int) ty)), ("k", none)]).Nodup := of_decide_eq_true (by kernel_rfl)
    k_steps
    · rename_i D1 _h1 la _ta hmod _tk D2 _h2 lb _tb
      unfold Stop
      obtain ⟨f0, rfl⟩ : ∃ f0, fu = f0 + 1 := ⟨fu - 1, by
        rcases Nat.eq_zero_or_pos fu with e | e
        · subst e; simp at hlf; omega
        · omega⟩
      have la' : ∀ p ∈ W, p.1 ≠ D1 := fun p hp => Nat.ne_of_lt (la p hp)
      have lb1 : D1 ≠ D2 := Nat.ne_of_lt lb.1
      have lb' : ∀ p ∈ W, p.1 ≠ D2 := fun p hp => Nat.ne_of_lt (allLt_mem lb.2 p hp)
      have hm : l % pr4 i = 0 := mod_nat hmod
      have e4 : (l : Int).fdiv (pr4 i : Int) = ((l / pr4 i : Nat) : Int) := fdiv_nat l (pr4 i)
      rw [e4] at F' nd'
      obtain ⟨W4, N4, nd4, L4⟩ := two_more N' nd3 la' lb' lb1
      clear N'
      have N' := N4
      clear N4
      have hk1' := L4 _ _ hk1
      k_steps
      refine ⟨f0, by omega, l / pr4 i, ks ++ [i + 1], _, _, _, W', _, _, rfl, F', N', nW', hA', hk2.append (.cons .nil), (hB' _ hne).trans (L4 _ _ hl), ?_, ?_, ?_, ?_, ?_, ?_⟩
      · obtain ⟨t5, u5, v5, hr5⟩ := hr
        exact ⟨t5, u5, v5, (hB' _ (lk_ne (L4 _ _ hr5) hk1' (by simp))).trans (L4 _ _ hr5)⟩
      · exact (hB' _ (lk_ne (L4 _ _ hlo) hk1' (by rw [hco]; simp))).trans (L4 _ _ hlo)
      · exact Nat.div_pos (Nat.le_of_dvd (by omega) (Nat.dvd_of_mod_eq_zero hm)) (by omega)
      · rw [Nat.pow_succ] at hlf
        exact Nat.div_lt_of_lt_mul (Nat.lt_of_lt_of_le hlf (by rw [Nat.mul_comm]; exact Nat.mul_le_mul_right _ hq2))
      · rw [← hwl]
        show _ = (if l % pr4 i = 0 then wl (pr4 i) (i + 1) f0 (l / pr4 i) (ks ++ [i + 1]) else (l, ks))
        rw [if_pos hm]
      · rw [List.length_append]; simp; omega
    · rename_i D1 _h1 F1 N1 la _ta hmod
      have la' : ∀ p ∈ W, p.1 ≠ D1 := fun p hp => Nat.ne_of_lt (la p hp)
      have hm : ¬ l % pr4 i = 0 := mod_nat_ne hmod
      have e5 : wl (pr4 i) (i + 1) fu l ks = (l, ks) := by
        cases fu with
        | zero => rfl
        | succ f0 => show (if l % pr4 i = 0 then wl (pr4 i) (i + 1) f0 (l / pr4 i) (ks ++ [i + 1]) else (l, ks)) = _; rw [if_neg hm]
      rw [e5] at hwl
      obtain ⟨W4, N4, nd4, L4⟩ := one_more N1 nd3 la'
      have e6 : (stk num (i + 1)).1 = l := by rw [← hwl]
      have e7 : (stk num (i + 1)).2 = ks := by rw [← hwl]
      obtain ⟨t5, u5, v5, hr5⟩ := hr
      refine ⟨_, W4, _, _, rfl, F1, N4, nd4, L4 _ _ hlo, ⟨_, _, by rw [e6]⟩, ⟨kv, nk, L4 _ _ hk1, by rw [e7]; exact hk2⟩, L4 _ _ hl, t5, u5, v5, L4 _ _ hr5⟩
  · intro fl W2 h2 tk2 hx9; obtain ⟨⟨o1, t1, rfl⟩, ⟨kv, nk, hk1, hk2⟩, hl, hr⟩ := hx9; intro F2 N2 nd2
    clear F' N' nd'
    have F' := F2
    have N' := N2
    clear F2 N2
    have hs0 : 1 ≤ (stk num 4).1 ∧ (stk num 4).1 ≤ 10 ∧ (stk num 4).2.length ≤ 4 := stk_ok2 h10 h1 (by omega)
    generalize hstk : stk num 4 = st0 at F' hk2 hs0
    obtain ⟨l0, k0⟩ := st0
    dsimp only at F' hk2 hs0
    have hkl := hk2.length
    have nd' : (List.map (fun x : Str × Option Value => x.fst) [("number", some (.int (num : Int) t)), ("name", some (.str nm tn)), ("turned", some (.bool tu)), ("planted", some (.ref pl)), ("kids", some (.ref lk)), ("left", some (.int (l0 : Int) t1)), ("place", o1), ("k", none)]).Nodup := of_decide_eq_true (by kernel_rfl)
    k_steps
    unfold Stop
    refine if_join (fun s' => ∃ kl kv2 nk2 h5 W5 tk5, s' = { s with heap := h5, toks := tk5 } ∧ Fr g' L' h5 (fv ([("number", some (.int (num : Int) t)), ("name", some (.str nm tn)), ("turned", some (.bool tu)), ("planted", some (.ref pl)), ("kids", some (.ref kl)), ("left", some (.int (l0 : Int) t1)), ("place", o1), ("k", none)] : List (Str × Option Value))) ∧
      News g' L' h5 W5 ∧ (W5.map (·.1)).Nodup ∧ W5.lookup kl = some (listOf kv2.toArray nk2) ∧ IV kv2 (kids tu num) ∧ W5.lookup pl = some (listOf vs.toArray n) ∧ pl ≠ kl) (fun P hP => ?_) ?_
    · refine PySem.wpAny_If ?_
      cases tu with
      | true =>
        k_steps
        unfold Stop
        refine krv_lit F' N' (isList_of (nget N' hk1)) (IsPart.int _ _) rfl (fun kl h5 F5 N5 hlt5 => ?_) (by with_unfolding_all rfl) (by intro _; with_unfolding_all rfl) (by rw [List.size_toArray]; exact sz_ok (by omega))
        have hkv5 : IV kv.reverse (kids true num) := by
          unfold kids; rw [hstk]; exact hk2.rev
        have nd4 : (((kl, listOf kv.reverse.toArray 0) :: W2).map (·.1)).Nodup := by
          rw [List.map_cons, List.nodup_cons]
          exact ⟨fun hm => by obtain ⟨q, hq, e⟩ := List.mem_map.mp hm; exact Nat.ne_of_lt (hlt5 q hq) e, nd2⟩
        have hne5 : pl ≠ kl := Nat.ne_of_lt (hlt5 _ (look_mem hl))
        clear F' N'
        have F' := F5
        have N' := N5
        clear F5 N5
        k_steps
        exact ⟨rfl, hP _ (i6 kl kv.reverse 0 _ _ _ ⟨rfl, F', N', nd4, by rw [look_cons, if_pos rfl], hkv5, by rw [look_cons, if_neg hne5]; exact hl, hne5⟩)⟩
      | false =>
        have hkv5 : IV kv (kids false num) := by
          unfold kids; rw [hstk]; exact hk2
        k_steps
        exact ⟨rfl, hP _ (i6 lk kv nk _ _ _ ⟨rfl, F', N', nd2, hk1, hkv5, hl, hne⟩)⟩
    intro s5 hx9; obtain ⟨kl, kv2, nk2, h5, W5, tk5, rfl, F5, N5, nd4, hkl5, hkv5, hl5, hne5⟩ := hx9
    clear F' N' nd'
    have F' := F5
    have N' := N5
    clear F5 N5
    have hkl5l := hkv5.length
    have hk4 : (kids tu num).length ≤ 4 := by
      unfold kids
      split
      · rw [hstk]; simpa using hs0.2.2
      · rw [hstk]; exact hs0.2.2
    have hkr : kv2.length ≤ 1000 := by omega
    have nd' : (List.map (fun x : Str × Option Value => x.fst) [("number", some (.int (num : Int) t)), ("name", some (.str nm tn)), ("turned", some (.bool tu)), ("planted", some (.ref pl)), ("kids", some (.ref kl)), ("left", some (.int (l0 : Int) t1)), ("place", o1), ("k", (none : Option Value))]).Nodup := of_decide_eq_true (by kernel_rfl)
    k_steps
    unfold Stop
    rw [hkl5l] at N'
    have nd5 : (((r', rangeObj (kids tu num).length t' u' v') :: W5).map (·.1)).Nodup := by
      rw [List.map_cons, List.nodup_cons]
      exact ⟨fun hm => by obtain ⟨q, hq, e⟩ := List.mem_map.mp hm; exact nr' q hq e, nd4⟩
    have L5 : Std W5 ((r', rangeObj (kids tu num).length t' u' v') :: W5) := Std.refl.cons nr'
    refine forGen (iterRange (r := r') (n := (kids tu num).length) (by omega)) (fun i fl W3 => (∃ o2, fl = ([("number", some (.int (num : Int) t)), ("name", some (.str nm tn)), ("turned", some (.bool tu)), ("planted", some (.ref pl)), ("kids", some (.ref kl)), ("left", some (.int (l0 : Int) t1)), ("place", o1), ("k", o2)] : List (Str × Option Value))) ∧ W3.lookup kl = some (listOf kv2.toArray nk2) ∧ (∃ t u v, W3.lookup r' = some (rangeObj (kids tu num).length t u v)) ∧
        ∃ Tn n', PT Tn (pk f tu num nm i) ∧ (∀ p ∈ Tn, W3.lookup p.1 = some p.2) ∧ (∀ p ∈ Tn, s.heap.get? p.1 = none) ∧ (Tn.map (·.1)).Nodup ∧ W3.lookup pl = some (listOf (vs ++ refs Tn).toArray n'))
      ?_ F' N' nd5 ?_ ?_ ?_ ?_ ?_ ?_ ?_
    · exact hh
    · intro i fl W3 h3 hx9; obtain ⟨_, _, ⟨t6, u6, v6, hl6⟩, _⟩ := hx9; intro _ N3
      exact ⟨t6, u6, v6, nget N3 hl6⟩
    · refine ⟨⟨_, rfl⟩, L5 _ _ hkl5, ⟨_, _, _, by rw [look_cons, if_pos rfl]⟩, [], n, .nil, (fun _ h => nomatch h), (fun _ h => nomatch h), .nil, by show _ = some (listOf (vs ++ []).toArray n); rw [List.append_nil]; exact L5 _ _ hl5⟩
    · intro it o hn6 _
      have L6 := L5.cons (a := it) (o := o) hn6
      refine ⟨⟨_, rfl⟩, L6 _ _ hkl5, ⟨t', u', v', ?_⟩, [], n, .nil, (fun _ h => nomatch h), (fun _ h => nomatch h), .nil, by show _ = some (listOf (vs ++ []).toArray n); rw [List.append_nil]; exact L6 _ _ hl5⟩
      rw [look_cons, if_neg (fun e => hn6 _ (.head _) e), look_cons, if_pos rfl]
    · intro i fl W3 W4 nd6 _ hsim hx9; obtain ⟨hf6, hk6, ⟨t6, u6, v6, hl6⟩, Tn, n', p1, p2, p3, p4, p5⟩ := hx9
      refine ⟨hf6, hsim _ _ (.inl (by simp)) hk6, ⟨t6, u6, v6, hsim _ _ (.inl (by simp)) hl6⟩, Tn, n', p1, fun q hq => hsim _ _ (.inl (by rw [p1.cls q hq]; simp)) (p2 q hq), p3, p4, hsim _ _ (.inl (by simp)) p5⟩
    · intro i v fl W3 h3 tk3 it o hi; rintro ⟨ty, rfl⟩; intro hx9; obtain ⟨⟨o2, rfl⟩, hk3, hr3, Tn, n', p1, p2, p3, p4, p5⟩ := hx9; intro F3 N3 nd3 hlo hco Qf hQf
      clear F' N' nd'
      have F' := F3
      have N' := N3
      clear F3 N3
      obtain ⟨c, tc, hc, ec⟩ := hkv5.at (List.getElem?_eq_getElem (show i < kv2.length by omega))
      have hkc : kv2[i]? = some (.int (c : Int) tc) := by rw [List.getElem?_eq_getElem (show i < kv2.length by omega), ec]
      have hcm := kids_ok h10 h1 (List.mem_of_getElem? hc)
      have hcd : (kids tu num).getD i 0 = c := by rw [List.getD_eq_getElem?_getD, hc]; rfl
      have nd' : (List.map (fun x : Str × Option Value => x.fst) [("number", some (.int (num : Int) t)), ("name", some (.str nm tn)), ("turned", some (.bool tu)), ("planted", some (.ref pl)), ("kids", some (.ref kl)), ("left", some (.int (l0 : Int) t1)), ("place", o1), ("k", o2)]).Nodup := of_decide_eq_true (by kernel_rfl)
      k_steps
      unfold Stop
      have hps := pk_succ (f := f) (tu := tu) (num := num) (nm := nm) hi
      rw [hcd] at hps
      have hle := pk_le (f := f) (tu := tu) (num := num) (nm := nm) (i := i + 1)
      rw [pk_all, List.length_append] at hz
      have hpl := p1.length
      have hpll := congrArg List.length hps
      rw [List.length_append] at hpll
      have hdot : (Str.ofString ".").length = 1 := by decide
      have hkn : (kidName nm i).length ≤ nm.length + 6 := by
        show (nm ++ Str.ofString "." ++ PySem.Txt.mul (Str.ofString "a") ((i : Int) + 1)).length ≤ _
        have hml := (show 0 ≤ (i : Int) + 1 → ((PySem.Txt.mul (Str.ofString "a") ((i : Int) + 1)).length : Int) = ((1 : Nat) : Int) * ((i : Int) + 1) by assumption) (by omega)
        omega
      have hfr6 := hfresh _ F'.keep ⟨_, nget N' p5⟩
      refine wpAny_call (ih (nm := kidName nm i) (vs := vs ++ refs Tn) (n := n') X' T' (fun b o e => F'.keep b o e) (by show A.handled = none; exact hh) (by show A.depth + 1 + 5 * f ≤ 400; omega) (by show A.units + 3 + 10 * f ≤ 4000; omega) hcm.1 (by omega) (by omega) (nget N' p5) (ngone N' p5) (by rw [List.length_append, List.length_map]; omega) (by omega) fun h6 tk6 Tn2 n6 kp6 ht6 nd6 pt6 hp6 => ?_)
      obtain ⟨F6, N6⟩ := after1 F' N' kp6 hp6 (upd_put nd3 p5)
      have hsp : (W3.lookup pl).isSome = true := by rw [p5]; rfl
      have fz : ∀ q ∈ Tn2, q.1 ≠ L' ∧ g'.get? q.1 = none ∧ ∀ z ∈ W3, z.1 ≠ q.1 := fun q hq => fresh_ne F' N' (ht6 q hq).2
      have N7 : News g' L' h6 (Tn2 ++ putW W3 pl (listOf (vs ++ refs Tn ++ refs Tn2).toArray n6)) := fun q hq => by
        rcases List.mem_append.mp hq with hq | hq
        · exact ⟨(ht6 q hq).1, (fz q hq).1, (fz q hq).2.1⟩
        · exact N6 q hq
      have nd7 := nd_app (W := putW W3 pl (listOf (vs ++ refs Tn ++ refs Tn2).toArray n6)) nd6 (by rw [putW_names]; exact nd3) (fun q hq z hz' e => by
        have := List.mem_map_of_mem (f := (·.1)) hz'
        rw [putW_names] at this
        obtain ⟨y, hy, ey⟩ := List.mem_map.mp this
        exact (fz q hq).2.2 y hy (ey.trans e))
      have L7 : ∀ b ob, b ≠ pl → W3.lookup b = some ob → (Tn2 ++ putW W3 pl (listOf (vs ++ refs Tn ++ refs Tn2).toArray n6)).lookup b = some ob := fun b ob hb e => mem_look nd7 (List.mem_append_right _ (look_mem (by rw [look_put hsp, if_neg hb]; exact e)))
      clear F' N'
      have F' := F6
      have N' := N7
      clear F6 N7 N6
      dsimp only
      k_steps
      refine ⟨_, _, _, _, rfl, F', N', nd7, L7 _ _ (lk_ne hlo p5 (by rw [hco]; simp)) hlo, ⟨_, rfl⟩, L7 _ _ (hne5.symm) hk3, ?_, Tn ++ Tn2, n6, ?_, ?_, ?_, ?_, ?_⟩
      · obtain ⟨t6, u6, v6, hr6⟩ := hr3
        exact ⟨t6, u6, v6, L7 _ _ (lk_ne hr6 p5 (by simp)) hr6⟩
      · rw [hps]; exact p1.append pt6
      · intro q hq
        rcases List.mem_append.mp hq with hq | hq
        · exact L7 _ _ (lk_ne (p2 q hq) p5 (by rw [p1.cls q hq]; simp)) (p2 q hq)
        · exact mem_look nd7 (List.mem_append_left _ hq)
      · intro q hq
        rcases List.mem_append.mp hq with hq | hq
        · exact p3 q hq
        · exact hfr6 _ (ht6 q hq).2
      · rw [List.map_append, List.nodup_append]
        refine ⟨p4, nd6, fun a ha b hb e => ?_⟩
        obtain ⟨q, hq, rfl⟩ := List.mem_map.mp ha
        obtain ⟨z, hz', rfl⟩ := List.mem_map.mp hb
        exact (fz z hz').2.2 _ (look_mem (p2 q hq)) e
      · refine mem_look nd7 (List.mem_append_right _ (look_mem ?_))
        have er : refs (Tn ++ Tn2) = refs Tn ++ refs Tn2 := List.map_append
        rw [look_put hsp, if_pos rfl, er, List.append_assoc]
    · intro fl W3 h3 tk3 hx9; obtain ⟨⟨o2, rfl⟩, hk3, hr3, Tn, n', p1, p2, p3, p4, p5⟩ := hx9; intro F3 N3 nd3
      clear F' N' nd'
      have F' := F3
      have N' := N3
      clear F3 N3
      have hpl := p1.length
      rw [pk_all, List.length_append] at hz
      have hlen8 : (vs ++ refs Tn).length ≤ 1000 := by rw [List.length_append, List.length_map]; omega
      have nd' : (List.map (fun x : Str × Option Value => x.fst) [("number", some (.int (num : Int) t)), ("name", some (.str nm tn)), ("turned", some (.bool tu)), ("planted", some (.ref pl)), ("kids", some (.ref kl)), ("left", some (.int (l0 : Int) t1)), ("place", o1), ("k", o2)]).Nodup := of_decide_eq_true (by kernel_rfl)
      k_steps
      rename_i D _h9 F9 N9 l9
      unfold Stop
      have hDp : pl ≠ D := Nat.ne_of_lt (l9 _ (look_mem p5))
      have L9 : Std W3 ((D, tupObj [.str nm tn, .int (num : Int) t]) :: W3) := Std.refl.cons fun q hq => Nat.ne_of_lt (l9 q hq)
      have nd9 : (((D, tupObj [.str nm tn, .int (num : Int) t]) :: W3).map (·.1)).Nodup := by
        rw [List.map_cons, List.nodup_cons]
        exact ⟨fun hm => by obtain ⟨q, hq, e⟩ := List.mem_map.mp hm; exact Nat.ne_of_lt (l9 q hq) e, nd3⟩
      have p9 := L9 _ _ p5
      have hD9 : ((D, tupObj [.str nm tn, .int (num : Int) t]) :: W3).lookup D = some (tupObj [.str nm tn, .int (num : Int) t]) := by rw [look_cons, if_pos rfl]
      have gD := (N9 _ (.head _)).2.2
      have F' := F9
      have N' := N9
      clear F9 N9
      k_steps
      have hpD : s.heap.get? D = none := by
        cases e : s.heap.get? D with
        | none => rfl
        | some ob =>
          have := kp' D ob e (fun q hq => by rw [List.mem_singleton] at hq; subst hq; exact hDp)
          rw [this] at gD; cases gD
      refine hR _ _ (Tn ++ [(D, tupObj [.str nm tn, .int (num : Int) t])]) (n' + 1) (fun b o hb e => F'.keep b o (kp' b o e (fun q hq => by rw [List.mem_singleton] at hq; subst hq; exact fun z => hb z.symm))) (fun q hq => ?_) ?_ ?_ ?_
      · rcases List.mem_append.mp hq with hq | hq
        · exact ⟨nget N' ((hB' _ (lk_ne (p2 q hq) p5 (by rw [p1.cls q hq]; simp))).trans (L9 _ _ (p2 q hq))), p3 q hq⟩
        · rw [List.mem_singleton] at hq; subst hq
          exact ⟨nget N' ((hB' _ hDp.symm).trans hD9), hpD⟩
      · rw [List.map_append, List.nodup_append]
        refine ⟨p4, by simp, fun a ha b hb e => ?_⟩
        obtain ⟨q, hq, rfl⟩ := List.mem_map.mp ha
        simp at hb; subst hb
        exact Nat.ne_of_lt (l9 _ (look_mem (p2 q hq))) e
      · rw [pk_all]
        exact p1.append (.cons .nil)
      · have er : refs (Tn ++ [(D, tupObj [.str nm tn, .int (num : Int) t])]) = refs Tn ++ [.ref D] := List.map_append
        rw [er, ← List.append_assoc]
        exact nget N' hA'
    · exact fun _ _ => rfl
  · exact fun _ _ => rfl
end
theorem kz_zc_plant : True := by
  k_with "zc_plant" => skip
  trivial
theorem kl_zk_forest : True := by
  k_with "lia" => ((fail_if_success k_extra "zk_forest"); lia)
  trivial
/-! the forest answers: plain law of what is planted -/
abbrev NT := Str × Nat
noncomputable def depL (L : List NT) (nm : Str) : Nat := L.countP fun p => hit p.1 nm
noncomputable def pstep (L : List NT) (e : NT) (a : Int) (y : NT) : Int := if y.1 ≠ e.1 ∧ hit e.1 y.1 = true ∧ depL L y.1 = depL L e.1 + 1 then a * prim y.2 else a
noncomputable def prodF (L : List NT) (e : NT) : Int := L.foldl (pstep L e) 1
noncomputable def lead (nm : Str) : Nat := (nm.cps.toList.takeWhile fun c => c == 97).length
structure Good (L : List NT) (tops : List Nat) (lo : Nat) : Prop where
  nd : (L.map (·.1)).Nodup
  num : ∀ e ∈ L, prodF L e = (e.2 : Int)
  less : ∀ e ∈ L, ∀ y ∈ L, hit e.1 y.1 = true → e.1 ≠ y.1 → y.2 < e.2
  trans : ∀ x ∈ L, ∀ y ∈ L, ∀ z ∈ L, hit x.1 y.1 = true → hit y.1 z.1 = true → hit x.1 z.1 = true
  le10 : ∀ e ∈ L, e.2 ≤ 10
  lead : ∀ e ∈ L, lead e.1 ≤ lo
  top : ((L.filter fun e => decide (depL L e.1 = 1)).map (·.2)).Perm tops
  len : L.length ≤ 13 * tops.length
noncomputable def rootName (k : Nat) : Str := PySem.Txt.mul (Str.ofString "a") ((k : Int) + 1)
@[reducible] noncomputable def Chk (L : List NT) (num k : Nat) : Prop := (L.map (·.1)).Nodup ∧ (∀ e ∈ L, prodF L e = (e.2 : Int)) ∧ (∀ e ∈ L, ∀ y ∈ L, hit e.1 y.1 = true → e.1 ≠ y.1 → y.2 < e.2) ∧ (∀ x ∈ L, ∀ y ∈ L, ∀ z ∈ L, hit x.1 y.1 = true → hit y.1 z.1 = true → hit x.1 z.1 = true) ∧ (∀ e ∈ L, e.2 ≤ 10) ∧ (∀ e ∈ L, lead e.1 = k) ∧ (L.filter fun e => decide (depL L e.1 = 1)).map (·.2) = [num] ∧ L.length ≤ 13
theorem chk_all : ∀ num : Fin 11, ∀ tu : Bool, ∀ k : Fin 3, 1 ≤ num.1 → Chk (plant 10 tu num.1 (rootName k.1)) num.1 (k.1 + 1) := by decide +kernel
theorem depL_app {A T B : List NT} {nm : Str} (hA : ∀ a ∈ A, hit a.1 nm = false) (hB : ∀ a ∈ B, hit a.1 nm = false) : depL (A ++ T ++ B) nm = depL T nm := by
  unfold depL
  have h1 : A.countP (fun p => hit p.1 nm) = 0 := List.countP_eq_zero.mpr fun a ha => by rw [hA a ha]; decide
  have h2 : B.countP (fun p => hit p.1 nm) = 0 := List.countP_eq_zero.mpr fun a ha => by rw [hB a ha]; decide
  rw [List.countP_append, List.countP_append, h1, h2]
  omega
theorem foldl_same {α β : Type} {f f' : β → α → β} : ∀ {l : List α} {b : β}, (∀ a ∈ l, ∀ z, f z a = f' z a) → l.foldl f b = l.foldl f' b
  | [], _, _ => rfl
  | a :: l, b, h => by
    rw [List.foldl_cons, List.foldl_cons, h a (.head _)]
    exact foldl_same fun c hc z => h c (.tail _ hc) z
theorem foldl_noop {α β : Type} {f : β → α → β} : ∀ {l : List α} {b : β}, (∀ a ∈ l, ∀ z, f z a = z) → l.foldl f b = b
  | [], _, _ => rfl
  | a :: l, b, h => by
    rw [List.foldl_cons, h a (.head _)]
    exact foldl_noop fun c hc z => h c (.tail _ hc) z
noncomputable def Foreign (A B : List NT) : Prop := ∀ a ∈ A, ∀ b ∈ B, hit a.1 b.1 = false ∧ hit b.1 a.1 = false
theorem depL_left {A B : List NT} (h : Foreign A B) {e : NT} (he : e ∈ A) : depL (A ++ B) e.1 = depL A e.1 := by
  have := depL_app (A := []) (T := A) (B := B) (nm := e.1) nofun fun b hb => (h e he b hb).2
  simpa using this
theorem depL_right {A B : List NT} (h : Foreign A B) {e : NT} (he : e ∈ B) : depL (A ++ B) e.1 = depL B e.1 := by
  have := depL_app (A := A) (T := B) (B := []) (nm := e.1) (fun a ha => (h a ha e he).1) nofun
  simpa using this
theorem pstep_far {L : List NT} {e y : NT} {a : Int} (h : hit e.1 y.1 = false) : pstep L e a y = a := if_neg fun q => by rw [h] at q; exact absurd q.2.1 (by decide)
theorem prodF_left {A B : List NT} (h : Foreign A B) {e : NT} (he : e ∈ A) : prodF (A ++ B) e = prodF A e := by
  unfold prodF
  rw [List.foldl_append, foldl_noop (l := B) fun b hb z => pstep_far (h e he b hb).1]
  refine foldl_same fun y hy z => ?_
  unfold pstep
  rw [depL_left h hy, depL_left h he]
theorem prodF_right {A B : List NT} (h : Foreign A B) {e : NT} (he : e ∈ B) : prodF (A ++ B) e = prodF B e := by
  unfold prodF
  rw [List.foldl_append, foldl_noop (l := A) fun b hb z => pstep_far (h b hb e he).2]
  refine foldl_same fun y hy z => ?_
  unfold pstep
  rw [depL_right h hy, depL_right h he]
theorem Good.nil : Good [] [] 0 := ⟨.nil, nofun, nofun, nofun, nofun, nofun, .refl _, Nat.le_refl _⟩
theorem hit_refl (x : Str) : hit x x = true := by unfold hit; simp
theorem Good.append {A B : List NT} {S : List Nat} {lo num k : Nat} (g : Good A S lo) (c : Chk B num k) (hk : lo ≤ k) (f : Foreign A B) : Good (A ++ B) (S ++ [num]) k := by
  obtain ⟨cnd, cnum, cless, ctr, c10, clead, ctop, clen⟩ := c
  refine ⟨?_, fun e he => ?_, fun e he y hy h1 h2 => ?_, fun x hx y hy z hz h1 h2 => ?_, fun e he => ?_, fun e he => ?_, ?_, ?_⟩
  · rw [List.map_append, List.nodup_append]
    refine ⟨g.nd, cnd, fun a ha b hb e => ?_⟩
    obtain ⟨p, hp, rfl⟩ := List.mem_map.mp ha
    obtain ⟨q, hq, e2⟩ := List.mem_map.mp hb
    have := (f p hp q hq).1
    rw [e2, ← e, hit_refl] at this; cases this
  · rcases List.mem_append.mp he with he | he
    · rw [prodF_left f he]; exact g.num e he
    · rw [prodF_right f he]; exact cnum e he
  · rcases List.mem_append.mp he with he | he <;> rcases List.mem_append.mp hy with hy | hy
    · exact g.less e he y hy h1 h2
    · rw [(f e he y hy).1] at h1; cases h1
    · rw [(f y hy e he).2] at h1; cases h1
    · exact cless e he y hy h1 h2
  · rcases List.mem_append.mp hx with hx | hx <;> rcases List.mem_append.mp hy with hy | hy <;> rcases List.mem_append.mp hz with hz | hz
    · exact g.trans x hx y hy z hz h1 h2
    · rw [(f y hy z hz).1] at h2; cases h2
    · rw [(f x hx y hy).1] at h1; cases h1
    · rw [(f x hx y hy).1] at h1; cases h1
    · rw [(f y hy x hx).2] at h1; cases h1
    · rw [(f y hy x hx).2] at h1; cases h1
    · rw [(f z hz y hy).2] at h2; cases h2
    · exact ctr x hx y hy z hz h1 h2
  · rcases List.mem_append.mp he with he | he
    · exact g.le10 e he
    · exact c10 e he
  · rcases List.mem_append.mp he with he | he
    · exact Nat.le_trans (g.lead e he) hk
    · exact Nat.le_of_eq (clead e he)
  · have e1 : (A.filter fun e => decide (depL (A ++ B) e.1 = 1)) = A.filter fun e => decide (depL A e.1 = 1) := List.filter_congr fun e he => by rw [depL_left f he]
    have e2 : (B.filter fun e => decide (depL (A ++ B) e.1 = 1)) = B.filter fun e => decide (depL B e.1 = 1) := List.filter_congr fun e he => by rw [depL_right f he]
    rw [List.filter_append, List.map_append, e1, e2, ctop]
    exact g.top.append_right _
  · have := g.len
    simp only [List.length_append, List.length_singleton] at *
    omega
/-! the a's at the head of a name tell its tree -/
theorem lead_dot {x m : List Nat} (h : (x ++ [46]) <+: m) : (m.takeWhile fun c => c == 97).length = (x.takeWhile fun c => c == 97).length := by
  obtain ⟨r, rfl⟩ := h
  induction x with
  | nil => rfl
  | cons a x ih =>
    simp only [List.cons_append, List.takeWhile_cons]
    split
    · simp only [List.length_cons]; rw [ih]
    · rfl
theorem cps_app (a b : Str) : (a ++ b).cps.toList = a.cps.toList ++ b.cps.toList := by
  show (a.cps ++ b.cps).toList = _
  rw [Array.toList_append]
theorem hit_lead {x m : Str} (h : hit x m = true) : lead m = lead x := by
  unfold hit at h
  rw [Bool.or_eq_true] at h
  rcases h with h | h
  · rw [eq_of_beq h]
  · unfold PySem.Txt.startswith at h
    rw [Bool.and_eq_true] at h
    have h2 := h.2
    rw [PySem.StrLaws.subAt_eq, List.drop_zero] at h2
    have h3 := eq_of_beq h2
    refine lead_dot (x := x.cps.toList) ?_
    have e : (x ++ Str.ofString ".").cps.toList = x.cps.toList ++ [46] := by
      rw [cps_app]; congr 1
    rw [← e, ← h3]
    exact List.take_prefix _ _
theorem foreign_lead {A B : List NT} {lo k : Nat} (hA : ∀ e ∈ A, lead e.1 ≤ lo) (hB : ∀ e ∈ B, lead e.1 = k) (h : lo < k) : Foreign A B := fun a ha b hb => by
  have h1 := hA a ha
  have h2 := hB b hb
  constructor
  · cases e : hit a.1 b.1 with
    | false => rfl
    | true => have := hit_lead e; omega
  · cases e : hit b.1 a.1 with
    | false => rfl
    | true => have := hit_lead e; omega
noncomputable def planted (tu : Bool) (tops : List Nat) (i : Nat) : List NT := ((List.range tops.length).take i).flatMap fun k => plant 10 tu (tops.getD k 0) (rootName k)
theorem planted_succ {tu : Bool} {tops : List Nat} {i : Nat} (hi : i < tops.length) : planted tu tops (i + 1) = planted tu tops i ++ plant 10 tu (tops.getD i 0) (rootName i) := by
  unfold planted
  rw [List.take_add_one, List.getElem?_range hi]
  simp
theorem planted_good {tu : Bool} {tops : List Nat} (h3 : tops.length ≤ 3) (ht : ∀ t ∈ tops, 1 ≤ t ∧ t ≤ 10) : ∀ i, i ≤ tops.length → Good (planted tu tops i) (tops.take i) i
  | 0, _ => by
    have : planted tu tops 0 = [] := by unfold planted; rw [List.take_zero]; rfl
    rw [this, List.take_zero]; exact Good.nil
  | i + 1, hi => by
    have g := planted_good (tu := tu) h3 ht i (by omega)
    have hx : tops[i]? = some (tops.getD i 0) := by
      rw [List.getD_eq_getElem?_getD, List.getElem?_eq_getElem (by omega)]; rfl
    have hm := ht _ (List.mem_of_getElem? hx)
    rw [planted_succ (by omega)]
    have e : tops.take (i + 1) = tops.take i ++ [tops.getD i 0] := by rw [List.take_add_one, hx]; rfl
    rw [e]
    have c : Chk (plant 10 tu (tops.getD i 0) (rootName i)) (tops.getD i 0) (i + 1) := chk_all ⟨tops.getD i 0, by omega⟩ tu ⟨i, by omega⟩ hm.1
    exact g.append c (by omega) (foreign_lead g.lead c.2.2.2.2.2.1 (by omega))
/-! turned round -/
theorem prodF_perm {A B : List NT} (p : A.Perm B) (e : NT) : prodF A e = prodF B e := by
  unfold prodF
  have hd : ∀ nm, depL A nm = depL B nm := fun nm => p.countP_eq _
  rw [p.foldl_eq' fun x _ y _ z => by
    unfold pstep
    split <;> split <;> first | rfl | (rw [Int.mul_assoc, Int.mul_assoc, Int.mul_comm (prim _) (prim _)])]
  refine foldl_same fun y _ z => ?_
  unfold pstep
  rw [hd, hd]
theorem Good.perm {A B : List NT} {S : List Nat} {lo : Nat} (g : Good A S lo) (p : A.Perm B) : Good B S lo := by
  have hd : ∀ nm, depL B nm = depL A nm := fun nm => (p.countP_eq _).symm
  refine ⟨(p.map _).nodup_iff.mp g.nd, fun e he => ?_, fun e he y hy => g.less e (p.mem_iff.mpr he) y (p.mem_iff.mpr hy), fun x hx y hy z hz => g.trans x (p.mem_iff.mpr hx) y (p.mem_iff.mpr hy) z (p.mem_iff.mpr hz), fun e he => g.le10 e (p.mem_iff.mpr he), fun e he => g.lead e (p.mem_iff.mpr he), ?_, by rw [← p.length_eq]; exact g.len⟩
  · rw [← prodF_perm p]; exact g.num e (p.mem_iff.mpr he)
  · have : (B.filter fun e => decide (depL B e.1 = 1)) = B.filter fun e => decide (depL A e.1 = 1) := List.filter_congr fun e _ => by rw [hd]
    rw [this]
    exact ((p.symm.filter _).map _).trans g.top
/-! by places -/
noncomputable def at' (F : List NT) (x : Nat) : NT := F.getD x (⟨#[]⟩, 0)
theorem at_get {F : List NT} {x : Nat} (h : x < F.length) : F[x]? = some (at' F x) := by
  unfold at'
  rw [List.getD_eq_getElem?_getD, List.getElem?_eq_getElem h]; rfl
theorem at_mem {F : List NT} {x : Nat} (h : x < F.length) : at' F x ∈ F := List.mem_of_getElem? (at_get h)
theorem at_map (F : List NT) : (List.range F.length).map (at' F) = F := by
  refine List.ext_getElem? fun i => ?_
  by_cases h : i < F.length
  · rw [List.getElem?_map, List.getElem?_range h, at_get h]; rfl
  · rw [List.getElem?_eq_none (by simp; omega), List.getElem?_eq_none (by omega)]
theorem at_inj {F : List NT} (nd : (F.map (·.1)).Nodup) {x y : Nat} (hx : x < F.length) (hy : y < F.length) (e : (at' F x).1 = (at' F y).1) : x = y := by
  have h1 : (F.map (·.1))[x]? = some (at' F x).1 := by rw [List.getElem?_map, at_get hx]; rfl
  have h2 : (F.map (·.1))[y]? = some (at' F y).1 := by rw [List.getElem?_map, at_get hy]; rfl
  rw [e] at h1
  exact (List.getElem?_inj (by simpa using hx) nd).mp (h1.trans h2.symm)
noncomputable def mF (F : List NT) (x y : Nat) : Bool := hit (at' F x).1 (at' F y).1
noncomputable def dF (F : List NT) (y : Nat) : Nat := depL F (at' F y).1
noncomputable def nF (F : List NT) (x : Nat) : Nat := (at' F x).2
theorem Good.tree {F : List NT} {S : List Nat} {lo : Nat} (g : Good F S lo) (hS : S.length ≤ 3) : Tree F.length (mF F) (dF F) (nF F) := by
  have inj : ∀ {x y}, x < F.length → y < F.length → x ≠ y → (at' F x).1 ≠ (at' F y).1 := fun hx hy h e => h (at_inj g.nd hx hy e)
  refine ⟨by have := g.len; omega, fun x => ?_, fun y x h => g.less _ (at_mem h.2.1) _ (at_mem h.1) h.2.2.2 (inj h.2.1 h.1 h.2.2.1.symm), fun z y x h k => ?_, fun tv x hx htv => ?_⟩
  · by_cases h : x < F.length
    · exact g.le10 _ (at_mem h)
    · unfold nF at'
      rw [List.getD_eq_getElem?_getD, List.getElem?_eq_none (by omega)]; decide
  · refine ⟨h.1, k.2.1, fun e => ?_, g.trans _ (at_mem k.2.1) _ (at_mem k.1) _ (at_mem h.1) k.2.2.2 h.2.2.2⟩
    subst e
    have h1 := g.less _ (at_mem h.2.1) _ (at_mem h.1) h.2.2.2 (inj h.2.1 h.1 h.2.2.1.symm)
    have h2 := g.less _ (at_mem k.2.1) _ (at_mem k.1) k.2.2.2 (inj k.2.1 k.1 k.2.2.1.symm)
    omega
  · have h1 := g.num _ (at_mem hx)
    show numF F.length (mF F) (dF F) tv x = ((at' F x).2 : Int)
    rw [← h1]
    unfold numF prodF
    conv => rhs; rw [← at_map F, List.foldl_map]
    rw [at_map F]
    refine foldl_same fun y hy z => ?_
    have hy' := List.mem_range.mp hy
    unfold numS pstep
    by_cases c : y ≠ x ∧ mF F x y = true ∧ dF F y = dF F x + 1
    · rw [if_pos c, if_pos ⟨fun e => c.1 (at_inj g.nd hy' hx e), c.2.1, c.2.2⟩, htv y ⟨hy', hx, c.1, c.2.1⟩]
      rfl
    · rw [if_neg c, if_neg fun q => c ⟨fun e => q.1 (by rw [e]), q.2.1, q.2.2⟩]
theorem Good.whole {F : List NT} {S : List Nat} {lo : Nat} (g : Good F S lo) : (List.range F.length).foldl (fun a x => if dF F x = 1 then a * prim (nF F x) else a) 1 = S.foldl (fun a t => a * prim t) 1 := by
  have e1 : (List.range F.length).foldl (fun a x => if dF F x = 1 then a * prim (nF F x) else a) (1 : Int) = F.foldl (fun a e => if depL F e.1 = 1 then a * prim e.2 else a) 1 := by
    conv => rhs; rw [← at_map F, List.foldl_map]
    rw [at_map F]
    rfl
  have e2 : ∀ (l : List NT) (b : Int), l.foldl (fun a e => if depL F e.1 = 1 then a * prim e.2 else a) b = ((l.filter fun e => decide (depL F e.1 = 1)).map (·.2)).foldl (fun a t => a * prim t) b := by
    intro l
    induction l with
    | nil => intro b; rfl
    | cons a l ih =>
      intro b
      rw [List.foldl_cons, List.filter_cons]
      by_cases c : depL F a.1 = 1
      · rw [if_pos c, if_pos (decide_eq_true c), List.map_cons, List.foldl_cons]; exact ih _
      · rw [if_neg c, if_neg (by simpa using c)]; exact ih _
  rw [e1, e2]
  exact g.top.foldl_eq' (fun x _ y _ z => by rw [Int.mul_assoc, Int.mul_assoc, Int.mul_comm (prim _) (prim _)]) _
theorem rot_perm {α : Type} (l : List α) (k : Nat) : l.Perm (l.drop k ++ l.take k) := by
  conv => lhs; rw [← List.take_append_drop k l]
  exact List.perm_append_comm
theorem kz_zk_forest : True := by
  k_with "zk_forest" => skip
  trivial
/-! the law's own ledger: its five cells, and what stands -/
noncomputable def Kr (o : Obj) : Prop := (∀ xs, o.data ≠ .fields xs) ∨ o.cls = .type "range"
theorem Kr.not {o : Obj} {T : String} {xs : Array Value} (hc : o.cls = .type T) (hd : o.data = .fields xs) (hT : T ≠ "range") : ¬ Kr o := fun h => h.elim (fun h => h _ hd) fun h => by rw [hc] at h; cases h; exact hT rfl
structure LW (V Z : List (Addr × Obj)) (L : Addr) (vs vf vr vd vx : Option Value) : Prop where
  nd : (V.map (·.1)).Nodup
  cs : ∃ o, V.lookup (L + 1) = some o ∧ o.data = .cell vs
  cf : ∃ o, V.lookup (L + 1 + 1) = some o ∧ o.data = .cell vf
  cr : ∃ o, V.lookup (L + 1 + 1 + 1) = some o ∧ o.data = .cell vr
  cd : ∃ o, V.lookup (L + 1 + 1 + 1 + 1) = some o ∧ o.data = .cell vd
  cx : ∃ o, V.lookup (L + 1 + 1 + 1 + 1 + 1) = some o ∧ o.data = .cell vx
  z : ∀ p ∈ Z, V.lookup p.1 = some p.2
  zk : ∀ p ∈ Z, (∀ v, p.2.data ≠ .cell v) ∧ Kr p.2
theorem five_ne (n : Nat) : n + 1 ≠ n + 1 + 1 ∧ n + 1 ≠ n + 1 + 1 + 1 ∧ n + 1 ≠ n + 1 + 1 + 1 + 1 ∧ n + 1 ≠ n + 1 + 1 + 1 + 1 + 1 := by omega
section
variable {V V' Z : List (Addr × Obj)} {L : Addr} {vs vf vr vd vx : Option Value}
theorem LW.mono (h : LW V Z L vs vf vr vd vx) (nd : (V'.map (·.1)).Nodup) (K : ∀ b o, Kr o → V.lookup b = some o → V'.lookup b = some o) : LW V' Z L vs vf vr vd vx := by
  have c : ∀ {b : Addr} {v : Option Value}, (∃ o, V.lookup b = some o ∧ o.data = .cell v) → ∃ o, V'.lookup b = some o ∧ o.data = .cell v := fun ⟨o, e, d⟩ => ⟨o, K _ _ (.inl fun xs q => by rw [d] at q; cases q) e, d⟩
  refine ⟨nd, c h.cs, c h.cf, c h.cr, c h.cd, c h.cx, fun p hp => K _ _ (h.zk p hp).2 (h.z p hp), h.zk⟩
theorem LW.std (h : LW V Z L vs vf vr vd vx) (nd : (V'.map (·.1)).Nodup) (K : Std V V') : LW V' Z L vs vf vr vd vx := h.mono nd fun b o _ e => K b o e
theorem LW.push {a : Addr} {o : Obj} (h : LW V Z L vs vf vr vd vx) (hn : ∀ p ∈ V, p.1 ≠ a) : LW ((a, o) :: V) Z L vs vf vr vd vx :=
  h.std (by
    rw [List.map_cons, List.nodup_cons]
    exact ⟨fun hm => by obtain ⟨p, hp, e⟩ := List.mem_map.mp hm; exact hn p hp e, h.nd⟩) (Std.refl.cons hn)
theorem LW.add {a : Addr} {o : Obj} (h : LW V Z L vs vf vr vd vx) (ha : V.lookup a = some o) (hc : ∀ v, o.data ≠ .cell v) (hk : Kr o) : LW V ((a, o) :: Z) L vs vf vr vd vx :=
  ⟨h.nd, h.cs, h.cf, h.cr, h.cd, h.cx, fun p hp => (List.mem_cons.mp hp).elim (fun e => by subst e; exact ha) (h.z p), fun p hp => (List.mem_cons.mp hp).elim (fun e => by subst e; exact ⟨hc, hk⟩) (h.zk p)⟩
theorem LW.addL {a : Addr} {us : Array Value} {n : Nat} (h : LW V Z L vs vf vr vd vx) (ha : V.lookup a = some (listOf us n)) : LW V ((a, listOf us n) :: Z) L vs vf vr vd vx := h.add ha (fun _ e => nomatch e) (.inl fun _ e => nomatch e)
theorem LW.addT {a : Addr} {us : List Value} (h : LW V Z L vs vf vr vd vx) (ha : V.lookup a = some (tupObj us)) : LW V ((a, tupObj us) :: Z) L vs vf vr vd vx := h.add ha (fun _ e => nomatch e) (.inl fun _ e => nomatch e)
theorem LW.addR {a : Addr} {k : Int} {t u v : Tok} (h : LW V Z L vs vf vr vd vx) (ha : V.lookup a = some (rangeObj k t u v)) : LW V ((a, rangeObj k t u v) :: Z) L vs vf vr vd vx := h.add ha (fun _ e => nomatch e) (.inr rfl)
theorem LW.sub {Z' : List (Addr × Obj)} (h : LW V Z L vs vf vr vd vx) (hz : ∀ p ∈ Z', p ∈ Z) : LW V Z' L vs vf vr vd vx := ⟨h.nd, h.cs, h.cf, h.cr, h.cd, h.cx, fun p hp => h.z p (hz p hp), fun p hp => h.zk p (hz p hp)⟩
theorem LW.drop {p : Addr × Obj} (h : LW V (p :: Z) L vs vf vr vd vx) : LW V Z L vs vf vr vd vx := h.sub fun q hq => .tail _ hq
theorem LW.look {p : Addr × Obj} (h : LW V (p :: Z) L vs vf vr vd vx) : V.lookup p.1 = some p.2 := h.z p (.head _)
theorem LW.cell {c : Addr} {v0 : Option Value} {o o' : Obj} (h : LW V Z L vs vf vr vd vx) (hc : V.lookup c = some o) (hd : o.data = .cell v0) :
    ((putW V c o').map (·.1)).Nodup ∧ (putW V c o').lookup c = some o' ∧ (∀ b, b ≠ c → (putW V c o').lookup b = V.lookup b) ∧ ∀ p ∈ Z, (putW V c o').lookup p.1 = some p.2 := by
  have hs : (V.lookup c).isSome = true := by rw [hc]; rfl
  have K : ∀ b, b ≠ c → (putW V c o').lookup b = V.lookup b := fun b hb => by rw [look_put hs, if_neg hb]
  refine ⟨by rw [putW_names]; exact h.nd, by rw [look_put hs, if_pos rfl], K, fun p hp => ?_⟩
  rw [K _ fun q => ?_]
  · exact h.z p hp
  · have := h.z p hp
    rw [q, hc] at this; cases this
    exact (h.zk p hp).1 _ hd
theorem LW.setF {v : Value} {o o' : Obj} (h : LW V Z L vs vf vr vd vx) (hc : V.lookup (L + 1 + 1) = some o) (hd : o.data = .cell vf) (hd' : o'.data = .cell (some v)) : LW (putW V (L + 1 + 1) o') Z L vs (some v) vr vd vx := by
  obtain ⟨nd, e1, K, hz⟩ := h.cell (o' := o') hc hd
  have n0 := five_ne L
  have n1 := five_ne (L + 1)
  refine ⟨nd, by rw [K _ n0.1]; exact h.cs, ⟨o', e1, hd'⟩, by rw [K _ n1.1.symm]; exact h.cr, by rw [K _ n1.2.1.symm]; exact h.cd, by rw [K _ n1.2.2.1.symm]; exact h.cx, hz, h.zk⟩
theorem LW.setR {v : Value} {o o' : Obj} (h : LW V Z L vs vf vr vd vx) (hc : V.lookup (L + 1 + 1 + 1) = some o) (hd : o.data = .cell vr) (hd' : o'.data = .cell (some v)) : LW (putW V (L + 1 + 1 + 1) o') Z L vs vf (some v) vd vx := by
  obtain ⟨nd, e1, K, hz⟩ := h.cell (o' := o') hc hd
  have n0 := five_ne L
  have n1 := five_ne (L + 1)
  have n2 := five_ne (L + 1 + 1)
  refine ⟨nd, by rw [K _ n0.2.1]; exact h.cs, by rw [K _ n1.1]; exact h.cf, ⟨o', e1, hd'⟩, by rw [K _ n2.1.symm]; exact h.cd, by rw [K _ n2.2.1.symm]; exact h.cx, hz, h.zk⟩
theorem LW.setD {v : Value} {o o' : Obj} (h : LW V Z L vs vf vr vd vx) (hc : V.lookup (L + 1 + 1 + 1 + 1) = some o) (hd : o.data = .cell vd) (hd' : o'.data = .cell (some v)) : LW (putW V (L + 1 + 1 + 1 + 1) o') Z L vs vf vr (some v) vx := by
  obtain ⟨nd, e1, K, hz⟩ := h.cell (o' := o') hc hd
  have n0 := five_ne L
  have n1 := five_ne (L + 1)
  have n2 := five_ne (L + 1 + 1)
  have n3 := five_ne (L + 1 + 1 + 1)
  refine ⟨nd, by rw [K _ n0.2.2.1]; exact h.cs, by rw [K _ n1.2.1]; exact h.cf, by rw [K _ n2.1]; exact h.cr, ⟨o', e1, hd'⟩, by rw [K _ n3.1.symm]; exact h.cx, hz, h.zk⟩
theorem LW.setX {v : Value} {o o' : Obj} (h : LW V Z L vs vf vr vd vx) (hc : V.lookup (L + 1 + 1 + 1 + 1 + 1) = some o) (hd : o.data = .cell vx) (hd' : o'.data = .cell (some v)) : LW (putW V (L + 1 + 1 + 1 + 1 + 1) o') Z L vs vf vr vd (some v) := by
  obtain ⟨nd, e1, K, hz⟩ := h.cell (o' := o') hc hd
  have n0 := five_ne L
  have n1 := five_ne (L + 1)
  have n2 := five_ne (L + 1 + 1)
  have n3 := five_ne (L + 1 + 1 + 1)
  refine ⟨nd, by rw [K _ n0.2.2.2]; exact h.cs, by rw [K _ n1.2.2.1]; exact h.cf, by rw [K _ n2.2.1]; exact h.cr, by rw [K _ n3.1]; exact h.cd, ⟨o', e1, hd'⟩, hz, h.zk⟩
theorem LW.comp {V0 : List (Addr × Obj)} {it D Cc : Addr} (h : LW V Z L vs vf vr vd vx) (h0 : LW V0 Z L vs vf vr vd vx) (hap : ∀ p ∈ V0, p.1 ≠ it ∧ p.1 ≠ D ∧ p.1 ≠ Cc) (nd : (V'.map (·.1)).Nodup) (K : ∀ b o, (b ≠ it ∧ b ≠ D ∧ b ≠ Cc) → V.lookup b = some o → V'.lookup b = some o) : LW V' Z L vs vf vr vd vx := by
  have c : ∀ {b : Addr} {v : Option Value}, (∃ o, V0.lookup b = some o ∧ o.data = .cell v) → (∃ o, V.lookup b = some o ∧ o.data = .cell v) → ∃ o, V'.lookup b = some o ∧ o.data = .cell v := fun ⟨_, e0, _⟩ ⟨o, e, d⟩ => ⟨o, K _ _ (hap _ (look_mem e0)) e, d⟩
  refine ⟨nd, c h0.cs h.cs, c h0.cf h.cf, c h0.cr h.cr, c h0.cd h.cd, c h0.cx h.cx, fun p hp => K _ _ (hap _ (look_mem (h0.z p hp))) (h.z p hp), h.zk⟩
end
section
variable {w : World} {A : Around} {E : Value → Shared → Prop} {s : Shared} {g : Heap} {L : Addr} {m : Str → Option Value} {V : List (Addr × Obj)} {x : Str} {v : Value}
theorem stXC {cn : Str} {cs : Scope} {fa c : Addr} {ccd : Value} {cl : List (Str × Addr)} {o : Obj} {v0 : Option Value} {Q : Unit → Shared → Prop} (F : Fr g L s.heap m) (N : News g L s.heap V) (nd : (V.map (·.1)).Nodup) (hc : cl.lookup x = some c) (hC : V.lookup c = some o) (hd : o.data = .cell v0)
    (h : ∀ h' o', o'.data = .cell (some v) → Fr g L h' m → News g L h' (putW V c o') → Q () { s with heap := h' })
    (hk : cs.kind = .function) (hl : (envX cn cs L fa ccd cl).kindOf x = some .cell) : wpAny (model PG w) A (storeName (envX cn cs L fa ccd cl) x v) Q E s := by
  refine wpAny_storeName_cell (env := envX cn cs L fa ccd cl) hk hl hc ⟨o, nget N hC, hd⟩ fun h' ⟨o', ho', hd'⟩ hs => ?_
  obtain ⟨F', N', _⟩ := Mine.turn F N nd hC hs ho'
  exact h h' o' hd' F' N'
end
noncomputable def LawFn (w : World) (body : List Stmt) (scope : Scope) : Prop := ∃ oc od name params dV kV doc pm an cdv ct osl, (hd.heap_1 w.params).lookup 269 = some ⟨oc, od, .func (fnOf name (Str.ofString "law") params body scope dV kV doc pm an cdv ct), osl⟩
abbrev lawEnv (scope : Scope) (L : Addr) : Env := envX (Str.ofString "law") scope L 269 (.ref 268) (cellsFrom (L + 1) scope.names [])
section
variable {w : World} {A : Around} {E : Value → Shared → Prop} {s : Shared} {g : Heap} {L : Addr} {m : Str → Option Value} {V : List (Addr × Obj)} {x : Str} {v : Value}
theorem strideL {sc : Addr} {sv : List Value} {ns : List Int} {value slice : PySem.Expr} {a b c : Int} {t t1 t2 : Tok} {ops : List Value} {Q : Value → Shared → Prop} (F : Fr g L s.heap m) (N : News g L s.heap V) (hsc : g.IsList sc sv.toArray) (hi : IntsAre sv ns) (hz : sv.length ≤ 900) (h0 : c ≠ 0)
    (h : ∀ D h' us ms, Fr g L h' m → News g L h' ((D, listOf us.toArray 0) :: V) → (∀ p ∈ V, p.1 ≠ D) → IntsAre us ms → Q (.ref D) { s with heap := h' })
    (hs : subscripted slice false (.ref sc) (.ref s.heap.objs.size) = operate ops (getItem (.ref sc) (.ref s.heap.objs.size)) := by with_unfolding_all rfl) (ht : ∀ r, letTemporaryGo value (.ref sc) r = pure () := by intro _; with_unfolding_all rfl) :
    wpAny (model PG w) A (subscriptTail value slice (.ref sc) (.ref s.heap.objs.size)) Q E { s with heap := s.heap.push { cls := .type "slice", data := .fields #[.int a t, .int b t1, .int c t2] } } := by
  obtain ⟨o, ho, r⟩ := hsc
  refine slice_list3 F N ⟨o, F.keep _ _ ho, r⟩ (.int a t) (.int b t1) (.int c t2) (by simpa using h0) (fun h' F' N' => ?_) hs ht (by rw [List.size_toArray]; exact sz_ok (by omega))
  refine h _ h' (slicePick sv.toArray (some a) (some b) (some c)).toList _ F' ?_ (fun p hp => Nat.ne_of_lt (Nat.lt_succ_of_lt (Heap.lt_size (N p hp).1))) (hi.pick _ _ _)
  rw [Array.toArray_toList]
  exact N'
theorem sumL {D : Addr} {us : List Value} {n : Nat} {ns : List Int} {Q : Value → Shared → Prop} (hh : A.handled = none) (F : Fr g L s.heap m) (N : News g L s.heap V) (hl : V.lookup D = some (listOf us.toArray n)) (hi : IntsAre us ns)
    (h : ∀ h' tk t', Fr g L h' m → News g L h' V → Q (.int ns.sum t') { s with heap := h', toks := tk }) : wpAny (model PG w) A (call (.builtin "sum") [.ref D]) Q E s :=
  sumK hh F N ⟨_, nget N hl, rfl, n, rfl⟩ hi h
theorem news_tl {q : Addr × Obj} {h : Heap} (N : News g L h (q :: V)) : News g L h V := fun p hp => N p (.tail _ hp)
theorem ldC1 {C : Addr} {env : Env} {q : Addr × Obj} {scope : Scope} {cl : List (Str × Addr)} {pos : Pos} {oC : Obj} {mc : Str → Option Value} {Q : Value → Shared → Prop} (N : News g L s.heap (q :: V)) (hC : V.lookup C = some oC) (hm : NsOf oC mc) (hv : mc x = some v) (h : Q v s)
    (hk : scope.kind = .function) (hl : scope.names.lookup x = some .local) (hd : (x == ("__debug__" : Str)) = false) : wpAny (model PG w) A (eval (.Name x pos) (compEnvC scope cl C env)) Q E s :=
  ldC (news_tl N) hC hm hv h hk hl hd
theorem ldCC1 {C c : Addr} {env : Env} {q : Addr × Obj} {scope : Scope} {cl : List (Str × Addr)} {pos : Pos} {o : Obj} {Q : Value → Shared → Prop} (N : News g L s.heap (q :: V)) (hc : cl.lookup x = some c) (hC : V.lookup c = some o) (hd : o.data = .cell (some v)) (h : Q v s)
    (hk : scope.kind = .function) (hl : (compEnvC scope cl C env).kindOf x = some .cell) (hdb : (x == ("__debug__" : Str)) = false) : wpAny (model PG w) A (eval (.Name x pos) (compEnvC scope cl C env)) Q E s :=
  ldCC (news_tl N) hc hC hd h hk hl hdb
theorem modNat (x : Int) {n : Nat} (hn : 0 < n) : ∃ q : Nat, x.fmod (n : Int) = (q : Int) ∧ q < n := by
  have h1 : 0 ≤ x.fmod (n : Int) := Int.fmod_nonneg_of_pos x (by omega)
  have h2 : x.fmod (n : Int) < (n : Int) := Int.fmod_lt_of_pos x (by omega)
  exact ⟨(x.fmod (n : Int)).toNat, by omega, by omega⟩
theorem rdI {a : Addr} {vs : List Value} {n : Nat} {k : Int} {t : Tok} {value slice : PySem.Expr} {Q : Value → Shared → Prop} (N : News g L s.heap V) (hm : (a, listOf vs.toArray n) ∈ V) (h0 : 0 ≤ k) (hv : vs[k.toNat]? = some v) (hz : vs.length ≤ 1000) (h : Q v s)
    (hs : subscripted slice false (.ref a) (.int k t) = operate [.ref a, .int k t] (getItem (.ref a) (.int k t)) := by with_unfolding_all rfl) (hg : ∀ r, letTemporaryGo value (.ref a) r = pure () := by intro _; with_unfolding_all rfl) :
    wpAny (model PG w) A (subscriptTail value slice (.ref a) (.int k t)) Q E s := by
  have hlt : k.toNat < vs.length := (List.getElem?_eq_some_iff.mp hv).1
  refine getL N hm h0 (by omega) hz (fun v' hv' => ?_) hs hg
  rw [hv] at hv'
  cases hv'; exact h
theorem catW {a b : Addr} {us ws : List Value} {n k : Nat} {Q : Value → Shared → Prop} (F : Fr g L s.heap m) (N : News g L s.heap V) (ha : (a, listOf us.toArray n) ∈ V) (hb : (b, listOf ws.toArray k) ∈ V) (hz : us.length + ws.length ≤ 1000)
    (h : ∀ D h', Fr g L h' m → News g L h' ((D, listOf (us ++ ws).toArray 0) :: V) → (∀ p ∈ V, p.1 < D) → Q (.ref D) { s with heap := h' }) : wpAny (model PG w) A (binaryOp .Add (.ref a) (.ref b)) Q E s :=
  kmk_add_lit F N ⟨_, (N _ ha).1, rfl, n, rfl⟩ ⟨_, (N _ hb).1, rfl, k, rfl⟩ rfl h (sz_ok hz)
theorem after_grow {h h' : Heap} {a : Addr} {o o' : Obj} {Tn : List (Addr × Obj)} (F : Fr g L h m) (N : News g L h V) (nd : (V.map (·.1)).Nodup) (hl : V.lookup a = some o) (kp : ∀ b ob, b ≠ a → h.get? b = some ob → h'.get? b = some ob) (ho : h'.get? a = some o')
    (hT : ∀ p ∈ Tn, h'.get? p.1 = some p.2 ∧ h.get? p.1 = none) (ndT : (Tn.map (·.1)).Nodup) :
    Fr g L h' m ∧ News g L h' (Tn ++ putW V a o') ∧ ((Tn ++ putW V a o').map (·.1)).Nodup ∧ (∀ b x, b ≠ a → V.lookup b = some x → (Tn ++ putW V a o').lookup b = some x) ∧ (Tn ++ putW V a o').lookup a = some o' ∧ ∀ p ∈ Tn, (Tn ++ putW V a o').lookup p.1 = some p.2 := by
  obtain ⟨F6, N6⟩ := after1 F N kp ho (upd_put nd hl)
  have hs : (V.lookup a).isSome = true := by rw [hl]; rfl
  have fz : ∀ q ∈ Tn, q.1 ≠ L ∧ g.get? q.1 = none ∧ ∀ z ∈ V, z.1 ≠ q.1 := fun q hq => fresh_ne F N (hT q hq).2
  have nd7 := nd_app (W := putW V a o') ndT (by rw [putW_names]; exact nd) (fun q hq z hz e => by
    have := List.mem_map_of_mem (f := (·.1)) hz
    rw [putW_names] at this
    obtain ⟨y, hy, ey⟩ := List.mem_map.mp this
    exact (fz q hq).2.2 y hy (ey.trans e))
  refine ⟨F6, fun q hq => ?_, nd7, fun b x hb e => mem_look nd7 (List.mem_append_right _ (look_mem (by rw [look_put hs, if_neg hb]; exact e))), mem_look nd7 (List.mem_append_right _ (look_mem (by rw [look_put hs, if_pos rfl]))), fun p hp => mem_look nd7 (List.mem_append_left _ hp)⟩
  rcases List.mem_append.mp hq with hq | hq
  · exact ⟨(hT q hq).1, (fz q hq).1, (fz q hq).2.1⟩
  · exact N6 q hq
theorem LW.keep {V' Z : List (Addr × Obj)} {a : Addr} {oa : Obj} {vs vf vr vd vx : Option Value} (h : LW V Z L vs vf vr vd vx) (nd : (V'.map (·.1)).Nodup) (ha : V.lookup a = some oa) (hc : ∀ v, oa.data ≠ .cell v) (hz : ∀ p ∈ Z, p.1 ≠ a) (K : ∀ b x, b ≠ a → V.lookup b = some x → V'.lookup b = some x) : LW V' Z L vs vf vr vd vx := by
  have c : ∀ {b : Addr} {v : Option Value}, (∃ x, V.lookup b = some x ∧ x.data = .cell v) → ∃ x, V'.lookup b = some x ∧ x.data = .cell v := fun ⟨x, e, d⟩ => ⟨x, K _ _ (fun q => by rw [q, ha] at e; cases e; exact hc _ d) e, d⟩
  refine ⟨nd, c h.cs, c h.cf, c h.cr, c h.cd, c h.cx, fun p hp => K _ _ (hz p hp) (h.z p hp), h.zk⟩
theorem sliceW {D : Addr} {us zs : List Value} {n : Nat} {lo hi : Option Int} {vl vu : Value} {value slice : PySem.Expr} {ops : List Value} {Q : Value → Shared → Prop} (F : Fr g L s.heap m) (N : News g L s.heap V) (hm : (D, listOf us.toArray n) ∈ V) (pl : IsPart vl lo) (pu : IsPart vu hi) (e : kms_pick us lo hi = zs) (hz : us.length ≤ 900)
    (h : ∀ D2 h', Fr g L h' m → News g L h' ((D2, listOf zs.toArray 0) :: V) → (∀ p ∈ V, p.1 < D2) → Q (.ref D2) { s with heap := h' })
    (hs : subscripted slice false (.ref D) (.ref s.heap.objs.size) = operate ops (getItem (.ref D) (.ref s.heap.objs.size))) (ht : ∀ r, letTemporaryGo value (.ref D) r = pure ()) :
    wpAny (model PG w) A (subscriptTail value slice (.ref D) (.ref s.heap.objs.size)) Q E { s with heap := s.heap.push { cls := .type "slice", data := .fields #[vl, vu, .none] } } := by
  refine slice_list3 (st := none) F N ⟨_, (N _ hm).1, rfl, n, rfl⟩ pl pu .none (by simp) (fun h' F' N' => ?_) hs ht (by rw [List.size_toArray]; exact sz_ok (by omega))
  refine h _ h' F' ?_ fun p hp => Nat.lt_succ_of_lt (Heap.lt_size (N p hp).1)
  rw [← e]
  rw [kms_pick_eq] at N'
  exact N'
theorem dropL {D : Addr} {us : List Value} {n k : Nat} {x : Int} {value slice : PySem.Expr} {t : Tok} {ops : List Value} {Q : Value → Shared → Prop} (F : Fr g L s.heap m) (N : News g L s.heap V) (hm : (D, listOf us.toArray n) ∈ V) (hx : x = (k : Int)) (hk : k ≤ us.length) (hz : us.length ≤ 900)
    (h : ∀ D2 h', Fr g L h' m → News g L h' ((D2, listOf (us.drop k).toArray 0) :: V) → (∀ p ∈ V, p.1 < D2) → Q (.ref D2) { s with heap := h' })
    (hs : subscripted slice false (.ref D) (.ref s.heap.objs.size) = operate ops (getItem (.ref D) (.ref s.heap.objs.size)) := by with_unfolding_all rfl) (ht : ∀ r, letTemporaryGo value (.ref D) r = pure () := by intro _; with_unfolding_all rfl) :
    wpAny (model PG w) A (subscriptTail value slice (.ref D) (.ref s.heap.objs.size)) Q E { s with heap := s.heap.push { cls := .type "slice", data := .fields #[.int x t, .none, .none] } } := by
  subst hx
  refine sliceW F N hm (.int _ t) .none ?_ hz h hs ht
  have : ¬ ((k : Int) < 0) := by omega
  simp only [kms_pick, kms_lo, kms_hi, this, if_false, Int.toNat_natCast]
  rw [Nat.min_eq_left hk, List.take_of_length_le (by rw [List.length_drop]; exact Nat.le_refl _)]
theorem takeL {D : Addr} {us : List Value} {n k : Nat} {x : Int} {value slice : PySem.Expr} {t : Tok} {ops : List Value} {Q : Value → Shared → Prop} (F : Fr g L s.heap m) (N : News g L s.heap V) (hm : (D, listOf us.toArray n) ∈ V) (hx : x = (k : Int)) (hk : k ≤ us.length) (hz : us.length ≤ 900)
    (h : ∀ D2 h', Fr g L h' m → News g L h' ((D2, listOf (us.take k).toArray 0) :: V) → (∀ p ∈ V, p.1 < D2) → Q (.ref D2) { s with heap := h' })
    (hs : subscripted slice false (.ref D) (.ref s.heap.objs.size) = operate ops (getItem (.ref D) (.ref s.heap.objs.size)) := by with_unfolding_all rfl) (ht : ∀ r, letTemporaryGo value (.ref D) r = pure () := by intro _; with_unfolding_all rfl) :
    wpAny (model PG w) A (subscriptTail value slice (.ref D) (.ref s.heap.objs.size)) Q E { s with heap := s.heap.push { cls := .type "slice", data := .fields #[.none, .int x t, .none] } } := by
  subst hx
  refine sliceW F N hm .none (.int _ t) ?_ hz h hs ht
  have : ¬ ((k : Int) < 0) := by omega
  simp only [kms_pick, kms_lo, kms_hi, this, if_false, Int.toNat_natCast]
  rw [Nat.min_eq_left hk, List.drop_zero, Nat.sub_zero]
theorem PT.kr {Tn ps} (p : PT Tn ps) : ∀ q ∈ Tn, Kr q.2 := by
  induction p with
  | nil => exact fun _ h => nomatch h
  | cons _ ih => intro q hq; rcases List.mem_cons.mp hq with rfl | hq; exact .inl (fun _ e => nomatch e); exact ih q hq
theorem PT.data {Tn ps} (p : PT Tn ps) : ∀ q ∈ Tn, (∀ v, q.2.data ≠ .cell v) ∧ Kr q.2 := by
  induction p with
  | nil => exact fun _ h => nomatch h
  | cons _ ih => intro q hq; rcases List.mem_cons.mp hq with rfl | hq; exact ⟨(fun _ e => nomatch e), .inl (fun _ e => nomatch e)⟩; exact ih q hq
theorem LW.ofAll {Z T : List (Addr × Obj)} {vs vf vr vd vx : Option Value} (h : LW V Z L vs vf vr vd vx) (hT : ∀ p ∈ T, V.lookup p.1 = some p.2) (hk : ∀ p ∈ T, (∀ v, p.2.data ≠ .cell v) ∧ Kr p.2) : LW V T L vs vf vr vd vx := ⟨h.nd, h.cs, h.cf, h.cr, h.cd, h.cx, hT, hk⟩
theorem PT.drop {Tn ps} (p : PT Tn ps) : ∀ k : Nat, PT (Tn.drop k) (ps.drop k) := by
  induction p with
  | nil => intro k; rw [List.drop_nil, List.drop_nil]; exact .nil
  | cons q ih =>
    intro k
    cases k with
    | zero => exact .cons q
    | succ k => exact ih k
theorem PT.take {Tn ps} (p : PT Tn ps) : ∀ k : Nat, PT (Tn.take k) (ps.take k) := by
  induction p with
  | nil => intro k; rw [List.take_nil, List.take_nil]; exact .nil
  | cons q ih =>
    intro k
    cases k with
    | zero => exact .nil
    | succ k => exact .cons (ih k)
theorem planted_pos {tu : Bool} {tops : List Nat} (h : 1 ≤ tops.length) : 0 < (planted tu tops tops.length).length := by
  obtain ⟨k, hk⟩ : ∃ k, tops.length = k + 1 := ⟨tops.length - 1, by omega⟩
  rw [hk, planted_succ (by omega), List.length_append, pk_all, List.length_append]
  simp only [List.length_singleton]; omega
theorem LW.via {V0 V' Z : List (Addr × Obj)} {P : Addr → Prop} {vs vf vr vd vx vs0 vf0 vr0 vd0 vx0 : Option Value} (h : LW V Z L vs vf vr vd vx) (h0 : LW V0 Z L vs0 vf0 vr0 vd0 vx0) (hP : ∀ b o, V0.lookup b = some o → P b) (nd : (V'.map (·.1)).Nodup) (K : ∀ b o, P b → V.lookup b = some o → V'.lookup b = some o) : LW V' Z L vs vf vr vd vx := by
  have c : ∀ {b : Addr} {v v0 : Option Value}, (∃ o, V0.lookup b = some o ∧ o.data = .cell v0) → (∃ o, V.lookup b = some o ∧ o.data = .cell v) → ∃ o, V'.lookup b = some o ∧ o.data = .cell v := fun ⟨_, e0, _⟩ ⟨o, e, d⟩ => ⟨o, K _ _ (hP _ _ e0) e, d⟩
  refine ⟨nd, c h0.cs h.cs, c h0.cf h.cf, c h0.cr h.cr, c h0.cd h.cd, c h0.cx h.cx, fun p hp => K _ _ (hP _ _ (h0.z p hp)) (h.z p hp), h.zk⟩
noncomputable def IAddr (G : IG) (b : Addr) : Prop := b = G.s ∨ b = G.d ∨ b = G.ds ∨ b = G.st ∨ b = G.ig
theorem Ign.mono2 {W W' : List (Addr × Obj)} {G : IG} {kvs : List (Str × Value)} (h : Ign w W G kvs) (nd : (W'.map (·.1)).Nodup) (K : ∀ b o, IAddr G b → W.lookup b = some o → W'.lookup b = some o) : Ign w W' G kvs := by
  obtain ⟨es, n, hd, A⟩ := h.ats
  obtain ⟨o1, h1, r1⟩ := h.mods
  obtain ⟨o2, h2, r2⟩ := h.ign
  refine ⟨nd, K _ _ (.inl rfl) h.obj, ⟨es, n, K _ _ (.inr (.inl rfl)) hd, A⟩, K _ _ (.inr (.inr (.inl rfl))) h.dirs, ⟨o1, K _ _ (.inr (.inr (.inr (.inl rfl)))) h1, r1⟩, ⟨o2, K _ _ (.inr (.inr (.inr (.inr rfl)))) h2, r2⟩, h.igns, h.good, h.dne⟩
theorem Ign.has {W : List (Addr × Obj)} {G : IG} {kvs : List (Str × Value)} (h : Ign w W G kvs) {b : Addr} (hb : IAddr G b) : ∃ o, W.lookup b = some o := by
  rcases hb with rfl | rfl | rfl | rfl | rfl
  · exact ⟨_, h.obj⟩
  · obtain ⟨es, n, hd, A⟩ := h.ats; exact ⟨_, hd⟩
  · exact ⟨_, h.dirs⟩
  · obtain ⟨o1, h1, r1⟩ := h.mods; exact ⟨_, h1⟩
  · obtain ⟨o2, h2, r2⟩ := h.ign; exact ⟨_, h2⟩
open Classical in
noncomputable def iP (G : IG) : Addr → Bool := fun b => decide (IAddr G b)
theorem iP_iff {G : IG} {b : Addr} : iP G b = true ↔ IAddr G b := ⟨fun h => @of_decide_eq_true _ (Classical.propDecidable _) h, fun h => @decide_eq_true _ (Classical.propDecidable _) h⟩
theorem iP_no {G : IG} {b : Addr} (h : ¬ IAddr G b) : iP G b = false := by
  cases e : iP G b with
  | false => rfl
  | true => exact absurd (iP_iff.mp e) h
theorem Ign.inP {W : List (Addr × Obj)} {G : IG} {kvs : List (Str × Value)} (h : Ign w W G kvs) : Ign w (inP (iP G) W) G kvs := h.mono2 (inP_nd h.nd) fun b o hb e => inP_look h.nd (iP_iff.mpr hb) e
/-! the rows -/
inductive RowV (x : Str) : List Value → List NT → Prop
  | nil : RowV x [] []
  | cons {vs : List Value} {ps : List NT} {e : NT} {t : Tok} : RowV x vs ps → RowV x (.int (if hit x e.1 then 1 else 0) t :: vs) (e :: ps)
theorem RowV.append {x : Str} {vs vs' : List Value} {ps ps' : List NT} (h : RowV x vs ps) (k : RowV x vs' ps') : RowV x (vs ++ vs') (ps ++ ps') := by
  induction h with
  | nil => exact k
  | cons _ ih => exact .cons ih
theorem RowV.length {x : Str} {vs : List Value} {ps : List NT} (h : RowV x vs ps) : vs.length = ps.length := by
  induction h with
  | nil => rfl
  | cons _ ih => simp [ih]
theorem RowV.at {x : Str} {vs : List Value} {ps : List NT} (h : RowV x vs ps) : ∀ {y : Nat} {e : NT}, ps[y]? = some e → ∃ t, vs[y]? = some (.int (if hit x e.1 then 1 else 0) t) := by
  induction h with
  | nil => intro y e h; simp at h
  | cons _ ih =>
    intro y e h
    cases y with
    | zero => simp at h; subst h; exact ⟨_, rfl⟩
    | succ y => simp at h; simpa using ih h
theorem RowV.ints {x : Str} {vs : List Value} {ps : List NT} (h : RowV x vs ps) : ∀ v ∈ vs, ∃ (i : Int) (t : Tok), v = .int i t := by
  induction h with
  | nil => exact fun _ h => nomatch h
  | cons _ ih =>
    intro v hv
    rcases List.mem_cons.mp hv with rfl | hv
    · exact ⟨_, _, rfl⟩
    · exact ih v hv
inductive RT (F : List NT) : List (Addr × Obj) → List NT → Prop
  | nil : RT F [] []
  | cons {Ro : List (Addr × Obj)} {xs : List NT} {a : Addr} {cs : List Value} {k : Nat} {x : NT} : RowV x.1 cs F → RT F Ro xs → RT F ((a, listOf cs.toArray k) :: Ro) (x :: xs)
theorem RT.append {F : List NT} {Ro Ro' : List (Addr × Obj)} {xs xs' : List NT} (h : RT F Ro xs) (k : RT F Ro' xs') : RT F (Ro ++ Ro') (xs ++ xs') := by
  induction h with
  | nil => exact k
  | cons h1 _ ih => exact .cons h1 ih
theorem RT.length {F : List NT} {Ro : List (Addr × Obj)} {xs : List NT} (h : RT F Ro xs) : Ro.length = xs.length := by
  induction h with
  | nil => rfl
  | cons _ _ ih => simp [ih]
theorem RT.at {F : List NT} {Ro : List (Addr × Obj)} {xs : List NT} (h : RT F Ro xs) : ∀ {x : Nat} {e : NT}, xs[x]? = some e → ∃ a cs k, Ro[x]? = some (a, listOf cs.toArray k) ∧ RowV e.1 cs F := by
  induction h with
  | nil => intro y e h; simp at h
  | cons h1 _ ih =>
    intro y e h
    cases y with
    | zero => simp at h; subst h; refine ⟨_, _, _, rfl, h1⟩
    | succ y => simp at h; simpa using ih h
theorem PT.at {Tn : List (Addr × Obj)} {ps : List NT} (h : PT Tn ps) : ∀ {x : Nat} {e : NT}, ps[x]? = some e → ∃ a t t', Tn[x]? = some (a, tupObj [.str e.1 t, .int (e.2 : Int) t']) := by
  induction h with
  | nil => intro y e h; simp at h
  | cons _ ih =>
    intro y e h
    cases y with
    | zero => simp at h; subst h; exact ⟨_, _, _, rfl⟩
    | succ y => simp at h; simpa using ih h
theorem refs_at {Tn : List (Addr × Obj)} {x : Nat} {a : Addr} {o : Obj} (h : Tn[x]? = some (a, o)) : (refs Tn)[x]? = some (.ref a) := by
  unfold refs
  rw [List.getElem?_map, h]; rfl
theorem tupI {a : Addr} {us : List Value} {k : Int} {j : Nat} {y : Value} {value slice : PySem.Expr} {t : Tok} {Q : Value → Shared → Prop} (N : News g L s.heap V) (ha : (a, tupObj us) ∈ V) (hlo : -(2 ^ 63) ≤ k) (hhi : k < 2 ^ 63) (hj : seqIndex? k us.length = some j) (hy : us[j]? = some y) (h : Q y s)
    (hs : subscripted slice false (.ref a) (.int k t) = operate [.ref a, .int k t] (getItem (.ref a) (.int k t)) := by with_unfolding_all rfl) :
    wpAny (model PG w) A (subscriptTail value slice (.ref a) (.int k t)) Q E s :=
  kba_turn (value' := PySem.Expr.Name (PySem.Str.ofString "_") ⟨0, 0, 0, 0⟩) (fun _ => rfl) (kim_tup (l := us) N ha rfl rfl hlo hhi hj hy h hs (fun _ => rfl))
theorem rdK {a : Addr} {vs : List Value} {n x : Nat} {t : Tok} {value slice : PySem.Expr} {Q : Value → Shared → Prop} (N : News g L s.heap V) (hm : (a, listOf vs.toArray n) ∈ V) (hv : vs[x]? = some v) (hz : vs.length ≤ 1000) (h : Q v s)
    (hs : subscripted slice false (.ref a) (.int (x : Int) t) = operate [.ref a, .int (x : Int) t] (getItem (.ref a) (.int (x : Int) t)) := by with_unfolding_all rfl) :
    wpAny (model PG w) A (subscriptTail value slice (.ref a) (.int (x : Int) t)) Q E s :=
  kba_turn (value' := PySem.Expr.Name (PySem.Str.ofString "_") ⟨0, 0, 0, 0⟩) (fun _ => rfl) (rdI N hm (Int.natCast_nonneg x) (by rw [Int.toNat_natCast]; exact hv) hz h hs (fun _ => rfl))
theorem root_len {i : Nat} (h : i ≤ 3) : (rootName i).length ≤ 4 := by
  have : ∀ i : Fin 4, (rootName i.1).length ≤ 4 := by decide +kernel
  exact this ⟨i, by omega⟩
theorem IV.ints {vs : List Value} {xs : List Nat} (h : IV vs xs) : IntsAre vs (xs.map fun x : Nat => (x : Int)) := by
  induction h with
  | nil => exact .nil
  | cons _ ih => exact .cons _ _ ih
end
/-! a comprehension with two clauses that keeps nothing -/
section
variable {prog : Program} {w : World} {A : Around} {R : Result → Shared → Prop} {s : Shared}
theorem compTurn2 (elt t1 t2 i1 i2 : PySem.Expr) (ifs : List PySem.Expr) (scope : Scope) (pos : Pos) (it acc : Value) (env : Env) :
    compTurn (.ListComp elt [⟨t1, i1, [], 0⟩, ⟨t2, i2, ifs, 0⟩] scope pos) 0 it acc env = (standAt i1.pos >>= fun _ => pyNext it >>= fun r => match r with
      | none => pure (.done .next)
      | some v => letOwnedTupleGo t1 it v >>= fun _ => assign t1 env v >>= fun _ =>
        eval i2 env >>= fun x => standAt i2.pos >>= fun _ => foldedSetIterable i2 env x >>= fun x => holding [x] (pyIter x) >>= fun it2 =>
          runOwn (.compStart (.ListComp elt [⟨t1, i1, [], 0⟩, ⟨t2, i2, ifs, 0⟩] scope pos) 1 it2 acc env) env >>= fun _ =>
          again (.compLoop (.ListComp elt [⟨t1, i1, [], 0⟩, ⟨t2, i2, ifs, 0⟩] scope pos) 0 it acc env)) := by rfl
theorem comp2Outer {elt t1 t2 i1 i2 : PySem.Expr} {ifs : List PySem.Expr} {scope : Scope} {pos : Pos} {it acc : Value} {env : Env} (I : Nat → Shared → Prop)
    (turn : ∀ n s, I n s → wpAny (model prog w) A (pyNext it) (fun r s₁ => match r with
      | none => R (.ok .next) s₁
      | some v => wpAny (model prog w) A (assign t1 env v) (fun _ s₂ => wpAny (model prog w) A (eval i2 env) (fun x s₃ => wpAny (model prog w) A (pyIter x) (fun it2 s₄ =>
          codeAny (model prog w) A (.compStart (.ListComp elt [⟨t1, i1, [], 0⟩, ⟨t2, i2, ifs, 0⟩] scope pos) 1 it2 acc env) (fun r s₅ => match r with | .ok _ => ∃ m, m < n ∧ I m s₅ | .error _ => False) s₄)
          (fun _ _ => False) s₃) (fun _ _ => False) s₂) (fun _ _ => False) s₁) (fun _ _ => False) s)
    (n : Nat) (h : I n s) (ht : ∀ v, letOwnedTupleGo t1 it v = pure () := by intro _; rfl) (hs : ∀ x, foldedSetIterable i2 env x = pure x := by intro _; rfl) :
    codeAny (model prog w) A (.compLoop (.ListComp elt [⟨t1, i1, [], 0⟩, ⟨t2, i2, ifs, 0⟩] scope pos) 0 it acc env) R s := by
  refine codeAny_loop rfl I (fun n s hI => ?_) n h
  show wpAny _ A ((compTurn (.ListComp elt [⟨t1, i1, [], 0⟩, ⟨t2, i2, ifs, 0⟩] scope pos) 0 it acc env).onRaise (fun x => do noteFrame x env; theTreesLotGoes x)) _ _ s
  refine wpAny_noted ?_
  rw [compTurn2]
  refine wpAny_bind (wpAny_standAt (wpAny_bind (wpAny_mono (turn n s hI) (fun r s₁ h₁ => ?_) fun _ _ h' => h'.elim)))
  cases r with
  | none => exact wpAny_pure h₁
  | some v =>
    refine wpAny_bind (wpAny_of_eq (ht v) ?_)
    refine wpAny_bind (wpAny_mono h₁ (fun _ s₂ h₂ => wpAny_bind (wpAny_mono h₂ (fun x s₃ h₃ => ?_) fun _ _ h' => h'.elim)) fun _ _ h' => h'.elim)
    refine wpAny_bind (wpAny_standAt (wpAny_bind (wpAny_of_eq (hs x) (wpAny_bind (wpAny_holding (wpAny_mono h₃ (fun it2 s₄ h₄ => ?_) fun _ _ h' => h'.elim))))))
    refine wpAny_bind (wpAny_runOwn (codeAny_mono h₄ fun r s₅ h₅ => ?_))
    cases r with
    | ok f => exact wpAny_pure ⟨rfl, h₅⟩
    | error e => exact h₅.elim
theorem compTurn2i (elt t1 t2 i1 i2 : PySem.Expr) (ifs : List PySem.Expr) (scope : Scope) (pos : Pos) (it acc : Value) (env : Env) :
    compTurn (.ListComp elt [⟨t1, i1, [], 0⟩, ⟨t2, i2, ifs, 0⟩] scope pos) 1 it acc env = (do
      standAt i2.pos
      match ← pyNext it with
      | none => pure (.done .next)
      | some v =>
        letOwnedTupleGo t2 it v
        assign t2 env v
        let mut ok := true
        for c in ifs do
          if ok then ok ← isTrue c env (eval c env)
        if ok then
          (do let _ ← call (.builtin "list.append") [acc, ← eval elt env])
        again (.compLoop (.ListComp elt [⟨t1, i1, [], 0⟩, ⟨t2, i2, ifs, 0⟩] scope pos) 1 it acc env)) := by rfl
theorem comp2Inner {elt t1 t2 i1 i2 : PySem.Expr} {ifs : List PySem.Expr} {scope : Scope} {pos : Pos} {it acc : Value} {env : Env} (I : Nat → Shared → Prop)
    (turn : ∀ n s, I n s → wpAny (model prog w) A (pyNext it) (fun r s₁ => match r with
      | none => R (.ok .next) s₁
      | some v => wpAny (model prog w) A (assign t2 env v) (fun _ s₂ =>
          wpAny (model prog w) A (forIn ifs true fun c r => if r = true then do let ok ← isTrue c env (eval c env); pure (ForInStep.yield ok) else pure (ForInStep.yield r)) (fun ok s₃ =>
            ok = false ∧ ∃ m, m < n ∧ I m s₃) (fun _ _ => False) s₂) (fun _ _ => False) s₁) (fun _ _ => False) s)
    (n : Nat) (h : I n s) (ht : ∀ v, letOwnedTupleGo t2 it v = pure () := by intro _; rfl) :
    codeAny (model prog w) A (.compLoop (.ListComp elt [⟨t1, i1, [], 0⟩, ⟨t2, i2, ifs, 0⟩] scope pos) 1 it acc env) R s := by
  refine codeAny_loop rfl I (fun n s hI => ?_) n h
  show wpAny _ A ((compTurn (.ListComp elt [⟨t1, i1, [], 0⟩, ⟨t2, i2, ifs, 0⟩] scope pos) 1 it acc env).onRaise (fun x => do noteFrame x env; theTreesLotGoes x)) _ _ s
  refine wpAny_noted ?_
  rw [compTurn2i]
  refine wpAny_bind (wpAny_standAt (wpAny_bind (wpAny_mono (turn n s hI) (fun r s₁ h₁ => ?_) fun _ _ h' => h'.elim)))
  cases r with
  | none => exact wpAny_pure h₁
  | some v =>
    refine wpAny_bind (wpAny_of_eq (ht v) ?_)
    refine wpAny_bind (wpAny_mono h₁ (fun _ s₂ h₂ => wpAny_bind (wpAny_mono h₂ (fun ok s₃ h₃ => ?_) fun _ _ h' => h'.elim)) fun _ _ h' => h'.elim)
    obtain ⟨rfl, h₃⟩ := h₃
    exact wpAny_pure ⟨rfl, h₃⟩
theorem compStart1 {elt t1 t2 i1 i2 : PySem.Expr} {ifs : List PySem.Expr} {scope : Scope} {pos : Pos} {it acc : Value} {env : Env}
    (h0 : codeAny (model prog w) A (.compLoop (.ListComp elt [⟨t1, i1, [], 0⟩, ⟨t2, i2, ifs, 0⟩] scope pos) 1 it acc env) R s)
    (h : wpAny (model prog w) A (pyIter it) (fun it' s' => codeAny (model prog w) A (.compLoop (.ListComp elt [⟨t1, i1, [], 0⟩, ⟨t2, i2, ifs, 0⟩] scope pos) 1 it' acc env) R s')
      (fun _ _ => False) s) :
    codeAny (model prog w) A (.compStart (.ListComp elt [⟨t1, i1, [], 0⟩, ⟨t2, i2, ifs, 0⟩] scope pos) 1 it acc env) R s := by
  refine codeAny_of_tree ?_
  show wpAny _ _ ((compStart (.ListComp elt [⟨t1, i1, [], 0⟩, ⟨t2, i2, ifs, 0⟩] scope pos) 1 it acc env).onRaise (fun x => do noteFrame x env; standAt theWindowsPlace)) _ _ s
  refine wpAny_notedAt ?_
  unfold compStart
  show wpAny _ _ (ask >>= _) _ _ s
  refine wpAny_bind (wpAny_askSetting (wpAny_ite ?_))
  split
  · first
      | exact wpAny_bind (wpAny_pure (wpAny_pure (And.intro rfl h0)))
      | exact wpAny_pure (And.intro rfl h0)
  · first
      | exact wpAny_bind (wpAny_rule (wpAny_bind (wpAny_standAt (wpAny_bind (wpAny_mono h (fun it' s' h' => wpAny_pure (And.intro rfl h')) fun _ _ x => x.elim)))))
      | (refine wpAny_bind (wpAny_rule ?_); show wpAny _ _ (standAt i2.pos >>= _) _ _ s; exact wpAny_bind (wpAny_standAt (wpAny_bind (wpAny_mono h (fun it' s' h' => wpAny_pure (And.intro rfl h')) fun _ _ x => x.elim))))
end
theorem iter_end {g h h' : Heap} {L it : Addr} {m : Str → Option Value} {V : List (Addr × Obj)} {o : Obj} (F : Fr g L h m) (N : News g L h V) (nd : (V.map (·.1)).Nodup) (hl : V.lookup it = some o) (hs : Heap.ExtBut it h h') :
    Fr g L h' m ∧ News g L h' (V.filter fun p => decide (p.1 ≠ it)) ∧ ((V.filter fun p => decide (p.1 ≠ it)).map (·.1)).Nodup ∧ ∀ b x, b ≠ it → V.lookup b = some x → (V.filter fun p => decide (p.1 ≠ it)).lookup b = some x := by
  have hn := N _ (look_mem hl)
  have ndf : ((V.filter fun p => decide (p.1 ≠ it)).map (·.1)).Nodup := List.Sublist.nodup (List.Sublist.map _ List.filter_sublist) nd
  refine ⟨⟨by
    obtain ⟨oL, es, ep, hL', r⟩ := F.ns
    refine ⟨oL, es, ep, hs _ _ hn.2.1.symm hL', r⟩, fun b z q => hs _ _ (fun zz => by rw [zz, hn.2.2] at q; cases q) (F.keep b z q), F.above⟩, fun p hp => ?_, ndf, fun b x hb e => mem_look ndf (List.mem_filter.mpr ⟨look_mem e, decide_eq_true hb⟩)⟩
  have h1 := List.mem_filter.mp hp
  exact ⟨hs _ _ (of_decide_eq_true h1.2) (N p h1.1).1, (N p h1.1).2⟩
section
variable {w : World} {A : Around} {E : Value → Shared → Prop} {s : Shared} {g : Heap} {L : Addr} {env : Env}
theorem evalComp2 {elt i1 i2 : PySem.Expr} {x1 x2 : Str} {p1 p2 : Pos} {ifs : List PySem.Expr} {scope : Scope} {cl : List (Str × Addr)} {pos : Pos} {Q : Value → Shared → Prop}
    (hclos : closureFor scope env = pure cl) (hkind : scope.kind = .function) (hnames : ∀ y ∈ scope.names, y.2 = .local → scope.names.lookup y.1 = some .local)
    (h : wpAny (model PG w) A (eval i1 env) (fun xv s₁ => wpAny (model PG w) A (pyIter xv) (fun it s₂ => wpAny (model PG w) A (newList []) (fun acc s₃ => wpAny (model PG w) A (newFunctionEnv scope env.globals cl [] env.qual none .none (some env)) (fun cenv s₄ =>
      codeAny (model PG w) A (.compStart (.ListComp elt [⟨.Name x1 p1, i1, [], 0⟩, ⟨.Name x2 p2, i2, ifs, 0⟩] scope pos) 0 it acc { cenv with scope := relabel scope env }) (compPost (model PG w) A E none Q acc cenv.locals) s₄) E s₃) E s₂) E s₁) E s)
    (hs : ∀ x, foldedSetIterable i1 env x = pure x := by intro _; rfl) :
    wpAny (model PG w) A (eval (.ListComp elt [⟨.Name x1 p1, i1, [], 0⟩, ⟨.Name x2 p2, i2, ifs, 0⟩] scope pos) env) Q E s := by
  rw [eval_ListComp]
  exact wpAny_comprehension_free (use := none) rfl hs hclos hkind hnames h
end
namespace comp2Gen_
def Q_ (w : World) (A : Around) (E : Value → Shared → Prop) (s : Shared) (g : Heap) (L : Addr) (env : Env) (lr : Addr) (rv : List Value) (P : Value → Prop) (fl : List (Str × Option Value)) (W0 : List (Addr × Obj)) (elt : PySem.Expr) (i1 : PySem.Expr) (x1 : Str) (x2 : Str) (p1 : Pos) (p2 : Pos) (p3 : Pos) (ifs : List PySem.Expr) (scope : Scope) (cl : List (Str × Addr)) (pos : Pos) (Q : Value → Shared → Prop) : Prop := ∀ (J : List (Addr × Obj) → Prop) (hh : A.handled = none) (hcell : ∀ y ∈ scope.names, y.2 ≠ .cell) (hkind : scope.kind = .function) (hx1 : scope.names.lookup x1 = some .local) (hx2 : scope.names.lookup x2 = some .local) (hd1 : (x1 == ("__debug__" : Str)) = false) (hn : rv.length ≤ 900) (F0 : Fr g L s.heap (fv fl)) (N0 : News g L s.heap W0) (nd0 : (W0.map (·.1)).Nodup) (hlr : ∃ k, ∀ W, J W → W.lookup lr = some (listOf rv.toArray k)) (hrow : ∀ v ∈ rv, ∃ (a : Addr) (cs : List Value) (k : Nat), v = .ref a ∧ (∀ W, J W → W.lookup a = some (listOf cs.toArray k)) ∧ cs.length ≤ 900 ∧ ∀ y ∈ cs, P y) (h0 : J W0) (hst : ∀ W W', (W'.map (·.1)).Nodup → (∀ b o, (∃ p ∈ W0, p.1 = b) → W.lookup b = some o → W'.lookup b = some o) → J W → J W') (test : ∀ v W h tk C oC m, P v → Fr g L h (fv fl) → News g L h W → W.lookup C = some oC → NsOf oC m → m x2 = some v →
      wpAny (model PG w) A (forIn ifs true fun c r => if r = true then do let ok ← isTrue c (compEnvC scope cl C env) (eval c (compEnvC scope cl C env)); pure (ForInStep.yield ok) else pure (ForInStep.yield r))
        (fun ok s₃ => ok = false ∧ ∃ tk', s₃ = { s with heap := h, toks := tk' }) (fun _ _ => False) { s with heap := h, toks := tk }) (done : ∀ W h tk D nD, J W → Fr g L h (fv fl) → News g L h W → (W.map (·.1)).Nodup → W.lookup D = some (listOf ([] : List Value).toArray nD) → (∀ p ∈ W0, p.1 ≠ D) → Q (.ref D) { s with heap := h, toks := tk }), wpAny (model PG w) A (pyIter (.ref lr)) (fun it s₂ => wpAny (model PG w) A (newList []) (fun acc s₃ => wpAny (model PG w) A (newFunctionEnv scope env.globals cl [] env.qual none .none (some env)) (fun cenv s₄ =>
      codeAny (model PG w) A (.compStart (.ListComp elt [⟨.Name x1 p1, i1, [], 0⟩, ⟨.Name x2 p2, .Name x1 p3, ifs, 0⟩] scope pos) 0 it acc { cenv with scope := relabel scope env }) (compPost (model PG w) A E none Q acc cenv.locals) s₄) E s₃) E s₂) E s
noncomputable section
def P_ (x : World × Around × (Value → Shared → Prop) × Shared × Heap × Addr × Env × Addr × (List Value) × (Value → Prop) × (List (Str × Option Value)) × (List (Addr × Obj)) × PySem.Expr × PySem.Expr × Str × Str × Pos × Pos × Pos × (List PySem.Expr) × Scope × (List (Str × Addr)) × Pos × (Value → Shared → Prop)) : Prop := Q_ x.1 x.2.1 x.2.2.1 x.2.2.2.1 x.2.2.2.2.1 x.2.2.2.2.2.1 x.2.2.2.2.2.2.1 x.2.2.2.2.2.2.2.1 x.2.2.2.2.2.2.2.2.1 x.2.2.2.2.2.2.2.2.2.1 x.2.2.2.2.2.2.2.2.2.2.1 x.2.2.2.2.2.2.2.2.2.2.2.1 x.2.2.2.2.2.2.2.2.2.2.2.2.1 x.2.2.2.2.2.2.2.2.2.2.2.2.2.1 x.2.2.2.2.2.2.2.2.2.2.2.2.2.2.1 x.2.2.2.2.2.2.2.2.2.2.2.2.2.2.2.1 x.2.2.2.2.2.2.2.2.2.2.2.2.2.2.2.2.1 x.2.2.2.2.2.2.2.2.2.2.2.2.2.2.2.2.2.1 x.2.2.2.2.2.2.2.2.2.2.2.2.2.2.2.2.2.2.1 x.2.2.2.2.2.2.2.2.2.2.2.2.2.2.2.2.2.2.2.1 x.2.2.2.2.2.2.2.2.2.2.2.2.2.2.2.2.2.2.2.2.1 x.2.2.2.2.2.2.2.2.2.2.2.2.2.2.2.2.2.2.2.2.2.1 x.2.2.2.2.2.2.2.2.2.2.2.2.2.2.2.2.2.2.2.2.2.2.1 x.2.2.2.2.2.2.2.2.2.2.2.2.2.2.2.2.2.2.2.2.2.2.2
def x_ := pick (dW, callerA, default, ({} : Shared), default, default, default, default, default, default, default, default, default, default, default, default, default, default, default, default, default, default, default, default) fun x => ¬ P_ x
@[irreducible] def w := x_.1
@[irreducible] def A := x_.2.1
@[irreducible] def E := x_.2.2.1
@[irreducible] def s := x_.2.2.2.1
@[irreducible] def g := x_.2.2.2.2.1
@[irreducible] def L := x_.2.2.2.2.2.1
@[irreducible] def env := x_.2.2.2.2.2.2.1
@[irreducible] def lr := x_.2.2.2.2.2.2.2.1
@[irreducible] def rv := x_.2.2.2.2.2.2.2.2.1
@[irreducible] def P := x_.2.2.2.2.2.2.2.2.2.1
@[irreducible] def fl := x_.2.2.2.2.2.2.2.2.2.2.1
@[irreducible] def W0 := x_.2.2.2.2.2.2.2.2.2.2.2.1
@[irreducible] def elt := x_.2.2.2.2.2.2.2.2.2.2.2.2.1
@[irreducible] def i1 := x_.2.2.2.2.2.2.2.2.2.2.2.2.2.1
@[irreducible] def x1 := x_.2.2.2.2.2.2.2.2.2.2.2.2.2.2.1
@[irreducible] def x2 := x_.2.2.2.2.2.2.2.2.2.2.2.2.2.2.2.1
@[irreducible] def p1 := x_.2.2.2.2.2.2.2.2.2.2.2.2.2.2.2.2.1
@[irreducible] def p2 := x_.2.2.2.2.2.2.2.2.2.2.2.2.2.2.2.2.2.1
@[irreducible] def p3 := x_.2.2.2.2.2.2.2.2.2.2.2.2.2.2.2.2.2.2.1
@[irreducible] def ifs := x_.2.2.2.2.2.2.2.2.2.2.2.2.2.2.2.2.2.2.2.1
@[irreducible] def scope := x_.2.2.2.2.2.2.2.2.2.2.2.2.2.2.2.2.2.2.2.2.1
@[irreducible] def cl := x_.2.2.2.2.2.2.2.2.2.2.2.2.2.2.2.2.2.2.2.2.2.1
@[irreducible] def pos := x_.2.2.2.2.2.2.2.2.2.2.2.2.2.2.2.2.2.2.2.2.2.2.1
@[irreducible] def Q := x_.2.2.2.2.2.2.2.2.2.2.2.2.2.2.2.2.2.2.2.2.2.2.2
end
theorem core : Q_ w A E s g L env lr rv P fl W0 elt i1 x1 x2 p1 p2 p3 ifs scope cl pos Q := by
  intro J hh hcell hkind hx1 hx2 hd1 hn F0 N0 nd0 hlr hrow h0 hst test done
  obtain ⟨klr, hlr⟩ := hlr
  have I := iterList (w := w) (A := A) (l := lr) (vs := rv)
  refine I.start s _ _ ⟨_, nget N0 (hlr W0 h0), rfl, klr, rfl⟩ fun o0 ho0 => ?_
  have N1 := N0.push F0 o0 (I.free _ _ ho0)
  have F1 := F0.push o0
  have hlt1 : ∀ p ∈ W0, p.1 < s.heap.objs.size := fun p hp => Heap.lt_size (N0 p hp).1
  refine wpAny_newObj_type (wpAny_newFunctionEnv hcell (by intro y hy; simp at hy) (fun h₁ hns₁ hsb₁ => ?_) hkind)
  dsimp only at hns₁ hsb₁ ⊢
  have N2 := N1.push F1 { cls := .type "list", dict := none, data := .seq ([] : List Value).toArray } rfl
  have F2 := F1.push { cls := .type "list", dict := none, data := .seq ([] : List Value).toArray }
  have hD : (s.heap.push o0).objs.size = s.heap.objs.size + 1 := Heap.size_push ..
  generalize hH2 : (s.heap.push o0).push { cls := .type "list", dict := none, data := .seq ([] : List Value).toArray } = H2 at hns₁ hsb₁ N2 F2 ⊢
  have hC : H2.objs.size = s.heap.objs.size + 2 := by rw [← hH2, Heap.size_push, hD]
  obtain ⟨oC, hoC, hnC⟩ := NsOf.of hns₁
  have old : ∀ b o, H2.get? b = some o → h₁.get? b = some o := fun b o e => hsb₁.extBut b o (Nat.ne_of_lt (Heap.lt_size e)) (Heap.get?_push_of_some _ e)
  obtain ⟨F3, N3, hlt3⟩ := extend1 F2 N2 old hoC (Heap.get?_none_of_le (Nat.le_refl _))
  have nd3 : (((H2.objs.size, oC) :: ((s.heap.push o0).objs.size, ({ cls := .type "list", dict := none, data := .seq ([] : List Value).toArray } : Obj)) :: (s.heap.objs.size, o0) :: W0).map (·.1)).Nodup := by
    rw [List.map_cons, List.nodup_cons]
    refine ⟨fun hm => ?_, ?_⟩
    · obtain ⟨p, hp, e⟩ := List.mem_map.mp hm
      exact hlt3 p hp e
    rw [List.map_cons, List.map_cons, List.nodup_cons, List.nodup_cons]
    refine ⟨fun hm => ?_, fun hm => ?_, nd0⟩
    · rcases List.mem_cons.mp hm with e | hm
      · rw [hD] at e; exact absurd e (Nat.succ_ne_self _)
      · obtain ⟨p, hp, e⟩ := List.mem_map.mp hm
        have := hlt1 p hp
        have e' : p.1 = (s.heap.push o0).objs.size := e
        rw [e', hD] at this
        exact absurd this (Nat.not_lt.mpr (Nat.le_succ _))
    · obtain ⟨p, hp, e⟩ := List.mem_map.mp hm
      exact Nat.ne_of_lt (hlt1 p hp) e
  have ap : ∀ p ∈ W0, p.1 ≠ s.heap.objs.size ∧ p.1 ≠ (s.heap.push o0).objs.size ∧ p.1 ≠ H2.objs.size := fun p hp => by
    have := hlt1 p hp
    refine ⟨Nat.ne_of_lt this, ?_, ?_⟩
    · rw [hD]; exact Nat.ne_of_lt (Nat.lt_succ_of_lt this)
    · rw [hC]; exact Nat.ne_of_lt (Nat.lt_succ_of_lt (Nat.lt_succ_of_lt this))
  have ne1 : s.heap.objs.size ≠ (s.heap.push o0).objs.size := by rw [hD]; exact Nat.ne_of_lt (Nat.lt_succ_self _)
  have ne2 : s.heap.objs.size ≠ H2.objs.size := by rw [hC]; exact Nat.ne_of_lt (Nat.lt_succ_of_lt (Nat.lt_succ_self _))
  have ne3 : (s.heap.push o0).objs.size ≠ H2.objs.size := by rw [hC, hD]; exact Nat.ne_of_lt (Nat.lt_succ_self _)
  have loop : ∀ (it D C : Addr), it ≠ D → it ≠ C → D ≠ C → (∀ p ∈ W0, p.1 ≠ it ∧ p.1 ≠ D ∧ p.1 ≠ C) → ∀ s₂ : Shared,
      (∃ W h tk nD o oC m, s₂ = { s with heap := h, toks := tk } ∧ Fr g L h (fv fl) ∧ News g L h W ∧ ((W).map (·.1)).Nodup ∧ (W).lookup it = some o ∧ IterAt "list_iterator" lr 0 o ∧ (W).lookup D = some (listOf ([] : List Value).toArray nD) ∧ (W).lookup C = some oC ∧ NsOf oC m ∧ J W ∧ (∀ p ∈ W0, ∃ x, (W).lookup p.1 = some x)) →
      codeAny (model PG w) A (.compLoop (.ListComp elt [⟨.Name x1 p1, i1, [], 0⟩, ⟨.Name x2 p2, .Name x1 p3, ifs, 0⟩] scope pos) 0 (.ref it) (.ref D) (compEnvC scope cl C env)) (compPost (model PG w) A E none Q (.ref D) C) s₂ := by
    intro it D C e1 e2 e3 hap s₂ hs₂
    refine comp2Outer (fun k s' => ∃ i W h tk nD o oC m, k = rv.length - i ∧ i ≤ rv.length ∧ s' = { s with heap := h, toks := tk } ∧ Fr g L h (fv fl) ∧ News g L h W ∧ ((W).map (·.1)).Nodup ∧ (W).lookup it = some o ∧ IterAt "list_iterator" lr i o ∧ (W).lookup D = some (listOf ([] : List Value).toArray nD) ∧ (W).lookup C = some oC ∧ NsOf oC m ∧ J W ∧ (∀ p ∈ W0, ∃ x, (W).lookup p.1 = some x))
      ?_ rv.length ?_
    · intro k s' hx9; obtain ⟨i, W, h, tk, nD, o, oC, m, rfl, hi, rfl, F, N, nd, hl, hio, hlD, hlC, hm, j, kin⟩ := hx9
      have hL : h.IsList lr rv.toArray := ⟨_, nget N (hlr W j), rfl, klr, rfl⟩
      by_cases hxi : i < rv.length
      · refine I.next { s with heap := h, toks := tk } _ _ i _ o (nget N hl) hio hL hxi fun h' v tk1 o' ho' hio' hs' hiv => ?_
        obtain ⟨a, cs, kc, rfl, hrw, hcl, hcP⟩ := hrow v (List.mem_of_getElem? hiv)
        obtain ⟨F', N', nd'⟩ := Mine.turn F N nd hl hs' ho'
        have hsome : ((W).lookup it).isSome = true := by rw [hl]; rfl
        have hl' : (putW W it o').lookup it = some o' := by rw [look_put hsome, if_pos rfl]
        have hlD' : (putW W it o').lookup D = some (listOf ([] : List Value).toArray nD) := by rw [look_put hsome, if_neg e1.symm]; exact hlD
        have hlC' : (putW W it o').lookup C = some oC := by rw [look_put hsome, if_neg e2.symm]; exact hlC
        have j' : J (putW W it o') := hst W _ nd' (fun b ob ⟨p, hp, hb⟩ e => by rw [look_put hsome, if_neg (by rw [← hb]; exact (hap p hp).1)]; exact e) j
        refine wpAny_assign_Name (wpAny_storeName_local (env := compEnvC scope cl C env) (lookup_relabel_local hx1) (hm.at (nget N' hlC')) (fun h₂ hn₂ hs₂ => ?_) (by simp [compEnvC, relabel, hkind]))
        obtain ⟨oC2, hoC2, hnC2⟩ := NsOf.of hn₂
        obtain ⟨F'', N'', nd''⟩ := Mine.turn F' N' nd' hlC' hs₂ hoC2
        have hsome2 : ((putW W it o').lookup C).isSome = true := by rw [hlC']; rfl
        have hl2 : (putW (putW W it o') C oC2).lookup it = some o' := by rw [look_put hsome2, if_neg e2]; exact hl'
        have hlD2 : (putW (putW W it o') C oC2).lookup D = some (listOf ([] : List Value).toArray nD) := by rw [look_put hsome2, if_neg e3]; exact hlD'
        have hlC2 : (putW (putW W it o') C oC2).lookup C = some oC2 := by rw [look_put hsome2, if_pos rfl]
        have j2 : J (putW (putW W it o') C oC2) := hst _ _ nd'' (fun b ob ⟨p, hp, hb⟩ e => by rw [look_put hsome2, if_neg (by rw [← hb]; exact (hap p hp).2.2)]; exact e) j'
        have kin2 : ∀ p ∈ W0, ∃ x, (putW (putW W it o') C oC2).lookup p.1 = some x := fun p hp => by
          obtain ⟨x, e⟩ := kin p hp
          exact ⟨x, by rw [look_put hsome2, if_neg (hap p hp).2.2, look_put hsome, if_neg (hap p hp).1]; exact e⟩
        generalize putW (putW W it o') C oC2 = W2 at N'' nd'' hl2 hlD2 hlC2 j2 kin2
        clear F N nd hl hlD hlC hm j F' N' nd' hl' hlD' hlC' j' hsome hsome2 hL
        refine ldC N'' hlC2 hnC2 (if_pos rfl) ?_ hkind hx1 hd1
        have hrl := hrw W2 j2
        have I2 := iterList (w := w) (A := A) (l := a) (vs := cs)
        refine I2.start _ _ _ ⟨_, nget N'' hrl, rfl, kc, rfl⟩ fun q0 hq0 => ?_
        dsimp only
        have N4 := N''.push F'' q0 (I2.free _ _ hq0)
        have F4 := F''.push q0
        have hf2 : ∀ p ∈ W2, p.1 ≠ h₂.objs.size := fun p hp => Nat.ne_of_lt (Heap.lt_size (N'' p hp).1)
        have nd4 : (((h₂.objs.size, q0) :: W2).map (·.1)).Nodup := by
          rw [List.map_cons, List.nodup_cons]
          exact ⟨fun hm => by obtain ⟨p, hp, e⟩ := List.mem_map.mp hm; exact hf2 p hp e, nd''⟩
        have lk4 : ∀ b x, W2.lookup b = some x → ((h₂.objs.size, q0) :: W2).lookup b = some x := fun b x e => by rw [look_cons, if_neg fun q => hf2 _ (look_mem e) q]; exact e
        have inner : ∀ s₃ : Shared, (∃ V h tk q oC m, s₃ = { s with heap := h, toks := tk } ∧ Fr g L h (fv fl) ∧ News g L h V ∧ (V.map (·.1)).Nodup ∧ V.lookup h₂.objs.size = some q ∧ IterAt "list_iterator" a 0 q ∧ V.lookup it = some o' ∧ V.lookup D = some (listOf ([] : List Value).toArray nD) ∧ V.lookup C = some oC ∧ NsOf oC m ∧ J V ∧ (∀ p ∈ W0, ∃ x, V.lookup p.1 = some x)) →
            codeAny (model PG w) A (.compLoop (.ListComp elt [⟨.Name x1 p1, i1, [], 0⟩, ⟨.Name x2 p2, .Name x1 p3, ifs, 0⟩] scope pos) 1 (.ref h₂.objs.size) (.ref D) (compEnvC scope cl C env))
              (fun r s₅ => match r with | .ok _ => ∃ k', k' < rv.length - i ∧ ∃ i' W h tk nD o oC m, k' = rv.length - i' ∧ i' ≤ rv.length ∧ s₅ = { s with heap := h, toks := tk } ∧ Fr g L h (fv fl) ∧ News g L h W ∧ ((W).map (·.1)).Nodup ∧ (W).lookup it = some o ∧ IterAt "list_iterator" lr i' o ∧ (W).lookup D = some (listOf ([] : List Value).toArray nD) ∧ (W).lookup C = some oC ∧ NsOf oC m ∧ J W ∧ (∀ p ∈ W0, ∃ x, (W).lookup p.1 = some x) | .error _ => False) s₃ := by
          intro s₃ hs₃
          have n1 : it ≠ h₂.objs.size := hf2 _ (look_mem hl2)
          have n2 : D ≠ h₂.objs.size := hf2 _ (look_mem hlD2)
          have n3 : C ≠ h₂.objs.size := hf2 _ (look_mem hlC2)
          have n4 : ∀ p ∈ W0, p.1 ≠ h₂.objs.size := fun p hp => by
            obtain ⟨x, e⟩ := kin2 p hp
            exact hf2 (_, x) (look_mem e)
          refine comp2Inner (fun k s' => ∃ j V h tk q oC m, k = cs.length - j ∧ j ≤ cs.length ∧ s' = { s with heap := h, toks := tk } ∧ Fr g L h (fv fl) ∧ News g L h V ∧ (V.map (·.1)).Nodup ∧ V.lookup h₂.objs.size = some q ∧ IterAt "list_iterator" a j q ∧ V.lookup it = some o' ∧ V.lookup D = some (listOf ([] : List Value).toArray nD) ∧ V.lookup C = some oC ∧ NsOf oC m ∧ J V ∧ (∀ p ∈ W0, ∃ x, V.lookup p.1 = some x)) ?_ cs.length ?_
          · intro k s' hx9; obtain ⟨j, V, h, tk, q, oC, m, rfl, hj, rfl, F, N, nd, hlq, hiq, hl, hlD, hlC, hm, jj, kj⟩ := hx9
            have hL : h.IsList a cs.toArray := ⟨_, nget N (hrw V jj), rfl, kc, rfl⟩
            by_cases hxj : j < cs.length
            · refine I2.next { s with heap := h, toks := tk } _ _ j _ q (nget N hlq) hiq hL hxj fun h' v tk1 q' hq' hiq' hs' hiv => ?_
              obtain ⟨F', N', nd'⟩ := Mine.turn F N nd hlq hs' hq'
              have hsome : (V.lookup h₂.objs.size).isSome = true := by rw [hlq]; rfl
              have K1 : ∀ b x, b ≠ h₂.objs.size → V.lookup b = some x → (putW V h₂.objs.size q').lookup b = some x := fun b x hb e => by rw [look_put hsome, if_neg hb]; exact e
              have hC1 := K1 _ _ n3 hlC
              refine wpAny_assign_Name (wpAny_storeName_local (env := compEnvC scope cl C env) (lookup_relabel_local hx2) (hm.at (nget N' hC1)) (fun h₂' hn₂ hs₂ => ?_) (by simp [compEnvC, relabel, hkind]))
              obtain ⟨oC2, hoC2, hnC2⟩ := NsOf.of hn₂
              obtain ⟨F'', N'', nd''⟩ := Mine.turn F' N' nd' hC1 hs₂ hoC2
              have hsome2 : ((putW V h₂.objs.size q').lookup C).isSome = true := by rw [hC1]; rfl
              have K2 : ∀ b x, b ≠ C → (putW V h₂.objs.size q').lookup b = some x → (putW (putW V h₂.objs.size q') C oC2).lookup b = some x := fun b x hb e => by rw [look_put hsome2, if_neg hb]; exact e
              have hC2 : (putW (putW V h₂.objs.size q') C oC2).lookup C = some oC2 := by rw [look_put hsome2, if_pos rfl]
              refine wpAny_mono (test v _ h₂' _ C oC2 _ (hcP v (List.mem_of_getElem? hiv)) F'' N'' hC2 hnC2 (if_pos rfl)) (fun ok s₃ ⟨hok, tk', e⟩ => ?_) fun _ _ x => x
              subst e
              refine ⟨hok, cs.length - (j + 1), by omega, j + 1, _, h₂', tk', q', oC2, _, rfl, by omega, rfl, F'', N'', nd'', K2 _ _ n3.symm (by rw [look_put hsome, if_pos rfl]), hiq', K2 _ _ e2 (K1 _ _ n1 hl), K2 _ _ e3 (K1 _ _ n2 hlD), hC2, hnC2, ?_, fun p hp => by
                obtain ⟨x, e⟩ := kj p hp
                exact ⟨x, K2 _ _ (hap p hp).2.2 (K1 _ _ (n4 p hp) e)⟩⟩
              exact hst V _ nd'' (fun b ob ⟨p, hp, hb⟩ e => K2 _ _ (by rw [← hb]; exact (hap p hp).2.2) (K1 _ _ (by rw [← hb]; exact n4 p hp) e)) jj
            · have hj2 : j = cs.length := by omega
              subst hj2
              refine I2.fin hh { s with heap := h, toks := tk } _ _ _ q (nget N hlq) hiq hL fun h' tk1 hs' => ?_
              obtain ⟨F', N', nd', K⟩ := iter_end F N nd hlq hs'
              refine ⟨rv.length - (i + 1), by omega, i + 1, _, h', tk1, nD, o', oC, m, rfl, by omega, rfl, F', N', nd', K _ _ n1 hl, hio', K _ _ n2 hlD, K _ _ n3 hlC, hm, hst V _ nd' (fun b ob ⟨p, hp, hb⟩ e => K _ _ (by rw [← hb]; exact n4 p hp) e) jj, fun p hp => by
                obtain ⟨x, e⟩ := kj p hp
                exact ⟨x, K _ _ (n4 p hp) e⟩⟩
          · obtain ⟨V, h, tk, q, oC, m, rfl, r⟩ := hs₃
            refine ⟨0, V, h, tk, q, oC, m, rfl, Nat.zero_le _, rfl, r⟩
        have ready : ∀ tk0 : Nat, ∃ V h tk q oC m, ({ s with heap := h₂.push q0, toks := tk0 } : Shared) = { s with heap := h, toks := tk } ∧ Fr g L h (fv fl) ∧ News g L h V ∧ (V.map (·.1)).Nodup ∧ V.lookup h₂.objs.size = some q ∧ IterAt "list_iterator" a 0 q ∧ V.lookup it = some o' ∧ V.lookup D = some (listOf ([] : List Value).toArray nD) ∧ V.lookup C = some oC ∧ NsOf oC m ∧ J V ∧ (∀ p ∈ W0, ∃ x, V.lookup p.1 = some x) := fun tk0 =>
          (i6 _ _ _ q0 oC2 _ ⟨rfl, F4, N4, nd4, by rw [look_cons, if_pos rfl], hq0, lk4 _ _ hl2, lk4 _ _ hlD2, lk4 _ _ hlC2, hnC2, hst W2 _ nd4 (fun b ob _ e => lk4 _ _ e) j2, fun p hp => by
            obtain ⟨x, e⟩ := kin2 p hp
            exact ⟨x, lk4 _ _ e⟩⟩)
        exact compStart1 (inner _ (ready _)) (selfList _ _ _ _ _ (nget N4 (by rw [look_cons, if_pos rfl])) hq0 (inner _ (ready _)))
      · have hi2 : i = rv.length := by omega
        subst hi2
        refine I.fin hh { s with heap := h, toks := tk } _ _ _ o (nget N hl) hio hL fun h' tk1 hs' => ?_
        obtain ⟨F1, N1, nd1, K1⟩ := iter_end F N nd hl hs'
        have hlC1 := K1 _ _ e2.symm hlC
        refine ⟨m, hm.at (nget N1 hlC1), fun h3 hs3 => ?_⟩
        obtain ⟨F3, N3, nd3, K3⟩ := iter_end F1 N1 nd1 hlC1 hs3.extBut
        exact done _ h3 _ D nD (hst W _ nd3 (fun b ob ⟨p, hp, hb⟩ e => K3 _ _ (by rw [← hb]; exact (hap p hp).2.2) (K1 _ _ (by rw [← hb]; exact (hap p hp).1) e)) j) F3 N3 nd3 (K3 _ _ e3 (K1 _ _ e1.symm hlD)) (fun p hp => (hap p hp).2.1)
    · obtain ⟨W, h, tk, nD, o, oC, m, rfl, r⟩ := hs₂
      refine ⟨0, W, h, tk, nD, o, oC, m, rfl, Nat.zero_le _, rfl, r⟩
  have hl0 : ((H2.objs.size, oC) :: ((s.heap.push o0).objs.size, ({ cls := .type "list", dict := none, data := .seq ([] : List Value).toArray } : Obj)) :: (s.heap.objs.size, o0) :: W0).lookup s.heap.objs.size = some o0 := mem_look nd3 (.tail _ (.tail _ (.head _)))
  have fin := loop _ _ _ ne1 ne2 ne3 ap { s with heap := h₁, toks := s.toks + ([] : List (Str × Value)).length } (i7 _ h₁ _ 0 o0 oC _ ⟨rfl, F3, N3, nd3, hl0, ho0, mem_look nd3 (.tail _ (.head _)), mem_look nd3 (.head _), hnC, hst W0 _ nd3 (fun b o _ e => mem_look nd3 (.tail _ (.tail _ (.tail _ (look_mem e))))) h0, fun p hp => ⟨p.2, mem_look nd3 (.tail _ (.tail _ (.tail _ hp)))⟩⟩)
  exact codeAny_compStart_list fin (selfList _ _ _ _ _ (nget N3 hl0) ho0 fin)
theorem all : ∀ y, P_ y := @pick_all _ _ P_ (by with_unfolding_all exact core)
end comp2Gen_
theorem comp2Gen {w A E s g L env lr rv P fl W0 elt i1 x1 x2 p1 p2 p3 ifs scope cl pos Q} : comp2Gen_.Q_ w A E s g L env lr rv P fl W0 elt i1 x1 x2 p1 p2 p3 ifs scope cl pos Q := @comp2Gen_.all (w, A, E, s, g, L, env, lr, rv, P, fl, W0, elt, i1, x1, x2, p1, p2, p3, ifs, scope, cl, pos, Q)
section
variable {w : World} {A : Around} {E : Value → Shared → Prop} {s : Shared} {g : Heap} {L : Addr} {env : Env}
end
/-! the law's ledger and the sorter -/
noncomputable def LAd (Z : List (Addr × Obj)) (L b : Addr) : Prop := b = L + 1 ∨ b = L + 1 + 1 ∨ b = L + 1 + 1 + 1 ∨ b = L + 1 + 1 + 1 + 1 ∨ b = L + 1 + 1 + 1 + 1 + 1 ∨ ∃ p ∈ Z, p.1 = b
theorem LW.viaA {V V' Z : List (Addr × Obj)} {L : Addr} {vs vf vr vd vx : Option Value} (h : LW V Z L vs vf vr vd vx) (nd : (V'.map (·.1)).Nodup) (K : ∀ b o, LAd Z L b → V.lookup b = some o → V'.lookup b = some o) : LW V' Z L vs vf vr vd vx := by
  have c : ∀ {b : Addr} {v : Option Value}, LAd Z L b → (∃ o, V.lookup b = some o ∧ o.data = .cell v) → ∃ o, V'.lookup b = some o ∧ o.data = .cell v := fun hb ⟨o, e, d⟩ => ⟨o, K _ _ hb e, d⟩
  refine ⟨nd, c (.inl rfl) h.cs, c (.inr (.inl rfl)) h.cf, c (.inr (.inr (.inl rfl))) h.cr, c (.inr (.inr (.inr (.inl rfl)))) h.cd, c (.inr (.inr (.inr (.inr (.inl rfl))))) h.cx, fun p hp => K _ _ (.inr (.inr (.inr (.inr (.inr ⟨p, hp, rfl⟩))))) (h.z p hp), h.zk⟩
theorem LW.has {V Z : List (Addr × Obj)} {L : Addr} {vs vf vr vd vx : Option Value} (h : LW V Z L vs vf vr vd vx) {b : Addr} (hb : LAd Z L b) : ∃ o, V.lookup b = some o ∧ ((∃ v, o.data = .cell v) ∨ ∃ p ∈ Z, p.2 = o) := by
  rcases hb with rfl | rfl | rfl | rfl | rfl | ⟨p, hp, rfl⟩
  · obtain ⟨o, e, d⟩ := h.cs; exact ⟨o, e, .inl ⟨_, d⟩⟩
  · obtain ⟨o, e, d⟩ := h.cf; exact ⟨o, e, .inl ⟨_, d⟩⟩
  · obtain ⟨o, e, d⟩ := h.cr; exact ⟨o, e, .inl ⟨_, d⟩⟩
  · obtain ⟨o, e, d⟩ := h.cd; exact ⟨o, e, .inl ⟨_, d⟩⟩
  · obtain ⟨o, e, d⟩ := h.cx; exact ⟨o, e, .inl ⟨_, d⟩⟩
  · exact ⟨_, h.z p hp, .inr ⟨p, hp, rfl⟩⟩
theorem Srt.fresh0 {w : World} {V : List (Addr × Obj)} {S : SS} (hS : Srt w V S) (hn : S.nodes = []) (hr : S.rd = none) {b : Addr} {o : Obj} (e : V.lookup b = some o) (hc : (∃ v, o.data = .cell v) ∨ ∃ xs n, o.data = .seq xs n) : ¬ SAddr S b := fun q => by
  have key : ∀ o' : Obj, V.lookup b = some o' → (∀ v, o'.data ≠ .cell v) → (∀ xs n, o'.data ≠ .seq xs n) → False := fun o' e' h1 h2 => by
    rw [e] at e'; cases e'
    rcases hc with ⟨v, d⟩ | ⟨xs, n, d⟩
    · exact h1 v d
    · exact h2 xs n d
  rcases q with rfl | rfl | rfl | q | ⟨x, hx, _⟩
  · exact key _ hS.obj (fun _ e => nomatch e) (fun _ _ e => nomatch e)
  · obtain ⟨es, n, t1, t2, hd, A⟩ := hS.ats; exact key _ hd (fun _ e => nomatch e) (fun _ _ e => nomatch e)
  · obtain ⟨o', ho, es, ep, hc, hdd, _⟩ := hS.inf
    exact key _ ho (fun _ e => by rw [hdd] at e; cases e) (fun _ _ e => by rw [hdd] at e; cases e)
  · rw [hr] at q; cases q
  · rw [hn] at hx; cases hx
theorem cnt_sum (nm : Str) : ∀ F : List NT, (((F.map fun e => if hit e.1 nm then 1 else 0).map fun x : Nat => (x : Int)).sum) = (depL F nm : Int)
  | [] => rfl
  | e :: F => by
    have ih := cnt_sum nm F
    unfold depL at ih ⊢
    rw [List.map_cons, List.map_cons, List.sum_cons, ih, List.countP_cons]
    cases hit e.1 nm <;> simp
    omega
theorem LW.viaW {V V' V0 Z : List (Addr × Obj)} {L : Addr} {vs vf vr vd vx vs0 vf0 vr0 vd0 vx0 : Option Value} (h : LW V Z L vs vf vr vd vx) (h0 : LW V0 Z L vs0 vf0 vr0 vd0 vx0) (nd : (V'.map (·.1)).Nodup) (K : ∀ b o, (∃ p ∈ V0, p.1 = b) → V.lookup b = some o → V'.lookup b = some o) : LW V' Z L vs vf vr vd vx :=
  h.via (P := fun b => ∃ p ∈ V0, p.1 = b) h0 (fun b o e => ⟨_, look_mem e, rfl⟩) nd K
noncomputable def Seqs (Z : List (Addr × Obj)) : Prop := ∀ p ∈ Z, ∃ xs n, p.2.data = .seq xs n
theorem PT.seqs {Tn ps} (h : PT Tn ps) : Seqs Tn := by
  induction h with
  | nil => exact fun _ h => nomatch h
  | cons _ ih => intro q hq; rcases List.mem_cons.mp hq with rfl | hq; exact ⟨_, _, rfl⟩; exact ih q hq
theorem RT.seqs {F : List NT} {Ro xs} (h : RT F Ro xs) : Seqs Ro := by
  induction h with
  | nil => exact fun _ h => nomatch h
  | cons _ _ ih => intro q hq; rcases List.mem_cons.mp hq with rfl | hq; exact ⟨_, _, rfl⟩; exact ih q hq
theorem Seqs.cons {Z : List (Addr × Obj)} {a : Addr} {xs : Array Value} {n : Nat} (h : Seqs Z) : Seqs ((a, listOf xs n) :: Z) := fun p hp => (List.mem_cons.mp hp).elim (fun e => by subst e; exact ⟨_, _, rfl⟩) (h p)
theorem Seqs.append {Z Z' : List (Addr × Obj)} (h : Seqs Z) (k : Seqs Z') : Seqs (Z ++ Z') := fun p hp => (List.mem_append.mp hp).elim (h p) (k p)
theorem LW.sep {w : World} {V Z : List (Addr × Obj)} {L : Addr} {S : SS} {vs vf vr vd vx : Option Value} (h : LW V Z L vs vf vr vd vx) (hz : Seqs Z) (hS : Srt w V S) (hn : S.nodes = []) (hr : S.rd = none) : ∀ b, LAd Z L b → ¬ SAddr S b := fun b hb => by
  obtain ⟨o, e, d⟩ := h.has hb
  refine hS.fresh0 hn hr e ?_
  rcases d with ⟨v, d⟩ | ⟨p, hp, rfl⟩
  · exact .inl ⟨v, d⟩
  · exact .inr (hz p hp)
/-! a comprehension whose variable is a cell, for a comprehension within it reads it -/
noncomputable def CellB (C Cy : Addr) (W : List (Addr × Obj)) : Prop := (∃ oC m, W.lookup C = some oC ∧ NsOf oC m) ∧ ∃ oy v, W.lookup Cy = some oy ∧ oy.data = .cell v
theorem nsNew : NsOf ({ cls := .type "dict", data := .dict #[] } : Obj) (fun _ => none) := ⟨#[], _, rfl, (by intro e he; simp at he), fun name => rfl⟩
theorem lookup_relabel_cell {env : Env} : ∀ {names : List (Str × NameKind)} {x : Str}, names.lookup x = some .cell →
    (names.map fun (n, k) => if (k == NameKind.free && env.scope.kind == .function && env.kindOf n == some .cell) then (n, NameKind.cell) else (n, k)).lookup x = some .cell
  | [], _, h => by simp at h
  | (n, k) :: r, x, h => by
    rw [List.lookup_cons] at h
    rw [List.map_cons]
    by_cases e : (x == n) = true
    · rw [e] at h
      have hk : k = .cell := by simpa using h
      subst hk
      simp [List.lookup_cons, e]
    · have e' : (x == n) = false := by simpa using e
      rw [e'] at h
      have ih := lookup_relabel_cell (env := env) (names := r) h
      dsimp only
      split <;> (rw [List.lookup_cons, e']; exact ih)
section
variable {w : World} {A : Around} {E : Value → Shared → Prop} {s : Shared} {g : Heap} {L : Addr} {env : Env}
theorem newEnv1 {scope : Scope} {globals : Addr} {cl : List (Str × Addr)} {qual : Str} {outer : Env} {n0 n2 n3 x : Str} {Q : Env → Shared → Prop} (hns : scope.names = [(n0, .local), (x, .cell), (n2, .globalImplicit), (n3, .free)])
    (h : Q { scope := scope, locals := s.heap.objs.size, globals := globals, cells := (x, (s.heap.push { cls := .type "dict", data := .dict #[] }).objs.size) :: cl, qual := qual, func := none, code := outer.code, frame := outer.frame, builtins := outer.builtins }
      { s with heap := (s.heap.push { cls := .type "dict", data := .dict #[] }).push { cls := .type "cell", data := .cell none } }) :
    wpAny (model PG w) A (newFunctionEnv scope globals cl [] qual none .none (some outer)) Q E s := by
  unfold newFunctionEnv
  rw [hns]
  refine wpAny_bind (wpAny_alloc ?_)
  refine wpAny_bind ?_
  rw [List.forIn_cons]
  refine wpAny_bind (wpAny_pure ?_)
  dsimp only
  rw [List.forIn_cons]
  refine wpAny_bind (wpAny_bind (wpAny_alloc (wpAny_pure ?_)))
  dsimp only
  rw [List.forIn_cons]
  refine wpAny_bind (wpAny_pure ?_)
  dsimp only
  rw [List.forIn_cons]
  refine wpAny_bind (wpAny_pure ?_)
  dsimp only
  rw [List.forIn_nil]
  refine wpAny_pure ?_
  exact wpAny_bind (wpAny_pure (wpAny_pure h))
theorem compGenY {xv : Value} {T : String} {n : Nat} {H : Heap → Prop} {IT : Nat → Obj → Prop} {It : Nat → Value → Prop} (I : Iter w A xv T n H IT It) {fl : List (Str × Option Value)} {W0 : List (Addr × Obj)}
    {elt iter : PySem.Expr} {x : Str} {px : Pos} {ifs : List PySem.Expr} {scope : Scope} {cl : List (Str × Addr)} {pos : Pos} {Q : Shared → Prop} {y : Str} {py : Pos} {cn : Str} {cs : Scope} {fa : Addr} {ccd : Value} {ecl : List (Str × Addr)} {fl' : Addr → List (Str × Option Value)} (J : Nat → List Value → List (Addr × Obj) → Prop)
    (hself : ∀ (s : Shared) (Q : Value → Shared → Prop) (E : Value → Shared → Prop) (it : Addr) (o : Obj), s.heap.get? it = some o → IT 0 o → Q (.ref it) s → wpAny (model PG w) A (pyIter (.ref it)) Q E s)
    (ndfl : (fl.map (·.1)).Nodup) (ns : (cs.names.map (·.1)).Nodup) (hset : ∀ D, FvSet y (.ref D) fl (fl' D)) (hky : (y, NameKind.local) ∈ cs.names) (hkc : cs.kind = .function)
    (hh : A.handled = none) {n0 n2 n3 : Str} (hns : scope.names = [(n0, .local), (x, .cell), (n2, .globalImplicit), (n3, .free)]) (hxc : scope.names.lookup x = some .cell) (hkind : scope.kind = .function) (hn : n ≤ 900)
    (F0 : Fr g L s.heap (fv fl)) (N0 : News g L s.heap W0) (nd0 : (W0.map (·.1)).Nodup)
    (hlist : ∀ i vs W h, J i vs W → Fr g L h (fv fl) → News g L h W → H h) (h0 : J 0 [] W0)
    (hst : ∀ it D C Cy, (∀ p ∈ W0, p.1 ≠ it ∧ p.1 ≠ D ∧ p.1 ≠ C ∧ p.1 ≠ Cy) → ∀ i vs W W', (W'.map (·.1)).Nodup → (∀ b o, (b ≠ it ∧ b ≠ D ∧ b ≠ C ∧ b ≠ Cy) → W.lookup b = some o → W'.lookup b = some o) → J i vs W → J i vs W')
    (turn : ∀ i v vs W h tk it o D nD C oC m Cy oy, i < n → It i v → J i vs W → vs.length ≤ i → Fr g L h (fv fl) → News g L h W → (W.map (·.1)).Nodup → (∀ p ∈ W0, p.1 ≠ it ∧ p.1 ≠ D ∧ p.1 ≠ C ∧ p.1 ≠ Cy) → W.lookup it = some o → W.lookup D = some (listOf vs.toArray nD) → W.lookup C = some oC → NsOf oC m → W.lookup Cy = some oy → oy.data = .cell (some v) →
      wpAny (model PG w) A (forIn ifs true fun c r => if r = true then do let ok ← isTrue c (compEnvC scope ((x, Cy) :: cl) C (envX cn cs L fa ccd ecl)) (eval c (compEnvC scope ((x, Cy) :: cl) C (envX cn cs L fa ccd ecl))); pure (ForInStep.yield ok) else pure (ForInStep.yield r))
        (fun ok s₃ => if ok = true then wpAny (model PG w) A (eval elt (compEnvC scope ((x, Cy) :: cl) C (envX cn cs L fa ccd ecl))) (fun y s₄ => CompB g L fl J (i + 1) (vs ++ [y]) it o D (listOf vs.toArray nD) (CellB C Cy) s s₄) (fun _ _ => False) s₃
          else CompB g L fl J (i + 1) vs it o D (listOf vs.toArray nD) (CellB C Cy) s s₃) (fun _ _ => False) { s with heap := h, toks := tk })
    (done : ∀ vs W h tk D nD, J n vs W → Fr g L h (fv (fl' D)) → News g L h W → (W.map (·.1)).Nodup → W.lookup D = some (listOf vs.toArray nD) → (∀ p ∈ W0, p.1 ≠ D) → ((fl' D).map (·.1)).Nodup → Q { s with heap := h, toks := tk }) :
    wpAny (model PG w) A (pyIter xv) (fun it s₂ => wpAny (model PG w) A (newList []) (fun acc s₃ => wpAny (model PG w) A (newFunctionEnv scope (envX cn cs L fa ccd ecl).globals cl [] (envX cn cs L fa ccd ecl).qual none .none (some (envX cn cs L fa ccd ecl))) (fun cenv s₄ =>
      codeAny (model PG w) A (.compStart (.ListComp elt [⟨.Name x px, iter, ifs, 0⟩] scope pos) 0 it acc { cenv with scope := relabel scope (envX cn cs L fa ccd ecl) }) (compPost (model PG w) A E (some (assign (.Name y py) (envX cn cs L fa ccd ecl))) (fun _ s' => Q s') acc cenv.locals) s₄) E s₃) E s₂) E s := by
  refine I.start s _ _ (hlist 0 [] W0 s.heap h0 F0 N0) fun o0 ho0 => ?_
  have N1 := N0.push F0 o0 (I.free _ _ ho0)
  have F1 := F0.push o0
  have hlt1 : ∀ p ∈ W0, p.1 < s.heap.objs.size := fun p hp => Heap.lt_size (N0 p hp).1
  refine wpAny_newObj_type (newEnv1 hns ?_)
  dsimp only
  have N2 := N1.push F1 { cls := .type "list", dict := none, data := .seq ([] : List Value).toArray } rfl
  have F2 := F1.push { cls := .type "list", dict := none, data := .seq ([] : List Value).toArray }
  have hD : (s.heap.push o0).objs.size = s.heap.objs.size + 1 := Heap.size_push ..
  generalize hH2 : (s.heap.push o0).push { cls := .type "list", dict := none, data := .seq ([] : List Value).toArray } = H2 at N2 F2 ⊢
  have hC : H2.objs.size = s.heap.objs.size + 2 := by rw [← hH2, Heap.size_push, hD]
  have N3 := (N2.push F2 { cls := .type "dict", data := .dict #[] } rfl)
  have F3 := F2.push { cls := .type "dict", data := .dict #[] }
  have hY : (H2.push { cls := .type "dict", data := .dict #[] }).objs.size = s.heap.objs.size + 3 := by rw [Heap.size_push, hC]
  have N4 := (N3.push F3 { cls := .type "cell", data := .cell none } rfl)
  have F4 := F3.push { cls := .type "cell", data := .cell none }
  have ap : ∀ p ∈ W0, p.1 ≠ s.heap.objs.size ∧ p.1 ≠ (s.heap.push o0).objs.size ∧ p.1 ≠ H2.objs.size ∧ p.1 ≠ (H2.push { cls := .type "dict", data := .dict #[] }).objs.size := fun p hp => by
    have := hlt1 p hp
    refine ⟨Nat.ne_of_lt this, ?_, ?_, ?_⟩
    · rw [hD]; exact Nat.ne_of_lt (Nat.lt_succ_of_lt this)
    · rw [hC]; exact Nat.ne_of_lt (Nat.lt_succ_of_lt (Nat.lt_succ_of_lt this))
    · rw [hY]; exact Nat.ne_of_lt (Nat.lt_succ_of_lt (Nat.lt_succ_of_lt (Nat.lt_succ_of_lt this)))
  have ne1 : s.heap.objs.size ≠ (s.heap.push o0).objs.size := by rw [hD]; exact Nat.ne_of_lt (Nat.lt_succ_self _)
  have ne2 : s.heap.objs.size ≠ H2.objs.size := by rw [hC]; exact Nat.ne_of_lt (Nat.lt_succ_of_lt (Nat.lt_succ_self _))
  have ne3 : (s.heap.push o0).objs.size ≠ H2.objs.size := by rw [hC, hD]; exact Nat.ne_of_lt (Nat.lt_succ_self _)
  have ne4 : s.heap.objs.size ≠ (H2.push { cls := .type "dict", data := .dict #[] }).objs.size := by rw [hY]; exact Nat.ne_of_lt (Nat.lt_succ_of_lt (Nat.lt_succ_of_lt (Nat.lt_succ_self _)))
  have ne5 : (s.heap.push o0).objs.size ≠ (H2.push { cls := .type "dict", data := .dict #[] }).objs.size := by rw [hY, hD]; exact Nat.ne_of_lt (Nat.lt_succ_of_lt (Nat.lt_succ_self _))
  have ne6 : H2.objs.size ≠ (H2.push { cls := .type "dict", data := .dict #[] }).objs.size := by rw [hY, hC]; exact Nat.ne_of_lt (Nat.lt_succ_self _)
  have nd3 : (((((H2.push { cls := .type "dict", data := .dict #[] }).objs.size, ({ cls := .type "cell", data := .cell none } : Obj)) :: (H2.objs.size, ({ cls := .type "dict", data := .dict #[] } : Obj)) :: ((s.heap.push o0).objs.size, ({ cls := .type "list", dict := none, data := .seq ([] : List Value).toArray } : Obj)) :: (s.heap.objs.size, o0) :: W0)).map (·.1)).Nodup := by
    simp only [List.map_cons, List.nodup_cons, List.mem_cons, not_or, List.mem_map, not_exists, not_and]
    refine ⟨⟨ne6.symm, ne5.symm, ne4.symm, fun p hp e => (ap p hp).2.2.2 e⟩, ⟨ne3.symm, ne2.symm, fun p hp e => (ap p hp).2.2.1 e⟩, ⟨ne1.symm, fun p hp e => (ap p hp).2.1 e⟩, fun p hp e => (ap p hp).1 e, nd0⟩
  have hl0 := mem_look nd3 (a := s.heap.objs.size) (o := o0) (.tail _ (.tail _ (.tail _ (.head _))))
  have st := hst _ _ _ _ ap
  have fin := loopCore (K := fun _ => False) (priv := fun b => b = H2.objs.size ∨ b = (H2.push { cls := .type "dict", data := .dict #[] }).objs.size) (B := CellB H2.objs.size (H2.push { cls := .type "dict", data := .dict #[] }).objs.size)
    (Bv := fun v W => (∃ oC m, W.lookup H2.objs.size = some oC ∧ NsOf oC m) ∧ ∃ oy, W.lookup (H2.push { cls := .type "dict", data := .dict #[] }).objs.size = some oy ∧ oy.data = .cell (some v)) (s := s) (target := .Name x px) (elt := elt) (iter := iter) (ifs := ifs) (scope := scope) (pos := pos) (ce := compEnvC scope ((x, (H2.push { cls := .type "dict", data := .dict #[] }).objs.size) :: cl) H2.objs.size (envX cn cs L fa ccd ecl)) I
    (compPost (model PG w) A E (some (assign (.Name y py) (envX cn cs L fa ccd ecl))) (fun _ s' => Q s') (.ref (s.heap.push o0).objs.size) H2.objs.size) J ne1 (fun q => q.elim ne2 ne4) (fun q => q.elim ne3 ne5) hh hn hlist ⟨fun _ _ _ h => h, fun _ _ h => h⟩
    (fun i vs W W' nd k j => st i vs W W' nd (fun b o hb e => k b o (.inr ⟨hb.1, hb.2.1, fun q => q.elim hb.2.2.1 hb.2.2.2⟩) e) j)
    (fun W W' L ⟨⟨oC, m, hlC, hm⟩, oy, v, hly, hdy⟩ => ⟨⟨oC, m, L _ _ (.inl rfl) hlC, hm⟩, oy, v, L _ _ (.inr rfl) hly, hdy⟩) (fun v W h tk Q E F N nd ⟨⟨oC, m, hlC, hm⟩, oy, vy, hly, hdy⟩ hq => ?_)
    (fun i v vs W h tk o nD hxi hiv j hvl F N nd hl hlD ⟨⟨oC, m, hlC, hm⟩, oy, hly, hdy⟩ => turn i v vs W h tk _ o _ nD _ oC m _ oy hxi hiv j hvl F N nd ap hl hlD hlC hm hly hdy)
    (fun vs W h tk nD j F N nd hlD ⟨⟨oC, m, hlC, hm⟩, _⟩ => ?_) (fun _ => rfl) (tk0 := s.toks) F4 N4 nd3 hl0 ho0 (mem_look nd3 (.tail _ (.tail _ (.head _)))) ⟨⟨_, _, mem_look nd3 (.tail _ (.head _)), nsNew⟩, _, none, mem_look nd3 (.head _), rfl⟩ (st 0 [] W0 _ nd3 (fun b o _ e => mem_look nd3 (.tail _ (.tail _ (.tail _ (.tail _ (look_mem e)))))) h0)
  · exact codeAny_compStart_list fin (hself _ _ _ _ _ (nget N4 hl0) ho0 fin)
  · refine wpAny_assign_Name (wpAny_storeName_cell (env := compEnvC scope ((x, (H2.push { cls := .type "dict", data := .dict #[] }).objs.size) :: cl) H2.objs.size (envX cn cs L fa ccd ecl)) (by simp [compEnvC, relabel, hkind]) (lookup_relabel_cell hxc) (by simp [compEnvC]) ⟨oy, nget N hly, hdy⟩ (fun h₂ ⟨oy2, hoy2, hdy2⟩ hs₂ => ?_))
    obtain ⟨F', N', nd'⟩ := Mine.turn F N nd hly hs₂ hoy2
    have hsome : (W.lookup (H2.push { cls := .type "dict", data := .dict #[] }).objs.size).isSome = true := by rw [hly]; rfl
    exact hq _ _ _ F' N' nd' ⟨⟨oC, m, by rw [look_put hsome, if_neg ne6]; exact hlC, hm⟩, oy2, by rw [look_put hsome, if_pos rfl], hdy2⟩ (fun b ob hb e => by rw [look_put hsome, if_neg fun q => hb.elim (fun z => z) fun z => z (.inr q)]; exact e) (fun b ob hb e => by rw [look_put hsome, if_neg fun q => hb (.inr q)]; exact e)
  · show wpAny (model PG w) A (assign (.Name y py) (envX cn cs L fa ccd ecl) (.ref (s.heap.push o0).objs.size)) _ _ _
    refine wpAny_assign_Name (stF F N ndfl ns (hset _) hky (fun h2 F2 N2 nd2' => ?_) hkc)
    refine ⟨m, hm.at (nget N2 hlC), fun h3 hs3 => ?_⟩
    obtain ⟨F3, N3, nd3⟩ := dropC F2 N2 nd hlC hs3
    exact done vs _ h3 _ _ nD (st _ _ _ _ nd3 (fun b ob hb e => mem_look nd3 (List.mem_filter.mpr ⟨look_mem e, decide_eq_true hb.2.2.1⟩)) j) F3 N3 nd3 (mem_look nd3 (List.mem_filter.mpr ⟨look_mem hlD, decide_eq_true ne3⟩)) (fun p hp => (ap p hp).2.1) nd2'
end
theorem kl_zl_add : True := by
  k_with "lia" => ((fail_if_success k_extra "zl_add"); lia)
  trivial
/-! plain law of the filling of the sorter -/
theorem Ens.nodes {S S' : SS} {x : Nat} (h : Ens S x S') (nd : S.nodes.Nodup) : S'.nodes.Nodup ∧ ∀ z, z ∈ S'.nodes ↔ z ∈ S.nodes ∨ z = x := by
  rcases h with ⟨hx, rfl⟩ | ⟨hx, a, la, d, rfl⟩
  · exact ⟨nd, fun z => ⟨.inl, fun h => h.elim id fun e => by rw [e]; exact hx⟩⟩
  · refine ⟨?_, fun z => ?_⟩
    · show (S.nodes ++ [x]).Nodup
      rw [List.nodup_append]
      exact ⟨nd, by simp, fun a ha b hb e => by rw [List.mem_singleton] at hb; exact hx (by rw [← hb, ← e]; exact ha)⟩
    · show z ∈ S.nodes ++ [x] ↔ _
      rw [List.mem_append, List.mem_singleton]
theorem AddTo.facts {x : Nat} {S S' : SS} {ys : List Nat} (h : AddTo x S ys S') : S.nodes.Nodup → Cl S → ys.Nodup →
    S'.np = S.np ∧ S'.rd = S.rd ∧ S'.s = S.s ∧ S'.po = S.po ∧ S'.nf = S.nf ∧ S'.ready = S.ready ∧ S'.nodes.Nodup ∧ (∀ z, z ∈ S'.nodes ↔ z ∈ S.nodes ∨ z ∈ ys) ∧ Cl S' ∧ ∀ y, S'.succ y = S.succ y ++ (if y ∈ ys then [x] else []) := by
  induction h with
  | nil => exact fun nd cl _ => ⟨rfl, rfl, rfl, rfl, rfl, rfl, nd, fun z => by simp, cl, fun y => by simp⟩
  | @snoc l Si y Sm h1 he ih =>
    intro nd cl nly
    rw [List.nodup_append] at nly
    obtain ⟨nl, _, hny⟩ := nly
    have hy : y ∉ l := fun q => hny y q y (.head _) rfl
    obtain ⟨i1, i2, i3, i4, i5, i6, i7, i8, i9, i10⟩ := ih nd cl nl
    obtain ⟨e1, e2, e3, e4, e5, e6, e7, e8, e9⟩ := he.np
    obtain ⟨n1, n2⟩ := he.nodes i7
    refine ⟨e1.trans i1, e3.trans i2, e4.trans i3, e7.trans i4, e8.trans i5, e9.trans i6, n1, fun z => ?_, (he.cl i9).setSucc he.mem _, fun z => ?_⟩
    · show z ∈ Sm.nodes ↔ _
      rw [n2, i8, List.mem_append, List.mem_singleton, or_assoc]
    · show upd Sm.succ y (Sm.succ y ++ [x]) z = _
      by_cases e : z = y
      · subst e
        rw [upd_self, e2, i10, if_neg hy, List.append_nil, if_pos (List.mem_append_right _ (.head _))]
      · rw [upd_ne _ _ e, e2, i10]
        have : (z ∈ l ++ [y]) ↔ z ∈ l := by simp [e]
        simp only [this]
noncomputable def preds (n : Nat) (M : Nat → Nat → Bool) (x : Nat) : List Nat := (List.range n).filter fun y => decide (Bel n M y x)
structure AddI (n : Nat) (M : Nat → Nat → Bool) (S : SS) (i : Nat) : Prop where
  rd : S.rd = none
  rdy : S.ready = []
  po : S.po = 0
  nf : S.nf = 0
  nd : S.nodes.Nodup
  lt : ∀ z ∈ S.nodes, z < n
  cov : ∀ x, x < i → x ∈ S.nodes
  cl : Cl S
  np : ∀ x, x < i → S.np x = ((preds n M x).length : Int)
  np0 : ∀ x, i ≤ x → S.np x = 0
  suc : ∀ y, S.succ y = (List.range i).filter fun x => decide (Bel n M y x)
section
variable {n : Nat} {M : Nat → Nat → Bool} {S S1 S' : SS} {i : Nat}
theorem AddI.zero (hn : S.nodes = []) (hr : S.rd = none) (hrdy : S.ready = []) (hpo : S.po = 0) (hnf : S.nf = 0) (hnp : ∀ y, S.np y = 0 ∧ S.succ y = []) : AddI n M S 0 :=
  ⟨hr, hrdy, hpo, hnf, by rw [hn]; exact .nil, fun z hz => by (rw [hn] at hz; cases hz), fun x hx => absurd hx (Nat.not_lt_zero _), fun y _ => hnp y, fun x hx => absurd hx (Nat.not_lt_zero _), fun x _ => (hnp x).1, fun y => (hnp y).2⟩
theorem AddI.step (a : AddI n M S i) (hi : i < n) (he : Ens S i S1) (ht : AddTo i { S1 with np := upd S1.np i (S1.np i + (preds n M i).length) } (preds n M i) S') : AddI n M S' (i + 1) ∧ S'.s = S.s := by
  obtain ⟨e1, e2, e3, e4, e5, e6, e7, e8, e9⟩ := he.np
  obtain ⟨n1, n2⟩ := he.nodes a.nd
  have ndp : (preds n M i).Nodup := List.Sublist.nodup List.filter_sublist List.nodup_range
  have mp : ∀ y, y ∈ preds n M i ↔ Bel n M y i := fun y => by
    unfold preds
    rw [List.mem_filter, List.mem_range, decide_eq_true_iff]
    exact ⟨fun h => h.2, fun h => ⟨h.1, h⟩⟩
  obtain ⟨f1, f2, f3, f4, f5, f6, f7, f8, f9, f10⟩ := ht.facts n1 ((he.cl a.cl).setNp he.mem _) ndp
  refine ⟨?_, f3.trans e4⟩
  refine ⟨f2.trans (e3.trans a.rd), f6.trans (e9.trans a.rdy), f4.trans (e7.trans a.po), f5.trans (e8.trans a.nf), f7, fun z hz => ?_, fun x hx => ?_, f9, fun x hx => ?_, fun x hx => ?_, fun y => ?_⟩
  · rcases (f8 z).mp hz with h | h
    · rcases (n2 z).mp h with h | h
      · exact a.lt z h
      · rw [h]; exact hi
    · exact ((mp z).mp h).1
  · refine (f8 x).mpr (.inl ((n2 x).mpr ?_))
    by_cases e : x = i
    · exact .inr e
    · exact .inl (a.cov x (by omega))
  · rw [f1]
    show upd S1.np i _ x = _
    by_cases e : x = i
    · subst e
      rw [upd_self, e1, a.np0 x (Nat.le_refl _)]; omega
    · rw [upd_ne _ _ e, e1]; exact a.np x (by omega)
  · rw [f1]
    show upd S1.np i _ x = _
    rw [upd_ne _ _ (by omega), e1]; exact a.np0 x (by omega)
  · rw [f10]
    show S1.succ y ++ _ = _
    rw [e2, a.suc, List.range_succ, List.filter_append]
    congr 1
    by_cases b : Bel n M y i
    · rw [if_pos ((mp y).mpr b), List.filter_cons, if_pos (decide_eq_true b)]; rfl
    · rw [if_neg fun q => b ((mp y).mp q), List.filter_cons, if_neg (by simpa using b)]; rfl
theorem AddI.mid (a : AddI n M S n) (rl : Addr) : Mid n M { S with rd := some rl, ready := S.nodes.filter fun y => decide (S.np y = 0) } [] [] := by
  have er : ∀ y, rest n M [] y = preds n M y := fun y => by
    unfold rest preds
    refine List.filter_congr fun z _ => ?_
    simp
  have hnodes : ∀ x, x ∈ S.nodes ↔ x < n := fun x => ⟨a.lt x, a.cov x⟩
  have hnp : ∀ y, y < n → S.np y = ((rest n M [] y).length : Int) := fun y hy => by rw [er]; exact a.np y hy
  refine ⟨hnodes, fun x => ?_, fun x hx y => ?_, nofun, nofun, nofun, nofun, fun y hy _ _ => hnp y hy, fun y => ?_, List.Sublist.nodup List.filter_sublist a.nd, nofun, nofun⟩
  · show (S.succ x).Nodup
    rw [a.suc]
    exact List.Sublist.nodup List.filter_sublist List.nodup_range
  · show y ∈ S.succ x ↔ _
    rw [a.suc, List.mem_filter, List.mem_range, decide_eq_true_iff]
    exact ⟨fun h => h.2, fun h => ⟨h.2.1, h⟩⟩
  · show y ∈ S.nodes.filter _ ↔ _
    rw [List.mem_filter, hnodes, decide_eq_true_iff]
    constructor
    · rintro ⟨h1, h2⟩
      rw [hnp y h1] at h2
      exact ⟨h1, nofun, nofun, List.eq_nil_of_length_eq_zero (by omega)⟩
    · intro hx9; obtain ⟨h1, _, _, h4⟩ := hx9
      exact ⟨h1, by rw [hnp y h1, h4]; rfl⟩
theorem AddI.rank {dp num : Nat → Nat} (a : AddI n M S n) (tr : Tree n M dp num) : ∀ x ∈ S.nodes, ∀ y ∈ S.succ x, y ∈ S.nodes ∧ num x < num y := fun x _ y hy => by
  rw [a.suc, List.mem_filter, List.mem_range, decide_eq_true_iff] at hy
  exact ⟨a.cov y hy.1, tr.less _ _ hy.2⟩
end
theorem kz_zl_add : True := by
  k_with "zl_add" => skip
  trivial
/-! a method is called with a starred argument -/
section
variable {M : Model} {A : Around} {E : Value → Shared → Prop} {s : Shared} {K : Frag} {env : Env}
theorem MethodStar {o : PySem.Expr} {name : Str} {apos pos : Pos} {args : List PySem.Expr} {Q : Value → Shared → Prop}
    (h : wpAny M A (eval o env) (fun ov s₁ => wpAny M A (getAttr ov name true) (fun f s₂ => wpAny M A (callWith pos f [] (backTo pos (starEach args env)) []) Q E s₂) E s₁) E s)
    (he : eval (.Call (.Attribute o name apos) args [] pos) env = (do
      let ov ← eval o env
      standAt apos.atName
      let (f, first) ← holding [ov] (do pure (← getAttr ov name true, []))
      callWith pos f first (backTo pos (starEach args env)) []) := by rfl) :
    wpAny M A (eval (.Call (.Attribute o name apos) args [] pos) env) Q E s := by
  rw [he]
  refine wpAny_bind (wpAny_mono h (fun ov s₁ h₁ => wpAny_bind (wpAny_standAt (wpAny_bind (wpAny_holding (wpAny_bind (wpAny_mono h₁ (fun f s₂ h₂ => wpAny_pure ?_) fun _ _ x => x)))))) fun _ _ x => x)
  exact h₂
theorem callWith_SM {q f : Addr} {self : Value} {e : PySem.Expr} {rest : List PySem.Expr} {pos : Pos} {first : List Value} {Q : Value → Shared → Prop} (hf : fnIn K f = true)
    (h : wpAny M A (spliced (backTo pos (starEach (e :: rest) env))) (fun vs s₁ => MethP K q f self s₁.heap ∧ wpAny M A (call (.ref q) (first ++ vs)) Q E s₁) E s)
    (he : starEach (e :: rest) env = (false, eval e env) :: starEach rest env := by rfl) (hst : (backTo pos (starEach rest env)).any (·.1) = true := by rfl) :
    wpAny M A (callWith pos (.ref q) first (backTo pos (starEach (e :: rest) env)) []) Q E s := by
  rw [he] at h ⊢
  exact ks_call (P := MethP K q f self) (by show (false || (backTo pos (starEach rest env)).any (·.1)) = true; rw [hst]; rfl) (keeps_M hf) (evalArgs_plain h)
end
theorem getAdd {w : World} {A : Around} {E : Value → Shared → Prop} {s : Shared} {g : Heap} {L a : Addr} {m : Str → Option Value} {W : List (Addr × Obj)} {S : SS} {expr : Bool} {Q : Value → Shared → Prop} (F : Fr g L s.heap m) (X : (hd.heap_1 w.params).In g) (N : News g L s.heap W) (hS : Srt w W S) (ha : S.s = a)
    (h : ∀ q h', Fr g L h' m → News g L h' ((q, methodObj (.ref 122) (.ref a)) :: W) → (∀ p ∈ W, p.1 < q) → Q (.ref q) { s with heap := h', toks := s.toks + 1 }) : wpAny (model PG w) A (getAttr (.ref a) "add" expr) Q E s := by
  subst ha
  obtain ⟨es, n, t1, t2, hd', At⟩ := hS.ats
  exact kbm_bound F X N (inst_of (nget N hS.obj) (nget N hd')) (by k_is) (by k_is) (by k_is) (by k_is) (by k_is) (by k_is) (by decide) (At.no rfl) h
theorem after_frame {P : Addr → Bool} {g h h' : Heap} {L : Addr} {m : Str → Option Value} {W W' : List (Addr × Obj)} {oL : Obj} (F : Fr g L h m) (N : News g L h W) (nd : (W.map (·.1)).Nodup) (hL : h.get? L = some oL) (hL' : ∃ sl, h'.get? L = some { oL with slots := sl })
    (keep : ∀ b o, (∀ p ∈ inP P W, p.1 ≠ b) → L ≠ b → h.get? b = some o → h'.get? b = some o)
    (hW' : ∀ p ∈ W', h'.get? p.1 = some p.2) (apL : ∀ p ∈ W', L ≠ p.1) (fr : ∀ p ∈ W', p.1 ∈ (inP P W).map (·.1) ∨ h.get? p.1 = none) (nd' : (W'.map (·.1)).Nodup) :
    ∃ W2, Fr g L h' m ∧ News g L h' W2 ∧ (W2.map (·.1)).Nodup ∧ Std W' W2 ∧ ∀ b o, P b = false → W.lookup b = some o → W2.lookup b = some o := by
  have gL : g.get? L = none := Heap.get?_none_of_le F.above
  have nin : ∀ b o, P b = false → W.lookup b = some o → ∀ p ∈ inP P W, p.1 ≠ b := fun b o hb e p hp q => by
    have := (inP_sub p hp).2
    rw [q, hb] at this; cases this
  have nd2 : ((W' ++ outP P W).map (·.1)).Nodup := nd_app nd' (List.Sublist.nodup (List.Sublist.map _ List.filter_sublist) nd) fun p hp q hq e => by
    have hq1 := List.mem_filter.mp hq
    have hPq : P q.1 = false := by simpa using hq1.2
    rcases fr p hp with z | z
    · obtain ⟨y, hy, ey⟩ := List.mem_map.mp z
      exact nin q.1 q.2 hPq (mem_look nd hq1.1) y hy (ey.trans e.symm)
    · have := (N q hq1.1).1
      rw [e, z] at this; cases this
  refine ⟨W' ++ outP P W, ?_, fun p hp => ?_, nd2, std_app, fun b o hb e => mem_look nd2 (List.mem_append_right _ (look_mem (outP_look nd hb e)))⟩
  · obtain ⟨o, es, ep, ho, hd, r⟩ := F.ns
    obtain ⟨sl, hs⟩ := hL'
    rw [hL] at ho; cases ho
    refine ⟨⟨_, es, ep, hs, hd, r⟩, fun b x e => keep b x (fun p hp q => ?_) (fun q => by rw [← q, gL] at e; cases e) (F.keep b x e), F.above⟩
    rw [← q, (N p (inP_sub p hp).1).2.2] at e; cases e
  · rcases List.mem_append.mp hp with hp | hp
    · refine ⟨hW' p hp, (apL p hp).symm, ?_⟩
      rcases fr p hp with z | z
      · obtain ⟨y, hy, ey⟩ := List.mem_map.mp z
        rw [← ey]; exact (N y (inP_sub y hy).1).2.2
      · cases e : g.get? p.1 with
        | none => rfl
        | some x => have := F.keep _ _ e; rw [z] at this; cases this
    · have hp1 := List.mem_filter.mp hp
      have hPp : P p.1 = false := by simpa using hp1.2
      have n := N p hp1.1
      exact ⟨keep _ _ (nin p.1 p.2 hPp (mem_look nd hp1.1)) n.2.1.symm n.1, n.2⟩
theorem codeAny_arg {M : Model} {A : Around} {s : Shared} {R : Result → Shared → Prop} {f : Value} {a b : Addr} (h : a = b) (k : codeAny M A (.call f ⟨[.ref a], []⟩) R s) : codeAny M A (.call f ⟨[.ref b], []⟩) R s := h ▸ k
theorem kl_zl_sort : True := by
  k_with "lia" => ((fail_if_success k_extra "zl_sort"); lia)
  trivial
/-! sorting: its plain law, and pairs sorted on the ledger -/
noncomputable def Sp (n : Nat) (lt : Nat → Nat → Bool) {α : Type} : KasT α → (α → Prop) → Prop
  | .ret a, Q => Q a
  | .ask i j k, Q => i < n ∧ j < n ∧ Sp n lt (k (lt i j)) Q
theorem Sp.bind {n : Nat} {lt : Nat → Nat → Bool} {α β : Type} {f : α → KasT β} {Q : β → Prop} : ∀ (t : KasT α), Sp n lt t (fun a => Sp n lt (f a) Q) → Sp n lt (t.bind f) Q
  | .ret _, h => h
  | .ask _ _ k, h => ⟨h.1, h.2.1, Sp.bind (k _) h.2.2⟩
theorem Sp.wp {n : Nat} {lt : Nat → Nat → Bool} {α : Type} {cmp : Nat → Nat → (Bool → Shared → Prop) → Shared → Prop} {I : Shared → Prop} {Q : α → Shared → Prop}
    (hc : ∀ i j C s, I s → i < n → j < n → (∀ s', I s' → C (lt i j) s') → cmp i j C s) :
    ∀ (t : KasT α) (s : Shared), I s → Sp n lt t (fun a => ∀ s', I s' → Q a s') → t.kasWp cmp Q s
  | .ret _, s, hi, h => h s hi
  | .ask i j k, s, hi, h => hc i j _ s hi h.1 h.2.1 fun s' hi' => Sp.wp hc (k _) s' hi' h.2.2
theorem Sp.ask {n : Nat} {lt : Nat → Nat → Bool} {α : Type} {Q : α → Prop} {i j : Nat} {k : Bool → KasT α} (hi : i < n) (hj : j < n)
    (h1 : lt i j = true → Sp n lt (k true) Q) (h2 : lt i j = false → Sp n lt (k false) Q) : Sp n lt (.ask i j k) Q := by
  refine ⟨hi, hj, ?_⟩
  cases e : lt i j with
  | true => exact h1 e
  | false => exact h2 e
structure StrictO (lt : Nat → Nat → Bool) : Prop where
  irr : ∀ i, lt i i = false
  tr : ∀ i j k, lt i j = true → lt j k = true → lt i k = true
  tot : ∀ i j, i ≠ j → lt i j = false → lt j i = true
structure Laid (n : Nat) (p : Array Nat) : Prop where
  size : p.size = n
  perm : p.toList.Perm (List.range n)
theorem Laid.of {n : Nat} {p q : Array Nat} (h : Laid n p) (hp : q.Perm p) : Laid n q :=
  ⟨hp.size_eq.trans h.size, (Array.perm_iff_toList_perm.mp hp).trans h.perm⟩
theorem Laid.lt {n : Nat} {p : Array Nat} (h : Laid n p) {i : Nat} (hi : i < n) : p.getD i 0 < n := by
  have hi' : i < p.size := by rw [h.size]; exact hi
  have e : p.getD i 0 = p[i] := by simp [Array.getD, hi']
  rw [e]
  have : p[i] ∈ p.toList := by simp
  exact List.mem_range.mp (h.perm.mem_iff.mp this)
theorem Laid.ne {n : Nat} {p : Array Nat} (h : Laid n p) {i j : Nat} (hi : i < n) (hj : j < n) (hij : i ≠ j) : p.getD i 0 ≠ p.getD j 0 := by
  have hi' : i < p.size := by rw [h.size]; exact hi
  have hj' : j < p.size := by rw [h.size]; exact hj
  have e : p.getD i 0 = p[i] := by simp [Array.getD, hi']
  have e2 : p.getD j 0 = p[j] := by simp [Array.getD, hj']
  rw [e, e2]
  intro q
  have nd : p.toList.Nodup := h.perm.nodup_iff.mpr List.nodup_range
  have pw := List.pairwise_iff_getElem.mp nd
  rcases Nat.lt_or_ge i j with hl | hl
  · exact pw i j (by simpa using hi') (by simpa using hj') hl (by simpa using q)
  · exact pw j i (by simpa using hj') (by simpa using hi') (by omega) (by simpa using q.symm)
noncomputable def UpTo (lt : Nat → Nat → Bool) (p : Array Nat) (k : Nat) : Prop := ∀ i j, i < j → j < k → lt (p.getD i 0) (p.getD j 0) = true
noncomputable def DnTo (lt : Nat → Nat → Bool) (p : Array Nat) (k : Nat) : Prop := ∀ i j, i < j → j < k → lt (p.getD j 0) (p.getD i 0) = true
theorem getD_of? {p q : Array Nat} {i j : Nat} (h : p[i]? = q[j]?) : p.getD i 0 = q.getD j 0 := by
  rw [Array.getD_eq_getD_getElem?, Array.getD_eq_getD_getElem?, h]
section
variable {n : Nat} {lt : Nat → Nat → Bool}
theorem UpTo.snoc (O : StrictO lt) {p : Array Nat} {k : Nat} (hk : 1 ≤ k) (hu : UpTo lt p k) (h : lt (p.getD (k - 1) 0) (p.getD k 0) = true) : UpTo lt p (k + 1) := by
  intro i j hij hj
  rcases Nat.lt_or_ge j k with hjk | hjk
  · exact hu i j hij hjk
  · have : j = k := by omega
    subst this
    rcases Nat.lt_or_ge i (j - 1) with h1 | h1
    · exact O.tr _ _ _ (hu i (j - 1) h1 (by omega)) h
    · have : i = j - 1 := by omega
      subst this; exact h
theorem DnTo.snoc (O : StrictO lt) {p : Array Nat} {k : Nat} (hk : 1 ≤ k) (hu : DnTo lt p k) (h : lt (p.getD k 0) (p.getD (k - 1) 0) = true) : DnTo lt p (k + 1) := by
  intro i j hij hj
  rcases Nat.lt_or_ge j k with hjk | hjk
  · exact hu i j hij hjk
  · have : j = k := by omega
    subst this
    rcases Nat.lt_or_ge i (j - 1) with h1 | h1
    · exact O.tr _ _ _ h (hu i (j - 1) h1 (by omega))
    · have : i = j - 1 := by omega
      subst this; exact h
theorem sp_asc (O : StrictO lt) {p : Array Nat} (hp : Laid n p) {Q : Nat → Prop} : ∀ (f k : Nat), 1 ≤ k → k + f ≤ n → UpTo lt p k → (∀ m, k ≤ m → m ≤ k + f → UpTo lt p m → (m < k + f → lt (p.getD m 0) (p.getD (m - 1) 0) = true) → Q m) → Sp n lt (kas_asc p f k) Q
  | 0, k, _, _, hu, h => h k (Nat.le_refl _) (Nat.le_refl _) hu (fun q => by omega)
  | f + 1, k, hk, hn, hu, h => by
    refine Sp.ask (hp.lt (by omega)) (hp.lt (by omega)) (fun e => ?_) (fun e => ?_)
    · rw [if_pos rfl]; exact h k (Nat.le_refl _) (by omega) hu (fun _ => e)
    · rw [if_neg (by simp)]
      exact sp_asc O hp f (k + 1) (by omega) (by omega) (hu.snoc O hk (O.tot _ _ (hp.ne (i := k) (j := k - 1) (by omega) (by omega) (by omega)) e)) fun m h1 h2 h3 h4 => h m (by omega) (by omega) h3 (fun q => h4 (by omega))
theorem sp_desc (O : StrictO lt) {p : Array Nat} (hp : Laid n p) {Q : Array Nat × Nat × Nat → Prop} : ∀ (f k : Nat), 1 ≤ k → k + f ≤ n → DnTo lt p k → (∀ m, k ≤ m → m ≤ k + f → DnTo lt p m → Q (p, m, 0)) → Sp n lt (kas_desc f p k 0) Q
  | 0, k, _, _, hu, h => h k (Nat.le_refl _) (Nat.le_refl _) hu
  | f + 1, k, hk, hn, hu, h => by
    refine Sp.ask (hp.lt (by omega)) (hp.lt (by omega)) (fun e => ?_) (fun e => ?_)
    · rw [if_pos rfl, if_neg (by omega)]
      exact sp_desc O hp f (k + 1) (by omega) (by omega) (hu.snoc O hk e) fun m h1 h2 h3 => h m (by omega) (by omega) h3
    · rw [if_neg (by simp)]
      have e' := O.tot _ _ (hp.ne (i := k) (j := k - 1) (by omega) (by omega) (by omega)) e
      refine Sp.ask (hp.lt (by omega)) (hp.lt (by omega)) (fun _ => ?_) (fun q => absurd (q.symm.trans e') (by simp))
      rw [if_pos rfl]
      exact h k (Nat.le_refl _) (by omega) hu
theorem rev_laid {p : Array Nat} (hp : Laid n p) (i j : Nat) : Laid n (kas_rev p i j) := hp.of (mirror_perm _ _ _ _)
theorem rev_getD {p : Array Nat} {j : Nat} (hj : j ≤ p.size) {k : Nat} (hk : k < j) : (kas_rev p 0 j).getD k 0 = p.getD (j - 1 - k) 0 := by
  have e := getElem?_mirror_all (xs := p) (i := 0) (j := j) hj k
  rw [if_pos ⟨Nat.zero_le _, hk⟩, Nat.zero_add] at e
  exact getD_of? e
theorem DnTo.rev {p : Array Nat} {j : Nat} (hj : j ≤ p.size) (hd : DnTo lt p j) : UpTo lt (kas_rev p 0 j) j := by
  intro a b hab hb
  rw [rev_getD hj (by omega), rev_getD hj hb]
  exact hd _ _ (by omega) (by omega)
theorem sp_tail3 (O : StrictO lt) {p : Array Nat} (hp : Laid n p) {Q : Nat × Array Nat → Prop} {k : Nat} (hk : 1 ≤ k) (hn : k ≤ n) (hd : DnTo lt p k)
    (h : ∀ m q, Laid n q → 1 ≤ m → m ≤ n → UpTo lt q m → Q (m, q)) : Sp n lt (kas_tail3 k n p) Q := by
  refine Sp.bind _ ?_
  exact sp_asc O (rev_laid hp 0 k) (n - k) k hk (by omega) (hd.rev (by rw [hp.size]; exact hn)) fun m h1 h2 h3 _ => h m _ (rev_laid hp 0 k) (by omega) (by omega) h3
theorem sp_count (O : StrictO lt) {p : Array Nat} (hp : Laid n p) {Q : Nat × Array Nat → Prop} (h1n : 1 ≤ n)
    (h : ∀ m q, Laid n q → 1 ≤ m → m ≤ n → UpTo lt q m → Q (m, q)) : Sp n lt (kas_count n p) Q := by
  unfold kas_count
  refine Sp.bind _ (sp_asc O hp (n - 1) 1 (Nat.le_refl _) (by omega) (fun i j a b => by omega) fun m h1 h2 h3 h4 => ?_)
  by_cases e : m = n
  · subst e; rw [if_pos (by simp)]; exact h m p hp h1 (Nat.le_refl _) h3
  rw [if_neg (by simpa using e)]
  by_cases hm : m > 1
  · rw [if_pos hm]
    have e' := h3 0 (m - 1) (by omega) (by omega)
    refine Sp.ask (hp.lt (by omega)) (hp.lt (by omega)) (fun _ => ?_) (fun q => absurd (q.symm.trans e') (by simp))
    rw [if_pos rfl]
    exact h m p hp h1 (by omega) h3
  · rw [if_neg hm]
    have : m = 1 := by omega
    subst this
    have hn2 : 1 < n := by omega
    have d2 : DnTo lt p 2 := fun i j a b => by
      have : i = 0 := by omega
      have : j = 1 := by omega
      subst_vars
      exact h4 (by omega)
    unfold kas_descPart
    refine Sp.bind _ (sp_desc O hp (n - (1 + 1)) (1 + 1) (by omega) (by omega) d2 fun m a b c => ?_)
    rw [if_neg (by simp)]
    exact sp_tail3 (k := m) O hp (by omega) (by omega) c h
theorem sp_place (O : StrictO lt) {p : Array Nat} (hp : Laid n p) {k : Nat} (hk : k < n) (hu : UpTo lt p k) {Q : Nat → Prop} :
    ∀ (f l r : Nat), l ≤ r → r ≤ k → r - l ≤ f → (∀ i, i < l → lt (p.getD i 0) (p.getD k 0) = true) → (∀ i, r ≤ i → i < k → lt (p.getD k 0) (p.getD i 0) = true) →
      (∀ m, m ≤ k → (∀ i, i < m → lt (p.getD i 0) (p.getD k 0) = true) → (∀ i, m ≤ i → i < k → lt (p.getD k 0) (p.getD i 0) = true) → Q m) → Sp n lt (kas_place p k f l r) Q
  | 0, l, r, hlr, hr, hf, h1, h2, h => by
    have : l = r := by omega
    subst this
    exact h l hr h1 h2
  | f + 1, l, r, hlr, hr, hf, h1, h2, h => by
    unfold kas_place
    by_cases e : l ≥ r
    · have : l = r := by omega
      subst this
      rw [if_pos e]
      exact h l hr h1 h2
    rw [if_neg e]
    refine Sp.ask (hp.lt (by omega)) (hp.lt (by omega)) (fun c => ?_) (fun c => ?_)
    · rw [if_pos rfl]
      refine sp_place O hp hk hu f l ((l + r) / 2) (by omega) (by omega) (by omega) h1 (fun i a b => ?_) h
      rcases Nat.lt_or_ge ((l + r) / 2) i with q | q
      · exact O.tr _ _ _ c (hu _ _ q b)
      · have : i = (l + r) / 2 := by omega
        subst this; exact c
    · rw [if_neg (by simp)]
      have c' := O.tot _ _ (hp.ne (i := k) (j := (l + r) / 2) (by omega) (by omega) (by omega)) c
      refine sp_place O hp hk hu f ((l + r) / 2 + 1) r (by omega) (by omega) (by omega) (fun i a => ?_) h2 h
      rcases Nat.lt_or_ge i ((l + r) / 2) with q | q
      · exact O.tr _ _ _ (hu _ _ q (by omega)) c'
      · have : i = (l + r) / 2 := by omega
        subst this; exact c'
theorem bub_getD {p : Array Nat} {k m : Nat} (hk : k < p.size) (hm : m ≤ k) (i : Nat) :
    (bubble p k (k - m)).getD i 0 = if i = m then p.getD k 0 else if m < i ∧ i ≤ k then p.getD (i - 1) 0 else p.getD i 0 := by
  have e := getElem?_bubble hk (k - m) (by omega) i
  rw [show k - (k - m) = m by omega] at e
  by_cases h1 : i = m
  · rw [if_pos h1] at e ⊢; exact getD_of? e
  rw [if_neg h1] at e ⊢
  by_cases h2 : m < i ∧ i ≤ k
  · rw [if_pos h2] at e ⊢; exact getD_of? e
  · rw [if_neg h2] at e ⊢; exact getD_of? e
theorem sp_bin (O : StrictO lt) {Q : Array Nat → Prop} : ∀ (f : Nat) (p : Array Nat) (k : Nat), Laid n p → k + f = n → UpTo lt p k → (∀ q, Laid n q → UpTo lt q n → Q q) → Sp n lt (kas_bin f p k) Q
  | 0, p, k, hp, hk, hu, h => by
    have : k = n := by omega
    subst this
    exact h p hp hu
  | f + 1, p, k, hp, hk, hu, h => by
    refine Sp.bind _ (sp_place O hp (by omega) hu k 0 k (by omega) (Nat.le_refl _) (by omega) (fun i a => by omega) (fun i a b => by omega) fun m hm h1 h2 => ?_)
    refine sp_bin O f _ (k + 1) (hp.of (bubble_perm _ _ _)) (by omega) (fun i j hij hj => ?_) h
    have hks : k < p.size := by rw [hp.size]; omega
    rw [bub_getD hks hm, bub_getD hks hm]
    by_cases a : i = m
    · rw [if_pos a, if_neg (by omega : ¬ j = m), if_pos (⟨by omega, by omega⟩ : m < j ∧ j ≤ k)]
      exact h2 _ (by omega) (by omega)
    by_cases a2 : i < m
    · rw [if_neg a, if_neg (by omega : ¬ (m < i ∧ i ≤ k))]
      by_cases b : j = m
      · rw [if_pos b]; exact h1 _ a2
      by_cases b2 : m < j
      · rw [if_neg b, if_pos (⟨b2, by omega⟩ : m < j ∧ j ≤ k)]; exact hu _ _ (by omega) (by omega)
      · rw [if_neg b, if_neg (by omega : ¬ (m < j ∧ j ≤ k))]; exact hu _ _ (by omega) (by omega)
    · rw [if_neg a, if_pos (⟨by omega, by omega⟩ : m < i ∧ i ≤ k), if_neg (by omega : ¬ j = m), if_pos (⟨by omega, by omega⟩ : m < j ∧ j ≤ k)]
      exact hu _ _ (by omega) (by omega)
theorem sp_sort (O : StrictO lt) {Q : Array Nat → Prop} (h1n : 1 ≤ n) (h : ∀ q, Laid n q → UpTo lt q n → Q q) : Sp n lt (kas_sort n) Q := by
  unfold kas_sort
  refine Sp.bind _ (sp_count O ⟨by simp, by simp⟩ h1n fun m q hq h1 h2 h3 => ?_)
  dsimp only
  by_cases e : m < n
  · rw [if_pos e]
    refine sp_bin O _ q _ hq (by omega) (by rw [Nat.max_eq_left h1]; exact h3) h
  · rw [if_neg e]
    have : m = n := by omega
    subst this
    exact h q hq h3
end
noncomputable def kl (num : Nat → Nat) (i j : Nat) : Bool := klt (kx num i) (kx num j)
theorem kl_strict (num : Nat → Nat) : StrictO (kl num) where
  irr i := by
    cases e : kl num i i with
    | false => rfl
    | true => have := klt_kx.mp e; omega
  tr i j k h1 h2 := by have := klt_kx.mp h1; have := klt_kx.mp h2; exact klt_kx.mpr (by omega)
  tot i j hij h := klt_kx.mpr (by
    have : ¬ (num i < num j ∨ (num i = num j ∧ i < j)) := fun q => by
      have := klt_kx.mpr q
      have h' : klt (kx num i) (kx num j) = false := h
      rw [this] at h'; cases h'
    omega)
noncomputable def PairV (num : Nat → Nat) (V : List (Addr × Obj)) (v : Value) (x : Nat) : Prop := ∃ a t t', v = .ref a ∧ V.lookup a = some (tupObj [.int (num x : Int) t, .int (x : Int) t'])
theorem pairs_tups {h : Heap} : ∀ (vs : List Value), (∀ v ∈ vs, ∃ a us x t, v = .ref a ∧ h.get? a = some (tupObj us) ∧ us[0]? = some (.int x t)) → ∃ fs, KatTups h vs fs ∧ (∀ f ∈ fs, ∃ x t, f = .int x t) ∧ fs.length = vs.length
  | [], _ => ⟨[], .nil, (fun f hf => nomatch hf), rfl⟩
  | v :: vs, hv => by
    obtain ⟨fs, k, hf, hl⟩ := pairs_tups vs fun u hu => hv u (.tail _ hu)
    obtain ⟨a, us, x, t, rfl, ha, h0⟩ := hv v (.head _)
    refine ⟨.int x t :: fs, .cons ha rfl rfl (by simpa using h0) k, fun f hf' => ?_, by simp [hl]⟩
    rcases List.mem_cons.mp hf' with rfl | hf'
    · exact ⟨_, _, rfl⟩
    · exact hf f hf'
section
variable {prog : Program} {w : World} {A : Around} {E : Value → Shared → Prop} {s : Shared} {g : Heap} {L : Addr} {m : Str → Option Value} {V : List (Addr × Obj)}
theorem sort_one {l : Addr} {v : Value} {Q : Value → Shared → Prop} (hl : s.heap.IsList l [v].toArray)
    (h : Q (.ref (s.heap.objs.size + 1)) { s with heap := sortedAll s.heap [v] #[v] }) :
    wpAny (model prog w) A (call (.builtin "sorted") [.ref l]) Q E s := by
  refine Calls.call_function_entry kind_sorted plain_sorted entry_sorted (args_sorted1 _) ?_
  unfold Builtin.«sorted»
  refine wpAny_bind (m := checkCount "sorted" 1 1 _) (wpAny_pure ?_)
  refine wpAny_bind (collect_list hl ?_ (by rw [sizeLine_eq]; exact Nat.le_of_ble_eq_true rfl))
  refine wpAny_bind (wpAny_newList ?_ (by rw [sizeLine_eq]; exact Nat.le_of_ble_eq_true rfl))
  have hsz : ((s.heap.push (seqObj "list" #[] 0)).update s.heap.objs.size (Obj.mapSeq (· ++ [v].toArray))).objs.size = s.heap.objs.size + 1 := by
    rw [Heap.size_update, size_push']
  have hoL : (((s.heap.push (seqObj "list" #[] 0)).update s.heap.objs.size (Obj.mapSeq (· ++ [v].toArray))).push (seqObj "list" [v].toArray 0)).get? (s.heap.objs.size + 1) = some (seqObj "list" [v].toArray 0) := by
    rw [← hsz]; exact Heap.get?_push_size _ rfl
  show wpAny _ _ _ _ _ { s with heap := ((s.heap.push (seqObj "list" #[] 0)).update s.heap.objs.size (Obj.mapSeq (· ++ [v].toArray))).push (seqObj "list" [v].toArray 0) }
  rw [hsz]
  refine wpAny_bind (wpAny_holding (wpAny_call_entry slot_list_sort ⟨_, hoL, rfl⟩ entry_list_sort ?body (args_list_sort _)))
  case body =>
    generalize hH : ((s.heap.push (seqObj "list" #[] 0)).update s.heap.objs.size (Obj.mapSeq (· ++ [v].toArray))).push (seqObj "list" [v].toArray 0) = H at hoL ⊢
    generalize ha : s.heap.objs.size + 1 = a at hoL ⊢
    show wpAny (model prog w) _ (Builtin.«list.sort» ⟨[.ref a], []⟩) _ _ _
    rw [list_sort_plain]
    have hlt : a < H.objs.size := Heap.lt_size hoL
    refine wpAny_bind (listItems_at hoL rfl ?_)
    refine wpAny_bind (listUpdate_at hoL rfl ?_ (by rw [sizeLine_eq]; exact Nat.le_of_ble_eq_true rfl) (Nat.zero_le _))
    obtain ⟨e1, ho1⟩ : ∃ e1, (H.update a (Obj.mapSeq fun _ => #[])).get? a = some (seqObj "list" #[] e1) := ⟨_, get?_update_seq hoL (fun _ => #[])⟩
    refine wpAny_bind (seqEpoch_at ho1 rfl ?_)
    refine wpAny_bind (wpAny_newTuple ?_ (by show 1 ≤ _; rw [sizeLine_eq]; decide))
    refine wpAny_bind (wpAny_newList ?_ (Nat.zero_le _))
    refine wpAny_holding ?_
    have ho6 : (((H.update a (Obj.mapSeq fun _ => #[])).push (seqObj "tuple" [v].toArray 0)).push (seqObj "list" #[] 0)).get? a = some (seqObj "list" #[] e1) := by
      rw [Heap.get?_push_ne _ _ _ (by rw [size_push', Heap.size_update]; exact Nat.ne_of_lt (Nat.lt_succ_of_lt hlt)), Heap.get?_push_ne _ _ _ (by rw [Heap.size_update]; exact Nat.ne_of_lt hlt)]
      exact ho1
    show wpAny (model prog w) _ _ _ E { s with heap := ((H.update a (Obj.mapSeq fun _ => #[])).push (seqObj "tuple" [v].toArray 0)).push (seqObj "list" #[] 0) }
    dsimp only
    have h12 : [v].toArray.size < 2 := Nat.lt_succ_self 1
    rw [if_pos h12, if_pos h12]
    refine wpAny_bind (wpAny_pure ?_)
    rw [StateT.run_pure]
    refine wpAny_bind (wpAny_pure ?_)
    dsimp only
    refine wpAny_bind (seqEpoch_at ho6 rfl ?_)
    refine wpAny_bind (listUpdate_at ho6 rfl ?_ (by rw [sizeLine_eq]; exact Nat.zero_le _) (by rw [Array.size_map]; show (pairsOf [v]).size ≤ _; rw [pairsOf_size, sizeLine_eq]; exact Nat.le_of_ble_eq_true rfl))
    simp only [bne_self_eq_false, Bool.false_eq_true, if_false]
    refine wpAny_pure ?_
    refine ⟨_, rfl, wpAny_pure ⟨_, rfl, ?_⟩⟩
    subst hH ha
    have e : (Array.map (fun x : Keyed => x.2) (arrOf (SortSt.mk' general' (#[v].zip #[v]) #[] 7 none))) = #[v] := by
      have e0 : arrOf (SortSt.mk' general' (#[v].zip #[v]) #[] 7 none) = #[v].zip #[v] := rfl
      rw [e0]; simp
    rw [e]
    exact h
theorem sortP {a : Addr} {vs : List Value} {k : Nat} {num : Nat → Nat} {Q : Value → Shared → Prop} (F : Fr g L s.heap m) (N : News g L s.heap V) (hl : V.lookup a = some (listOf vs.toArray k)) (hv : ∀ i, i < vs.length → PairV num V (vs.getD i .none) i) (h1 : 1 ≤ vs.length) (h64 : vs.length < 64)
    (h : ∀ D h' tk e (C : List Nat), Fr g L h' m → News g L h' ((D, listOf (C.map fun i => vs.getD i .none).toArray e) :: V) → (∀ p ∈ V, p.1 ≠ D) → C.Perm (List.range vs.length) → C.Pairwise (fun i j => klt (kx num i) (kx num j) = true) → Q (.ref D) { s with heap := h', toks := tk }) :
    wpAny (model prog w) A (call (.builtin "sorted") [.ref a]) Q E s := by
  have hL : s.heap.IsList a vs.toArray := ⟨_, nget N hl, rfl, k, rfl⟩
  by_cases h2 : vs.length < 2
  · obtain ⟨v, rfl⟩ : ∃ v, vs = [v] := List.length_eq_one_iff.mp (by omega)
    refine sort_one hL ?_
    obtain ⟨e, he⟩ := sortedAll_at s.heap [v] #[v]
    exact h _ _ s.toks e [0] (F.kept fun _ _ => sortedAll_old) (N.kept_cons F (fun _ _ => sortedAll_old) (Nat.le_succ _) he) (fun p hp => Nat.ne_of_lt (Nat.lt_succ_of_lt (Heap.lt_size (N p hp).1))) (List.Perm.refl _) (List.pairwise_singleton _ _)
  refine kat_sorted F N hL (by omega) h64 fun D e1 h' F' N' lt => ?_
  have hget : ∀ i, i < vs.length → ∃ b t t', vs.getD i .none = .ref b ∧ h'.get? b = some (tupObj [.int (num i : Int) t, .int (i : Int) t']) := fun i hi => by
    obtain ⟨b, t, t', e, eb⟩ := hv i hi
    refine ⟨b, t, t', e, (N' (b, _) (.tail _ (look_mem eb))).1⟩
  obtain ⟨fs, kt, hf, hfl⟩ := pairs_tups (h := h') vs fun v hv' => by
    obtain ⟨i, hi, rfl⟩ := List.getElem_of_mem hv'
    obtain ⟨b, t, t', e, eb⟩ := hget i hi
    refine ⟨b, _, _, _, ?_, eb, rfl⟩
    rw [← e]; simp [hi]
  refine kat_kind (T := .type "int") kt (by omega) (fun f hf' => ?_) rfl ?_
  · obtain ⟨x, t, rfl⟩ := hf f hf'
    exact Looks.of_pure rfl
  refine Sp.wp (n := vs.length) (lt := kl num) (I := fun s' => ∃ tk, s' = { s with heap := h', toks := tk }) ?_ _ _ ⟨_, rfl⟩ (sp_sort (kl_strict num) h1 fun q hq hu => ?_)
  · rintro i j C s' ⟨tk, rfl⟩ hi hj hC
    obtain ⟨b, t, t', e, eb⟩ := hget i hi
    obtain ⟨c, u, u', e2, ec⟩ := hget j hj
    unfold kas_ask
    rw [e, e2]
    refine kat_lt eb rfl ec rfl ?_
    have k1 : ∀ {x : Bool} {y : Bool} (s' : Shared), (∃ tk, s' = { s with heap := h', toks := tk }) → x = kl num i j → y = x → C y s' := fun s' ⟨tk, e⟩ hx hy => by subst hy; subst hx; exact hC _ ⟨tk, e⟩
    refine kat_cons (wpAny_eqBool_int ?_)
    by_cases h3 : num i = num j
    · rw [show ((num i : Int) == (num j : Int)) = true by rw [h3]; simp]
      refine kat_yes (kat_cons (wpAny_eqBool_int ?_))
      by_cases h4 : i = j
      · rw [show ((i : Int) == (j : Int)) = true by rw [h4]; simp]
        refine kat_yes (kat_nil (k1 _ ⟨tk, rfl⟩ rfl ?_))
        subst h4
        rw [(kl_strict num).irr]; rfl
      · rw [show ((i : Int) == (j : Int)) = false by simp only [beq_eq_false_iff_ne, ne_eq]; omega]
        refine kat_no (kat_one _ _ (lt_int ?_))
        refine k1 _ ⟨tk, rfl⟩ rfl ?_
        unfold kl kx klt
        simp only [h3, Int.lt_irrefl, decide_false, Bool.false_or, decide_true, Bool.true_and]
    · rw [show ((num i : Int) == (num j : Int)) = false by simp only [beq_eq_false_iff_ne, ne_eq]; omega]
      refine kat_no (oneLt_int (k1 _ ⟨tk, rfl⟩ rfl ?_))
      have h5 : ¬ ((num i : Int) = (num j : Int)) := by omega
      unfold kl kx klt
      simp only [h5, decide_false, Bool.false_and, Bool.or_false]
  · rintro s' ⟨tk, rfl⟩
    refine KasFin.intro F' N' (.head fun p hp => Nat.ne_of_lt (lt p hp)) fun h3 c F3 N3 => ?_
    refine h D h3 tk c q.toList F3 N3 (fun p hp => Nat.ne_of_lt (lt p hp)) hq.perm ?_
    rw [List.pairwise_iff_getElem]
    intro i j hi hj hij
    have := hu i j hij (by rw [← hq.size]; simpa using hj)
    have hi' : i < q.size := by simpa using hi
    have hj' : j < q.size := by simpa using hj
    have e1 : q.getD i 0 = q.toList[i] := by simp [Array.getD, hi']
    have e2 : q.getD j 0 = q.toList[j] := by simp [Array.getD, hj']
    rw [e1, e2] at this
    exact this
end
section
open PySem.SeqAt
theorem eqTups {A : Around} {s : Shared} {p q : Addr} {x y : Int} {t t' u u' : Tok} (hu : A.units < cLine) (hp : s.heap.get? p = some (tupObj [.int x t, .int y t'])) (hq : s.heap.get? q = some (tupObj [.int x u, .int y u'])) : EqAt A s (.ref p) (.ref q) true := by
  by_cases e : p = q
  · subst e; exact EqAt.same _
  have h := RcAt.tuples (A := A) (s := s) (e := fun _ => true) (l := p) (b := q) (items := #[.int x t, .int y t']) (items2 := #[.int x u, .int y u']) ⟨_, hp, rfl, 0, rfl⟩ ⟨_, hq, rfl, 0, rfl⟩ hu fun j h1 h2 => by
    have h1' : j < 2 := h1
    match j, h1' with
    | 0, _ => have := EqAt.int_int (A := A.in1) (s := s) x t x u; rw [beq_self_eq_true] at this; exact this
    | 1, _ => have := EqAt.int_int (A := A.in1) (s := s) y t' y u'; rw [beq_self_eq_true] at this; exact this
  exact EqAt.of_refs e h
theorem neTups {A : Around} {s : Shared} {a b : Addr} {num : Nat → Nat} {xs ys : List Value} (hu : A.units + 60 < cLine) (hl : s.heap.IsList a xs.toArray) (hb : s.heap.IsList b ys.toArray) (hz : xs.length = ys.length)
    (he : ∀ j, j < xs.length → ∃ x p t t' q u u', xs[j]? = some (.ref p) ∧ ys[j]? = some (.ref q) ∧ s.heap.get? p = some (tupObj [.int (num x : Int) t, .int (x : Int) t']) ∧ s.heap.get? q = some (tupObj [.int (num x : Int) u, .int (x : Int) u'])) :
    RcNeAt A s (.ref a) (.ref b) false := by
  have h := RcNeAt.lists (A := A) (s := s) (e := fun _ => true) hl hb (by simpa using hz) (by omega) fun j h1 h2 => by
    obtain ⟨x, p, t, t', q, u, u', e1, e2, hp, hq⟩ := he j (by simpa using h1)
    have e1' : xs.toArray[j] = .ref p := by
      have := List.getElem?_eq_some_iff.mp e1
      obtain ⟨_, e⟩ := this
      simpa using e
    have e2' : ys.toArray[j] = .ref q := by
      have := List.getElem?_eq_some_iff.mp e2
      obtain ⟨_, e⟩ := this
      simpa using e
    rw [e1', e2']
    exact eqTups (by show A.units + 1 < cLine; omega) hp hq
  have e : (!(List.range xs.toArray.size).all fun _ => true) = false := by simp
  rw [e] at h
  exact h
end
theorem kz_zl_sort : True := by
  k_with "zl_sort" => skip
  trivial
theorem kl_zm_s1 : True := by
  k_with "lia" => ((fail_if_success k_extra "zm_s1"); lia)
  trivial
/-! the law, first part: the numbers, the tops -/
section
theorem kw_zm_s1 : True := by
  k_with "call type:range" => ((fail_if_success k_extra "zm_s1"); k_here; k_dflt (refine' callRange ?z1 ?z2 ?_; (case z1 => assumption); (case z2 => assumption); k_whole); intro r' h' t' u' v' tk' F' N' nr'; (try dsimp only at F' N'))
  k_with "exec Assign cons ListComp" => ((fail_if_success k_extra "zm_s1"); k_here; k_dflt (refine' assignComp ?z1 ?z2 ?z3 ?z4 ?_; (case z1 => with_unfolding_all rfl); (case z2 => with_unfolding_all rfl); (case z3 => rfl); (case z4 => decide); k_whole))
  k_with "eval Name" => ((fail_if_success k_extra "zm_s1"); k_here; (with_reducible show wpAny _ _ (eval (Expr.Name _ _) (compEnvC _ _ _ _)) _ _ _); k_dflt (refine' ldCC ?z1 ?z2 ?z3 ?z4 ?_ ?z5 ?z6 ?z7; (case z1 => assumption); (case z2 => rfl); (case z3 => assumption); (case z4 => assumption); (case z5 => rfl); (case z6 => rfl); (case z7 => decide); k_whole))
  k_with "eval Name" => ((fail_if_success k_extra "zm_s1"); k_here; (with_reducible show wpAny _ _ (eval (Expr.Name _ _) (compEnvC _ _ _ _)) _ _ _); k_dflt (first | (refine' ldC1 ?z1 ?z2 ?z3 ?z4 ?_ ?z5 ?z6 ?z7; (case z1 => assumption); (case z2 => assumption); (case z3 => assumption); (case z4 => assumption); (case z5 => rfl); (case z6 => decide); (case z7 => decide); k_whole) | (refine' ldCC1 ?z1 ?z2 ?z3 ?z4 ?_ ?z5 ?z6 ?z7; (case z1 => assumption); (case z2 => rfl); (case z3 => assumption); (case z4 => assumption); (case z5 => rfl); (case z6 => rfl); (case z7 => decide); k_whole)))
  k_with "call builtin:sum" => ((fail_if_success k_extra "zm_s1"); k_here; k_dflt (refine' sumL ?z1 ?z2 ?z3 ?z4 ?z5 ?_; (case z1 => assumption); (case z2 => assumption); (case z3 => assumption); (case z4 => (rw [look_cons, if_pos rfl])); (case z5 => assumption); k_whole); intro h' tk' t' F' N'; (try dsimp only at F' N'))
  k_with "subscriptTail Name Slice ref ref" => ((fail_if_success k_extra "zm_s1"); k_here; k_dflt (refine' strideL ?z1 ?z2 ?z3 ?z6 ?z4 ?z5 ?_; (case z1 => assumption); (case z2 => assumption); (case z3 => assumption); (case z6 => assumption); (case z4 => omega); (case z5 => decide); k_whole); intro D' h' us' ms' F' N' nD' hi'; (try dsimp only at F' N'))
  k_with "execs cons" => ((fail_if_success k_extra "zm_s1"); (with_reducible show wpAny _ _ (execs (Stmt.For _ _ _ _ _ :: _) _) _ _ _); refine stop_here ?_)
  k_with "subscriptTail" => ((fail_if_success k_extra "zm_s1"); k_here; (with_reducible show wpAny _ _ (subscriptTail _ _ (Value.ref _) (Value.int _ _)) _ _ _); k_dflt (refine' rdI ?z1 ?z2 ?z3 ?z4 ?z5 ?_; (case z1 => assumption); (case z2 => (repeat (first | exact look_mem (by assumption) | refine List.Mem.tail _ ?_))); (case z3 => decide); (case z4 => rfl); (case z5 => simp); k_whole))
  k_with "binaryOp Add ref ref" => ((fail_if_success k_extra "zm_s1"); k_here; k_dflt (refine' catW ?z1 ?z2 ?z3 ?z4 ?z5 ?_; (case z1 => assumption); (case z2 => assumption); (case z3 => (repeat (first | exact look_mem (by assumption) | refine List.Mem.tail _ ?_))); (case z4 => (repeat (first | exact look_mem (by assumption) | refine List.Mem.tail _ ?_))); (case z5 => (simp only [List.length_cons, List.length_nil]; omega)); k_whole); intro D' h' F' N' l'; (try dsimp only at F' N'))
  trivial
namespace law_s1_
def Q_ (w : World) (A : Around) (s : Shared) (g : Heap) (L : Addr) (sc : Addr) (V : List (Addr × Obj)) (h : Heap) (tk : Nat) (Q : Flow → Shared → Prop) (loose : List Str) (mean : ExcName → Option Value) (mg : Str → Option Value) (mb : Str → Option Value) (p : Program) (sv : List Value) (ns : List Int) : Prop := ∀ {body : List Stmt} {scope : Scope} (hb : LawFn w body scope) (X' : (hd.heap_1 w.params).In g) (T' : Top p loose mean mg mb g) (hh : A.handled = none) (hroom : A.depth ≤ 303) (hun : A.units ≤ 20) (hsc : g.IsList sc sv.toArray) (hi : IntsAre sv ns) (hz : sv.length ≤ 63) (ns' : (scope.names.map (·.1)).Nodup) (F' : Fr g L h (fv ([("k", none), ("numbers", none), ("one", none), ("tops", none), ("planted", none), ("size", none), ("shift", none), ("name", none), ("number", none), ("deep", none), ("sorter", none), ("told", none), ("course", none), ("whole", none), ("drawn", none)] : List (Str × Option Value)))) (N' : News g L h V) (lw : LW V [] L (some (.ref sc)) none none none none) (hnext : ∀ h tk V D la lp nv nn tv tn n0 n1 n2 n3 tops, Fr g L h (fv ([("k", none), ("numbers", some (.ref D)), ("one", none), ("tops", some (.ref la)), ("planted", some (.ref lp)), ("size", none), ("shift", none), ("name", none), ("number", none), ("deep", none), ("sorter", none), ("told", none), ("course", none), ("whole", none), ("drawn", none)] : List (Str × Option Value))) →
      News g L h V → LW V [] L (some (.ref sc)) none none none none → V.lookup D = some (listOf nv.toArray nn) → IV nv [n0, n1, n2, n3] → n3 < 27720 → V.lookup la = some (listOf tv.toArray tn) → IV tv tops → 1 ≤ tops.length → tops.length ≤ 3 → (∀ t ∈ tops, 1 ≤ t ∧ t ≤ 10) → V.lookup lp = some (listOf ([] : List Value).toArray 0) → D ≠ lp ∧ la ≠ lp →
      wpAny (model PG w) A (execs (body.drop 3) (lawEnv scope L)) Q (fun _ _ => False) { s with heap := h, toks := tk }), wpAny (model PG w) A (execs body (lawEnv scope L)) Q (fun _ _ => False) { s with heap := h, toks := tk }
noncomputable section
def P_ (x : World × Around × Shared × Heap × Addr × Addr × (List (Addr × Obj)) × Heap × Nat × (Flow → Shared → Prop) × (List Str) × (ExcName → Option Value) × (Str → Option Value) × (Str → Option Value) × Program × (List Value) × (List Int)) : Prop := Q_ x.1 x.2.1 x.2.2.1 x.2.2.2.1 x.2.2.2.2.1 x.2.2.2.2.2.1 x.2.2.2.2.2.2.1 x.2.2.2.2.2.2.2.1 x.2.2.2.2.2.2.2.2.1 x.2.2.2.2.2.2.2.2.2.1 x.2.2.2.2.2.2.2.2.2.2.1 x.2.2.2.2.2.2.2.2.2.2.2.1 x.2.2.2.2.2.2.2.2.2.2.2.2.1 x.2.2.2.2.2.2.2.2.2.2.2.2.2.1 x.2.2.2.2.2.2.2.2.2.2.2.2.2.2.1 x.2.2.2.2.2.2.2.2.2.2.2.2.2.2.2.1 x.2.2.2.2.2.2.2.2.2.2.2.2.2.2.2.2
def x_ := pick (dW, callerA, ({} : Shared), default, default, default, default, default, default, default, default, default, default, default, PG, default, default) fun x => ¬ P_ x
@[irreducible] def w := x_.1
@[irreducible] def A := x_.2.1
@[irreducible] def s := x_.2.2.1
@[irreducible] def g := x_.2.2.2.1
@[irreducible] def L := x_.2.2.2.2.1
@[irreducible] def sc := x_.2.2.2.2.2.1
@[irreducible] def V := x_.2.2.2.2.2.2.1
@[irreducible] def h := x_.2.2.2.2.2.2.2.1
@[irreducible] def tk := x_.2.2.2.2.2.2.2.2.1
@[irreducible] def Q := x_.2.2.2.2.2.2.2.2.2.1
@[irreducible] def loose := x_.2.2.2.2.2.2.2.2.2.2.1
@[irreducible] def mean := x_.2.2.2.2.2.2.2.2.2.2.2.1
@[irreducible] def mg := x_.2.2.2.2.2.2.2.2.2.2.2.2.1
@[irreducible] def mb := x_.2.2.2.2.2.2.2.2.2.2.2.2.2.1
@[irreducible] def p := x_.2.2.2.2.2.2.2.2.2.2.2.2.2.2.1
@[irreducible] def sv := x_.2.2.2.2.2.2.2.2.2.2.2.2.2.2.2.1
@[irreducible] def ns := x_.2.2.2.2.2.2.2.2.2.2.2.2.2.2.2.2
end
set_option maxHeartbeats 2000000 in
theorem core : Q_ w A s g L sc V h tk Q loose mean mg mb p sv ns := by
  intro body scope hb X' T' hh hroom hun hsc hi hz ns' F' N' lw hnext
  have hr1 : A.depth + 60 < recursionLimit := Nat.lt_of_le_of_lt (Nat.add_le_add_right hroom 60) (by decide)
  have hu1 : A.units + 60 < cLine := Nat.lt_of_le_of_lt (Nat.add_le_add_right hun 60) (by decide)
  obtain ⟨oc, od, name, params, dV, kV, doc, pm, an, cdv, ct, osl, e⟩ := hb
  rw [show (hd.heap_1 w.params).lookup 269 = some _ from by k_is] at e
  cases e
  simp only [List.drop] at hnext
  have nd' : (List.map (fun x : Str × Option Value => x.fst) [("k", none), ("numbers", none), ("one", none), ("tops", none), ("planted", none), ("size", none), ("shift", none), ("name", none), ("number", none), ("deep", none), ("sorter", none), ("told", none), ("course", none), ("whole", none), ("drawn", (none : Option Value))]).Nodup := of_decide_eq_true (by kernel_rfl)
  k_steps
  unfold Stop
  have lw0 := (lw.push (o := rangeObj 4 t' u' v') nr').addR (a := r') (by rw [look_cons, if_pos rfl])
  refine compGenU (K := fun _ => False) (iterRange (r := r') (n := 4) (by decide)) (fl' := fun D => [("k", none), ("numbers", some (.ref D)), ("one", none), ("tops", none), ("planted", none), ("size", none), ("shift", none), ("name", none), ("number", none), ("deep", none), ("sorter", none), ("told", none), ("course", none), ("whole", none), ("drawn", none)])
    (fun i vs V2 => LW V2 [(r', rangeObj 4 t' u' v')] L (some (.ref sc)) none none none none ∧ ∃ xs, IV vs xs ∧ xs.length = i ∧ ∀ x ∈ xs, x < 27720)
    selfRange nd' ns' (fun D => .tail .head) (by decide) rfl hh (by decide) rfl (by decide) (by decide) F' N' lw0.nd ?_ ?_ ?_ ?_ ?_ ?_
  · rintro i vs V2 h2 ⟨lw2, _⟩ _ N2
    exact ⟨_, _, _, nget N2 lw2.look⟩
  · refine ⟨lw0, [], .nil, rfl, nofun⟩
  · exact ⟨fun _ _ _ h => h, fun _ _ h => h, fun _ _ _ h => h⟩
  · rintro it D Cc hap i vs V2 V3 nd3 hk ⟨lw2, hx⟩
    exact ⟨lw2.comp lw0 hap nd3 fun b o hb e => hk b o (.inr hb) e, hx⟩
  · intro i v vs V2 h2 tk2 it o D nD Cc oC m hi4; rintro ⟨tt, rfl⟩; intro hx9; obtain ⟨lw2, xs, hiv, hxl, hxs⟩ := hx9; intro hvl F2 N2 nd2 hap hlo hlD hlC hm hmx
    clear F' N' nd'
    have F' := F2
    have N' := N2
    clear F2 N2
    obtain ⟨os, c1', d1'⟩ := lw2.cs
    k_steps
    obtain ⟨q, hq, hql⟩ := modNat ([5, 3, 1, 2].getD (i : Int).toNat 0 + ms'.sum) (n := 27720) (by decide)
    refine ⟨V2, h', _, rfl, F', fun p hp => N' p (.tail _ (.tail _ hp)), nd2, hlo, hlD, ⟨oC, m, hlC, hm⟩, lw2, xs ++ [q], ?_, by rw [List.length_append, hxl]; rfl, fun x hx => ?_⟩
    · have hq' : ([5, 3, 1, 2].getD (i : Int).toNat 0 + ms'.sum).fmod 27720 = (q : Int) := hq
      rw [hq']
      exact hiv.append (.cons .nil)
    · rcases List.mem_append.mp hx with hx | hx
      · exact hxs x hx
      · rw [List.mem_singleton] at hx; subst hx; exact hql
  · intro vs V2 h2 tk2 D nD hx9; obtain ⟨lw2, xs, hiv, hxl, hxs⟩ := hx9; intro F2 N2 nd2 hlD hapD ndD
    clear F' N' nd'
    have F' := F2
    have N' := N2
    have nd' := ndD
    clear F2 N2 ndD
    obtain ⟨n0, n1, n2, n3, rfl⟩ : ∃ n0 n1 n2 n3, xs = [n0, n1, n2, n3] := by
      match xs, hxl with
      | [a, b, c, d], _ => refine ⟨a, b, c, d, rfl⟩
    have hivA := hiv
    rcases hiv with _ | ⟨hiv⟩
    rename_i t0
    rcases hiv with _ | ⟨hiv⟩
    rename_i t1
    rcases hiv with _ | ⟨hiv⟩
    rename_i t2
    rcases hiv with _ | ⟨hiv⟩
    rename_i t3
    cases hiv
    obtain ⟨a0, ha0, hl0⟩ := modNat (n0 : Int) (n := 10) (by decide)
    obtain ⟨a1, ha1, hl1⟩ := modNat (n1 : Int) (n := 11) (by decide)
    obtain ⟨a2, ha2, hl2⟩ := modNat (n2 : Int) (n := 11) (by decide)
    k_steps
    rename_i lt ht0 llt T hT FT NT lT
    have e0 : (n0 : Int).fmod 10 + 1 = ((a0 + 1 : Nat) : Int) := by
      have : (n0 : Int).fmod 10 = (a0 : Int) := ha0
      rw [this]; rfl
    have e1 : (n1 : Int).fmod 11 = (a1 : Int) := ha1
    have e2 : (n2 : Int).fmod 11 = (a2 : Int) := ha2
    rw [e0, e1, e2] at NT
    have nl : ∀ p ∈ V2, p.1 ≠ lt := fun p hp => Nat.ne_of_lt (llt p hp)
    obtain ⟨ut, u1, u2, NT2⟩ : ∃ ut u1 u2, News g L hT ((T, tupObj [.int (a1 : Int) u1, .int (a2 : Int) u2]) :: (lt, listOf [Value.int ((a0 + 1 : Nat) : Int) ut].toArray 0) :: V2) := ⟨_, _, _, NT⟩
    have nT : ∀ p ∈ (lt, listOf [Value.int ((a0 + 1 : Nat) : Int) ut].toArray 0) :: V2, p.1 ≠ T := fun p hp => by
      rcases List.mem_cons.mp hp with rfl | hp
      · exact Nat.ne_of_lt lT.1
      · exact Nat.ne_of_lt (allLt_mem lT.2 p hp)
    have lwA := ((lw2.drop.addL hlD).push (o := listOf [Value.int ((a0 + 1 : Nat) : Int) ut].toArray 0) nl).push (o := tupObj [.int (a1 : Int) u1, .int (a2 : Int) u2]) nT
    have lwB := (lwA.addL (a := lt) (us := [Value.int ((a0 + 1 : Nat) : Int) ut].toArray) (n := 0) (by rw [look_cons, if_neg (Nat.ne_of_lt lT.1), look_cons, if_pos rfl])).addT (a := T) (us := [.int (a1 : Int) u1, .int (a2 : Int) u2]) (by rw [look_cons, if_pos rfl])
    unfold Stop
    refine compGen (iterTup (l := T) (vs := [.int (a1 : Int) u1, .int (a2 : Int) u2])) (fun i vs V3 => LW V3 [(T, tupObj [.int (a1 : Int) u1, .int (a2 : Int) u2]), (lt, listOf [Value.int ((a0 + 1 : Nat) : Int) ut].toArray 0), (D, listOf [Value.int (n0 : Int) t0, .int (n1 : Int) t1, .int (n2 : Int) t2, .int (n3 : Int) t3].toArray nD)] L (some (.ref sc)) none none none none ∧ ∃ xs, IV vs xs ∧ xs.length ≤ i ∧ ∀ x ∈ xs, 1 ≤ x ∧ x ≤ 10)
      selfTup hh (by decide) rfl (by decide) (by simp) FT NT2 lwB.nd ?_ ?_ ?_ ?_ ?_
    · rintro i vs V3 h3 ⟨lw3, _⟩ _ N3
      refine ⟨_, nget N3 lw3.look, rfl, 0, rfl⟩
    · refine ⟨lwB, [], .nil, Nat.le_refl _, nofun⟩
    · rintro it D2 Cc hap i vs V3 V4 nd4 hk ⟨lw3, hx⟩
      exact ⟨lw3.comp lwB hap nd4 fun b o hb e => hk b o hb.1 hb.2.1 hb.2.2 e, hx⟩
    · intro i v vs V3 h3 tk3 it o D2 nD2 Cc oC m hi2 hv hx9; obtain ⟨lw3, xs, hiv, hxl, hxs⟩ := hx9; intro hvl F3 N3 nd3 hap hlo hlD2 hlC hm hmx
      clear nd' FT NT
      have F' := F3
      have N' := N3
      clear F3 N3
      obtain ⟨x, t, rfl, hx10⟩ : ∃ (x : Nat) (t : Tok), v = .int (x : Int) t ∧ x ≤ 10 := by
        match i, hv with
        | 0, hv => exact ⟨a1, u1, by simpa using hv.symm, by omega⟩
        | 1, hv => exact ⟨a2, u2, by simpa using hv.symm, by omega⟩
      k_steps
      · refine ⟨V3, h3, _, rfl, F', N', nd3, hlo, hlD2, ⟨oC, m, hlC, hm⟩, lw3, xs ++ [x], hiv.append (.cons .nil), by rw [List.length_append, List.length_singleton]; omega, fun z hz => ?_⟩
        rcases List.mem_append.mp hz with hz | hz
        · exact hxs z hz
        · rw [List.mem_singleton] at hz; subst hz
          exact ⟨by omega, hx10⟩
      · refine ⟨V3, h3, _, rfl, F', N', nd3, hlo, hlD2, ⟨oC, m, hlC, hm⟩, lw3, xs, hiv, Nat.le_succ_of_le hxl, hxs⟩
    · intro vs V3 h3 tk3 D2 nD2 hx9; obtain ⟨lw3, xs, hiv, hxl, hxs'⟩ := hx9; intro F3 N3 nd3 hlD2 hapD2
      clear FT NT
      have F' := F3
      have N' := N3
      clear F3 N3
      have hvl : vs.length ≤ 2 := by rw [hiv.length]; exact hxl
      have hlt3 : V3.lookup lt = some (listOf [Value.int ((a0 + 1 : Nat) : Int) ut].toArray 0) := lw3.drop.look
      have hlD3 : V3.lookup D = some (listOf [Value.int (n0 : Int) t0, .int (n1 : Int) t1, .int (n2 : Int) t2, .int (n3 : Int) t3].toArray nD) := lw3.drop.drop.look
      k_steps
      rename_i lp _hp lpl
      unfold Stop
      have nDD : ∀ p ∈ V3, p.1 ≠ D' := fun p hp => Nat.ne_of_lt (l' p hp)
      have nP : ∀ p ∈ (D', listOf ([Value.int ((a0 + 1 : Nat) : Int) ut] ++ vs).toArray 0) :: V3, p.1 ≠ lp := fun p hp => by
        rcases List.mem_cons.mp hp with rfl | hp
        · exact Nat.ne_of_lt lpl.1
        · exact Nat.ne_of_lt (allLt_mem lpl.2 p hp)
      have lwF := ((lw3.sub (Z' := []) (fun _ h => nomatch h)).push (o := listOf ([Value.int ((a0 + 1 : Nat) : Int) ut] ++ vs).toArray 0) nDD).push (o := listOf ([] : List Value).toArray 0) nP
      refine hnext h' _ _ D D' lp _ nD ([Value.int ((a0 + 1 : Nat) : Int) ut] ++ vs) 0 n0 n1 n2 n3 ((a0 + 1) :: xs) F' N' lwF ?_ hivA (hxs n3 (by simp)) ?_ (.cons hiv) (by simp) (by simp; omega) ?_ (by rw [look_cons, if_pos rfl]) ⟨fun q => nP _ (.tail _ (look_mem hlD3)) q, Nat.ne_of_lt lpl.1⟩
      · rw [look_cons, if_neg fun q => nP _ (.tail _ (look_mem hlD3)) q, look_cons, if_neg fun q => nDD _ (look_mem hlD3) q]; exact hlD3
      · rw [look_cons, if_neg (Nat.ne_of_lt lpl.1), look_cons, if_pos rfl]
      · intro x hx
        rcases List.mem_cons.mp hx with rfl | hx
        · omega
        · exact hxs' x hx
theorem all : ∀ y, P_ y := @pick_all _ _ P_ (by with_unfolding_all exact core)
end law_s1_
theorem law_s1 {w A s g L sc V h tk Q loose mean mg mb p sv ns} : law_s1_.Q_ w A s g L sc V h tk Q loose mean mg mb p sv ns := @law_s1_.all (w, A, s, g, L, sc, V, h, tk, Q, loose, mean, mg, mb, p, sv, ns)
end
theorem kz_zm_s1 : True := by
  k_with "zm_s1" => skip
  trivial
theorem kl_zm_s2 : True := by
  k_with "lia" => ((fail_if_success k_extra "zm_s2"); lia)
  trivial
/-! the law, second part: the forest is planted -/
theorem nm_all : ∀ num : Fin 11, ∀ tu : Bool, ∀ k : Fin 3, 1 ≤ num.1 → ∀ e ∈ plant 10 tu num.1 (rootName k.1), e.1.length ≤ 500 ∧ e.1 ≠ Str.ofString "<string>" := by decide +kernel
theorem planted_nm {tu : Bool} {tops : List Nat} (h3 : tops.length ≤ 3) (ht : ∀ t ∈ tops, 1 ≤ t ∧ t ≤ 10) : ∀ e ∈ planted tu tops tops.length, e.1.length ≤ 500 ∧ e.1 ≠ Str.ofString "<string>" := fun e he => by
  unfold planted at he
  obtain ⟨k, hk, he⟩ := List.mem_flatMap.mp he
  have hk' : k < tops.length := List.mem_range.mp (List.mem_of_mem_take hk)
  have hx : tops[k]? = some (tops.getD k 0) := by
    rw [List.getD_eq_getElem?_getD, List.getElem?_eq_getElem hk']; rfl
  have hm := ht _ (List.mem_of_getElem? hx)
  exact nm_all ⟨tops.getD k 0, by omega⟩ tu ⟨k, by omega⟩ hm.1 e he
section
theorem kw_zm_s2 : True := by
  k_with "call type:range" => ((fail_if_success k_extra "zm_s2"); k_here; k_dflt (refine' callRange ?z1 ?z2 ?_; (case z1 => assumption); (case z2 => assumption); k_whole); intro r' h' t' u' v' tk' F' N' nr'; (try dsimp only at F' N'))
  k_with "execs cons" => ((fail_if_success k_extra "zm_s2"); (with_reducible show wpAny _ _ (execs (Stmt.For _ _ _ _ _ :: _) _) _ _ _); refine stop_here ?_)
  k_with "call builtin:len" => ((fail_if_success k_extra "zm_s2"); k_here; k_dflt (refine' lenW ?z1 ?z2 ?z3 ?_; (case z1 => assumption); (case z2 => assumption); (case z3 => omega); k_whole); intro t')
  k_with "subscriptTail" => ((fail_if_success k_extra "zm_s2"); k_here; k_dflt (first | ((with_reducible show wpAny _ _ (subscriptTail _ _ (Value.ref _) (Value.int (Nat.cast _) _)) _ _ _); refine' rdW ?z1 ?z2 ?z3 ?z4 ?_; (case z1 => assumption); (case z2 => assumption); (case z3 => assumption); (case z4 => omega); k_whole) | ((with_reducible show wpAny _ _ (subscriptTail _ _ (Value.ref _) (Value.int _ _)) _ _ _); refine' rdI ?z1 ?z2 ?z3 ?z4 ?z5 ?_; (case z1 => assumption); (case z2 => (repeat (first | exact look_mem (by assumption) | refine List.Mem.tail _ ?_))); (case z3 => decide); (case z4 => assumption); (case z5 => omega); k_whole)))
  k_with "subscriptTail Name Slice ref ref" => ((fail_if_success k_extra "zm_s2"); k_here; k_dflt (first | (refine' dropL ?z1 ?z2 ?z3 ?z4 ?z5 ?z6 ?_; (case z1 => assumption); (case z2 => assumption); (case z3 => (repeat (first | exact look_mem (by assumption) | refine List.Mem.tail _ ?_))); (case z4 => assumption); (case z5 => omega); (case z6 => omega); k_whole) | (refine' takeL ?z1 ?z2 ?z3 ?z4 ?z5 ?z6 ?_; (case z1 => assumption); (case z2 => assumption); (case z3 => (repeat (first | exact look_mem (by assumption) | refine List.Mem.tail _ ?_))); (case z4 => assumption); (case z5 => omega); (case z6 => omega); k_whole)); intro D' h' F' N' l'; (try dsimp only at F' N'))
  k_with "binaryOp Add ref ref" => ((fail_if_success k_extra "zm_s2"); k_here; k_dflt (refine' catW ?z1 ?z2 ?z3 ?z4 ?z5 ?_; (case z1 => assumption); (case z2 => assumption); (case z3 => (repeat (first | exact look_mem (by assumption) | exact List.Mem.head _ | refine List.Mem.tail _ ?_))); (case z4 => (repeat (first | exact look_mem (by assumption) | exact List.Mem.head _ | refine List.Mem.tail _ ?_))); (case z5 => (simp only [List.length_take, List.length_drop]; omega)); k_whole); intro D' h' F' N' l'; (try dsimp only at F' N'))
  trivial
namespace law_s2_
def Q_ (w : World) (A : Around) (s : Shared) (g : Heap) (L : Addr) (sc : Addr) (V : List (Addr × Obj)) (h : Heap) (tk : Nat) (Q : Flow → Shared → Prop) (loose : List Str) (mean : ExcName → Option Value) (mg : Str → Option Value) (mb : Str → Option Value) (p : Program) (D : Addr) (la : Addr) (lp : Addr) (nn : Nat) (tn : Nat) (n0 : Nat) (n1 : Nat) (n2 : Nat) (n3 : Nat) (tops : List Nat) : Prop := ∀ {body : List Stmt} {scope : Scope} {nv : List Value} {tv : List Value} (hb : LawFn w body scope) (X' : (hd.heap_1 w.params).In g) (T' : Top p loose mean mg mb g) (hh : A.handled = none) (hroom : A.depth ≤ 303) (hun : A.units ≤ 20) (ns' : (scope.names.map (·.1)).Nodup) (F' : Fr g L h (fv ([("k", none), ("numbers", some (.ref D)), ("one", none), ("tops", some (.ref la)), ("planted", some (.ref lp)), ("size", none), ("shift", none), ("name", none), ("number", none), ("deep", none), ("sorter", none), ("told", none), ("course", none), ("whole", none), ("drawn", none)] : List (Str × Option Value)))) (N' : News g L h V) (lw : LW V [] L (some (.ref sc)) none none none none) (hD : V.lookup D = some (listOf nv.toArray nn)) (hnv : IV nv [n0, n1, n2, n3]) (hn3 : n3 < 27720) (hla : V.lookup la = some (listOf tv.toArray tn)) (htv : IV tv tops) (ht1 : 1 ≤ tops.length) (ht3 : tops.length ≤ 3) (htt : ∀ t ∈ tops, 1 ≤ t ∧ t ≤ 10) (hlp : V.lookup lp = some (listOf ([] : List Value).toArray 0)) (hap : D ≠ lp ∧ la ≠ lp) (hnext : ∀ h tk V (ok osh : Option Value) tz lf lr Tn F, Fr g L h (fv ([("k", ok), ("numbers", some (.ref D)), ("one", none), ("tops", some (.ref la)), ("planted", some (.ref lp)), ("size", some (.int (F.length : Int) tz)), ("shift", osh), ("name", none), ("number", none), ("deep", none), ("sorter", none), ("told", none), ("course", none), ("whole", none), ("drawn", none)] : List (Str × Option Value))) → News g L h V → Good F tops tops.length → PT Tn F → 0 < F.length →
      LW V ((lf, listOf (refs Tn).toArray 0) :: (la, listOf tv.toArray tn) :: Tn) L (some (.ref sc)) (some (.ref lf)) (some (.ref lr)) none none → V.lookup lr = some (listOf ([] : List Value).toArray 0) → (∀ p ∈ (lf, listOf (refs Tn).toArray 0) :: (la, listOf tv.toArray tn) :: Tn, p.1 ≠ lr) → (∀ e ∈ F, e.1.length ≤ 500 ∧ e.1 ≠ Str.ofString "<string>") →
      wpAny (model PG w) A (execs (body.drop 8) (lawEnv scope L)) Q (fun _ _ => False) { s with heap := h, toks := tk }), wpAny (model PG w) A (execs (body.drop 3) (lawEnv scope L)) Q (fun _ _ => False) { s with heap := h, toks := tk }
noncomputable section
def P_ (x : World × Around × Shared × Heap × Addr × Addr × (List (Addr × Obj)) × Heap × Nat × (Flow → Shared → Prop) × (List Str) × (ExcName → Option Value) × (Str → Option Value) × (Str → Option Value) × Program × Addr × Addr × Addr × Nat × Nat × Nat × Nat × Nat × Nat × (List Nat)) : Prop := Q_ x.1 x.2.1 x.2.2.1 x.2.2.2.1 x.2.2.2.2.1 x.2.2.2.2.2.1 x.2.2.2.2.2.2.1 x.2.2.2.2.2.2.2.1 x.2.2.2.2.2.2.2.2.1 x.2.2.2.2.2.2.2.2.2.1 x.2.2.2.2.2.2.2.2.2.2.1 x.2.2.2.2.2.2.2.2.2.2.2.1 x.2.2.2.2.2.2.2.2.2.2.2.2.1 x.2.2.2.2.2.2.2.2.2.2.2.2.2.1 x.2.2.2.2.2.2.2.2.2.2.2.2.2.2.1 x.2.2.2.2.2.2.2.2.2.2.2.2.2.2.2.1 x.2.2.2.2.2.2.2.2.2.2.2.2.2.2.2.2.1 x.2.2.2.2.2.2.2.2.2.2.2.2.2.2.2.2.2.1 x.2.2.2.2.2.2.2.2.2.2.2.2.2.2.2.2.2.2.1 x.2.2.2.2.2.2.2.2.2.2.2.2.2.2.2.2.2.2.2.1 x.2.2.2.2.2.2.2.2.2.2.2.2.2.2.2.2.2.2.2.2.1 x.2.2.2.2.2.2.2.2.2.2.2.2.2.2.2.2.2.2.2.2.2.1 x.2.2.2.2.2.2.2.2.2.2.2.2.2.2.2.2.2.2.2.2.2.2.1 x.2.2.2.2.2.2.2.2.2.2.2.2.2.2.2.2.2.2.2.2.2.2.2.1 x.2.2.2.2.2.2.2.2.2.2.2.2.2.2.2.2.2.2.2.2.2.2.2.2
def x_ := pick (dW, callerA, ({} : Shared), default, default, default, default, default, default, default, default, default, default, default, PG, default, default, default, default, default, default, default, default, default, default) fun x => ¬ P_ x
@[irreducible] def w := x_.1
@[irreducible] def A := x_.2.1
@[irreducible] def s := x_.2.2.1
@[irreducible] def g := x_.2.2.2.1
@[irreducible] def L := x_.2.2.2.2.1
@[irreducible] def sc := x_.2.2.2.2.2.1
@[irreducible] def V := x_.2.2.2.2.2.2.1
@[irreducible] def h := x_.2.2.2.2.2.2.2.1
@[irreducible] def tk := x_.2.2.2.2.2.2.2.2.1
@[irreducible] def Q := x_.2.2.2.2.2.2.2.2.2.1
@[irreducible] def loose := x_.2.2.2.2.2.2.2.2.2.2.1
@[irreducible] def mean := x_.2.2.2.2.2.2.2.2.2.2.2.1
@[irreducible] def mg := x_.2.2.2.2.2.2.2.2.2.2.2.2.1
@[irreducible] def mb := x_.2.2.2.2.2.2.2.2.2.2.2.2.2.1
@[irreducible] def p := x_.2.2.2.2.2.2.2.2.2.2.2.2.2.2.1
@[irreducible] def D := x_.2.2.2.2.2.2.2.2.2.2.2.2.2.2.2.1
@[irreducible] def la := x_.2.2.2.2.2.2.2.2.2.2.2.2.2.2.2.2.1
@[irreducible] def lp := x_.2.2.2.2.2.2.2.2.2.2.2.2.2.2.2.2.2.1
@[irreducible] def nn := x_.2.2.2.2.2.2.2.2.2.2.2.2.2.2.2.2.2.2.1
@[irreducible] def tn := x_.2.2.2.2.2.2.2.2.2.2.2.2.2.2.2.2.2.2.2.1
@[irreducible] def n0 := x_.2.2.2.2.2.2.2.2.2.2.2.2.2.2.2.2.2.2.2.2.1
@[irreducible] def n1 := x_.2.2.2.2.2.2.2.2.2.2.2.2.2.2.2.2.2.2.2.2.2.1
@[irreducible] def n2 := x_.2.2.2.2.2.2.2.2.2.2.2.2.2.2.2.2.2.2.2.2.2.2.1
@[irreducible] def n3 := x_.2.2.2.2.2.2.2.2.2.2.2.2.2.2.2.2.2.2.2.2.2.2.2.1
@[irreducible] def tops := x_.2.2.2.2.2.2.2.2.2.2.2.2.2.2.2.2.2.2.2.2.2.2.2.2
end
set_option maxHeartbeats 2000000 in
theorem core : Q_ w A s g L sc V h tk Q loose mean mg mb p D la lp nn tn n0 n1 n2 n3 tops := by
  intro body scope nv tv hb X' T' hh hroom hun ns' F' N' lw hD hnv hn3 hla htv ht1 ht3 htt hlp hap hnext
  have hr1 : A.depth + 60 < recursionLimit := Nat.lt_of_le_of_lt (Nat.add_le_add_right hroom 60) (by decide)
  have hu1 : A.units + 60 < cLine := Nat.lt_of_le_of_lt (Nat.add_le_add_right hun 60) (by decide)
  obtain ⟨oc, od, name, params, dV, kV, doc, pm, an, cdv, ct, osl, e⟩ := hb
  rw [show (hd.heap_1 w.params).lookup 269 = some _ from by k_is] at e
  cases e
  simp only [List.drop] at hnext ⊢
  have nd' : (List.map (fun x : Str × Option Value => x.fst) [("k", none), ("numbers", some (.ref D)), ("one", none), ("tops", some (.ref la)), ("planted", some (.ref lp)), ("size", none), ("shift", none), ("name", none), ("number", none), ("deep", none), ("sorter", none), ("told", none), ("course", none), ("whole", none), ("drawn", none)]).Nodup := of_decide_eq_true (by kernel_rfl)
  have htl := htv.length
  refine wpAny_execs_cons ?_
  k_steps
  unfold Stop
  have neR : ∀ b o, V.lookup b = some o → b ≠ r' := fun b o e q => nr' _ (look_mem e) q
  have lkR : ∀ b o, V.lookup b = some o → ((r', rangeObj (tv.length : Nat) t' u' v') :: V).lookup b = some o := fun b o e => by rw [look_cons, if_neg (neR b o e)]; exact e
  have lw0 := (((lw.push (o := rangeObj (tv.length : Nat) t' u' v') nr').addL (lkR _ _ hla)).addL (lkR _ _ hD)).addR (a := r') (by rw [look_cons, if_pos rfl])
  have hn3v : ∃ t3, nv[(3 : Int).toNat]? = some (.int (n3 : Int) t3) := by
    rcases hnv with _ | ⟨hnv⟩
    rcases hnv with _ | ⟨hnv⟩
    rcases hnv with _ | ⟨hnv⟩
    rcases hnv with _ | ⟨hnv⟩
    exact ⟨_, rfl⟩
  obtain ⟨t3, hn3v⟩ := hn3v
  have hnl : nv.length ≤ 900 := by rw [hnv.length]; simp
  refine forGenX (K := Kr) (iterRange (r := r') (n := tv.length) (by omega)) (fun i fl V2 => ∃ o1 Tn kp, fl = ([("k", o1), ("numbers", some (.ref D)), ("one", none), ("tops", some (.ref la)), ("planted", some (.ref lp)), ("size", none), ("shift", none), ("name", none), ("number", none), ("deep", none), ("sorter", none), ("told", none), ("course", none), ("whole", none), ("drawn", none)] : List (Str × Option Value)) ∧ LW V2 [(r', rangeObj (tv.length : Nat) t' u' v'), (D, listOf nv.toArray nn), (la, listOf tv.toArray tn)] L (some (.ref sc)) none none none none ∧
    V2.lookup lp = some (listOf (refs Tn).toArray kp) ∧ (∀ p ∈ Tn, V2.lookup p.1 = some p.2) ∧ PT Tn (planted ((n3 : Int).fmod 2 == 1) tops i)) ?_ F' N' lw0.nd ?_ ?_ ?_ ?_ ?_ ?_ ?_ ?_
  · exact hh
  · intro i fl V2 h2 hx9; obtain ⟨o1, Tn, kp, rfl, lw2, _⟩ := hx9; intro _ N2
    exact ⟨_, _, _, nget N2 lw2.look⟩
  · refine ⟨none, [], 0, rfl, lw0, lkR _ _ hlp, (fun _ h => nomatch h), .nil⟩
  · rintro it o hni _
    refine ⟨none, [], 0, rfl, lw0.push hni, by rw [look_cons, if_neg fun q => hni _ (look_mem (lkR _ _ hlp)) q]; exact lkR _ _ hlp, (fun _ h => nomatch h), .nil⟩
  · exact fun i o h => by rw [h]; exact Kr.not rfl rfl (by decide)
  · intro i fl V2 V3 nd3 _ hk hx9; obtain ⟨o1, Tn, kp, hf, lw2, hp, hT, pt⟩ := hx9
    refine ⟨o1, Tn, kp, hf, lw2.mono nd3 hk, hk _ _ (.inl fun _ e => nomatch e) hp, fun q hq => hk _ _ (pt.kr q hq) (hT q hq), pt⟩
  · intro i v fl V2 h2 tk2 it o hi; rintro ⟨ty, rfl⟩; intro hx9; obtain ⟨o1, Tn, kp, rfl, lw2, hp, hT, pt⟩ := hx9; intro F2 N2 nd2 hlo hio Qf hQf
    clear F' N' nd'
    have F' := F2
    have N' := N2
    clear F2 N2
    obtain ⟨x, tx, hx, ex⟩ := htv.at (List.getElem?_eq_getElem hi)
    have hxv : tv[i]? = some (.int (x : Int) tx) := by rw [List.getElem?_eq_getElem hi, ex]
    have hxm := htt x (List.mem_of_getElem? hx)
    have hla2 : V2.lookup la = some (listOf tv.toArray tn) := lw2.drop.drop.look
    have hD2 : V2.lookup D = some (listOf nv.toArray nn) := lw2.drop.look
    have nd' : (List.map (fun x : Str × Option Value => x.fst) [("k", o1), ("numbers", some (.ref D)), ("one", none), ("tops", some (.ref la)), ("planted", some (.ref lp)), ("size", none), ("shift", none), ("name", none), ("number", none), ("deep", none), ("sorter", none), ("told", none), ("course", none), ("whole", none), ("drawn", none)]).Nodup := of_decide_eq_true (by kernel_rfl)
    k_steps
    have hpi : i < tops.length := by omega
    have hsucc := planted_succ (tu := ((n3 : Int).fmod 2 == 1)) hpi
    have hgd : tops.getD i 0 = x := by rw [List.getD_eq_getElem?_getD, hx]; rfl
    have hg1 := (planted_good (tu := ((n3 : Int).fmod 2 == 1)) ht3 htt (i + 1) (by omega)).len
    have hg2 : (tops.take (i + 1)).length ≤ 3 := by rw [List.length_take]; omega
    have hptl := pt.length
    rw [hgd] at hsucc
    have hll := congrArg List.length hsucc
    rw [List.length_append] at hll
    refine wpAny_call (plant_ok ((n3 : Int).fmod 2 == 1) 10 (nm := rootName i) (vs := refs Tn) X' T' (fun b o e => F'.keep b o e) hh (by omega) (by omega) hxm.1 hxm.2 hxm.2 (nget N' hp) (ngone N' hp) (by rw [List.length_map]; omega) (by have := root_len (i := i) (by omega); omega) fun h6 tk6 Tn2 n6 kp6 ht6 nd6 pt6 hp6 => ?_)
    obtain ⟨F6, N6, nd7, K7, hp7, hT7⟩ := after_grow F' N' nd2 hp kp6 hp6 ht6 nd6
    clear F' N'
    have F' := F6
    have N' := N6
    clear F6 N6
    have itlp : it ≠ lp := fun q => by
      rw [q, hp] at hlo; cases hlo
      exact absurd (congrArg Obj.cls hio) (by simp)
    dsimp only
    k_steps
    refine ⟨_, _, h6, _, rfl, F', N', nd7, K7 it o itlp hlo, _, Tn ++ Tn2, n6, rfl, lw2.keep nd7 hp (fun _ e => nomatch e) (fun q hq => ?_) K7, ?_, fun q hq => ?_, ?_⟩
    · rcases List.mem_cons.mp hq with rfl | hq
      · exact (neR lp _ hlp).symm
      rcases List.mem_cons.mp hq with rfl | hq
      · exact hap.1
      rw [List.mem_singleton] at hq; subst hq
      exact hap.2
    · rw [hp7]; unfold refs; rw [List.map_append]
    · rcases List.mem_append.mp hq with hq | hq
      · refine K7 _ _ (fun e => ?_) (hT q hq)
        have h1 := hT q hq
        rw [e, hp] at h1
        have h2 := pt.cls q hq
        rw [← Option.some.inj h1] at h2
        exact absurd h2 (by simp)
      · exact hT7 q hq
    · rw [hsucc]; exact pt.append pt6
  · intro fl V2 h2 tk2 hx9; obtain ⟨o1, Tn, kp, rfl, lw2, hp, hT, pt⟩ := hx9; intro F2 N2 nd2
    clear F' N' nd'
    have F' := F2
    have N' := N2
    clear F2 N2
    rw [htl] at pt
    have hgood := planted_good (tu := ((n3 : Int).fmod 2 == 1)) ht3 htt tops.length (Nat.le_refl _)
    rw [List.take_of_length_le (Nat.le_refl _)] at hgood
    have hpos : 0 < (refs Tn).length := by rw [List.length_map, pt.length]; exact planted_pos ht1
    have hrl : (refs Tn).length ≤ 39 := by have := hgood.len; rw [List.length_map, pt.length]; omega
    obtain ⟨q, hq, hql⟩ := modNat ((n3 : Int).fdiv 2) hpos
    have hla2 : V2.lookup la = some (listOf tv.toArray tn) := lw2.drop.drop.look
    have hD2 : V2.lookup D = some (listOf nv.toArray nn) := lw2.drop.look
    have nd' : (List.map (fun x : Str × Option Value => x.fst) [("k", o1), ("numbers", some (.ref D)), ("one", none), ("tops", some (.ref la)), ("planted", some (.ref lp)), ("size", none), ("shift", none), ("name", none), ("number", none), ("deep", none), ("sorter", none), ("told", none), ("course", none), ("whole", none), ("drawn", none)]).Nodup := of_decide_eq_true (by kernel_rfl)
    k_steps
    have er : List.drop q (refs Tn) ++ List.take q (refs Tn) = refs (Tn.drop q ++ Tn.take q) := by unfold refs; rw [List.map_append, List.map_drop, List.map_take]
    rw [er] at N'
    have nD : ∀ p ∈ V2, p.1 ≠ D' := fun p hp => Nat.ne_of_lt (l' p (.tail _ (.tail _ hp)))
    have pt2 : PT (Tn.drop q ++ Tn.take q) ((planted ((n3 : Int).fmod 2 == 1) tops tops.length).drop q ++ (planted ((n3 : Int).fmod 2 == 1) tops tops.length).take q) := (pt.drop q).append (pt.take q)
    have good2 := hgood.perm (rot_perm (planted ((n3 : Int).fmod 2 == 1) tops tops.length) q)
    have hT2 : ∀ p ∈ Tn.drop q ++ Tn.take q, V2.lookup p.1 = some p.2 := fun p hp => by
      rcases List.mem_append.mp hp with hp | hp
      · exact hT p (List.drop_subset _ _ hp)
      · exact hT p (List.take_subset _ _ hp)
    generalize hTT : Tn.drop q ++ Tn.take q = Tn2 at N' pt2 hT2
    generalize hFF : (planted ((n3 : Int).fmod 2 == 1) tops tops.length).drop q ++ (planted ((n3 : Int).fmod 2 == 1) tops tops.length).take q = FF at pt2 good2
    have hnm2 : ∀ e ∈ FF, e.1.length ≤ 500 ∧ e.1 ≠ Str.ofString "<string>" := fun e he => planted_nm ht3 htt e ((rot_perm _ q).mem_iff.mpr (by rw [hFF]; exact he))
    have hFl : FF.length = (refs Tn).length := by rw [← hFF, ← (rot_perm _ q).length_eq, List.length_map, pt.length]
    have N2 : News g L h' ((D', listOf (refs Tn2).toArray 0) :: V2) := fun p hp => N' p (by
      rcases List.mem_cons.mp hp with rfl | hp
      · exact .head _
      · exact .tail _ (.tail _ (.tail _ hp)))
    have lwA := (lw2.sub (Z' := []) (fun _ h => nomatch h)).push (o := listOf (refs Tn2).toArray 0) nD
    have lkD : ∀ b o, V2.lookup b = some o → ((D', listOf (refs Tn2).toArray 0) :: V2).lookup b = some o := fun b o e => by rw [look_cons, if_neg fun z => nD _ (look_mem e) z]; exact e
    have lwB := ((lwA.ofAll (T := Tn2) (fun p hp => lkD _ _ (hT2 p hp)) pt2.data).addL (lkD _ _ hla2)).addL (a := D') (us := (refs Tn2).toArray) (n := 0) (by rw [look_cons, if_pos rfl])
    clear N'
    obtain ⟨of, ef, df⟩ := lwB.cf
    refine stXC F' N2 lwB.nd rfl ef df (fun h3 o3 hd3 F3 N3 => ?_) rfl rfl
    have lwC := lwB.setF ef df hd3
    generalize putW ((D', listOf (refs Tn2).toArray 0) :: V2) (L + 1 + 1) o3 = V3 at N3 lwC
    clear N2 F'
    have F' := F3
    have N' := N3
    clear F3 N3
    k_steps
    rename_i lr hr FR NR lrl
    have nR : ∀ p ∈ V3, p.1 ≠ lr := fun p hp => Nat.ne_of_lt (lrl p hp)
    have lwD := lwC.push (o := listOf ([] : List Value).toArray 0) nR
    obtain ⟨orr, er2, dr⟩ := lwD.cr
    have hlr : ((lr, listOf ([] : List Value).toArray 0) :: V3).lookup lr = some (listOf ([] : List Value).toArray 0) := by rw [look_cons, if_pos rfl]
    refine stXC FR NR lwD.nd rfl er2 dr (fun h5 o5 hd5 F5 N5 => ?_) rfl rfl
    have lwE := lwD.setR er2 dr hd5
    have ner : lr ≠ L + 1 + 1 + 1 := fun q => by
      have e3 := hlr
      rw [show ((lr, listOf ([] : List Value).toArray 0) :: V3).lookup lr = ((lr, listOf ([] : List Value).toArray 0) :: V3).lookup (L + 1 + 1 + 1) from congrArg (fun z => List.lookup z ((lr, listOf ([] : List Value).toArray 0) :: V3)) q, er2] at e3
      cases e3; cases dr
    have hlr2 : (putW ((lr, listOf ([] : List Value).toArray 0) :: V3) (L + 1 + 1 + 1) o5).lookup lr = some (listOf ([] : List Value).toArray 0) := by rw [look_put (by rw [er2]; rfl), if_neg ner]; exact hlr
    generalize putW ((lr, listOf ([] : List Value).toArray 0) :: V3) (L + 1 + 1 + 1) o5 = V5 at N5 lwE hlr2
    clear FR NR
    have F' := F5
    have N' := N5
    clear F5 N5
    k_steps
    unfold Stop
    rw [← hFl] at F'
    exact hnext h5 _ V5 _ _ _ D' lr Tn2 FF F' N' good2 pt2 (by rw [hFl]; exact hpos) lwE hlr2 (fun p hp => nR _ (look_mem (lwC.z p hp))) hnm2
  · exact fun _ _ => rfl
theorem all : ∀ y, P_ y := @pick_all _ _ P_ (by with_unfolding_all exact core)
end law_s2_
theorem law_s2 {w A s g L sc V h tk Q loose mean mg mb p D la lp nn tn n0 n1 n2 n3 tops} : law_s2_.Q_ w A s g L sc V h tk Q loose mean mg mb p D la lp nn tn n0 n1 n2 n3 tops := @law_s2_.all (w, A, s, g, L, sc, V, h, tk, Q, loose, mean, mg, mb, p, D, la, lp, nn, tn, n0, n1, n2, n3, tops)
end
theorem kz_zm_s2 : True := by
  k_with "zm_s2" => skip
  trivial
theorem kl_zm_s3 : True := by
  k_with "lia" => ((fail_if_success k_extra "zm_s3"); lia)
  trivial
/-! the law, third part: the rows -/
section
theorem kw_zm_s3 : True := by
  k_with "execs cons" => ((fail_if_success k_extra "zm_s3"); (with_reducible show wpAny _ _ (execs (Stmt.If _ _ _ _ :: _) _) _ _ _); refine stop_here ?_)
  k_with "eval Name" => ((fail_if_success k_extra "zm_s3"); k_here; (with_reducible show wpAny _ _ (eval (Expr.Name _ _) (envX _ _ _ _ _ _)) _ _ _); k_dflt (refine' ldXC ?z1 ?z2 ?z3 ?z4 ?_ ?z5 ?z6 ?z7; (case z1 => assumption); (case z2 => rfl); (case z3 => assumption); (case z4 => assumption); (case z5 => rfl); (case z6 => rfl); (case z7 => decide); k_whole))
  k_with "eval Name" => ((fail_if_success k_extra "zm_s3"); k_here; (with_reducible show wpAny _ _ (eval (Expr.Name _ _) (lawEnv _ _)) _ _ _); k_dflt (refine' ldXC ?z1 ?z2 ?z3 ?z4 ?_ ?z5 ?z6 ?z7; (case z1 => assumption); (case z2 => rfl); (case z3 => assumption); (case z4 => assumption); (case z5 => rfl); (case z6 => rfl); (case z7 => decide); k_whole))
  k_with "eval Name" => ((fail_if_success k_extra "zm_s3"); k_here; (with_reducible show wpAny _ _ (eval (Expr.Name _ _) (compEnvC _ _ _ _)) _ _ _); k_dflt (refine' ldCC ?z1 ?z2 ?z3 ?z4 ?_ ?z5 ?z6 ?z7; (case z1 => assumption); (case z2 => rfl); (case z3 => assumption); (case z4 => assumption); (case z5 => rfl); (case z6 => rfl); (case z7 => decide); k_whole))
  k_with "eval ListComp" => ((fail_if_success k_extra "zm_s3"); k_here; k_dflt (refine' evalComp ?z1 ?z2 ?z3 ?_; (case z1 => with_unfolding_all rfl); (case z2 => rfl); (case z3 => decide); k_whole))
  k_with "getMethod ref" => ((fail_if_success k_extra "zm_s3"); k_here; k_dflt (first | (with_reducible show wpAny _ _ (getMethod (Value.ref _) (Str.ofString "append") _) _ _ _); refine' appWM ?z1 ?z2 ?_; (case z1 => assumption); (case z2 => assumption); k_whole | (with_reducible show wpAny _ _ (getMethod (Value.ref _) (Str.ofString "names") _) _ _ _); refine' methNm ?z1 ?z2 ?z3 ?z4 ?z5 ?_; (case z1 => assumption); (case z2 => assumption); (case z3 => assumption); (case z4 => assumption); (case z5 => rfl); k_whole))
  k_with "subscriptTail" => ((fail_if_success k_extra "zm_s3"); k_here; (with_reducible show wpAny _ _ (subscriptTail _ _ (Value.ref _) (Value.int _ _)) _ _ _); k_dflt (refine' tupI ?z1 ?z2 ?z3 ?z4 ?z5 ?z6 ?_; (case z1 => assumption); (case z2 => exact look_mem (by assumption)); (case z3 => decide); (case z4 => decide); (case z5 => rfl); (case z6 => rfl); k_whole))
  k_with "call builtin:list.append" => ((fail_if_success k_extra "zm_s3"); k_here; k_dflt (refine' appW ?z1 ?z2 ?z3 ?z4 ?z5 ?_; (case z1 => assumption); (case z2 => assumption); (case z3 => assumption); (case z4 => assumption); (case z5 => omega); k_whole); intro h' W' F' N' nW' hA' hB'; (try dsimp only at F' N'))
  trivial
namespace law_s3_
def Q_ (w : World) (A : Around) (s : Shared) (g : Heap) (L : Addr) (sc : Addr) (V : List (Addr × Obj)) (h : Heap) (tk : Nat) (Q : Flow → Shared → Prop) (loose : List Str) (mean : ExcName → Option Value) (mg : Str → Option Value) (mb : Str → Option Value) (p : Program) (D : Addr) (la : Addr) (lp : Addr) (lf : Addr) (lr : Addr) (tv : List Value) (tn : Nat) (ok : Option Value) (osh : Option Value) (tz : Tok) (Tn : List (Addr × Obj)) (F : List NT) (tops : List Nat) : Prop := ∀ {body : List Stmt} {scope : Scope} (hb : LawFn w body scope) (X' : (hd.heap_1 w.params).In g) (T' : Top p loose mean mg mb g) (hh : A.handled = none) (hroom : A.depth ≤ 303) (hun : A.units ≤ 20) (ns' : (scope.names.map (·.1)).Nodup) (F' : Fr g L h (fv ([("k", ok), ("numbers", some (.ref D)), ("one", none), ("tops", some (.ref la)), ("planted", some (.ref lp)), ("size", some (.int (F.length : Int) tz)), ("shift", osh), ("name", none), ("number", none), ("deep", none), ("sorter", none), ("told", none), ("course", none), ("whole", none), ("drawn", none)] : List (Str × Option Value)))) (N' : News g L h V) (good : Good F tops tops.length) (ht3 : tops.length ≤ 3) (pt : PT Tn F) (lw : LW V ((lf, listOf (refs Tn).toArray 0) :: (la, listOf tv.toArray tn) :: Tn) L (some (.ref sc)) (some (.ref lf)) (some (.ref lr)) none none) (hlr : V.lookup lr = some (listOf ([] : List Value).toArray 0)) (hapr : ∀ p ∈ (lf, listOf (refs Tn).toArray 0) :: (la, listOf tv.toArray tn) :: Tn, p.1 ≠ lr) (hnm : ∀ e ∈ F, e.1.length ≤ 500 ∧ e.1 ≠ Str.ofString "<string>") (hnext : ∀ h tk V (o1 o2 vd : Option Value) Ro kr, Fr g L h (fv ([("k", ok), ("numbers", some (.ref D)), ("one", none), ("tops", some (.ref la)), ("planted", some (.ref lp)), ("size", some (.int (F.length : Int) tz)), ("shift", osh), ("name", o1), ("number", o2), ("deep", none), ("sorter", none), ("told", none), ("course", none), ("whole", none), ("drawn", none)] : List (Str × Option Value))) → News g L h V → RT F Ro F →
      LW V (Ro ++ (lf, listOf (refs Tn).toArray 0) :: (la, listOf tv.toArray tn) :: Tn) L (some (.ref sc)) (some (.ref lf)) (some (.ref lr)) vd none → V.lookup lr = some (listOf (refs Ro).toArray kr) → (∀ p ∈ Ro ++ (lf, listOf (refs Tn).toArray 0) :: (la, listOf tv.toArray tn) :: Tn, p.1 ≠ lr) →
      wpAny (model PG w) A (execs (body.drop 9) (lawEnv scope L)) Q (fun _ _ => False) { s with heap := h, toks := tk }), wpAny (model PG w) A (execs (body.drop 8) (lawEnv scope L)) Q (fun _ _ => False) { s with heap := h, toks := tk }
noncomputable section
def P_ (x : World × Around × Shared × Heap × Addr × Addr × (List (Addr × Obj)) × Heap × Nat × (Flow → Shared → Prop) × (List Str) × (ExcName → Option Value) × (Str → Option Value) × (Str → Option Value) × Program × Addr × Addr × Addr × Addr × Addr × (List Value) × Nat × (Option Value) × (Option Value) × Tok × (List (Addr × Obj)) × (List NT) × (List Nat)) : Prop := Q_ x.1 x.2.1 x.2.2.1 x.2.2.2.1 x.2.2.2.2.1 x.2.2.2.2.2.1 x.2.2.2.2.2.2.1 x.2.2.2.2.2.2.2.1 x.2.2.2.2.2.2.2.2.1 x.2.2.2.2.2.2.2.2.2.1 x.2.2.2.2.2.2.2.2.2.2.1 x.2.2.2.2.2.2.2.2.2.2.2.1 x.2.2.2.2.2.2.2.2.2.2.2.2.1 x.2.2.2.2.2.2.2.2.2.2.2.2.2.1 x.2.2.2.2.2.2.2.2.2.2.2.2.2.2.1 x.2.2.2.2.2.2.2.2.2.2.2.2.2.2.2.1 x.2.2.2.2.2.2.2.2.2.2.2.2.2.2.2.2.1 x.2.2.2.2.2.2.2.2.2.2.2.2.2.2.2.2.2.1 x.2.2.2.2.2.2.2.2.2.2.2.2.2.2.2.2.2.2.1 x.2.2.2.2.2.2.2.2.2.2.2.2.2.2.2.2.2.2.2.1 x.2.2.2.2.2.2.2.2.2.2.2.2.2.2.2.2.2.2.2.2.1 x.2.2.2.2.2.2.2.2.2.2.2.2.2.2.2.2.2.2.2.2.2.1 x.2.2.2.2.2.2.2.2.2.2.2.2.2.2.2.2.2.2.2.2.2.2.1 x.2.2.2.2.2.2.2.2.2.2.2.2.2.2.2.2.2.2.2.2.2.2.2.1 x.2.2.2.2.2.2.2.2.2.2.2.2.2.2.2.2.2.2.2.2.2.2.2.2.1 x.2.2.2.2.2.2.2.2.2.2.2.2.2.2.2.2.2.2.2.2.2.2.2.2.2.1 x.2.2.2.2.2.2.2.2.2.2.2.2.2.2.2.2.2.2.2.2.2.2.2.2.2.2.1 x.2.2.2.2.2.2.2.2.2.2.2.2.2.2.2.2.2.2.2.2.2.2.2.2.2.2.2
def x_ := pick (dW, callerA, ({} : Shared), default, default, default, default, default, default, default, default, default, default, default, PG, default, default, default, default, default, default, default, default, default, default, default, default, default) fun x => ¬ P_ x
@[irreducible] def w := x_.1
@[irreducible] def A := x_.2.1
@[irreducible] def s := x_.2.2.1
@[irreducible] def g := x_.2.2.2.1
@[irreducible] def L := x_.2.2.2.2.1
@[irreducible] def sc := x_.2.2.2.2.2.1
@[irreducible] def V := x_.2.2.2.2.2.2.1
@[irreducible] def h := x_.2.2.2.2.2.2.2.1
@[irreducible] def tk := x_.2.2.2.2.2.2.2.2.1
@[irreducible] def Q := x_.2.2.2.2.2.2.2.2.2.1
@[irreducible] def loose := x_.2.2.2.2.2.2.2.2.2.2.1
@[irreducible] def mean := x_.2.2.2.2.2.2.2.2.2.2.2.1
@[irreducible] def mg := x_.2.2.2.2.2.2.2.2.2.2.2.2.1
@[irreducible] def mb := x_.2.2.2.2.2.2.2.2.2.2.2.2.2.1
@[irreducible] def p := x_.2.2.2.2.2.2.2.2.2.2.2.2.2.2.1
@[irreducible] def D := x_.2.2.2.2.2.2.2.2.2.2.2.2.2.2.2.1
@[irreducible] def la := x_.2.2.2.2.2.2.2.2.2.2.2.2.2.2.2.2.1
@[irreducible] def lp := x_.2.2.2.2.2.2.2.2.2.2.2.2.2.2.2.2.2.1
@[irreducible] def lf := x_.2.2.2.2.2.2.2.2.2.2.2.2.2.2.2.2.2.2.1
@[irreducible] def lr := x_.2.2.2.2.2.2.2.2.2.2.2.2.2.2.2.2.2.2.2.1
@[irreducible] def tv := x_.2.2.2.2.2.2.2.2.2.2.2.2.2.2.2.2.2.2.2.2.1
@[irreducible] def tn := x_.2.2.2.2.2.2.2.2.2.2.2.2.2.2.2.2.2.2.2.2.2.1
@[irreducible] def ok := x_.2.2.2.2.2.2.2.2.2.2.2.2.2.2.2.2.2.2.2.2.2.2.1
@[irreducible] def osh := x_.2.2.2.2.2.2.2.2.2.2.2.2.2.2.2.2.2.2.2.2.2.2.2.1
@[irreducible] def tz := x_.2.2.2.2.2.2.2.2.2.2.2.2.2.2.2.2.2.2.2.2.2.2.2.2.1
@[irreducible] def Tn := x_.2.2.2.2.2.2.2.2.2.2.2.2.2.2.2.2.2.2.2.2.2.2.2.2.2.1
@[irreducible] def F := x_.2.2.2.2.2.2.2.2.2.2.2.2.2.2.2.2.2.2.2.2.2.2.2.2.2.2.1
@[irreducible] def tops := x_.2.2.2.2.2.2.2.2.2.2.2.2.2.2.2.2.2.2.2.2.2.2.2.2.2.2.2
end
set_option maxHeartbeats 2000000 in
theorem core : Q_ w A s g L sc V h tk Q loose mean mg mb p D la lp lf lr tv tn ok osh tz Tn F tops := by
  intro body scope hb X' T' hh hroom hun ns' F' N' good ht3 pt lw hlr hapr hnm hnext
  have hr1 : A.depth + 60 < recursionLimit := Nat.lt_of_le_of_lt (Nat.add_le_add_right hroom 60) (by decide)
  have hu1 : A.units + 60 < cLine := Nat.lt_of_le_of_lt (Nat.add_le_add_right hun 60) (by decide)
  have low : Low A := ⟨hh, by omega, by omega⟩
  obtain ⟨oc, od, name, params, dV, kV, doc, pm, an, cdv, ct, osl, e⟩ := hb
  rw [show (hd.heap_1 w.params).lookup 269 = some _ from by k_is] at e
  cases e
  simp only [List.drop] at hnext ⊢
  have nd' : (List.map (fun x : Str × Option Value => x.fst) [("k", ok), ("numbers", some (.ref D)), ("one", none), ("tops", some (.ref la)), ("planted", some (.ref lp)), ("size", some (.int (F.length : Int) tz)), ("shift", osh), ("name", none), ("number", none), ("deep", none), ("sorter", none), ("told", none), ("course", none), ("whole", none), ("drawn", none)]).Nodup := of_decide_eq_true (by kernel_rfl)
  have hfl : F.length ≤ 39 := by have := good.len; omega
  have htl := pt.length
  have hrl : (refs Tn).length = F.length := by rw [List.length_map, htl]
  obtain ⟨of, c2', d2'⟩ := lw.cf
  refine wpAny_execs_cons ?_
  k_steps
  unfold Stop
  generalize hZ : (lf, listOf (refs Tn).toArray 0) :: (la, listOf tv.toArray tn) :: Tn = Z at lw hapr hnext
  have zf : (lf, listOf (refs Tn).toArray 0) ∈ Z := by rw [← hZ]; exact .head _
  have zT : ∀ q ∈ Tn, q ∈ Z := fun q hq => by rw [← hZ]; exact .tail _ (.tail _ hq)
  refine forGenT (K := Kr) (iterList (l := lf) (vs := refs Tn)) (fun i fl V2 => ∃ o1 o2 vd Ro kr, fl = ([("k", ok), ("numbers", some (.ref D)), ("one", none), ("tops", some (.ref la)), ("planted", some (.ref lp)), ("size", some (.int (F.length : Int) tz)), ("shift", osh), ("name", o1), ("number", o2), ("deep", none), ("sorter", none), ("told", none), ("course", none), ("whole", none), ("drawn", none)] : List (Str × Option Value)) ∧ LW V2 (Ro ++ Z) L (some (.ref sc)) (some (.ref lf)) (some (.ref lr)) vd none ∧
    V2.lookup lr = some (listOf (refs Ro).toArray kr) ∧ (∀ p ∈ Ro ++ Z, p.1 ≠ lr) ∧ RT F Ro (F.take i)) ?_ F' N' lw.nd ?_ ?_ ?_ ?_ ?_ ?_ ?_ ?_
  · exact hh
  · intro i fl V2 h2 hx9; obtain ⟨o1, o2, vd, Ro, kr, rfl, lw2, _⟩ := hx9; intro _ N2
    refine ⟨_, nget N2 (lw2.z _ (List.mem_append_right _ zf)), rfl, 0, rfl⟩
  · refine ⟨none, none, none, [], 0, rfl, lw, hlr, hapr, .nil⟩
  · rintro it o hni _
    refine ⟨none, none, none, [], 0, rfl, lw.push hni, by rw [look_cons, if_neg fun q => hni _ (look_mem hlr) q]; exact hlr, hapr, .nil⟩
  · exact fun i o h => Kr.not h.1 h.2 (by decide)
  · intro i fl V2 V3 nd3 _ hk hx9; obtain ⟨o1, o2, vd, Ro, kr, hf, lw2, hr, har, rt⟩ := hx9
    refine ⟨o1, o2, vd, Ro, kr, hf, lw2.mono nd3 hk, hk _ _ (.inl fun _ e => nomatch e) hr, har, rt⟩
  · intro i v fl V2 h2 tk2 it o hi hv hx9; obtain ⟨o1, o2, vd, Ro, kr, rfl, lw2, hr, har, rt⟩ := hx9; intro F2 N2 nd2 hlo hio Qf hQf
    clear F' N' nd'
    have F' := F2
    have N' := N2
    clear F2 N2
    have hiF : i < F.length := by omega
    obtain ⟨ta, t1, t2, hta⟩ := pt.at (at_get hiF)
    have hvr := refs_at hta
    rw [hv] at hvr
    cases hvr
    have hTa : V2.lookup ta = some (tupObj [.str (at' F i).1 t1, .int ((at' F i).2 : Int) t2]) := lw2.z _ (List.mem_append_right _ (zT _ (List.mem_of_getElem? hta)))
    have nd' : (List.map (fun x : Str × Option Value => x.fst) [("k", ok), ("numbers", some (.ref D)), ("one", none), ("tops", some (.ref la)), ("planted", some (.ref lp)), ("size", some (.int (F.length : Int) tz)), ("shift", osh), ("name", o1), ("number", o2), ("deep", none), ("sorter", none), ("told", none), ("course", none), ("whole", none), ("drawn", none)]).Nodup := of_decide_eq_true (by kernel_rfl)
    refine unpT F' N' hh hTa (fun h5 F5 N5 => ?_) rfl rfl
    clear F' N'
    have F' := F5
    have N' := N5
    clear F5 N5
    k_steps
    rename_i l1 h1 Fl Nl ll1
    have n1 : ∀ p ∈ V2, p.1 ≠ l1 := fun p hp => Nat.ne_of_lt (ll1 p hp)
    have lwA := lw2.push (o := listOf [.str (at' F i).1 t1].toArray 0) n1
    refine newIgn low ⟨by omega, by omega⟩ Fl X' T' Nl lwA.nd (by rw [look_cons, if_pos rfl]) fun G kvs W0 h3 tk3 hGx hkl hI hap F3 N3 => ?_
    have nd3 := nd_app hI.nd lwA.nd fun p hp q hq e => hap p hp q hq e
    have lwB := lwA.std nd3 (std_app2 nd3)
    have hI3 : Ign w (W0 ++ (l1, listOf [.str (at' F i).1 t1].toArray 0) :: V2) G kvs := hI.mono2 nd3 fun b o _ e => std_app b o e
    have notI : ∀ b x, V2.lookup b = some x → ¬ IAddr G b := fun b x e q => by
      obtain ⟨o', e'⟩ := hI.has q
      exact hap _ (look_mem e') _ (.tail _ (look_mem e)) rfl
    have k3 : ∀ b x, V2.lookup b = some x → (W0 ++ (l1, listOf [.str (at' F i).1 t1].toArray 0) :: V2).lookup b = some x := fun b x e => std_app2 nd3 _ _ (by rw [look_cons, if_neg fun z => n1 _ (look_mem e) z]; exact e)
    generalize W0 ++ (l1, listOf [.str (at' F i).1 t1].toArray 0) :: V2 = V3 at N3 lwB hI3 k3
    clear nd3 hI hap Fl Nl
    obtain ⟨od, ed, dd⟩ := lwB.cd
    refine stXC F3 N3 lwB.nd rfl ed dd (fun h4 o4 hd4 F4 N4 => ?_) rfl rfl
    have lwC := lwB.setD ed dd hd4
    have notC : ∀ b x, V2.lookup b = some x → (∀ v, x.data ≠ .cell v) → (putW V3 (L + 1 + 1 + 1 + 1) o4).lookup b = some x := fun b x e hx => by
      rw [look_put (by rw [ed]; rfl), if_neg fun q => by
        have := k3 _ _ e
        rw [q, ed] at this; cases this
        exact hx _ dd]
      exact k3 _ _ e
    have hI4 : Ign w (putW V3 (L + 1 + 1 + 1 + 1) o4) G kvs := hI3.mono2 lwC.nd fun b x hb e => by
      rw [look_put (by rw [ed]; rfl), if_neg fun q => by
        obtain ⟨oo, eo, _⟩ := lw2.cd
        rw [q] at hb
        exact notI _ _ eo hb]
      exact e
    have hlo4 := notC _ _ hlo fun v e => by rw [hio.2] at e; cases e
    have hr4 := notC _ _ hr fun v e => nomatch e
    have hP4 : ∀ b x, V2.lookup b = some x → ∃ y, (putW V3 (L + 1 + 1 + 1 + 1) o4).lookup b = some y := fun b x e => by
      by_cases q : b = L + 1 + 1 + 1 + 1
      · exact ⟨o4, by rw [look_put (by rw [ed]; rfl), if_pos q]⟩
      · exact ⟨x, by rw [look_put (by rw [ed]; rfl), if_neg q]; exact k3 _ _ e⟩
    generalize putW V3 (L + 1 + 1 + 1 + 1) o4 = V4 at N4 lwC hI4 hlo4 hr4 hP4
    clear F3 N3 notC ed dd lwB hI3 k3
    have F' := F4
    have N' := N4
    clear F4 N4
    obtain ⟨of4, c2', d2'⟩ := lwC.cf
    obtain ⟨or4, c3', d3'⟩ := lwC.cr
    k_steps
    unfold Stop
    have K4 : ∀ {it2 D2 Cc : Addr} {V5 V6 : List (Addr × Obj)}, (∀ p ∈ V4, p.1 ≠ it2 ∧ p.1 ≠ D2 ∧ p.1 ≠ Cc) → (∀ b x, b ≠ it2 → b ≠ D2 → b ≠ Cc → V5.lookup b = some x → V6.lookup b = some x) → ∀ b y x, V4.lookup b = some y → V5.lookup b = some x → V6.lookup b = some x := fun hap hk b y x e4 e5 => by
      have z := hap _ (look_mem e4)
      exact hk b x z.1 z.2.1 z.2.2 e5
    refine compGen (iterList (l := lf) (vs := refs Tn)) (fun j vs V5 => ∃ kvs, Ign w V5 G kvs ∧ kvs.length ≤ j + 1 ∧ LW V5 (Ro ++ Z) L (some (.ref sc)) (some (.ref lf)) (some (.ref lr)) (some (.ref G.s)) none ∧ V5.lookup lr = some (listOf (refs Ro).toArray kr) ∧ V5.lookup it = some o ∧ RowV (at' F i).1 vs (F.take j))
      selfList hh (by decide) rfl (by decide) (by omega) F' N' lwC.nd ?_ ?_ ?_ ?_ ?_
    · intro j vs V5 h5 hx9; obtain ⟨kv5, _, _, lw5, _⟩ := hx9; intro _ N5
      refine ⟨_, nget N5 (lw5.z _ (List.mem_append_right _ zf)), rfl, 0, rfl⟩
    · refine ⟨kvs, hI4, by rw [hkl]; exact Nat.le_refl _, lwC, hr4, hlo4, .nil⟩
    · intro it2 D2 Cc hap2 j vs V5 V6 nd6 hk hx9; obtain ⟨kv5, hI5, hk5, lw5, hr5, hlo5, rv⟩ := hx9
      refine ⟨kv5, hI5.mono2 nd6 (fun b x hb e => by
        obtain ⟨y, ey⟩ := hI4.has hb
        exact K4 hap2 hk _ _ _ ey e), hk5, lw5.comp lwC hap2 nd6 (fun b x hb e => hk b x hb.1 hb.2.1 hb.2.2 e), K4 hap2 hk _ _ _ hr4 hr5, K4 hap2 hk _ _ _ hlo4 hlo5, rv⟩
    · intro j v vs V5 h5 tk5 it2 oi2 D2 nD2 Cc oC m hj hv2 hx9; obtain ⟨kv5, hI5, hk5, lw5, hr5, hlo5, rv⟩ := hx9; intro hvl F5 N5 nd5 hap2 hlo2 hlD2 hlC hm hmx
      clear F' N' c2' d2' c3' d3'
      have F' := F5
      have N' := N5
      clear F5 N5
      have hjF : j < F.length := by omega
      obtain ⟨tb, u1, u2, htb⟩ := pt.at (at_get hjF)
      have hvb := refs_at htb
      rw [hv2] at hvb
      cases hvb
      have hTb : V5.lookup tb = some (tupObj [.str (at' F j).1 u1, .int ((at' F j).2 : Int) u2]) := lw5.z _ (List.mem_append_right _ (zT _ (List.mem_of_getElem? htb)))
      obtain ⟨od5, c4', d4'⟩ := lw5.cd
      have hmj := hnm _ (at_mem hjF)
      have hmi := hnm _ (at_mem hiF)
      k_steps
      have gone : ∀ b, (∀ p ∈ V4, p.1 ≠ b) → iP G b = false := fun b hb => iP_no fun q => by
        obtain ⟨y, ey⟩ := hI4.has q
        exact hb _ (look_mem ey) rfl
      refine wpAny_call (names_ok (W := inP (iP G) V5) X' T' (fun b o e => F'.keep b o e) hh (by omega) (by omega) (fun p hp => (N' p (inP_sub p hp).1).1) (fun p hp => (N' p (inP_sub p hp).1).2.2) hI5.inP (by omega) (by rw [hGx, show (Str.ofString ".").length = 1 from by decide]; exact sz_ok (by omega)) hmj.2 fun h6 tk6 W6 kv6 t6 kp6 hW6 fr6 hI6 hk6 => ?_)
      obtain ⟨V6, F6, N6, nd6, L6, O6⟩ := after_P F' N' nd5 kp6 hW6 fr6 hI6.nd
      clear F' N'
      have hIn : Ign w V6 G kv6 := hI6.mono2 nd6 fun b x _ e => L6 _ _ e
      refine ⟨V6, h6, tk6, rfl, F6, N6, nd6, O6 _ _ (gone _ fun p hp => (hap2 p hp).1) hlo2, O6 _ _ (gone _ fun p hp => (hap2 p hp).2.1) hlD2, ⟨oC, m, O6 _ _ (gone _ fun p hp => (hap2 p hp).2.2) hlC, hm⟩, kv6, hIn, by omega, ?_, O6 _ _ (iP_no (notI _ _ hr)) hr5, O6 _ _ (iP_no (notI _ _ hlo)) hlo5, ?_⟩
      · exact lw5.via (P := fun b => ¬ IAddr G b) lw2 notI nd6 fun b x hb e => O6 _ _ (iP_no hb) e
      · have : F.take (j + 1) = F.take j ++ [at' F j] := by rw [List.take_add_one, at_get hjF]; rfl
        rw [this]
        refine rv.append ?_
        rw [← hGx]
        exact .cons .nil
    · intro vs V5 h5 tk5 D2 nD2 hx9; obtain ⟨kv5, hI5, hk5, lw5, hr5, hlo5, rv⟩ := hx9; intro F5 N5 nd5 hlD2 hapD2
      clear F' N' c2' d2' c3' d3'
      have F' := F5
      have N' := N5
      clear F5 N5
      rw [hrl, List.take_of_length_le (Nat.le_refl _)] at rv
      have hrol : (refs Ro).length ≤ 39 := by rw [List.length_map, rt.length, List.length_take]; omega
      have neD : D2 ≠ lr := fun q => hapD2 _ (look_mem hr4) q.symm
      k_steps
      have itlr : it ≠ lr := fun q => by
        rw [q, hr] at hlo; cases hlo
        exact absurd hio.1 (by simp)
      have htake : F.take (i + 1) = F.take i ++ [at' F i] := by rw [List.take_add_one, at_get hiF]; rfl
      refine ⟨_, W', h', _, rfl, F', N', nW', by rw [hB' _ itlr]; exact hlo5, _, _, some (.ref G.s), Ro ++ [(D2, listOf vs.toArray nD2)], kr + 1, rfl, ?_, ?_, fun q hq => ?_, ?_⟩
      · have lw6 := (lw5.addL hlD2).sub (Z' := (Ro ++ [(D2, listOf vs.toArray nD2)]) ++ Z) fun q hq => by
          rcases List.mem_append.mp hq with hq | hq
          · rcases List.mem_append.mp hq with hq | hq
            · exact .tail _ (List.mem_append_left _ hq)
            · rw [List.mem_singleton] at hq; subst hq; exact .head _
          · exact .tail _ (List.mem_append_right _ hq)
        refine lw6.keep nW' hr5 (fun _ e => nomatch e) (fun q hq => ?_) fun b x hb e => by rw [hB' _ hb]; exact e
        rcases List.mem_append.mp hq with hq | hq
        · rcases List.mem_append.mp hq with hq | hq
          · exact har q (List.mem_append_left _ hq)
          · rw [List.mem_singleton] at hq; subst hq; exact neD
        · exact har q (List.mem_append_right _ hq)
      · rw [hA']; unfold refs; rw [List.map_append]; rfl
      · rcases List.mem_append.mp hq with hq | hq
        · rcases List.mem_append.mp hq with hq | hq
          · exact har q (List.mem_append_left _ hq)
          · rw [List.mem_singleton] at hq; subst hq; exact neD
        · exact har q (List.mem_append_right _ hq)
      · rw [htake]; exact rt.append (.cons rv .nil)
  · intro fl V2 h2 tk2 hx9; obtain ⟨o1, o2, vd, Ro, kr, rfl, lw2, hr, har, rt⟩ := hx9; intro F2 N2 nd2
    rw [hrl, List.take_of_length_le (Nat.le_refl _)] at rt
    exact hnext h2 _ V2 o1 o2 vd Ro kr F2 N2 rt lw2 hr har
  · exact fun s Q E i it o v ho hi hv h => by
      obtain ⟨j, hj⟩ := hv
      obtain ⟨q, hq, e⟩ := List.mem_map.mp (List.mem_of_getElem? hj)
      subst e
      exact goList s Q E i it o q.1 ho hi h
theorem all : ∀ y, P_ y := @pick_all _ _ P_ (by with_unfolding_all exact core)
end law_s3_
theorem law_s3 {w A s g L sc V h tk Q loose mean mg mb p D la lp lf lr tv tn ok osh tz Tn F tops} : law_s3_.Q_ w A s g L sc V h tk Q loose mean mg mb p D la lp lf lr tv tn ok osh tz Tn F tops := @law_s3_.all (w, A, s, g, L, sc, V, h, tk, Q, loose, mean, mg, mb, p, D, la, lp, lf, lr, tv, tn, ok, osh, tz, Tn, F, tops)
end
theorem kz_zm_s3 : True := by
  k_with "zm_s3" => skip
  trivial
theorem kl_zm_s4 : True := by
  k_with "lia" => ((fail_if_success k_extra "zm_s4"); lia)
  trivial
/-! the law, fourth part: no row bears a bool; the depths; the sorter -/
section
theorem kw_zm_s4 : True := by
  k_with "execs cons" => ((fail_if_success k_extra "zm_s4"); (with_reducible show wpAny _ _ (execs (Stmt.For _ _ _ _ _ :: _) _) _ _ _); refine stop_here ?_)
  k_with "eval Name" => ((fail_if_success k_extra "zm_s4"); k_here; (with_reducible show wpAny _ _ (eval (Expr.Name _ _) (lawEnv _ _)) _ _ _); k_dflt (refine' ldXC ?z1 ?z2 ?z3 ?z4 ?_ ?z5 ?z6 ?z7; (case z1 => assumption); (case z2 => rfl); (case z3 => assumption); (case z4 => assumption); (case z5 => rfl); (case z6 => rfl); (case z7 => decide); k_whole))
  k_with "eval Name" => ((fail_if_success k_extra "zm_s4"); k_here; (with_reducible show wpAny _ _ (eval (Expr.Name _ _) (compEnvC _ _ _ _)) _ _ _); k_dflt (refine' ldCC ?z1 ?z2 ?z3 ?z4 ?_ ?z5 ?z6 ?z7; (case z1 => assumption); (case z2 => rfl); (case z3 => assumption); (case z4 => assumption); (case z5 => rfl); (case z6 => rfl); (case z7 => decide); k_whole))
  k_with "eval ListComp" => ((fail_if_success k_extra "zm_s4"); k_here; k_dflt (first | ((with_reducible show wpAny _ _ (eval (Expr.ListComp _ [_] _ _) _) _ _ _); refine' evalComp ?z1 ?z2 ?z3 ?_; (case z1 => with_unfolding_all rfl); (case z2 => rfl); (case z3 => decide); k_whole) | ((with_reducible show wpAny _ _ (eval (Expr.ListComp _ [_, _] _ _) _) _ _ _); refine' evalComp2 ?z1 ?z2 ?z3 ?_; (case z1 => with_unfolding_all rfl); (case z2 => rfl); (case z3 => decide); k_whole)))
  k_with "compareOp NotEq" => ((fail_if_success k_extra "zm_s4"); k_here; k_dflt (refine' neNil0 ?z4 ?z1 ?z2 ?z3 ?_; (case z4 => assumption); (case z1 => assumption); (case z2 => assumption); (case z3 => omega); k_whole); intro F' N'; (try dsimp only at F' N'))
  k_with "call type:range" => ((fail_if_success k_extra "zm_s4"); k_here; k_dflt (refine' callRange ?z1 ?z2 ?_; (case z1 => assumption); (case z2 => assumption); k_whole); intro r' h' t' u' v' tk' F' N' nr'; (try dsimp only at F' N'))
  k_with "exec Assign cons ListComp" => ((fail_if_success k_extra "zm_s4"); k_here; k_dflt (refine' assignComp ?z1 ?z2 ?z3 ?z4 ?_; (case z1 => with_unfolding_all rfl); (case z2 => with_unfolding_all rfl); (case z3 => rfl); (case z4 => decide); k_whole))
  k_with "subscriptTail" => ((fail_if_success k_extra "zm_s4"); k_here; (with_reducible show wpAny _ _ (subscriptTail _ _ (Value.ref _) (Value.int (Nat.cast _) _)) _ _ _); k_dflt (refine' rdW ?z1 ?z2 ?z3 ?z4 ?_; (case z1 => assumption); (case z2 => assumption); (case z3 => assumption); (case z4 => omega); k_whole))
  k_with "call builtin:sum" => ((fail_if_success k_extra "zm_s4"); k_here; k_dflt (refine' sumL ?z1 ?z2 ?z3 ?z4 ?z5 ?_; (case z1 => assumption); (case z2 => assumption); (case z3 => assumption); (case z4 => assumption); (case z5 => assumption); k_whole); intro h' tk' t' F' N'; (try dsimp only at F' N'))
  trivial
namespace law_s4_
def Q_ (w : World) (A : Around) (s : Shared) (g : Heap) (L : Addr) (sc : Addr) (V : List (Addr × Obj)) (h : Heap) (tk : Nat) (Q : Flow → Shared → Prop) (loose : List Str) (mean : ExcName → Option Value) (mg : Str → Option Value) (mb : Str → Option Value) (p : Program) (D : Addr) (la : Addr) (lp : Addr) (lf : Addr) (lr : Addr) (tv : List Value) (tn : Nat) (kr : Nat) (ok : Option Value) (osh : Option Value) (o1 : Option Value) (o2 : Option Value) (vd : Option Value) (tz : Tok) (Tn : List (Addr × Obj)) (Ro : List (Addr × Obj)) (F : List NT) (tops : List Nat) : Prop := ∀ {body : List Stmt} {scope : Scope} (hb : LawFn w body scope) (X' : (hd.heap_1 w.params).In g) (T' : Top p loose mean mg mb g) (hh : A.handled = none) (hroom : A.depth ≤ 303) (hun : A.units ≤ 20) (ns' : (scope.names.map (·.1)).Nodup) (F' : Fr g L h (fv ([("k", ok), ("numbers", some (.ref D)), ("one", none), ("tops", some (.ref la)), ("planted", some (.ref lp)), ("size", some (.int (F.length : Int) tz)), ("shift", osh), ("name", o1), ("number", o2), ("deep", none), ("sorter", none), ("told", none), ("course", none), ("whole", none), ("drawn", none)] : List (Str × Option Value)))) (N' : News g L h V) (good : Good F tops tops.length) (ht3 : tops.length ≤ 3) (pt : PT Tn F) (rt : RT F Ro F) (lw : LW V (Ro ++ (lf, listOf (refs Tn).toArray 0) :: (la, listOf tv.toArray tn) :: Tn) L (some (.ref sc)) (some (.ref lf)) (some (.ref lr)) vd none) (hlr : V.lookup lr = some (listOf (refs Ro).toArray kr)) (hnext : ∀ h tk V ld dvs kd S, Fr g L h (fv ([("k", ok), ("numbers", some (.ref D)), ("one", none), ("tops", some (.ref la)), ("planted", some (.ref lp)), ("size", some (.int (F.length : Int) tz)), ("shift", osh), ("name", o1), ("number", o2), ("deep", some (.ref ld)), ("sorter", some (.ref S.s)), ("told", none), ("course", none), ("whole", none), ("drawn", none)] : List (Str × Option Value))) → News g L h V →
      LW V ((ld, listOf dvs.toArray kd) :: (lr, listOf (refs Ro).toArray kr) :: (Ro ++ (lf, listOf (refs Tn).toArray 0) :: (la, listOf tv.toArray tn) :: Tn)) L (some (.ref sc)) (some (.ref lf)) (some (.ref lr)) vd none → IV dvs ((List.range F.length).map (dF F)) →
      (∀ b, LAd ((ld, listOf dvs.toArray kd) :: (lr, listOf (refs Ro).toArray kr) :: (Ro ++ (lf, listOf (refs Tn).toArray 0) :: (la, listOf tv.toArray tn) :: Tn)) L b → ¬ SAddr S b) → S.nodes = [] → S.rd = none → S.ready = [] → S.po = 0 → S.nf = 0 → (∀ y, S.np y = 0 ∧ S.succ y = []) → Srt w V S →
      wpAny (model PG w) A (execs (body.drop 12) (lawEnv scope L)) Q (fun _ _ => False) { s with heap := h, toks := tk }), wpAny (model PG w) A (execs (body.drop 9) (lawEnv scope L)) Q (fun _ _ => False) { s with heap := h, toks := tk }
noncomputable section
def P_ (x : World × Around × Shared × Heap × Addr × Addr × (List (Addr × Obj)) × Heap × Nat × (Flow → Shared → Prop) × (List Str) × (ExcName → Option Value) × (Str → Option Value) × (Str → Option Value) × Program × Addr × Addr × Addr × Addr × Addr × (List Value) × Nat × Nat × (Option Value) × (Option Value) × (Option Value) × (Option Value) × (Option Value) × Tok × (List (Addr × Obj)) × (List (Addr × Obj)) × (List NT) × (List Nat)) : Prop := Q_ x.1 x.2.1 x.2.2.1 x.2.2.2.1 x.2.2.2.2.1 x.2.2.2.2.2.1 x.2.2.2.2.2.2.1 x.2.2.2.2.2.2.2.1 x.2.2.2.2.2.2.2.2.1 x.2.2.2.2.2.2.2.2.2.1 x.2.2.2.2.2.2.2.2.2.2.1 x.2.2.2.2.2.2.2.2.2.2.2.1 x.2.2.2.2.2.2.2.2.2.2.2.2.1 x.2.2.2.2.2.2.2.2.2.2.2.2.2.1 x.2.2.2.2.2.2.2.2.2.2.2.2.2.2.1 x.2.2.2.2.2.2.2.2.2.2.2.2.2.2.2.1 x.2.2.2.2.2.2.2.2.2.2.2.2.2.2.2.2.1 x.2.2.2.2.2.2.2.2.2.2.2.2.2.2.2.2.2.1 x.2.2.2.2.2.2.2.2.2.2.2.2.2.2.2.2.2.2.1 x.2.2.2.2.2.2.2.2.2.2.2.2.2.2.2.2.2.2.2.1 x.2.2.2.2.2.2.2.2.2.2.2.2.2.2.2.2.2.2.2.2.1 x.2.2.2.2.2.2.2.2.2.2.2.2.2.2.2.2.2.2.2.2.2.1 x.2.2.2.2.2.2.2.2.2.2.2.2.2.2.2.2.2.2.2.2.2.2.1 x.2.2.2.2.2.2.2.2.2.2.2.2.2.2.2.2.2.2.2.2.2.2.2.1 x.2.2.2.2.2.2.2.2.2.2.2.2.2.2.2.2.2.2.2.2.2.2.2.2.1 x.2.2.2.2.2.2.2.2.2.2.2.2.2.2.2.2.2.2.2.2.2.2.2.2.2.1 x.2.2.2.2.2.2.2.2.2.2.2.2.2.2.2.2.2.2.2.2.2.2.2.2.2.2.1 x.2.2.2.2.2.2.2.2.2.2.2.2.2.2.2.2.2.2.2.2.2.2.2.2.2.2.2.1 x.2.2.2.2.2.2.2.2.2.2.2.2.2.2.2.2.2.2.2.2.2.2.2.2.2.2.2.2.1 x.2.2.2.2.2.2.2.2.2.2.2.2.2.2.2.2.2.2.2.2.2.2.2.2.2.2.2.2.2.1 x.2.2.2.2.2.2.2.2.2.2.2.2.2.2.2.2.2.2.2.2.2.2.2.2.2.2.2.2.2.2.1 x.2.2.2.2.2.2.2.2.2.2.2.2.2.2.2.2.2.2.2.2.2.2.2.2.2.2.2.2.2.2.2.1 x.2.2.2.2.2.2.2.2.2.2.2.2.2.2.2.2.2.2.2.2.2.2.2.2.2.2.2.2.2.2.2.2
def x_ := pick (dW, callerA, ({} : Shared), default, default, default, default, default, default, default, default, default, default, default, PG, default, default, default, default, default, default, default, default, default, default, default, default, default, default, default, default, default, default) fun x => ¬ P_ x
@[irreducible] def w := x_.1
@[irreducible] def A := x_.2.1
@[irreducible] def s := x_.2.2.1
@[irreducible] def g := x_.2.2.2.1
@[irreducible] def L := x_.2.2.2.2.1
@[irreducible] def sc := x_.2.2.2.2.2.1
@[irreducible] def V := x_.2.2.2.2.2.2.1
@[irreducible] def h := x_.2.2.2.2.2.2.2.1
@[irreducible] def tk := x_.2.2.2.2.2.2.2.2.1
@[irreducible] def Q := x_.2.2.2.2.2.2.2.2.2.1
@[irreducible] def loose := x_.2.2.2.2.2.2.2.2.2.2.1
@[irreducible] def mean := x_.2.2.2.2.2.2.2.2.2.2.2.1
@[irreducible] def mg := x_.2.2.2.2.2.2.2.2.2.2.2.2.1
@[irreducible] def mb := x_.2.2.2.2.2.2.2.2.2.2.2.2.2.1
@[irreducible] def p := x_.2.2.2.2.2.2.2.2.2.2.2.2.2.2.1
@[irreducible] def D := x_.2.2.2.2.2.2.2.2.2.2.2.2.2.2.2.1
@[irreducible] def la := x_.2.2.2.2.2.2.2.2.2.2.2.2.2.2.2.2.1
@[irreducible] def lp := x_.2.2.2.2.2.2.2.2.2.2.2.2.2.2.2.2.2.1
@[irreducible] def lf := x_.2.2.2.2.2.2.2.2.2.2.2.2.2.2.2.2.2.2.1
@[irreducible] def lr := x_.2.2.2.2.2.2.2.2.2.2.2.2.2.2.2.2.2.2.2.1
@[irreducible] def tv := x_.2.2.2.2.2.2.2.2.2.2.2.2.2.2.2.2.2.2.2.2.1
@[irreducible] def tn := x_.2.2.2.2.2.2.2.2.2.2.2.2.2.2.2.2.2.2.2.2.2.1
@[irreducible] def kr := x_.2.2.2.2.2.2.2.2.2.2.2.2.2.2.2.2.2.2.2.2.2.2.1
@[irreducible] def ok := x_.2.2.2.2.2.2.2.2.2.2.2.2.2.2.2.2.2.2.2.2.2.2.2.1
@[irreducible] def osh := x_.2.2.2.2.2.2.2.2.2.2.2.2.2.2.2.2.2.2.2.2.2.2.2.2.1
@[irreducible] def o1 := x_.2.2.2.2.2.2.2.2.2.2.2.2.2.2.2.2.2.2.2.2.2.2.2.2.2.1
@[irreducible] def o2 := x_.2.2.2.2.2.2.2.2.2.2.2.2.2.2.2.2.2.2.2.2.2.2.2.2.2.2.1
@[irreducible] def vd := x_.2.2.2.2.2.2.2.2.2.2.2.2.2.2.2.2.2.2.2.2.2.2.2.2.2.2.2.1
@[irreducible] def tz := x_.2.2.2.2.2.2.2.2.2.2.2.2.2.2.2.2.2.2.2.2.2.2.2.2.2.2.2.2.1
@[irreducible] def Tn := x_.2.2.2.2.2.2.2.2.2.2.2.2.2.2.2.2.2.2.2.2.2.2.2.2.2.2.2.2.2.1
@[irreducible] def Ro := x_.2.2.2.2.2.2.2.2.2.2.2.2.2.2.2.2.2.2.2.2.2.2.2.2.2.2.2.2.2.2.1
@[irreducible] def F := x_.2.2.2.2.2.2.2.2.2.2.2.2.2.2.2.2.2.2.2.2.2.2.2.2.2.2.2.2.2.2.2.1
@[irreducible] def tops := x_.2.2.2.2.2.2.2.2.2.2.2.2.2.2.2.2.2.2.2.2.2.2.2.2.2.2.2.2.2.2.2.2
end
set_option maxHeartbeats 2000000 in
theorem core : Q_ w A s g L sc V h tk Q loose mean mg mb p D la lp lf lr tv tn kr ok osh o1 o2 vd tz Tn Ro F tops := by
  intro body scope hb X' T' hh hroom hun ns' F' N' good ht3 pt rt lw hlr hnext
  have hr1 : A.depth + 60 < recursionLimit := Nat.lt_of_le_of_lt (Nat.add_le_add_right hroom 60) (by decide)
  have hu1 : A.units + 60 < cLine := Nat.lt_of_le_of_lt (Nat.add_le_add_right hun 60) (by decide)
  have low : Low A := ⟨hh, by omega, by omega⟩
  obtain ⟨oc, od, name, params, dV, kV, doc, pm, an, cdv, ct, osl, e⟩ := hb
  rw [show (hd.heap_1 w.params).lookup 269 = some _ from by k_is] at e
  cases e
  simp only [List.drop] at hnext ⊢
  have nd' : (List.map (fun x : Str × Option Value => x.fst) [("k", ok), ("numbers", some (.ref D)), ("one", none), ("tops", some (.ref la)), ("planted", some (.ref lp)), ("size", some (.int (F.length : Int) tz)), ("shift", osh), ("name", o1), ("number", o2), ("deep", none), ("sorter", none), ("told", none), ("course", none), ("whole", none), ("drawn", none)]).Nodup := of_decide_eq_true (by kernel_rfl)
  have hfl : F.length ≤ 39 := by have := good.len; omega
  have hrl : (refs Ro).length = F.length := by rw [List.length_map, rt.length]
  obtain ⟨or4, c3', d3'⟩ := lw.cr
  refine wpAny_execs_cons ?_
  k_steps
  unfold Stop
  have zs : Seqs ((lf, listOf (refs Tn).toArray 0) :: (la, listOf tv.toArray tn) :: Tn) := pt.seqs.cons.cons
  generalize hZ : (lf, listOf (refs Tn).toArray 0) :: (la, listOf tv.toArray tn) :: Tn = Z at lw hnext zs
  have lw0 := lw.addL hlr
  refine comp2Gen (P := fun v => ∃ (i : Int) (t : Tok), v = .int i t) (rv := refs Ro) (fun V2 => LW V2 ((lr, listOf (refs Ro).toArray kr) :: (Ro ++ Z)) L (some (.ref sc)) (some (.ref lf)) (some (.ref lr)) vd none) hh (by decide) rfl (by decide) (by decide) (by decide) (by omega) F' N' lw.nd ⟨kr, fun V2 h2 => h2.look⟩ (fun v hv => ?_) lw0 (fun V2 V3 nd3 hk h2 => ?_) (fun v V2 h2 tk2 Cc oC m hPv F2 N2 hlC hm hmx => ?_) fun V2 h2 tk2 D2 nD2 lw2 F2 N2 nd2 hlD2 hapD2 => ?_
  · obtain ⟨q, hq, rfl⟩ := List.mem_map.mp hv
    obtain ⟨x, hx⟩ := List.getElem?_of_mem hq
    have hxF : x < F.length := by have := (List.getElem?_eq_some_iff.mp hx).1; rw [← rt.length]; exact this
    obtain ⟨a, cs, k, ha, hrv⟩ := rt.at (at_get hxF)
    rw [hx] at ha; cases ha
    refine ⟨a, cs, k, rfl, fun V2 h2 => h2.z _ (.tail _ (List.mem_append_left _ hq)), by rw [hrv.length]; omega, hrv.ints⟩
  · exact h2.via (P := fun b => ∃ p ∈ V, p.1 = b) lw0 (fun b o e => ⟨_, look_mem e, rfl⟩) nd3 hk
  · obtain ⟨i, t, rfl⟩ := hPv
    clear F' N' c3' d3'
    have F' := F2
    have N' := N2
    clear F2 N2
    k_steps
  · clear F' N' c3' d3'
    have F' := F2
    have N' := N2
    clear F2 N2
    obtain ⟨or4, c3', d3'⟩ := lw2.cr
    k_steps
    unfold Stop
    have lw3 := (lw2.push (o := rangeObj (F.length : Nat) t' u' v') nr').addR (a := r') (by rw [look_cons, if_pos rfl])
    refine compGenY (iterRange (r := r') (n := F.length) (by omega)) (fl' := fun D2 => [("k", ok), ("numbers", some (.ref D)), ("one", none), ("tops", some (.ref la)), ("planted", some (.ref lp)), ("size", some (.int (F.length : Int) tz)), ("shift", osh), ("name", o1), ("number", o2), ("deep", some (.ref D2)), ("sorter", none), ("told", none), ("course", none), ("whole", none), ("drawn", none)])
      (fun i vs V3 => LW V3 ((r', rangeObj (F.length : Nat) t' u' v') :: (lr, listOf (refs Ro).toArray kr) :: (Ro ++ Z)) L (some (.ref sc)) (some (.ref lf)) (some (.ref lr)) vd none ∧ IV vs ((List.range i).map (dF F)))
      selfRange nd' ns' (fun D2 => .tail (.tail (.tail (.tail (.tail (.tail (.tail (.tail (.tail .head))))))))) (by decide) rfl hh rfl (by decide) rfl (by omega) F' N' lw3.nd ?_ ?_ ?_ ?_ ?_
    · rintro i vs V3 h3 ⟨lwa, _⟩ _ N3
      exact ⟨_, _, _, nget N3 lwa.look⟩
    · exact ⟨lw3, .nil⟩
    · rintro it3 D3 C3 Cy3 hap i vs V3 V4 nd4 hk ⟨lwa, hiv⟩
      exact ⟨lwa.viaW lw3 nd4 (fun b o ⟨p, hp, hb⟩ e => hk b o (by rw [← hb]; exact hap p hp) e), hiv⟩
    · rintro y v vs V3 h3 tk3 it3 o3 D3 nD3 C3 oC3 m3 Cy oy hy ⟨ty, rfl⟩ ⟨lwa, hiv⟩ hvl F3 N3 nd3 hap hlo3 hlD3 hlC3 hm3 hly hdy
      clear F' N' nd' c3' d3'
      have F' := F3
      have N' := N3
      clear F3 N3
      obtain ⟨or5, c3', d3'⟩ := lwa.cr
      k_steps
      unfold Stop
      have K4 : ∀ {it2 D2 Cc : Addr} {V5 V6 : List (Addr × Obj)}, (∀ p ∈ V3, p.1 ≠ it2 ∧ p.1 ≠ D2 ∧ p.1 ≠ Cc) → (∀ b x, b ≠ it2 → b ≠ D2 → b ≠ Cc → V5.lookup b = some x → V6.lookup b = some x) → ∀ b y x, V3.lookup b = some y → V5.lookup b = some x → V6.lookup b = some x := fun hap hk b y x e4 e5 => by
        have z := hap _ (look_mem e4)
        exact hk b x z.1 z.2.1 z.2.2 e5
      refine compGen (iterList (l := lr) (vs := refs Ro)) (fun j vs2 V4 => LW V4 ((r', rangeObj (F.length : Nat) t' u' v') :: (lr, listOf (refs Ro).toArray kr) :: (Ro ++ Z)) L (some (.ref sc)) (some (.ref lf)) (some (.ref lr)) vd none ∧
        V4.lookup it3 = some o3 ∧ V4.lookup D3 = some (listOf vs.toArray nD3) ∧ V4.lookup C3 = some oC3 ∧ V4.lookup Cy = some oy ∧ IV vs2 ((F.take j).map fun e => if hit e.1 (at' F y).1 then 1 else 0))
        selfList hh (by decide) rfl (by decide) (by omega) F' N' nd3 ?_ ?_ ?_ ?_ ?_
      · rintro j vs2 V4 h4 ⟨lwb, _⟩ _ N4
        refine ⟨_, nget N4 lwb.drop.look, rfl, kr, rfl⟩
      · refine ⟨lwa, hlo3, hlD3, hlC3, hly, .nil⟩
      · intro it2 D2 Cc hap2 j vs2 V5 V6 nd6 hk hx9; obtain ⟨lwb, q1, q2, q3, q4, iv⟩ := hx9
        refine ⟨lwb.viaW lwa nd6 (fun b o ⟨p, hp, hb⟩ e => by
          have z := hap2 p hp
          rw [hb] at z
          exact hk b o z.1 z.2.1 z.2.2 e), K4 hap2 hk _ _ _ hlo3 q1, K4 hap2 hk _ _ _ hlD3 q2, K4 hap2 hk _ _ _ hlC3 q3, K4 hap2 hk _ _ _ hly q4, iv⟩
      · intro j v vs2 V4 h4 tk4 it4 o4 D4 nD4 C4 oC4 m4 hj hv hx9; obtain ⟨lwb, q1, q2, q3, q4, iv⟩ := hx9; intro hvl4 F4 N4 nd4 hap4 hlo4 hlD4 hlC4 hm4 hmx4
        clear F' N' c3' d3'
        have F' := F4
        have N' := N4
        clear F4 N4
        have hjF : j < F.length := by omega
        obtain ⟨ra, cs, kc, hra, hrv⟩ := rt.at (at_get hjF)
        have hvr := refs_at hra
        rw [hv] at hvr
        cases hvr
        have hRa : V4.lookup ra = some (listOf cs.toArray kc) := lwb.z _ (.tail _ (.tail _ (List.mem_append_left _ (List.mem_of_getElem? hra))))
        obtain ⟨tc, hcy⟩ := hrv.at (at_get hy)
        have hcl := hrv.length
        k_steps
        refine ⟨V4, h4, _, rfl, F', N', nd4, hlo4, hlD4, ⟨oC4, m4, hlC4, hm4⟩, lwb, q1, q2, q3, q4, ?_⟩
        have htk : F.take (j + 1) = F.take j ++ [at' F j] := by rw [List.take_add_one, at_get hjF]; rfl
        rw [htk, List.map_append]
        refine iv.append ?_
        have : (if hit (at' F j).1 (at' F y).1 = true then (1 : Int) else 0) = (((if hit (at' F j).1 (at' F y).1 = true then 1 else 0 : Nat)) : Int) := by split <;> rfl
        rw [this]
        exact .cons .nil
      · intro vs2 V4 h4 tk4 D4 nD4 hx9; obtain ⟨lwb, q1, q2, q3, q4, iv⟩ := hx9; intro F4 N4 nd4 hlD4 hapD4
        clear F' N' c3' d3'
        have F' := F4
        have N' := N4
        clear F4 N4
        rw [hrl, List.take_of_length_le (Nat.le_refl _)] at iv
        have ivi := iv.ints
        k_steps
        refine ⟨V4, h', _, rfl, F', N', nd4, q1, q2, ⟨⟨oC3, m3, q3, hm3⟩, oy, _, q4, hdy⟩, lwb, ?_⟩
        rw [cnt_sum, List.range_succ, List.map_append]
        exact hiv.append (.cons .nil)
    · rintro vs V3 h3 tk3 D3 nD3 ⟨lwa, hiv⟩ F3 N3 nd3 hlD3 hapD3 nd3'
      clear F' N' nd' c3' d3'
      have F' := F3
      have N' := N3
      have nd' := nd3'
      clear F3 N3 nd3'
      k_steps
      show wpAny _ _ (call (.ref 172) []) _ _ _
      refine newSrt low F' X' T' N' nd3 fun S V5 h5 tk5 hn hr hrdy hpo hnf hnp hS hstd F5 N5 => ?_
      clear F' N'
      have F' := F5
      have N' := N5
      clear F5 N5
      have lwb := (lwa.drop.addL hlD3).std hS.nd hstd
      dsimp only
      k_steps
      unfold Stop
      exact hnext _ _ V5 D3 vs nD3 S F' N' lwb hiv (lwb.sep (rt.seqs.append zs).cons.cons hS hn hr) hn hr hrdy hpo hnf hnp hS
theorem all : ∀ y, P_ y := @pick_all _ _ P_ (by with_unfolding_all exact core)
end law_s4_
theorem law_s4 {w A s g L sc V h tk Q loose mean mg mb p D la lp lf lr tv tn kr ok osh o1 o2 vd tz Tn Ro F tops} : law_s4_.Q_ w A s g L sc V h tk Q loose mean mg mb p D la lp lf lr tv tn kr ok osh o1 o2 vd tz Tn Ro F tops := @law_s4_.all (w, A, s, g, L, sc, V, h, tk, Q, loose, mean, mg, mb, p, D, la, lp, lf, lr, tv, tn, kr, ok, osh, o1, o2, vd, tz, Tn, Ro, F, tops)
end
theorem kz_zm_s4 : True := by
  k_with "zm_s4" => skip
  trivial
theorem kl_zm_s5 : True := by
  k_with "lia" => ((fail_if_success k_extra "zm_s5"); lia)
  trivial
/-! the law, fifth part: the sorter is filled -/
theorem sameUp_one {p : Addr × Obj} {frs : List (Addr × Obj)} {h : Heap} (su : TI.SameUp [p] frs) (hf : ∀ q ∈ frs, h.get? q.1 = some q.2) : ∃ sl, h.get? p.1 = some { p.2 with slots := sl } := by
  cases frs with
  | nil => exact su.elim
  | cons q r =>
    obtain ⟨e1, ⟨sl, e2⟩, _⟩ := su
    have h1 := hf q (.head _)
    refine ⟨sl, ?_⟩
    rw [← e1, ← e2]; exact h1
section
theorem kw_zm_s5 : True := by
  k_with "execs cons" => ((fail_if_success k_extra "zm_s5"); (with_reducible show wpAny _ _ (execs (Stmt.Try _ _ _ _ _ :: _) _) _ _ _); refine stop_here ?_)
  k_with "eval Name" => ((fail_if_success k_extra "zm_s5"); k_here; (with_reducible show wpAny _ _ (eval (Expr.Name _ _) (lawEnv _ _)) _ _ _); k_dflt (refine' ldXC ?z1 ?z2 ?z3 ?z4 ?_ ?z5 ?z6 ?z7; (case z1 => assumption); (case z2 => rfl); (case z3 => assumption); (case z4 => assumption); (case z5 => rfl); (case z6 => rfl); (case z7 => decide); k_whole))
  k_with "eval Name" => ((fail_if_success k_extra "zm_s5"); k_here; (with_reducible show wpAny _ _ (eval (Expr.Name _ _) (compEnvC _ _ _ _)) _ _ _); k_dflt (refine' ldCC ?z1 ?z2 ?z3 ?z4 ?_ ?z5 ?z6 ?z7; (case z1 => assumption); (case z2 => rfl); (case z3 => assumption); (case z4 => assumption); (case z5 => rfl); (case z6 => rfl); (case z7 => decide); k_whole))
  k_with "eval ListComp" => ((fail_if_success k_extra "zm_s5"); k_here; (with_reducible show wpAny _ _ (eval (Expr.ListComp _ [_] _ _) _) _ _ _); k_dflt (refine' evalComp ?z1 ?z2 ?z3 ?_; (case z1 => with_unfolding_all rfl); (case z2 => rfl); (case z3 => decide); k_whole))
  k_with "call type:range" => ((fail_if_success k_extra "zm_s5"); k_here; k_dflt (refine' callRange ?z1 ?z2 ?_; (case z1 => assumption); (case z2 => assumption); k_whole); intro r' h' t' u' v' tk' F' N' nr'; (try dsimp only at F' N'))
  k_with "subscriptTail" => ((fail_if_success k_extra "zm_s5"); k_here; (with_reducible show wpAny _ _ (subscriptTail _ _ (Value.ref _) (Value.int (Nat.cast _) _)) _ _ _); k_dflt (refine' rdK ?z1 ?z2 ?z3 ?z4 ?_; (case z1 => assumption); (case z2 => exact look_mem (by assumption)); (case z3 => assumption); (case z4 => omega); k_whole))
  k_with "getMethod ref" => ((fail_if_success k_extra "zm_s5"); k_here; k_dflt (first | (with_reducible show wpAny _ _ (getMethod (Value.ref _) (Str.ofString "add") _) _ _ _); refine' methAd ?z1 ?z2 ?z3 ?z4 ?z5 ?_; (case z1 => assumption); (case z2 => assumption); (case z3 => assumption); (case z4 => assumption); (case z5 => assumption); k_whole | (with_reducible show wpAny _ _ (getMethod (Value.ref _) (Str.ofString "prepare") _) _ _ _); refine' methPr ?z1 ?z2 ?z3 ?z4 ?z5 ?_; (case z1 => assumption); (case z2 => assumption); (case z3 => assumption); (case z4 => assumption); (case z5 => assumption); k_whole))
  trivial
namespace law_s5_
def Q_ (w : World) (A : Around) (s : Shared) (g : Heap) (L : Addr) (sc : Addr) (V : List (Addr × Obj)) (Z : List (Addr × Obj)) (h : Heap) (tk : Nat) (Q : Flow → Shared → Prop) (loose : List Str) (mean : ExcName → Option Value) (mg : Str → Option Value) (mb : Str → Option Value) (p : Program) (D : Addr) (la : Addr) (lp : Addr) (lf : Addr) (lr : Addr) (ld : Addr) (kr : Nat) (ok : Option Value) (osh : Option Value) (o1 : Option Value) (o2 : Option Value) (vd : Option Value) (tz : Tok) (Ro : List (Addr × Obj)) (F : List NT) (tops : List Nat) (S0 : SS) : Prop := ∀ {body : List Stmt} {scope : Scope} (hb : LawFn w body scope) (X' : (hd.heap_1 w.params).In g) (T' : Top p loose mean mg mb g) (hh : A.handled = none) (hfrm : A.frames = some [lawEnv scope L]) (hroom : A.depth ≤ 303) (hun : A.units ≤ 20) (ns' : (scope.names.map (·.1)).Nodup) (hsk : scope.kind ≠ .module) (F' : Fr g L h (fv ([("k", ok), ("numbers", some (.ref D)), ("one", none), ("tops", some (.ref la)), ("planted", some (.ref lp)), ("size", some (.int (F.length : Int) tz)), ("shift", osh), ("name", o1), ("number", o2), ("deep", some (.ref ld)), ("sorter", some (.ref S0.s)), ("told", none), ("course", none), ("whole", none), ("drawn", none)] : List (Str × Option Value)))) (N' : News g L h V) (good : Good F tops tops.length) (ht3 : tops.length ≤ 3) (rt : RT F Ro F) (lw : LW V Z L (some (.ref sc)) (some (.ref lf)) (some (.ref lr)) vd none) (zr : (lr, listOf (refs Ro).toArray kr) ∈ Z) (zro : ∀ q ∈ Ro, q ∈ Z) (sep : ∀ b, LAd Z L b → ¬ SAddr S0 b) (hn : S0.nodes = []) (hr : S0.rd = none) (hrdy : S0.ready = []) (hpo : S0.po = 0) (hnf : S0.nf = 0) (hnp : ∀ y, S0.np y = 0 ∧ S0.succ y = []) (hS : Srt w V S0) (hnext : ∀ h tk V lt vx S, Fr g L h (fv ([("k", ok), ("numbers", some (.ref D)), ("one", none), ("tops", some (.ref la)), ("planted", some (.ref lp)), ("size", some (.int (F.length : Int) tz)), ("shift", osh), ("name", o1), ("number", o2), ("deep", some (.ref ld)), ("sorter", some (.ref S0.s)), ("told", some (.ref lt)), ("course", none), ("whole", none), ("drawn", none)] : List (Str × Option Value))) → News g L h V → LW V Z L (some (.ref sc)) (some (.ref lf)) (some (.ref lr)) vd vx → Srt w V S → S.s = S0.s → (∃ rl, S.rd = some rl) → Mid F.length (mF F) S [] [] → S.po = S.nf → (∀ b, LAd Z L b → ¬ SAddr S b) →
      (∃ oT, V.lookup lt = some oT ∧ Told w oT (nF F) []) → (lt == sysModules) = false → ¬ SAddr S lt → (∀ b, LAd Z L b → b ≠ lt) → wpAny (model PG w) A (execs (body.drop 15) (lawEnv scope L)) Q (fun _ _ => False) { s with heap := h, toks := tk }), wpAny (model PG w) A (execs (body.drop 12) (lawEnv scope L)) Q (fun _ _ => False) { s with heap := h, toks := tk }
noncomputable section
def P_ (x : World × Around × Shared × Heap × Addr × Addr × (List (Addr × Obj)) × (List (Addr × Obj)) × Heap × Nat × (Flow → Shared → Prop) × (List Str) × (ExcName → Option Value) × (Str → Option Value) × (Str → Option Value) × Program × Addr × Addr × Addr × Addr × Addr × Addr × Nat × (Option Value) × (Option Value) × (Option Value) × (Option Value) × (Option Value) × Tok × (List (Addr × Obj)) × (List NT) × (List Nat) × SS) : Prop := Q_ x.1 x.2.1 x.2.2.1 x.2.2.2.1 x.2.2.2.2.1 x.2.2.2.2.2.1 x.2.2.2.2.2.2.1 x.2.2.2.2.2.2.2.1 x.2.2.2.2.2.2.2.2.1 x.2.2.2.2.2.2.2.2.2.1 x.2.2.2.2.2.2.2.2.2.2.1 x.2.2.2.2.2.2.2.2.2.2.2.1 x.2.2.2.2.2.2.2.2.2.2.2.2.1 x.2.2.2.2.2.2.2.2.2.2.2.2.2.1 x.2.2.2.2.2.2.2.2.2.2.2.2.2.2.1 x.2.2.2.2.2.2.2.2.2.2.2.2.2.2.2.1 x.2.2.2.2.2.2.2.2.2.2.2.2.2.2.2.2.1 x.2.2.2.2.2.2.2.2.2.2.2.2.2.2.2.2.2.1 x.2.2.2.2.2.2.2.2.2.2.2.2.2.2.2.2.2.2.1 x.2.2.2.2.2.2.2.2.2.2.2.2.2.2.2.2.2.2.2.1 x.2.2.2.2.2.2.2.2.2.2.2.2.2.2.2.2.2.2.2.2.1 x.2.2.2.2.2.2.2.2.2.2.2.2.2.2.2.2.2.2.2.2.2.1 x.2.2.2.2.2.2.2.2.2.2.2.2.2.2.2.2.2.2.2.2.2.2.1 x.2.2.2.2.2.2.2.2.2.2.2.2.2.2.2.2.2.2.2.2.2.2.2.1 x.2.2.2.2.2.2.2.2.2.2.2.2.2.2.2.2.2.2.2.2.2.2.2.2.1 x.2.2.2.2.2.2.2.2.2.2.2.2.2.2.2.2.2.2.2.2.2.2.2.2.2.1 x.2.2.2.2.2.2.2.2.2.2.2.2.2.2.2.2.2.2.2.2.2.2.2.2.2.2.1 x.2.2.2.2.2.2.2.2.2.2.2.2.2.2.2.2.2.2.2.2.2.2.2.2.2.2.2.1 x.2.2.2.2.2.2.2.2.2.2.2.2.2.2.2.2.2.2.2.2.2.2.2.2.2.2.2.2.1 x.2.2.2.2.2.2.2.2.2.2.2.2.2.2.2.2.2.2.2.2.2.2.2.2.2.2.2.2.2.1 x.2.2.2.2.2.2.2.2.2.2.2.2.2.2.2.2.2.2.2.2.2.2.2.2.2.2.2.2.2.2.1 x.2.2.2.2.2.2.2.2.2.2.2.2.2.2.2.2.2.2.2.2.2.2.2.2.2.2.2.2.2.2.2.1 x.2.2.2.2.2.2.2.2.2.2.2.2.2.2.2.2.2.2.2.2.2.2.2.2.2.2.2.2.2.2.2.2
def x_ := pick (dW, callerA, ({} : Shared), default, default, default, default, default, default, default, default, default, default, default, default, PG, default, default, default, default, default, default, default, default, default, default, default, default, default, default, default, default, (⟨0, 0, 0, none, [], [], 0, 0, fun _ => 0, fun _ => 0, fun _ => 0, fun _ => 0, fun _ => []⟩ : SS)) fun x => ¬ P_ x
@[irreducible] def w := x_.1
@[irreducible] def A := x_.2.1
@[irreducible] def s := x_.2.2.1
@[irreducible] def g := x_.2.2.2.1
@[irreducible] def L := x_.2.2.2.2.1
@[irreducible] def sc := x_.2.2.2.2.2.1
@[irreducible] def V := x_.2.2.2.2.2.2.1
@[irreducible] def Z := x_.2.2.2.2.2.2.2.1
@[irreducible] def h := x_.2.2.2.2.2.2.2.2.1
@[irreducible] def tk := x_.2.2.2.2.2.2.2.2.2.1
@[irreducible] def Q := x_.2.2.2.2.2.2.2.2.2.2.1
@[irreducible] def loose := x_.2.2.2.2.2.2.2.2.2.2.2.1
@[irreducible] def mean := x_.2.2.2.2.2.2.2.2.2.2.2.2.1
@[irreducible] def mg := x_.2.2.2.2.2.2.2.2.2.2.2.2.2.1
@[irreducible] def mb := x_.2.2.2.2.2.2.2.2.2.2.2.2.2.2.1
@[irreducible] def p := x_.2.2.2.2.2.2.2.2.2.2.2.2.2.2.2.1
@[irreducible] def D := x_.2.2.2.2.2.2.2.2.2.2.2.2.2.2.2.2.1
@[irreducible] def la := x_.2.2.2.2.2.2.2.2.2.2.2.2.2.2.2.2.2.1
@[irreducible] def lp := x_.2.2.2.2.2.2.2.2.2.2.2.2.2.2.2.2.2.2.1
@[irreducible] def lf := x_.2.2.2.2.2.2.2.2.2.2.2.2.2.2.2.2.2.2.2.1
@[irreducible] def lr := x_.2.2.2.2.2.2.2.2.2.2.2.2.2.2.2.2.2.2.2.2.1
@[irreducible] def ld := x_.2.2.2.2.2.2.2.2.2.2.2.2.2.2.2.2.2.2.2.2.2.1
@[irreducible] def kr := x_.2.2.2.2.2.2.2.2.2.2.2.2.2.2.2.2.2.2.2.2.2.2.1
@[irreducible] def ok := x_.2.2.2.2.2.2.2.2.2.2.2.2.2.2.2.2.2.2.2.2.2.2.2.1
@[irreducible] def osh := x_.2.2.2.2.2.2.2.2.2.2.2.2.2.2.2.2.2.2.2.2.2.2.2.2.1
@[irreducible] def o1 := x_.2.2.2.2.2.2.2.2.2.2.2.2.2.2.2.2.2.2.2.2.2.2.2.2.2.1
@[irreducible] def o2 := x_.2.2.2.2.2.2.2.2.2.2.2.2.2.2.2.2.2.2.2.2.2.2.2.2.2.2.1
@[irreducible] def vd := x_.2.2.2.2.2.2.2.2.2.2.2.2.2.2.2.2.2.2.2.2.2.2.2.2.2.2.2.1
@[irreducible] def tz := x_.2.2.2.2.2.2.2.2.2.2.2.2.2.2.2.2.2.2.2.2.2.2.2.2.2.2.2.2.1
@[irreducible] def Ro := x_.2.2.2.2.2.2.2.2.2.2.2.2.2.2.2.2.2.2.2.2.2.2.2.2.2.2.2.2.2.1
@[irreducible] def F := x_.2.2.2.2.2.2.2.2.2.2.2.2.2.2.2.2.2.2.2.2.2.2.2.2.2.2.2.2.2.2.1
@[irreducible] def tops := x_.2.2.2.2.2.2.2.2.2.2.2.2.2.2.2.2.2.2.2.2.2.2.2.2.2.2.2.2.2.2.2.1
@[irreducible] def S0 := x_.2.2.2.2.2.2.2.2.2.2.2.2.2.2.2.2.2.2.2.2.2.2.2.2.2.2.2.2.2.2.2.2
end
set_option maxHeartbeats 2000000 in
theorem core : Q_ w A s g L sc V Z h tk Q loose mean mg mb p D la lp lf lr ld kr ok osh o1 o2 vd tz Ro F tops S0 := by
  intro body scope hb X' T' hh hfrm hroom hun ns' hsk F' N' good ht3 rt lw zr zro sep hn hr hrdy hpo hnf hnp hS hnext
  have hr1 : A.depth + 60 < recursionLimit := Nat.lt_of_le_of_lt (Nat.add_le_add_right hroom 60) (by decide)
  have hu1 : A.units + 60 < cLine := Nat.lt_of_le_of_lt (Nat.add_le_add_right hun 60) (by decide)
  have hFr : ∀ (oL : Obj) es ep, oL.data = .dict es ep → TI.Frs [lawEnv scope L] [(L, oL)] := fun oL es ep hd => ⟨hsk, rfl, ⟨es, ep, hd⟩, trivial⟩
  obtain ⟨oc, od, name, params, dV, kV, doc, pm, an, cdv, ct, osl, e⟩ := hb
  rw [show (hd.heap_1 w.params).lookup 269 = some _ from by k_is] at e
  cases e
  simp only [List.drop] at hnext ⊢
  have nd' : (List.map (fun x : Str × Option Value => x.fst) [("k", ok), ("numbers", some (.ref D)), ("one", none), ("tops", some (.ref la)), ("planted", some (.ref lp)), ("size", some (.int (F.length : Int) tz)), ("shift", osh), ("name", o1), ("number", o2), ("deep", some (.ref ld)), ("sorter", some (.ref S0.s)), ("told", none), ("course", none), ("whole", none), ("drawn", none)]).Nodup := of_decide_eq_true (by kernel_rfl)
  have hfl : F.length ≤ 39 := by have := good.len; omega
  have hrl : (refs Ro).length = F.length := by rw [List.length_map, rt.length]
  have tr := good.tree ht3
  refine wpAny_execs_cons ?_
  k_steps
  unfold Stop
  have lw0 := (lw.push (o := rangeObj (F.length : Nat) t' u' v') nr').addR (a := r') (by rw [look_cons, if_pos rfl])
  have hS0 := hS.std lw0.nd (Std.refl.cons nr')
  have sep0 : ∀ b, LAd ((r', rangeObj (F.length : Nat) t' u' v') :: Z) L b → ¬ SAddr S0 b := fun b hb => by
    have : LAd Z L b ∨ b = r' := by
      rcases hb with h | h | h | h | h | ⟨q, hq, e⟩
      · exact .inl (.inl h)
      · exact .inl (.inr (.inl h))
      · exact .inl (.inr (.inr (.inl h)))
      · exact .inl (.inr (.inr (.inr (.inl h))))
      · exact .inl (.inr (.inr (.inr (.inr (.inl h)))))
      · rcases List.mem_cons.mp hq with rfl | hq
        · exact .inr e.symm
        · exact .inl (.inr (.inr (.inr (.inr (.inr ⟨q, hq, e⟩)))))
    rcases this with h | rfl
    · exact sep b h
    · intro q
      obtain ⟨o, e⟩ := hS.has q
      exact nr' _ (look_mem e) rfl
  refine forGenX (K := Kr) (iterRange (r := r') (n := F.length) (by omega)) (fun i fl V2 => ∃ vx S, fl = ([("k", ok), ("numbers", some (.ref D)), ("one", none), ("tops", some (.ref la)), ("planted", some (.ref lp)), ("size", some (.int (F.length : Int) tz)), ("shift", osh), ("name", o1), ("number", o2), ("deep", some (.ref ld)), ("sorter", some (.ref S0.s)), ("told", none), ("course", none), ("whole", none), ("drawn", none)] : List (Str × Option Value)) ∧ LW V2 ((r', rangeObj (F.length : Nat) t' u' v') :: Z) L (some (.ref sc)) (some (.ref lf)) (some (.ref lr)) vd vx ∧
    Srt w V2 S ∧ S.s = S0.s ∧ AddI F.length (mF F) S i ∧ ∀ b, LAd ((r', rangeObj (F.length : Nat) t' u' v') :: Z) L b → ¬ SAddr S b) ?_ F' N' lw0.nd ?_ ?_ ?_ ?_ ?_ ?_ ?_ ?_
  · exact hh
  · intro i fl V2 h2 hx9; obtain ⟨vx, S, rfl, lw2, _⟩ := hx9; intro _ N2
    exact ⟨_, _, _, nget N2 lw2.look⟩
  · refine ⟨none, S0, rfl, lw0, hS0, rfl, AddI.zero hn hr hrdy hpo hnf hnp, sep0⟩
  · rintro it o hni _
    have lw1 := lw0.push (o := o) hni
    refine ⟨none, S0, rfl, lw1, hS0.std lw1.nd (Std.refl.cons hni), rfl, AddI.zero hn hr hrdy hpo hnf hnp, sep0⟩
  · exact fun i o h => by rw [h]; exact Kr.not rfl rfl (by decide)
  · intro i fl V2 V3 nd3 _ hk hx9; obtain ⟨vx, S, hf, lw2, hS2, hs2, ai, sp⟩ := hx9
    refine ⟨vx, S, hf, lw2.mono nd3 hk, hS2.monoK nd3 fun b o ho e => hk b o (.inl ho) e, hs2, ai, sp⟩
  · intro i v fl V2 h2 tk2 it o hi; rintro ⟨ty, rfl⟩; intro hx9; obtain ⟨vx, S, rfl, lw2, hS2, hs2, ai, sp⟩ := hx9; intro F2 N2 nd2 hlo hio Qf hQf
    clear F' N' nd'
    have zr2 : (lr, listOf (refs Ro).toArray kr) ∈ (r', rangeObj (F.length : Nat) t' u' v') :: Z := .tail _ zr
    have zro2 : ∀ q ∈ Ro, q ∈ (r', rangeObj (F.length : Nat) t' u' v') :: Z := fun q hq => .tail _ (zro q hq)
    generalize hZx : (r', rangeObj (F.length : Nat) t' u' v') :: Z = Zx at lw2 sp zr2 zro2 ⊢
    obtain ⟨ox, ex, dx⟩ := lw2.cx
    refine wpAny_assign_Name (stXC F2 N2 nd2 rfl ex dx (fun h3 o3 hd3 F3 N3 => ?_) rfl rfl)
    have lw3 := lw2.setX ex dx hd3
    have k3 : ∀ b x, b ≠ L + 1 + 1 + 1 + 1 + 1 → V2.lookup b = some x → (putW V2 (L + 1 + 1 + 1 + 1 + 1) o3).lookup b = some x := fun b x hb e => by rw [look_put (by rw [ex]; rfl), if_neg hb]; exact e
    have hS3 : Srt w (putW V2 (L + 1 + 1 + 1 + 1 + 1) o3) S := hS2.mono2 lw3.nd fun b x hb e => k3 b x (fun q => sp b (.inr (.inr (.inr (.inr (.inl q))))) hb) e
    have hlo3 := k3 it o (fun q => by
      rw [q, ex] at hlo; cases hlo
      have := congrArg Obj.data hio
      rw [dx] at this; cases this) hlo
    generalize putW V2 (L + 1 + 1 + 1 + 1 + 1) o3 = V3 at N3 lw3 hS3 hlo3
    clear F2 N2 k3 ex dx nd2
    have F' := F3
    have N' := N3
    clear F3 N3
    have nd' : (List.map (fun x : Str × Option Value => x.fst) [("k", ok), ("numbers", some (.ref D)), ("one", none), ("tops", some (.ref la)), ("planted", some (.ref lp)), ("size", some (.int (F.length : Int) tz)), ("shift", osh), ("name", o1), ("number", o2), ("deep", some (.ref ld)), ("sorter", some (.ref S0.s)), ("told", none), ("course", none), ("whole", none), ("drawn", none)]).Nodup := of_decide_eq_true (by kernel_rfl)
    obtain ⟨ox, c5', d5'⟩ := lw3.cx
    obtain ⟨or3, c3', d3'⟩ := lw3.cr
    k_steps
    refine MethodStar ?_
    k_steps
    refine getAdd F' X' N' hS3 hs2 fun q h4 F4 N4 lq => ?_
    have nq : ∀ p ∈ V3, p.1 ≠ q := fun p hp => Nat.ne_of_lt (lq p hp)
    have lw4 := lw3.push (o := methodObj (.ref 122) (.ref S0.s)) nq
    have hS4 := hS3.std lw4.nd (Std.refl.cons nq)
    have hq4 : ((q, methodObj (.ref 122) (.ref S0.s)) :: V3).lookup q = some (methodObj (.ref 122) (.ref S0.s)) := by rw [look_cons, if_pos rfl]
    have hlo4 : ((q, methodObj (.ref 122) (.ref S0.s)) :: V3).lookup it = some o := by rw [look_cons, if_neg fun z => nq _ (look_mem hlo3) z]; exact hlo3
    have hqS : ¬ SAddr S q := fun z => by
      obtain ⟨y, ey⟩ := hS3.has z
      exact nq _ (look_mem ey) rfl
    generalize (q, methodObj (.ref 122) (.ref S0.s)) :: V3 = V4 at N4 lw4 hS4 hq4 hlo4
    clear F' N' c5' d5' c3' d3' nq lq hlo3 hS3
    have F' := F4
    have N' := N4
    clear F4 N4
    obtain ⟨ox, c5', d5'⟩ := lw4.cx
    obtain ⟨or3, c3', d3'⟩ := lw4.cr
    refine callWith_SM (K := hd.heap_1 w.params) (f := 122) (self := .ref S0.s) (by k_is) ?_
    k_steps
    unfold Stop
    have lk5 : ∀ b x, V4.lookup b = some x → ((r', rangeObj (F.length : Nat) t' u' v') :: V4).lookup b = some x := fun b x e => by rw [look_cons, if_neg fun z => nr' _ (look_mem e) z]; exact e
    have lw5 := lw4.push (o := rangeObj (F.length : Nat) t' u' v') nr'
    have hS5 := hS4.std lw5.nd (Std.refl.cons nr')
    have hr5 : ((r', rangeObj (F.length : Nat) t' u' v') :: V4).lookup r' = some (rangeObj (F.length : Nat) t' u' v') := by rw [look_cons, if_pos rfl]
    have hq5 := lk5 _ _ hq4
    have hlo5 := lk5 _ _ hlo4
    have hrS : ¬ SAddr S r' := fun z => by
      obtain ⟨y, ey⟩ := hS4.has z
      exact nr' _ (look_mem ey) rfl
    generalize (r', rangeObj (F.length : Nat) t' u' v') :: V4 = V5 at N' lw5 hS5 hr5 hq5 hlo5
    clear lk5 c5' d5' c3' d3' hS4 hq4 hlo4 nr'
    have K5 : ∀ {it2 D2 Cc : Addr} {V6 V7 : List (Addr × Obj)}, (∀ p ∈ V5, p.1 ≠ it2 ∧ p.1 ≠ D2 ∧ p.1 ≠ Cc) → (∀ b x, b ≠ it2 → b ≠ D2 → b ≠ Cc → V6.lookup b = some x → V7.lookup b = some x) → ∀ b y x, V5.lookup b = some y → V6.lookup b = some x → V7.lookup b = some x := fun hap hk b y x e4 e5 => by
      have z := hap _ (look_mem e4)
      exact hk b x z.1 z.2.1 z.2.2 e5
    refine compGen (iterRange (r := r') (n := F.length) (by omega)) (fun j vs V6 => LW V6 Zx L (some (.ref sc)) (some (.ref lf)) (some (.ref lr)) vd (some (.int (i : Int) ty)) ∧ Srt w V6 S ∧ V6.lookup it = some o ∧ V6.lookup q = some (methodObj (.ref 122) (.ref S0.s)) ∧ V6.lookup r' = some (rangeObj (F.length : Nat) t' u' v') ∧
      IV vs ((List.range j).filter fun y => decide (Bel F.length (mF F) y i))) selfRange hh (by decide) rfl (by decide) (by omega) F' N' lw5.nd ?_ ?_ ?_ ?_ ?_
    · intro j vs V6 h6 hx9; obtain ⟨_, _, _, _, hr6, _⟩ := hx9; intro _ N6
      exact ⟨_, _, _, nget N6 hr6⟩
    · refine ⟨lw5, hS5, hlo5, hq5, hr5, .nil⟩
    · intro it2 D2 Cc hap2 j vs V6 V7 nd7 hk hx9; obtain ⟨lw6, hS6, q1, q2, q3, iv⟩ := hx9
      refine ⟨lw6.viaW lw5 nd7 (fun b x ⟨p, hp, hb⟩ e => by
        have z := hap2 p hp
        rw [hb] at z
        exact hk b x z.1 z.2.1 z.2.2 e), hS6.mono2 nd7 (fun b x hb e => by
        obtain ⟨y, ey⟩ := hS5.has hb
        exact K5 hap2 hk _ _ _ ey e), K5 hap2 hk _ _ _ hlo5 q1, K5 hap2 hk _ _ _ hq5 q2, K5 hap2 hk _ _ _ hr5 q3, iv⟩
    · intro j v vs V6 h6 tk6 it6 o6 D6 nD6 C6 oC6 m6 hj; rintro ⟨tj, rfl⟩; intro hx9; obtain ⟨lw6, hS6, q1, q2, q3, iv⟩ := hx9; intro hvl6 F6 N6 nd6 hap6 hlo6 hlD6 hlC6 hm6 hmx6
      clear F' N'
      have F' := F6
      have N' := N6
      clear F6 N6
      obtain ⟨ox, c5', d5'⟩ := lw6.cx
      obtain ⟨or3, c3', d3'⟩ := lw6.cr
      obtain ⟨ra, cs, kc, hra, hrv⟩ := rt.at (at_get hi)
      have hrf := refs_at hra
      have hlr6 : V6.lookup lr = some (listOf (refs Ro).toArray kr) := lw6.z _ zr2
      have hRa : V6.lookup ra = some (listOf cs.toArray kc) := lw6.z _ (zro2 _ (List.mem_of_getElem? hra))
      obtain ⟨tc, hcy⟩ := hrv.at (at_get hj)
      have hcl := hrv.length
      have hfil : ((List.range (j + 1)).filter fun y => decide (Bel F.length (mF F) y i)) = ((List.range j).filter fun y => decide (Bel F.length (mF F) y i)) ++ (if Bel F.length (mF F) j i then [j] else []) := by
        rw [List.range_succ, List.filter_append]
        congr 1
        by_cases b : Bel F.length (mF F) j i
        · rw [if_pos b, List.filter_cons, if_pos (decide_eq_true b)]; rfl
        · rw [if_neg b, List.filter_cons, if_neg (by simpa using b)]; rfl
      k_steps
      · refine ⟨V6, h6, _, rfl, F', N', nd6, hlo6, hlD6, ⟨oC6, m6, hlC6, hm6⟩, lw6, hS6, q1, q2, q3, ?_⟩
        have c1 : (j : Int) ≠ (i : Int) := by assumption
        have c2 : (if hit (at' F i).1 (at' F j).1 = true then (1 : Int) else 0) = 1 := by assumption
        have c3 : mF F i j = true := by
          show hit _ _ = true
          cases e : hit (at' F i).1 (at' F j).1 with
          | true => rfl
          | false => rw [e] at c2; exact absurd c2 (by decide)
        rw [hfil, if_pos ⟨hj, hi, fun e => c1 (by rw [e]), c3⟩]
        exact iv.append (.cons .nil)
      · refine ⟨V6, h6, _, rfl, F', N', nd6, hlo6, hlD6, ⟨oC6, m6, hlC6, hm6⟩, lw6, hS6, q1, q2, q3, ?_⟩
        have c2 : (if hit (at' F i).1 (at' F j).1 = true then (1 : Int) else 0) ≠ 1 := by assumption
        rw [hfil, if_neg fun b => c2 (if_pos b.2.2.2), List.append_nil]
        exact iv
      · refine ⟨V6, h6, _, rfl, F', N', nd6, hlo6, hlD6, ⟨oC6, m6, hlC6, hm6⟩, lw6, hS6, q1, q2, q3, ?_⟩
        have c1 : (j : Int) = (i : Int) := by assumption
        rw [hfil, if_neg fun b => b.2.2.1 (by omega), List.append_nil]
        exact iv
    · intro vs V6 h6 tk6 D6 nD6 hx9; obtain ⟨lw6, hS6, q1, q2, q3, iv⟩ := hx9; intro F6 N6 nd6 hlD6 hapD6
      clear F' N'
      have F' := F6
      have N' := N6
      clear F6 N6
      have hvl := iv.length
      have hpl : ((List.range F.length).filter fun y => decide (Bel F.length (mF F) y i)).length ≤ F.length := Nat.le_trans (List.length_filter_le _ _) (by rw [List.length_range]; exact Nat.le_refl _)
      have hnl : S.nodes.length ≤ F.length := nd_len _ _ ai.nd ai.lt
      refine star_seq F' N' (look_mem hlD6) rfl rfl (.inl rfl) rfl (by rw [List.size_toArray]; exact sz_ok (by omega)) fun h7 F7 N7 => ?_
      clear F' N'
      have F' := F7
      have N' := N7
      clear F7 N7
      k_steps
      · exact methP N' (look_mem q2) (X'.keeps F'.keep)
      refine call_meth N' (look_mem q2) ?_
      rw [List.append_nil]
      rw [show (⟨.ref S0.s :: .int (i : Int) ty :: vs, []⟩ : Args) = ⟨.ref S.s :: .int (i : Int) ty :: vs, []⟩ from by rw [hs2]]
      refine add_ok (W := inP (sP S) V6) X' T' (fun b o e => F'.keep b o e) hh (by omega) (by omega) (fun p hp => (N' p (inP_sub p hp).1).1) (fun p hp => (N' p (inP_sub p hp).1).2.2) hS6.inP ai.cl ai.rd iv (by omega) (fun y => by rw [ai.suc]; exact Nat.le_trans (List.length_filter_le _ _) (by rw [List.length_range]; omega)) fun h8 tk8 W8 S1 S' kp8 hW8 fr8 hS8 he hta => ?_
      obtain ⟨V8, F8, N8, nd8, L8, O8⟩ := after_P F' N' nd6 kp8 hW8 fr8 hS8.nd
      obtain ⟨ai', hs'⟩ := ai.step hi he hta
      have lw8 := lw6.viaA nd8 fun b x hb e => O8 b x (sP_no (sp b hb)) e
      have sp8 : ∀ b, LAd Zx L b → ¬ SAddr S' b := fun b hb z => by
        obtain ⟨y, ey⟩ := hS8.has z
        obtain ⟨x, ex, _⟩ := lw6.has hb
        rcases fr8 _ (look_mem ey) with u | u
        · obtain ⟨p, hp, e⟩ := List.mem_map.mp u
          have := (inP_sub p hp).2
          rw [e] at this
          exact sp b hb (sP_iff.mp this)
        · have := nget N' ex
          have u' : h7.get? b = none := u
          rw [u'] at this; cases this
      have hitS : ¬ SAddr S it := fun z => by
        exact hS6.alien q1 (congrArg Obj.data hio) z
      clear F' N'
      have F' := F8
      have N' := N8
      clear F8 N8
      dsimp only
      k_steps
      subst hZx
      refine ⟨_, V8, h8, _, rfl, F', N', nd8, O8 _ _ (sP_no hitS) q1, _, S', rfl, lw8, hS8.std nd8 L8, hs'.trans hs2, ai', sp8⟩
  · intro fl V2 h2 tk2 hx9; obtain ⟨vx, S, rfl, lw2, hS2, hs2, ai, sp⟩ := hx9; intro F2 N2 nd2
    clear F' N' nd'
    have F' := F2
    have N' := N2
    clear F2 N2
    have hnl : S.nodes.length ≤ F.length := nd_len _ _ ai.nd ai.lt
    have nd' : (List.map (fun x : Str × Option Value => x.fst) [("k", ok), ("numbers", some (.ref D)), ("one", none), ("tops", some (.ref la)), ("planted", some (.ref lp)), ("size", some (.int (F.length : Int) tz)), ("shift", osh), ("name", o1), ("number", o2), ("deep", some (.ref ld)), ("sorter", some (.ref S0.s)), ("told", none), ("course", none), ("whole", none), ("drawn", none)]).Nodup := of_decide_eq_true (by kernel_rfl)
    have gL : g.get? L = none := Heap.get?_none_of_le F'.above
    obtain ⟨oL, esL, epL, hoL, hdL, rL⟩ := id F'.ns
    k_steps
    refine wpAny_call (codeAny_arg hs2 (prepare_ok (frs := [(L, oL)]) (W := inP (sP S) V2) X' T' (fun b o e => F'.keep b o e) hh (by omega) (by omega) hfrm (hFr oL esL epL hdL) (by simp) (fun p hp => by rw [List.mem_singleton] at hp; subst hp; exact hoL) (fun p hp => by rw [List.mem_singleton] at hp; subst hp; exact gL)
      (fun p hp => (N' p (inP_sub p hp).1).1) (fun p hp => (N' p (inP_sub p hp).1).2.2) (fun p hp q hq => by rw [List.mem_singleton] at hq; subst hq; exact (N' p (inP_sub p hp).1).2.1.symm) hS2.inP ai.rd (nF F) (ai.rank tr) (by omega) fun h3 tk3 V3 frs3 rl su3 hf3 hV3 ap3 fr3 kp3 hS3 => ?_))
    have hL3 : ∃ sl, h3.get? L = some { oL with slots := sl } := sameUp_one (p := (L, oL)) su3 hf3
    obtain ⟨V4, F4, N4, nd4, L4, O4⟩ := after_frame (P := sP S) F' N' nd2 hoL hL3 (fun b o hb hl e => kp3 b o hb (fun p hp => by rw [List.mem_singleton] at hp; subst hp; exact hl) e) hV3 (fun p hp => ap3 p hp (L, oL) (.head _)) fr3 hS3.nd
    have lw4 := lw2.viaA nd4 fun b x hb e => O4 b x (sP_no (sp b hb)) e
    have hS4 := hS3.std nd4 L4
    have sp4 : ∀ b, LAd ((r', rangeObj (F.length : Nat) t' u' v') :: Z) L b → ¬ SAddr { S with rd := some rl, ready := S.nodes.filter fun y => decide (S.np y = 0) } b := fun b hb z => by
      obtain ⟨y, ey⟩ := hS3.has z
      obtain ⟨x, ex, _⟩ := lw2.has hb
      rcases fr3 _ (look_mem ey) with u | u
      · obtain ⟨p, hp, e⟩ := List.mem_map.mp u
        have := (inP_sub p hp).2
        rw [e] at this
        exact sp b hb (sP_iff.mp this)
      · have := nget N' ex
        have u' : h2.get? b = none := u
        rw [u'] at this; cases this
    clear F' N'
    have F' := F4
    have N' := N4
    clear F4 N4
    dsimp only
    k_steps
    rename_i lt hx oT ltl lo hs1 fs1 hi1 fi1
    unfold Stop
    have nT : ∀ p ∈ V4, p.1 ≠ lt := fun p hp => Nat.ne_of_lt (ltl p hp)
    have lw5 := lw4.drop.push (o := oT) nT
    refine hnext _ _ _ lt vx _ F' N' lw5 (hS4.std lw5.nd (Std.refl.cons nT)) hs2 ⟨rl, rfl⟩ (ai.mid rl) (by show S.po = S.nf; rw [ai.po, ai.nf]) (fun b hb => sp4 b ?_) ⟨oT, by rw [look_cons, if_pos rfl], [], hi1, rfl, (fun y hy => nomatch hy)⟩ lo (fun z => ?_) (fun b hb e => ?_)
    · rcases hb with h | h | h | h | h | ⟨q, hq, e⟩
      · exact .inl h
      · exact .inr (.inl h)
      · exact .inr (.inr (.inl h))
      · exact .inr (.inr (.inr (.inl h)))
      · exact .inr (.inr (.inr (.inr (.inl h))))
      · exact .inr (.inr (.inr (.inr (.inr ⟨q, .tail _ hq, e⟩))))
    · obtain ⟨y, ey⟩ := hS4.has z
      exact nT _ (look_mem ey) rfl
    · obtain ⟨x, ex, _⟩ := lw4.drop.has hb
      exact nT _ (look_mem ex) e
  · exact fun _ _ => rfl
theorem all : ∀ y, P_ y := @pick_all _ _ P_ (by with_unfolding_all exact core)
end law_s5_
theorem law_s5 {w A s g L sc V Z h tk Q loose mean mg mb p D la lp lf lr ld kr ok osh o1 o2 vd tz Ro F tops S0} : law_s5_.Q_ w A s g L sc V Z h tk Q loose mean mg mb p D la lp lf lr ld kr ok osh o1 o2 vd tz Ro F tops S0 := @law_s5_.all (w, A, s, g, L, sc, V, Z, h, tk, Q, loose, mean, mg, mb, p, D, la, lp, lf, lr, ld, kr, ok, osh, o1, o2, vd, tz, Ro, F, tops, S0)
end
theorem kz_zm_s5 : True := by
  k_with "zm_s5" => skip
  trivial
theorem kl_zm_s6 : True := by
  k_with "lia" => ((fail_if_success k_extra "zm_s6"); lia)
  trivial
/-! the law, sixth part: the course, and the pairs sorted -/
theorem IV.get {vs : List Value} {xs : List Nat} (h : IV vs xs) : ∀ {i x : Nat}, xs[i]? = some x → ∃ t, vs[i]? = some (.int (x : Int) t) := by
  induction h with
  | nil => intro i x h; simp at h
  | cons _ ih =>
    intro i x h
    cases i with
    | zero => simp at h; subst h; exact ⟨_, rfl⟩
    | succ i => simp at h; simpa using ih h
noncomputable def sP1 (S : SS) (a : Addr) : Addr → Bool := fun b => sP S b || b == a
theorem sP1_no {S : SS} {a b : Addr} (h : ¬ SAddr S b) (h' : b ≠ a) : sP1 S a b = false := by
  unfold sP1
  rw [sP_no h]; simpa using h'
theorem sP1_S {S : SS} {a b : Addr} (h : SAddr S b) : sP1 S a b = true := by
  unfold sP1
  rw [sP_iff.mpr h]; rfl
theorem sP1_a {S : SS} {a : Addr} : sP1 S a a = true := by
  unfold sP1; simp
theorem HV.at2 {num : Nat → Nat} {as : List (Addr × Nat)} {W : List (Addr × Obj)} {vs : List Value} {xs : List Nat} (h : HV num as W vs xs) : ∀ {i x : Nat}, xs[i]? = some x → ∃ a t t', vs[i]? = some (.ref a) ∧ W.lookup a = some (tupObj [.int (num x : Int) t, .int (x : Int) t']) := by
  induction h with
  | nil => intro i x h; simp at h
  | cons h1 h2 _ ih =>
    intro i x h
    cases i with
    | zero => simp at h; subst h; refine ⟨_, _, _, rfl, h2⟩
    | succ i => simp at h; simpa using ih h
section
theorem kw_zm_s6 : True := by
  k_with "exec Try" => ((fail_if_success k_extra "zm_s6"); k_here; refine stop_here ?_)
  k_with "eval Name" => ((fail_if_success k_extra "zm_s6"); k_here; (with_reducible show wpAny _ _ (eval (Expr.Name _ _) (lawEnv _ _)) _ _ _); k_dflt (refine' ldXC ?z1 ?z2 ?z3 ?z4 ?_ ?z5 ?z6 ?z7; (case z1 => assumption); (case z2 => rfl); (case z3 => assumption); (case z4 => assumption); (case z5 => rfl); (case z6 => rfl); (case z7 => decide); k_whole))
  k_with "eval Name" => ((fail_if_success k_extra "zm_s6"); k_here; (with_reducible show wpAny _ _ (eval (Expr.Name _ _) (compEnvC _ _ _ _)) _ _ _); k_dflt (refine' ldCC ?z1 ?z2 ?z3 ?z4 ?_ ?z5 ?z6 ?z7; (case z1 => assumption); (case z2 => rfl); (case z3 => assumption); (case z4 => assumption); (case z5 => rfl); (case z6 => rfl); (case z7 => decide); k_whole))
  k_with "eval ListComp" => ((fail_if_success k_extra "zm_s6"); k_here; (with_reducible show wpAny _ _ (eval (Expr.ListComp _ [_] _ _) _) _ _ _); k_dflt (refine' evalComp ?z1 ?z2 ?z3 ?_; (case z1 => with_unfolding_all rfl); (case z2 => rfl); (case z3 => decide); k_whole))
  k_with "call type:range" => ((fail_if_success k_extra "zm_s6"); k_here; k_dflt (refine' callRange ?z1 ?z2 ?_; (case z1 => assumption); (case z2 => assumption); k_whole); intro r' h' t' u' v' tk' F' N' nr'; (try dsimp only at F' N'))
  k_with "subscriptTail" => ((fail_if_success k_extra "zm_s6"); k_here; k_dflt (first | ((with_reducible show wpAny _ _ (subscriptTail _ _ (Value.ref _) (Value.int (Nat.cast _) _)) _ _ _); refine' rdK ?z1 ?z2 ?z3 ?z4 ?_; (case z1 => assumption); (case z2 => exact look_mem (by assumption)); (case z3 => assumption); (case z4 => omega); k_whole) | ((with_reducible show wpAny _ _ (subscriptTail _ _ (Value.ref _) (Value.int _ _)) _ _ _); refine' tupI (j := 1) ?z1 ?z2 ?z3 ?z4 ?z5 ?z6 ?_; (case z1 => assumption); (case z2 => exact look_mem (by assumption)); (case z3 => decide); (case z4 => decide); (case z5 => rfl); (case z6 => rfl); k_whole)))
  k_with "call builtin:sorted" => ((fail_if_success k_extra "zm_s6"); k_here; refine stop_here ?_)
  k_with "compareOp NotEq" => ((fail_if_success k_extra "zm_s6"); k_here; refine stop_here ?_)
  k_with "execs cons" => ((fail_if_success k_extra "zm_s6"); (with_reducible show wpAny _ _ (execs (Stmt.Assign _ _ _ :: Stmt.For _ _ _ _ _ :: _) _) _ _ _); refine stop_here ?_)
  k_with "getMethod ref" => ((fail_if_success k_extra "zm_s6"); k_here; (with_reducible show wpAny _ _ (getMethod (Value.ref _) (Str.ofString "is_active") _) _ _ _); k_dflt (refine' methIa ?z1 ?z2 ?z3 ?z4 ?z5 ?_; (case z1 => assumption); (case z2 => assumption); (case z3 => assumption); (case z4 => assumption); (case z5 => assumption); k_whole))
  trivial
namespace law_s6_
def Q_ (w : World) (A : Around) (s : Shared) (g : Heap) (L : Addr) (sc : Addr) (V : List (Addr × Obj)) (Z : List (Addr × Obj)) (h : Heap) (tk : Nat) (Q : Flow → Shared → Prop) (loose : List Str) (mean : ExcName → Option Value) (mg : Str → Option Value) (mb : Str → Option Value) (p : Program) (D : Addr) (la : Addr) (lp : Addr) (lf : Addr) (lr : Addr) (ld : Addr) (lt : Addr) (rl : Addr) (kr : Nat) (kd : Nat) (dvs : List Value) (ok : Option Value) (osh : Option Value) (o1 : Option Value) (o2 : Option Value) (vd : Option Value) (vx : Option Value) (tz : Tok) (Ro : List (Addr × Obj)) (Tn : List (Addr × Obj)) (F : List NT) (tops : List Nat) (S : SS) (oT : Obj) : Prop := ∀ {body : List Stmt} {scope : Scope} (hb : LawFn w body scope) (X' : (hd.heap_1 w.params).In g) (T' : Top p loose mean mg mb g) (hh : A.handled = none) (hroom : A.depth ≤ 303) (hun : A.units ≤ 20) (ns' : (scope.names.map (·.1)).Nodup) (F' : Fr g L h (fv ([("k", ok), ("numbers", some (.ref D)), ("one", none), ("tops", some (.ref la)), ("planted", some (.ref lp)), ("size", some (.int (F.length : Int) tz)), ("shift", osh), ("name", o1), ("number", o2), ("deep", some (.ref ld)), ("sorter", some (.ref S.s)), ("told", some (.ref lt)), ("course", none), ("whole", none), ("drawn", none)] : List (Str × Option Value)))) (N' : News g L h V) (good : Good F tops tops.length) (ht3 : tops.length ≤ 3) (hpos : 0 < F.length) (rt : RT F Ro F) (pt : PT Tn F) (lw : LW V Z L (some (.ref sc)) (some (.ref lf)) (some (.ref lr)) vd vx) (zr : (lr, listOf (refs Ro).toArray kr) ∈ Z) (zro : ∀ q ∈ Ro, q ∈ Z) (zf : (lf, listOf (refs Tn).toArray 0) ∈ Z) (zt : ∀ q ∈ Tn, q ∈ Z) (zd : (ld, listOf dvs.toArray kd) ∈ Z) (hdv : IV dvs ((List.range F.length).map (dF F))) (sep : ∀ b, LAd Z L b → ¬ SAddr S b) (hrd : S.rd = some rl) (hM : Mid F.length (mF F) S [] []) (hpo : S.po = S.nf) (hS : Srt w V S) (hoT : V.lookup lt = some oT) (hT : Told w oT (nF F) []) (hts : (lt == sysModules) = false) (hnT : ¬ SAddr S lt) (hap : ∀ b, LAd Z L b → b ≠ lt) (hnext : ∀ h tk V vx ocs oT ks, Fr g L h (fv ([("k", ok), ("numbers", some (.ref D)), ("one", none), ("tops", some (.ref la)), ("planted", some (.ref lp)), ("size", some (.int (F.length : Int) tz)), ("shift", osh), ("name", o1), ("number", o2), ("deep", some (.ref ld)), ("sorter", some (.ref S.s)), ("told", some (.ref lt)), ("course", ocs), ("whole", none), ("drawn", none)] : List (Str × Option Value))) → News g L h V → LW V Z L (some (.ref sc)) (some (.ref lf)) (some (.ref lr)) vd vx → V.lookup lt = some oT → Told w oT (nF F) ks → (∀ y, y ∈ ks ↔ y < F.length) → wpAny (model PG w) A (execs (body.drop 17) (lawEnv scope L)) Q (fun _ _ => False) { s with heap := h, toks := tk }), wpAny (model PG w) A (execs (body.drop 15) (lawEnv scope L)) Q (fun _ _ => False) { s with heap := h, toks := tk }
noncomputable section
def P_ (x : World × Around × Shared × Heap × Addr × Addr × (List (Addr × Obj)) × (List (Addr × Obj)) × Heap × Nat × (Flow → Shared → Prop) × (List Str) × (ExcName → Option Value) × (Str → Option Value) × (Str → Option Value) × Program × Addr × Addr × Addr × Addr × Addr × Addr × Addr × Addr × Nat × Nat × (List Value) × (Option Value) × (Option Value) × (Option Value) × (Option Value) × (Option Value) × (Option Value) × Tok × (List (Addr × Obj)) × (List (Addr × Obj)) × (List NT) × (List Nat) × SS × Obj) : Prop := Q_ x.1 x.2.1 x.2.2.1 x.2.2.2.1 x.2.2.2.2.1 x.2.2.2.2.2.1 x.2.2.2.2.2.2.1 x.2.2.2.2.2.2.2.1 x.2.2.2.2.2.2.2.2.1 x.2.2.2.2.2.2.2.2.2.1 x.2.2.2.2.2.2.2.2.2.2.1 x.2.2.2.2.2.2.2.2.2.2.2.1 x.2.2.2.2.2.2.2.2.2.2.2.2.1 x.2.2.2.2.2.2.2.2.2.2.2.2.2.1 x.2.2.2.2.2.2.2.2.2.2.2.2.2.2.1 x.2.2.2.2.2.2.2.2.2.2.2.2.2.2.2.1 x.2.2.2.2.2.2.2.2.2.2.2.2.2.2.2.2.1 x.2.2.2.2.2.2.2.2.2.2.2.2.2.2.2.2.2.1 x.2.2.2.2.2.2.2.2.2.2.2.2.2.2.2.2.2.2.1 x.2.2.2.2.2.2.2.2.2.2.2.2.2.2.2.2.2.2.2.1 x.2.2.2.2.2.2.2.2.2.2.2.2.2.2.2.2.2.2.2.2.1 x.2.2.2.2.2.2.2.2.2.2.2.2.2.2.2.2.2.2.2.2.2.1 x.2.2.2.2.2.2.2.2.2.2.2.2.2.2.2.2.2.2.2.2.2.2.1 x.2.2.2.2.2.2.2.2.2.2.2.2.2.2.2.2.2.2.2.2.2.2.2.1 x.2.2.2.2.2.2.2.2.2.2.2.2.2.2.2.2.2.2.2.2.2.2.2.2.1 x.2.2.2.2.2.2.2.2.2.2.2.2.2.2.2.2.2.2.2.2.2.2.2.2.2.1 x.2.2.2.2.2.2.2.2.2.2.2.2.2.2.2.2.2.2.2.2.2.2.2.2.2.2.1 x.2.2.2.2.2.2.2.2.2.2.2.2.2.2.2.2.2.2.2.2.2.2.2.2.2.2.2.1 x.2.2.2.2.2.2.2.2.2.2.2.2.2.2.2.2.2.2.2.2.2.2.2.2.2.2.2.2.1 x.2.2.2.2.2.2.2.2.2.2.2.2.2.2.2.2.2.2.2.2.2.2.2.2.2.2.2.2.2.1 x.2.2.2.2.2.2.2.2.2.2.2.2.2.2.2.2.2.2.2.2.2.2.2.2.2.2.2.2.2.2.1 x.2.2.2.2.2.2.2.2.2.2.2.2.2.2.2.2.2.2.2.2.2.2.2.2.2.2.2.2.2.2.2.1 x.2.2.2.2.2.2.2.2.2.2.2.2.2.2.2.2.2.2.2.2.2.2.2.2.2.2.2.2.2.2.2.2.1 x.2.2.2.2.2.2.2.2.2.2.2.2.2.2.2.2.2.2.2.2.2.2.2.2.2.2.2.2.2.2.2.2.2.1 x.2.2.2.2.2.2.2.2.2.2.2.2.2.2.2.2.2.2.2.2.2.2.2.2.2.2.2.2.2.2.2.2.2.2.1 x.2.2.2.2.2.2.2.2.2.2.2.2.2.2.2.2.2.2.2.2.2.2.2.2.2.2.2.2.2.2.2.2.2.2.2.1 x.2.2.2.2.2.2.2.2.2.2.2.2.2.2.2.2.2.2.2.2.2.2.2.2.2.2.2.2.2.2.2.2.2.2.2.2.1 x.2.2.2.2.2.2.2.2.2.2.2.2.2.2.2.2.2.2.2.2.2.2.2.2.2.2.2.2.2.2.2.2.2.2.2.2.2.1 x.2.2.2.2.2.2.2.2.2.2.2.2.2.2.2.2.2.2.2.2.2.2.2.2.2.2.2.2.2.2.2.2.2.2.2.2.2.2.1 x.2.2.2.2.2.2.2.2.2.2.2.2.2.2.2.2.2.2.2.2.2.2.2.2.2.2.2.2.2.2.2.2.2.2.2.2.2.2.2
def x_ := pick (dW, callerA, ({} : Shared), default, default, default, default, default, default, default, default, default, default, default, default, PG, default, default, default, default, default, default, default, default, default, default, default, default, default, default, default, default, default, default, default, default, default, default, (⟨0, 0, 0, none, [], [], 0, 0, fun _ => 0, fun _ => 0, fun _ => 0, fun _ => 0, fun _ => []⟩ : SS), default) fun x => ¬ P_ x
@[irreducible] def w := x_.1
@[irreducible] def A := x_.2.1
@[irreducible] def s := x_.2.2.1
@[irreducible] def g := x_.2.2.2.1
@[irreducible] def L := x_.2.2.2.2.1
@[irreducible] def sc := x_.2.2.2.2.2.1
@[irreducible] def V := x_.2.2.2.2.2.2.1
@[irreducible] def Z := x_.2.2.2.2.2.2.2.1
@[irreducible] def h := x_.2.2.2.2.2.2.2.2.1
@[irreducible] def tk := x_.2.2.2.2.2.2.2.2.2.1
@[irreducible] def Q := x_.2.2.2.2.2.2.2.2.2.2.1
@[irreducible] def loose := x_.2.2.2.2.2.2.2.2.2.2.2.1
@[irreducible] def mean := x_.2.2.2.2.2.2.2.2.2.2.2.2.1
@[irreducible] def mg := x_.2.2.2.2.2.2.2.2.2.2.2.2.2.1
@[irreducible] def mb := x_.2.2.2.2.2.2.2.2.2.2.2.2.2.2.1
@[irreducible] def p := x_.2.2.2.2.2.2.2.2.2.2.2.2.2.2.2.1
@[irreducible] def D := x_.2.2.2.2.2.2.2.2.2.2.2.2.2.2.2.2.1
@[irreducible] def la := x_.2.2.2.2.2.2.2.2.2.2.2.2.2.2.2.2.2.1
@[irreducible] def lp := x_.2.2.2.2.2.2.2.2.2.2.2.2.2.2.2.2.2.2.1
@[irreducible] def lf := x_.2.2.2.2.2.2.2.2.2.2.2.2.2.2.2.2.2.2.2.1
@[irreducible] def lr := x_.2.2.2.2.2.2.2.2.2.2.2.2.2.2.2.2.2.2.2.2.1
@[irreducible] def ld := x_.2.2.2.2.2.2.2.2.2.2.2.2.2.2.2.2.2.2.2.2.2.1
@[irreducible] def lt := x_.2.2.2.2.2.2.2.2.2.2.2.2.2.2.2.2.2.2.2.2.2.2.1
@[irreducible] def rl := x_.2.2.2.2.2.2.2.2.2.2.2.2.2.2.2.2.2.2.2.2.2.2.2.1
@[irreducible] def kr := x_.2.2.2.2.2.2.2.2.2.2.2.2.2.2.2.2.2.2.2.2.2.2.2.2.1
@[irreducible] def kd := x_.2.2.2.2.2.2.2.2.2.2.2.2.2.2.2.2.2.2.2.2.2.2.2.2.2.1
@[irreducible] def dvs := x_.2.2.2.2.2.2.2.2.2.2.2.2.2.2.2.2.2.2.2.2.2.2.2.2.2.2.1
@[irreducible] def ok := x_.2.2.2.2.2.2.2.2.2.2.2.2.2.2.2.2.2.2.2.2.2.2.2.2.2.2.2.1
@[irreducible] def osh := x_.2.2.2.2.2.2.2.2.2.2.2.2.2.2.2.2.2.2.2.2.2.2.2.2.2.2.2.2.1
@[irreducible] def o1 := x_.2.2.2.2.2.2.2.2.2.2.2.2.2.2.2.2.2.2.2.2.2.2.2.2.2.2.2.2.2.1
@[irreducible] def o2 := x_.2.2.2.2.2.2.2.2.2.2.2.2.2.2.2.2.2.2.2.2.2.2.2.2.2.2.2.2.2.2.1
@[irreducible] def vd := x_.2.2.2.2.2.2.2.2.2.2.2.2.2.2.2.2.2.2.2.2.2.2.2.2.2.2.2.2.2.2.2.1
@[irreducible] def vx := x_.2.2.2.2.2.2.2.2.2.2.2.2.2.2.2.2.2.2.2.2.2.2.2.2.2.2.2.2.2.2.2.2.1
@[irreducible] def tz := x_.2.2.2.2.2.2.2.2.2.2.2.2.2.2.2.2.2.2.2.2.2.2.2.2.2.2.2.2.2.2.2.2.2.1
@[irreducible] def Ro := x_.2.2.2.2.2.2.2.2.2.2.2.2.2.2.2.2.2.2.2.2.2.2.2.2.2.2.2.2.2.2.2.2.2.2.1
@[irreducible] def Tn := x_.2.2.2.2.2.2.2.2.2.2.2.2.2.2.2.2.2.2.2.2.2.2.2.2.2.2.2.2.2.2.2.2.2.2.2.1
@[irreducible] def F := x_.2.2.2.2.2.2.2.2.2.2.2.2.2.2.2.2.2.2.2.2.2.2.2.2.2.2.2.2.2.2.2.2.2.2.2.2.1
@[irreducible] def tops := x_.2.2.2.2.2.2.2.2.2.2.2.2.2.2.2.2.2.2.2.2.2.2.2.2.2.2.2.2.2.2.2.2.2.2.2.2.2.1
@[irreducible] def S := x_.2.2.2.2.2.2.2.2.2.2.2.2.2.2.2.2.2.2.2.2.2.2.2.2.2.2.2.2.2.2.2.2.2.2.2.2.2.2.1
@[irreducible] def oT := x_.2.2.2.2.2.2.2.2.2.2.2.2.2.2.2.2.2.2.2.2.2.2.2.2.2.2.2.2.2.2.2.2.2.2.2.2.2.2.2
end
set_option maxHeartbeats 2000000 in
theorem core : Q_ w A s g L sc V Z h tk Q loose mean mg mb p D la lp lf lr ld lt rl kr kd dvs ok osh o1 o2 vd vx tz Ro Tn F tops S oT := by
  intro body scope hb X' T' hh hroom hun ns' F' N' good ht3 hpos rt pt lw zr zro zf zt zd hdv sep hrd hM hpo hS hoT hT hts hnT hap hnext
  have hr1 : A.depth + 60 < recursionLimit := Nat.lt_of_le_of_lt (Nat.add_le_add_right hroom 60) (by decide)
  have hu1 : A.units + 60 < cLine := Nat.lt_of_le_of_lt (Nat.add_le_add_right hun 60) (by decide)
  obtain ⟨oc, od, name, params, dV, kV, doc, pm, an, cdv, ct, osl, e⟩ := hb
  rw [show (hd.heap_1 w.params).lookup 269 = some _ from by k_is] at e
  cases e
  simp only [List.drop] at hnext ⊢
  have nd' : (List.map (fun x : Str × Option Value => x.fst) [("k", ok), ("numbers", some (.ref D)), ("one", none), ("tops", some (.ref la)), ("planted", some (.ref lp)), ("size", some (.int (F.length : Int) tz)), ("shift", osh), ("name", o1), ("number", o2), ("deep", some (.ref ld)), ("sorter", some (.ref S.s)), ("told", some (.ref lt)), ("course", none), ("whole", none), ("drawn", none)]).Nodup := of_decide_eq_true (by kernel_rfl)
  have hfl : F.length ≤ 39 := by have := good.len; omega
  have hrl : (refs Ro).length = F.length := by rw [List.length_map, rt.length]
  have tr := good.tree ht3
  obtain ⟨or3, c3', d3'⟩ := lw.cr
  k_steps
  unfold Stop
  refine wpAny_Try_except ?_
  k_steps
  have nin : ∀ b, LAd Z L b → b ∉ (inP (sP1 S lt) V).map (·.1) := fun b hb q => by
    obtain ⟨x, hx, e⟩ := List.mem_map.mp q
    have h1 := (inP_sub x hx).2
    rw [e, sP1_no (sep b hb) (hap b hb)] at h1; cases h1
  have hz : ∀ q ∈ Z, LAd Z L q.1 := fun q hq => .inr (.inr (.inr (.inr (.inr ⟨q, hq, rfl⟩))))
  have hget : ∀ q ∈ Z, (hideAll h ((inP (sP1 S lt) V).map (·.1))).get? q.1 = some q.2 := fun q hq => hideAll_get _ (nget N' (lw.z _ hq)) (nin _ (hz q hq))
  have hB : Base w (hideAll h ((inP (sP1 S lt) V).map (·.1))) lr ld F.length (mF F) (dF F) := by
    refine ⟨⟨refs Ro, kr, hget _ zr, hrl, fun x hx => ?_⟩, ⟨dvs, kd, hget _ zd, by rw [hdv.length, List.length_map, List.length_range], fun y hy => hdv.get (by rw [List.getElem?_map, List.getElem?_range hy]; rfl)⟩⟩
    obtain ⟨ra, cs, kc, hra, hrv⟩ := rt.at (at_get hx)
    refine ⟨ra, cs, kc, refs_at hra, hget _ (zro _ (List.mem_of_getElem? hra)), hrv.length, fun y hy => hrv.at (at_get hy)⟩
  have hS1 : Srt w (inP (sP1 S lt) V) S := hS.mono2 (inP_nd hS.nd) fun b ob hb e => inP_look hS.nd (sP1_S hb) e
  refine wpAny_call (course_ok (W := inP (sP1 S lt) V) (num := nF F) X' T' (fun b o e => F'.keep b o e) hh (by omega) (by omega) (fun p hp => (N' p (inP_sub p hp).1).1) (fun p hp => (N' p (inP_sub p hp).1).2.2) hS1 hrd hB hts (inP_look hS.nd sP1_a hoT) hT hnT tr hM hpo
    fun h3 tk3 V3 lc cv C kc S3 kp3 hV3 fr3 hS3 sm3 hpo3 hrdy3 hlc3 hhv3 hpw3 hmem3 htd3 => ?_)
  obtain ⟨V4, F4, N4, nd4, L4, O4⟩ := after_P F' N' hS.nd kp3 hV3 fr3 hS3.nd
  have lw4 := lw.viaA nd4 fun b x hb e => O4 b x (sP1_no (sep b hb) (hap b hb)) e
  have hS4 := hS3.std nd4 L4
  obtain ⟨as, hhv⟩ := hhv3
  obtain ⟨oT4, ks, hoT4, hT4, hks⟩ := htd3
  have hhv4 := hhv.mono (W' := V4) (fun _ _ e => e) fun a us e => L4 _ _ e
  have hlc4 := L4 _ _ hlc3
  have hlt4 := L4 _ _ hoT4
  clear F' N'
  have F' := F4
  have N' := N4
  clear F4 N4
  dsimp only
  k_steps
  unfold Stop
  have lk5 : ∀ b x, V4.lookup b = some x → ((r', rangeObj (F.length : Nat) t' u' v') :: V4).lookup b = some x := fun b x e => by rw [look_cons, if_neg fun z => nr' _ (look_mem e) z]; exact e
  have lw5 := lw4.push (o := rangeObj (F.length : Nat) t' u' v') nr'
  have hS5 := hS4.std lw5.nd (Std.refl.cons nr')
  have hr5 : ((r', rangeObj (F.length : Nat) t' u' v') :: V4).lookup r' = some (rangeObj (F.length : Nat) t' u' v') := by rw [look_cons, if_pos rfl]
  have hlc5 := lk5 _ _ hlc4
  have hlt5 := lk5 _ _ hlt4
  have hhv5 := hhv4.mono (W' := (r', rangeObj (F.length : Nat) t' u' v') :: V4) (fun _ _ e => e) fun a us e => lk5 _ _ e
  generalize (r', rangeObj (F.length : Nat) t' u' v') :: V4 = V5 at N' lw5 hS5 hr5 hlc5 hlt5 hhv5
  clear lk5 hS4 hlc4 hlt4 hhv4 nr' hhv lw4 O4 L4 hlc3 hoT4 hV3 fr3
  have hrt : (refs Tn).length = F.length := by rw [List.length_map, pt.length]
  refine compGenX (K := fun o => ∃ us, o = tupObj us) (iterRange (r := r') (n := F.length) (by omega)) (fun j vs W => (∀ b o, V5.lookup b = some o → (W).lookup b = some o) ∧ vs.length = j ∧ ∀ i, i < j → PairV (nF F) W (vs.getD i .none) i)
    selfRange hh (by decide) rfl (by decide) (by omega) F' N' lw5.nd ?_ ?_ ?_ ?_ ?_ ?_
  · rintro j vs W h6 ⟨kp, _⟩ _ N6
    exact ⟨_, _, _, nget N6 (kp _ _ hr5)⟩
  · exact ⟨fun _ _ e => e, rfl, fun i hi => by omega⟩
  · refine ⟨fun i o h ⟨us, q⟩ => ?_, fun vs n ⟨us, q⟩ => ?_, fun o m ⟨es, ep, h, _⟩ ⟨us, q⟩ => ?_⟩
    · rw [h] at q; exact absurd (congrArg Obj.cls q) (by simp)
    · exact absurd (congrArg Obj.cls q) (by simp)
    · rw [q] at h; cases h
  · intro it D2 Cc hap2 j vs W W' ndW hk hx9; obtain ⟨kp, hl, pv⟩ := hx9
    refine ⟨fun b o e => ?_, hl, fun i hi => ?_⟩
    · have z := hap2 _ (look_mem e)
      exact hk b o (.inr z) (kp b o e)
    · obtain ⟨a, t, t', e, ea⟩ := pv i hi
      refine ⟨a, t, t', e, hk a _ (.inl ⟨_, rfl⟩) ea⟩
  · intro j v vs W h6 tk6 it6 o6 D6 nD6 C6 oC6 m6 hj; rintro ⟨tj, rfl⟩; intro hx9; obtain ⟨kp, hvl, pv⟩ := hx9; intro _ F6 N6 nd6 hap6 hlo6 hlD6 hlC6 hm6 hmx6
    clear F' N' nd'
    have F' := F6
    have N' := N6
    clear F6 N6
    have lw6 := lw5.viaA nd6 fun b x _ e => kp b x e
    obtain ⟨of, c4', d4'⟩ := lw6.cf
    obtain ⟨ta, tt, tt', hta⟩ := pt.at (at_get hj)
    have htr := refs_at hta
    have hlf6 : (W).lookup lf = some (listOf (refs Tn).toArray 0) := lw6.z _ zf
    have hTa : (W).lookup ta = some (tupObj [.str (at' F j).1 tt, .int ((at' F j).2 : Int) tt']) := lw6.z _ (zt _ (List.mem_of_getElem? hta))
    k_steps
    rename_i Dq hq Fq Nq lq
    have nq : ∀ p ∈ W, p.1 ≠ Dq := fun p hp => Nat.ne_of_lt (lq p hp)
    have lkq : ∀ b ob, (W).lookup b = some ob → ((Dq, tupObj [.int ((at' F j).2 : Int) tt', .int (j : Int) tj]) :: W).lookup b = some ob := fun b ob e => by
      rw [look_cons, if_neg fun q => nq _ (look_mem e) q]; exact e
    refine ⟨_, hq, _, rfl, Fq, Nq, (lw6.push nq).nd, lkq _ _ hlo6, lkq _ _ hlD6, ⟨oC6, m6, lkq _ _ hlC6, hm6⟩, fun b o e => lkq _ _ (kp b o e), by simp [hvl], fun i hi => ?_⟩
    rcases Nat.lt_or_ge i j with h1 | h1
    · obtain ⟨a, t, t', e, ea⟩ := pv i h1
      refine ⟨a, t, t', ?_, lkq _ _ ea⟩
      rw [List.getD_eq_getElem?_getD, List.getElem?_append_left (by omega), ← List.getD_eq_getElem?_getD]; exact e
    · have : i = j := by omega
      subst this
      refine ⟨Dq, _, _, ?_, by rw [look_cons, if_pos rfl]; rfl⟩
      rw [List.getD_eq_getElem?_getD, List.getElem?_append_right (by omega), hvl, Nat.sub_self]; rfl
  · intro vs W h6 tk6 D6 nD6 hx9; obtain ⟨kp, hvl, pv⟩ := hx9; intro F6 N6 nd6 hlD6 hapD6
    clear F' N'
    have F' := F6
    have N' := N6
    clear F6 N6
    k_steps
    unfold Stop
    refine sortP (num := nF F) F' N' hlD6 (fun i hi => pv i (by omega)) (by omega) (by omega) fun D7 h7 tk7 e7 C7 F7 N7 ap7 pm7 pw7 => ?_
    obtain rfl : C7 = C := sorted_one (fun a b p q => by
      have := klt_kx.mp p
      have := klt_kx.mp q
      omega) pw7 hpw3 fun x => by rw [pm7.mem_iff, List.mem_range, hvl, hmem3]
    have lk7 : ∀ b x, (W).lookup b = some x → ((D7, listOf (C7.map fun i => vs.getD i .none).toArray e7) :: W).lookup b = some x := fun b x e => by rw [look_cons, if_neg fun z => ap7 _ (look_mem e) z]; exact e
    have nd7 : (((D7, listOf (C7.map fun i => vs.getD i .none).toArray e7) :: W).map (·.1)).Nodup := by
      rw [List.map_cons, List.nodup_cons]
      exact ⟨fun hm => by obtain ⟨p, hp, e⟩ := List.mem_map.mp hm; exact ap7 p hp e, nd6⟩
    have lw7 := lw5.viaA nd7 fun b x _ e => lk7 _ _ (kp b x e)
    have hS7 := hS5.mono2 nd7 fun b x _ e => lk7 _ _ (kp b x e)
    have hlt7 := lk7 _ _ (kp _ _ hlt5)
    clear F' N'
    have F' := F7
    have N' := N7
    clear F7 N7
    dsimp only
    k_steps
    unfold Stop
    show wpAny _ _ (richCompare .NotEq _ _) _ _ _
    have hcl := hhv5.length
    refine neTups (num := nF F) (xs := cv) (ys := C7.map fun i => vs.getD i .none) (by omega) ⟨_, nget N' (lk7 _ _ (kp _ _ hlc5)), rfl, kc, rfl⟩ ⟨_, nget N' (by rw [look_cons, if_pos rfl]), rfl, e7, rfl⟩ (by rw [List.length_map]; exact hcl) (fun j hj => ?_) PG w _ _ ?_
    · have hj' : j < C7.length := by omega
      have hx : C7[j]? = some C7[j] := List.getElem?_eq_getElem hj'
      obtain ⟨a, t, t', e1, e2⟩ := hhv5.at2 hx
      obtain ⟨b, u, u', e3, e4⟩ := pv C7[j] ((hmem3 _).mp (List.mem_of_getElem? hx))
      refine ⟨_, _, _, _, _, _, _, e1, by rw [List.getElem?_map, hx]; exact congrArg some e3, nget N' (lk7 _ _ (kp _ _ e2)), nget N' (lk7 _ _ e4)⟩
    generalize (D7, listOf (C7.map fun i => vs.getD i .none).toArray e7) :: W = W7 at N' lw7 hS7 hlt7 nd7
    have hs3 := sm3.s
    k_steps
    refine wpAny_call (codeAny_arg hs3 (isActive_ok (W := inP (sP S3) W7) X' T' (fun b o e => F'.keep b o e) (by omega) (by omega) (fun p hp => (N' p (inP_sub p hp).1).1) (fun p hp => (N' p (inP_sub p hp).1).2.2) hS7.inP (sm3.rd.trans hrd) (by rw [hrdy3]; exact Nat.zero_le _) fun h8 tk8 kp8 kw8 => ?_))
    rw [show (decide (S3.nf < S3.po) || !S3.ready.isEmpty) = false by rw [hpo3, hrdy3]; simp]
    have ka : ∀ b o, h7.get? b = some o → h8.get? b = some o := fun b o e => by
      by_cases hb : b ∈ (inP (sP S3) W7).map (·.1)
      · obtain ⟨p, hp, rfl⟩ := List.mem_map.mp hb
        have e2 := (N' p (inP_sub p hp).1).1
        rw [e] at e2; cases e2
        exact kw8 p hp
      · exact kp8 b o (fun p hp q => hb (List.mem_map.mpr ⟨p, hp, q⟩)) e
    have F8 := F'.keptAll ka
    have N8 := N'.keepsAll ka
    clear F' N'
    have F' := F8
    have N' := N8
    clear F8 N8
    dsimp only
    k_steps
    unfold Stop
    exact hnext _ _ _ _ _ _ _ F' N' lw7 hlt7 hT4 hks
theorem all : ∀ y, P_ y := @pick_all _ _ P_ (by with_unfolding_all exact core)
end law_s6_
theorem law_s6 {w A s g L sc V Z h tk Q loose mean mg mb p D la lp lf lr ld lt rl kr kd dvs ok osh o1 o2 vd vx tz Ro Tn F tops S oT} : law_s6_.Q_ w A s g L sc V Z h tk Q loose mean mg mb p D la lp lf lr ld lt rl kr kd dvs ok osh o1 o2 vd vx tz Ro Tn F tops S oT := @law_s6_.all (w, A, s, g, L, sc, V, Z, h, tk, Q, loose, mean, mg, mb, p, D, la, lp, lf, lr, ld, lt, rl, kr, kd, dvs, ok, osh, o1, o2, vd, vx, tz, Ro, Tn, F, tops, S, oT)
end
theorem kz_zm_s6 : True := by
  k_with "zm_s6" => skip
  trivial
theorem kl_zm_s7 : True := by
  k_with "lia" => ((fail_if_success k_extra "zm_s7"); lia)
  trivial
/-! the law, last part: the products -/
theorem readT {w : World} {A : Around} {E : Value → Shared → Prop} {s : Shared} {g : Heap} {L lt : Addr} {V : List (Addr × Obj)} {oT : Obj} {num : Nat → Nat} {ks : List Nat} {x : Nat} {t : Tok} {value slice : PySem.Expr} {Q : Value → Shared → Prop} (N : News g L s.heap V) (hl : V.lookup lt = some oT) (ht : Told w oT num ks) (hx : x ∈ ks) (h : ∀ t', Q (.int (num x : Int) t') { s with toks := s.toks + 1 })
    (hs : subscripted slice false (.ref lt) (.int (x : Int) t) = operate [.ref lt, .int (x : Int) t] (getItem (.ref lt) (.int (x : Int) t)) := by with_unfolding_all rfl) (hg : ∀ r, letTemporaryGo value (.ref lt) r = pure () := by intro _; with_unfolding_all rfl) :
    wpAny (model PG w) A (subscriptTail value slice (.ref lt) (.int (x : Int) t)) Q E s := by
  obtain ⟨kvs, hd, hk, hv'⟩ := ht
  obtain ⟨t', e⟩ := hv' x hx
  exact kda_item (knd := iK w) (k := (x : Int)) N (look_mem hl) hd (intKind_is _ _ _ _) e (h t') hs hg
section
theorem kw_zm_s7 : True := by
  k_with "eval Name" => ((fail_if_success k_extra "zm_s7"); k_here; (with_reducible show wpAny _ _ (eval (Expr.Name _ _) (lawEnv _ _)) _ _ _); k_dflt (refine' ldXC ?z1 ?z2 ?z3 ?z4 ?_ ?z5 ?z6 ?z7; (case z1 => assumption); (case z2 => rfl); (case z3 => assumption); (case z4 => assumption); (case z5 => rfl); (case z6 => rfl); (case z7 => decide); k_whole))
  k_with "call type:range" => ((fail_if_success k_extra "zm_s7"); k_here; k_dflt (refine' callRange ?z1 ?z2 ?_; (case z1 => assumption); (case z2 => assumption); k_whole); intro r' h' t' u' v' tk' F' N' nr'; (try dsimp only at F' N'))
  k_with "subscriptTail" => ((fail_if_success k_extra "zm_s7"); k_here; (with_reducible show wpAny _ _ (subscriptTail _ _ (Value.ref _) (Value.int (Nat.cast _) _)) _ _ _); k_dflt (first | (refine' readT ?z1 ?z2 ?z3 ?z4 ?_; (case z1 => assumption); (case z2 => assumption); (case z3 => assumption); (case z4 => assumption); k_whole; intro t') | (refine' rdK ?z1 ?z2 ?z3 ?z4 ?_; (case z1 => assumption); (case z2 => exact look_mem (by assumption)); (case z3 => assumption); (case z4 => omega); k_whole)))
  k_with "inplaceOp Mult int int" => ((fail_if_success k_extra "zm_s7"); k_here; k_dflt (refine' PyProof.Rows.imul_int ?_ (IntMulOk.of_right ?z1); (case z1 => assumption); k_whole))
  trivial
namespace law_s7_
def Q_ (w : World) (A : Around) (s : Shared) (g : Heap) (L : Addr) (sc : Addr) (V : List (Addr × Obj)) (Z : List (Addr × Obj)) (h : Heap) (tk : Nat) (Q : Flow → Shared → Prop) (loose : List Str) (mean : ExcName → Option Value) (mg : Str → Option Value) (mb : Str → Option Value) (p : Program) (D : Addr) (la : Addr) (lp : Addr) (lf : Addr) (lr : Addr) (ld : Addr) (lt : Addr) (tv : List Value) (dvs : List Value) (tn : Nat) (kd : Nat) (ok : Option Value) (osh : Option Value) (o1 : Option Value) (o2 : Option Value) (vd : Option Value) (vx : Option Value) (ocs : Option Value) (sv : Value) (tz : Tok) (F : List NT) (tops : List Nat) (ks : List Nat) (oT : Obj) : Prop := ∀ {body : List Stmt} {scope : Scope} (hb : LawFn w body scope) (X' : (hd.heap_1 w.params).In g) (T' : Top p loose mean mg mb g) (hh : A.handled = none) (hroom : A.depth ≤ 303) (hun : A.units ≤ 20) (ns' : (scope.names.map (·.1)).Nodup) (F' : Fr g L h (fv ([("k", ok), ("numbers", some (.ref D)), ("one", none), ("tops", some (.ref la)), ("planted", some (.ref lp)), ("size", some (.int (F.length : Int) tz)), ("shift", osh), ("name", o1), ("number", o2), ("deep", some (.ref ld)), ("sorter", some sv), ("told", some (.ref lt)), ("course", ocs), ("whole", none), ("drawn", none)] : List (Str × Option Value)))) (N' : News g L h V) (good : Good F tops tops.length) (ht3 : tops.length ≤ 3) (htt : ∀ t ∈ tops, 1 ≤ t ∧ t ≤ 10) (lw : LW V Z L (some (.ref sc)) (some (.ref lf)) (some (.ref lr)) vd vx) (zd : (ld, listOf dvs.toArray kd) ∈ Z) (za : (la, listOf tv.toArray tn) ∈ Z) (hdv : IV dvs ((List.range F.length).map (dF F))) (htv : IV tv tops) (hlt : V.lookup lt = some oT) (hT : Told w oT (nF F) ks) (hks : ∀ y, y ∈ ks ↔ y < F.length) (hap : ∀ b, LAd Z L b → b ≠ lt) (hfin : ∀ h tk, (∀ b o, g.get? b = some o → h.get? b = some o) → Q (.ret (.bool true)) { s with heap := h, toks := tk }), wpAny (model PG w) A (execs (body.drop 17) (lawEnv scope L)) Q (fun _ _ => False) { s with heap := h, toks := tk }
noncomputable section
def P_ (x : World × Around × Shared × Heap × Addr × Addr × (List (Addr × Obj)) × (List (Addr × Obj)) × Heap × Nat × (Flow → Shared → Prop) × (List Str) × (ExcName → Option Value) × (Str → Option Value) × (Str → Option Value) × Program × Addr × Addr × Addr × Addr × Addr × Addr × Addr × (List Value) × (List Value) × Nat × Nat × (Option Value) × (Option Value) × (Option Value) × (Option Value) × (Option Value) × (Option Value) × (Option Value) × Value × Tok × (List NT) × (List Nat) × (List Nat) × Obj) : Prop := Q_ x.1 x.2.1 x.2.2.1 x.2.2.2.1 x.2.2.2.2.1 x.2.2.2.2.2.1 x.2.2.2.2.2.2.1 x.2.2.2.2.2.2.2.1 x.2.2.2.2.2.2.2.2.1 x.2.2.2.2.2.2.2.2.2.1 x.2.2.2.2.2.2.2.2.2.2.1 x.2.2.2.2.2.2.2.2.2.2.2.1 x.2.2.2.2.2.2.2.2.2.2.2.2.1 x.2.2.2.2.2.2.2.2.2.2.2.2.2.1 x.2.2.2.2.2.2.2.2.2.2.2.2.2.2.1 x.2.2.2.2.2.2.2.2.2.2.2.2.2.2.2.1 x.2.2.2.2.2.2.2.2.2.2.2.2.2.2.2.2.1 x.2.2.2.2.2.2.2.2.2.2.2.2.2.2.2.2.2.1 x.2.2.2.2.2.2.2.2.2.2.2.2.2.2.2.2.2.2.1 x.2.2.2.2.2.2.2.2.2.2.2.2.2.2.2.2.2.2.2.1 x.2.2.2.2.2.2.2.2.2.2.2.2.2.2.2.2.2.2.2.2.1 x.2.2.2.2.2.2.2.2.2.2.2.2.2.2.2.2.2.2.2.2.2.1 x.2.2.2.2.2.2.2.2.2.2.2.2.2.2.2.2.2.2.2.2.2.2.1 x.2.2.2.2.2.2.2.2.2.2.2.2.2.2.2.2.2.2.2.2.2.2.2.1 x.2.2.2.2.2.2.2.2.2.2.2.2.2.2.2.2.2.2.2.2.2.2.2.2.1 x.2.2.2.2.2.2.2.2.2.2.2.2.2.2.2.2.2.2.2.2.2.2.2.2.2.1 x.2.2.2.2.2.2.2.2.2.2.2.2.2.2.2.2.2.2.2.2.2.2.2.2.2.2.1 x.2.2.2.2.2.2.2.2.2.2.2.2.2.2.2.2.2.2.2.2.2.2.2.2.2.2.2.1 x.2.2.2.2.2.2.2.2.2.2.2.2.2.2.2.2.2.2.2.2.2.2.2.2.2.2.2.2.1 x.2.2.2.2.2.2.2.2.2.2.2.2.2.2.2.2.2.2.2.2.2.2.2.2.2.2.2.2.2.1 x.2.2.2.2.2.2.2.2.2.2.2.2.2.2.2.2.2.2.2.2.2.2.2.2.2.2.2.2.2.2.1 x.2.2.2.2.2.2.2.2.2.2.2.2.2.2.2.2.2.2.2.2.2.2.2.2.2.2.2.2.2.2.2.1 x.2.2.2.2.2.2.2.2.2.2.2.2.2.2.2.2.2.2.2.2.2.2.2.2.2.2.2.2.2.2.2.2.1 x.2.2.2.2.2.2.2.2.2.2.2.2.2.2.2.2.2.2.2.2.2.2.2.2.2.2.2.2.2.2.2.2.2.1 x.2.2.2.2.2.2.2.2.2.2.2.2.2.2.2.2.2.2.2.2.2.2.2.2.2.2.2.2.2.2.2.2.2.2.1 x.2.2.2.2.2.2.2.2.2.2.2.2.2.2.2.2.2.2.2.2.2.2.2.2.2.2.2.2.2.2.2.2.2.2.2.1 x.2.2.2.2.2.2.2.2.2.2.2.2.2.2.2.2.2.2.2.2.2.2.2.2.2.2.2.2.2.2.2.2.2.2.2.2.1 x.2.2.2.2.2.2.2.2.2.2.2.2.2.2.2.2.2.2.2.2.2.2.2.2.2.2.2.2.2.2.2.2.2.2.2.2.2.1 x.2.2.2.2.2.2.2.2.2.2.2.2.2.2.2.2.2.2.2.2.2.2.2.2.2.2.2.2.2.2.2.2.2.2.2.2.2.2.1 x.2.2.2.2.2.2.2.2.2.2.2.2.2.2.2.2.2.2.2.2.2.2.2.2.2.2.2.2.2.2.2.2.2.2.2.2.2.2.2
def x_ := pick (dW, callerA, ({} : Shared), default, default, default, default, default, default, default, default, default, default, default, default, PG, default, default, default, default, default, default, default, default, default, default, default, default, default, default, default, default, default, default, default, default, default, default, default, default) fun x => ¬ P_ x
@[irreducible] def w := x_.1
@[irreducible] def A := x_.2.1
@[irreducible] def s := x_.2.2.1
@[irreducible] def g := x_.2.2.2.1
@[irreducible] def L := x_.2.2.2.2.1
@[irreducible] def sc := x_.2.2.2.2.2.1
@[irreducible] def V := x_.2.2.2.2.2.2.1
@[irreducible] def Z := x_.2.2.2.2.2.2.2.1
@[irreducible] def h := x_.2.2.2.2.2.2.2.2.1
@[irreducible] def tk := x_.2.2.2.2.2.2.2.2.2.1
@[irreducible] def Q := x_.2.2.2.2.2.2.2.2.2.2.1
@[irreducible] def loose := x_.2.2.2.2.2.2.2.2.2.2.2.1
@[irreducible] def mean := x_.2.2.2.2.2.2.2.2.2.2.2.2.1
@[irreducible] def mg := x_.2.2.2.2.2.2.2.2.2.2.2.2.2.1
@[irreducible] def mb := x_.2.2.2.2.2.2.2.2.2.2.2.2.2.2.1
@[irreducible] def p := x_.2.2.2.2.2.2.2.2.2.2.2.2.2.2.2.1
@[irreducible] def D := x_.2.2.2.2.2.2.2.2.2.2.2.2.2.2.2.2.1
@[irreducible] def la := x_.2.2.2.2.2.2.2.2.2.2.2.2.2.2.2.2.2.1
@[irreducible] def lp := x_.2.2.2.2.2.2.2.2.2.2.2.2.2.2.2.2.2.2.1
@[irreducible] def lf := x_.2.2.2.2.2.2.2.2.2.2.2.2.2.2.2.2.2.2.2.1
@[irreducible] def lr := x_.2.2.2.2.2.2.2.2.2.2.2.2.2.2.2.2.2.2.2.2.1
@[irreducible] def ld := x_.2.2.2.2.2.2.2.2.2.2.2.2.2.2.2.2.2.2.2.2.2.1
@[irreducible] def lt := x_.2.2.2.2.2.2.2.2.2.2.2.2.2.2.2.2.2.2.2.2.2.2.1
@[irreducible] def tv := x_.2.2.2.2.2.2.2.2.2.2.2.2.2.2.2.2.2.2.2.2.2.2.2.1
@[irreducible] def dvs := x_.2.2.2.2.2.2.2.2.2.2.2.2.2.2.2.2.2.2.2.2.2.2.2.2.1
@[irreducible] def tn := x_.2.2.2.2.2.2.2.2.2.2.2.2.2.2.2.2.2.2.2.2.2.2.2.2.2.1
@[irreducible] def kd := x_.2.2.2.2.2.2.2.2.2.2.2.2.2.2.2.2.2.2.2.2.2.2.2.2.2.2.1
@[irreducible] def ok := x_.2.2.2.2.2.2.2.2.2.2.2.2.2.2.2.2.2.2.2.2.2.2.2.2.2.2.2.1
@[irreducible] def osh := x_.2.2.2.2.2.2.2.2.2.2.2.2.2.2.2.2.2.2.2.2.2.2.2.2.2.2.2.2.1
@[irreducible] def o1 := x_.2.2.2.2.2.2.2.2.2.2.2.2.2.2.2.2.2.2.2.2.2.2.2.2.2.2.2.2.2.1
@[irreducible] def o2 := x_.2.2.2.2.2.2.2.2.2.2.2.2.2.2.2.2.2.2.2.2.2.2.2.2.2.2.2.2.2.2.1
@[irreducible] def vd := x_.2.2.2.2.2.2.2.2.2.2.2.2.2.2.2.2.2.2.2.2.2.2.2.2.2.2.2.2.2.2.2.1
@[irreducible] def vx := x_.2.2.2.2.2.2.2.2.2.2.2.2.2.2.2.2.2.2.2.2.2.2.2.2.2.2.2.2.2.2.2.2.1
@[irreducible] def ocs := x_.2.2.2.2.2.2.2.2.2.2.2.2.2.2.2.2.2.2.2.2.2.2.2.2.2.2.2.2.2.2.2.2.2.1
@[irreducible] def sv := x_.2.2.2.2.2.2.2.2.2.2.2.2.2.2.2.2.2.2.2.2.2.2.2.2.2.2.2.2.2.2.2.2.2.2.1
@[irreducible] def tz := x_.2.2.2.2.2.2.2.2.2.2.2.2.2.2.2.2.2.2.2.2.2.2.2.2.2.2.2.2.2.2.2.2.2.2.2.1
@[irreducible] def F := x_.2.2.2.2.2.2.2.2.2.2.2.2.2.2.2.2.2.2.2.2.2.2.2.2.2.2.2.2.2.2.2.2.2.2.2.2.1
@[irreducible] def tops := x_.2.2.2.2.2.2.2.2.2.2.2.2.2.2.2.2.2.2.2.2.2.2.2.2.2.2.2.2.2.2.2.2.2.2.2.2.2.1
@[irreducible] def ks := x_.2.2.2.2.2.2.2.2.2.2.2.2.2.2.2.2.2.2.2.2.2.2.2.2.2.2.2.2.2.2.2.2.2.2.2.2.2.2.1
@[irreducible] def oT := x_.2.2.2.2.2.2.2.2.2.2.2.2.2.2.2.2.2.2.2.2.2.2.2.2.2.2.2.2.2.2.2.2.2.2.2.2.2.2.2
end
set_option maxHeartbeats 2000000 in
theorem core : Q_ w A s g L sc V Z h tk Q loose mean mg mb p D la lp lf lr ld lt tv dvs tn kd ok osh o1 o2 vd vx ocs sv tz F tops ks oT := by
  intro body scope hb X' T' hh hroom hun ns' F' N' good ht3 htt lw zd za hdv htv hlt hT hks hap hfin
  have hr1 : A.depth + 60 < recursionLimit := Nat.lt_of_le_of_lt (Nat.add_le_add_right hroom 60) (by decide)
  have hu1 : A.units + 60 < cLine := Nat.lt_of_le_of_lt (Nat.add_le_add_right hun 60) (by decide)
  obtain ⟨oc, od, name, params, dV, kV, doc, pm, an, cdv, ct, osl, e⟩ := hb
  rw [show (hd.heap_1 w.params).lookup 269 = some _ from by k_is] at e
  cases e
  simp only [List.drop]
  have nd' : (List.map (fun x : Str × Option Value => x.fst) [("k", ok), ("numbers", some (.ref D)), ("one", none), ("tops", some (.ref la)), ("planted", some (.ref lp)), ("size", some (.int (F.length : Int) tz)), ("shift", osh), ("name", o1), ("number", o2), ("deep", some (.ref ld)), ("sorter", some sv), ("told", some (.ref lt)), ("course", ocs), ("whole", none), ("drawn", none)]).Nodup := of_decide_eq_true (by kernel_rfl)
  have hfl : F.length ≤ 39 := by have := good.len; omega
  have hdl : dvs.length = F.length := by rw [hdv.length, List.length_map, List.length_range]
  have htl := htv.length
  k_steps
  unfold Stop
  have hT0 : ((r', rangeObj (F.length : Nat) t' u' v') :: V).lookup lt = some oT := by rw [look_cons, if_neg fun q => nr' _ (look_mem hlt) q]; exact hlt
  have lw0 := lw.push (o := rangeObj (F.length : Nat) t' u' v') nr'
  have lwR := lw0.addR (a := r') (by rw [look_cons, if_pos rfl])
  refine forGenX (K := Kr) (iterRange (r := r') (n := F.length) (by omega)) (fun i fl V2 => ∃ vx a ta, fl = ([("k", ok), ("numbers", some (.ref D)), ("one", none), ("tops", some (.ref la)), ("planted", some (.ref lp)), ("size", some (.int (F.length : Int) tz)), ("shift", osh), ("name", o1), ("number", o2), ("deep", some (.ref ld)), ("sorter", some sv), ("told", some (.ref lt)), ("course", ocs), ("whole", some (.int a ta)), ("drawn", none)] : List (Str × Option Value)) ∧ LW V2 ((r', rangeObj (F.length : Nat) t' u' v') :: Z) L (some (.ref sc)) (some (.ref lf)) (some (.ref lr)) vd vx ∧ V2.lookup lt = some oT ∧
    a = ((List.range F.length).take i).foldl (fun a x => if dF F x = 1 then a * prim (nF F x) else a) 1) ?_ F' N' lw0.nd ?_ ?_ ?_ ?_ ?_ ?_ ?_ ?_
  · exact hh
  · intro i fl V2 h2 hx9; obtain ⟨vx, a, ta, rfl, lw2, _⟩ := hx9; intro _ N2
    exact ⟨_, _, _, nget N2 lw2.look⟩
  · refine ⟨vx, _, _, rfl, lwR, hT0, rfl⟩
  · rintro it o hni _
    refine ⟨vx, _, _, rfl, lwR.push hni, by rw [look_cons, if_neg fun q => hni _ (look_mem hT0) q]; exact hT0, rfl⟩
  · exact fun i o h => by rw [h]; exact Kr.not rfl rfl (by decide)
  · intro i fl V2 V3 nd3 _ hk hx9; obtain ⟨vx, a, ta, hf, lw2, hT2, ha⟩ := hx9
    refine ⟨vx, a, ta, hf, lw2.mono nd3 hk, hk _ _ (.inl hT.kf) hT2, ha⟩
  · intro i v fl V2 h2 tk2 it o hi; rintro ⟨ty, rfl⟩; intro hx9; obtain ⟨vx, a, ta, rfl, lw2, hT2, ha⟩ := hx9; intro F2 N2 nd2 hlo hio Qf hQf
    clear F' N' nd'
    obtain ⟨ox, ex, dx⟩ := lw2.cx
    refine wpAny_assign_Name (stXC F2 N2 nd2 rfl ex dx (fun h3 o3 hd3 F3 N3 => ?_) rfl rfl)
    have lw3 := lw2.setX ex dx hd3
    have k3 : ∀ b x, b ≠ L + 1 + 1 + 1 + 1 + 1 → V2.lookup b = some x → (putW V2 (L + 1 + 1 + 1 + 1 + 1) o3).lookup b = some x := fun b x hb e => by rw [look_put (by rw [ex]; rfl), if_neg hb]; exact e
    have hT3 := k3 lt oT (hap _ (.inr (.inr (.inr (.inr (.inl rfl)))))).symm hT2
    have hlo3 := k3 it o (fun q => by
      rw [q, ex] at hlo; cases hlo
      have := congrArg Obj.data hio
      rw [dx] at this; cases this) hlo
    generalize putW V2 (L + 1 + 1 + 1 + 1 + 1) o3 = V3 at N3 lw3 hT3 hlo3
    clear F2 N2 k3 ex dx nd2
    have F' := F3
    have N' := N3
    clear F3 N3
    have nd' : (List.map (fun x : Str × Option Value => x.fst) [("k", ok), ("numbers", some (.ref D)), ("one", none), ("tops", some (.ref la)), ("planted", some (.ref lp)), ("size", some (.int (F.length : Int) tz)), ("shift", osh), ("name", o1), ("number", o2), ("deep", some (.ref ld)), ("sorter", some sv), ("told", some (.ref lt)), ("course", ocs), ("whole", some (.int a ta)), ("drawn", none)]).Nodup := of_decide_eq_true (by kernel_rfl)
    obtain ⟨ox, c5', d5'⟩ := lw3.cx
    have hlD : V3.lookup ld = some (listOf dvs.toArray kd) := lw3.z _ (.tail _ zd)
    obtain ⟨td, hdi⟩ := hdv.get (i := i) (x := dF F i) (by rw [List.getElem?_map, List.getElem?_range hi]; rfl)
    have hik : i ∈ ks := (hks i).mpr hi
    have hn10 : nF F i ≤ 10 := (good.tree ht3).num10 i
    have htk : ((List.range F.length).take (i + 1)).foldl (fun a x => if dF F x = 1 then a * prim (nF F x) else a) 1 = if dF F i = 1 then a * prim (nF F i) else a := by
      rw [List.take_add_one, List.getElem?_range hi, List.foldl_append, ← ha]; rfl
    k_steps
    · have hpb := prim_bits hn10
      refine wpAny_call (prime_ok X' T' (fun b o e => F'.keep b o e) (by omega) (by omega) hn10 fun h5 tk5 t5 kp5 => ?_)
      have F5 := F'.keptAll kp5
      have N5 := N'.keepsAll kp5
      clear F' N'
      have F' := F5
      have N' := N5
      clear F5 N5
      dsimp only
      k_steps
      have hd1 : (dF F i : Int) = 1 := by assumption
      refine ⟨_, V3, _, _, rfl, F', N', lw3.nd, hlo3, _, _, _, rfl, lw3, hT3, by rw [htk, if_pos (by omega)]⟩
    · have hd1 : (dF F i : Int) ≠ 1 := by assumption
      refine ⟨_, V3, _, _, rfl, F', N', lw3.nd, hlo3, _, _, _, rfl, lw3, hT3, by rw [htk, if_neg (by omega)]⟩
  · intro fl V2 h2 tk2 hx9; obtain ⟨vx, a, ta, rfl, lw2, hT2, ha⟩ := hx9; intro F2 N2 nd2
    clear F' N' nd'
    have F' := F2
    have N' := N2
    clear F2 N2
    rw [List.take_of_length_le (by rw [List.length_range]; exact Nat.le_refl _), good.whole] at ha
    have hlA : V2.lookup la = some (listOf tv.toArray tn) := lw2.z _ (.tail _ za)
    have nd' : (List.map (fun x : Str × Option Value => x.fst) [("k", ok), ("numbers", some (.ref D)), ("one", none), ("tops", some (.ref la)), ("planted", some (.ref lp)), ("size", some (.int (F.length : Int) tz)), ("shift", osh), ("name", o1), ("number", o2), ("deep", some (.ref ld)), ("sorter", some sv), ("told", some (.ref lt)), ("course", ocs), ("whole", some (.int a ta)), ("drawn", none)]).Nodup := of_decide_eq_true (by kernel_rfl)
    k_steps
    unfold Stop
    refine forGenX (K := Kr) (iterList (l := la) (vs := tv)) (fun i fl V4 => ∃ o3 b tb, fl = ([("k", ok), ("numbers", some (.ref D)), ("one", o3), ("tops", some (.ref la)), ("planted", some (.ref lp)), ("size", some (.int (F.length : Int) tz)), ("shift", osh), ("name", o1), ("number", o2), ("deep", some (.ref ld)), ("sorter", some sv), ("told", some (.ref lt)), ("course", ocs), ("whole", some (.int a ta)), ("drawn", some (.int b tb))] : List (Str × Option Value)) ∧ (V4.map (·.1)).Nodup ∧ V4.lookup la = some (listOf tv.toArray tn) ∧ b = (tops.take i).foldl (fun a t => a * prim t) 1) ?_ F' N' lw2.nd ?_ ?_ ?_ ?_ ?_ ?_ ?_ ?_
    · exact hh
    · intro i fl V4 h4 hx9; obtain ⟨o3, b, tb, rfl, _, hl4, _⟩ := hx9; intro _ N4
      refine ⟨_, nget N4 hl4, rfl, tn, rfl⟩
    · refine ⟨none, _, _, rfl, lw2.nd, hlA, rfl⟩
    · rintro it o hni _
      refine ⟨none, _, _, rfl, (lw2.push (o := o) hni).nd, by rw [look_cons, if_neg fun q => hni _ (look_mem hlA) q]; exact hlA, rfl⟩
    · exact fun i o h => Kr.not h.1 h.2 (by decide)
    · intro i fl V4 V5 nd5 _ hk hx9; obtain ⟨o3, b, tb, hf, _, hl4, hb⟩ := hx9
      refine ⟨o3, b, tb, hf, nd5, hk _ _ (.inl fun _ e => nomatch e) hl4, hb⟩
    · intro i v fl V4 h4 tk4 it o hi hv hx9; obtain ⟨o3, b, tb, rfl, nd4, hl4, hb⟩ := hx9; intro F4 N4 nd4' hlo hio Qf hQf
      clear F' N' nd'
      have F' := F4
      have N' := N4
      clear F4 N4
      obtain ⟨x, tx, hx, rfl⟩ := htv.at hv
      have hx10 := (htt x (List.mem_of_getElem? hx)).2
      have hpb := prim_bits hx10
      have htk : (tops.take (i + 1)).foldl (fun a t => a * prim t) 1 = b * prim x := by
        rw [List.take_add_one, hx, List.foldl_append, ← hb]; rfl
      have nd' : (List.map (fun x : Str × Option Value => x.fst) [("k", ok), ("numbers", some (.ref D)), ("one", o3), ("tops", some (.ref la)), ("planted", some (.ref lp)), ("size", some (.int (F.length : Int) tz)), ("shift", osh), ("name", o1), ("number", o2), ("deep", some (.ref ld)), ("sorter", some sv), ("told", some (.ref lt)), ("course", ocs), ("whole", some (.int a ta)), ("drawn", some (.int b tb))]).Nodup := of_decide_eq_true (by kernel_rfl)
      k_steps
      refine wpAny_call (prime_ok X' T' (fun b o e => F'.keep b o e) (by omega) (by omega) hx10 fun h5 tk5 t5 kp5 => ?_)
      have F5 := F'.keptAll kp5
      have N5 := N'.keepsAll kp5
      clear F' N'
      have F' := F5
      have N' := N5
      clear F5 N5
      dsimp only
      k_steps
      refine ⟨_, V4, _, _, rfl, F', N', nd4', hlo, _, _, _, rfl, nd4, hl4, htk.symm⟩
    · intro fl V4 h4 tk4 hx9; obtain ⟨o3, b, tb, rfl, nd4, hl4, hb⟩ := hx9; intro F4 N4 nd4'
      clear F' N' nd'
      have F' := F4
      have N' := N4
      clear F4 N4
      rw [htl, List.take_of_length_le (Nat.le_refl _)] at hb
      have hab : a = b := ha.trans hb.symm
      have nd' : (List.map (fun x : Str × Option Value => x.fst) [("k", ok), ("numbers", some (.ref D)), ("one", o3), ("tops", some (.ref la)), ("planted", some (.ref lp)), ("size", some (.int (F.length : Int) tz)), ("shift", osh), ("name", o1), ("number", o2), ("deep", some (.ref ld)), ("sorter", some sv), ("told", some (.ref lt)), ("course", ocs), ("whole", some (.int a ta)), ("drawn", some (.int b tb))]).Nodup := of_decide_eq_true (by kernel_rfl)
      k_steps
      have hbb : (a == b) = true := by rw [hab]; simp
      show Q (Flow.ret (Value.bool (a == b))) _
      rw [hbb]
      exact hfin _ _ fun b o e => F'.keep b o e
    · exact fun _ _ => rfl
  · exact fun _ _ => rfl
theorem all : ∀ y, P_ y := @pick_all _ _ P_ (by with_unfolding_all exact core)
end law_s7_
theorem law_s7 {w A s g L sc V Z h tk Q loose mean mg mb p D la lp lf lr ld lt tv dvs tn kd ok osh o1 o2 vd vx ocs sv tz F tops ks oT} : law_s7_.Q_ w A s g L sc V Z h tk Q loose mean mg mb p D la lp lf lr ld lt tv dvs tn kd ok osh o1 o2 vd vx ocs sv tz F tops ks oT := @law_s7_.all (w, A, s, g, L, sc, V, Z, h, tk, Q, loose, mean, mg, mb, p, D, la, lp, lf, lr, ld, lt, tv, dvs, tn, kd, ok, osh, o1, o2, vd, vx, ocs, sv, tz, F, tops, ks, oT)
end
theorem kz_zm_s7 : True := by
  k_with "zm_s7" => skip
  trivial
theorem kl_zm_law : True := by
  k_with "lia" => ((fail_if_success k_extra "zm_law"); lia)
  trivial
/-! the law: the call, and its parts joined -/
theorem five_nd (L : Nat) (o1 o2 o3 o4 o5 : Obj) : (([(L + 1 + 1 + 1 + 1 + 1, o5), (L + 1 + 1 + 1 + 1, o4), (L + 1 + 1 + 1, o3), (L + 1 + 1, o2), (L + 1, o1)] : List (Addr × Obj)).map (·.1)).Nodup := by
  simp only [List.map_cons, List.map_nil, List.nodup_cons, List.mem_cons, List.not_mem_nil, or_false, not_or, List.nodup_nil, and_true, not_false_eq_true]
  refine ⟨⟨?_, ?_, ?_, ?_⟩, ⟨?_, ?_, ?_⟩, ⟨?_, ?_⟩, ?_⟩ <;> (intro h; have h' : (_ : Nat) = _ := h; omega)
theorem fv_none : ∀ (fl : List (Str × Option Value)), (∀ p ∈ fl, p.2 = none) → ∀ y, fv fl y = none
  | [], _, _ => rfl
  | (n, v) :: r, h, y => by
    have h1 := h (n, v) (.head _)
    dsimp only at h1
    subst h1
    have ih := fv_none r (fun p hp => h p (.tail _ hp)) y
    simp only [fv]
    split
    · rfl
    · exact ih
namespace law_ok_
def Q_ (w : World) (A : Around) (s : Shared) (g0 : Heap) (loose : List Str) (mean : ExcName → Option Value) (mg : Str → Option Value) (mb : Str → Option Value) (p : Program) (R : Result → Shared → Prop) (sc : Addr) (sv : List Value) (ns : List Int) : Prop := ∀ (X : (hd.heap_1 w.params).In g0) (T : Top p loose mean mg mb g0) (k : g0.StaysIn s.heap) (hh : A.handled = none) (hfr : A.frames = some []) (hroom : A.depth ≤ 302) (hun : A.units ≤ 10) (hsc : s.heap.IsList sc sv.toArray) (hi : IntsAre sv ns) (hz : sv.length ≤ 63) (hR : ∀ h' tk, (∀ b o, s.heap.get? b = some o → h'.get? b = some o) → R (.ok (.ret (.bool true))) { s with heap := h', toks := tk }), codeAny (model PG w) A (.call (.ref 269) ⟨[.ref sc], []⟩) R s
noncomputable section
def P_ (x : World × Around × Shared × Heap × (List Str) × (ExcName → Option Value) × (Str → Option Value) × (Str → Option Value) × Program × (Result → Shared → Prop) × Addr × (List Value) × (List Int)) : Prop := Q_ x.1 x.2.1 x.2.2.1 x.2.2.2.1 x.2.2.2.2.1 x.2.2.2.2.2.1 x.2.2.2.2.2.2.1 x.2.2.2.2.2.2.2.1 x.2.2.2.2.2.2.2.2.1 x.2.2.2.2.2.2.2.2.2.1 x.2.2.2.2.2.2.2.2.2.2.1 x.2.2.2.2.2.2.2.2.2.2.2.1 x.2.2.2.2.2.2.2.2.2.2.2.2
def x_ := pick (dW, callerA, ({} : Shared), default, default, default, default, default, PG, default, default, default, default) fun x => ¬ P_ x
@[irreducible] def w := x_.1
@[irreducible] def A := x_.2.1
@[irreducible] def s := x_.2.2.1
@[irreducible] def g0 := x_.2.2.2.1
@[irreducible] def loose := x_.2.2.2.2.1
@[irreducible] def mean := x_.2.2.2.2.2.1
@[irreducible] def mg := x_.2.2.2.2.2.2.1
@[irreducible] def mb := x_.2.2.2.2.2.2.2.1
@[irreducible] def p := x_.2.2.2.2.2.2.2.2.1
@[irreducible] def R := x_.2.2.2.2.2.2.2.2.2.1
@[irreducible] def sc := x_.2.2.2.2.2.2.2.2.2.2.1
@[irreducible] def sv := x_.2.2.2.2.2.2.2.2.2.2.2.1
@[irreducible] def ns := x_.2.2.2.2.2.2.2.2.2.2.2.2
end
theorem core : Q_ w A s g0 loose mean mg mb p R sc sv ns := by
  intro X T k hh hfr hroom hun hsc hi hz hR
  have hr1 : A.depth + 100 < recursionLimit := Nat.lt_of_le_of_lt (Nat.add_le_add_right hroom 100) (by decide)
  refine enterC [("script", .ref sc)] [("k", none), ("numbers", none), ("one", none), ("tops", none), ("planted", none), ("size", none), ("shift", none), ("name", none), ("number", none), ("deep", none), ("sorter", none), ("told", none), ("course", none), ("whole", none), ("drawn", none)] (K := hd.heap_1 w.params) (W := []) X T k (fun _ h => nomatch h) (fun _ h => nomatch h) (by k_is) (by k_is) (by omega) (BindsTo.of_eq rfl) ?_ ?_ ?_ ?_ ?_ ?_
  · intro n x hx
    rw [List.mem_singleton] at hx; subst hx
    exact .inr ⟨rfl, rfl⟩
  · decide +kernel
  · intro L'
    funext y
    exact (fv_none _ (by simp) y).symm
  · exact of_decide_eq_true (by kernel_rfl)
  · decide +kernel
  intro g' L' h' tk cells st' kp' sub' F' N' Y hlt X' T' nd' ns'
  obtain ⟨o5, o4, o3, o2, o1, rfl, d5, d4, d3, d2, d1⟩ := kc_five (show CellsAre _ [(Str.ofString "x", L' + 1 + 1 + 1 + 1 + 1), (Str.ofString "reader", L' + 1 + 1 + 1 + 1), (Str.ofString "rows", L' + 1 + 1 + 1), (Str.ofString "forest", L' + 1 + 1), (Str.ofString "script", L' + 1)] cells from Y)
  have d1' : o1.data = .cell (some (.ref sc)) := d1
  have d2' : o2.data = .cell none := d2
  have d3' : o3.data = .cell none := d3
  have d4' : o4.data = .cell none := d4
  have d5' : o5.data = .cell none := d5
  rw [List.append_nil] at N'
  have nd1 := five_nd L' o1 o2 o3 o4 o5
  generalize hV : ([(L' + 1 + 1 + 1 + 1 + 1, o5), (L' + 1 + 1 + 1 + 1, o4), (L' + 1 + 1 + 1, o3), (L' + 1 + 1, o2), (L' + 1, o1)] : List (Addr × Obj)) = V at N' nd1
  have lk : ∀ p ∈ ([(L' + 1 + 1 + 1 + 1 + 1, o5), (L' + 1 + 1 + 1 + 1, o4), (L' + 1 + 1 + 1, o3), (L' + 1 + 1, o2), (L' + 1, o1)] : List (Addr × Obj)), V.lookup p.1 = some p.2 := fun p hp => mem_look nd1 (by rw [← hV]; exact hp)
  have lw : LW V [] L' (some (.ref sc)) none none none none := ⟨nd1, ⟨o1, lk _ (.tail _ (.tail _ (.tail _ (.tail _ (.head _))))), d1'⟩, ⟨o2, lk _ (.tail _ (.tail _ (.tail _ (.head _)))), d2'⟩, ⟨o3, lk _ (.tail _ (.tail _ (.head _))), d3'⟩, ⟨o4, lk _ (.tail _ (.head _)), d4'⟩, ⟨o5, lk _ (.head _), d5'⟩, (fun _ h => nomatch h), (fun _ h => nomatch h)⟩
  have hsg : g'.IsList sc sv.toArray := by
    obtain ⟨o, ho, r⟩ := hsc
    exact ⟨o, kp' _ _ ho (fun _ h => nomatch h), r⟩
  have e0 : ∀ {b o}, s.heap.get? b = some o → g'.get? b = some o := fun {b o} e => kp' b o e (fun _ h => nomatch h)
  refine law_s1 (A := A.deeper _) ⟨_, _, _, _, _, _, _, _, _, _, _, _, by k_is⟩ X' T' hh (by show A.depth + 1 ≤ 303; omega) (by show A.units + 3 ≤ 20; omega) hsg hi hz ns' F' N' lw fun h1 tk1 V1 D la lp nv nn tv tn n0 n1 n2 n3 tops F1 N1 lw1 hD hnv hn3 hla htv ht1 ht3 htt hlp hap => ?_
  refine law_s2 (A := A.deeper _) ⟨_, _, _, _, _, _, _, _, _, _, _, _, by k_is⟩ X' T' hh (by show A.depth + 1 ≤ 303; omega) (by show A.units + 3 ≤ 20; omega) ns' F1 N1 lw1 hD hnv hn3 hla htv ht1 ht3 htt hlp hap fun h2 tk2 V2 ok osh tz lf lr Tn F F2 N2 good pt hpos lw2 hlr hapr hnm => ?_
  refine law_s3 (A := A.deeper _) ⟨_, _, _, _, _, _, _, _, _, _, _, _, by k_is⟩ X' T' hh (by show A.depth + 1 ≤ 303; omega) (by show A.units + 3 ≤ 20; omega) ns' F2 N2 good ht3 pt lw2 hlr hapr hnm fun h3 tk3 V3 o1 o2 vd Ro kr F3 N3 rt lw3 hlr3 hap3 => ?_
  refine law_s4 (A := A.deeper _) ⟨_, _, _, _, _, _, _, _, _, _, _, _, by k_is⟩ X' T' hh (by show A.depth + 1 ≤ 303; omega) (by show A.units + 3 ≤ 20; omega) ns' F3 N3 good ht3 pt rt lw3 hlr3 fun h4 tk4 V4 ld dvs kd S0 F4 N4 lw4 hdv sep4 hn4 hr4 hrdy4 hpo4 hnf4 hnp4 hS4 => ?_
  have zld : (ld, listOf dvs.toArray kd) ∈ (ld, listOf dvs.toArray kd) :: (lr, listOf (refs Ro).toArray kr) :: (Ro ++ (lf, listOf (refs Tn).toArray 0) :: (la, listOf tv.toArray tn) :: Tn) := .head _
  have zlr : (lr, listOf (refs Ro).toArray kr) ∈ (ld, listOf dvs.toArray kd) :: (lr, listOf (refs Ro).toArray kr) :: (Ro ++ (lf, listOf (refs Tn).toArray 0) :: (la, listOf tv.toArray tn) :: Tn) := .tail _ (.head _)
  have zro : ∀ q ∈ Ro, q ∈ (ld, listOf dvs.toArray kd) :: (lr, listOf (refs Ro).toArray kr) :: (Ro ++ (lf, listOf (refs Tn).toArray 0) :: (la, listOf tv.toArray tn) :: Tn) := fun q hq => .tail _ (.tail _ (List.mem_append_left _ hq))
  have zlf : (lf, listOf (refs Tn).toArray 0) ∈ (ld, listOf dvs.toArray kd) :: (lr, listOf (refs Ro).toArray kr) :: (Ro ++ (lf, listOf (refs Tn).toArray 0) :: (la, listOf tv.toArray tn) :: Tn) := .tail _ (.tail _ (List.mem_append_right _ (.head _)))
  have zla : (la, listOf tv.toArray tn) ∈ (ld, listOf dvs.toArray kd) :: (lr, listOf (refs Ro).toArray kr) :: (Ro ++ (lf, listOf (refs Tn).toArray 0) :: (la, listOf tv.toArray tn) :: Tn) := .tail _ (.tail _ (List.mem_append_right _ (.tail _ (.head _))))
  have zt : ∀ q ∈ Tn, q ∈ (ld, listOf dvs.toArray kd) :: (lr, listOf (refs Ro).toArray kr) :: (Ro ++ (lf, listOf (refs Tn).toArray 0) :: (la, listOf tv.toArray tn) :: Tn) := fun q hq => .tail _ (.tail _ (List.mem_append_right _ (.tail _ (.tail _ hq))))
  generalize (ld, listOf dvs.toArray kd) :: (lr, listOf (refs Ro).toArray kr) :: (Ro ++ (lf, listOf (refs Tn).toArray 0) :: (la, listOf tv.toArray tn) :: Tn) = Z at lw4 sep4 zld zlr zro zlf zla zt
  refine law_s5 (A := A.deeper _) ⟨_, _, _, _, _, _, _, _, _, _, _, _, by k_is⟩ X' T' hh (by show A.frames.map _ = _; rw [hfr]; rfl) (by show A.depth + 1 ≤ 303; omega) (by show A.units + 3 ≤ 20; omega) ns' (by decide) F4 N4 good ht3 rt lw4 zlr zro sep4 hn4 hr4 hrdy4 hpo4 hnf4 hnp4 hS4 fun h5 tk5 V5 lt vx S F5 N5 lw5 hS5 hs5 hrl hmid hpo5 sep5 htd hts hnT hapl => ?_
  obtain ⟨rl, hrd⟩ := hrl
  obtain ⟨oT, hoT, hT⟩ := htd
  rw [← hs5] at F5
  refine law_s6 (A := A.deeper _) ⟨_, _, _, _, _, _, _, _, _, _, _, _, by k_is⟩ X' T' hh (by show A.depth + 1 ≤ 303; omega) (by show A.units + 3 ≤ 20; omega) ns' F5 N5 good ht3 hpos rt pt lw5 zlr zro zlf zt zld hdv sep5 hrd hmid hpo5 hS5 hoT hT hts hnT hapl fun h6 tk6 V6 vx6 ocs oT6 ks F6 N6 lw6 hlt6 hT6 hks => ?_
  refine law_s7 (A := A.deeper _) ⟨_, _, _, _, _, _, _, _, _, _, _, _, by k_is⟩ X' T' hh (by show A.depth + 1 ≤ 303; omega) (by show A.units + 3 ≤ 20; omega) ns' F6 N6 good ht3 htt lw6 zld zla hdv htv hlt6 hT6 hks hapl fun h7 tk7 kp7 => ?_
  exact hR _ _ fun b o e => kp7 b o (e0 e)
theorem all : ∀ y, P_ y := @pick_all _ _ P_ (by with_unfolding_all exact core)
end law_ok_
theorem law_ok {w A s g0 loose mean mg mb p R sc sv ns} : law_ok_.Q_ w A s g0 loose mean mg mb p R sc sv ns := @law_ok_.all (w, A, s, g0, loose, mean, mg, mb, p, R, sc, sv, ns)
theorem kz_zm_law : True := by
  k_with "zm_law" => skip
  trivial
theorem law_end {w : World} {s₀ s₁ : Shared} {mg mb : Str → Option Value} {p : Program} {loose : List Str} {mean : ExcName → Option Value} {fa sc : Addr} {sv : List Value} {ns : List Int}
    (X : (hd.heap_1 w.params).In s₁.heap) (T : Top p loose mean mg mb s₁.heap) (hg : s₁.gens = #[]) (hmg : mg "law" = some (.ref fa)) (hL : s₁.heap.IsList sc sv.toArray) (hI : IntsAre sv ns) (hz : ¬ (63 : Int) < (ns.length : Int)) :
    codeAny (model PP w) callerA (.call (.ref fa) ⟨[.ref sc], []⟩) (GoodWG PySem.Challenge.rw_oy0329_01.row.claim (classAt s₀.heap) (ExcName.means s₀.heap) [ofPy (.list (ns.map .int))] s₁) s₁ := by
  have e : mg "law" = some (.ref 269) := mg_of X T.g (by k_is)
  rw [hmg] at e
  cases e
  have hl : sv.length ≤ 63 := by have := hI.length; omega
  refine law_ok X T (fun _ _ h => h) rfl rfl (by decide) (by decide) hL hI hl fun h' tk kp => ?_
  refine GoodW.toG ⟨.inl ⟨.bool true, .bool true, [], rfl, raisesW_false (by wrow_none_raised), .bool true, ?_, unshared_nil⟩, kp, rfl, hg⟩
  exact postW_of (by wrow_shape) (by wtm_val) (by str_meet; first | done | w_fin)
end Mine
theorem PySem.Challenge.cw_oy0329_01_holds : PySem.Challenge.rw_oy0329_01.Holds := by
  refine Mine.hd ?_
  k_fill
  intro w s₀ s₁ mg mb G Y fa o pm cd doc dV kV ho hd hcd hD hmg hg args vals as hpre hlay hrd hwl hlo
  have KX := kIn_of Y
  refine Ground.open G ?_
  intro T B D TE TW
  wrow_args hpre hlay hrd hwl hlo
  all_goals (
    refine enter_call ?_
    rename _ = some (Value.ref fa) => hm
    rename IntsAre _ _ => hI
    rename Heap.IsList _ _ _ => hL
    rename ¬ _ < _ => hz
    exact Mine.law_end KX T hg hm hL hI hz)
