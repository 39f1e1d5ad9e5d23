import PyProof.Rows.All
import Wide.All
import OpenK.AllK
import Wide.FinOn
import Lean
import PySem.Challenge.RW_jg0004_01
set_option Elab.async false
set_option linter.all false
open PySem PySem.W PyProof.Rows
namespace Mine.Internal
noncomputable def runF (stp : SharedT → Thread → Option (SharedT × Thread)) (ok : Thread → Bool) (n : Nat) : SharedT → Thread → Option SharedT :=
  @Nat.rec (fun _ => SharedT → Thread → Option SharedT) (fun _ _ => none) (fun _ ih s t =>
    @Bool.rec (fun _ => Option SharedT) (@Bool.rec (fun _ => Option SharedT) none (@Option.rec (SharedT × Thread) (fun _ => Option SharedT) none (fun r => ih r.1 r.2) (stp s t)) (ok t)) (some s) (through t)) n
theorem runF_spec {tb : String → Option Builtin} {p : Program} {w : World} {n₀ : Nat} {ann : Option Value} : ∀ (n : Nat) (s : SharedT) (t : Thread) (s' : SharedT), runF (stepT (denote tb) p w) (stepOk n₀ ann) n s t = some s' → topRun tb p w n₀ ann n s.abs t = some s'.abs
  | 0, _, _, _, h => by cases h
  | n + 1, s, t, s', h => by
    have h : (@Bool.rec (fun _ => Option SharedT) (@Bool.rec (fun _ => Option SharedT) none (@Option.rec (SharedT × Thread) (fun _ => Option SharedT) none (fun r => runF (stepT (denote tb) p w) (stepOk n₀ ann) n r.1 r.2) (stepT (denote tb) p w s t)) (stepOk n₀ ann t)) (some s) (through t)) = some s' := h
    unfold topRun
    cases ht : through t with
    | true => rw [ht] at h; cases h; rfl
    | false =>
      rw [ht] at h
      cases hk : stepOk n₀ ann t with
      | false => rw [hk] at h; cases h
      | true =>
        rw [hk] at h
        cases hs : stepT (denote tb) p w s t with
        | none => rw [hs] at h; cases h
        | some r =>
          rw [hs] at h
          rw [stepT_spec (s' := r.1) (t' := r.2) hs]
          exact runF_spec n r.1 r.2 s' h
noncomputable def treeL (l : List Obj) : BT := (@List.rec Obj (fun _ => Nat → BT → BT) (fun _ t => t) (fun o _ ih i t => ih (i + 1) (t.ins i o)) l) 0 .nil
noncomputable def bootS (w : World) (os : OsState) : SharedT := ⟨treeL [boot_o_0 w.params, boot_o_1 w.params, boot_o_2 w.params, boot_o_3 w.params, boot_o_4 w.params, boot_o_5 w.params, boot_o_6 w.params, boot_o_7 w.params, boot_o_8 w.params, boot_o_9 w.params, boot_o_10 w.params], 11, {}, #[], boot_drawn, boot_toks, os⟩
theorem bootS_abs (w : World) (os : OsState) : (bootS w os).abs = ⟨boot_heap w.params, #[], boot_drawn, boot_toks, os⟩ := by kernel_rfl
theorem boot_ns (w : World) : ((boot_heap w.params).isNs mainGlobals && (#[] : Array GenState).size == 0) = true ∧ (boot_heap w.params).objs.size = 11 ∧ (boot_heap w.params).nsMap mainGlobals "__annotations__" = some (.ref 6) := ⟨by kernel_rfl, by kernel_rfl, by kernel_rfl⟩
theorem left_whole {p q : Program} {loose : List Str} {Xt : Shared → Bool} {α : Type} {Yf : Shared → α} {Ya : World → α} {N : Nat}
    (e : opening p = plainProg p.main.scope.names) (hN : Nat.ble 600 N = true) (f : ∀ s, fenceModules? p s = some s)
    (h : ∀ w os, (runF (stepT (denote treeTable) p w) (stepOk 11 (some (.ref 6))) N (bootS w os) (topStub p)).map (fun s => ((staticsOk (importedModules p.main.body) (boot_heap w.params) s.abs.heap && namesBound p s.abs.heap && gensDone s.abs && laidKept (boot_heap w.params) s.abs.heap),
        openSeen q loose (importedModules p.main.body) Xt true s.abs, Yf s.abs)) = some (true, openGood q loose, Ya w)) : LeftO p q loose Xt Yf Ya N true := fun w => by
  obtain ⟨⟨h0, gs, d, k, os⟩, e1, e2⟩ := Option.map_eq_some_iff.mp (boot_open e hN f w)
  obtain ⟨rfl, rfl, rfl, rfl⟩ : h0 = boot_heap w.params ∧ gs = #[] ∧ d = boot_drawn ∧ k = boot_toks := by simpa using e2
  obtain ⟨z1, z2, z3⟩ := boot_ns w
  obtain ⟨s', r1, r2⟩ := Option.map_eq_some_iff.mp (h w os)
  obtain ⟨l1, l2, l3⟩ : _ ∧ _ ∧ _ := by simpa only [Prod.mk.injEq] using r2
  have r := runF_spec _ _ _ _ r1
  rw [bootS_abs] at r
  have t : topFrom treeTable p w N ⟨boot_heap w.params, #[], boot_drawn, boot_toks, os⟩ = some s'.abs := by
    unfold topFrom
    dsimp only
    rw [z1, z2, z3]
    show (topRun treeTable p w 11 (some (.ref 6)) N _ (topStub p)).bind _ = _
    rw [r]
    show (match staticsOk (importedModules p.main.body) (boot_heap w.params) s'.abs.heap && namesBound p s'.abs.heap && gensDone s'.abs && laidKept (boot_heap w.params) s'.abs.heap with | true => _ | false => _) = _
    rw [l1]
  unfold openEnds
  rw [e1]
  show (topFrom treeTable p w N _).map _ = _
  rw [t]
  exact congrArg some (Prod.ext l2 l3)
noncomputable def getT (s : SharedT) (a : Addr) : Option Obj := match Nat.blt a s.n with
  | true => (match s.tree.get a with | some o => alive o | none => alive default)
  | false => none
theorem getT_eq (s : SharedT) : s.abs.heap.get? = getT s := by
  funext a
  unfold getT
  cases h : Nat.blt a s.n with
  | true =>
    show (absHeap s.tree s.n s.life).get? a = _
    unfold Heap.get?
    rw [absHeap_at, if_pos (show a < s.n from Nat.le_of_ble_eq_true h)]
    cases g : s.tree.get a with
    | none => rfl
    | some o => obtain ⟨c, d, dt, sl⟩ := o; cases dt <;> rfl
  | false => exact abs_get_none fun q => absurd (h.symm.trans (Nat.ble_eq_true_of_le q)) (by decide)
theorem left_fast {p q : Program} {loose : List Str} {Xt : Shared → Bool} {N : Nat} {K : Params → Frag} {as : List Addr} {e' : ∀ P, as = (K P).map (·.1)} {ts : List Addr}
    (e : opening p = plainProg p.main.scope.names) (hN : Nat.ble 600 N = true) (f : ∀ s, fenceModules? p s = some s)
    (h : ∀ w os, (runF (PySem.W.Fast.tw10156331382660048174 (PySem.W.Fast.tw11892475500146522536 PySem.W.Fast.tw14364793385576792824) p w) (PySem.W.Fast.tw6613529449190102663 11 (some (.ref 6))) N (bootS w os) (topStub p)).map (fun s => ((staticsOk (importedModules p.main.body) (boot_heap w.params) s.abs.heap && namesBound p s.abs.heap && gensDone s.abs && laidKept (boot_heap w.params) s.abs.heap),
        PySem.W.Fast.tw4187177175401517315 q loose (importedModules p.main.body) Xt true s.abs, (as.map (getT s), ts.map (getT s)))) = some (true, openGood q loose, (kmHook K as e' ts).val w)) : LeftO p q loose Xt (kmHook K as e' ts).obs (kmHook K as e' ts).val N true :=
  left_whole e hN f fun w os => by
    rw [PySem.W.Fast.te10156331382660048174, PySem.W.Fast.te11892475500146522536, PySem.W.Fast.te14364793385576792824, PySem.W.Fast.te6613529449190102663, PySem.W.Fast.te4187177175401517315]
    refine (congrArg (fun f => Option.map f _) (funext fun s => ?_)).trans (h w os)
    rw [← getT_eq]
    rfl
theorem s_res : namesResolve PySem.Challenge.rw_jg0004_01.row.prog = true := by
  rw [PySem.W.Fast.te8377067652309620493]
  kernel_rfl
theorem s_meet : (namesMeet PySem.Challenge.rw_jg0004_01.row.prog PySem.Challenge.rw_jg0004_01.row.prog.main.body fun _ n => attrL n) = true := by
  rw [PySem.W.Fast.te17119622794617984870]
  kernel_rfl
theorem s_bare : (["vars", "dir", "locals"] : List Str).filter (readsOut PySem.Challenge.rw_jg0004_01.row.prog PySem.Challenge.rw_jg0004_01.row.prog.main.body) = [] := by
  unfold readsOut
  rw [PySem.W.Fast.te17119622794617984870]
  kernel_rfl
theorem s_looks : looksOpen PySem.Challenge.rw_jg0004_01.row.prog = true := by
  unfold looksOpen
  rw [s_res, s_meet, s_bare, PySem.W.Fast.te8326940854005059898]
  kernel_rfl
theorem s_row : PySem.Challenge.rw_jg0004_01.row.wellSaid = true := by
  unfold OpenRow.wellSaid OpenRow.partSaid
  rw [s_looks]
  kernel_rfl
theorem said_ok : OpenLaw.wellSaid PySem.Challenge.rw_jg0004_01 = true := by
  unfold OpenLaw.wellSaid
  rw [s_row, PySem.W.Fast.te8179353310426384613]
  kernel_rfl
theorem own_help {T G : Prop} (_ : T) (h : G) : G := h
set_option hygiene false in
local macro_rules | `(tactic| o_head (kHook $k $a $p)) => `(tactic| (refine' own_help ?hl (own_help ?hc ?hmain); (case' hmain => (o_head (kmHook $k $a $p [25, 32, 40])))))
set_option maxRecDepth 100000 in
set_option maxHeartbeats 8000000 in
noncomputable def hd : { T : Prop // T → PySem.Challenge.rw_jg0004_01.Holds } := by
  refine' ⟨_, fun h => ?p⟩
  case p =>
    w_on
    refine holds_law said_ok fun said => ?_
    k_head
    case hmain => w_witness2
    case hc => exact h
    case hl => exact left_fast (p := PySem.Challenge.pw_jg0004_01) (by kernel_rfl) (by kernel_rfl) (fun s => by kernel_rfl) (fun w os => by kernel_rfl)
set_option autoImplicit false
set_option tactic.hygienic false
set_option compiler.extract_closed false
set_option genSizeOf false
set_option genSizeOfSpec false
open PySem.Calls
set_option maxRecDepth 20000
set_option maxHeartbeats 4000000
noncomputable section
@[elab_as_elim] theorem rwL {α : Sort _} {a b : α} {P : α → Prop} (h : a = b) (k : P b) : P a := h ▸ k
@[elab_as_elim] theorem rwR {α : Sort _} {a b : α} {P : α → Prop} (h : a = b) (k : P a) : P b := h ▸ k
theorem eEA {A0 : Sort _} {P1 P2 : A0 → Prop} {G : Prop} (h : ∃ x0, P1 x0 ∧ P2 x0) (k : ∀ x0, P1 x0 → P2 x0 → G) : G := h.elim fun x0 q0 => k x0 q0.1 q0.2
theorem eEEAA {A0 A1 : Sort _} {P1 P2 P3 : A0 → A1 → Prop} {G : Prop} (h : ∃ x0, ∃ x1, P1 x0 x1 ∧ P2 x0 x1 ∧ P3 x0 x1) (k : ∀ x0, ∀ x1, P1 x0 x1 → P2 x0 x1 → P3 x0 x1 → G) : G := h.elim fun x0 q0 => q0.elim fun x1 q1 => k x0 x1 q1.1 q1.2.1 q1.2.2
theorem eAAA {P1 P2 P3 P4 G : Prop} (h : P1 ∧ P2 ∧ P3 ∧ P4) (k : P1 → P2 → P3 → P4 → G) : G := k h.1 h.2.1 h.2.2.1 h.2.2.2
theorem eAA {P1 P2 P3 G : Prop} (h : P1 ∧ P2 ∧ P3) (k : P1 → P2 → P3 → G) : G := k h.1 h.2.1 h.2.2
theorem eEAA {A0 : Sort _} {P1 P2 P3 : A0 → Prop} {G : Prop} (h : ∃ x0, P1 x0 ∧ P2 x0 ∧ P3 x0) (k : ∀ x0, P1 x0 → P2 x0 → P3 x0 → G) : G := h.elim fun x0 q0 => k x0 q0.1 q0.2.1 q0.2.2
theorem eEEEEAAA {A0 A1 A2 A3 : Sort _} {P1 P2 P3 P4 : A0 → A1 → A2 → A3 → Prop} {G : Prop} (h : ∃ x0, ∃ x1, ∃ x2, ∃ x3, P1 x0 x1 x2 x3 ∧ P2 x0 x1 x2 x3 ∧ P3 x0 x1 x2 x3 ∧ P4 x0 x1 x2 x3) (k : ∀ x0, ∀ x1, ∀ x2, ∀ x3, P1 x0 x1 x2 x3 → P2 x0 x1 x2 x3 → P3 x0 x1 x2 x3 → P4 x0 x1 x2 x3 → G) : G := h.elim fun x0 q0 => q0.elim fun x1 q1 => q1.elim fun x2 q2 => q2.elim fun x3 q3 => k x0 x1 x2 x3 q3.1 q3.2.1 q3.2.2.1 q3.2.2.2
theorem eAEA {A0 : Sort _} {P1 : Prop} {P2 P3 : A0 → Prop} {G : Prop} (h : P1 ∧ ∃ x0, P2 x0 ∧ P3 x0) (k : P1 → ∀ x0, P2 x0 → P3 x0 → G) : G := h.2.elim fun x0 q0 => k h.1 x0 q0.1 q0.2
theorem eEEEAAA {A0 A1 A2 : Sort _} {P1 P2 P3 P4 : A0 → A1 → A2 → Prop} {G : Prop} (h : ∃ x0, ∃ x1, ∃ x2, P1 x0 x1 x2 ∧ P2 x0 x1 x2 ∧ P3 x0 x1 x2 ∧ P4 x0 x1 x2) (k : ∀ x0, ∀ x1, ∀ x2, P1 x0 x1 x2 → P2 x0 x1 x2 → P3 x0 x1 x2 → P4 x0 x1 x2 → G) : G := h.elim fun x0 q0 => q0.elim fun x1 q1 => q1.elim fun x2 q2 => k x0 x1 x2 q2.1 q2.2.1 q2.2.2.1 q2.2.2.2
theorem eEE {A0 A1 : Sort _} {P1 : A0 → A1 → Prop} {G : Prop} (h : ∃ x0, ∃ x1, P1 x0 x1) (k : ∀ x0, ∀ x1, P1 x0 x1 → G) : G := h.elim fun x0 q0 => q0.elim fun x1 q1 => k x0 x1 q1
theorem eEEEA {A0 A1 A2 : Sort _} {P1 P2 : A0 → A1 → A2 → Prop} {G : Prop} (h : ∃ x0, ∃ x1, ∃ x2, P1 x0 x1 x2 ∧ P2 x0 x1 x2) (k : ∀ x0, ∀ x1, ∀ x2, P1 x0 x1 x2 → P2 x0 x1 x2 → G) : G := h.elim fun x0 q0 => q0.elim fun x1 q1 => q1.elim fun x2 q2 => k x0 x1 x2 q2.1 q2.2
theorem eAAAAA {P1 P2 P3 P4 P5 P6 G : Prop} (h : P1 ∧ P2 ∧ P3 ∧ P4 ∧ P5 ∧ P6) (k : P1 → P2 → P3 → P4 → P5 → P6 → G) : G := k h.1 h.2.1 h.2.2.1 h.2.2.2.1 h.2.2.2.2.1 h.2.2.2.2.2
theorem eEAAE {A0 A1 : Sort _} {P1 P2 : A0 → Prop} {P3 : A0 → A1 → Prop} {G : Prop} (h : ∃ x0, P1 x0 ∧ P2 x0 ∧ ∃ x1, P3 x0 x1) (k : ∀ x0, P1 x0 → P2 x0 → ∀ x1, P3 x0 x1 → G) : G := h.elim fun x0 q0 => q0.2.2.elim fun x1 q1 => k x0 q0.1 q0.2.1 x1 q1
theorem eEEE {A0 A1 A2 : Sort _} {P1 : A0 → A1 → A2 → Prop} {G : Prop} (h : ∃ x0, ∃ x1, ∃ x2, P1 x0 x1 x2) (k : ∀ x0, ∀ x1, ∀ x2, P1 x0 x1 x2 → G) : G := h.elim fun x0 q0 => q0.elim fun x1 q1 => q1.elim fun x2 q2 => k x0 x1 x2 q2
theorem eEEEAAAAA {A0 A1 A2 : Sort _} {P1 P2 P3 P4 P5 P6 : A0 → A1 → A2 → Prop} {G : Prop} (h : ∃ x0, ∃ x1, ∃ x2, P1 x0 x1 x2 ∧ P2 x0 x1 x2 ∧ P3 x0 x1 x2 ∧ P4 x0 x1 x2 ∧ P5 x0 x1 x2 ∧ P6 x0 x1 x2) (k : ∀ x0, ∀ x1, ∀ x2, P1 x0 x1 x2 → P2 x0 x1 x2 → P3 x0 x1 x2 → P4 x0 x1 x2 → P5 x0 x1 x2 → P6 x0 x1 x2 → G) : G := h.elim fun x0 q0 => q0.elim fun x1 q1 => q1.elim fun x2 q2 => k x0 x1 x2 q2.1 q2.2.1 q2.2.2.1 q2.2.2.2.1 q2.2.2.2.2.1 q2.2.2.2.2.2
theorem eEEEAA {A0 A1 A2 : Sort _} {P1 P2 P3 : A0 → A1 → A2 → Prop} {G : Prop} (h : ∃ x0, ∃ x1, ∃ x2, P1 x0 x1 x2 ∧ P2 x0 x1 x2 ∧ P3 x0 x1 x2) (k : ∀ x0, ∀ x1, ∀ x2, P1 x0 x1 x2 → P2 x0 x1 x2 → P3 x0 x1 x2 → G) : G := h.elim fun x0 q0 => q0.elim fun x1 q1 => q1.elim fun x2 q2 => k x0 x1 x2 q2.1 q2.2.1 q2.2.2
theorem eEEEEA {A0 A1 A2 A3 : Sort _} {P1 P2 : A0 → A1 → A2 → A3 → Prop} {G : Prop} (h : ∃ x0, ∃ x1, ∃ x2, ∃ x3, P1 x0 x1 x2 x3 ∧ P2 x0 x1 x2 x3) (k : ∀ x0, ∀ x1, ∀ x2, ∀ x3, P1 x0 x1 x2 x3 → P2 x0 x1 x2 x3 → G) : G := h.elim fun x0 q0 => q0.elim fun x1 q1 => q1.elim fun x2 q2 => q2.elim fun x3 q3 => k x0 x1 x2 x3 q3.1 q3.2
theorem eAAAA {P1 P2 P3 P4 P5 G : Prop} (h : P1 ∧ P2 ∧ P3 ∧ P4 ∧ P5) (k : P1 → P2 → P3 → P4 → P5 → G) : G := k h.1 h.2.1 h.2.2.1 h.2.2.2.1 h.2.2.2.2
theorem eEEEEAA {A0 A1 A2 A3 : Sort _} {P1 P2 P3 : A0 → A1 → A2 → A3 → Prop} {G : Prop} (h : ∃ x0, ∃ x1, ∃ x2, ∃ x3, P1 x0 x1 x2 x3 ∧ P2 x0 x1 x2 x3 ∧ P3 x0 x1 x2 x3) (k : ∀ x0, ∀ x1, ∀ x2, ∀ x3, P1 x0 x1 x2 x3 → P2 x0 x1 x2 x3 → P3 x0 x1 x2 x3 → G) : G := h.elim fun x0 q0 => q0.elim fun x1 q1 => q1.elim fun x2 q2 => q2.elim fun x3 q3 => k x0 x1 x2 x3 q3.1 q3.2.1 q3.2.2
theorem eEEAAA {A0 A1 : Sort _} {P1 P2 P3 P4 : A0 → A1 → Prop} {G : Prop} (h : ∃ x0, ∃ x1, P1 x0 x1 ∧ P2 x0 x1 ∧ P3 x0 x1 ∧ P4 x0 x1) (k : ∀ x0, ∀ x1, P1 x0 x1 → P2 x0 x1 → P3 x0 x1 → P4 x0 x1 → G) : G := h.elim fun x0 q0 => q0.elim fun x1 q1 => k x0 x1 q1.1 q1.2.1 q1.2.2.1 q1.2.2.2
theorem eEAAA {A0 : Sort _} {P1 P2 P3 P4 : A0 → Prop} {G : Prop} (h : ∃ x0, P1 x0 ∧ P2 x0 ∧ P3 x0 ∧ P4 x0) (k : ∀ x0, P1 x0 → P2 x0 → P3 x0 → P4 x0 → G) : G := h.elim fun x0 q0 => k x0 q0.1 q0.2.1 q0.2.2.1 q0.2.2.2
theorem eEEAAAAA {A0 A1 : Sort _} {P1 P2 P3 P4 P5 P6 : A0 → A1 → Prop} {G : Prop} (h : ∃ x0, ∃ x1, P1 x0 x1 ∧ P2 x0 x1 ∧ P3 x0 x1 ∧ P4 x0 x1 ∧ P5 x0 x1 ∧ P6 x0 x1) (k : ∀ x0, ∀ x1, P1 x0 x1 → P2 x0 x1 → P3 x0 x1 → P4 x0 x1 → P5 x0 x1 → P6 x0 x1 → G) : G := h.elim fun x0 q0 => q0.elim fun x1 q1 => k x0 x1 q1.1 q1.2.1 q1.2.2.1 q1.2.2.2.1 q1.2.2.2.2.1 q1.2.2.2.2.2
theorem eEEA {A0 A1 : Sort _} {P1 P2 : A0 → A1 → Prop} {G : Prop} (h : ∃ x0, ∃ x1, P1 x0 x1 ∧ P2 x0 x1) (k : ∀ x0, ∀ x1, P1 x0 x1 → P2 x0 x1 → G) : G := h.elim fun x0 q0 => q0.elim fun x1 q1 => k x0 x1 q1.1 q1.2
theorem eAEEEEA {A0 A1 A2 A3 : Sort _} {P1 : Prop} {P2 P3 : A0 → A1 → A2 → A3 → Prop} {G : Prop} (h : P1 ∧ ∃ x0, ∃ x1, ∃ x2, ∃ x3, P2 x0 x1 x2 x3 ∧ P3 x0 x1 x2 x3) (k : P1 → ∀ x0, ∀ x1, ∀ x2, ∀ x3, P2 x0 x1 x2 x3 → P3 x0 x1 x2 x3 → G) : G := h.2.elim fun x0 q0 => q0.elim fun x1 q1 => q1.elim fun x2 q2 => q2.elim fun x3 q3 => k h.1 x0 x1 x2 x3 q3.1 q3.2
local macro_rules
  | `(tactic| rw [$r:rwRule,*]) => do
    let mut ts : Array (Lean.TSyntax `tactic) := #[]
    for x in r.getElems do
      match x with
      | `(Lean.Parser.Tactic.rwRule| $t:term) => ts := ts.push (← `(tactic| first | refine rwL ($t ..) ?_ | rewrite [$t:term]))
      | `(Lean.Parser.Tactic.rwRule| ← $t:term) => ts := ts.push (← `(tactic| first | refine rwR ($t ..) ?_ | rewrite [← $t:term]))
      | _ => Lean.Macro.throwUnsupported
    `(tactic| (($[$ts:tactic];*); try (with_reducible rfl)))
def auR : Lean.Syntax := Lean.Unhygienic.run `(Lean.Parser.Tactic.tacticSeq| rfl)
def auD : Lean.Syntax := Lean.Unhygienic.run `(Lean.Parser.Tactic.tacticSeq| decide)
def auS : Lean.Syntax := Lean.Unhygienic.run `(Lean.Parser.Tactic.tacticSeq| simp)
def auI : Lean.Syntax := Lean.Unhygienic.run `(Lean.Parser.Tactic.tacticSeq| intros; rfl)
def auW : Lean.Syntax := Lean.Unhygienic.run `(Lean.Parser.Tactic.tacticSeq| intros; with_unfolding_all rfl)
def auK : Lean.Syntax := Lean.Unhygienic.run `(Lean.Parser.Tactic.tacticSeq| decide +kernel)
abbrev PRG : Program := PySem.Challenge.pw_jg0004_01
noncomputable def TB : List Addr := [25, 32, 40]
inductive AV where
  | none
  | bool (b : Bool)
  | int (i : Int)
  | str (s : Str)
  | val (v : Value)
  | tup (xs : List AV)
  | lst (xs : List AV)
  | hnd (n : Nat)
  | set (xs : List Nat)
  | frac (p : Int) (q : Nat)
  | msf (nm : Str) (par : AV)
  | voter (S : List Nat) (wt : Int)
  | prof (n : Nat) (vs : List AV)
  | profm (n : Nat) (hd : Nat)
  | any
  | rng (a b : Int)
noncomputable def fracEs (w : World) (p : Int) (q : Nat) (t1 t2 t3 t4 : Tok) : List DictEntry :=
  [⟨PyData.keyHash w.params "numerator", .str (Str.ofString "numerator") t1, .int p t2⟩,
   ⟨PyData.keyHash w.params "denominator", .str (Str.ofString "denominator") t3, .int q t4⟩]
noncomputable def setEs (ts : Nat → Tok) (xs : List Nat) : Array (Int × Value) := (xs.map fun x => (((x : Nat) : Int), Value.int ((x : Nat) : Int) (ts x))).toArray
noncomputable def S16 : List (List Nat) := [[], [0], [1], [0, 1], [2], [0, 2], [1, 2], [0, 1, 2], [3], [0, 3], [1, 3], [0, 1, 3], [2, 3], [0, 2, 3], [1, 2, 3], [0, 1, 2, 3]]
abbrev setTab (led : Bool) (fin mov : Nat) (xs : List Nat) : SetTable := { mask := 7, place := xs.toArray, dummies := #[], finger := fin, led := led, moves := mov, plain := true }
abbrev setObj (led : Bool) (ts : Nat → Tok) (ep fin mov : Nat) (xs : List Nat) : Obj := { cls := .type "set", dict := Option.none, data := .set (setEs ts xs) ep (setTab led fin mov xs) }
noncomputable def ledOf (w : World) : Bool := !w.params.followText "set-order"
noncomputable def IsSet (w : World) (h : Heap) (a : Addr) (xs : List Nat) : Prop := xs ∈ S16 ∧ ∃ ts ep fin mov, h.get? a = some (setObj (ledOf w) ts ep fin mov xs)
noncomputable def ExL (h : Heap) (a : Addr) (vs : List Value) : Prop := ∃ k, h.get? a = some (listOf vs.toArray k)
theorem ExL.is {h : Heap} {a : Addr} {vs : List Value} (x : ExL h a vs) : h.IsList a vs.toArray := let ⟨k, e⟩ := x; ⟨_, e, rfl, k, rfl⟩
mutual
inductive VRel (w : World) (h : Heap) (ρ : List Addr) : AV → Value → Prop where
  | none : VRel w h ρ .none .none
  | bool (b : Bool) : VRel w h ρ (.bool b) (.bool b)
  | int (i : Int) (t : Tok) : VRel w h ρ (.int i) (.int i t)
  | str (s : Str) (t : Tok) : VRel w h ρ (.str s) (.str s t)
  | val (v : Value) : VRel w h ρ (.val v) v
  | any (v : Value) : VRel w h ρ .any v
  | rng {x : Addr} {a b : Int} {t u v : Tok} (hx : h.get? x = some { cls := .type "range", data := .fields #[.int a t, .int b u, .int 1 v] }) : VRel w h ρ (.rng a b) (.ref x)
  | tup {a : Addr} {vs : List Value} {xs : List AV} (ht : IsTup h a vs.toArray) (hx : VRels w h ρ xs vs) : VRel w h ρ (.tup xs) (.ref a)
  | lst {a : Addr} {vs : List Value} {xs : List AV} (ht : ExL h a vs) (hx : VRels w h ρ xs vs) : VRel w h ρ (.lst xs) (.ref a)
  | hnd {n : Nat} {a : Addr} (hn : ρ[n]? = some a) : VRel w h ρ (.hnd n) (.ref a)
  | set {a : Addr} {xs : List Nat} (hs : IsSet w h a xs) : VRel w h ρ (.set xs) (.ref a)
  | frac {x dx n : Nat} {p : Int} {q : Nat} {t1 t2 t3 t4 : Tok} (hx : h.get? x = some (instObj 194 dx)) (hd : h.get? dx = some (dictOf (fracEs w p q t1 t2 t3 t4) n)) : VRel w h ρ (.frac p q) (.ref x)
  | msf {x dx n : Nat} {nm : Str} {par : AV} {pv : Value} {t1 t2 t3 : Tok} (hx : h.get? x = some (instObj 252 dx))
      (hd : h.get? dx = some (dictOf [⟨PyData.keyHash w.params "name", .str (Str.ofString "name") t1, .str nm t2⟩, ⟨PyData.keyHash w.params "param", .str (Str.ofString "param") t3, pv⟩] n))
      (hp : VRel w h ρ par pv) : VRel w h ρ (.msf nm par) (.ref x)
  | voter {x dx n sa : Nat} {S : List Nat} {wt : Int} {t1 t2 t3 : Tok} (hx : h.get? x = some (instObj 621 dx))
      (hd : h.get? dx = some (dictOf [⟨PyData.keyHash w.params "approved", .str (Str.ofString "approved") t1, .ref sa⟩, ⟨PyData.keyHash w.params "weight", .str (Str.ofString "weight") t2, .int wt t3⟩] n))
      (hs : IsSet w h sa S) : VRel w h ρ (.voter S wt) (.ref x)
  | prof {x dx n c1 c2 va k : Nat} {vs : List AV} {us xs : List Value} {t1 t2 t3 : Tok} (hx : h.get? x = some (instObj 584 dx))
      (hd : h.get? dx = some (dictOf [⟨PyData.keyHash w.params "candidates", .str (Str.ofString "candidates") t1, .ref c1⟩, ⟨PyData.keyHash w.params "cand_names", .str (Str.ofString "cand_names") t2, .ref c2⟩, ⟨PyData.keyHash w.params "_voters", .str (Str.ofString "_voters") t3, .ref va⟩] n))
      (hc : ExL h c1 us) (hu : IntsAre us ((List.range k).map fun (i : Nat) => (i : Int)))
      (hv : ExL h va xs) (hxs : VRels w h ρ vs xs) : VRel w h ρ (.prof k vs) (.ref x)
  | profm {x dx n c1 c2 va k hd : Nat} {us : List Value} {t1 t2 t3 : Tok} (hx : h.get? x = some (instObj 584 dx))
      (hdd : h.get? dx = some (dictOf [⟨PyData.keyHash w.params "candidates", .str (Str.ofString "candidates") t1, .ref c1⟩, ⟨PyData.keyHash w.params "cand_names", .str (Str.ofString "cand_names") t2, .ref c2⟩, ⟨PyData.keyHash w.params "_voters", .str (Str.ofString "_voters") t3, .ref va⟩] n))
      (hc : ExL h c1 us) (hu : IntsAre us ((List.range k).map fun (i : Nat) => (i : Int)))
      (hv : ρ[hd]? = some va) : VRel w h ρ (.profm k hd) (.ref x)
inductive VRels (w : World) (h : Heap) (ρ : List Addr) : List AV → List Value → Prop where
  | nil : VRels w h ρ [] []
  | cons {x : AV} {v : Value} {xs : List AV} {vs : List Value} (hx : VRel w h ρ x v) (hxs : VRels w h ρ xs vs) : VRels w h ρ (x :: xs) (v :: vs)
end
theorem getElem?_pre {ρ ρ' : List Addr} (p : ρ <+: ρ') {n : Nat} {a : Addr} (e : ρ[n]? = some a) : ρ'[n]? = some a := by
  obtain ⟨t, rfl⟩ := p
  rw [List.getElem?_append_left (by exact (List.getElem?_eq_some_iff.mp e).1)]
  exact e
theorem IsSet.keeps {w : World} {h h' : Heap} {a : Addr} {xs : List Nat} (x : IsSet w h a xs) (k : h.StaysIn h') : IsSet w h' a xs :=
  let ⟨p, ts, ep, fin, mov, e⟩ := x; ⟨p, ts, ep, fin, mov, k _ _ e⟩
theorem isList_keeps {h h' : Heap} {a : Addr} {its : List Value} (x : ExL h a its) (k : h.StaysIn h') : ExL h' a its := let ⟨o, ho⟩ := x; ⟨o, k a _ ho⟩
theorem VRels.head {w : World} {h : Heap} {ρ : List Addr} {x : AV} {v : Value} {xs : List AV} {vs : List Value} (H : VRels w h ρ (x :: xs) (v :: vs)) : VRel w h ρ x v := by cases H; assumption
theorem VRels.move {w : World} {h h' : Heap} {ρ ρ' : List Addr} (f : AV → Bool) (fs : List AV → Bool) (k : h.StaysIn h') (h1 : ∀ n a, f (.hnd n) = true → ρ[n]? = some a → ρ'[n]? = some a) (h2 : ∀ k n a, f (.profm k n) = true → ρ[n]? = some a → ρ'[n]? = some a)
    (h3 : ∀ xs, f (.tup xs) = true → fs xs = true) (h4 : ∀ xs, f (.lst xs) = true → fs xs = true) (h5 : ∀ k xs, f (.prof k xs) = true → fs xs = true) (h6 : ∀ s p, f (.msf s p) = true → f p = true) (h7 : ∀ x xs, fs (x :: xs) = true → f x = true ∧ fs xs = true)
    {xs : List AV} {vs : List Value} (H : VRels w h ρ xs vs) : fs xs = true → VRels w h' ρ' xs vs :=
  @VRels.rec w h ρ (fun x v _ => f x = true → VRel w h' ρ' x v) (fun xs vs _ => fs xs = true → VRels w h' ρ' xs vs)
    (fun _ => .none) (fun b _ => .bool b) (fun i t _ => .int i t) (fun s t _ => .str s t) (fun v _ => .val v) (fun v _ => .any v)
    (fun hx _ => .rng (k _ _ hx)) (fun ht _ ih e => .tup (ht.keeps k) (ih (h3 _ e))) (fun ht _ ih e => .lst (isList_keeps ht k) (ih (h4 _ e)))
    (fun hn e => .hnd (h1 _ _ e hn)) (fun hs _ => .set (hs.keeps k)) (fun hx hd _ => .frac (k _ _ hx) (k _ _ hd))
    (fun hx hd _ ih e => .msf (k _ _ hx) (k _ _ hd) (ih (h6 _ _ e))) (fun hx hd hs _ => .voter (k _ _ hx) (k _ _ hd) (hs.keeps k))
    (fun hx hd hc hu hv _ ih e => .prof (k _ _ hx) (k _ _ hd) (isList_keeps hc k) hu (isList_keeps hv k) (ih (h5 _ _ e)))
    (fun hx hd hc hu hv e => .profm (k _ _ hx) (k _ _ hd) (isList_keeps hc k) hu (h2 _ _ _ e hv))
    (fun _ => .nil) (fun _ _ i1 i2 e => .cons (i1 (h7 _ _ e).1) (i2 (h7 _ _ e).2)) xs vs H
theorem VRels.mono {w : World} {h h' : Heap} {ρ ρ' : List Addr} (k : h.StaysIn h') (p : ρ <+: ρ') {xs : List AV} {vs : List Value} (H : VRels w h ρ xs vs) : VRels w h' ρ' xs vs :=
  H.move (fun _ => true) (fun _ => true) k (fun _ _ _ => getElem?_pre p) (fun _ _ _ _ => getElem?_pre p) (fun _ h => h) (fun _ h => h) (fun _ _ h => h) (fun _ _ h => h) (fun _ _ h => ⟨h, h⟩) rfl
theorem VRel.mono {w : World} {h h' : Heap} {ρ ρ' : List Addr} (k : h.StaysIn h') (p : ρ <+: ρ') {x : AV} {v : Value} (H : VRel w h ρ x v) : VRel w h' ρ' x v :=
  (VRels.mono k p (.cons H .nil)).head
theorem VRels.inv0 {w : World} {h : Heap} {ρ : List Addr} {vs : List Value} (H : VRels w h ρ [] vs) : vs = [] := by cases H; rfl
theorem VRels.invc {w : World} {h : Heap} {ρ : List Addr} {x : AV} {xs : List AV} {vs : List Value} (H : VRels w h ρ (x :: xs) vs) : ∃ v us, vs = v :: us ∧ VRel w h ρ x v ∧ VRels w h ρ xs us := by cases H; exact ⟨_, _, rfl, by assumption, by assumption⟩
theorem VRels.inv1 {w : World} {h : Heap} {ρ : List Addr} {a : AV} {vs : List Value} (H : VRels w h ρ [a] vs) : ∃ v, vs = [v] ∧ VRel w h ρ a v :=
  eEEAA H.invc fun v _ e h1 r => ⟨v, r.inv0 ▸ e, h1⟩
theorem VRels.inv2 {w : World} {h : Heap} {ρ : List Addr} {a b : AV} {vs : List Value} (H : VRels w h ρ [a, b] vs) : ∃ v u, vs = [v, u] ∧ VRel w h ρ a v ∧ VRel w h ρ b u :=
  eEEAA H.invc fun v _ e h1 r => eEA r.inv1 fun u e2 h2 => ⟨v, u, e2 ▸ e, h1, h2⟩
theorem VRels.inv3 {w : World} {h : Heap} {ρ : List Addr} {a b c : AV} {vs : List Value} (H : VRels w h ρ [a, b, c] vs) : ∃ v u t, vs = [v, u, t] ∧ VRel w h ρ a v ∧ VRel w h ρ b u ∧ VRel w h ρ c t :=
  eEEAA H.invc fun v _ e h1 r => eEEAA r.inv2 fun u t e2 h2 h3 => ⟨v, u, t, e2 ▸ e, h1, h2, h3⟩
theorem VRels.ind {w : World} {h : Heap} {ρ : List Addr} {P : List AV → List Value → Prop} (h0 : P [] []) (h1 : ∀ x v xs vs, VRel w h ρ x v → VRels w h ρ xs vs → P xs vs → P (x :: xs) (v :: vs)) (xs : List AV) : ∀ vs, VRels w h ρ xs vs → P xs vs := by
  induction xs with
  | nil => intro vs H; rw [H.inv0]; exact h0
  | cons x xs ih => intro vs H; refine eEEAA H.invc ?_; rintro v us rfl q r; exact h1 _ _ _ _ q r (ih _ r)
theorem VRels.length {w : World} {h : Heap} {ρ : List Addr} {xs : List AV} {vs : List Value} (H : VRels w h ρ xs vs) : vs.length = xs.length :=
  VRels.ind (P := fun xs vs => vs.length = xs.length) rfl (fun _ _ _ _ _ _ ih => congrArg (· + 1) ih) _ _ H
theorem VRels.get {w : World} {h : Heap} {ρ : List Addr} {xs : List AV} {vs : List Value} (H : VRels w h ρ xs vs) : ∀ {i : Nat} {x : AV}, xs[i]? = some x → ∃ v, vs[i]? = some v ∧ VRel w h ρ x v :=
  VRels.ind (P := fun xs vs => ∀ {i : Nat} {x : AV}, xs[i]? = some x → ∃ v, vs[i]? = some v ∧ VRel w h ρ x v) (fun e => nomatch e) (fun _ v _ _ hx _ ih i x e => by
    cases i with
    | zero => cases e; exact ⟨_, rfl, hx⟩
    | succ i => exact ih e) _ _ H
theorem VRels.append {w : World} {h : Heap} {ρ : List Addr} {xs : List AV} {vs : List Value} (H : VRels w h ρ xs vs) {ys : List AV} {us : List Value} (hy : VRels w h ρ ys us) : VRels w h ρ (xs ++ ys) (vs ++ us) :=
  VRels.ind (P := fun xs vs => VRels w h ρ (xs ++ ys) (vs ++ us)) hy (fun _ _ _ _ hx _ ih => .cons hx ih) _ _ H
mutual
noncomputable def AV.pure : AV → Bool
  | .hnd _ => false
  | .profm _ _ => false
  | .tup xs => AV.pures xs
  | .lst xs => AV.pures xs
  | .prof _ xs => AV.pures xs
  | .msf _ p => p.pure
  | _ => true
noncomputable def AV.pures : List AV → Bool
  | [] => true
  | x :: xs => x.pure && AV.pures xs
end
theorem VRels.pure {w : World} {h : Heap} {ρ ρ' : List Addr} {xs : List AV} {vs : List Value} (H : VRels w h ρ xs vs) (e : AV.pures xs = true) : VRels w h ρ' xs vs :=
  H.move AV.pure AV.pures (fun _ _ q => q) (fun _ _ q => nomatch q) (fun _ _ _ q => nomatch q) (fun _ q => q) (fun _ q => q) (fun _ _ q => q) (fun _ _ q => q) (fun _ _ q => Bool.and_eq_true_iff.mp q) e
theorem VRel.pure {w : World} {h : Heap} {ρ ρ' : List Addr} {x : AV} {v : Value} (H : VRel w h ρ x v) (e : x.pure = true) : VRel w h ρ' x v :=
  (VRels.pure (.cons H .nil) (show (x.pure && true) = true by rw [e]; rfl)).head
noncomputable def VRel.Sh (w : World) (h : Heap) (ρ : List Addr) (x : AV) (v : Value) : Prop :=
  match x with
  | .none => v = .none
  | .bool b => v = .bool b
  | .int i => ∃ t, v = .int i t
  | .str i => ∃ t, v = .str i t
  | .val u => v = u
  | .tup xs => ∃ a vs, v = .ref a ∧ IsTup h a (List.toArray vs) ∧ VRels w h ρ xs vs
  | .lst xs => ∃ a vs, v = .ref a ∧ ExL h a vs ∧ VRels w h ρ xs vs
  | .hnd n => ∃ a, v = .ref a ∧ ρ[n]? = some a
  | .set xs => ∃ a, v = .ref a ∧ IsSet w h a xs
  | .frac p q => ∃ a dx n t1 t2 t3 t4, v = .ref a ∧ h.get? a = some (instObj 194 dx) ∧ h.get? dx = some (dictOf (fracEs w p q t1 t2 t3 t4) n)
  | .msf nm par => ∃ x dx n pv t1 t2 t3, v = .ref x ∧ h.get? x = some (instObj 252 dx) ∧ h.get? dx = some (dictOf [⟨PyData.keyHash w.params "name", .str (Str.ofString "name") t1, .str nm t2⟩, ⟨PyData.keyHash w.params "param", .str (Str.ofString "param") t3, pv⟩] n) ∧ VRel w h ρ par pv
  | .rng a b => ∃ r t u k, v = .ref r ∧ IsRange h r a b 1 t u k
  | _ => True
theorem VRel.sh {w : World} {h : Heap} {ρ : List Addr} {x : AV} {v : Value} (H : VRel w h ρ x v) : VRel.Sh w h ρ x v := by
  cases H with
  | none => rfl
  | bool => rfl
  | int => exact ⟨_, rfl⟩
  | str => exact ⟨_, rfl⟩
  | val => rfl
  | any => trivial
  | rng hx => exact ⟨_, _, _, _, rfl, hx⟩
  | tup ht hx => exact ⟨_, _, rfl, ht, hx⟩
  | lst ht hx => exact ⟨_, _, rfl, ht, hx⟩
  | hnd hn => exact ⟨_, rfl, hn⟩
  | set hs => exact ⟨_, rfl, hs⟩
  | frac hx hd => exact ⟨_, _, _, _, _, _, _, rfl, hx, hd⟩
  | msf hx hd hp => exact ⟨_, _, _, _, _, _, _, rfl, hx, hd, hp⟩
  | voter => trivial
  | prof => trivial
  | profm => trivial
theorem VRel.val_inv {w : World} {h : Heap} {ρ : List Addr} {u v : Value} (x : VRel w h ρ (.val u) v) : v = u := x.sh
theorem VRel.none_inv {w : World} {h : Heap} {ρ : List Addr} {v : Value} (x : VRel w h ρ .none v) : v = .none := x.sh
theorem VRel.bool_inv {w : World} {h : Heap} {ρ : List Addr} {b : Bool} {v : Value} (x : VRel w h ρ (.bool b) v) : v = .bool b := x.sh
theorem VRel.msf_inv {w : World} {h : Heap} {ρ : List Addr} {nm : Str} {par : AV} {v : Value} (x : VRel w h ρ (.msf nm par) v) : ∃ x dx n pv t1 t2 t3, v = .ref x ∧ h.get? x = some (instObj 252 dx) ∧ h.get? dx = some (dictOf [⟨PyData.keyHash w.params "name", .str (Str.ofString "name") t1, .str nm t2⟩, ⟨PyData.keyHash w.params "param", .str (Str.ofString "param") t3, pv⟩] n) ∧ VRel w h ρ par pv := x.sh
theorem VRel.tup_inv {w : World} {h : Heap} {ρ : List Addr} {xs : List AV} {v : Value} (x : VRel w h ρ (.tup xs) v) : ∃ a vs, v = .ref a ∧ IsTup h a (List.toArray vs) ∧ VRels w h ρ xs vs := x.sh
theorem VRel.lst_inv {w : World} {h : Heap} {ρ : List Addr} {xs : List AV} {v : Value} (x : VRel w h ρ (.lst xs) v) : ∃ a vs, v = .ref a ∧ ExL h a vs ∧ VRels w h ρ xs vs := x.sh
theorem VRel.set_inv {w : World} {h : Heap} {ρ : List Addr} {xs : List Nat} {v : Value} (x : VRel w h ρ (.set xs) v) : ∃ a, v = .ref a ∧ IsSet w h a xs := x.sh
theorem VRel.hnd_inv {w : World} {h : Heap} {ρ : List Addr} {n : Nat} {v : Value} (x : VRel w h ρ (.hnd n) v) : ∃ a, v = .ref a ∧ ρ[n]? = some a := x.sh
theorem VRel.rng_inv {w : World} {h : Heap} {ρ : List Addr} {a b : Int} {v : Value} (x : VRel w h ρ (.rng a b) v) : ∃ r t u k, v = .ref r ∧ IsRange h r a b 1 t u k := x.sh
theorem VRel.int_inv {w : World} {h : Heap} {ρ : List Addr} {i : Int} {v : Value} (x : VRel w h ρ (.int i) v) : ∃ t, v = .int i t := x.sh
theorem VRel.str_inv {w : World} {h : Heap} {ρ : List Addr} {i : Str} {v : Value} (x : VRel w h ρ (.str i) v) : ∃ t, v = .str i t := x.sh
inductive Cell where
  | lst (xs : List AV)
  | ins (C : Addr) (d : Nat)
  | dct (fs : List (Str × AV))
noncomputable def Cell.ok : Cell → Bool
  | .lst xs => AV.pures xs
  | _ => true
inductive FRels (w : World) (h : Heap) (ρ : List Addr) : List (Str × AV) → List DictEntry → Prop where
  | nil : FRels w h ρ [] []
  | cons {k : Str} {x : AV} {v : Value} {t : Tok} {xs : List (Str × AV)} {es : List DictEntry} (hx : VRel w h ρ x v) (hxs : FRels w h ρ xs es) : FRels w h ρ ((k, x) :: xs) (⟨PyData.keyHash w.params k, .str k t, v⟩ :: es)
theorem FRels.mono {w : World} {h h' : Heap} {ρ ρ' : List Addr} (k : h.StaysIn h') (p : ρ <+: ρ') {xs : List (Str × AV)} {vs : List DictEntry} (H : FRels w h ρ xs vs) : FRels w h' ρ' xs vs := by
  induction H with
  | nil => exact .nil
  | cons hx _ ih => exact .cons (hx.mono k p) ih
theorem FRels.inv0 {w : World} {h : Heap} {ρ : List Addr} {vs : List DictEntry} (H : FRels w h ρ [] vs) : vs = [] := by cases H; rfl
theorem FRels.invc {w : World} {h : Heap} {ρ : List Addr} {k : Str} {x : AV} {xs : List (Str × AV)} {vs : List DictEntry} (H : FRels w h ρ ((k, x) :: xs) vs) : ∃ v t us, vs = ⟨PyData.keyHash w.params k, .str k t, v⟩ :: us ∧ VRel w h ρ x v ∧ FRels w h ρ xs us := by cases H; exact ⟨_, _, _, rfl, by assumption, by assumption⟩
theorem FRels.inv2 {w : World} {h : Heap} {ρ : List Addr} {k l : Str} {x y : AV} {vs : List DictEntry} (H : FRels w h ρ [(k, x), (l, y)] vs) :
    ∃ v t v' t', vs = [⟨PyData.keyHash w.params k, .str k t, v⟩, ⟨PyData.keyHash w.params l, .str l t', v'⟩] ∧ VRel w h ρ x v ∧ VRel w h ρ y v' :=
  eEEEAA H.invc fun v t _ e h1 r => eEEEAA r.invc fun v' t' _ e2 h2 r => ⟨v, t, v', t', r.inv0 ▸ e2 ▸ e, h1, h2⟩
theorem FRels.inv3 {w : World} {h : Heap} {ρ : List Addr} {k l m : Str} {x y z : AV} {vs : List DictEntry} (H : FRels w h ρ [(k, x), (l, y), (m, z)] vs) :
    ∃ v t v' t' u t'', vs = [⟨PyData.keyHash w.params k, .str k t, v⟩, ⟨PyData.keyHash w.params l, .str l t', v'⟩, ⟨PyData.keyHash w.params m, .str m t'', u⟩] ∧ VRel w h ρ x v ∧ VRel w h ρ y v' ∧ VRel w h ρ z u :=
  eEEEAA H.invc fun v t _ e h1 r => eEEEEAA r.inv2 fun v' t' u t'' e2 h2 h3 => ⟨v, t, v', t', u, t'', e2 ▸ e, h1, h2, h3⟩
inductive CellRel (w : World) (h : Heap) (ρ : List Addr) : Cell → Obj → Prop where
  | lst {xs : List AV} {vs : List Value} {k : Nat} (hx : VRels w h ρ xs vs) : CellRel w h ρ (.lst xs) (listOf (List.toArray vs) k)
  | ins {C dx : Addr} {d : Nat} (hd : ρ[d]? = some dx) : CellRel w h ρ (.ins C d) (instObj C dx)
  | dct {fs : List (Str × AV)} {es : List DictEntry} {k : Nat} (hf : FRels w h ρ fs es) : CellRel w h ρ (.dct fs) (dictOf es k)
theorem CellRel.mono {w : World} {h h' : Heap} {ρ ρ' : List Addr} (k : h.StaysIn h') (p : ρ <+: ρ') {c : Cell} {o : Obj} (r : CellRel w h ρ c o) : CellRel w h' ρ' c o := by
  cases r with
  | lst hx => exact .lst (hx.mono k p)
  | ins hd => exact .ins (getElem?_pre p hd)
  | dct hf => exact .dct (hf.mono k p)
structure TopH (w : World) (h : Heap) : Prop where
  K : (Internal.hd.heap_1 w.params).In h
  b : ∃ mb, h.Ns builtinsNs mb ∧ ∀ x : Str, x ≠ "__name__" → mb x = bootBuiltins x
  g : ∃ mg, h.Ns mainGlobals mg
  nolimit : h.NoLimit
  nodigits : ∃ mc, h.Ns cStatics mc ∧ mc "sys.int_max_str_digits" = none
  bm : ∃ mg bm ob, BMod h mainGlobals mg bm ob
theorem TopH.keeps {w : World} {h h' : Heap} (T : TopH w h) (k : h.StaysIn h') : TopH w h' :=
  ⟨T.K.keeps k, eEA T.b fun mb a b => ⟨mb, a.keeps k, b⟩, let ⟨mg, a⟩ := T.g; ⟨mg, a.keeps k⟩, T.nolimit.keeps k, eEA T.nodigits fun mc a b => ⟨mc, a.keeps k, b⟩, eEEE T.bm fun mg bm ob B => ⟨mg, bm, ob, ⟨B.ns.keeps k, B.name, B.ne, k _ _ B.obj, B.cls, B.dict, B.data⟩⟩⟩
abbrev Dead (h : Heap) (b : Addr) : Prop := h.get? b = none
abbrev Live (h : Heap) (b : Addr) : Prop := ∃ o, h.get? b = some o
theorem nd {h : Heap} {b : Addr} (l : Live h b) (d : Dead h b) : False := let ⟨_, e⟩ := l; by rw [d] at e; cases e
theorem nd' {h : Heap} {b : Addr} {o : Obj} (e : h.get? b = some o) (d : Dead h b) : False := nd ⟨o, e⟩ d
theorem dead_of_le {h : Heap} {b : Addr} (l : h.objs.size ≤ b) : Dead h b := Heap.get?_none_of_le l
theorem dead_base {hb h : Heap} {b : Addr} (k : hb.StaysIn h) (d : Dead h b) : Dead hb b := by
  cases q : hb.get? b with
  | none => exact q
  | some o => exact (nd' (k b o q) d).elim
theorem dead_back {h h' : Heap} {b : Addr} (l : ∀ b, Live h b → Live h' b) (d : Dead h' b) : Dead h b := by
  cases q : h.get? b with
  | none => exact q
  | some o => exact (nd (l b ⟨o, q⟩) d).elim
theorem live_same {a : Addr} {h h' : Heap} (hs : Heap.SameBut a h h') (l : Live h' a) : ∀ b, Live h b → Live h' b := fun b ⟨o, e⟩ => by
  by_cases q : b = a
  · exact q ▸ l
  · exact ⟨o, (hs.2 b q).trans e⟩
theorem live_ns {h : Heap} {a : Addr} {m : Str → Option Value} (x : h.Ns a m) : Live h a := eEEEA x fun o _ _ e _ => ⟨o, e⟩
theorem live_cell {h : Heap} {a : Addr} {r : Option Value} (x : h.IsCell a r) : Live h a := eEA x fun o e _ => ⟨o, e⟩
theorem live_stays {h h' : Heap} (k : h.StaysIn h') : ∀ b, Live h b → Live h' b := fun b ⟨o, e⟩ => ⟨o, k b o e⟩
structure RelM (w : World) (hb : Heap) (ρ : List Addr) (s : Shared) (μ : List Cell) : Prop where
  top : TopH w hb
  keep : hb.StaysIn s.heap
  tabs : ∀ P ∈ TB, (∃ ps : { ps : Array Value // TriplesOk ps.toList }, s.heap.get? P = some (tabObj ps.1)) ∧ hb.get? P = none
  bare : AllBare s.gens
  len : ρ.length = μ.length
  mem : ∀ (n : Nat) (a : Addr) (c : Cell), ρ[n]? = some a → μ[n]? = some c → ∃ o, s.heap.get? a = some o ∧ CellRel w hb ρ c o
  ok : ∀ c ∈ μ, c.ok = true
  nod : ρ.Nodup
  out : ∀ a ∈ ρ, hb.get? a = none ∧ a ∉ TB ∧ Live s.heap a
  fr : ∃ L m, 648 ≤ L ∧ s.heap.Ns L m ∧ L ∉ ρ
structure Ext (X : List Addr) (hb : Heap) (ρ : List Addr) (s : Shared) (hb' : Heap) (ρ' : List Addr) (s' : Shared) : Prop where
  base : hb.StaysIn hb'
  pre : ρ <+: ρ'
  fresh : ∀ b o, hb'.get? b = some o → hb.get? b = some o ∨ Dead s.heap b
  freshR : ∀ a ∈ ρ', a ∈ ρ ∨ Dead s.heap a
  keep : ∀ b o, s.heap.get? b = some o → b ∉ X → b ∉ ρ → b ∉ TB → s'.heap.get? b = some o
  live : ∀ b, Live s.heap b → Live s'.heap b
  gens : ∀ (i : Nat) (g : GenState), s.gens[i]? = some g → s'.gens[i]? = some g
  os : s'.os = s.os
theorem Ext.refl {X : List Addr} {hb : Heap} {ρ : List Addr} {s : Shared} : Ext X hb ρ s hb ρ s :=
  ⟨fun _ _ e => e, List.prefix_rfl, fun _ _ e => .inl e, fun _ h => .inl h, fun _ _ e _ _ _ => e, fun _ h => h, fun _ _ e => e, rfl⟩
theorem Ext.trans {X : List Addr} {hb hb1 hb2 : Heap} {ρ ρ1 ρ2 : List Addr} {s s1 s2 : Shared} (x : Ext X hb ρ s hb1 ρ1 s1) (y : Ext X hb1 ρ1 s1 hb2 ρ2 s2) : Ext X hb ρ s hb2 ρ2 s2 where
  base := fun b o e => y.base b o (x.base b o e)
  pre := x.pre.trans y.pre
  fresh := fun b o e => (y.fresh b o e).elim (fun e => x.fresh b o e) fun l => .inr (dead_back x.live l)
  freshR := fun a h => (y.freshR a h).elim (fun h => x.freshR a h) fun l => .inr (dead_back x.live l)
  keep := fun b o e h1 h2 h3 => y.keep b o (x.keep b o e h1 h2 h3) h1 (fun q => (x.freshR b q).elim h2 fun l => nd' e l) h3
  live := fun b h => y.live b (x.live b h)
  gens := fun i g e => y.gens i g (x.gens i g e)
  os := y.os.trans x.os
theorem Ext.weaken {X Y : List Addr} {hb hb' : Heap} {ρ ρ' : List Addr} {s s' : Shared} (x : Ext X hb ρ s hb' ρ' s') (h : ∀ a ∈ X, a ∈ Y) : Ext Y hb ρ s hb' ρ' s' :=
  { x with keep := fun b o e h1 h2 h3 => x.keep b o e (fun q => h1 (h b q)) h2 h3 }
noncomputable def Room (n : Nat) (A : Around) : Prop := A.handled = none ∧ A.depth + n < 700 ∧ A.units + 20 * n < 8000
theorem Room.mono {n m : Nat} {A : Around} (h : Room n A) (l : m ≤ n) : Room m A := ⟨h.1, by have := h.2.1; lia, by have := h.2.2; lia⟩
structure St where
  loc : List (Str × AV)
  cel : List (Str × AV)
  mem : List Cell
noncomputable def fp (env : Env) : List Addr := env.locals :: env.cells.map (·.2)
structure RelE (w : World) (hb : Heap) (ρ : List Addr) (env : Env) (s : Shared) (σ : St) : Prop where
  m : RelM w hb ρ s σ.mem
  loc : ∃ mp, s.heap.Ns env.locals mp ∧ ∀ x av, σ.loc.lookup x = some av → ∃ v, mp x = some v ∧ VRel w hb ρ av v
  cel : ∀ x c, env.cells.lookup x = some c → ∃ r, s.heap.IsCell c r ∧ ∀ av, σ.cel.lookup x = some av → ∃ v, r = some v ∧ VRel w hb ρ av v
  celD : ∀ x av, σ.cel.lookup x = some av → ∃ c, env.cells.lookup x = some c
  nod : (fp env).Nodup
  out : ∀ a ∈ fp env, hb.get? a = none ∧ a ∉ ρ ∧ a ∉ TB ∧ Live s.heap a
  far : 648 ≤ env.locals
theorem lookup_snd {β : Type} {x : Str} {c : β} : ∀ {l : List (Str × β)}, l.lookup x = some c → c ∈ l.map (·.2)
  | [], e => by cases e
  | (y, d) :: l, e => by
    rw [List.lookup_cons] at e
    cases q : x == y with
    | true => rw [q] at e; cases e; exact List.mem_cons_self ..
    | false => rw [q] at e; exact List.mem_cons_of_mem _ (lookup_snd e)
theorem isCell_of {h h' : Heap} {c : Addr} {r : Option Value} (x : h.IsCell c r) (k : ∀ o, h.get? c = some o → h'.get? c = some o) : h'.IsCell c r :=
  eEA x fun o ho hd => ⟨o, k o ho, hd⟩
theorem ns_of {h h' : Heap} {a : Addr} {mp : Str → Option Value} (x : h.Ns a mp) (k : ∀ o, h.get? a = some o → h'.get? a = some o) : h'.Ns a mp :=
  eEEEA x fun o es ep e r => ⟨o, es, ep, k _ e, r⟩
theorem RelE.step {w : World} {hb hb' : Heap} {ρ ρ' : List Addr} {env : Env} {s s' : Shared} {σ : St} {μ' : List Cell} (R : RelE w hb ρ env s σ)
    (X : Ext [] hb ρ s hb' ρ' s') (M : RelM w hb' ρ' s' μ') : RelE w hb' ρ' env s' { σ with mem := μ' } where
  m := M
  loc := by
    refine eEA R.loc ?_; rintro mp hn hv
    have hL := R.out env.locals (List.mem_cons_self ..)
    exact ⟨mp, ns_of hn fun o e => X.keep _ o e (fun q => nomatch q) hL.2.1 hL.2.2.1, fun x av e => eEA (hv x av e) fun v a b => ⟨v, a, b.mono X.base X.pre⟩⟩
  cel := fun x c e => by
    refine eEA (R.cel x c e) ?_; rintro r hc hv
    have hm : c ∈ fp env := List.mem_cons_of_mem _ (lookup_snd e)
    have hL := R.out c hm
    exact ⟨r, isCell_of hc fun o e => X.keep _ o e (fun q => nomatch q) hL.2.1 hL.2.2.1, fun av q => eEA (hv av q) fun v a b => ⟨v, a, b.mono X.base X.pre⟩⟩
  celD := R.celD
  nod := R.nod
  far := R.far
  out := fun a ha => by
    refine eAAA (R.out a ha) ?_; rintro h1 h2 h3 h4
    refine ⟨?_, fun q => ?_, h3, X.live a h4⟩
    · cases q : hb'.get? a with
      | none => rfl
      | some o => exact (X.fresh a o q).elim (fun e => by rw [h1] at e; cases e) fun l => (nd h4 l).elim
    · exact (X.freshR a q).elim h2 fun l => (nd h4 l).elim
noncomputable def TE {α : Type} (w : World) (n : Nat) (env : Env) (t : Sem α) (σ : St) (R : Heap → List Addr → α → Prop) (σ' : St) : Prop :=
  ∀ (A : Around) (hb : Heap) (ρ : List Addr) (s : Shared) (Q : α → Shared → Prop) (E : Value → Shared → Prop), Room n A → RelE w hb ρ env s σ →
    (∀ hb' ρ' s' v, Ext (fp env) hb ρ s hb' ρ' s' → RelE w hb' ρ' env s' σ' → R hb' ρ' v → Q v s') → wpAny (model PRG w) A t Q E s
abbrev SE (w : World) (n : Nat) (env : Env) (e : Expr) (σ : St) (av : AV) (σ' : St) : Prop := TE w n env (eval e env) σ (fun hb ρ v => VRel w hb ρ av v) σ'
abbrev SB (w : World) (n : Nat) (env : Env) (e : Expr) (σ : St) (b : Bool) (σ' : St) : Prop := TE w n env (isTrue e env (eval e env)) σ (fun _ _ c => c = b) σ'
noncomputable def O1 {α : Type} (w : World) (n : Nat) (t : Value → Sem α) (a : AV) (μ : List Cell) (R : Heap → List Addr → α → Prop) (μ' : List Cell) : Prop :=
  ∀ (A : Around) (hb : Heap) (ρ : List Addr) (s : Shared) (v : Value) (Q : α → Shared → Prop) (E : Value → Shared → Prop), Room n A → RelM w hb ρ s μ → VRel w hb ρ a v →
    (∀ hb' ρ' s' r, Ext [] hb ρ s hb' ρ' s' → RelM w hb' ρ' s' μ' → R hb' ρ' r → Q r s') → wpAny (model PRG w) A (t v) Q E s
noncomputable def O2 {α : Type} (w : World) (n : Nat) (t : Value → Value → Sem α) (a b : AV) (μ : List Cell) (R : Heap → List Addr → α → Prop) (μ' : List Cell) : Prop :=
  ∀ (A : Around) (hb : Heap) (ρ : List Addr) (s : Shared) (v u : Value) (Q : α → Shared → Prop) (E : Value → Shared → Prop), Room n A → RelM w hb ρ s μ → VRel w hb ρ a v → VRel w hb ρ b u →
    (∀ hb' ρ' s' r, Ext [] hb ρ s hb' ρ' s' → RelM w hb' ρ' s' μ' → R hb' ρ' r → Q r s') → wpAny (model PRG w) A (t v u) Q E s
inductive KRels (w : World) (h : Heap) (ρ : List Addr) : List (Str × AV) → List (Str × Value) → Prop where
  | nil : KRels w h ρ [] []
  | cons {k : Str} {x : AV} {v : Value} {xs : List (Str × AV)} {vs : List (Str × Value)} (hx : VRel w h ρ x v) (hxs : KRels w h ρ xs vs) : KRels w h ρ ((k, x) :: xs) ((k, v) :: vs)
theorem KRels.mono {w : World} {h h' : Heap} {ρ ρ' : List Addr} (k : h.StaysIn h') (p : ρ <+: ρ') {xs : List (Str × AV)} {vs : List (Str × Value)} (H : KRels w h ρ xs vs) : KRels w h' ρ' xs vs := by
  induction H with
  | nil => exact .nil
  | cons hx _ ih => exact .cons (hx.mono k p) ih
theorem KRels.inv0 {w : World} {h : Heap} {ρ : List Addr} {vs : List (Str × Value)} (H : KRels w h ρ [] vs) : vs = [] := by cases H; rfl
theorem KRels.invc {w : World} {h : Heap} {ρ : List Addr} {k : Str} {x : AV} {xs : List (Str × AV)} {vs : List (Str × Value)} (H : KRels w h ρ ((k, x) :: xs) vs) : ∃ v us, vs = (k, v) :: us ∧ VRel w h ρ x v ∧ KRels w h ρ xs us := by cases H; exact ⟨_, _, rfl, by assumption, by assumption⟩
theorem KRels.inv1 {w : World} {h : Heap} {ρ : List Addr} {k1 : Str} {a : AV} {vs : List (Str × Value)} (H : KRels w h ρ [(k1, a)] vs) : ∃ v, vs = [(k1, v)] ∧ VRel w h ρ a v :=
  eEEAA H.invc fun v _ e h1 r => ⟨v, r.inv0 ▸ e, h1⟩
theorem KRels.inv2 {w : World} {h : Heap} {ρ : List Addr} {k1 k2 : Str} {a b : AV} {vs : List (Str × Value)} (H : KRels w h ρ [(k1, a), (k2, b)] vs) : ∃ v u, vs = [(k1, v), (k2, u)] ∧ VRel w h ρ a v ∧ VRel w h ρ b u :=
  eEEAA H.invc fun v _ e h1 r => eEA r.inv1 fun u e2 h2 => ⟨v, u, e2 ▸ e, h1, h2⟩
theorem KRels.inv3 {w : World} {h : Heap} {ρ : List Addr} {k1 k2 k3 : Str} {a b c : AV} {vs : List (Str × Value)} (H : KRels w h ρ [(k1, a), (k2, b), (k3, c)] vs) : ∃ v u t, vs = [(k1, v), (k2, u), (k3, t)] ∧ VRel w h ρ a v ∧ VRel w h ρ b u ∧ VRel w h ρ c t :=
  eEEAA H.invc fun v _ e h1 r => eEEAA r.inv2 fun u t e2 h2 h3 => ⟨v, u, t, e2 ▸ e, h1, h2, h3⟩
theorem KRels.inv5 {w : World} {h : Heap} {ρ : List Addr} {k1 k2 k3 k4 k5 : Str} {a b c d e : AV} {vs : List (Str × Value)} (H : KRels w h ρ [(k1, a), (k2, b), (k3, c), (k4, d), (k5, e)] vs) :
    ∃ v u t p q, vs = [(k1, v), (k2, u), (k3, t), (k4, p), (k5, q)] ∧ VRel w h ρ a v ∧ VRel w h ρ b u ∧ VRel w h ρ c t ∧ VRel w h ρ d p ∧ VRel w h ρ e q :=
  eEEAA H.invc fun v _ e h1 r => eEEAA r.invc fun u _ e2 h2 r => eEEEAAA r.inv3 fun t p q e3 h3 h4 h5 => ⟨v, u, t, p, q, e3 ▸ e2 ▸ e, h1, h2, h3, h4, h5⟩
noncomputable def FN (w : World) (n : Nat) (f : AV) (as : List AV) (ks : List (Str × AV)) (μ : List Cell) (r : AV) (μ' : List Cell) : Prop :=
  ∀ (A : Around) (hb : Heap) (ρ : List Addr) (s : Shared) (fv : Value) (vs : List Value) (kvs : List (Str × Value)) (Q E : Value → Shared → Prop), Room n A → RelM w hb ρ s μ →
    VRel w hb ρ f fv → VRels w hb ρ as vs → KRels w hb ρ ks kvs →
    (∀ hb' ρ' s' v, Ext [] hb ρ s hb' ρ' s' → RelM w hb' ρ' s' μ' → VRel w hb' ρ' r v → Q v s') → wpAny (model PRG w) A (call fv vs kvs) Q E s
section
variable {w : World} {n : Nat} {env : Env} {σ σ1 σ2 σ3 : St} {pos : Pos}
theorem TE.mono {α : Type} {t : Sem α} {R R' : Heap → List Addr → α → Prop} (h : TE w n env t σ R σ1) (hR : ∀ hb ρ v, R hb ρ v → R' hb ρ v) : TE w n env t σ R' σ1 :=
  fun A hb ρ s Q E rm r k => h A hb ρ s Q E rm r fun hb' ρ' s' v x r' q => k hb' ρ' s' v x r' (hR _ _ _ q)
theorem TE.of_O1 {α : Type} {t : Value → Sem α} {a : AV} {R : Heap → List Addr → α → Prop} {μ' : List Cell} (h : O1 w n t a σ.mem R μ') {A : Around} {hb : Heap} {ρ : List Addr} {s : Shared} {v : Value} {Q : α → Shared → Prop} {E : Value → Shared → Prop}
    (rm : Room n A) (r : RelE w hb ρ env s σ) (hv : VRel w hb ρ a v) (k : ∀ hb' ρ' s' x, Ext (fp env) hb ρ s hb' ρ' s' → RelE w hb' ρ' env s' { σ with mem := μ' } → R hb' ρ' x → Q x s') : wpAny (model PRG w) A (t v) Q E s :=
  h A hb ρ s v Q E rm r.m hv fun hb' ρ' s' x X M q => k hb' ρ' s' x (X.weaken fun _ q => nomatch q) (r.step X M) q
theorem TE.of_O2 {α : Type} {t : Value → Value → Sem α} {a b : AV} {R : Heap → List Addr → α → Prop} {μ' : List Cell} (h : O2 w n t a b σ.mem R μ') {A : Around} {hb : Heap} {ρ : List Addr} {s : Shared} {v u : Value} {Q : α → Shared → Prop} {E : Value → Shared → Prop}
    (rm : Room n A) (r : RelE w hb ρ env s σ) (hv : VRel w hb ρ a v) (hu : VRel w hb ρ b u) (k : ∀ hb' ρ' s' x, Ext (fp env) hb ρ s hb' ρ' s' → RelE w hb' ρ' env s' { σ with mem := μ' } → R hb' ρ' x → Q x s') : wpAny (model PRG w) A (t v u) Q E s :=
  h A hb ρ s v u Q E rm r.m hv hu fun hb' ρ' s' x X M q => k hb' ρ' s' x (X.weaken fun _ q => nomatch q) (r.step X M) q
noncomputable def TX {α : Type} (w : World) (n : Nat) (env : Env) (t : Sem α) (σ : St) (R : St → Heap → List Addr → α → Prop) : Prop :=
  ∀ (A : Around) (hb : Heap) (ρ : List Addr) (s : Shared) (Q : α → Shared → Prop) (E : Value → Shared → Prop), Room n A → RelE w hb ρ env s σ →
    (∀ hb' ρ' s' v σ', Ext (fp env) hb ρ s hb' ρ' s' → RelE w hb' ρ' env s' σ' → R σ' hb' ρ' v → Q v s') → wpAny (model PRG w) A t Q E s
theorem TX.mono {α : Type} {t : Sem α} {R R' : St → Heap → List Addr → α → Prop} (h : TX w n env t σ R) (hR : ∀ σ' hb ρ v, R σ' hb ρ v → R' σ' hb ρ v) : TX w n env t σ R' :=
  fun A hb ρ s Q E rm r k => h A hb ρ s Q E rm r fun hb' ρ' s' v σ' x r' q => k hb' ρ' s' v σ' x r' (hR _ _ _ _ q)
structure St.le (σ' σ : St) : Prop where
  loc : ∀ x av, σ'.loc.lookup x = some av → σ.loc.lookup x = some av
  cel : ∀ x av, σ'.cel.lookup x = some av → σ.cel.lookup x = some av
  mem : σ'.mem = σ.mem
theorem RelE.le {hb : Heap} {ρ : List Addr} {s : Shared} {σ' : St} (r : RelE w hb ρ env s σ) (l : σ'.le σ) : RelE w hb ρ env s σ' :=
  ⟨l.mem ▸ r.m, eEA r.loc fun mp a b => ⟨mp, a, fun x av e => b x av (l.loc x av e)⟩, fun x c e => eEA (r.cel x c e) fun q a b => ⟨q, a, fun av e => b av (l.cel x av e)⟩, fun x av e => r.celD x av (l.cel x av e), r.nod, r.out, r.far⟩
theorem TX.le {α : Type} {t : Sem α} {R : St → Heap → List Addr → α → Prop} {σ' : St} (h : TX w n env t σ' R) (l : σ'.le σ) : TX w n env t σ R :=
  fun A hb ρ s Q E rm r k => h A hb ρ s Q E rm (r.le l) k
noncomputable def Has (l : List (Str × AV)) : List (Str × AV) → Prop
  | [] => True
  | (x, a) :: r => l.lookup x = some a ∧ Has l r
theorem Has.look {l : List (Str × AV)} : ∀ {r : List (Str × AV)}, Has l r → ∀ x av, r.lookup x = some av → l.lookup x = some av
  | [], _, _, _, e => by cases e
  | (y, a) :: r, h, x, av, e => by
    rw [List.lookup_cons] at e
    cases q : x == y with
    | true => rw [q] at e; cases e; rw [eq_of_beq q]; exact h.1
    | false => rw [q] at e; exact h.2.look x av e
noncomputable def lks (m : List (Str × AV)) : List (Str × AV) → List (Option AV)
  | [] => []
  | (x, _) :: r => m.lookup x :: lks m r
noncomputable def avs : List (Str × AV) → List (Option AV)
  | [] => []
  | (_, a) :: r => some a :: avs r
theorem has_of {m : List (Str × AV)} : ∀ {r : List (Str × AV)}, lks m r = avs r → Has m r
  | [], _ => trivial
  | (_, _) :: _, e => ⟨(List.cons.inj e).1, has_of (List.cons.inj e).2⟩
noncomputable def St.see (σ : St) (l c : List (Str × AV)) : List (Option AV) × List (Option AV) × List Cell := (lks σ.loc l, lks σ.cel c, σ.mem)
noncomputable def St.tell (l c : List (Str × AV)) (μ : List Cell) : List (Option AV) × List (Option AV) × List Cell := (avs l, avs c, μ)
theorem St.le_r {σ : St} {l c : List (Str × AV)} {μ : List Cell} (h : σ.see l c = St.tell l c μ) : St.le ⟨l, c, μ⟩ σ :=
  ⟨(has_of (congrArg (·.1) h)).look, (has_of (congrArg (·.2.1) h)).look, (congrArg (·.2.2) h).symm⟩
theorem St.le_of {σ : St} {l c : List (Str × AV)} {μ : List Cell} (h : Has σ.loc l) (hc : Has σ.cel c) (hm : μ = σ.mem) : St.le ⟨l, c, μ⟩ σ := ⟨h.look, hc.look, hm⟩
theorem RelM.toks {hb : Heap} {ρ : List Addr} {s : Shared} {μ : List Cell} (r : RelM w hb ρ s μ) (t : Nat) : RelM w hb ρ { s with toks := t } μ := ⟨r.top, r.keep, r.tabs, r.bare, r.len, r.mem, r.ok, r.nod, r.out, r.fr⟩
theorem RelE.toks {hb : Heap} {ρ : List Addr} {s : Shared} (r : RelE w hb ρ env s σ) (t : Nat) : RelE w hb ρ env { s with toks := t } σ := ⟨r.m.toks t, r.loc, r.cel, r.celD, r.nod, r.out, r.far⟩
theorem Ext.toks {X : List Addr} {hb : Heap} {ρ : List Addr} {s : Shared} (t : Nat) : Ext X hb ρ s hb ρ { s with toks := t } :=
  ⟨fun _ _ e => e, List.prefix_rfl, fun _ _ e => .inl e, fun _ h => .inl h, fun _ _ e _ _ _ => e, fun _ h => h, fun _ _ e => e, rfl⟩
theorem seL {x : Str} {av : AV} (hl : σ.loc.lookup x = some av) (hk : autoParam (env.scope.kind = .function) auR) (hx : autoParam (env.kindOf x = some .local) auR) (hd : autoParam ((x == ("__debug__" : Str)) = false) auD) :
    SE w n env (.Name x pos) σ av σ := fun A hb ρ s Q E rm r k => by
  refine eEA r.loc ?_; rintro mp hn hv
  refine eEA (hv x av hl) ?_; rintro v h1 h2
  exact wpAny_Name (wpAny_loadName_local hk hx hn h1 (k hb ρ s v .refl r h2)) hd
theorem se_cell {x : Str} {av : AV} (hl : σ.cel.lookup x = some av) (hk : autoParam (env.scope.kind = .function) auR) (hx : autoParam (env.kindOf x = some .cell) auR) (hd : autoParam ((x == ("__debug__" : Str)) = false) auD) :
    SE w n env (.Name x pos) σ av σ := fun A hb ρ s Q E rm r k => by
  obtain ⟨c, hc⟩ := r.celD x av hl
  refine eEA (r.cel x c hc) ?_; rintro _ hr hv
  refine eEA (hv av hl) ?_; rintro v rfl h2
  exact wpAny_Name (wpAny_loadName_cell hk hx hc hr (k hb ρ s v .refl r h2)) hd
theorem se_free {x : Str} {av : AV} (hl : σ.cel.lookup x = some av) (hk : autoParam (env.scope.kind = .function) auR) (hx : autoParam (env.kindOf x = some .free) auR) (hd : autoParam ((x == ("__debug__" : Str)) = false) auD) (hn : autoParam ((x == ("__classdict__" : Str)) = false) auD) :
    SE w n env (.Name x pos) σ av σ := fun A hb ρ s Q E rm r k => by
  obtain ⟨c, hc⟩ := r.celD x av hl
  refine eEA (r.cel x c hc) ?_; rintro _ hr hv
  refine eEA (hv av hl) ?_; rintro v rfl h2
  exact wpAny_Name (wpAny_loadName_free hk hx hc hr (k hb ρ s v .refl r h2) hn) hd
theorem se_glob {x : Str} {v : Value} (e : nsIn (Internal.hd.heap_1 w.params) mainGlobals x = some (some v)) (hk : autoParam (env.scope.kind = .function) auR) (hx : autoParam (env.kindOf x = some .globalImplicit) auR) (hg : autoParam (env.globals = mainGlobals) auR) (hd : autoParam ((x == ("__debug__" : Str)) = false) auD) :
    SE w n env (.Name x pos) σ (.val v) σ := fun A hb ρ s Q E rm r k => by
  obtain ⟨mg, hn⟩ := r.m.top.g
  exact Name_function_global hk hx (loadGlobal_global (by rw [hg]; exact hn.keeps r.m.keep) (mg_of r.m.top.K hn e) (k hb ρ s v .refl r (.val v))) hd
theorem se_builtin {x : Str} {v : Value} (e : nsIn (Internal.hd.heap_1 w.params) mainGlobals x = some none) (hv : bootBuiltins x = some v) (hn : x ≠ "__name__") (hk : autoParam (env.scope.kind = .function) auR) (hx : autoParam (env.kindOf x = some .globalImplicit) auR) (hg : autoParam (env.globals = mainGlobals) auR) (hbi : autoParam (env.builtins = builtinsNs) auR)
    (hd : autoParam ((x == ("__debug__" : Str)) = false) auD) : SE w n env (.Name x pos) σ (.val v) σ := fun A hb ρ s Q E rm r k => by
  obtain ⟨mg, hg'⟩ := r.m.top.g
  refine eEA r.m.top.b ?_; rintro mb hb' he
  exact Name_function_global hk hx (loadGlobal_builtin (by rw [hg]; exact hg'.keeps r.m.keep) (mg_none_of r.m.top.K hg' e) (by rw [hbi]; exact hb'.keeps r.m.keep) ((he x hn).trans hv) (k hb ρ s v .refl r (.val v))) hd
end
inductive AF where
  | next | brk | cont
  | ret (av : AV)
inductive FRel (w : World) (h : Heap) (ρ : List Addr) : AF → Flow → Prop where
  | next : FRel w h ρ .next .next
  | brk : FRel w h ρ .brk .brk
  | cont : FRel w h ρ .cont .cont
  | ret {av : AV} {v : Value} (hv : VRel w h ρ av v) : FRel w h ρ (.ret av) (.ret v)
abbrev SS (w : World) (n : Nat) (env : Env) (st : Stmt) (σ : St) (af : AF) (σ' : St) : Prop := TE w n env (exec st env) σ (fun hb ρ f => FRel w hb ρ af f) σ'
section
variable {w : World} {n : Nat} {env : Env} {σ σ1 σ2 σ3 : St} {pos : Pos}
theorem se_int {i : Int} {kd : Nat} : SE w n env (.Constant (.int i) kd pos) σ (.int i) σ := fun _ _ _ _ _ _ _ r k => wpAny_Constant_int (k _ _ _ _ (Ext.toks _) (r.toks _) (.int _ _))
theorem se_str {x : Str} {kd : Nat} : SE w n env (.Constant (.str x) kd pos) σ (.str x) σ := fun _ _ _ _ _ _ _ r k => wpAny_Constant_str (k _ _ _ _ (Ext.toks _) (r.toks _) (.str _ _))
theorem se_none {kd : Nat} : SE w n env (.Constant .none kd pos) σ .none σ := fun _ _ _ _ _ _ _ r k => wpAny_Constant_none (k _ _ _ _ .refl r .none)
theorem se_bool {b : Bool} {kd : Nat} : SE w n env (.Constant (.bool b) kd pos) σ (.bool b) σ := fun _ _ _ _ _ _ _ r k => wpAny_Constant_bool (k _ _ _ _ .refl r (.bool _))
theorem se_binop {l r : Expr} {op : Operator} {a b c : AV} {μ' : List Cell} (hl : SE w n env l σ a σ1) (hr : SE w n env r σ1 b σ2) (ho : O2 w n (binaryOp op) a b σ2.mem (fun hb ρ v => VRel w hb ρ c v) μ') :
    SE w n env (.BinOp l op r pos) σ c { σ2 with mem := μ' } := fun A hb ρ s Q E rm R k =>
  wpAny_BinOp (hl _ _ _ _ _ _ rm R fun _ _ _ _ X1 R1 h1 => hr _ _ _ _ _ _ rm R1 fun _ _ _ _ X2 R2 h2 =>
    TE.of_O2 ho rm R2 (h1.mono X2.base X2.pre) h2 fun _ _ _ _ X3 R3 h3 => k _ _ _ _ ((X1.trans X2).trans X3) R3 h3)
theorem se_cmp {l r : Expr} {op : CmpOp} {a b c : AV} {μ' : List Cell} (hl : SE w n env l σ a σ1) (hr : SE w n env r σ1 b σ2) (ho : O2 w n (compareOp op) a b σ2.mem (fun hb ρ v => VRel w hb ρ c v) μ') (hm : autoParam (behindInMarks op r = false) auW) :
    SE w n env (.Compare l [op] [r] pos) σ c { σ2 with mem := μ' } := fun A hb ρ s Q E rm R k =>
  wpAny_Compare1 (hl _ _ _ _ _ _ rm R fun _ _ _ _ X1 R1 h1 => hr _ _ _ _ _ _ rm R1 fun _ _ _ _ X2 R2 h2 =>
    TE.of_O2 ho rm R2 (h1.mono X2.base X2.pre) h2 fun _ _ _ _ X3 R3 h3 => k _ _ _ _ ((X1.trans X2).trans X3) R3 h3) hm
theorem sb_cmp {l r : Expr} {op : CmpOp} {a b : AV} {c : Bool} {μ' : List Cell} (hl : SE w n env l σ a σ1) (hr : SE w n env r σ1 b σ2) (ho : O2 w n (compareOp op) a b σ2.mem (fun hb ρ v => VRel w hb ρ (.bool c) v) μ') (hm : autoParam (behindInMarks op r = false) auW) :
    SB w n env (.Compare l [op] [r] pos) σ c { σ2 with mem := μ' } := fun A hb ρ s Q E rm R k =>
  wpAny_isTrue_Compare1 (hl _ _ _ _ _ _ rm R fun _ _ _ _ X1 R1 h1 => hr _ _ _ _ _ _ rm R1 fun _ _ _ _ X2 R2 h2 =>
    TE.of_O2 ho rm R2 (h1.mono X2.base X2.pre) h2 fun _ _ _ v X3 R3 h3 => by
      obtain rfl := VRel.bool_inv h3
      exact wpAny_pure (k _ _ _ _ ((X1.trans X2).trans X3) R3 rfl)) hm
theorem sb_plain {e : Expr} {a : AV} {b : Bool} {μ' : List Cell} (h : SE w n env e σ a σ1) (ho : O1 w n truthy a σ1.mem (fun _ _ c => c = b) μ') (he : autoParam (∀ whole, isTrue e env whole = (do let v ← whole; standAt e.pos; holding [v] (truthy v))) auI) :
    SB w n env e σ b { σ1 with mem := μ' } := fun A hb ρ s Q E rm R k =>
  isTrue_plain (h _ _ _ _ _ _ rm R fun _ _ _ _ X1 R1 h1 => TE.of_O1 ho rm R1 h1 fun _ _ _ _ X2 R2 h2 => k _ _ _ _ (X1.trans X2) R2 h2) (he _)
theorem sb_not {e : Expr} {b : Bool} (h : SB w n env e σ b σ1) : SB w n env (.UnaryOp .Not e pos) σ (!b) σ1 := fun A hb ρ s Q E rm R k =>
  isTrue_not (h _ _ _ _ _ _ rm R fun _ _ _ _ X1 R1 h1 => k _ _ _ _ X1 R1 (by rw [h1]))
theorem se_unary {e : Expr} {op : UnaryOp} {a b : AV} {μ' : List Cell} (h : SE w n env e σ a σ1) (ho : O1 w n (unaryOp op) a σ1.mem (fun hb ρ v => VRel w hb ρ b v) μ') : SE w n env (.UnaryOp op e pos) σ b { σ1 with mem := μ' } := fun A hb ρ s Q E rm R k =>
  wpAny_UnaryOp (h _ _ _ _ _ _ rm R fun _ _ _ _ X1 R1 h1 => TE.of_O1 ho rm R1 h1 fun _ _ _ _ X2 R2 h2 => k _ _ _ _ (X1.trans X2) R2 h2)
theorem sb_and_nil : SB w n env (.BoolOp .And [] pos) σ true σ := fun A hb ρ s Q E rm R k => isTrue_and_nil (k _ _ _ _ .refl R rfl)
theorem sb_or_nil : SB w n env (.BoolOp .Or [] pos) σ false σ := fun A hb ρ s Q E rm R k => isTrue_or_nil (k _ _ _ _ .refl R rfl)
theorem sb_and_f {x : Expr} {rest : List Expr} (h : SB w n env x σ false σ1) : SB w n env (.BoolOp .And (x :: rest) pos) σ false σ1 := fun A hb ρ s Q E rm R k =>
  isTrue_and (h _ _ _ _ _ _ rm R fun _ _ _ _ X1 R1 h1 => by subst h1; exact k _ _ _ _ X1 R1 rfl)
theorem sb_and_t {x : Expr} {rest : List Expr} {b : Bool} (h : SB w n env x σ true σ1) (hr : SB w n env (.BoolOp .And rest pos) σ1 b σ2) : SB w n env (.BoolOp .And (x :: rest) pos) σ b σ2 := fun A hb ρ s Q E rm R k =>
  isTrue_and (h _ _ _ _ _ _ rm R fun _ _ _ _ X1 R1 h1 => by subst h1; exact hr _ _ _ _ _ _ rm R1 fun _ _ _ _ X2 R2 h2 => k _ _ _ _ (X1.trans X2) R2 h2)
theorem sb_or_f {x : Expr} {rest : List Expr} {b : Bool} (h : SB w n env x σ false σ1) (hr : SB w n env (.BoolOp .Or rest pos) σ1 b σ2) : SB w n env (.BoolOp .Or (x :: rest) pos) σ b σ2 := fun A hb ρ s Q E rm R k =>
  isTrue_or (h _ _ _ _ _ _ rm R fun _ _ _ _ X1 R1 h1 => by subst h1; exact hr _ _ _ _ _ _ rm R1 fun _ _ _ _ X2 R2 h2 => k _ _ _ _ (X1.trans X2) R2 h2)
set_option tactic.hygienic true in
theorem se_ifexp {t x y : Expr} {b : Bool} {a : AV} (h : SB w n env t σ b σ1) (hx : b = true → SE w n env x σ1 a σ2) (hy : b = false → SE w n env y σ1 a σ2) : SE w n env (.IfExp t x y pos) σ a σ2 := fun A hb ρ s Q E rm R k =>
  wpAny_IfExp (h _ _ _ _ _ _ rm R fun _ _ _ _ X1 R1 h1 => by
    subst h1
    split
    · rename_i q; exact hx q _ _ _ _ _ _ rm R1 fun _ _ _ _ X2 R2 h2 => k _ _ _ _ (X1.trans X2) R2 h2
    · rename_i q; exact hy (by simpa using q) _ _ _ _ _ _ rm R1 fun _ _ _ _ X2 R2 h2 => k _ _ _ _ (X1.trans X2) R2 h2)
theorem se_attr {e : Expr} {attr : Str} {a b : AV} {μ' : List Cell} (h : SE w n env e σ a σ1) (ho : O1 w n (fun v => getAttr v attr true) a σ1.mem (fun hb ρ v => VRel w hb ρ b v) μ')
    (he : autoParam (eval (.Attribute e attr pos) env = (do let o ← eval e env; standAt pos.atName; let r ← holding [o] (getAttr o attr true); letTemporaryGo e o r; pure r)) auW) :
    SE w n env (.Attribute e attr pos) σ b { σ1 with mem := μ' } := fun A hb ρ s Q E rm R k =>
  Attribute_any_ (h _ _ _ _ _ _ rm R fun _ _ _ _ X1 R1 h1 => TE.of_O1 ho rm R1 h1 fun _ _ _ _ X2 R2 h2 => k _ _ _ _ (X1.trans X2) R2 h2) he
abbrev SEs (w : World) (n : Nat) (env : Env) (p : Pos) (es : List Expr) (σ : St) (avs : List AV) (σ' : St) : Prop := TE w n env (spliced (backTo p (starEach es env))) σ (fun hb ρ vs => VRels w hb ρ avs vs) σ'
theorem snN : SEs w n env pos [] σ [] σ := fun A hb ρ s Q E rm R k => spliced_none (k _ _ _ _ .refl R .nil)
theorem scN {e : Expr} {rest : List Expr} {a : AV} {as : List AV} (h : SE w n env e σ a σ1) (hr : SEs w n env pos rest σ1 as σ2) (he : autoParam (starEach (e :: rest) env = (false, eval e env) :: starEach rest env) auR) :
    SEs w n env pos (e :: rest) σ (a :: as) σ2 := fun A hb ρ s Q E rm R k =>
  spliced_more (h _ _ _ _ _ _ rm R fun _ _ _ _ X1 R1 h1 => hr _ _ _ _ _ _ rm R1 fun _ _ _ _ X2 R2 h2 => k _ _ _ _ (X1.trans X2) R2 (.cons (h1.mono X2.base X2.pre) h2)) he
theorem ss_return {e : Expr} {a : AV} (h : SE w n env e σ a σ1) : SS w n env (.Return (some e) pos) σ (.ret a) σ1 := fun A hb ρ s Q E rm R k =>
  wpAny_Return_some (h _ _ _ _ _ _ rm R fun _ _ _ _ X1 R1 h1 => k _ _ _ _ X1 R1 (.ret h1))
theorem ss_expr {e : Expr} {a : AV} (h : SE w n env e σ a σ1) (hi : autoParam (interactive env = false) auR) (hs : autoParam (swapsWith e none pos.line env = pure false) auR) : SS w n env (.Expr e pos) σ .next σ1 := fun A hb ρ s Q E rm R k =>
  wpAny_Expr_any (h _ _ _ _ _ _ rm R fun _ _ _ _ X1 R1 _ => k _ _ _ _ X1 R1 .next) hi hs
abbrev SSX (w : World) (n : Nat) (env : Env) (st : Stmt) (σ : St) (P : St → AF → Prop) : Prop := TX w n env (exec st env) σ (fun σ' hb ρ f => ∃ af, P σ' af ∧ FRel w hb ρ af f)
abbrev SXX (w : World) (n : Nat) (env : Env) (sts : List Stmt) (σ : St) (P : St → AF → Prop) : Prop := TX w n env (execs sts env) σ (fun σ' hb ρ f => ∃ af, P σ' af ∧ FRel w hb ρ af f)
theorem sxx_nil {P : St → AF → Prop} (hP : P σ .next) : SXX w n env [] σ P := fun A hb ρ s Q E rm R k => wpAny_execs_nil (k _ _ _ _ _ .refl R ⟨_, hP, .next⟩)
theorem sxC {st : Stmt} {rest : List Stmt} {P : St → AF → Prop} (h : SS w n env st σ .next σ1) (hr : SXX w n env rest σ1 P) : SXX w n env (st :: rest) σ P := fun A hb ρ s Q E rm R k =>
  wpAny_execs_cons (h _ _ _ _ _ _ rm R fun _ _ _ _ X1 R1 h1 => by cases h1; exact hr _ _ _ _ _ _ rm R1 fun _ _ _ _ _ X2 R2 h2 => k _ _ _ _ _ (X1.trans X2) R2 h2)
set_option tactic.hygienic true in
theorem sxx_stop {st : Stmt} {rest : List Stmt} {a : AV} {P : St → AF → Prop} (h : SS w n env st σ (.ret a) σ1) (hP : P σ1 (.ret a)) : SXX w n env (st :: rest) σ P := fun A hb ρ s Q E rm R k =>
  wpAny_execs_cons (h _ _ _ _ _ _ rm R fun _ _ _ _ X1 R1 h1 => by cases h1; rename_i hv; exact k _ _ _ _ _ X1 R1 ⟨_, hP, .ret hv⟩)
theorem sxx_then {st : Stmt} {rest : List Stmt} {P P' : St → AF → Prop} (h : SSX w n env st σ P') (hr : ∀ σ1 af, P' σ1 af → af = .next ∧ SXX w n env rest σ1 P) : SXX w n env (st :: rest) σ P := fun A hb ρ s Q E rm R k =>
  wpAny_execs_cons (h _ _ _ _ _ _ rm R fun _ _ _ _ σ1 X1 R1 ⟨af, h1, h2⟩ => by
    obtain ⟨rfl, h3⟩ := hr σ1 af h1
    cases h2
    exact h3 _ _ _ _ _ _ rm R1 fun _ _ _ _ _ X2 R2 h2 => k _ _ _ _ _ (X1.trans X2) R2 h2)
set_option tactic.hygienic true in
theorem ssx_if {t : Expr} {xs ys : List Stmt} {b : Bool} {P : St → AF → Prop} (h : SB w n env t σ b σ1) (hx : b = true → SXX w n env xs σ1 P) (hy : b = false → SXX w n env ys σ1 P) : SSX w n env (.If t xs ys pos) σ P := fun A hb ρ s Q E rm R k =>
  wpAny_If (h _ _ _ _ _ _ rm R fun _ _ _ _ X1 R1 h1 => by
    subst h1
    split
    · rename_i q; exact hx q _ _ _ _ _ _ rm R1 fun _ _ _ _ _ X2 R2 h2 => k _ _ _ _ _ (X1.trans X2) R2 h2
    · rename_i q; exact hy (by simpa using q) _ _ _ _ _ _ rm R1 fun _ _ _ _ _ X2 R2 h2 => k _ _ _ _ _ (X1.trans X2) R2 h2)
noncomputable def Then (w : World) (n : Nat) (env : Env) (rest : List Stmt) (P : St → AF → Prop) : St → AF → Prop
  | σ, .next => SXX w n env rest σ P
  | σ, af => P σ af
theorem sxx_if {t : Expr} {xs ys rest : List Stmt} {b : Bool} {P : St → AF → Prop} (h : SB w n env t σ b σ1) (hx : b = true → SXX w n env xs σ1 (Then w n env rest P)) (hy : b = false → SXX w n env ys σ1 (Then w n env rest P)) :
    SXX w n env (.If t xs ys pos :: rest) σ P := fun A hb ρ s Q E rm R k => by
  refine wpAny_execs_cons (ssx_if h hx hy _ _ _ _ _ _ rm R fun hb1 ρ1 s1 f σ2 X1 R1 ⟨af, h1, h2⟩ => ?_)
  cases h2 with
  | next => exact h1 _ _ _ _ _ _ rm R1 fun _ _ _ _ _ X2 R2 h2 => k _ _ _ _ _ (X1.trans X2) R2 h2
  | brk => exact k _ _ _ _ _ X1 R1 ⟨_, h1, .brk⟩
  | cont => exact k _ _ _ _ _ X1 R1 ⟨_, h1, .cont⟩
  | ret hv => exact k _ _ _ _ _ X1 R1 ⟨_, h1, .ret hv⟩
theorem sxx_ifT {t : Expr} {xs ys rest : List Stmt} {P : St → AF → Prop} (h : SB w n env t σ true σ1) (hx : SXX w n env xs σ1 (Then w n env rest P)) : SXX w n env (.If t xs ys pos :: rest) σ P := sxx_if h (fun _ => hx) (fun e => by cases e)
theorem sxx_ifF {t : Expr} {xs ys rest : List Stmt} {P : St → AF → Prop} (h : SB w n env t σ false σ1) (hy : SXX w n env ys σ1 (Then w n env rest P)) : SXX w n env (.If t xs ys pos :: rest) σ P := sxx_if h (fun e => by cases e) (fun _ => hy)
theorem sxx_ifN {t : Expr} {xs rest : List Stmt} {P : St → AF → Prop} (h : SB w n env t σ false σ1) (hr : SXX w n env rest σ1 P) : SXX w n env (.If t xs [] pos :: rest) σ P := sxx_ifF h (sxx_nil hr)
noncomputable def St.put (σ : St) (x : Str) (a : AV) : St := { σ with loc := (x, a) :: σ.loc }
noncomputable def St.putC (σ : St) (x : Str) (a : AV) : St := { σ with cel := (x, a) :: σ.cel }
theorem lookup_cons_some {β : Type} {x y : Str} {b c : β} {l : List (Str × β)} (h : ((y, b) :: l).lookup x = some c) : (x = y ∧ b = c) ∨ (x ≠ y ∧ l.lookup x = some c) := by
  rw [List.lookup_cons] at h
  cases q : x == y with
  | true => rw [q] at h; cases h; exact .inl ⟨eq_of_beq q, rfl⟩
  | false => rw [q] at h; exact .inr ⟨fun e => by rw [e] at q; simp at q, h⟩
theorem store_local {x : Str} {a : AV} {v : Value} {A : Around} {hb : Heap} {ρ : List Addr} {s : Shared} {Q : Unit → Shared → Prop} {E : Value → Shared → Prop} (R : RelE w hb ρ env s σ) (hv : VRel w hb ρ a v) (hl : env.kindOf x = some .local)
    (hp : (env.scope.kind == .class || (env.scope.kind == .module && env.locals != env.globals)) = false) (k : ∀ s', Ext (fp env) hb ρ s hb ρ s' → RelE w hb ρ env s' (σ.put x a) → Q () s') : wpAny (model PRG w) A (storeName env x v) Q E s := by
  refine eEA R.loc ?_; rintro mp hn hmp
  refine wpAny_storeName_local hl hn (fun h' hn' hs => k _ ?_ ?_) hp
  · refine ⟨fun _ _ e => e, List.prefix_rfl, fun _ _ e => .inl e, fun _ h => .inl h, fun b o e h1 _ _ => (hs.2 b fun q => h1 (q ▸ List.mem_cons_self ..)).trans e, live_same hs (live_ns hn'), fun _ _ e => e, rfl⟩
  · have hL := R.out env.locals (List.mem_cons_self ..)
    refine ⟨⟨R.m.top, fun b o e => (hs.2 b fun q => by rw [q, hL.1] at e; cases e).trans (R.m.keep b o e), fun P hP => ?_, R.m.bare, R.m.len, fun i c xs e1 e2 => ?_, R.m.ok, R.m.nod, fun c hc => ?_, ?_⟩, ⟨_, hn', fun y av e => ?_⟩, fun y c e => ?_, R.celD, R.nod, fun c hc => ?_, R.far⟩
    · obtain ⟨⟨ps, e⟩, q⟩ := R.m.tabs P hP
      exact ⟨⟨ps, (hs.2 P fun z => hL.2.2.1 (z ▸ hP)).trans e⟩, q⟩
    · refine eEA (R.m.mem i c xs e1 e2) ?_; rintro oo g1 g2
      exact ⟨oo, (hs.2 c fun z => hL.2.1 (z ▸ List.mem_of_getElem? e1)).trans g1, g2⟩
    · refine eAA (R.m.out c hc) ?_; rintro g1 g2 g3
      exact ⟨g1, g2, live_same hs (live_ns hn') _ g3⟩
    · refine eEEAA R.m.fr ?_; rintro L m0 g1 g2 g3
      by_cases q : L = env.locals
      · exact ⟨L, _, g1, q ▸ hn', g3⟩
      · exact ⟨L, m0, g1, g2.sameBut hs q, g3⟩
    · show ∃ v', (if y = x then some v else mp y) = some v' ∧ _
      rcases lookup_cons_some e with ⟨h1, h2⟩ | ⟨h1, h2⟩
      · rw [if_pos h1]; exact ⟨v, rfl, h2 ▸ hv⟩
      · rw [if_neg h1]; exact hmp y av h2
    · refine eEA (R.cel y c e) ?_; rintro r hc hr
      have hne : c ≠ env.locals := fun q => by
        have := (List.nodup_cons.mp R.nod).1
        exact this (q ▸ lookup_snd e)
      exact ⟨r, hc.sameBut hs hne, hr⟩
    · refine eAAA (R.out c hc) ?_; rintro g1 g2 g3 g4
      exact ⟨g1, g2, g3, live_same hs (live_ns hn') _ g4⟩
theorem ss_assign {x : Str} {e : Expr} {p : Pos} {a : AV} (h : SE w n env e σ a σ1) (hl : autoParam (env.kindOf x = some .local) auR) (hp : autoParam ((env.scope.kind == .class || (env.scope.kind == .module && env.locals != env.globals)) = false) auR)
    (hs : autoParam (swapsWith e (some (.Name x p)) pos.line env = pure false) auR) : SS w n env (.Assign [.Name x p] e pos) σ .next (σ1.put x a) := fun A hb ρ s Q E rm R k =>
  wpAny_Assign_Name (h _ _ _ _ _ _ rm R fun _ _ _ _ X1 R1 h1 => store_local R1 h1 hl hp fun _ X2 R2 => k _ _ _ _ (X1.trans X2) R2 .next) hs
end
noncomputable def locOf (ko : Str → Option NameKind) (bl : List (Str × AV)) : List (Str × AV) := (bl.filter fun p => decide (ko p.1 = some .local)).reverse
noncomputable def celOf (ko : Str → Option NameKind) (bl : List (Str × AV)) : List (Str × AV) := (bl.filter fun p => !decide (ko p.1 = some .local)).reverse
noncomputable def LR (w : World) (hb : Heap) (ρ : List Addr) (l : List (Str × AV)) (m : Str → Option Value) : Prop := ∀ x av, l.lookup x = some av → ∃ v, m x = some v ∧ VRel w hb ρ av v
theorem LR.put {w : World} {hb : Heap} {ρ : List Addr} {l : List (Str × AV)} {m : Str → Option Value} {y : Str} {a : AV} {v : Value} (h : LR w hb ρ l m) (hv : VRel w hb ρ a v) : LR w hb ρ ((y, a) :: l) (fun x => if x = y then some v else m x) := fun x av e => by
  rcases lookup_cons_some e with ⟨h1, h2⟩ | ⟨h1, h2⟩
  · dsimp only; rw [if_pos h1]; exact ⟨v, rfl, h2 ▸ hv⟩
  · dsimp only; rw [if_neg h1]; exact h x av h2
theorem bindL_LR {w : World} {hb : Heap} {ρ : List Addr} {ko : Str → Option NameKind} {bl : List (Str × AV)} {bs : List (Str × Value)} (H : KRels w hb ρ bl bs) : ∀ {l : List (Str × AV)} {m : Str → Option Value}, LR w hb ρ l m → LR w hb ρ (locOf ko bl ++ l) (bindL ko bs m) := by
  induction H with
  | nil => exact fun h => h
  | @cons k x v r rs hx hr ih =>
    intro l m h
    unfold bindL locOf
    rw [List.filter_cons]
    by_cases hk : ko k = some .local
    · rw [if_pos hk, if_pos (by simpa using hk), List.reverse_cons, List.append_assoc]
      exact ih (h.put hx)
    · rw [if_neg hk, if_neg (by simpa using hk)]
      exact ih h
theorem bindC_LR {w : World} {hb : Heap} {ρ : List Addr} {ko : Str → Option NameKind} {bl : List (Str × AV)} {bs : List (Str × Value)} (H : KRels w hb ρ bl bs) : ∀ {l : List (Str × AV)} {m : Str → Option Value}, LR w hb ρ l m → LR w hb ρ (celOf ko bl ++ l) (bindC ko bs m) := by
  induction H with
  | nil => exact fun h => h
  | @cons k x v r rs hx hr ih =>
    intro l m h
    unfold bindC celOf
    rw [List.filter_cons]
    by_cases hk : ko k = some .local
    · rw [if_pos hk, if_neg (by simpa using hk)]
      exact ih h
    · rw [if_neg hk, if_pos (by simpa using hk), List.reverse_cons, List.append_assoc]
      exact ih (h.put hx)
theorem KRels.keys {w : World} {hb : Heap} {ρ : List Addr} {bl : List (Str × AV)} {bs : List (Str × Value)} (H : KRels w hb ρ bl bs) : bs.map (·.1) = bl.map (·.1) := by
  induction H with
  | nil => rfl
  | cons _ _ ih => exact congrArg _ ih
theorem lookup_of_mem {β : Type} {x : Str} {c : β} {l : List (Str × β)} (hn : (l.map (·.1)).Nodup) (h : (x, c) ∈ l) : l.lookup x = some c := by
  induction l with
  | nil => cases h
  | cons z l ih =>
    obtain ⟨y, d⟩ := z
    rw [List.lookup_cons]
    rcases List.mem_cons.mp h with e | h'
    · cases e; rw [beq_self_eq_true]
    · have hne : (x == y) = false := by
        rw [beq_eq_false_iff_ne]
        rintro rfl
        exact (List.nodup_cons.mp hn).1 (List.mem_map.mpr ⟨(x, c), h', rfl⟩)
      rw [hne]
      exact ih (List.nodup_cons.mp hn).2 h'
theorem RelM.grow {w : World} {hb : Heap} {ρ : List Addr} {s s' : Shared} {μ : List Cell} (r : RelM w hb ρ s μ) (k : s.heap.StaysIn s'.heap) (g : s'.gens = s.gens) : RelM w hb ρ s' μ where
  top := r.top
  keep := fun b o e => k b o (r.keep b o e)
  tabs := fun P hP => let ⟨⟨ps, e⟩, q⟩ := r.tabs P hP; ⟨⟨ps, k _ _ e⟩, q⟩
  bare := g ▸ r.bare
  len := r.len
  mem := fun n a xs e1 e2 => eEA (r.mem n a xs e1 e2) fun oo g1 g2 => ⟨oo, k _ _ g1, g2⟩
  ok := r.ok
  nod := r.nod
  out := fun a ha => eAA (r.out a ha) fun g1 g2 g3 => ⟨g1, g2, live_stays k a g3⟩
  fr := eEEAA r.fr fun L m g1 g2 g3 => ⟨L, m, g1, g2.keeps k, g3⟩
theorem Ext.behind {X : List Addr} {hb hb' : Heap} {ρ ρ' : List Addr} {s s1 s' : Shared} (k : s.heap.StaysIn s1.heap) (g : s1.gens = s.gens) (o : s1.os = s.os)
    (x : Ext X hb ρ s1 hb' ρ' s') (hX : ∀ a ∈ X, Dead s.heap a) : Ext [] hb ρ s hb' ρ' s' where
  base := x.base
  pre := x.pre
  fresh := fun b o e => (x.fresh b o e).imp id fun l => dead_base k l
  freshR := fun a h => (x.freshR a h).imp id fun l => dead_base k l
  keep := fun b o e _ h2 h3 => x.keep b o (k b o e) (fun q => nd' e (hX b q)) h2 h3
  live := fun b h => x.live b (live_stays k b h)
  gens := fun i gg e => x.gens i gg (by rw [g]; exact e)
  os := x.os.trans o
theorem tb_lt {w : World} {hb : Heap} {ρ : List Addr} {s : Shared} {μ : List Cell} (r : RelM w hb ρ s μ) {P : Addr} (h : P ∈ TB) : Live s.heap P := let ⟨⟨_, e⟩, _⟩ := r.tabs P h; ⟨_, e⟩
noncomputable def mkHeap (n : Nat) (g : Addr → Option Obj) : Heap := ⟨Array.ofFn (n := n) fun i => (g i.1).getD { cls := .none, data := .freed }, {}⟩
theorem mkHeap_get {n : Nat} {g : Addr → Option Obj} (hg : ∀ b o, g b = some o → b < n ∧ o.isFreed = false) (b : Addr) : (mkHeap n g).get? b = g b := by
  cases q : g b with
  | some o =>
    obtain ⟨h1, h2⟩ := hg b o q
    exact Heap.get?_some_iff.mpr ⟨by simp [mkHeap, h1, q], h2⟩
  | none =>
    cases r : (mkHeap n g).get? b with
    | none => rfl
    | some o =>
      obtain ⟨h1, h2⟩ := Heap.get?_some_iff.mp r
      simp only [mkHeap, Array.getElem?_ofFn] at h1
      split at h1
      · simp only [q, Option.getD_none, Option.some.injEq] at h1
        subst h1
        cases h2
      · cases h1
noncomputable def addB (hb h : Heap) (F : List Addr) : Heap := mkHeap h.objs.size fun b => if b ∈ F then h.get? b else hb.get? b
theorem addB_get {hb h : Heap} {F : List Addr} (k : hb.StaysIn h) (b : Addr) : (addB hb h F).get? b = if b ∈ F then h.get? b else hb.get? b := by
  refine mkHeap_get (fun b o e => ?_) b
  have e' : h.get? b = some o := by
    split at e
    · exact e
    · exact k b o e
  exact ⟨Heap.lt_size e', (Heap.get?_some_iff.mp e').2⟩
theorem addB_base {hb h : Heap} {F : List Addr} (k : hb.StaysIn h) : hb.StaysIn (addB hb h F) := fun b o e => by
  rw [addB_get k]
  split
  · exact k b o e
  · exact e
theorem addB_keep {hb h : Heap} {F : List Addr} (k : hb.StaysIn h) : (addB hb h F).StaysIn h := fun b o e => by
  rw [addB_get k] at e
  split at e
  · exact e
  · exact k b o e
section
variable {w : World} {n : Nat} {env : Env} {σ σ1 σ2 σ3 : St} {pos : Pos} {hb hb' : Heap} {ρ ρ' : List Addr} {s s' : Shared} {μ : List Cell}
theorem RelM.freeze (R : RelM w hb ρ s μ) {F : List Addr} (hF : ∀ a ∈ F, a ∉ ρ ∧ a ∉ TB) : RelM w (addB hb s.heap F) ρ s μ where
  top := R.top.keeps (addB_base R.keep)
  keep := addB_keep R.keep
  tabs := fun P hP => ⟨(R.tabs P hP).1, by rw [addB_get R.keep, if_neg fun q => (hF P q).2 hP]; exact (R.tabs P hP).2⟩
  bare := R.bare
  len := R.len
  mem := fun n a xs e1 e2 => eEA (R.mem n a xs e1 e2) fun oo g1 g2 => ⟨oo, g1, g2.mono (addB_base R.keep) List.prefix_rfl⟩
  ok := R.ok
  nod := R.nod
  out := fun a ha => ⟨by rw [addB_get R.keep, if_neg fun q => (hF a q).1 ha]; exact (R.out a ha).1, (R.out a ha).2⟩
  fr := R.fr
set_option tactic.hygienic true in
theorem Ext.freeze {X : List Addr} (x : Ext X hb ρ s hb' ρ' s') (k : hb'.StaysIn s'.heap) {F : List Addr} (hF : ∀ a ∈ F, Dead s.heap a) : Ext X hb ρ s (addB hb' s'.heap F) ρ' s' :=
  { x with
    base := fun b o e => addB_base k b o (x.base b o e)
    fresh := fun b o e => by
      rw [addB_get k] at e
      split at e
      · rename_i q; exact .inr (hF b q)
      · exact x.fresh b o e }
theorem Ext.plain {X : List Addr} (k : ∀ b o, s.heap.get? b = some o → b ∉ X → s'.heap.get? b = some o) (z : ∀ b, Live s.heap b → Live s'.heap b) (g : s'.gens = s.gens) (o : s'.os = s.os) : Ext X hb ρ s hb ρ s' :=
  ⟨fun _ _ e => e, List.prefix_rfl, fun _ _ e => .inl e, fun _ h => .inl h, fun b o e h1 _ _ => k b o e h1, z, fun i gg e => by rw [g]; exact e, o⟩
theorem grown_frozen (R : RelM w hb ρ s μ) (k : s.heap.StaysIn s'.heap) (g : s'.gens = s.gens) (o : s'.os = s.os) (F : List Addr) (hF : ∀ a ∈ F, Dead s.heap a) :
    ∃ hb', Ext [] hb ρ s hb' ρ s' ∧ RelM w hb' ρ s' μ ∧ ∀ a ∈ F, ∀ o, s'.heap.get? a = some o → hb'.get? a = some o := by
  have R' := R.grow k g
  have hF' : ∀ a ∈ F, a ∉ ρ ∧ a ∉ TB := fun a ha => ⟨fun q => nd (R.out a q).2.2 (hF a ha), fun q => nd (tb_lt R q) (hF a ha)⟩
  exact ⟨_, Ext.freeze (Ext.plain (fun b o e _ => k b o e) (live_stays k) g o) R'.keep hF, R'.freeze hF', fun a ha o e => by rw [addB_get R'.keep, if_pos ha]; exact e⟩
end
mutual
noncomputable def AV.inb (n : Nat) : AV → Bool
  | .hnd m => decide (m < n)
  | .profm _ m => decide (m < n)
  | .tup xs => AV.inbs n xs
  | .lst xs => AV.inbs n xs
  | .prof _ xs => AV.inbs n xs
  | .msf _ p => p.inb n
  | _ => true
noncomputable def AV.inbs (n : Nat) : List AV → Bool
  | [] => true
  | x :: xs => x.inb n && AV.inbs n xs
end
theorem VRels.inb {w : World} {h : Heap} {ρ : List Addr} {xs : List AV} {vs : List Value} (H : VRels w h ρ xs vs) : AV.inbs ρ.length xs = true :=
  @VRels.rec w h ρ (fun x v _ => x.inb ρ.length = true) (fun xs vs _ => AV.inbs ρ.length xs = true)
    rfl (fun _ => rfl) (fun _ _ => rfl) (fun _ _ => rfl) (fun _ => rfl) (fun _ => rfl) (fun _ => rfl) (fun _ _ ih => ih) (fun _ _ ih => ih) (fun hn => decide_eq_true (List.getElem?_eq_some_iff.mp hn).1)
    (fun _ => rfl) (fun _ _ => rfl) (fun _ _ _ ih => ih) (fun _ _ _ => rfl) (fun _ _ _ _ _ _ ih => ih) (fun _ _ _ _ hv => decide_eq_true (List.getElem?_eq_some_iff.mp hv).1)
    rfl (fun _ _ i1 i2 => Bool.and_eq_true_iff.mpr ⟨i1, i2⟩) xs vs H
theorem VRel.inb {w : World} {h : Heap} {ρ : List Addr} {x : AV} {v : Value} (H : VRel w h ρ x v) : x.inb ρ.length = true := (Bool.and_eq_true_iff.mp (VRels.inb (.cons H .nil))).1
theorem getElem?_cut {ρ t : List Addr} {n : Nat} {a : Addr} (h : (ρ ++ t)[n]? = some a) (l : n < ρ.length) : ρ[n]? = some a := by rwa [List.getElem?_append_left l] at h
theorem VRels.cut {w : World} {h : Heap} {ρ t : List Addr} {xs : List AV} {vs : List Value} (H : VRels w h (ρ ++ t) xs vs) (e : AV.inbs ρ.length xs = true) : VRels w h ρ xs vs :=
  H.move (AV.inb ρ.length) (AV.inbs ρ.length) (fun _ _ q => q) (fun _ _ q r => getElem?_cut r (of_decide_eq_true q)) (fun _ _ _ q r => getElem?_cut r (of_decide_eq_true q)) (fun _ q => q) (fun _ q => q) (fun _ _ q => q) (fun _ _ q => q) (fun _ _ q => Bool.and_eq_true_iff.mp q) e
theorem VRel.cut {w : World} {h : Heap} {ρ t : List Addr} {x : AV} {v : Value} (H : VRel w h (ρ ++ t) x v) (e : x.inb ρ.length = true) : VRel w h ρ x v :=
  (VRels.cut (.cons H .nil) (show (x.inb ρ.length && true) = true by rw [e]; rfl)).head
theorem AV.inb_of_pure {n : Nat} {x : AV} : x.pure = true → x.inb n = true :=
  AV.rec (motive_1 := fun x => x.pure = true → x.inb n = true) (motive_2 := fun xs => AV.pures xs = true → AV.inbs n xs = true) (fun _ => rfl) (fun _ _ => rfl) (fun _ _ => rfl) (fun _ _ => rfl) (fun _ _ => rfl)
    (fun _ ih => ih) (fun _ ih => ih) (fun _ q => nomatch q) (fun _ _ => rfl) (fun _ _ _ => rfl) (fun _ _ ih => ih) (fun _ _ _ => rfl) (fun _ _ ih => ih) (fun _ _ q => nomatch q) (fun _ => rfl) (fun _ _ _ => rfl) (fun _ => rfl)
    (fun _ _ i1 i2 q => Bool.and_eq_true_iff.mpr ⟨i1 (Bool.and_eq_true_iff.mp q).1, i2 (Bool.and_eq_true_iff.mp q).2⟩) x
noncomputable def fbelow (n : Nat) (fs : List (Str × AV)) : Bool := fs.all fun p => p.2.inb n
noncomputable def Cell.inb (n : Nat) : Cell → Bool
  | .lst xs => AV.inbs n xs
  | .ins _ d => decide (d < n)
  | .dct fs => fbelow n fs
theorem FRels.inb {w : World} {h : Heap} {ρ : List Addr} {fs : List (Str × AV)} {es : List DictEntry} (H : FRels w h ρ fs es) : fbelow ρ.length fs = true := by
  induction H with
  | nil => rfl
  | cons hx _ ih => exact Bool.and_eq_true_iff.mpr ⟨hx.inb, ih⟩
theorem FRels.cut {w : World} {h : Heap} {ρ t : List Addr} {fs : List (Str × AV)} {es : List DictEntry} (H : FRels w h (ρ ++ t) fs es) : fbelow ρ.length fs = true → FRels w h ρ fs es := by
  induction H with
  | nil => exact fun _ => .nil
  | cons hx _ ih => exact fun e => .cons (hx.cut (Bool.and_eq_true_iff.mp e).1) (ih (Bool.and_eq_true_iff.mp e).2)
theorem CellRel.inb {w : World} {h : Heap} {ρ : List Addr} {c : Cell} {o : Obj} (r : CellRel w h ρ c o) : c.inb ρ.length = true := by
  cases r with
  | lst hx => exact hx.inb
  | ins hd => exact decide_eq_true (List.getElem?_eq_some_iff.mp hd).1
  | dct hf => exact hf.inb
theorem CellRel.cut {w : World} {h : Heap} {ρ t : List Addr} {c : Cell} {o : Obj} (r : CellRel w h (ρ ++ t) c o) (e : c.inb ρ.length = true) : CellRel w h ρ c o := by
  cases r with
  | lst hx => exact .lst (hx.cut e)
  | ins hd => exact .ins (getElem?_cut hd (of_decide_eq_true e))
  | dct hf => exact .dct (hf.cut e)
section
variable {w : World} {hb hb' : Heap} {ρ ρ' t : List Addr} {s s' : Shared} {μ μ' ν : List Cell}
theorem RelM.inb (R : RelM w hb ρ s μ) : ∀ c ∈ μ, c.inb μ.length = true := fun c hc => by
  obtain ⟨i, hi, e⟩ := List.mem_iff_getElem.mp hc
  have hl : i < ρ.length := R.len ▸ hi
  refine eEA (R.mem i ρ[i] c (List.getElem?_eq_getElem hl) (by rw [← e]; exact List.getElem?_eq_getElem hi)) ?_; rintro o _ h2
  exact R.len ▸ h2.inb
theorem RelM.drop (R : RelM w hb (ρ ++ t) s (μ ++ ν)) (l : ρ.length = μ.length) (b : ∀ c ∈ μ, c.inb μ.length = true) : RelM w hb ρ s μ where
  top := R.top
  keep := R.keep
  tabs := R.tabs
  bare := R.bare
  len := l
  mem := fun n a c e1 e2 => by
    have h1 := (List.getElem?_eq_some_iff.mp e1).1
    have h2 := (List.getElem?_eq_some_iff.mp e2).1
    refine eEA (R.mem n a c (by rw [List.getElem?_append_left h1]; exact e1) (by rw [List.getElem?_append_left h2]; exact e2)) ?_; rintro o g1 g2
    exact ⟨o, g1, g2.cut (l ▸ b c (List.mem_of_getElem? e2))⟩
  ok := fun c hc => R.ok c (List.mem_append_left _ hc)
  nod := (List.nodup_append.mp R.nod).1
  out := fun a ha => R.out a (List.mem_append_left _ ha)
  fr := eEEAA R.fr fun L m g1 g2 g3 => ⟨L, m, g1, g2, fun q => g3 (List.mem_append_left _ q)⟩
theorem Ext.drop {X : List Addr} (x : Ext X hb ρ s hb' (ρ' ++ t) s') (p : ρ <+: ρ') : Ext X hb ρ s hb' ρ' s' :=
  { x with pre := p, freshR := fun a h => x.freshR a (List.mem_append_left _ h) }
end
noncomputable def Closes (w : World) (r : AV) (M : List Cell) (r' : AV) (μ' : List Cell) : Prop :=
  ∀ (hb : Heap) (ρ t : List Addr) (s : Shared) (v : Value), ρ.length = μ'.length → (∀ c ∈ μ', c.inb μ'.length = true) → RelM w hb (ρ ++ t) s M → VRel w hb (ρ ++ t) r v →
    ∃ F : List Addr, (∀ a ∈ F, a ∈ t) ∧ RelM w (addB hb s.heap F) ρ s μ' ∧ VRel w (addB hb s.heap F) ρ r' v
section
variable {w : World} {n : Nat}
abbrev FDK (w : World) (f : Addr) (fd : FuncData) : Prop := ∃ oc od osl, (Internal.hd.heap_1 w.params).lookup f = some ⟨oc, od, .func fd, osl⟩
noncomputable def FC (w : World) (n : Nat) (f : AV) (as : List AV) (ks : List (Str × AV)) (μ : List Cell) (r : AV) (μ' : List Cell) : Prop :=
  ∀ (A : Around) (hb : Heap) (ρ : List Addr) (s : Shared) (fv : Value) (vs : List Value) (kvs : List (Str × Value)) (Rr : Result → Shared → Prop), Room n A → RelM w hb ρ s μ →
    VRel w hb ρ f fv → VRels w hb ρ as vs → KRels w hb ρ ks kvs →
    (∀ hb' ρ' s' v, Ext [] hb ρ s hb' ρ' s' → RelM w hb' ρ' s' μ' → VRel w hb' ρ' r v → Rr (.ok (.ret v)) s') → codeAny (model PRG w) A (.call fv ⟨vs, kvs⟩) Rr s
theorem FC.fn {f : AV} {as : List AV} {ks : List (Str × AV)} {μ : List Cell} {r : AV} {μ' : List Cell} (h : FC w n f as ks μ r μ') : FN w n f as ks μ r μ' := fun A hb ρ s fv vs kvs Q E rm R hf hv hk k =>
  wpAny_call (h A hb ρ s fv vs kvs _ rm R hf hv hk fun hb' ρ' s' v X R' hv' => k hb' ρ' s' v X R' hv')
noncomputable def AF.gives : AF → AV → Prop
  | .ret a, r => a = r
  | .next, r => r = .none
  | _, _ => False
theorem fn_def {f : Addr} {fd : FuncData} {body : List Stmt} {as : List AV} {ks : List (Str × AV)} {μ : List Cell} {bl : List (Str × AV)} {r' : AV} {μ' : List Cell} {P : St → AV → Prop}
    (hK : FDK w f fd) (hcd : codeIn (Internal.hd.heap_1 w.params) fd.code fd.qualname = true) (hbody : fd.body = .stmts body) (hclo : fd.closure = [])
    (hbind : ∀ (hb : Heap) (ρ : List Addr) (s : Shared) (vs : List Value) (kvs : List (Str × Value)), TopH w hb → hb.StaysIn s.heap → VRels w hb ρ as vs → KRels w hb ρ ks kvs → ∃ binds, BindsTo s fd ⟨vs, kvs⟩ binds ∧ KRels w hb ρ bl binds)
    (hkind : ∀ m, ∀ x ∈ bl.map (·.1), fd.scope.names.lookup x = some .local ∨ (fd.scope.names.lookup x = some .cell ∧ ((cellsFrom m fd.scope.names []).lookup x).isSome = true))
    (hnd : ∀ m, ((cellsFrom m fd.scope.names []).map (·.1)).Nodup)
    (hb : ∀ L, SXX w n (callEnvC fd L f) body ⟨locOf (fd.scope.names.lookup ·) bl, celOf (fd.scope.names.lookup ·) bl, μ⟩ fun σ' af => ∃ r, af.gives r ∧ P σ' r)
    (hcl : ∀ σ' r, P σ' r → Closes w r σ'.mem r' μ') (hlen : μ.length ≤ μ'.length) (hlen' : ∀ σ' r, P σ' r → μ'.length ≤ σ'.mem.length) (hbel : (∀ c ∈ μ, c.inb μ.length = true) → ∀ c ∈ μ', c.inb μ'.length = true)
    (hco : autoParam (fd.scope.isCoroutine = false) auR) (hgen : autoParam (fd.scope.isGenerator = false) auR) (hk : autoParam (fd.scope.kind = .function) auR) :
    FC w (n + 1) (.val (.ref f)) as ks μ r' μ' := fun A hb0 ρ s fv vs kvs Rr rm R hf hvs hks k => by
  obtain rfl := VRel.val_inv hf
  refine eEA (hbind hb0 ρ s vs kvs R.top R.keep hvs hks) ?_; rintro binds hbs hkr
  refine eEEE hK ?_; clear hK; rintro oc od osl hKf
  have hfun := R.keep _ _ (R.top.K _ _ hKf)
  have hkeys := hkr.keys
  have hroom : A.depth < recursionLimit := by have := rm.2.1; show A.depth < 1000; lia
  have hkd : ∀ x ∈ binds, fd.scope.names.lookup x.1 = some .local ∨ (fd.scope.names.lookup x.1 = some .cell ∧ ((cellsFrom (s.heap.objs.size + 1) fd.scope.names []).lookup x.1).isSome = true) := fun x hx =>
    hkind _ x.1 (hkeys ▸ List.mem_map_of_mem (f := (·.1)) hx)
  refine codeAny_call_function hroom hfun rfl hco hgen hbody ((codeRec_of R.top.K hcd).keeps R.keep) (hbs _ _ _ _ ?_)
  rw [hclo]
  refine wpAny_newFunctionEnv_cells hk hkd (fun env henv s1 hin => ?_)
  subst henv
  obtain ⟨⟨⟨h1, tk, rfl⟩, hns, hkeep, hfresh⟩, hcell, hap, habove⟩ := hin
  dsimp only at hns hkeep hcell
  refine ⟨(R.top.nolimit.keeps R.keep).keeps hkeep, codeAny_func ?_⟩
  have hadr : ∀ a ∈ fp (callEnvC fd s.heap.objs.size f), Dead s.heap a ∧ Live h1 a := fun a ha => by
    rcases List.mem_cons.mp ha with rfl | ha
    · exact ⟨dead_of_le (Nat.le_refl _), live_ns hns⟩
    · refine eEA (List.mem_map.mp ha) ?_; rintro ⟨x, c⟩ hxc rfl
      exact ⟨dead_of_le (Nat.le_of_lt (habove x c hxc)), live_cell (hcell x c (lookup_of_mem (hnd _) hxc))⟩
  have hM : RelM w hb0 ρ { s with heap := h1, toks := tk } μ := R.grow hkeep rfl
  refine hb s.heap.objs.size (A.deeper (callEnvC fd s.heap.objs.size f)) hb0 ρ { s with heap := h1, toks := tk } _ _ ⟨rm.1, by have := rm.2.1; show A.depth + 1 + n < 700; lia, by have := rm.2.2; show A.units + 3 + 20 * n < 8000; lia⟩ ⟨hM, ⟨_, hns, ?_⟩, fun x c e => ⟨_, hcell x c e, ?_⟩, fun x av e => ?_, ?_, fun a ha => ?_, Nat.le_of_lt (eEEAA R.fr fun L m q1 q2 _ => Nat.lt_of_le_of_lt q1 q2.lt)⟩ fun hb' ρ' s' fl σ' X R' hfl => ?_
  · have := bindL_LR (w := w) (ko := (fd.scope.names.lookup ·)) hkr (l := []) (m := fun _ => none) (fun _ _ e => by cases e)
    rw [List.append_nil] at this
    exact this
  · have := bindC_LR (w := w) (ko := (fd.scope.names.lookup ·)) hkr (l := []) (m := fun _ => none) (fun _ _ e => by cases e)
    rw [List.append_nil] at this
    exact fun av q => this x av q
  · have hm := mem_of_lookup e
    unfold celOf at hm
    rw [List.mem_reverse, List.mem_filter] at hm
    obtain ⟨h2, h3⟩ := hm
    rcases hkind (s.heap.objs.size + 1) x (List.mem_map_of_mem (f := (·.1)) h2) with q | q
    · simp [q] at h3
    · exact Option.isSome_iff_exists.mp q.2
  · refine List.nodup_cons.mpr ⟨fun q => ?_, ?_⟩
    · refine eEA (List.mem_map.mp q) ?_; rintro ⟨x, c⟩ hxc e
      have := habove x c hxc
      have e' : c = s.heap.objs.size := e
      exact absurd this (by rw [e']; exact Nat.lt_irrefl _)
    · exact List.pairwise_map.mpr hap
  · obtain ⟨g1, g2⟩ := hadr a ha
    refine ⟨?_, fun q => nd (R.out a q).2.2 g1, fun q => nd (tb_lt R q) g1, g2⟩
    cases q : hb0.get? a with
    | none => rfl
    | some o => exact (nd' (R.keep a o q) g1).elim
  · have X' := Ext.behind (s := s) (s1 := { s with heap := h1, toks := tk }) hkeep rfl rfl X fun a ha => (hadr a ha).1
    refine eEA hfl ?_; clear hfl; rintro af ⟨r, hr, hP⟩ hfl
    obtain ⟨t0, ht0⟩ := X'.pre
    have fin : ∀ v, VRel w hb' ρ' r v → Rr (.ok (.ret v)) s' := fun v hv => by
      have hl : μ'.length ≤ ρ'.length := by rw [R'.m.len]; exact hlen' σ' r hP
      have hsplit := List.take_append_drop μ'.length ρ'
      refine eEAA (hcl σ' r hP hb' (ρ'.take μ'.length) (ρ'.drop μ'.length) s' v (by rw [List.length_take]; lia) (hbel R.inb) (by rw [hsplit]; exact R'.m) (by rw [hsplit]; exact hv)) ?_; rintro F f1 f2 f3
      have hpre : ρ <+: ρ'.take μ'.length := by
        rw [← ht0, show (ρ ++ t0).take μ'.length = ρ ++ t0.take (μ'.length - ρ.length) by rw [List.take_append, List.take_of_length_le (by rw [R.len]; exact hlen)]]
        exact List.prefix_append _ _
      have hold : ∀ a ∈ F, Dead s.heap a := fun a ha => (X'.freshR a (List.mem_of_mem_drop (f1 a ha))).elim (fun q => by
        have nd := R'.m.nod
        rw [← hsplit] at nd
        exact absurd rfl ((List.nodup_append.mp nd).2.2 a (hpre.subset q) a (f1 a ha))) id
      have X2 := X'.freeze R'.m.keep hold
      rw [← hsplit] at X2
      exact k _ _ _ _ (X2.drop hpre) f2 f3
    cases hfl with
    | next =>
      unfold AF.gives at hr; subst hr
      exact fin _ .none
    | ret hv => unfold AF.gives at hr; subst hr; exact fin _ hv
    | brk => exact hr.elim
    | cont => exact hr.elim
end
section
variable {M : Model} {A : Around} {E : Value → Shared → Prop} {s : Shared} {pos : Pos} {f : Value} {first : List Value} {Q : Value → Shared → Prop}
theorem callWith_any {P : Heap → Prop} {args : List (Bool × Sem Value)} {keywords : List (Option Str × Sem Value)} (hplain : (args.any (·.1) || keywords.any (·.1.isNone)) = false)
    (hk : ∀ h, P h → ∃ k, Looks M h (keeperOf f) k)
    (h : wpAny M A (evalArgs f true args keywords) (fun a s₁ => P s₁.heap ∧ wpAny M A (call f (first ++ a.pos) a.kw) Q E s₁) E s) : wpAny M A (callWith pos f first args keywords) Q E s := by
  unfold callWith
  refine wpAny_bind (wpAny_holding (wpAny_mono h (fun a s₁ h₁ => wpAny_bind (wpAny_standAt ?_)) fun _ _ x => x))
  obtain ⟨k, L⟩ := hk _ h₁.1
  simp only [hplain]
  refine wpAny_bind (L.here ?_)
  have tail : ∀ {t : Sem Value}, wpAny M A t Q E s₁ → wpAny M A (t >>= fun r => holding [r] point >>= fun _ => pure r) Q E s₁ :=
    fun ht => wpAny_bind (wpAny_mono ht (fun r s₂ hr => wpAny_bind (wpAny_holding (wpAny_point (wpAny_pure hr)))) fun _ _ x => x)
  have marked (mk : Value) : wpAny M A (callMarked mk f (first ++ a.pos) a.kw) Q E s₁ := by unfold callMarked; exact Calls.wpAny_keep h₁.2
  cases k <;> dsimp only <;> first | exact tail h₁.2 | exact tail (wpAny_operateT h₁.2) | (split <;> first | exact tail h₁.2 | exact tail (marked _))
end
noncomputable def Kept (w : World) (f : AV) : Prop := ∀ (hb h : Heap) (ρ : List Addr) (fv : Value), TopH w hb → hb.StaysIn h → VRel w hb ρ f fv → ∃ k, Looks (model PRG w) h (keeperOf fv) k
theorem kept_ref {w : World} {a : Addr} (e : keepIn (Internal.hd.heap_1 w.params) (.ref a) = true) : Kept w (.val (.ref a)) := fun hb h ρ fv T k hv => by
  obtain rfl := VRel.val_inv hv
  refine eEA (looks_keep (M := model PRG w) e (T.K.keeps k)) ?_; rintro kk _ l
  exact ⟨kk, l⟩
theorem kept_builtin {w : World} {i : String} : Kept w (.val (.builtin i)) := fun hb h ρ fv T k hv => by
  obtain rfl := VRel.val_inv hv
  exact ⟨.machine, Looks.of_pure rfl⟩
theorem kept_type {w : World} {i : String} : Kept w (.val (.type i)) := fun hb h ρ fv T k hv => by
  obtain rfl := VRel.val_inv hv
  exact ⟨.machine, Looks.of_pure rfl⟩
set_option tactic.hygienic true in
theorem kept_msf {w : World} {nm : Str} {par : AV} : Kept w (.msf nm par) := fun hb h ρ fv T k hv => by
  cases hv
  rename_i hx _ _
  exact ⟨.caller, (Looks.ld (part := none) (k _ _ hx)).andThen .now⟩
section
variable {w : World} {n : Nat} {env : Env} {σ σ1 σ2 σ3 : St} {pos : Pos}
abbrev SKs (w : World) (n : Nat) (env : Env) (p : Pos) (kws : List Keyword) (σ : St) (ks : List (Str × AV)) (σ' : St) : Prop :=
  TE w n env (evalAll ((backToKw p (keywordEach kws env)).map (·.2))) σ (fun hb ρ vs => KRels w hb ρ ks (((backToKw p (keywordEach kws env)).filterMap (·.1)).zip vs)) σ'
theorem sks_nil : SKs w n env pos [] σ [] σ := fun A hb ρ s Q E rm R k => kwAll_nil (k _ _ _ _ .refl R .nil)
theorem sks_cons {nm : Str} {e : Expr} {p : Pos} {rest : List Keyword} {a : AV} {as : List (Str × AV)} (h : SE w n env e σ a σ1) (hr : SKs w n env pos rest σ1 as σ2) :
    SKs w n env pos (⟨some nm, e, p⟩ :: rest) σ ((nm, a) :: as) σ2 := fun A hb ρ s Q E rm R k =>
  kwAll_cons (h _ _ _ _ _ _ rm R fun _ _ _ _ X1 R1 h1 => hr _ _ _ _ _ _ rm R1 fun _ _ _ _ X2 R2 h2 => k _ _ _ _ (X1.trans X2) R2 (.cons (h1.mono X2.base X2.pre) h2))
theorem kws_all (kws : List Keyword) (h : kws.all (fun k => k.arg.isSome) = true) : (backToKw pos (keywordEach kws env)).all (·.1.isSome) = true := by
  induction kws with
  | nil => rfl
  | cons k r ih =>
    obtain ⟨nm, e, p⟩ := k
    rw [List.all_cons, Bool.and_eq_true] at h
    show (nm.isSome && _) = true
    rw [h.1]
    exact ih h.2
theorem kws_none (kws : List Keyword) (h : kws.all (fun k => k.arg.isSome) = true) : (backToKw pos (keywordEach kws env)).any (·.1.isNone) = false := by
  have := kws_all (pos := pos) (env := env) kws h
  rw [List.any_eq_false]
  intro x hx
  have := List.all_eq_true.mp this x hx
  cases q : x.1 <;> simp_all
theorem TE.of_FN {f r : AV} {as : List AV} {ks : List (Str × AV)} {μ' : List Cell} (h : FN w n f as ks σ.mem r μ') {A : Around} {hb : Heap} {ρ : List Addr} {s : Shared} {fv : Value} {vs : List Value} {kvs : List (Str × Value)} {Q E : Value → Shared → Prop}
    (rm : Room n A) (R : RelE w hb ρ env s σ) (hf : VRel w hb ρ f fv) (hv : VRels w hb ρ as vs) (hk : KRels w hb ρ ks kvs) (k : ∀ hb' ρ' s' x, Ext (fp env) hb ρ s hb' ρ' s' → RelE w hb' ρ' env s' { σ with mem := μ' } → VRel w hb' ρ' r x → Q x s') : wpAny (model PRG w) A (call fv vs kvs) Q E s :=
  h A hb ρ s fv vs kvs Q E rm R.m hf hv hk fun hb' ρ' s' x X M q => k hb' ρ' s' x (X.weaken fun _ q => nomatch q) (R.step X M) q
theorem se_call {fe e : Expr} {rest : List Expr} {f r : AV} {as : List AV} {μ' : List Cell} (h : SE w n env fe σ f σ1) (hk : Kept w f) (ha : SEs w n env pos (e :: rest) σ1 as σ2) (hf : FN w n f as [] σ2.mem r μ')
    (he : autoParam (eval (.Call fe (e :: rest) [] pos) env = (do callWith pos (← eval fe env) [] (backTo pos (starEach (e :: rest) env)) (backToKw pos (keywordEach [] env)))) auR)
    (hs : autoParam (starEach (e :: rest) env = (false, eval e env) :: starEach rest env) auR) (hp : autoParam ((backTo pos (starEach rest env)).any (·.1) = false) auR) :
    SE w n env (.Call fe (e :: rest) [] pos) σ r { σ2 with mem := μ' } := fun A hb ρ s Q E rm R k => by
  refine Call_ (h _ _ _ _ _ _ rm R fun hb1 ρ1 s1 fv X1 R1 h1 => ?_) he
  rw [hs]
  refine callWith_any (P := fun h => hb1.StaysIn h) (by show ((false || (backTo pos (starEach rest env)).any (·.1)) || false) = false; rw [hp]; rfl) (fun h k => hk _ _ ρ1 fv R1.m.top k h1) (evalArgs_plain ?_)
  have ha' := ha
  unfold SEs at ha'
  rw [hs] at ha'
  exact ha' _ _ _ _ _ _ rm R1 fun hb2 ρ2 s2 vs X2 R2 h2 => ⟨fun b o e => R2.m.keep b o (X2.base b o e), TE.of_FN hf rm R2 (h1.mono X2.base X2.pre) h2 .nil fun _ _ _ _ X3 R3 h3 => k _ _ _ _ ((X1.trans X2).trans X3) R3 h3⟩
theorem se_callK {fe e : Expr} {rest : List Expr} {kws : List Keyword} {f r : AV} {as : List AV} {ks : List (Str × AV)} {μ' : List Cell} (h : SE w n env fe σ f σ1) (hk : Kept w f) (ha : SEs w n env pos (e :: rest) σ1 as σ2) (hks : SKs w n env pos kws σ2 ks σ3) (hf : FN w n f as ks σ3.mem r μ')
    (hall : autoParam (kws.all (fun k => k.arg.isSome) = true) auR)
    (he : autoParam (eval (.Call fe (e :: rest) kws pos) env = (do callWith pos (← eval fe env) [] (backTo pos (starEach (e :: rest) env)) (backToKw pos (keywordEach kws env)))) auR)
    (hs : autoParam (starEach (e :: rest) env = (false, eval e env) :: starEach rest env) auR) (hp : autoParam ((backTo pos (starEach rest env)).any (·.1) = false) auR) :
    SE w n env (.Call fe (e :: rest) kws pos) σ r { σ3 with mem := μ' } := fun A hb ρ s Q E rm R k => by
  rw [he]
  refine wpAny_bind (h _ _ _ _ _ _ rm R fun hb1 ρ1 s1 fv X1 R1 h1 => ?_)
  have hks' := hks
  refine callWith_any (P := fun h => hb1.StaysIn h) (by rw [kws_none kws hall, hs]; show ((false || (backTo pos (starEach rest env)).any (·.1)) || false) = false; rw [hp]; rfl) (fun h k => hk _ _ ρ1 fv R1.m.top k h1) (evalArgs_kw2 (kws_all kws hall) ?_ hs)
  exact ha _ _ _ _ _ _ rm R1 fun hb2 ρ2 s2 vs X2 R2 h2 => hks' _ _ _ _ _ _ rm R2 fun hb3 ρ3 s3 kvs X3 R3 h3 =>
    ⟨fun b o e => R3.m.keep b o (X3.base b o (X2.base b o e)), TE.of_FN hf rm R3 ((h1.mono X2.base X2.pre).mono X3.base X3.pre) (h2.mono X3.base X3.pre) h3 fun _ _ _ _ X4 R4 h4 => k _ _ _ _ (((X1.trans X2).trans X3).trans X4) R4 h4⟩
theorem se_callK0 {fe : Expr} {kws : List Keyword} {f r : AV} {ks : List (Str × AV)} {μ' : List Cell} (h : SE w n env fe σ f σ1) (hk : Kept w f) (hks : SKs w n env pos kws σ1 ks σ3) (hf : FN w n f [] ks σ3.mem r μ')
    (hall : autoParam (kws.all (fun k => k.arg.isSome) = true) auR)
    (he : autoParam (eval (.Call fe [] kws pos) env = (do callWith pos (← eval fe env) [] (backTo pos (starEach [] env)) (backToKw pos (keywordEach kws env)))) auR) :
    SE w n env (.Call fe [] kws pos) σ r { σ3 with mem := μ' } := fun A hb ρ s Q E rm R k => by
  rw [he]
  refine wpAny_bind (h _ _ _ _ _ _ rm R fun hb1 ρ1 s1 fv X1 R1 h1 => ?_)
  refine callWith_any (P := fun h => hb1.StaysIn h) (by rw [kws_none kws hall]; rfl) (fun h k => hk _ _ ρ1 fv R1.m.top k h1) (evalArgs_kw2_nil (kws_all kws hall) ?_)
  exact hks _ _ _ _ _ _ rm R1 fun hb3 ρ3 s3 kvs X3 R3 h3 =>
    ⟨fun b o e => R3.m.keep b o (X3.base b o e), TE.of_FN hf rm R3 (h1.mono X3.base X3.pre) .nil h3 fun _ _ _ _ X4 R4 h4 => k _ _ _ _ ((X1.trans X3).trans X4) R4 h4⟩
end
section
variable {w : World} {n : Nat} {env : Env} {σ σ1 σ2 σ3 : St} {pos : Pos} {hb hb' : Heap} {ρ ρ' : List Addr} {s s' : Shared} {μ : List Cell}
theorem lk_mem {β : Type} {x : Nat} {c : β} : ∀ {l : List (Nat × β)}, l.lookup x = some c → (x, c) ∈ l
  | [], e => by cases e
  | (y, d) :: l, e => by
    rw [List.lookup_cons] at e
    cases q : x == y with
    | true => rw [q] at e; cases e; rw [eq_of_beq q]; exact List.mem_cons_self ..
    | false => rw [q] at e; exact List.mem_cons_of_mem _ (lk_mem e)
set_option maxRecDepth 100000 in
theorem k_small : ∀ p ∈ (Internal.hd.heap_1 w.params), p.1 < 648 := by
  have h : ((Internal.hd.heap_1 w.params).map (·.1)).all (fun a => decide (a < 648)) = true := by rfl
  intro p hp
  have := List.all_eq_true.mp h p.1 (List.mem_map_of_mem hp)
  simpa using this
set_option tactic.hygienic true in
theorem RelM.frame (R : RelM w hb ρ s μ) : ∃ h₀ L m, Fr h₀ L s.heap m ∧ (Internal.hd.heap_1 w.params).In h₀ := by
  refine eEEAA R.fr ?_; rintro L m g1 g2 g3
  have hg : ∀ b o, (if b < 648 then hb.get? b else none) = some o → b < 648 ∧ o.isFreed = false := fun b o e => by
    split at e
    · rename_i q; exact ⟨q, (Heap.get?_some_iff.mp e).2⟩
    · cases e
  refine ⟨mkHeap 648 fun b => if b < 648 then hb.get? b else none, L, m, ⟨g2, fun b o e => ?_, ?_⟩, fun b o e => ?_⟩
  · rw [mkHeap_get hg] at e
    split at e
    · exact R.keep b o e
    · cases e
  · simp [mkHeap]; exact g1
  · rw [mkHeap_get hg, if_pos (k_small (w := w) (b, o) (lk_mem e))]
    exact R.top.K b o e
theorem se_tuple {es : List Expr} {as : List AV} {kd : Nat} (h : SEs w n env pos es σ as σ1) (hz : as.length ≤ 1000) : SE w n env (.Tuple es kd pos) σ (.tup as) σ1 := fun A hb ρ s Q E rm R k =>
  Tuple_ (h _ _ _ _ _ _ rm R fun hb1 ρ1 s1 vs X1 R1 h1 => by
    have hz' : vs.toArray.size ≤ sizeLine := by rw [List.size_toArray, h1.length, sizeLine_eq]; lia
    refine wpAny_newObj_type ?_ hz'
    refine eEAA (grown_frozen (s' := { s1 with heap := s1.heap.push { cls := .type "tuple", data := .seq vs.toArray } }) R1.m (fun b o e => Heap.get?_push_of_some _ e) rfl rfl [s1.heap.objs.size] (fun a ha => by rw [List.mem_singleton.mp ha]; exact dead_of_le (Nat.le_refl _))) ?_; rintro hb' X2 R2 hget
    exact k _ _ _ _ (X1.trans (X2.weaken fun _ q => nomatch q)) (R1.step X2 R2) (.tup ⟨_, hget _ (List.mem_singleton.mpr rfl) _ (Heap.get?_push_size _ rfl), rfl, _, rfl⟩ (h1.mono X2.base X2.pre)))
theorem se_list {es : List Expr} {as : List AV} (h : SEs w n env pos es σ as σ1) (hz : as.length ≤ 1000) : SE w n env (.List es pos) σ (.lst as) σ1 := fun A hb ρ s Q E rm R k =>
  List_ (h _ _ _ _ _ _ rm R fun hb1 ρ1 s1 vs X1 R1 h1 => by
    have hz' : vs.toArray.size ≤ sizeLine := by rw [List.size_toArray, h1.length, sizeLine_eq]; lia
    refine wpAny_newObj_type ?_ hz'
    refine eEAA (grown_frozen (s' := { s1 with heap := s1.heap.push { cls := .type "list", data := .seq vs.toArray } }) R1.m (fun b o e => Heap.get?_push_of_some _ e) rfl rfl [s1.heap.objs.size] (fun a ha => by rw [List.mem_singleton.mp ha]; exact dead_of_le (Nat.le_refl _))) ?_; rintro hb' X2 R2 hget
    exact k _ _ _ _ (X1.trans (X2.weaken fun _ q => nomatch q)) (R1.step X2 R2) (.lst ⟨_, hget _ (List.mem_singleton.mpr rfl) _ (Heap.get?_push_size _ rfl)⟩ (h1.mono X2.base X2.pre)))
end
example : (PySem.Challenge.rw_jg0004_01 = PySem.Challenge.rw_jg0004_01) ∧ (Internal.hd.heap_1 = Internal.hd.heap_1) := by
  k_fill; exact ⟨rfl, rfl⟩
inductive FO (w : World) (h : Heap) (ρ : List Addr) : List (Str × Option AV) → List DictEntry → Prop where
  | nil : FO w h ρ [] []
  | cons {k : Str} {x : AV} {v : Value} {t : Tok} {xs : List (Str × Option AV)} {es : List DictEntry} (hx : VRel w h ρ x v) (hxs : FO w h ρ xs es) : FO w h ρ ((k, some x) :: xs) (⟨PyData.keyHash w.params k, .str k t, v⟩ :: es)
  | skip {k : Str} {v : Value} {t : Tok} {xs : List (Str × Option AV)} {es : List DictEntry} (hxs : FO w h ρ xs es) : FO w h ρ ((k, none) :: xs) (⟨PyData.keyHash w.params k, .str k t, v⟩ :: es)
noncomputable def fo (fs : List (Str × AV)) : List (Str × Option AV) := fs.map fun p => (p.1, some p.2)
theorem FRels.fo {w : World} {h : Heap} {ρ : List Addr} {fs : List (Str × AV)} {es : List DictEntry} (H : FRels w h ρ fs es) : FO w h ρ (fo fs) es := by
  induction H with
  | nil => exact .nil
  | cons hx _ ih => exact .cons hx ih
theorem isStr_str (k nm : Str) (t : Tok) : (Value.str k t).isStr nm = (nm == k) := by
  show (k == nm) = (nm == k)
  rw [Bool.eq_iff_iff, beq_iff_eq, beq_iff_eq]; exact eq_comm
theorem FO.any {w : World} {h : Heap} {ρ : List Addr} {fs : List (Str × Option AV)} {es : List DictEntry} (H : FO w h ρ fs es) : es.any (·.refKey) = false := by
  induction H with
  | nil => rfl
  | cons _ _ ih => exact ih
  | skip _ ih => exact ih
theorem FO.find {w : World} {h : Heap} {ρ : List Addr} {nm : Str} {fs : List (Str × Option AV)} {es : List DictEntry} (H : FO w h ρ fs es) :
    (∀ r, fs.lookup nm = some r → ∃ e, es.find? (·.key.isStr nm) = some e ∧ ∀ av, r = some av → VRel w h ρ av e.val) ∧ (fs.lookup nm = none → es.find? (·.key.isStr nm) = none) := by
  induction H with
  | nil => exact ⟨fun _ e => (nomatch e), fun _ => rfl⟩
  | @cons k x v t xs es hx _ ih =>
    rw [List.lookup_cons, List.find?_cons]
    dsimp only
    rw [isStr_str]
    cases nm == k with
    | true => exact ⟨fun r e => ⟨_, rfl, fun av q => by cases e; cases q; exact hx⟩, fun e => nomatch e⟩
    | false => exact ih
  | @skip k v t xs es _ ih =>
    rw [List.lookup_cons, List.find?_cons]
    dsimp only
    rw [isStr_str]
    cases nm == k with
    | true => exact ⟨fun r e => ⟨_, rfl, fun av q => by cases e; cases q⟩, fun e => nomatch e⟩
    | false => exact ih
theorem FO.getL {w : World} {h : Heap} {ρ : List Addr} {nm : Str} {fs : List (Str × Option AV)} {es : List DictEntry} (F : FO w h ρ fs es) {av : AV} (e : fs.lookup nm = some (some av)) : ∃ u, PySem.W.getL nm es = some (some u) ∧ VRel w h ρ av u := by
  refine eEA (F.find.1 _ e) ?_; rintro en h1 h2
  exact ⟨en.val, by unfold PySem.W.getL; rw [h1], h2 _ rfl⟩
theorem FO.getN {w : World} {h : Heap} {ρ : List Addr} {nm : Str} {fs : List (Str × Option AV)} {es : List DictEntry} (F : FO w h ρ fs es) (e : fs.lookup nm = none) : PySem.W.getL nm es = some none := by
  unfold PySem.W.getL; rw [F.find.2 e]; simp only [F.any]; rfl
noncomputable def natL (l : List Nat) : List AV := l.map fun (i : Nat) => .int (i : Int)
theorem intsAre_VRels {w : World} {h : Heap} {ρ : List Addr} {l : List Nat} {vs : List Value} (H : IntsAre vs (l.map fun (i : Nat) => (i : Int))) : VRels w h ρ (natL l) vs := by
  induction l generalizing vs with
  | nil => cases H; exact .nil
  | cons x l ih => cases H with | cons _ t r => exact .cons (.int _ t) (ih r)
theorem VRels_intsAre {w : World} {h : Heap} {ρ : List Addr} {l : List Nat} {vs : List Value} (H : VRels w h ρ (natL l) vs) : IntsAre vs (l.map fun (i : Nat) => (i : Int)) := by
  induction l generalizing vs with
  | nil => rw [H.inv0]; exact .nil
  | cons x l ih => refine eEEAA (VRels.invc H) ?_; rintro v us rfl h1 r; obtain ⟨t, rfl⟩ := h1.int_inv; exact .cons _ t (ih r)
noncomputable def AV.inst (μ : List Cell) : AV → Option (Addr × List (Str × Option AV))
  | .frac p q => some (194, [("numerator", some (.int p)), ("denominator", some (.int q))])
  | .msf nm par => some (252, [("name", some (.str nm)), ("param", some par)])
  | .voter S wt => some (621, [("approved", some (.set S)), ("weight", some (.int wt))])
  | .prof k vs => some (584, [("candidates", some (.lst (natL (List.range k)))), ("cand_names", Option.none), ("_voters", some (.lst vs))])
  | .profm k hd => some (584, [("candidates", some (.lst (natL (List.range k)))), ("cand_names", Option.none), ("_voters", some (.hnd hd))])
  | .hnd n => match μ[n]? with
    | some (.ins C d) => match μ[d]? with
      | some (.dct fs) => some (C, fo fs)
      | _ => Option.none
    | _ => Option.none
  | _ => Option.none
section
variable {w : World} {n : Nat} {env : Env} {σ σ1 σ2 σ3 : St} {pos : Pos} {hb hb' : Heap} {ρ ρ' : List Addr} {s s' : Shared} {μ μ' : List Cell} {a : AV} {v : Value} {C : Addr} {fs : List (Str × Option AV)}
theorem RelM.at {n : Nat} {c : Cell} (R : RelM w hb ρ s μ) (e : μ[n]? = some c) : ∃ x o, ρ[n]? = some x ∧ s.heap.get? x = some o ∧ CellRel w hb ρ c o := by
  have hl : n < ρ.length := R.len ▸ (List.getElem?_eq_some_iff.mp e).1
  refine eEA (R.mem n ρ[n] c (List.getElem?_eq_getElem hl) e) ?_; rintro o h1 h2
  exact ⟨_, o, List.getElem?_eq_getElem hl, h1, h2⟩
set_option tactic.hygienic true in
theorem inst_of (R : RelM w hb ρ s μ) (h : VRel w hb ρ a v) (e : a.inst μ = some (C, fs)) :
    ∃ x dx es m, v = .ref x ∧ s.heap.get? x = some (instObj C dx) ∧ s.heap.get? dx = some (dictOf es m) ∧ FO w hb ρ fs es := by
  cases h
  case hnd hn =>
    simp only [AV.inst] at e
    split at e
    · rename_i hm
      split at e
      · rename_i hd
        cases e
        refine eEEAA (R.at hm) ?_; rintro x o h1 h2 h3
        refine eEEAA (R.at hd) ?_; rintro dx od g1 g2 g3
        rw [h1] at hn; cases hn
        cases h3
        rename_i hd'
        rw [g1] at hd'; cases hd'
        cases g3
        exact ⟨_, _, _, _, rfl, h2, g2, FRels.fo (by assumption)⟩
      · cases e
    · cases e
  case none => cases e
  case bool => cases e
  case int => cases e
  case str => cases e
  case val => cases e
  case any => cases e
  case rng => cases e
  case tup => cases e
  case lst => cases e
  case set => cases e
  case frac hx hd => cases e; exact ⟨_, _, _, _, rfl, R.keep _ _ hx, R.keep _ _ hd, .cons (.int _ _) (.cons (.int _ _) .nil)⟩
  case msf hx hd hp => cases e; exact ⟨_, _, _, _, rfl, R.keep _ _ hx, R.keep _ _ hd, .cons (.str _ _) (.cons hp .nil)⟩
  case voter hx hd hs => cases e; exact ⟨_, _, _, _, rfl, R.keep _ _ hx, R.keep _ _ hd, .cons (.set hs) (.cons (.int _ _) .nil)⟩
  case prof hx hd hc hu hv hxs => cases e; exact ⟨_, _, _, _, rfl, R.keep _ _ hx, R.keep _ _ hd, .cons (.lst hc (intsAre_VRels hu)) (.skip (.cons (.lst hv hxs) .nil))⟩
  case profm hx hd hc hu hv => cases e; exact ⟨_, _, _, _, rfl, R.keep _ _ hx, R.keep _ _ hd, .cons (.lst hc (intsAre_VRels hu)) (.skip (.cons (.hnd hv) .nil))⟩
theorem RelM.X (R : RelM w hb ρ s μ) : (Internal.hd.heap_1 w.params).In s.heap := R.top.K.keeps R.keep
noncomputable def AV.known : AV → Bool
  | .val _ => false
  | .any => false
  | _ => true
theorem VRel.handed {h : Heap} (x : VRel w h ρ a v) (e : a.known = true) : handedIn v = true := by
  cases x <;> first | rfl | cases e
theorem o_own {nm : Str} {b : AV} (e : a.inst μ = some (C, fs)) (hf : fs.lookup nm = some (some b)) (hg : plainGet (Internal.hd.heap_1 w.params) C nm = true) (hh : hasDictIn (Internal.hd.heap_1 w.params) C = true) {attr : Option Value}
    (ha : findIn (Internal.hd.heap_1 w.params) (.ref C) nm = some attr) (hn : noGet (Internal.hd.heap_1 w.params) attr = true) (hv : autoParam (b.known = true) auR) :
    O1 w n (fun v => getAttr v nm true) a μ (fun hb ρ u => VRel w hb ρ b u) μ := fun A hb ρ s v Q E rm R h k => by
  refine eEEEEAAA (inst_of R h e) ?_; rintro x dx es m rfl h1 h2 h3
  refine eEA (h3.getL hf) ?_; rintro u g1 g2
  exact get_value R.X (show InstAt s.heap x (instObj C dx) C (some (dictOf es m)) from ⟨h1, rfl, rfl, h2⟩) (plainGet_of hg).1 (findObj_own hh ha hn g1) (g2.handed hv) (k _ _ _ _ (Ext.toks _) (R.toks _) g2)
theorem o_meth {nm : Str} {f : Addr} {pl : Sem Bool} (e : a.inst μ = some (C, fs)) (hf : fs.lookup nm = none) (hg : plainGet (Internal.hd.heap_1 w.params) C nm = true)
    (ha : findIn (Internal.hd.heap_1 w.params) (.ref C) nm = some (some (.ref f))) (ht : typeIn (Internal.hd.heap_1 w.params) (.ref f) = some (.type "function")) :
    O1 w n (fun v => getMethod v nm pl) a μ (fun hb ρ u => VRel w hb ρ (.val (.ref f)) u.1 ∧ VRels w hb ρ [a] u.2) μ := fun A hb ρ s v Q E rm R h k => by
  refine eEEEEAAA (inst_of R h e) ?_; rintro x dx es m rfl h1 h2 h3
  exact method_fn R.X (show InstAt s.heap x (instObj C dx) C (some (dictOf es m)) from ⟨h1, rfl, rfl, h2⟩) (plainGet_of hg).1 (plainGet_of hg).2 ha ht (by show ((lookIn nm (dictOf es m)).map (·.isSome)) = some false; rw [lookIn_dict, h3.getN hf]; rfl) (k _ _ _ _ .refl R ⟨.val _, .cons h .nil⟩)
theorem se_mcall {o : Expr} {nm : Str} {apos : Pos} {e : Expr} {rest : List Expr} {kws : List Keyword} {pl : Sem Bool} {f r : AV} {first as : List AV} {ks : List (Str × AV)} {μ1 μ' : List Cell} (h : SE w n env o σ a σ1)
    (hm : O1 w n (fun v => getMethod v nm pl) a σ1.mem (fun hb ρ u => VRel w hb ρ f u.1 ∧ VRels w hb ρ first u.2) μ1) (hk : Kept w f) (ha : SEs w n env pos (e :: rest) { σ1 with mem := μ1 } as σ2) (hks : SKs w n env pos kws σ2 ks σ3) (hf : FN w n f (first ++ as) ks σ3.mem r μ')
    (hall : autoParam (kws.all (fun k => k.arg.isSome) = true) auR)
    (he : autoParam (eval (.Call (.Attribute o nm apos) (e :: rest) kws pos) env = (do let ov ← eval o env; standAt apos.atName; let (f, first) ← holding [ov] (getMethod ov nm pl); callWith pos f first (backTo pos (starEach (e :: rest) env)) (backToKw pos (keywordEach kws env)))) auR)
    (hs : autoParam (starEach (e :: rest) env = (false, eval e env) :: starEach rest env) auR) (hp : autoParam ((backTo pos (starEach rest env)).any (·.1) = false) auR) :
    SE w n env (.Call (.Attribute o nm apos) (e :: rest) kws pos) σ r { σ3 with mem := μ' } := fun A hb ρ s Q E rm R k => by
  refine methodCall_KW (h _ _ _ _ _ _ rm R fun hb1 ρ1 s1 fv X1 R1 h1 => ?_) he
  refine TE.of_O1 (n := n) (t := fun v => getMethod v nm pl) hm rm R1 h1 fun hb2 ρ2 s2 p X2 R2 h2 => ?_
  refine callWith_any (P := fun h => hb2.StaysIn h) (by rw [kws_none kws hall, hs]; show ((false || (backTo pos (starEach rest env)).any (·.1)) || false) = false; rw [hp]; rfl) (fun h k => hk _ _ ρ2 _ R2.m.top k h2.1) (evalArgs_kw2 (kws_all kws hall) ?_ hs)
  exact ha _ _ _ _ _ _ rm R2 fun hb3 ρ3 s3 vs X3 R3 h3 => hks _ _ _ _ _ _ rm R3 fun hb4 ρ4 s4 kvs X4 R4 h4 =>
    ⟨fun b o e => R4.m.keep b o (X4.base b o (X3.base b o e)), TE.of_FN hf rm R4 ((h2.1.mono X3.base X3.pre).mono X4.base X4.pre) (((h2.2.mono X3.base X3.pre).append h3).mono X4.base X4.pre) h4 fun _ _ _ _ X5 R5 h5 => k _ _ _ _ ((((X1.trans X2).trans X3).trans X4).trans X5) R5 h5⟩
theorem se_mcall0 {o : Expr} {nm : Str} {apos : Pos} {kws : List Keyword} {pl : Sem Bool} {f r : AV} {first : List AV} {ks : List (Str × AV)} {μ1 μ' : List Cell} (h : SE w n env o σ a σ1)
    (hm : O1 w n (fun v => getMethod v nm pl) a σ1.mem (fun hb ρ u => VRel w hb ρ f u.1 ∧ VRels w hb ρ first u.2) μ1) (hk : Kept w f) (hks : SKs w n env pos kws { σ1 with mem := μ1 } ks σ3) (hf : FN w n f first ks σ3.mem r μ')
    (hall : autoParam (kws.all (fun k => k.arg.isSome) = true) auR)
    (he : autoParam (eval (.Call (.Attribute o nm apos) [] kws pos) env = (do let ov ← eval o env; standAt apos.atName; let (f, first) ← holding [ov] (getMethod ov nm pl); callWith pos f first (backTo pos (starEach [] env)) (backToKw pos (keywordEach kws env)))) auR) :
    SE w n env (.Call (.Attribute o nm apos) [] kws pos) σ r { σ3 with mem := μ' } := fun A hb ρ s Q E rm R k => by
  refine methodCall_KW (h _ _ _ _ _ _ rm R fun hb1 ρ1 s1 fv X1 R1 h1 => ?_) he
  refine TE.of_O1 (n := n) (t := fun v => getMethod v nm pl) hm rm R1 h1 fun hb2 ρ2 s2 p X2 R2 h2 => ?_
  refine callWith_any (P := fun h => hb2.StaysIn h) (by rw [kws_none kws hall]; rfl) (fun h k => hk _ _ ρ2 _ R2.m.top k h2.1) (evalArgs_kw2_nil (kws_all kws hall) ?_)
  exact hks _ _ _ _ _ _ rm R2 fun hb4 ρ4 s4 kvs X4 R4 h4 =>
    ⟨fun b o e => R4.m.keep b o (X4.base b o e), by rw [List.append_nil]; exact TE.of_FN hf rm R4 (h2.1.mono X4.base X4.pre) (h2.2.mono X4.base X4.pre) h4 fun _ _ _ _ X5 R5 h5 => k _ _ _ _ (((X1.trans X2).trans X4).trans X5) R5 h5⟩
end
section
variable {w : World} {n : Nat} {env : Env} {σ σ1 σ2 σ3 : St} {pos : Pos} {hb hb' : Heap} {ρ ρ' : List Addr} {s s' : Shared} {μ μ' : List Cell} {a b c : AV} {v : Value} {C : Addr} {fs : List (Str × Option AV)}
theorem VRel.cmpBack {h : Heap} {r : AV} {v : Value} {Q : Value → Shared → Prop} {s : Shared} (x : VRel w h ρ r v) (e : r.known = true) (q : Q v s) : PySem.W.CmpBack Q v s := by
  cases x <;> first | exact q | cases e
theorem Room.in1 {A : Around} (h : Room (n + 1) A) : Room n A.in1 := ⟨h.1, by have := h.2.1; show A.depth + n < 700; lia, by have := h.2.2; show A.units + 1 + 20 * n < 8000; lia⟩
theorem Room.call {A : Around} {C : Addr} {vals : List Value} {kw : List (Str × Value)} (h : Room (n + 1) A) : Room n (A.under (.builtin "type.__call__" ⟨.ref C :: vals, kw⟩)) := by
  refine ⟨h.1, ?_, ?_⟩
  · have := h.2.1
    show A.depth + 1 + n < 700; lia
  · have := h.2.2
    have z : (Code.builtin "type.__call__" ⟨.ref C :: vals, kw⟩).cUnits ≤ 4 := by rw [show (Code.builtin "type.__call__" ⟨.ref C :: vals, kw⟩).cUnits = (Code.builtin "type.__call__" ⟨[], []⟩).cUnits from rfl]; decide +kernel
    show A.units + (Code.builtin "type.__call__" ⟨.ref C :: vals, kw⟩).cUnits + 20 * n < 8000; lia
theorem o_binop {op : Operator} {f : Addr} (ea : a.inst μ = some (C, fs)) (eb : ∃ gs, b.inst μ = some (C, gs)) (hc : selfFirst (Internal.hd.heap_1 w.params) C = true)
    (hs : findIn (Internal.hd.heap_1 w.params) (.ref C) (PySem.dunder op.info.2) = some (some (.ref f))) (hf : isFn (Internal.hd.heap_1 w.params) (.ref f) = true) (h : FN w n (.val (.ref f)) [a, b] [] μ c μ') (hk : c.known = true) :
    O2 w n (binaryOp op) a b μ (fun hb ρ v => VRel w hb ρ c v) μ' := fun A hb ρ s v u Q E rm R hv hu k => by
  refine eEEEA R.frame ?_; rintro h₀ L m F X₀
  obtain ⟨gs, eb⟩ := eb
  refine eEEEEAAA (inst_of R hv ea) ?_; rintro x dx es p rfl h1 h2 h3
  refine eEEEEAAA (inst_of R hu eb) ?_; rintro y dy es' p' rfl g1 g2 g3
  have I : InstAt s.heap x (instObj C dx) C (some (dictOf es p)) := ⟨h1, rfl, rfl, h2⟩
  have J : InstAt s.heap y (instObj C dy) C (some (dictOf es' p')) := ⟨g1, rfl, rfl, g2⟩
  exact binop_K F X₀ I J.type hc hs hf (h A hb ρ s _ _ _ _ _ rm R (.val _) (.cons hv (.cons hu .nil)) .nil fun _ _ _ _ X' R' h' => h'.cmpBack hk (k _ _ _ _ X' R' h'))
theorem o_binopI {op : Operator} {f : Addr} {i : Int} {rc fo ro : Option Value} (ea : a.inst μ = some (C, fs)) (hc : selfFirst (Internal.hd.heap_1 w.params) C = true)
    (hs : findIn (Internal.hd.heap_1 w.params) (.ref C) (PySem.dunder op.info.2) = some (some (.ref f))) (hf : isFn (Internal.hd.heap_1 w.params) (.ref f) = true)
    (hr : findIn (Internal.hd.heap_1 w.params) (.ref C) (dunderR op.info.2) = some rc) (hp : rc = none ∨ ∃ g : Addr, rc = some (.ref g))
    (h1 : findIn (Internal.hd.heap_1 w.params) (.type "int") (PySem.dunder op.info.2) = some fo) (h2 : findIn (Internal.hd.heap_1 w.params) (.type "int") (dunderR op.info.2) = some ro) (hsub : subIn (Internal.hd.heap_1 w.params) (.type "int") (.ref C) = some false)
    (h : FN w n (.val (.ref f)) [a, .int i] [] μ c μ') (hk : c.known = true) :
    O2 w n (binaryOp op) a (.int i) μ (fun hb ρ v => VRel w hb ρ c v) μ' := fun A hb ρ s v u Q E rm R hv hu k => by
  refine eEEEA R.frame ?_; rintro h₀ L m F X₀
  refine eEEEEAAA (inst_of R hv ea) ?_; rintro x dx es p rfl g1 g2 h3
  have I : InstAt s.heap x (instObj C dx) C (some (dictOf es p)) := ⟨g1, rfl, rfl, g2⟩
  have hu' := hu
  obtain ⟨_, rfl⟩ := VRel.int_inv hu'
  exact ksp_binT F X₀ I (by rfl) hc hs hf hr hp h1 h2 hsub (h A hb ρ s _ _ _ _ _ rm R (.val _) (.cons hv (.cons hu .nil)) .nil fun _ _ _ _ X' R' h' => h'.cmpBack hk (k _ _ _ _ X' R' h'))
theorem o_cmp {op : CmpOp} {f : Addr} (ea : a.inst μ = some (C, fs)) (eb : ∃ gs, b.inst μ = some (C, gs)) (hn : notFirst (Internal.hd.heap_1 w.params) C (.ref C) = true)
    (hs : findIn (Internal.hd.heap_1 w.params) (.ref C) (cmpInfo op).2.1 = some (some (.ref f))) (hf : isFn (Internal.hd.heap_1 w.params) (.ref f) = true) (h : FN w n (.val (.ref f)) [a, b] [] μ c μ') (hk : c.known = true)  :
    O2 w n (richCompare op) a b μ (fun hb ρ v => VRel w hb ρ c v) μ' := fun A hb ρ s v u Q E rm R hv hu k => by
  refine eEEEA R.frame ?_; rintro h₀ L m F X₀
  obtain ⟨gs, eb⟩ := eb
  refine eEEEEAAA (inst_of R hv ea) ?_; rintro x dx es p rfl h1 h2 h3
  refine eEEEEAAA (inst_of R hu eb) ?_; rintro y dy es' p' rfl g1 g2 g3
  have I : InstAt s.heap x (instObj C dx) C (some (dictOf es p)) := ⟨h1, rfl, rfl, h2⟩
  have J : InstAt s.heap y (instObj C dy) C (some (dictOf es' p')) := ⟨g1, rfl, rfl, g2⟩
  exact cmp_K (by have := rm.2.2; show A.units < 9900; lia) F X₀ I J.type hn hs hf (h A hb ρ s _ _ _ _ _ rm R (.val _) (.cons hv (.cons hu .nil)) .nil fun _ _ _ _ X' R' h' => h'.cmpBack hk (k _ _ _ _ X' R' h'))
theorem o_cmpI {op : CmpOp} {f : Addr} {i : Int} (ea : a.inst μ = some (C, fs)) (hn : notFirst (Internal.hd.heap_1 w.params) C (.type "int") = true)
    (hs : findIn (Internal.hd.heap_1 w.params) (.ref C) (cmpInfo op).2.1 = some (some (.ref f))) (hf : isFn (Internal.hd.heap_1 w.params) (.ref f) = true) (h : FN w n (.val (.ref f)) [a, .int i] [] μ c μ') (hk : c.known = true)  :
    O2 w n (richCompare op) a (.int i) μ (fun hb ρ v => VRel w hb ρ c v) μ' := fun A hb ρ s v u Q E rm R hv hu k => by
  refine eEEEA R.frame ?_; rintro h₀ L m F X₀
  refine eEEEEAAA (inst_of R hv ea) ?_; rintro x dx es p rfl h1 h2 h3
  have I : InstAt s.heap x (instObj C dx) C (some (dictOf es p)) := ⟨h1, rfl, rfl, h2⟩
  have hu' := hu
  obtain ⟨_, rfl⟩ := VRel.int_inv hu'
  exact cmp_K (tb := .type "int") (by have := rm.2.2; show A.units < 9900; lia) F X₀ I (Looks.of_pure rfl) hn hs hf (h A hb ρ s _ _ _ _ _ rm R (.val _) (.cons hv (.cons hu .nil)) .nil fun _ _ _ _ X' R' h' => h'.cmpBack hk (k _ _ _ _ X' R' h'))
theorem o_prop {nm : Str} {p fget : Addr} {rest : List Value} (e : a.inst μ = some (C, fs)) (hg : plainGet (Internal.hd.heap_1 w.params) C nm = true) (hh : hasDictIn (Internal.hd.heap_1 w.params) C = true)
    (ha : findIn (Internal.hd.heap_1 w.params) (.ref C) nm = some (some (.ref p))) (hn : specialIn (Internal.hd.heap_1 w.params) (.ref p) "__get__" = some (some (.builtin "property.__get__"))) (ht : takesIn (Internal.hd.heap_1 w.params) (.ref p) = some true)
    (hp : recIn (Internal.hd.heap_1 w.params) p "property" = some (.ref fget :: rest)) (h : FC w n (.val (.ref fget)) [a] [] μ c μ') (hk : c.known = true) :
    O1 w (n + 1) (fun v => getAttr v nm true) a μ (fun hb ρ u => VRel w hb ρ c u) μ' := fun A hb ρ s v Q E rm R hv k => by
  refine eEEEA R.frame ?_; rintro h₀ L m F X₀
  refine eEEEEAAA (inst_of R hv e) ?_; rintro x dx es q rfl h1 h2 h3
  have I : InstAt s.heap x (instObj C dx) C (some (dictOf es q)) := ⟨h1, rfl, rfl, h2⟩
  refine get_prop F X₀ I hg hh ha hn ht hp (h A.in1 hb ρ { s with toks := s.toks + 1 } _ _ _ _ rm.in1 (R.toks _) (.val _) (.cons hv .nil) .nil fun hb' ρ' s' r X' R' h' => ?_)
  show wpAny (model PRG w) A (handedOut r) Q E s'
  rw [handedOut_of (h'.handed hk)]
  exact wpAny_pure (k hb' ρ' s' r ((Ext.toks _).trans X') R' h')
theorem fc_inst {f : Addr} {as : List AV} {ks : List (Str × AV)} (e : a.inst μ = some (C, fs)) (hs : findIn (Internal.hd.heap_1 w.params) (.ref C) "__call__" = some (some (.ref f))) (hf : isFn (Internal.hd.heap_1 w.params) (.ref f) = true) (hfn : fnIn (Internal.hd.heap_1 w.params) f = true)
    (h : FC w n (.val (.ref f)) (a :: as) ks μ c μ') : FC w n a as ks μ c μ' := fun A hb ρ s fv vs kvs Rr rm R hf' hvs hks k => by
  refine eEEEEAAA (inst_of R hf' e) ?_; rintro x dx es q rfl h1 h2 h3
  have I : InstAt s.heap x (instObj C dx) C (some (dictOf es q)) := ⟨h1, rfl, rfl, h2⟩
  exact kco_code R.X I rfl hs hf hfn (h A hb ρ s _ _ _ _ rm R (.val _) (.cons hf' hvs) hks k)
noncomputable def isType (μ : List Cell) : AV → Option Value
  | .int _ => some (.type "int")
  | .str _ => some (.type "str")
  | .none => some (.type "NoneType")
  | .bool _ => some (.type "bool")
  | a => (a.inst μ).map fun p => .ref p.1
theorem kx_of (R : RelM w hb ρ s μ) (hv : VRel w hb ρ a v) {t : Value} (e : isType μ a = some t)
    (ho : ∀ D, t = .ref D → plainGet (Internal.hd.heap_1 w.params) D "__class__" = true ∧ hasDictIn (Internal.hd.heap_1 w.params) D = true ∧ findIn (Internal.hd.heap_1 w.params) (.ref D) "__class__" = some (some (.builtin "object.__class__")) ∧ mroIn (Internal.hd.heap_1 w.params) D (.type "object") = some true) :
    (∃ H, KitX (Internal.hd.heap_1 w.params) v t H ∧ H s.heap) ∧ v ≠ .builtin "__main__.__loader__#opaque" := by
  have hn : specialIn (Internal.hd.heap_1 w.params) (.builtin "object.__class__") "__get__" = some (some (.builtin "getset_descriptor.__get__")) := by k_is
  have htk : takesIn (Internal.hd.heap_1 w.params) (.builtin "object.__class__") = some true := by k_is
  have main : ∀ D gs, a.inst μ = some (D, gs) → t = .ref D → (∃ H, KitX (Internal.hd.heap_1 w.params) v t H ∧ H s.heap) ∧ v ≠ .builtin "__main__.__loader__#opaque" := fun D gs e et => by
    refine eEEEEAAA (inst_of R hv e) ?_; rintro x dx es q rfl h1 h2 h3
    refine eAAA (ho D et) ?_; rintro g1 g2 g3 g4
    subst et
    exact ⟨⟨_, kitx_own g1 g2 g3 hn htk g4, (⟨h1, rfl, rfl, h2⟩ : InstAt s.heap x (instObj D dx) D (some (dictOf es q)))⟩, by intro q; cases q⟩
  cases hv
  case int => cases e; exact ⟨⟨_, kitx_int, trivial⟩, by intro q; cases q⟩
  case str => cases e; exact ⟨⟨_, kitx_str, trivial⟩, by intro q; cases q⟩
  case none => cases e; exact ⟨⟨_, kitx_none, trivial⟩, by intro q; cases q⟩
  case bool => cases e; exact ⟨⟨_, kitx_bool, trivial⟩, by intro q; cases q⟩
  all_goals
    unfold isType at e
    refine eEA (Option.map_eq_some_iff.mp e) ?_; rintro ⟨D, gs⟩ e1 e2
    exact main D gs e1 e2.symm
theorem fn_isi {cv t : Value} {r : Bool} (e : isType μ a = some t)
    (ho : ∀ D, t = .ref D → plainGet (Internal.hd.heap_1 w.params) D "__class__" = true ∧ hasDictIn (Internal.hd.heap_1 w.params) D = true ∧ findIn (Internal.hd.heap_1 w.params) (.ref D) "__class__" = some (some (.builtin "object.__class__")) ∧ mroIn (Internal.hd.heap_1 w.params) D (.type "object") = some true)
    (hk : kitOne (Internal.hd.heap_1 w.params) t cv = some r) : FN w n (.val (.builtin "isinstance")) [a, .val cv] [] μ (.bool r) μ := fun A hb ρ s fv vs kvs Q E rm R hf hvs hks k => by
  obtain rfl := VRel.val_inv hf; obtain rfl := hks.inv0
  refine eEEAA hvs.inv2 ?_; rintro _ _ rfl h1 h2
  obtain rfl := VRel.val_inv h2
  obtain ⟨⟨H, Z, p⟩, q⟩ := kx_of R h1 e ho
  exact kia_one Z R.X p hk q fun tk => k _ _ _ _ (Ext.toks _) (R.toks _) (.bool _)
theorem vals_of {h : Heap} : ∀ {cs vs : List Value}, VRels w h ρ (cs.map .val) vs → vs = cs
  | [], _, .nil => rfl
  | c :: cs, _, .cons h1 h2 => by obtain rfl := VRel.val_inv h1; rw [vals_of h2]
theorem fn_isiT {cs : List Value} {t : Value} {r : Bool} (e : isType μ a = some t)
    (ho : ∀ D, t = .ref D → plainGet (Internal.hd.heap_1 w.params) D "__class__" = true ∧ hasDictIn (Internal.hd.heap_1 w.params) D = true ∧ findIn (Internal.hd.heap_1 w.params) (.ref D) "__class__" = some (some (.builtin "object.__class__")) ∧ mroIn (Internal.hd.heap_1 w.params) D (.type "object") = some true)
    (hk : kitAny (Internal.hd.heap_1 w.params) t cs = some r) : FN w n (.val (.builtin "isinstance")) [a, .tup (cs.map .val)] [] μ (.bool r) μ := fun A hb ρ s fv vs kvs Q E rm R hf hvs hks k => by
  obtain rfl := VRel.val_inv hf; obtain rfl := hks.inv0
  refine eEEAA hvs.inv2 ?_; rintro _ _ rfl h1 h2
  refine eEEAA h2.tup_inv ?_; rintro ta tvs rfl ht hx
  have := vals_of hx
  subst this
  obtain ⟨⟨H, Z, p⟩, q⟩ := kx_of R h1 e ho
  refine eEAAE (ht.keeps R.keep) ?_; rintro o g1 g2 m g3
  obtain ⟨c1, c2, c3, c4⟩ := o
  dsimp only at g2 g3
  subst g2 g3
  exact kia_tup Z R.X p g1 hk q fun tk => k _ _ _ _ (Ext.toks _) (R.toks _) (.bool _)
noncomputable def putF (k : Str) (x : AV) : List (Str × AV) → List (Str × AV)
  | [] => [(k, x)]
  | (y, b) :: r => if (k == y) = true then (y, x) :: r else (y, b) :: putF k x r
theorem FRels.put {h : Heap} {nm : Str} {x : AV} {v : Value} {t : Tok} (hx : VRel w h ρ x v) {fs : List (Str × AV)} {es : List DictEntry} (H : FRels w h ρ fs es) : FRels w h ρ (putF nm x fs) (putL nm (PyData.keyHash w.params nm) (.str nm t) v es) := by
  induction H with
  | nil => exact .cons hx .nil
  | cons hy hr ih =>
    unfold putF putL
    rw [isStr_str]
    split
    · exact .cons hx hr
    · exact .cons hy ih
theorem FRels.length {h : Heap} {fs : List (Str × AV)} {es : List DictEntry} (H : FRels w h ρ fs es) : es.length = fs.length := by
  induction H with
  | nil => rfl
  | cons _ _ ih => exact congrArg (· + 1) ih
set_option tactic.hygienic true in
theorem RelM.upd {i : Nat} {x : Addr} {c : Cell} {o : Obj} {h' : Heap} (R : RelM w hb ρ s μ) (hx : ρ[i]? = some x) (e : h'.get? x = some o) (hs : Heap.SameBut x s.heap h') (hc : CellRel w hb ρ c o) (ok : c.ok = true) (tk : Nat) :
    RelM w hb ρ { s with heap := h', toks := tk } (μ.set i c) := by
  have hm := List.mem_of_getElem? hx
  refine ⟨R.top, fun b o' e' => ?_, fun P hP => ?_, R.bare, by rw [List.length_set]; exact R.len, fun j y c' e1 e2 => ?_, fun c' hc' => ?_, R.nod, fun y hy => ?_, ?_⟩
  · exact (hs.2 b fun q => by rw [q, (R.out x hm).1] at e'; cases e').trans (R.keep b o' e')
  · obtain ⟨⟨ps, g⟩, q⟩ := R.tabs P hP
    exact ⟨⟨ps, (hs.2 P fun q => (R.out x hm).2.1 (q ▸ hP)).trans g⟩, q⟩
  · rw [List.getElem?_set] at e2
    split at e2
    · rename_i q
      subst q
      split at e2
      · cases e2
        rw [hx] at e1; cases e1
        exact ⟨o, e, hc⟩
      · cases e2
    · rename_i q
      refine eEA (R.mem j y c' e1 e2) ?_; rintro o' g1 g2
      refine ⟨o', (hs.2 y fun z => q ?_).trans g1, g2⟩
      subst z
      exact (List.getElem?_inj (List.getElem?_eq_some_iff.mp hx).1 R.nod).mp (hx.trans e1.symm)
  · rcases List.mem_or_eq_of_mem_set hc' with q | q
    · exact R.ok c' q
    · exact q ▸ ok
  · refine eAA (R.out y hy) ?_; rintro g1 g2 g3
    exact ⟨g1, g2, live_same hs ⟨o, e⟩ _ g3⟩
  · refine eEEAA R.fr ?_; rintro L m g1 g2 g3
    exact ⟨L, m, g1, g2.sameBut hs fun q => g3 (q ▸ hm), g3⟩
theorem Ext.upd {i : Nat} {x : Addr} {h' : Heap} {o : Obj} (e : h'.get? x = some o) (hx : ρ[i]? = some x) (hs : Heap.SameBut x s.heap h') (tk : Nat) : Ext [] hb ρ s hb ρ { s with heap := h', toks := tk } :=
  ⟨fun _ _ e => e, List.prefix_rfl, fun _ _ e => .inl e, fun _ h => .inl h, fun b o e _ h2 _ => (hs.2 b fun q => h2 (q ▸ List.mem_of_getElem? hx)).trans e, live_same hs ⟨o, e⟩, fun _ _ e => e, rfl⟩
end
section
open PySem.Builtin
section
variable {w : World} {n : Nat} {env : Env} {σ σ1 σ2 σ3 : St} {pos : Pos} {hb hb' : Heap} {ρ ρ' : List Addr} {s s' : Shared} {μ μ' : List Cell} {a b c : AV} {v : Value} {C : Addr} {fs : List (Str × AV)}
theorem putL_length (nm : Str) (hsh : Int) (key v : Value) : ∀ es : List DictEntry, (putL nm hsh key v es).length ≤ es.length + 1
  | [] => by unfold putL; simp
  | e :: r => by
    unfold putL
    split
    · simp
    · have := putL_length nm hsh key v r
      simp only [List.length_cons]; lia
set_option tactic.hygienic true in
theorem o_set {i d : Nat} {nm : Str} {x : AV} (hi : μ[i]? = some (.ins C d)) (hd : μ[d]? = some (.dct fs)) (hz : fs.length ≤ 900)
    (hs : findIn (Internal.hd.heap_1 w.params) (.ref C) "__setattr__" = some (some (.builtin "object.__setattr__"))) (hp : plainOver (Internal.hd.heap_1 w.params) C = true) (ht : takerIn (Internal.hd.heap_1 w.params) C nm = some none) (hh : hasDictIn (Internal.hd.heap_1 w.params) C = true) :
    O2 w n (fun o u => setAttr o nm u) (.hnd i) x μ (fun _ _ _ => True) (μ.set d (.dct (putF nm x fs))) := fun A hb ρ s v u Q E rm R hv hu k => by
  refine eEA (VRel.hnd_inv hv) ?_; rintro _ rfl _
  rename_i xa hxa
  refine eEEAA (R.at hi) ?_; rintro xa' o g1 g2 g3
  refine eEEAA (R.at hd) ?_; rintro dx od j1 j2 j3
  rw [g1] at hxa; cases hxa
  cases g3
  rename_i dx' hdx
  rw [j1] at hdx; cases hdx
  cases j3
  rename_i es kk hf
  have I : InstAt s.heap xa (instObj C dx) C (some (dictOf es kk)) := ⟨g2, rfl, rfl, j2⟩
  refine set_plain R.X I hs (osa_open (s := { s with toks := s.toks + 1 }) (R.toks _).X I hp ht fun bb => ?_)
  refine eEA (any_some hh) ?_; rintro cd hc hd'
  have hes := hf.length
  refine wpAny_bind (wpAny_pure (wpAny_bind (wpAny_bind (wpAny_loadPart g2 (wpAny_bind ((looks_clsIn (R.toks (s.toks + 1)).X hc).here ?_))))))
  rw [hd']
  refine wpAny_pure (a := some dx) (wpAny_bind (wpAny_pure (wpAny_bind ?_)))
  unfold nsSet
  refine wpAny_bind (wpAny_bind (wpAny_askSetting (wpAny_pure (wpAny_bind (wpAny_mkText (wpAny_bind (wpAny_loadPart j2 ?_)))))))
  have hc2 : (!es.any (·.key.isStr nm) && es.any (·.refKey)) = false := by rw [hf.fo.any, Bool.and_false]
  have hput := putName_dict nm (PyData.keyHash w.params nm) (.str nm (s.toks + 1)) u es kk
  have D' : (s.heap.update dx (Obj.putName nm (PyData.keyHash w.params nm) (.str nm (s.toks + 1)) u)).get? dx = some (dictOf (putL nm (PyData.keyHash w.params nm) (.str nm (s.toks + 1)) u es) (putN nm es kk)) := by
    rw [← hput]; exact Heap.get?_update_self _ j2 (by rw [hput]; rfl)
  dsimp only
  rw [aRefKeyMayBeTheName_at]
  simp only [← Array.any_toList, List.toList_toArray]
  rw [hc2]
  have hsb : Heap.SameBut dx s.heap (s.heap.update dx (Obj.putName nm (PyData.keyHash w.params nm) (.str nm (s.toks + 1)) u)) := Heap.SameBut.update _ _ _
  refine wpAny_updatePart j2 ?_
  refine wpAny_bind (wpAny_lookBehind D' (pastItsLine_dict (by have := putL_length nm (PyData.keyHash w.params nm) (.str nm (s.toks + 1)) u es; rw [List.size_toArray, sizeLine_eq]; lia)) ?_)
  exact wpAny_pure (k _ _ _ _ (Ext.upd D' j1 hsb _) (R.upd j1 D' hsb (.dct (hf.put hu)) rfl _) trivial)
theorem ss_setattr {o e : Expr} {nm : Str} {p : Pos} {x a : AV} {μ' : List Cell} (h : SE w n env e σ x σ1) (ho : SE w n env o σ1 a σ2) (hset : O2 w n (fun o u => setAttr o nm u) a x σ2.mem (fun _ _ _ => True) μ')
    (hs : autoParam (swapsWith e (some (.Attribute o nm p)) pos.line env = pure false) auR) : SS w n env (.Assign [.Attribute o nm p] e pos) σ .next { σ2 with mem := μ' } := fun A hb ρ s Q E rm R k =>
  plainObj_wpAny_Assign_Attribute (h _ _ _ _ _ _ rm R fun _ _ _ _ X1 R1 h1 => ho _ _ _ _ _ _ rm R1 fun _ _ _ _ X2 R2 h2 =>
    TE.of_O2 (t := fun o u => setAttr o nm u) hset rm R2 h2 (h1.mono X2.base X2.pre) fun _ _ _ _ X3 R3 _ => k _ _ _ _ ((X1.trans X2).trans X3) R3 .next) hs
theorem RelM.cell {o : Obj} {c : Cell} (R : RelM w hb ρ s μ) (hc : CellRel w hb (ρ ++ [s.heap.objs.size]) c o) (ok : c.ok = true) (hf : autoParam (o.isFreed = false) auR) :
    RelM w hb (ρ ++ [s.heap.objs.size]) { s with heap := s.heap.push o } (μ ++ [c]) := by
  have hk : s.heap.StaysIn (s.heap.push o) := fun b o' e => Heap.get?_push_of_some _ e
  have G := R.grow (s' := { s with heap := s.heap.push o }) hk rfl
  refine ⟨G.top, G.keep, G.tabs, G.bare, by simp [R.len], fun i y c' e1 e2 => ?_, fun c' hc' => ?_, ?_, fun y hy => ?_, ?_⟩
  · by_cases q : i < ρ.length
    · rw [List.getElem?_append_left q] at e1
      rw [List.getElem?_append_left (by rw [← R.len]; exact q)] at e2
      refine eEA (G.mem i y c' e1 e2) ?_; rintro o' h1 h2
      exact ⟨o', h1, h2.mono (fun _ _ e => e) (List.prefix_append _ _)⟩
    · have q1 := (List.getElem?_eq_some_iff.mp e1).1
      rw [List.length_append, List.length_singleton] at q1
      have : i = ρ.length := by lia
      subst this
      rw [List.getElem?_append_right (Nat.le_refl _), Nat.sub_self] at e1
      rw [R.len, List.getElem?_append_right (Nat.le_refl _), Nat.sub_self] at e2
      cases e1; cases e2
      exact ⟨o, Heap.get?_push_size _ hf, hc⟩
  · rcases List.mem_append.mp hc' with q | q
    · exact R.ok c' q
    · rw [List.mem_singleton.mp q]; exact ok
  · refine List.nodup_append.mpr ⟨R.nod, by simp, fun y hy z hz q => ?_⟩
    rw [List.mem_singleton.mp hz] at q
    exact nd (R.out y hy).2.2 (by rw [q]; exact dead_of_le (Nat.le_refl _))
  · rcases List.mem_append.mp hy with q | q
    · exact G.out y q
    · rw [List.mem_singleton.mp q]
      refine ⟨?_, fun q => nd (tb_lt R q) (dead_of_le (Nat.le_refl _)), ⟨o, Heap.get?_push_size _ hf⟩⟩
      cases z : hb.get? s.heap.objs.size with
      | none => rfl
      | some o' => exact absurd (Heap.lt_size (R.keep _ _ z)) (Nat.lt_irrefl _)
  · refine eEEAA R.fr ?_; rintro L m g1 g2 g3
    refine ⟨L, m, g1, g2.keeps hk, fun q => ?_⟩
    rcases List.mem_append.mp q with q | q
    · exact g3 q
    · exact absurd g2.lt (by rw [List.mem_singleton.mp q]; exact Nat.lt_irrefl _)
theorem Ext.cell {X : List Addr} {o : Obj} : Ext X hb ρ s hb (ρ ++ [s.heap.objs.size]) { s with heap := s.heap.push o } :=
  ⟨fun _ _ e => e, List.prefix_append _ _, fun _ _ e => .inl e, fun a h => (List.mem_append.mp h).imp id fun q => by rw [List.mem_singleton.mp q]; exact dead_of_le (Nat.le_refl _), fun b o' e _ _ _ => Heap.get?_push_of_some _ e, live_stays fun b o' e => Heap.get?_push_of_some _ e, fun _ _ e => e, rfl⟩
end
end
section
open PySem.Builtin
section
variable {w : World} {n : Nat} {env : Env} {σ σ1 σ2 σ3 : St} {pos : Pos} {hb hb' : Heap} {ρ ρ' t : List Addr} {s s' : Shared} {μ μ' ν M : List Cell} {a b c r r' : AV} {v : Value} {C : Addr} {fs : List (Str × AV)}
theorem close_up (R : RelM w hb ρ s μ) (X' : Ext [] hb ρ s hb' ρ' s') (R' : RelM w hb' ρ' s' M) (hv : VRel w hb' ρ' r v) (hcl : Closes w r M r' μ') (hlen : μ.length ≤ μ'.length) (hlen' : μ'.length ≤ M.length)
    (hbel : (∀ c ∈ μ, c.inb μ.length = true) → ∀ c ∈ μ', c.inb μ'.length = true) : ∃ hb'' ρ'', Ext [] hb ρ s hb'' ρ'' s' ∧ RelM w hb'' ρ'' s' μ' ∧ VRel w hb'' ρ'' r' v := by
  obtain ⟨t0, ht0⟩ := X'.pre
  have hl : μ'.length ≤ ρ'.length := by rw [R'.len]; exact hlen'
  have hsplit := List.take_append_drop μ'.length ρ'
  refine eEAA (hcl hb' (ρ'.take μ'.length) (ρ'.drop μ'.length) s' v (by rw [List.length_take]; lia) (hbel R.inb) (by rw [hsplit]; exact R') (by rw [hsplit]; exact hv)) ?_; rintro F f1 f2 f3
  have hpre : ρ <+: ρ'.take μ'.length := by
    rw [← ht0, show (ρ ++ t0).take μ'.length = ρ ++ t0.take (μ'.length - ρ.length) by rw [List.take_append, List.take_of_length_le (by rw [R.len]; exact hlen)]]
    exact List.prefix_append _ _
  have hold : ∀ a ∈ F, Dead s.heap a := fun a ha => (X'.freshR a (List.mem_of_mem_drop (f1 a ha))).elim (fun q => by
    have nd := R'.nod
    rw [← hsplit] at nd
    exact absurd rfl ((List.nodup_append.mp nd).2.2 a (hpre.subset q) a (f1 a ha))) id
  have X2 := X'.freeze R'.keep hold
  rw [← hsplit] at X2
  exact ⟨_, _, X2.drop hpre, f2, f3⟩
theorem drop_all (R : RelM w hb (ρ ++ t) s (μ' ++ ν)) (l : ρ.length = μ'.length) (hb' : ∀ c ∈ μ', c.inb μ'.length = true) :
    RelM w (addB hb s.heap t) ρ s μ' ∧ (∀ a ∈ t, ∀ o, s.heap.get? a = some o → (addB hb s.heap t).get? a = some o) ∧ hb.StaysIn (addB hb s.heap t) := by
  refine ⟨(R.drop l hb').freeze fun a ha => ⟨fun q => absurd rfl ((List.nodup_append.mp R.nod).2.2 a q a ha), (R.out a (List.mem_append_right _ ha)).2.1⟩, fun a ha o e => ?_, addB_base R.keep⟩
  rw [addB_get R.keep, if_pos ha]; exact e
theorem closes_drop (hr : r.inb μ'.length = true) : Closes w r (μ' ++ ν) r μ' := fun hb ρ t s v l hi R hv => by
  refine eAA (drop_all R l hi) ?_; rintro g1 g2 g3
  exact ⟨t, fun a h => h, g1, (hv.cut (by rw [l]; exact hr)).mono g3 List.prefix_rfl⟩
theorem closes_same (hr : r.inb μ'.length = true) : Closes w r μ' r μ' := by
  have := closes_drop (w := w) (ν := []) hr
  rwa [List.append_nil] at this
theorem mem_right {i : Nat} {x : Addr} (e : (ρ ++ t)[i]? = some x) (h : ρ.length ≤ i) : x ∈ t := by
  rw [List.getElem?_append_right h] at e; exact List.mem_of_getElem? e
set_option tactic.hygienic true in
theorem closes_list {i : Nat} {xs : List AV} (hi : μ'.length ≤ i) (e : (μ' ++ ν)[i]? = some (.lst xs)) : Closes w (.hnd i) (μ' ++ ν) (.lst xs) μ' := fun hb ρ t s v l hin R hv => by
  refine eAA (drop_all R l hin) ?_; rintro g1 g2 g3
  refine ⟨t, fun a h => h, g1, ?_⟩
  refine eEEAA (R.at e) ?_; rintro x o h1 h2 h3
  have hok := R.ok _ (List.mem_of_getElem? e)
  refine eEA (VRel.hnd_inv hv) ?_; rintro _ rfl _
  rename_i hx
  rw [h1] at hx; cases hx
  cases h3
  rename_i hvs
  exact .lst ⟨_, g2 _ (mem_right h1 (by rw [l]; exact hi)) _ h2⟩ ((hvs.pure hok).mono g3 List.prefix_rfl)
set_option tactic.hygienic true in
theorem inst_frozen {i d : Nat} (hi : μ'.length ≤ i) (hd : μ'.length ≤ d) (e : (μ' ++ ν)[i]? = some (.ins C d)) (ed : (μ' ++ ν)[d]? = some (.dct fs)) (l : ρ.length = μ'.length) (R : RelM w hb (ρ ++ t) s (μ' ++ ν)) (hv : VRel w hb (ρ ++ t) (.hnd i) v)
    (g2 : ∀ a ∈ t, ∀ o, s.heap.get? a = some o → (addB hb s.heap t).get? a = some o) : ∃ x dx es k, v = .ref x ∧ (addB hb s.heap t).get? x = some (instObj C dx) ∧ (addB hb s.heap t).get? dx = some (dictOf es k) ∧ FRels w hb (ρ ++ t) fs es := by
  refine eEEAA (R.at e) ?_; rintro x o h1 h2 h3
  refine eEEAA (R.at ed) ?_; rintro dx od j1 j2 j3
  refine eEA (VRel.hnd_inv hv) ?_; rintro _ rfl _
  rename_i hx
  rw [h1] at hx; cases hx
  cases h3
  rename_i hdx
  rw [j1] at hdx; cases hdx
  cases j3
  rename_i hf
  exact ⟨_, _, _, _, rfl, g2 _ (mem_right h1 (by rw [l]; exact hi)) _ h2, g2 _ (mem_right j1 (by rw [l]; exact hd)) _ j2, hf⟩
theorem closes_frac {i d : Nat} {p : Int} {q : Nat} (hi : μ'.length ≤ i) (hd : μ'.length ≤ d) (e : (μ' ++ ν)[i]? = some (.ins 194 d)) (ed : (μ' ++ ν)[d]? = some (.dct [("numerator", .int p), ("denominator", .int q)])) :
    Closes w (.hnd i) (μ' ++ ν) (.frac p q) μ' := fun hb ρ t s v l hin R hv => by
  refine eAA (drop_all R l hin) ?_; rintro g1 g2 g3
  refine eEEEEAAA (inst_frozen hi hd e ed l R hv g2) ?_; rintro x dx es k rfl h1 h2 h3
  refine ⟨t, fun a h => h, g1, ?_⟩
  refine eEEEEAA h3.inv2 ?_; rintro _ _ _ _ rfl hx hy
  obtain ⟨_, rfl⟩ := VRel.int_inv hx; obtain ⟨_, rfl⟩ := VRel.int_inv hy
  exact .frac h1 h2
theorem closes_msf {i d : Nat} {nm : Str} {par : AV} (hp : par.pure = true) (hi : μ'.length ≤ i) (hd : μ'.length ≤ d) (e : (μ' ++ ν)[i]? = some (.ins 252 d)) (ed : (μ' ++ ν)[d]? = some (.dct [("name", .str nm), ("param", par)])) :
    Closes w (.hnd i) (μ' ++ ν) (.msf nm par) μ' := fun hb ρ t s v l hin R hv => by
  refine eAA (drop_all R l hin) ?_; rintro g1 g2 g3
  refine eEEEEAAA (inst_frozen hi hd e ed l R hv g2) ?_; rintro x dx es k rfl h1 h2 h3
  refine ⟨t, fun a h => h, g1, ?_⟩
  refine eEEEEAA h3.inv2 ?_; rintro _ _ _ _ rfl hx hy
  obtain ⟨_, rfl⟩ := VRel.str_inv hx
  exact .msf h1 h2 ((hy.pure hp).mono g3 List.prefix_rfl)
set_option tactic.hygienic true in
theorem closes_voter {i d : Nat} {S : List Nat} {wt : Int} (hi : μ'.length ≤ i) (hd : μ'.length ≤ d) (e : (μ' ++ ν)[i]? = some (.ins 621 d)) (ed : (μ' ++ ν)[d]? = some (.dct [("approved", .set S), ("weight", .int wt)])) :
    Closes w (.hnd i) (μ' ++ ν) (.voter S wt) μ' := fun hb ρ t s v l hin R hv => by
  refine eAA (drop_all R l hin) ?_; rintro g1 g2 g3
  refine eEEEEAAA (inst_frozen hi hd e ed l R hv g2) ?_; rintro x dx es k rfl h1 h2 h3
  refine ⟨t, fun a h => h, g1, ?_⟩
  refine eEEEEAA h3.inv2 ?_; rintro _ _ _ _ rfl hx hy
  obtain ⟨_, rfl⟩ := VRel.int_inv hy; refine eEA (VRel.set_inv hx) ?_; rintro _ rfl _
  rename_i hS
  exact .voter h1 h2 (hS.keeps g3)
set_option tactic.hygienic true in
theorem closes_prof {i d j k : Nat} {vs us : List AV} (hi : μ'.length ≤ i) (hd : μ'.length ≤ d) (hj : μ'.length ≤ j) (e : (μ' ++ ν)[i]? = some (.ins 584 d)) (ed : (μ' ++ ν)[d]? = some (.dct [("candidates", .lst (natL (List.range k))), ("cand_names", .lst us), ("_voters", .hnd j)])) (ej : (μ' ++ ν)[j]? = some (.lst vs)) :
    Closes w (.hnd i) (μ' ++ ν) (.prof k vs) μ' := fun hb ρ t s v l hin R hv => by
  refine eAA (drop_all R l hin) ?_; rintro g1 g2 g3
  refine eEEEEAAA (inst_frozen hi hd e ed l R hv g2) ?_; rintro x dx es kk rfl h1 h2 h3
  refine ⟨t, fun a h => h, g1, ?_⟩
  refine eEEAA (R.at ej) ?_; rintro va ov j1 j2 j3
  have hok := R.ok _ (List.mem_of_getElem? ej)
  obtain ⟨_, _, _, _, _, _, rfl, hx, hy, hz⟩ := h3.inv3
  refine eEEAA (VRel.lst_inv hx) ?_; rintro _ _ rfl _ _; refine eEEAA (VRel.lst_inv hy) ?_; rintro _ _ rfl _ _; refine eEA (VRel.hnd_inv hz) ?_; rintro _ rfl _
  rename_i hva
  rw [j1] at hva; cases hva
  cases j3
  rename_i hvs
  rename_i hc hu _ _ _ _
  exact .prof h1 h2 (isList_keeps (by assumption) g3) (VRels_intsAre (by assumption)) ⟨_, g2 _ (mem_right j1 (by rw [l]; exact hj)) _ j2⟩ ((hvs.pure hok).mono g3 List.prefix_rfl)
theorem fc_make {fI : Addr} {as : List AV} {ks : List (Str × AV)} (hm : makesIn (Internal.hd.heap_1 w.params) C = true) (hi : findIn (Internal.hd.heap_1 w.params) (.ref C) "__init__" = some (some (.ref fI))) (hf : typeIn (Internal.hd.heap_1 w.params) (.ref fI) = some (.type "function"))
    (h : FC w n (.val (.ref fI)) (.hnd (μ.length + 1) :: as) ks ((μ ++ [.dct []]) ++ [.ins C μ.length]) .none M) (hcl : Closes w (.hnd (μ.length + 1)) M r' μ') (hlen : μ.length ≤ μ'.length) (hlen' : μ'.length ≤ M.length)
    (hbel : (∀ c ∈ μ, c.inb μ.length = true) → ∀ c ∈ μ', c.inb μ'.length = true) : FC w (n + 1) (.val (.ref C)) as ks μ r' μ' := fun A hb ρ s fv vs kvs Rr rm R hfv hvs hks k => by
  obtain rfl := VRel.val_inv hfv
  obtain ⟨hh, g, d, tt, os⟩ := s
  have R1 := R.cell (o := emptyDict) (c := .dct []) (.dct (k := 0) .nil) rfl
  have R2 := R1.cell (o := instObj C hh.objs.size) (c := .ins C μ.length) (.ins (by rw [← R.len]; simp)) rfl
  have X2 : Ext [] hb ρ ⟨hh, g, d, tt, os⟩ hb _ ⟨(hh.push emptyDict).push (instObj C hh.objs.size), g, d, tt, os⟩ := Ext.cell.trans Ext.cell
  have hsz : (hh.push emptyDict).objs.size = hh.objs.size + 1 := Heap.size_push ..
  have hx : ((ρ ++ [hh.objs.size]) ++ [(hh.push emptyDict).objs.size])[μ.length + 1]? = some (hh.objs.size + 1) := by
    rw [hsz, ← R.len]; simp
  refine make_core (makes_of R.X hm) (looks_findIn R.X hi) (fun self => bind_fn R.X self hf) (.inl rfl) ?_
  refine h _ _ _ _ _ _ _ _ rm.call R2 (.val _) (.cons (.hnd hx) (hvs.mono X2.base X2.pre)) (hks.mono X2.base X2.pre) fun hb' ρ' s' v X' R' hv => ?_
  obtain rfl := VRel.none_inv hv
  have hxx : VRel w hb' ρ' (.hnd (μ.length + 1)) (.ref (hh.objs.size + 1)) := .hnd (getElem?_pre X'.pre hx)
  refine eEEAA (close_up R (X2.trans X') R' hxx hcl hlen hlen' hbel) ?_; rintro hb'' ρ'' g1 g2 g3
  exact ⟨rfl, k _ _ _ _ g1 g2 g3⟩
end
end
structure Moved (P G : List Nat) (s s' : Shared) : Prop where
  keep : ∀ b o, s.heap.get? b = some o → b ∉ P → s'.heap.get? b = some o
  live : ∀ b, b ∉ P → Live s.heap b → Live s'.heap b
  gens : ∀ (i : Nat) (g : GenState), s.gens[i]? = some g → i ∉ G → s'.gens[i]? = some g
  bare : AllBare s.gens → AllBare s'.gens
  ns : ∀ L m, s.heap.Ns L m → ∃ m', s'.heap.Ns L m'
  os : s'.os = s.os
structure ExtG (X P G : List Nat) (hb : Heap) (ρ : List Addr) (s : Shared) (hb' : Heap) (ρ' : List Addr) (s' : Shared) : Prop where
  base : hb.StaysIn hb'
  pre : ρ <+: ρ'
  fresh : ∀ b o, hb'.get? b = some o → hb.get? b = some o ∨ Dead s.heap b
  freshR : ∀ a ∈ ρ', a ∈ ρ ∨ Dead s.heap a
  keep : ∀ b o, s.heap.get? b = some o → b ∉ X → b ∉ P → b ∉ ρ → b ∉ TB → s'.heap.get? b = some o
  live : ∀ b, b ∉ P → Live s.heap b → Live s'.heap b
  gens : ∀ (i : Nat) (g : GenState), s.gens[i]? = some g → i ∉ G → s'.gens[i]? = some g
  os : s'.os = s.os
section
variable {w : World} {n : Nat} {env : Env} {σ σ1 σ2 σ3 : St} {pos : Pos} {hb hb' hb1 hb2 : Heap} {ρ ρ' ρ1 ρ2 : List Addr} {s s' s1 s2 : Shared} {μ μ' : List Cell} {a b c : AV} {X P G : List Nat}
theorem ExtG.back (x : ExtG X P G hb ρ s hb1 ρ1 s1) (hl : ∀ b ∈ P, Live s1.heap b) {b : Addr} (d : Dead s1.heap b) : Dead s.heap b := by
  cases q : s.heap.get? b with
  | none => exact q
  | some o =>
    by_cases z : b ∈ P
    · exact (nd (hl b z) d).elim
    · exact (nd (x.live b z ⟨o, q⟩) d).elim
theorem ExtG.trans (x : ExtG X P G hb ρ s hb1 ρ1 s1) (y : ExtG X P G hb1 ρ1 s1 hb2 ρ2 s2) (hl : ∀ b ∈ P, Live s1.heap b) : ExtG X P G hb ρ s hb2 ρ2 s2 where
  base := fun b o e => y.base b o (x.base b o e)
  pre := x.pre.trans y.pre
  fresh := fun b o e => (y.fresh b o e).elim (fun e => x.fresh b o e) fun l => .inr (x.back hl l)
  freshR := fun a h => (y.freshR a h).elim (fun h => x.freshR a h) fun l => .inr (x.back hl l)
  keep := fun b o e h1 hp h2 h3 => y.keep b o (x.keep b o e h1 hp h2 h3) h1 hp (fun q => (x.freshR b q).elim h2 fun l => nd' e l) h3
  live := fun b z h => y.live b z (x.live b z h)
  gens := fun i g e h => y.gens i g (x.gens i g e h) h
  os := y.os.trans x.os
theorem Ext.g (x : Ext X hb ρ s hb' ρ' s') : ExtG X P G hb ρ s hb' ρ' s' :=
  ⟨x.base, x.pre, x.fresh, x.freshR, fun b o e h1 _ h2 h3 => x.keep b o e h1 h2 h3, fun b _ h => x.live b h, fun i g e _ => x.gens i g e, x.os⟩
theorem Moved.g (M : Moved P G s s') : ExtG X P G hb ρ s hb ρ s' :=
  ⟨fun _ _ e => e, List.prefix_rfl, fun _ _ e => .inl e, fun _ h => .inl h, fun b o e _ hp _ _ => M.keep b o e hp, M.live, M.gens, M.os⟩
theorem ExtG.close (x : Ext X hb ρ s hb1 ρ1 s1) (y : ExtG X P G hb1 ρ1 s1 hb2 ρ2 s2) (hP : ∀ b ∈ P, Dead s.heap b) (hG : ∀ g ∈ G, s.gens[g]? = none) : Ext X hb ρ s hb2 ρ2 s2 where
  base := fun b o e => y.base b o (x.base b o e)
  pre := x.pre.trans y.pre
  fresh := fun b o e => (y.fresh b o e).elim (fun e => x.fresh b o e) fun l => .inr (dead_back x.live l)
  freshR := fun a h => (y.freshR a h).elim (fun h => x.freshR a h) fun l => .inr (dead_back x.live l)
  keep := fun b o e h1 h2 h3 => y.keep b o (x.keep b o e h1 h2 h3) h1 (fun q => nd' e (hP b q)) (fun q => (x.freshR b q).elim h2 fun l => nd' e l) h3
  live := fun b h => y.live b (fun q => nd h (hP b q)) (x.live b h)
  gens := fun i g e => y.gens i g (x.gens i g e) fun q => by rw [hG i q] at e; cases e
  os := y.os.trans x.os
theorem RelM.moved (R : RelM w hb ρ s μ) (M : Moved P G s s') (hP : ∀ b ∈ P, hb.get? b = none ∧ b ∉ ρ ∧ b ∉ TB) : RelM w hb ρ s' μ where
  top := R.top
  keep := fun b o e => M.keep b o (R.keep b o e) fun q => by rw [(hP b q).1] at e; cases e
  tabs := fun T hT => let ⟨⟨ps, e⟩, q⟩ := R.tabs T hT; ⟨⟨ps, M.keep _ _ e fun z => (hP T z).2.2 hT⟩, q⟩
  bare := M.bare R.bare
  len := R.len
  mem := fun n a xs e1 e2 => eEA (R.mem n a xs e1 e2) fun oo g1 g2 => ⟨oo, M.keep _ _ g1 fun z => (hP a z).2.1 (List.mem_of_getElem? e1), g2⟩
  ok := R.ok
  nod := R.nod
  out := fun a ha => eAA (R.out a ha) fun g1 g2 g3 => ⟨g1, g2, M.live a (fun q => (hP a q).2.1 ha) g3⟩
  fr := eEEAA R.fr fun L m g1 g2 g3 => let ⟨m', g2'⟩ := M.ns L m g2; ⟨L, m', g1, g2', g3⟩
theorem RelE.moved (R : RelE w hb ρ env s σ) (M : Moved P G s s') (hP : ∀ b ∈ P, hb.get? b = none ∧ b ∉ ρ ∧ b ∉ TB) (hE : ∀ b ∈ P, b ∉ fp env) : RelE w hb ρ env s' σ where
  m := R.m.moved M hP
  loc := eEA R.loc fun mp a b => ⟨mp, ns_of a fun o e => M.keep _ o e fun q => hE _ q (List.mem_cons_self ..), b⟩
  cel := fun x c e => eEA (R.cel x c e) fun r a b => ⟨r, isCell_of a fun o e' => M.keep _ o e' fun q => hE _ q (List.mem_cons_of_mem _ (lookup_snd e)), b⟩
  celD := R.celD
  nod := R.nod
  far := R.far
  out := fun a ha => eAAA (R.out a ha) fun g1 g2 g3 g4 => ⟨g1, g2, g3, M.live a (fun q => hE a q ha) g4⟩
structure ItAt (w : World) (n : Nat) (tg : Expr) (C : List Cell → Prop) (hb0 : Heap) (ρ0 : List Addr) (P G : List Nat) (it : Value) (xs : List AV) (ob : Nat → Shared → Prop) : Prop where
  stable : ∀ i s s', ob i s → (∀ b o, b ∈ P → s.heap.get? b = some o → s'.heap.get? b = some o) → (∀ (j : Nat) (g : GenState), j ∈ G → s.gens[j]? = some g → s'.gens[j]? = some g) → ob i s'
  next : ∀ (A : Around) (hb : Heap) (ρ : List Addr) (s : Shared) (μ : List Cell) (i : Nat) (Q : Option Value → Shared → Prop) (E : Value → Shared → Prop), Room n A → hb0.StaysIn hb → ρ0 <+: ρ → RelM w hb ρ s μ → C μ → ob i s →
    (∀ x, xs[i]? = some x → ∀ s' v, Moved P G s s' → (∀ b ∈ P, Live s'.heap b) → ob (i + 1) s' → VRel w hb ρ x v → (∀ (A' : Around) (Q' : Unit → Shared → Prop) (E' : Value → Shared → Prop), (∀ s'', Moved P G s' s'' → (∀ b ∈ P, Live s''.heap b) → ob (i + 1) s'' → Q' () s'') → wpAny (model PRG w) A' (letOwnedTupleGo tg it v) Q' E' s') → Q (some v) s') →
    (xs[i]? = none → ∀ s', Moved P G s s' → Q none s') → wpAny (model PRG w) A (pyNext it) Q E s
  self : ∀ (A : Around) (i : Nat) (s : Shared) (Q E : Value → Shared → Prop), ob i s → Q it s → wpAny (model PRG w) A (pyIter it) Q E s
noncomputable def IterX (w : World) (n : Nat) (tg : Expr) (a : AV) (μ : List Cell) (Y : List AV → Prop) (C : List AV → List Cell → Prop) : Prop :=
  ∀ (A : Around) (hb : Heap) (ρ : List Addr) (s : Shared) (v : Value) (Q E : Value → Shared → Prop), Room n A → RelM w hb ρ s μ → VRel w hb ρ a v →
    (∀ ys it P G ob s', Y ys → Ext [] hb ρ s hb ρ s' → RelM w hb ρ s' μ → ItAt w n tg (C ys) hb ρ P G it ys ob → ob 0 s' → (∀ b ∈ P, Dead s.heap b ∧ Live s'.heap b) → (∀ g ∈ G, s.gens[g]? = none ∧ g < s'.gens.size) → Q it s') → wpAny (model PRG w) A (pyIter v) Q E s
abbrev IterOf (w : World) (n : Nat) (tg : Expr) (a : AV) (μ : List Cell) (xs : List AV) (C : List Cell → Prop) : Prop := IterX w n tg a μ (· = xs) (fun _ => C)
noncomputable def TGT (w : World) (env : Env) (tg : Expr) (y : AV) (σ σ' : St) : Prop :=
  ∀ (A : Around) (hb : Heap) (ρ : List Addr) (s : Shared) (v : Value) (Q : Unit → Shared → Prop) (E : Value → Shared → Prop), A.handled = none → RelE w hb ρ env s σ → VRel w hb ρ y v →
    (∀ s', Ext (fp env) hb ρ s hb ρ s' → RelE w hb ρ env s' σ' → Q () s') → wpAny (model PRG w) A (assign tg env v) Q E s
theorem tgt_local {x : Str} {p : Pos} {y : AV} (hl : autoParam (env.kindOf x = some .local) auR) (hp : autoParam ((env.scope.kind == .class || (env.scope.kind == .module && env.locals != env.globals)) = false) auR) : TGT w env (.Name x p) y σ (σ.put x y) := fun A hb ρ s v Q E _ R hv k =>
  wpAny_assign_Name (store_local R hv hl hp k)
theorem disjoint (R : RelE w hb1 ρ1 env s1 σ1) (X1 : ExtG (fp env) P G hb1 ρ1 s1 hb ρ s) (h0 : ∀ b ∈ P, hb1.get? b = none ∧ b ∉ ρ1 ∧ b ∉ TB ∧ Live s1.heap b) : ∀ b ∈ P, hb.get? b = none ∧ b ∉ ρ ∧ b ∉ TB := fun b hb' => by
  refine eAAA (h0 b hb') ?_; rintro g1 g2 g3 g4
  refine ⟨?_, fun q => (X1.freshR b q).elim g2 fun l => (nd g4 l).elim, g3⟩
  cases z : hb.get? b with
  | none => rfl
  | some o => exact (X1.fresh b o z).elim (fun e => by rw [g1] at e; cases e) fun l => (nd g4 l).elim
theorem ssx_forX {tg iterE : Expr} {body : List Stmt} {α : Type} {mk : List AV → Nat → α → St} {Inv : List AV → Nat → α → Prop} {Y : List AV → Prop} {C : List AV → List Cell → Prop} (h : SE w n env iterE σ a σ1) (hi : IterX w n tg a σ1.mem Y C) (p0 : List AV → α) (h0 : ∀ ys, Y ys → Inv ys 0 (p0 ys)) (hle : ∀ ys, Y ys → (mk ys 0 (p0 ys)).le σ1) (hC : ∀ xs i p, Y xs → Inv xs i p → C xs (mk xs i p).mem)
    (step : ∀ xs i p y, Y xs → xs[i]? = some y → Inv xs i p → ∃ σ2, TGT w env tg y (mk xs i p) σ2 ∧ SXX w n env body σ2 fun σ' af => af = .next ∧ ∃ p', Inv xs (i + 1) p' ∧ (mk xs (i + 1) p').le σ')
    (hs : autoParam (∀ x, foldedSetIterable iterE env x = pure x) auI) : SSX w n env (.For tg iterE body [] pos) σ fun σ' af => af = .next ∧ ∃ xs p, Y xs ∧ Inv xs xs.length p ∧ σ' = mk xs xs.length p := fun A hb ρ s Q E rm R k => by
  refine wpAny_For (h _ _ _ _ _ _ rm R fun hb1 ρ1 s1 v X1 R1 h1 => ?_) hs
  refine hi _ _ _ _ _ _ _ rm R1.m h1 fun xs it P G ob s2 hY X2 M2 It o2 hP hG => ?_
  have R2 : RelE w hb1 ρ1 env s2 σ1 := R1.step X2 M2
  have d0 : ∀ b ∈ P, hb1.get? b = none ∧ b ∉ ρ1 ∧ b ∉ TB ∧ Live s2.heap b ∧ b ∉ fp env := fun b hb' => by
    obtain ⟨g1, g2⟩ := hP b hb'
    refine ⟨?_, fun q => nd (R1.m.out b q).2.2 g1, fun q => nd (tb_lt R1.m q) g1, g2, fun q => nd (R1.out b q).2.2.2 g1⟩
    cases z : hb1.get? b with
    | none => rfl
    | some o => exact (nd' (R1.m.keep b o z) g1).elim
  refine codeAny_forLoop_any (I := fun m s => ∃ i hb ρ p, m = xs.length - i ∧ i ≤ xs.length ∧ Inv xs i p ∧ RelE w hb ρ env s (mk xs i p) ∧ ob i s ∧ (∀ b ∈ P, Live s.heap b) ∧ ExtG (fp env) P G hb1 ρ1 s2 hb ρ s) (fun m s3 hI => ?_) xs.length
    ⟨0, hb1, ρ1, p0 xs, by simp, Nat.zero_le _, h0 xs hY, R2.le (hle xs hY), o2, fun b q => (hP b q).2, (Ext.refl (X := fp env)).g⟩
  obtain ⟨i, hb3, ρ3, p, rfl, hi', hInv, R3, o3, L3, X3⟩ := hI
  have d3 := disjoint R2 X3 fun b hb' => ⟨(d0 b hb').1, (d0 b hb').2.1, (d0 b hb').2.2.1, (d0 b hb').2.2.2.1⟩
  refine It.next _ _ _ _ _ i _ _ rm X3.base X3.pre R3.m (hC xs i p hY hInv) o3 (fun x hx s4 v M4 L4 o4 hv hgo => ?_) fun hx s4 M4 => ?_
  · refine eEA (step xs i p x hY hx hInv) ?_; rintro σ2 ht hb
    have R4 := R3.moved M4 d3 fun b q => (d0 b q).2.2.2.2
    refine hgo _ _ _ fun s4' M4' L4' o4' => ?_
    have R4' := R4.moved M4' d3 fun b q => (d0 b q).2.2.2.2
    refine ht _ _ _ _ _ _ _ rm.1 R4' hv fun s5 X5 R5 => ?_
    refine hb _ _ _ _ _ _ rm R5 fun hb6 ρ6 s6 f σ6 X6 R6 hf => ?_
    refine eEA hf ?_; clear hf; rintro af ⟨rfl, p', hp', hl'⟩ hf
    cases hf
    have hlt := (List.getElem?_eq_some_iff.mp hx).1
    have X45 := X5.trans X6
    have o6 : ob (i + 1) s6 := It.stable _ _ _ o4' (fun b o hbP e => X45.keep b o e (d0 b hbP).2.2.2.2 (d3 b hbP).2.1 (d3 b hbP).2.2) fun j g _ e => X45.gens j g e
    exact ⟨xs.length - (i + 1), by omega, i + 1, hb6, ρ6, p', rfl, hlt, hp', R6.le hl', o6, fun b q => X45.live b (L4' b q), ((X3.trans (Moved.g M4) L3).trans (Moved.g M4') L4).trans X45.g L4'⟩
  · have hge : xs.length ≤ i := List.getElem?_eq_none_iff.mp hx
    have : i = xs.length := Nat.le_antisymm hi' hge
    subst this
    have R4 := R3.moved M4 d3 fun b q => (d0 b q).2.2.2.2
    refine wpAny_execs_nil ?_
    have XX := ExtG.close (X1.trans (X2.weaken fun _ q => nomatch q)) (X3.trans (Moved.g M4) L3) (fun b q => dead_back X1.live (hP b q).1) (fun g q => ?_)
    · exact k _ _ _ _ _ XX R4 ⟨_, ⟨rfl, xs, p, hY, hInv, rfl⟩, .next⟩
    · cases z : s.gens[g]? with
      | none => rfl
      | some gs => have := X1.gens g gs z; rw [(hG g q).1] at this; cases this
theorem ssx_for {tg iterE : Expr} {body : List Stmt} {α : Type} {mk : Nat → α → St} {Inv : Nat → α → Prop} {xs : List AV} {C : List Cell → Prop} (h : SE w n env iterE σ a σ1) (hi : IterOf w n tg a σ1.mem xs C) (p0 : α) (h0 : Inv 0 p0) (hle : (mk 0 p0).le σ1) (hC : ∀ i p, Inv i p → C (mk i p).mem)
    (step : ∀ i p y, xs[i]? = some y → Inv i p → ∃ σ2, TGT w env tg y (mk i p) σ2 ∧ SXX w n env body σ2 fun σ' af => af = .next ∧ ∃ p', Inv (i + 1) p' ∧ (mk (i + 1) p').le σ')
    (hs : autoParam (∀ x, foldedSetIterable iterE env x = pure x) auI) : SSX w n env (.For tg iterE body [] pos) σ fun σ' af => af = .next ∧ ∃ p, Inv xs.length p ∧ σ' = mk xs.length p :=
  (ssx_forX (mk := fun _ => mk) (Inv := fun _ => Inv) h hi (fun _ => p0) (fun _ _ => h0) (fun _ _ => hle) (fun _ i p _ => hC i p) (fun ys i p y e => by subst e; exact step i p y) hs).mono fun _ _ _ _ ⟨af, ⟨h1, ys, p, e, h2, h3⟩, h4⟩ => ⟨af, ⟨h1, p, e ▸ h2, e ▸ h3⟩, h4⟩
end
section
variable {w : World} {n : Nat} {env : Env} {σ σ1 σ2 σ3 : St} {pos : Pos} {hb hb' hb1 hb2 : Heap} {ρ ρ' ρ1 ρ2 : List Addr} {s s' s1 s2 : Shared} {μ μ' : List Cell} {a b c : AV}
set_option tactic.hygienic true in
theorem ssx_while {α : Type} {test : Expr} {body : List Stmt} {mk : α → St} {Inv : α → Prop} {meas : α → Nat} {P : St → Prop} (p0 : α) (h0 : Inv p0) (hle : (mk p0).le σ)
    (step : ∀ p, Inv p → ∃ bb σ1, SB w n env test (mk p) bb σ1 ∧ (bb = true → SXX w n env body σ1 fun σ' af => af = .next ∧ ∃ p', Inv p' ∧ meas p' < meas p ∧ (mk p').le σ') ∧ (bb = false → P σ1)) :
    SSX w n env (.While test body [] pos) σ fun σ' af => af = .next ∧ P σ' := fun A hb ρ s Q E rm R k => by
  refine wpAny_While ?_
  refine codeAny_whileLoop (I := fun m s' => ∃ hb' ρ' p, meas p = m ∧ Inv p ∧ RelE w hb' ρ' env s' (mk p) ∧ Ext (fp env) hb ρ s hb' ρ' s') (fun m s1 hI => ?_) (meas p0) ⟨hb, ρ, p0, rfl, h0, R.le hle, .refl⟩
  refine eEEEAAA hI ?_; clear hI; rintro hb1 ρ1 p hm hp R1 X1
  refine eEEAA (step p hp) ?_; rintro bb σ1 hsb ht hf
  refine hsb _ _ _ _ _ _ rm R1 fun hb2 ρ2 s2 c X2 R2 hc => ?_
  subst hc
  split
  · rename_i q
    refine ht q _ _ _ _ _ _ rm R2 fun hb3 ρ3 s3 f σ3 X3 R3 hf' => ?_
    refine eEA hf' ?_; clear hf'; rintro af ⟨rfl, p', i1, i2, i3⟩ hf'
    cases hf'
    exact ⟨meas p', hm ▸ i2, hb3, ρ3, p', rfl, i1, R3.le i3, (X1.trans X2).trans X3⟩
  · rename_i q
    exact wpAny_execs_nil (k _ _ _ _ _ (X1.trans X2) R2 ⟨_, ⟨rfl, hf (by simpa using q)⟩, .next⟩)
theorem loadName_local {x : Str} {av : AV} (hl : σ.loc.lookup x = some av) (hk : env.scope.kind = .function) (hx : env.kindOf x = some .local) : TE w n env (loadName env x) σ (fun hb ρ v => VRel w hb ρ av v) σ := fun A hb ρ s Q E rm r k => by
  refine eEA r.loc ?_; rintro mp hn hv
  refine eEA (hv x av hl) ?_; rintro v h1 h2
  exact wpAny_loadName_local hk hx hn h1 (k hb ρ s v .refl r h2)
theorem ss_aug {x : Str} {p : Pos} {op : Operator} {e : Expr} {a b c : AV} {μ' : List Cell} (hl : σ.loc.lookup x = some a) (h : SE w n env e σ b σ1) (ho : O2 w n (inplaceOp op) a b σ1.mem (fun hb ρ v => VRel w hb ρ c v) μ')
    (hx : autoParam (env.kindOf x = some .local) auR) (hk : autoParam (env.scope.kind = .function) auR) (hp : autoParam ((env.scope.kind == .class || (env.scope.kind == .module && env.locals != env.globals)) = false) auR) :
    SS w n env (.AugAssign (.Name x p) op e pos) σ .next (St.put { σ1 with mem := μ' } x c) := fun A hb ρ s Q E rm R k =>
  wpAny_AugAssign_Name (loadName_local hl hk hx _ _ _ _ _ _ rm R fun _ _ _ _ X1 R1 h1 => h _ _ _ _ _ _ rm R1 fun _ _ _ _ X2 R2 h2 =>
    TE.of_O2 ho rm R2 (h1.mono X2.base X2.pre) h2 fun _ _ _ _ X3 R3 h3 => store_local R3 h3 hx hp fun _ X4 R4 => k _ _ _ _ (((X1.trans X2).trans X3).trans X4) R4 .next)
theorem ns_ne_cell {h : Heap} {L c : Addr} {m : Str → Option Value} {r : Option Value} (x : h.Ns L m) (y : h.IsCell c r) : L ≠ c := by
  rintro rfl
  refine eEEEAA x ?_; clear x; rintro o es ep e1 e2 _
  refine eEA y ?_; clear y; rintro o' e1' e2'
  rw [e1] at e1'; cases e1'
  rw [e2] at e2'; cases e2'
theorem store_cell {x : Str} {a : AV} {v : Value} {A : Around} {Q : Unit → Shared → Prop} {E : Value → Shared → Prop} (R : RelE w hb ρ env s σ) (hv : VRel w hb ρ a v) (hk : env.scope.kind = .function) (hl : env.kindOf x = some .cell) {cx : Addr} (hc : env.cells.lookup x = some cx)
    (hinj : ∀ y c, env.cells.lookup y = some c → c = cx → y = x) (k : ∀ s', Ext (fp env) hb ρ s hb ρ s' → RelE w hb ρ env s' (σ.putC x a) → Q () s') : wpAny (model PRG w) A (storeName env x v) Q E s := by
  refine eEA (R.cel x cx hc) ?_; rintro r hr _
  have hm : cx ∈ fp env := List.mem_cons_of_mem _ (lookup_snd hc)
  have hL := R.out cx hm
  refine wpAny_storeName_cell hk hl hc hr (fun h' hn' hs => k _ ?_ ?_)
  · exact ⟨fun _ _ e => e, List.prefix_rfl, fun _ _ e => .inl e, fun _ h => .inl h, fun b o e h1 _ _ => (hs.2 b fun q => h1 (q ▸ hm)).trans e, live_same hs (live_cell hn'), fun _ _ e => e, rfl⟩
  · refine eEA R.loc ?_; rintro mp hn hmp
    refine ⟨⟨R.m.top, fun b o e => (hs.2 b fun q => by rw [q, hL.1] at e; cases e).trans (R.m.keep b o e), fun P hP => ?_, R.m.bare, R.m.len, fun i c xs e1 e2 => ?_, R.m.ok, R.m.nod, fun c hc => ?_, ?_⟩, ⟨mp, hn.sameBut hs (ns_ne_cell hn hr), hmp⟩, fun y c e => ?_, fun y av e => ?_, R.nod, fun c hc => ?_, R.far⟩
    · obtain ⟨⟨ps, e⟩, q⟩ := R.m.tabs P hP
      exact ⟨⟨ps, (hs.2 P fun z => hL.2.2.1 (z ▸ hP)).trans e⟩, q⟩
    · refine eEA (R.m.mem i c xs e1 e2) ?_; rintro oo g1 g2
      exact ⟨oo, (hs.2 c fun z => hL.2.1 (z ▸ List.mem_of_getElem? e1)).trans g1, g2⟩
    · refine eAA (R.m.out c hc) ?_; rintro g1 g2 g3
      exact ⟨g1, g2, live_same hs (live_cell hn') _ g3⟩
    · refine eEEAA R.m.fr ?_; rintro L m0 g1 g2 g3
      exact ⟨L, m0, g1, g2.sameBut hs (ns_ne_cell g2 hr), g3⟩
    · by_cases q : c = cx
      · subst q
        refine ⟨some v, hn', fun av e' => ?_⟩
        rw [hinj y c e rfl] at e'
        have : ((x, a) :: σ.cel).lookup x = some av := e'
        simp at this
        exact ⟨v, rfl, this ▸ hv⟩
      · refine eEA (R.cel y c e) ?_; rintro r' hc' hr'
        refine ⟨r', hc'.sameBut hs q, fun av e' => ?_⟩
        rcases lookup_cons_some e' with ⟨g1, g2⟩ | ⟨g1, g2⟩
        · subst g1; rw [hc] at e; cases e; exact absurd rfl q
        · exact hr' av g2
    · rcases lookup_cons_some e with ⟨g1, g2⟩ | ⟨g1, g2⟩
      · exact ⟨cx, g1 ▸ hc⟩
      · exact R.celD y av g2
    · refine eAAA (R.out c hc) ?_; rintro g1 g2 g3 g4
      exact ⟨g1, g2, g3, live_same hs (live_cell hn') _ g4⟩
variable {i j : Int}
abbrev OI (w : World) (n : Nat) (t : Value → Value → Sem Value) (a b : AV) (μ : List Cell) (c : AV) : Prop := O2 w n t a b μ (fun hb ρ v => VRel w hb ρ c v) μ
theorem o_add : OI w n (binaryOp .Add) (.int i) (.int j) μ (.int (i + j)) := fun A hb ρ s v u Q E rm R hv hu k => by
  obtain ⟨_, rfl⟩ := VRel.int_inv hv; obtain ⟨_, rfl⟩ := VRel.int_inv hu; exact PyProof.Rows.add_int (k _ _ _ _ (Ext.toks _) (R.toks _) (.int _ _))
theorem o_sub : OI w n (binaryOp .Sub) (.int i) (.int j) μ (.int (i - j)) := fun A hb ρ s v u Q E rm R hv hu k => by
  obtain ⟨_, rfl⟩ := VRel.int_inv hv; obtain ⟨_, rfl⟩ := VRel.int_inv hu; exact PyProof.Rows.sub_int (k _ _ _ _ (Ext.toks _) (R.toks _) (.int _ _))
theorem o_mul (h : IntMulOk i j) : OI w n (binaryOp .Mult) (.int i) (.int j) μ (.int (i * j)) := fun A hb ρ s v u Q E rm R hv hu k => by
  obtain ⟨_, rfl⟩ := VRel.int_inv hv; obtain ⟨_, rfl⟩ := VRel.int_inv hu; exact PyProof.Rows.mul_int (k _ _ _ _ (Ext.toks _) (R.toks _) (.int _ _)) h
theorem o_fdiv (h0 : j ≠ 0) (h : j.natAbs < 1073741824) : OI w n (binaryOp .FloorDiv) (.int i) (.int j) μ (.int (i.fdiv j)) := fun A hb ρ s v u Q E rm R hv hu k => by
  obtain ⟨_, rfl⟩ := VRel.int_inv hv; obtain ⟨_, rfl⟩ := VRel.int_inv hu; exact PyProof.Rows.floordiv_int h0 (k _ _ _ _ (Ext.toks _) (R.toks _) (.int _ _)) (.inl (PyProof.noPylong_small h))
theorem o_mod (h0 : j ≠ 0) : OI w n (binaryOp .Mod) (.int i) (.int j) μ (.int (i.fmod j)) := fun A hb ρ s v u Q E rm R hv hu k => by
  obtain ⟨_, rfl⟩ := VRel.int_inv hv; obtain ⟨_, rfl⟩ := VRel.int_inv hu; exact PyProof.Rows.mod_int' h0 (k _ _ _ _ (Ext.toks _) (R.toks _) (.int _ _))
theorem o_and : OI w n (binaryOp .BitAnd) (.int i) (.int j) μ (.int (Builtin.bitAnd i j)) := fun A hb ρ s v u Q E rm R hv hu k => by
  obtain ⟨_, rfl⟩ := VRel.int_inv hv; obtain ⟨_, rfl⟩ := VRel.int_inv hu; exact PyProof.Rows.and_int (k _ _ _ _ (Ext.toks _) (R.toks _) (.int _ _))
theorem o_iadd : OI w n (inplaceOp .Add) (.int i) (.int j) μ (.int (i + j)) := fun A hb ρ s v u Q E rm R hv hu k => by
  obtain ⟨_, rfl⟩ := VRel.int_inv hv; obtain ⟨_, rfl⟩ := VRel.int_inv hu; exact wpAny_iadd_int (k _ _ _ _ (Ext.toks _) (R.toks _) (.int _ _))
theorem o_neg : O1 w n (unaryOp .USub) (.int i) μ (fun hb ρ v => VRel w hb ρ (.int (-i)) v) μ := fun A hb ρ s v Q E rm R hv k => by
  obtain ⟨_, rfl⟩ := VRel.int_inv hv; exact PyProof.Rows.neg_int (k _ _ _ _ (Ext.toks _) (R.toks _) (.int _ _))
theorem o_lt : OI w n (compareOp .Lt) (.int i) (.int j) μ (.bool (decide (i < j))) := fun A hb ρ s v u Q E rm R hv hu k => by
  obtain ⟨_, rfl⟩ := VRel.int_inv hv; obtain ⟨_, rfl⟩ := VRel.int_inv hu; exact PyProof.Rows.lt_int (k _ _ _ _ .refl R (.bool _))
theorem o_le : OI w n (compareOp .LtE) (.int i) (.int j) μ (.bool (decide (i ≤ j))) := fun A hb ρ s v u Q E rm R hv hu k => by
  obtain ⟨_, rfl⟩ := VRel.int_inv hv; obtain ⟨_, rfl⟩ := VRel.int_inv hu; exact PyProof.Rows.le_int (k _ _ _ _ .refl R (.bool _))
theorem o_gt : OI w n (compareOp .Gt) (.int i) (.int j) μ (.bool (decide (j < i))) := fun A hb ρ s v u Q E rm R hv hu k => by
  obtain ⟨_, rfl⟩ := VRel.int_inv hv; obtain ⟨_, rfl⟩ := VRel.int_inv hu; exact PyProof.Rows.gt_int (k _ _ _ _ .refl R (.bool _))
theorem o_ge : OI w n (compareOp .GtE) (.int i) (.int j) μ (.bool (decide (j ≤ i))) := fun A hb ρ s v u Q E rm R hv hu k => by
  obtain ⟨_, rfl⟩ := VRel.int_inv hv; obtain ⟨_, rfl⟩ := VRel.int_inv hu; exact PyProof.Rows.ge_int (k _ _ _ _ .refl R (.bool _))
theorem o_eq : OI w n (compareOp .Eq) (.int i) (.int j) μ (.bool (i == j)) := fun A hb ρ s v u Q E rm R hv hu k => by
  obtain ⟨_, rfl⟩ := VRel.int_inv hv; obtain ⟨_, rfl⟩ := VRel.int_inv hu; exact PyProof.Rows.eq_int (k _ _ _ _ .refl R (.bool _))
theorem o_ne : OI w n (compareOp .NotEq) (.int i) (.int j) μ (.bool (i != j)) := fun A hb ρ s v u Q E rm R hv hu k => by
  obtain ⟨_, rfl⟩ := VRel.int_inv hv; obtain ⟨_, rfl⟩ := VRel.int_inv hu; exact PyProof.Rows.ne_int (k _ _ _ _ .refl R (.bool _))
theorem t_int : O1 w n truthy (.int i) μ (fun _ _ c => c = (i != 0)) μ := fun A hb ρ s v Q E rm R hv k => by
  obtain ⟨_, rfl⟩ := VRel.int_inv hv; exact truthy_int (k _ _ _ _ .refl R rfl)
theorem t_bool {b : Bool} : O1 w n truthy (.bool b) μ (fun _ _ c => c = b) μ := fun A hb ρ s v Q E rm R hv k => by
  obtain rfl := VRel.bool_inv hv; exact wpAny_truthy_bool (k _ _ _ _ .refl R rfl)
theorem t_none : O1 w n truthy .none μ (fun _ _ c => c = false) μ := fun A hb ρ s v Q E rm R hv k => by
  obtain rfl := VRel.none_inv hv; exact wpAny_pure (k _ _ _ _ .refl R rfl)
theorem ext_new {X : List Addr} {h' : Heap} (hs : Heap.ExtBut s.heap.objs.size s.heap h') : Ext X hb ρ s hb ρ { s with heap := h' } :=
  Ext.plain (fun b o e _ => hs b o (Nat.ne_of_lt (Heap.lt_size e)) e) (live_stays fun b o e => hs b o (Nat.ne_of_lt (Heap.lt_size e)) e) rfl rfl
theorem RelE.grown {h' : Heap} (R : RelE w hb ρ env s σ) (hs : Heap.ExtBut s.heap.objs.size s.heap h') : RelE w hb ρ env { s with heap := h' } σ :=
  R.step (ext_new hs) (R.m.grow (fun b o e => hs b o (Nat.ne_of_lt (Heap.lt_size e)) e) rfl)
set_option tactic.hygienic true in
theorem ss_swap {elts : List Expr} {kk : Nat} {tpos : Pos} {e : Expr} {x y : Str} {a b : AV} (h : SE w n env e σ (.tup [a, b]) σ1) (hx : autoParam (env.kindOf x = some .local) auR) (hy : autoParam (env.kindOf y = some .local) auR)
    (hp : autoParam ((env.scope.kind == .class || (env.scope.kind == .module && env.locals != env.globals)) = false) auR)
    (hs : autoParam (swapsWithSole [.Tuple elts kk tpos] e pos.line env = pure false) auR) (hw : autoParam (swappedStores [.Tuple elts kk tpos] e env = pure (some [x, y])) auR) : SS w n env (.Assign [.Tuple elts kk tpos] e pos) σ .next ((σ1.put y b).put x a) := fun A hb ρ s Q E rm R k =>
  Assign_Tuple_swapped (names := [x, y]) (h _ _ _ _ _ _ rm R fun hb1 ρ1 s1 v X1 R1 h1 => by
    refine eEEAA h1.tup_inv ?_; rintro t vs rfl ht hvs
    refine eEEAA hvs.inv2 ?_; rintro _ _ rfl ha hb'
    rename_i va vb
    refine wpAny_unpackItems_tuple (items := [va, vb].toArray) rm.1 (ht.keeps R1.m.keep) fun h' hs' => ?_
    have R1' := R1.grown hs'
    refine wpAny_assignInOrder_more (wpAny_bindName (store_local R1' hb' hy hp fun s2 X2 R2 => ?_))
    refine wpAny_assignInOrder_more (wpAny_bindName (store_local R2 ha hx hp fun s3 X3 R3 => ?_))
    exact wpAny_assignInOrder_none (k _ _ _ _ (((X1.trans (ext_new hs')).trans X2).trans X3) R3 .next)) hs hw
noncomputable def TGTs (w : World) (env : Env) (tgs : List Expr) (ys : List AV) (σ σ' : St) : Prop :=
  ∀ (A : Around) (hb : Heap) (ρ : List Addr) (s : Shared) (vs : List Value) (Q : Unit → Shared → Prop) (E : Value → Shared → Prop), A.handled = none → RelE w hb ρ env s σ → VRels w hb ρ ys vs →
    (∀ s', Ext (fp env) hb ρ s hb ρ s' → RelE w hb ρ env s' σ' → Q () s') → wpAny (model PRG w) A (assignInOrder ((assignEach tgs env).map (·.2)) vs) Q E s
theorem tgts_nil : TGTs w env [] [] σ σ := fun A hb ρ s vs Q E _ R hv k => by cases hv; exact wpAny_assignInOrder_none (k _ .refl R)
theorem tgts_cons {tg : Expr} {tgs : List Expr} {y : AV} {ys : List AV} (h : TGT w env tg y σ σ1) (hr : TGTs w env tgs ys σ1 σ2) (he : autoParam ((assignEach (tg :: tgs) env).map (·.2) = assign tg env :: (assignEach tgs env).map (·.2)) auR) : TGTs w env (tg :: tgs) (y :: ys) σ σ2 := fun A hb ρ s vs Q E hh R hv k => by
  rcases hv with _ | ⟨hx, hxs⟩
  rw [he]
  exact wpAny_assignInOrder_more (h _ _ _ _ _ _ _ hh R hx fun s1 X1 R1 => hr _ _ _ _ _ _ _ hh R1 hxs fun s2 X2 R2 => k _ (X1.trans X2) R2)
theorem tgt_tuple {elts : List Expr} {kk : Nat} {p : Pos} {ys : List AV} (h : TGTs w env elts ys σ σ1) (hn : autoParam ((assignEach elts env).length = ys.length) auR) (hstar : autoParam ((assignEach elts env).findIdx? (·.1) = none) auR) : TGT w env (.Tuple elts kk p) (.tup ys) σ σ1 := fun A hb ρ s v Q E hh R hv k => by
  refine eEEAA hv.tup_inv ?_; rintro t vs rfl ht hvs
  refine wpAny_assign_Tuple hh (ht.keeps R.m.keep) (by rw [hn, List.size_toArray, hvs.length]) hstar fun h' hs' => ?_
  exact h _ _ _ _ _ _ _ hh (R.grown hs') hvs fun s1 X1 R1 => k _ ((ext_new hs').trans X1) R1
theorem ss_unpack {elts : List Expr} {kk : Nat} {tpos : Pos} {e : Expr} {ys : List AV} (h : SE w n env e σ (.tup ys) σ1) (ht : TGT w env (.Tuple elts kk tpos) (.tup ys) σ1 σ2)
    (hs : autoParam (swapsWithSole [.Tuple elts kk tpos] e pos.line env = pure false) auR) (hw : autoParam (swappedStores [.Tuple elts kk tpos] e env = pure none) auR) : SS w n env (.Assign [.Tuple elts kk tpos] e pos) σ .next σ2 := fun A hb ρ s Q E rm R k =>
  Assign_Tuple (h _ _ _ _ _ _ rm R fun hb1 ρ1 s1 v X1 R1 h1 => ht _ _ _ _ _ _ _ rm.1 R1 h1 fun s2 X2 R2 => k _ _ _ _ (X1.trans X2) R2 .next) hs hw
theorem ss_assignC {x : Str} {e : Expr} {p : Pos} {a : AV} (h : SE w n env e σ a σ1) (hcx : ∃ cx, env.cells.lookup x = some cx ∧ ∀ y c, env.cells.lookup y = some c → c = cx → y = x) (hk : autoParam (env.scope.kind = .function) auR) (hl : autoParam (env.kindOf x = some .cell) auR)
    (hs : autoParam (swapsWith e (some (.Name x p)) pos.line env = pure false) auR) : SS w n env (.Assign [.Name x p] e pos) σ .next (σ1.putC x a) := fun A hb ρ s Q E rm R k =>
  wpAny_Assign_Name (h _ _ _ _ _ _ rm R fun _ _ _ _ X1 R1 h1 => store_cell R1 h1 hk hl hcx.choose_spec.1 hcx.choose_spec.2 fun _ X2 R2 => k _ _ _ _ (X1.trans X2) R2 .next) hs
theorem tgt_cell {x : Str} {p : Pos} {y : AV} (hcx : ∃ cx, env.cells.lookup x = some cx ∧ ∀ y c, env.cells.lookup y = some c → c = cx → y = x) (hk : autoParam (env.scope.kind = .function) auR) (hl : autoParam (env.kindOf x = some .cell) auR) : TGT w env (.Name x p) y σ (σ.putC x y) := fun A hb ρ s v Q E _ R hv k =>
  wpAny_assign_Name (store_cell R hv hk hl hcx.choose_spec.1 hcx.choose_spec.2 k)
end
section
variable {w : World} {n : Nat} {env : Env} {σ σ1 σ2 σ3 : St} {pos : Pos} {hb hb' hb1 hb2 : Heap} {ρ ρ' ρ1 ρ2 : List Addr} {s s' s1 s2 : Shared} {μ μ' : List Cell} {a b c : AV}
abbrev HBind (w : World) (fd : FuncData) (as : List AV) (ks : List (Str × AV)) (bl : List (Str × AV)) : Prop :=
  ∀ (hb : Heap) (ρ : List Addr) (s : Shared) (vs : List Value) (kvs : List (Str × Value)), TopH w hb → hb.StaysIn s.heap → VRels w hb ρ as vs → KRels w hb ρ ks kvs → ∃ binds, BindsTo s fd ⟨vs, kvs⟩ binds ∧ KRels w hb ρ bl binds
theorem hb1_ {fd : FuncData} {x : Str} (h : ∀ v, bindArgs fd ⟨[v], []⟩ = pure [(x, v)]) : HBind w fd [a] [] [(x, a)] := fun hb ρ s vs kvs _ _ hv hk => by
  refine eEA hv.inv1 ?_; rintro _ rfl h1; obtain rfl := hk.inv0
  exact ⟨_, .of_eq (h _), .cons h1 .nil⟩
theorem hb2_ {fd : FuncData} {x y : Str} (h : ∀ v u, bindArgs fd ⟨[v, u], []⟩ = pure [(x, v), (y, u)]) : HBind w fd [a, b] [] [(x, a), (y, b)] := fun hb ρ s vs kvs _ _ hv hk => by
  refine eEEAA hv.inv2 ?_; rintro _ _ rfl h1 h2; obtain rfl := hk.inv0
  exact ⟨_, .of_eq (h _ _), .cons h1 (.cons h2 .nil)⟩
theorem hb3_ {fd : FuncData} {x y z : Str} (h : ∀ v u t, bindArgs fd ⟨[v, u, t], []⟩ = pure [(x, v), (y, u), (z, t)]) : HBind w fd [a, b, c] [] [(x, a), (y, b), (z, c)] := fun hb ρ s vs kvs _ _ hv hk => by
  refine eEEEAAA hv.inv3 ?_; rintro _ _ _ rfl h1 h2 h3; obtain rfl := hk.inv0
  exact ⟨_, .of_eq (h _ _ _), .cons h1 (.cons h2 (.cons h3 .nil))⟩
theorem cellsFrom_key (names : List (Str × NameKind)) : ∀ (m m' : Nat) (acc acc' : List (Str × Addr)), acc.map (·.1) = acc'.map (·.1) → (cellsFrom m names acc).map (·.1) = (cellsFrom m' names acc').map (·.1) := by
  induction names with
  | nil => intro m m' acc acc' h; exact h
  | cons x r ih =>
    intro m m' acc acc' h
    obtain ⟨x, k⟩ := x
    unfold cellsFrom
    split
    · exact ih _ _ _ _ (by rw [List.map_cons, List.map_cons, h])
    · exact ih _ _ _ _ h
theorem lookup_isSome {β : Type} {x : Str} : ∀ {l : List (Str × β)}, x ∈ l.map (·.1) → (l.lookup x).isSome = true
  | (y, c) :: l, h => by
    rw [List.lookup_cons]
    cases q : x == y with
    | true => rfl
    | false =>
      refine lookup_isSome ?_
      rcases List.mem_cons.mp h with e | h
      · rw [e] at q; simp at q
      · exact h
noncomputable def keysOk (names : List (Str × NameKind)) (bl : List Str) : Bool := bl.all fun p => decide (names.lookup p = some .local) || (decide (names.lookup p = some .cell) && ((cellsFrom 0 names []).map (·.1)).contains p)
noncomputable def nodupB : List Str → Bool
  | [] => true
  | x :: r => !r.contains x && nodupB r
theorem nodup_of : ∀ {l : List Str}, nodupB l = true → l.Nodup
  | [], _ => List.nodup_nil
  | x :: r, h => by
    unfold nodupB at h
    rw [Bool.and_eq_true] at h
    exact List.nodup_cons.mpr ⟨by simpa using h.1, nodup_of h.2⟩
theorem fc_def {f : Addr} {fd : FuncData} {body : List Stmt} {as : List AV} {ks : List (Str × AV)} {μ : List Cell} {bl : List (Str × AV)} {r' : AV} {μ' : List Cell} (P : St → AV → Prop)
    (hK : FDK w f fd) (hcd : codeIn (Internal.hd.heap_1 w.params) fd.code fd.qualname = true) (hbody : fd.body = .stmts body) (hclo : fd.closure = []) (hbind : HBind w fd as ks bl)
    (hkeys : keysOk fd.scope.names (bl.map (·.1)) = true) (hnd : nodupB ((cellsFrom 0 fd.scope.names []).map (·.1)) = true)
    (hb : ∀ L, SXX w n (callEnvC fd L f) body ⟨locOf (fd.scope.names.lookup ·) bl, celOf (fd.scope.names.lookup ·) bl, μ⟩ fun σ' af => ∃ r, af.gives r ∧ P σ' r)
    (hcl : ∀ σ' r, P σ' r → Closes w r σ'.mem r' μ' ∧ μ'.length ≤ σ'.mem.length) (hlen : μ.length ≤ μ'.length) (hbel : (∀ c ∈ μ, c.inb μ.length = true) → ∀ c ∈ μ', c.inb μ'.length = true)
    (hco : autoParam (fd.scope.isCoroutine = false) auR) (hgen : autoParam (fd.scope.isGenerator = false) auR) (hk : autoParam (fd.scope.kind = .function) auR) : FC w (n + 1) (.val (.ref f)) as ks μ r' μ' := by
  refine fn_def hK hcd hbody hclo hbind (fun m x hx => ?_) (fun m => ?_) hb (fun σ' r h => (hcl σ' r h).1) hlen (fun σ' r h => (hcl σ' r h).2) hbel hco hgen hk
  · have := List.all_eq_true.mp hkeys x hx
    rw [Bool.or_eq_true] at this
    rcases this with h | h
    · exact .inl (of_decide_eq_true h)
    · rw [Bool.and_eq_true] at h
      exact .inr ⟨of_decide_eq_true h.1, lookup_isSome (by rw [cellsFrom_key fd.scope.names m 0 [] [] rfl]; simpa using h.2)⟩
  · rw [cellsFrom_key fd.scope.names m 0 [] [] rfl]; exact nodup_of hnd
theorem fc_plain {f : Addr} {fd : FuncData} {body : List Stmt} {as : List AV} {ks : List (Str × AV)} {μ : List Cell} {bl : List (Str × AV)} {r : AV}
    (hK : FDK w f fd) (hcd : codeIn (Internal.hd.heap_1 w.params) fd.code fd.qualname = true) (hbody : fd.body = .stmts body) (hclo : fd.closure = []) (hbind : HBind w fd as ks bl)
    (hkeys : keysOk fd.scope.names (bl.map (·.1)) = true) (hnd : nodupB ((cellsFrom 0 fd.scope.names []).map (·.1)) = true)
    (hb : ∀ L, SXX w n (callEnvC fd L f) body ⟨locOf (fd.scope.names.lookup ·) bl, celOf (fd.scope.names.lookup ·) bl, μ⟩ fun σ' af => af.gives r ∧ σ'.mem = μ) (hr : autoParam (r.inb μ.length = true) auR)
    (hco : autoParam (fd.scope.isCoroutine = false) auR) (hgen : autoParam (fd.scope.isGenerator = false) auR) (hk : autoParam (fd.scope.kind = .function) auR) : FC w (n + 1) (.val (.ref f)) as ks μ r μ :=
  fc_def (fun σ'' r'' => σ''.mem = μ ∧ r'' = r) hK hcd hbody hclo hbind hkeys hnd (fun L => (hb L).mono fun _ _ _ _ ⟨af, h, q⟩ => ⟨af, ⟨r, h.1, h.2, rfl⟩, q⟩) (fun σ'' r'' h => by rw [h.1, h.2]; exact ⟨closes_same hr, Nat.le_refl _⟩) (Nat.le_refl _) (fun h => h) hco hgen hk
theorem g_Fraction : nsIn (Internal.hd.heap_1 w.params) mainGlobals "Fraction" = some (some (.ref 194)) := by k_is
theorem g_total : nsIn (Internal.hd.heap_1 w.params) mainGlobals "total" = some (some (.ref 205)) := by k_is
theorem g_MSF : nsIn (Internal.hd.heap_1 w.params) mainGlobals "MarginalScoreFct" = some (some (.ref 252)) := by k_is
theorem b_isinstance : nsIn (Internal.hd.heap_1 w.params) mainGlobals "isinstance" = some none := by k_is
theorem b_int : nsIn (Internal.hd.heap_1 w.params) mainGlobals "int" = some none := by k_is
theorem b_len : nsIn (Internal.hd.heap_1 w.params) mainGlobals "len" = some none := by k_is
theorem b_range : nsIn (Internal.hd.heap_1 w.params) mainGlobals "range" = some none := by k_is
variable {i j p : Int} {q : Nat} {p1 p2 : Int} {q1 q2 : Nat} {nm : Str} {par : AV} {S : List Nat} {wt : Int}
theorem cls_frac : ∀ D, Value.ref 194 = Value.ref D → plainGet (Internal.hd.heap_1 w.params) D "__class__" = true ∧ hasDictIn (Internal.hd.heap_1 w.params) D = true ∧ findIn (Internal.hd.heap_1 w.params) (.ref D) "__class__" = some (some (.builtin "object.__class__")) ∧ mroIn (Internal.hd.heap_1 w.params) D (.type "object") = some true := by
  rintro D ⟨⟩; exact ⟨by k_is, by k_is, by k_is, by k_is⟩
theorem cls_voter : ∀ D, Value.ref 621 = Value.ref D → plainGet (Internal.hd.heap_1 w.params) D "__class__" = true ∧ hasDictIn (Internal.hd.heap_1 w.params) D = true ∧ findIn (Internal.hd.heap_1 w.params) (.ref D) "__class__" = some (some (.builtin "object.__class__")) ∧ mroIn (Internal.hd.heap_1 w.params) D (.type "object") = some true := by
  rintro D ⟨⟩; exact ⟨by k_is, by k_is, by k_is, by k_is⟩
theorem isi_int_int : FN w n (.val (.builtin "isinstance")) [.int i, .val (.type "int")] [] μ (.bool true) μ := fn_isi (t := .type "int") rfl (by rintro D ⟨⟩) (by kit_is)
theorem isi_int_frac : FN w n (.val (.builtin "isinstance")) [.int i, .val (.ref 194)] [] μ (.bool false) μ := fn_isi (t := .type "int") rfl (by rintro D ⟨⟩) (by kit_is)
theorem isi_frac_int : FN w n (.val (.builtin "isinstance")) [.frac p q, .val (.type "int")] [] μ (.bool false) μ := fn_isi (t := .ref 194) rfl cls_frac (by kit_is)
theorem isi_frac_frac : FN w n (.val (.builtin "isinstance")) [.frac p q, .val (.ref 194)] [] μ (.bool true) μ := fn_isi (t := .ref 194) rfl cls_frac (by kit_is)
theorem isi_voter : FN w n (.val (.builtin "isinstance")) [.voter S wt, .val (.ref 621)] [] μ (.bool true) μ := fn_isi (t := .ref 621) rfl cls_voter (by kit_is)
theorem isi_int_tup : FN w n (.val (.builtin "isinstance")) [.int i, .tup [.val (.type "int"), .val (.ref 194)]] [] μ (.bool true) μ := fn_isiT (cs := [.type "int", .ref 194]) (t := .type "int") rfl (by rintro D ⟨⟩) (by kit_is)
theorem o_num : O1 w n (fun v => getAttr v "numerator" true) (.frac p q) μ (fun hb ρ v => VRel w hb ρ (.int p) v) μ := o_own rfl rfl (by k_is) (by k_is) (by k_is) (by k_is)
theorem o_den : O1 w n (fun v => getAttr v "denominator" true) (.frac p q) μ (fun hb ρ v => VRel w hb ρ (.int q) v) μ := o_own rfl rfl (by k_is) (by k_is) (by k_is) (by k_is)
theorem sb_isi {e1 e2 : Expr} {fpos : Pos} {bb : Bool} (h1 : SE w n env e1 σ a σ1) (h2 : SE w n env e2 σ1 b σ2) (h : FN w n (.val (.builtin "isinstance")) [a, b] [] σ2.mem (.bool bb) σ2.mem)
    (hs : autoParam (starEach [e1, e2] env = (false, eval e1 env) :: starEach [e2] env) auR) (hs2 : autoParam (starEach [e2] env = (false, eval e2 env) :: starEach [] env) auR)
    (hp : autoParam ((backTo pos (starEach [e2] env)).any (·.1) = false) auR) (hk : autoParam (env.scope.kind = .function) auR) (hx : autoParam (env.kindOf "isinstance" = some .globalImplicit) auR) (hg : autoParam (env.globals = mainGlobals) auR) (hbi : autoParam (env.builtins = builtinsNs) auR) :
    SB w n env (.Call (.Name "isinstance" fpos) [e1, e2] [] pos) σ bb σ2 :=
  sb_plain (se_call (se_builtin b_isinstance (by rfl) (by decide) hk hx hg hbi) kept_builtin (scN h1 (scN h2 snN hs2) hs) h (by rfl) hs hp) t_bool
theorem frac_lt (h1 : IntMulOk p1 q2) (h2 : IntMulOk p2 q1) : FC w (n + 1) (.val (.ref 170)) [.frac p1 q1, .frac p2 q2] [] μ (.bool (decide (p1 * q2 < p2 * q1))) μ := by
  refine fc_plain ⟨_, _, _, by k_is⟩ (by k_is) rfl rfl (hb2_ fun _ _ => by rfl) (by rfl) (by rfl) (fun L => ?_)
  refine sxx_ifN (sb_isi (seL rfl) (se_builtin b_int (by rfl) (by decide)) isi_frac_int) ?_
  refine sxx_ifT (sb_isi (seL rfl) (se_glob g_Fraction) isi_frac_frac) ?_
  exact sxx_stop (ss_return (se_cmp (se_binop (se_attr (seL rfl) o_num) (se_attr (seL rfl) o_den) (o_mul h1)) (se_binop (se_attr (seL rfl) o_num) (se_attr (seL rfl) o_den) (o_mul h2)) o_lt)) ⟨rfl, rfl⟩
end
section
variable {w : World} {n : Nat} {env : Env} {σ σ1 σ2 σ3 : St} {pos : Pos} {hb hb' hb1 hb2 : Heap} {ρ ρ' ρ1 ρ2 : List Addr} {s s' s1 s2 : Shared} {μ μ' : List Cell} {a b c : AV}
variable {i j p : Int} {q : Nat} {p1 p2 : Int} {q1 q2 : Nat} {nm : Str} {par : AV} {S : List Nat} {wt : Int}
theorem sxx_ifNe {t : Expr} {xs rest : List Stmt} {P : St → AF → Prop} {bb : Bool} (h : SB w n env t σ bb σ1) (e : bb = false) (hr : SXX w n env rest σ1 P) : SXX w n env (.If t xs [] pos :: rest) σ P := sxx_ifN (e ▸ h) hr
set_option tactic.hygienic true in
theorem se_and2 {e1 e2 : Expr} {b1 : Bool} {c : AV} (h1 : SE w n env e1 σ (.bool b1) σ1) (h2 : b1 = true → SE w n env e2 σ1 c σ2) (h3 : b1 = false → c = .bool false ∧ σ2 = σ1) : SE w n env (.BoolOp .And [e1, e2] pos) σ c σ2 := fun A hb ρ s Q E rm R k =>
  BoolOp_and (h1 _ _ _ _ _ _ rm R fun hb1 ρ1 s1 v X1 R1 hv => by
    obtain rfl := VRel.bool_inv hv
    refine wpAny_truthy_bool ?_
    split
    · rename_i q; exact BoolOp_one (h2 q _ _ _ _ _ _ rm R1 fun _ _ _ _ X2 R2 h2 => k _ _ _ _ (X1.trans X2) R2 h2)
    · rename_i q
      obtain ⟨rfl, rfl⟩ := h3 (by simpa using q)
      rw [show b1 = false by simpa using q]
      exact k _ _ _ _ X1 R1 (.bool _))
theorem frac_gt (h1 : IntMulOk p1 q2) (h2 : IntMulOk p2 q1) : FC w (n + 1) (.val (.ref 184)) [.frac p1 q1, .frac p2 q2] [] μ (.bool (decide (p2 * q1 < p1 * q2))) μ := by
  refine fc_plain ⟨_, _, _, by k_is⟩ (by k_is) rfl rfl (hb2_ fun _ _ => by rfl) (by rfl) (by rfl) (fun L => ?_)
  refine sxx_ifN (sb_isi (seL rfl) (se_builtin b_int (by rfl) (by decide)) isi_frac_int) ?_
  refine sxx_ifT (sb_isi (seL rfl) (se_glob g_Fraction) isi_frac_frac) ?_
  exact sxx_stop (ss_return (se_cmp (se_binop (se_attr (seL rfl) o_num) (se_attr (seL rfl) o_den) (o_mul h1)) (se_binop (se_attr (seL rfl) o_num) (se_attr (seL rfl) o_den) (o_mul h2)) o_gt)) ⟨rfl, rfl⟩
theorem frac_ge (h1 : IntMulOk p1 q2) (h2 : IntMulOk p2 q1) : FC w (n + 1) (.val (.ref 191)) [.frac p1 q1, .frac p2 q2] [] μ (.bool (decide (p2 * q1 ≤ p1 * q2))) μ := by
  refine fc_plain ⟨_, _, _, by k_is⟩ (by k_is) rfl rfl (hb2_ fun _ _ => by rfl) (by rfl) (by rfl) (fun L => ?_)
  refine sxx_ifN (sb_isi (seL rfl) (se_builtin b_int (by rfl) (by decide)) isi_frac_int) ?_
  refine sxx_ifT (sb_isi (seL rfl) (se_glob g_Fraction) isi_frac_frac) ?_
  exact sxx_stop (ss_return (se_cmp (se_binop (se_attr (seL rfl) o_num) (se_attr (seL rfl) o_den) (o_mul h1)) (se_binop (se_attr (seL rfl) o_num) (se_attr (seL rfl) o_den) (o_mul h2)) o_ge)) ⟨rfl, rfl⟩
theorem frac_gtI (h1 : IntMulOk i q1) : FC w (n + 1) (.val (.ref 184)) [.frac p1 q1, .int i] [] μ (.bool (decide (i * q1 < p1))) μ := by
  refine fc_plain ⟨_, _, _, by k_is⟩ (by k_is) rfl rfl (hb2_ fun _ _ => by rfl) (by rfl) (by rfl) (fun L => ?_)
  refine sxx_ifT (sb_isi (seL rfl) (se_builtin b_int (by rfl) (by decide)) isi_int_int) ?_
  exact sxx_stop (ss_return (se_cmp (se_attr (seL rfl) o_num) (se_binop (seL rfl) (se_attr (seL rfl) o_den) (o_mul h1)) o_gt)) ⟨rfl, rfl⟩
theorem frac_eq : FC w (n + 1) (.val (.ref 163)) [.frac p1 q1, .frac p2 q2] [] μ (.bool ((p1 == p2) && ((q1 : Int) == q2))) μ := by
  refine fc_plain ⟨_, _, _, by k_is⟩ (by k_is) rfl rfl (hb2_ fun _ _ => by rfl) (by rfl) (by rfl) (fun L => ?_)
  refine sxx_ifN (sb_isi (seL rfl) (se_builtin b_int (by rfl) (by decide)) isi_frac_int) ?_
  refine sxx_ifT (sb_isi (seL rfl) (se_glob g_Fraction) isi_frac_frac) ?_
  refine sxx_stop (ss_return (se_and2 (b1 := p1 == p2) (se_cmp (se_attr (seL rfl) o_num) (se_attr (seL rfl) o_num) o_eq) (fun e => ?_) (fun e => ⟨by rw [e]; rfl, rfl⟩))) ⟨rfl, rfl⟩
  rw [e]
  exact se_cmp (se_attr (seL rfl) o_den) (se_attr (seL rfl) o_den) o_eq
noncomputable def fracCells (μ : List Cell) (p : Int) (q : Nat) : List Cell := (μ ++ [.dct [("numerator", .int p), ("denominator", .int q)]]) ++ [.ins 194 μ.length]
theorem hbD {fd : FuncData} {T : Addr} {oc : Value} {od : Option Addr} {items : Array Value} {nn : Nat} {sl : Array (Option Value)} {as : List AV} {ks bl : List (Str × AV)} (hd : fd.defaults = .ref T) (ho : (Internal.hd.heap_1 w.params).lookup T = some ⟨oc, od, .seq items nn, sl⟩)
    (h : ∀ (hb : Heap) (ρ : List Addr) (vs : List Value) (kvs : List (Str × Value)), VRels w hb ρ as vs → KRels w hb ρ ks kvs → ∃ binds k, bindArgs fd ⟨vs, kvs⟩ = (seqItems? fd.defaults >>= k) ∧ k (some items) = pure binds ∧ KRels w hb ρ bl binds) : HBind w fd as ks bl := fun hb ρ s vs kvs T' k hv hk => by
  refine eEEAA (h hb ρ vs kvs hv hk) ?_; rintro binds kk h1 h2 h3
  exact ⟨binds, .of_defaults hd (k _ _ (T'.K _ _ ho)) rfl h1 h2, h3⟩
theorem hb_of {f : Addr} {fd fd' : FuncData} {as : List AV} {ks bl : List (Str × AV)} (h1 : FDK w f fd) (h : HBind w fd as ks bl) (h2 : FDK w f fd') : HBind w fd' as ks bl := by
  refine eEEE h1 ?_; clear h1; rintro _ _ _ e1
  refine eEEE h2 ?_; clear h2; rintro _ _ _ e2
  rw [e1] at e2
  cases e2
  exact h
theorem cget0 {c e : Cell} : ((μ ++ [c]) ++ [e])[μ.length]? = some c := by simp
theorem cget1 {c e : Cell} : ((μ ++ [c]) ++ [e])[μ.length + 1]? = some e := by simp
theorem cset0 {c c' e : Cell} : ((μ ++ [c]) ++ [e]).set μ.length c' = (μ ++ [c']) ++ [e] := by simp
noncomputable def gG (N : Int) (D : Nat) : Nat := Nat.gcd D (N % D).toNat
noncomputable def red (N : Int) (D : Nat) : AV := .frac (N / (gG N D : Int)) (D / gG N D)
theorem gG_pos {N : Int} {D : Nat} (h : 0 < D) : 0 < gG N D := Nat.gcd_pos_of_pos_left _ h
theorem gG_le {N : Int} {D : Nat} (h : 0 < D) : gG N D ≤ D := Nat.gcd_le_left _ h
theorem inb_mono_cells {c e c' : Cell} (hi : c'.inb (μ.length + 2) = true) (h : ∀ x ∈ (μ ++ [c]) ++ [e], x.inb ((μ ++ [c]) ++ [e]).length = true) : ∀ x ∈ (μ ++ [c']) ++ [e], x.inb ((μ ++ [c']) ++ [e]).length = true := fun x hx => by
  have hl : ((μ ++ [c']) ++ [e]).length = ((μ ++ [c]) ++ [e]).length := by simp
  rw [hl]
  simp only [List.append_assoc, List.mem_append, List.mem_cons, List.not_mem_nil, or_false, List.singleton_append] at hx
  rcases hx with hx | rfl | rfl
  · exact h x (by simp [hx])
  · rw [show ((μ ++ [c]) ++ [e]).length = μ.length + 2 by simp]; exact hi
  · exact h x (by simp)
theorem o_set2 {C : Addr} {k : Str} {x : AV} {fs : List (Str × AV)} (hz : fs.length ≤ 900) (hs : findIn (Internal.hd.heap_1 w.params) (.ref C) "__setattr__" = some (some (.builtin "object.__setattr__"))) (hp : plainOver (Internal.hd.heap_1 w.params) C = true) (ht : takerIn (Internal.hd.heap_1 w.params) C k = some none) (hh : hasDictIn (Internal.hd.heap_1 w.params) C = true) :
    O2 w n (fun o u => setAttr o k u) (.hnd (μ.length + 1)) x ((μ ++ [.dct fs]) ++ [.ins C μ.length]) (fun _ _ _ => True) ((μ ++ [.dct (putF k x fs)]) ++ [.ins C μ.length]) := by
  have := o_set (w := w) (n := n) (nm := k) (x := x) (cget1 (μ := μ) (c := .dct fs) (e := .ins C μ.length)) cget0 hz hs hp ht hh
  rwa [cset0] at this
theorem frac_init {N : Int} {D : Nat} (h0 : 0 < D) (h1 : D < 1073741824) {as : List AV} (HB : ∀ fd, FDK w 65 fd → HBind w fd as [] [("self", .hnd (μ.length + 1)), ("numerator", .int N), ("denominator", .int D)]) :
    FC w (n + 1) (.val (.ref 65)) as [] ((μ ++ [.dct []]) ++ [.ins 194 μ.length]) .none (fracCells μ (N / (gG N D : Int)) (D / gG N D)) := by
  refine fc_def (fun σ' r => σ'.mem = fracCells μ (N / (gG N D : Int)) (D / gG N D) ∧ r = .none) ⟨_, _, _, by k_is⟩ (by k_is) rfl rfl (HB _ ⟨_, _, _, by k_is⟩) (by rfl) (by rfl) (fun L => ?_) (fun σ' r h => ?_) (by simp [fracCells]) ?_
  rotate_left
  · rw [h.1, h.2]; exact ⟨closes_same rfl, Nat.le_refl _⟩
  · exact inb_mono_cells (by rfl)
  refine sxx_ifN (sb_not (b := true) (sb_isi (seL rfl) (se_tuple (scN (se_builtin b_int (by rfl) (by decide)) (scN (se_glob g_Fraction) snN)) (by decide)) isi_int_tup)) ?_
  refine sxx_ifN (sb_not (b := true) (sb_isi (seL rfl) (se_tuple (scN (se_builtin b_int (by rfl) (by decide)) (scN (se_glob g_Fraction) snN)) (by decide)) isi_int_tup)) ?_
  refine sxC (ss_assign (seL rfl)) ?_
  refine sxC (ss_assign (seL rfl)) ?_
  refine sxx_ifN (sb_isi (seL rfl) (se_glob g_Fraction) isi_int_frac) ?_
  refine sxx_ifN (sb_isi (seL rfl) (se_glob g_Fraction) isi_int_frac) ?_
  refine sxx_ifN (sb_isi (seL rfl) (se_glob g_Fraction) isi_int_frac) ?_
  refine sxx_ifNe (sb_cmp (seL rfl) se_int o_eq) (by rw [beq_eq_false_iff_ne]; lia) ?_
  refine sxx_ifNe (sb_cmp (seL rfl) se_int o_lt) (by rw [decide_eq_false_iff_not]; lia) ?_
  refine sxC (ss_assign (seL rfl)) ?_
  refine sxC (ss_assign (se_binop (seL rfl) (seL rfl) (o_mod (by lia)))) ?_
  have hfm : ∀ a b : Nat, ((a : Int).fmod (b : Int)) = ((a % b : Nat) : Int) := fun a b => by rw [Int.fmod_eq_emod_of_nonneg _ (Int.natCast_nonneg b)]; rfl
  have hN0 : 0 ≤ N % (D : Int) := Int.emod_nonneg _ (by lia)
  refine sxx_then (ssx_while (α := Nat × Nat) (mk := fun x => ⟨[("divisor", .int x.1), ("rest", .int x.2), ("upper", .int N), ("lower", .int D), ("self", .hnd (μ.length + 1))], [], (μ ++ [.dct []]) ++ [.ins 194 μ.length]⟩)
    (Inv := fun x => 0 < x.1 ∧ Nat.gcd x.1 x.2 = gG N D) (meas := fun x => x.2) (P := fun σ => St.le ⟨[("divisor", .int (gG N D)), ("upper", .int N), ("lower", .int D), ("self", .hnd (μ.length + 1))], [], (μ ++ [.dct []]) ++ [.ins 194 μ.length]⟩ σ)
    (D, (N % D).toNat) ⟨h0, rfl⟩ (St.le_of ⟨rfl, ?_, rfl, rfl, rfl, trivial⟩ trivial rfl) fun x hx => ⟨_, _, sb_plain (seL rfl) t_int, fun hb => ?_, fun hb => ?_⟩) fun σ1 af h => ⟨h.1, ?_⟩
  · show some (AV.int (N.fmod D)) = some (AV.int ((N % D).toNat))
    rw [Int.fmod_eq_emod_of_nonneg _ (Int.natCast_nonneg D), Int.toNat_of_nonneg hN0]
  · have hne : x.2 ≠ 0 := by intro e; rw [e] at hb; simp at hb
    refine sxC (ss_swap (x := "divisor") (y := "rest") (se_tuple (scN (seL rfl) (scN (se_binop (seL rfl) (seL rfl) (o_mod (by lia))) snN)) (by simp))) (sxx_nil ⟨rfl, (x.2, x.1 % x.2), ⟨by lia, ?_⟩, Nat.mod_lt _ (by lia), St.le_of ⟨rfl, ?_, rfl, rfl, rfl, trivial⟩ trivial rfl⟩)
    · rw [← hx.2]; show Nat.gcd x.2 (x.1 % x.2) = _
      rw [Nat.gcd_comm x.1 x.2, Nat.gcd_rec x.2 x.1, Nat.gcd_comm]
    · show some (AV.int _) = some (AV.int _)
      rw [hfm]
  · have he : x.2 = 0 := by
      have : ((x.2 : Int) != 0) = false := hb
      simpa using this
    refine St.le_of ⟨?_, rfl, rfl, rfl, trivial⟩ trivial rfl
    show some (AV.int _) = some (AV.int _)
    rw [← hx.2, he, Nat.gcd_zero_right]
  · refine TX.le (σ' := ⟨[("divisor", .int (gG N D)), ("upper", .int N), ("lower", .int D), ("self", .hnd (μ.length + 1))], [], (μ ++ [.dct []]) ++ [.ins 194 μ.length]⟩) ?_ h.2
    have g1 := gG_pos (N := N) h0
    have g2 := gG_le (N := N) h0
    refine sxC (ss_setattr (se_binop (seL rfl) (seL rfl) (o_fdiv (by lia) (by lia))) (seL rfl) (o_set2 (Nat.le_of_ble_eq_true rfl) (by k_is) (by k_is) (by k_is) (by k_is))) ?_
    refine sxC (ss_setattr (se_binop (seL rfl) (seL rfl) (o_fdiv (by lia) (by lia))) (seL rfl) (o_set2 (Nat.le_of_ble_eq_true rfl) (by k_is) (by k_is) (by k_is) (by k_is))) ?_
    refine sxx_nil ⟨_, rfl, ?_, rfl⟩
    rw [Int.fdiv_eq_ediv_of_nonneg _ (Int.natCast_nonneg _), Int.fdiv_eq_ediv_of_nonneg _ (Int.natCast_nonneg _)]
    rfl
end
section
variable {w : World} {n : Nat} {env : Env} {σ σ1 σ2 σ3 : St} {pos : Pos} {hb hb' hb1 hb2 : Heap} {ρ ρ' ρ1 ρ2 : List Addr} {s s' s1 s2 : Shared} {μ μ' : List Cell} {a b c : AV}
variable {i j p : Int} {q : Nat} {p1 p2 : Int} {q1 q2 : Nat} {nm : Str} {par : AV} {S : List Nat} {wt : Int}
theorem frac_make {N : Int} {D : Nat} {as : List AV} (h : FC w n (.val (.ref 65)) (.hnd (μ.length + 1) :: as) [] ((μ ++ [.dct []]) ++ [.ins 194 μ.length]) .none (fracCells μ (N / (gG N D : Int)) (D / gG N D))) :
    FC w (n + 1) (.val (.ref 194)) as [] μ (red N D) μ :=
  fc_make (by k_is) (by k_is) (by k_is) h (by
    unfold fracCells
    rw [List.append_assoc]
    exact closes_frac (by lia) (Nat.le_refl _) (by simp) (by simp)) (Nat.le_refl _) (by simp [fracCells]) (fun h => h)
theorem frac_new {N : Int} {D : Nat} (h0 : 0 < D) (h1 : D < 1073741824) : FC w (n + 2) (.val (.ref 194)) [.int N, .int D] [] μ (red N D) μ :=
  frac_make (frac_init h0 h1 fun fd hf => hb_of ⟨_, _, _, by k_is⟩ (hbD rfl (by k_is) fun hb ρ vs kvs hv hk => by
    refine eEEEAAA hv.inv3 ?_; rintro _ _ _ rfl h1 h2 h3; obtain rfl := hk.inv0
    exact ⟨_, _, rfl, rfl, .cons h1 (.cons h2 (.cons h3 .nil))⟩) hf)
theorem frac_new1 {N : Int} : FC w (n + 2) (.val (.ref 194)) [.int N] [] μ (red N 1) μ :=
  frac_make (frac_init (by decide) (by decide) fun fd hf => hb_of ⟨_, _, _, by k_is⟩ (hbD rfl (by k_is) fun hb ρ vs kvs hv hk => by
    refine eEEAA hv.inv2 ?_; rintro _ _ rfl h1 h2; obtain rfl := hk.inv0
    exact ⟨_, _, rfl, rfl, .cons h1 (.cons h2 (.cons (.int _ _) .nil))⟩) hf)
theorem frac_add (h1 : IntMulOk p1 q2) (h2 : IntMulOk p2 q1) (h3 : IntMulOk q1 q2) (h0 : 0 < q1 * q2) (hz : q1 * q2 < 1073741824) : FC w (n + 3) (.val (.ref 107)) [.frac p1 q1, .frac p2 q2] [] μ (red (p1 * q2 + p2 * q1) (q1 * q2)) μ := by
  refine fc_plain ⟨_, _, _, by k_is⟩ (by k_is) rfl rfl (hb2_ fun _ _ => by rfl) (by rfl) (by rfl) (fun L => ?_)
  refine sxx_ifN (sb_isi (seL rfl) (se_builtin b_int (by rfl) (by decide)) isi_frac_int) ?_
  refine sxx_ifT (sb_isi (seL rfl) (se_glob g_Fraction) isi_frac_frac) ?_
  refine sxx_stop (ss_return (se_call (se_glob g_Fraction) (kept_ref (by k_is)) (scN (se_binop (se_binop (se_attr (seL rfl) o_num) (se_attr (seL rfl) o_den) (o_mul h1)) (se_binop (se_attr (seL rfl) o_num) (se_attr (seL rfl) o_den) (o_mul h2)) o_add)
    (scN (se_binop (se_attr (seL rfl) o_den) (se_attr (seL rfl) o_den) (o_mul h3)) snN)) ?_)) ⟨rfl, rfl⟩
  have := (frac_new (w := w) (n := n) (μ := μ) (N := p1 * q2 + p2 * q1) h0 hz).fn
  rw [Int.natCast_mul] at this
  exact this
theorem frac_addI (h1 : IntMulOk i q1) (h0 : 0 < q1) (hz : q1 < 1073741824) : FC w (n + 3) (.val (.ref 107)) [.frac p1 q1, .int i] [] μ (red (p1 + i * q1) q1) μ := by
  refine fc_plain ⟨_, _, _, by k_is⟩ (by k_is) rfl rfl (hb2_ fun _ _ => by rfl) (by rfl) (by rfl) (fun L => ?_)
  refine sxx_ifT (sb_isi (seL rfl) (se_builtin b_int (by rfl) (by decide)) isi_int_int) ?_
  refine sxx_stop (ss_return (se_call (se_glob g_Fraction) (kept_ref (by k_is)) (scN (se_binop (se_attr (seL rfl) o_num) (se_binop (seL rfl) (se_attr (seL rfl) o_den) (o_mul h1)) o_add)
    (scN (se_attr (seL rfl) o_den) snN)) (frac_new h0 hz).fn)) ⟨rfl, rfl⟩
theorem frac_mulI (h1 : IntMulOk p1 i) (h0 : 0 < q1) (hz : q1 < 1073741824) : FC w (n + 3) (.val (.ref 135)) [.frac p1 q1, .int i] [] μ (red (p1 * i) q1) μ := by
  refine fc_plain ⟨_, _, _, by k_is⟩ (by k_is) rfl rfl (hb2_ fun _ _ => by rfl) (by rfl) (by rfl) (fun L => ?_)
  refine sxx_ifT (sb_isi (seL rfl) (se_builtin b_int (by rfl) (by decide)) isi_int_int) ?_
  refine sxx_stop (ss_return (se_call (se_glob g_Fraction) (kept_ref (by k_is)) (scN (se_binop (se_attr (seL rfl) o_num) (seL rfl) (o_mul h1))
    (scN (se_attr (seL rfl) o_den) snN)) (frac_new h0 hz).fn)) ⟨rfl, rfl⟩
theorem o_fadd (h1 : IntMulOk p1 q2) (h2 : IntMulOk p2 q1) (h3 : IntMulOk q1 q2) (h0 : 0 < q1 * q2) (hz : q1 * q2 < 1073741824) : OI w (n + 3) (binaryOp .Add) (.frac p1 q1) (.frac p2 q2) μ (red (p1 * q2 + p2 * q1) (q1 * q2)) :=
  o_binop (C := 194) rfl ⟨_, rfl⟩ (by k_is) (by k_is) (by k_is) (frac_add h1 h2 h3 h0 hz).fn rfl
theorem o_faddI (h1 : IntMulOk i q1) (h0 : 0 < q1) (hz : q1 < 1073741824) : OI w (n + 3) (binaryOp .Add) (.frac p1 q1) (.int i) μ (red (p1 + i * q1) q1) :=
  o_binopI (C := 194) rfl (by k_is) (by k_is) (by k_is) (by k_is) (.inr ⟨_, rfl⟩) (by k_is) (by k_is) (by k_is) (frac_addI h1 h0 hz).fn rfl
theorem o_fmulI (h1 : IntMulOk p1 i) (h0 : 0 < q1) (hz : q1 < 1073741824) : OI w (n + 3) (binaryOp .Mult) (.frac p1 q1) (.int i) μ (red (p1 * i) q1) :=
  o_binopI (C := 194) rfl (by k_is) (by k_is) (by k_is) (by k_is) (.inr ⟨_, rfl⟩) (by k_is) (by k_is) (by k_is) (frac_mulI h1 h0 hz).fn rfl
theorem o_fgt (h1 : IntMulOk p1 q2) (h2 : IntMulOk p2 q1) : OI w (n + 1) (compareOp .Gt) (.frac p1 q1) (.frac p2 q2) μ (.bool (decide (p2 * q1 < p1 * q2))) :=
  o_cmp (op := .Gt) (C := 194) rfl ⟨_, rfl⟩ (by k_is) (by k_is) (by k_is) (frac_gt h1 h2).fn rfl
theorem o_fge (h1 : IntMulOk p1 q2) (h2 : IntMulOk p2 q1) : OI w (n + 1) (compareOp .GtE) (.frac p1 q1) (.frac p2 q2) μ (.bool (decide (p2 * q1 ≤ p1 * q2))) :=
  o_cmp (op := .GtE) (C := 194) rfl ⟨_, rfl⟩ (by k_is) (by k_is) (by k_is) (frac_ge h1 h2).fn rfl
theorem o_feq : OI w (n + 1) (compareOp .Eq) (.frac p1 q1) (.frac p2 q2) μ (.bool ((p1 == p2) && ((q1 : Int) == q2))) :=
  o_cmp (op := .Eq) (C := 194) rfl ⟨_, rfl⟩ (by k_is) (by k_is) (by k_is) frac_eq.fn rfl
theorem o_fgtI (h1 : IntMulOk i q1) : OI w (n + 1) (compareOp .Gt) (.frac p1 q1) (.int i) μ (.bool (decide (i * q1 < p1))) :=
  o_cmpI (op := .Gt) (C := 194) rfl (by k_is) (by k_is) (by k_is) (frac_gtI h1).fn rfl
end
theorem gG_eq (N : Int) (D : Nat) (h : 0 < D) : gG N D = Int.gcd N D := by
  unfold gG
  have h0 : 0 ≤ N % (D : Int) := Int.emod_nonneg _ (by lia)
  rw [show Int.gcd N D = Int.gcd (D : Int) N from Int.gcd_comm _ _]
  apply Nat.dvd_antisymm
  · apply Int.dvd_gcd
    · exact Int.ofNat_dvd.mpr (Nat.gcd_dvd_left _ _)
    · have h1 : ((Nat.gcd D (N % D).toNat : Nat) : Int) ∣ N % D := by
        have := Int.ofNat_dvd.mpr (Nat.gcd_dvd_right D (N % D).toNat)
        rwa [Int.toNat_of_nonneg h0] at this
      have h2 : ((Nat.gcd D (N % D).toNat : Nat) : Int) ∣ (D : Int) := Int.ofNat_dvd.mpr (Nat.gcd_dvd_left _ _)
      have h3 : N = D * (N / D) + N % D := (Int.mul_ediv_add_emod N D).symm
      have h4 : ((Nat.gcd D (N % D).toNat : Nat) : Int) ∣ D * (N / D) + N % D := Int.dvd_add (Int.dvd_trans h2 (Int.dvd_mul_right _ _)) h1
      rwa [← h3] at h4
  · apply Nat.dvd_gcd
    · have := Int.gcd_dvd_left (D : Int) N
      exact Int.ofNat_dvd.mp this
    · have h1 : ((Int.gcd D N : Nat) : Int) ∣ N := Int.gcd_dvd_right _ _
      have h2 : ((Int.gcd D N : Nat) : Int) ∣ (D : Int) := Int.gcd_dvd_left _ _
      have h3 : ((Int.gcd D N : Nat) : Int) ∣ N % D := by
        rw [Int.emod_def]
        exact Int.dvd_sub h1 (Int.dvd_trans h2 (Int.dvd_mul_right _ _))
      apply Int.ofNat_dvd.mp
      rwa [Int.toNat_of_nonneg h0]
noncomputable def nu (G : Nat) (M : Int) : Int := M / (gG M G : Int)
noncomputable def de (G : Nat) (M : Int) : Nat := G / gG M G
abbrev fr (G : Nat) (M : Int) : AV := .frac (nu G M) (de G M)
theorem gG_scale {N : Int} {D k : Nat} (h : 0 < D) (hk : 0 < k) : gG (N * k) (D * k) = gG N D * k := by
  rw [gG_eq _ _ (Nat.mul_pos h hk), gG_eq _ _ h, Int.natCast_mul, Int.gcd_mul_right]; rfl
theorem red_scale {N : Int} {D k : Nat} (h : 0 < D) (hk : 0 < k) : red (N * k) (D * k) = red N D := by
  unfold red
  rw [gG_scale h hk, Int.natCast_mul, Int.mul_ediv_mul_of_pos_left _ _ (by lia), Nat.mul_div_mul_right _ _ hk]
theorem red_eq {N M : Int} {D G : Nat} (hD : 0 < D) (hG : 0 < G) (e : N * G = M * D) : red N D = red M G := by
  rw [← red_scale (N := N) hD hG, ← red_scale (N := M) hG hD, e, Nat.mul_comm D G]
theorem gG_dvd_l {M : Int} {G : Nat} (h : 0 < G) : (gG M G : Int) ∣ M := by rw [gG_eq _ _ h]; exact Int.gcd_dvd_left _ _
theorem gG_dvd_r {M : Int} {G : Nat} : gG M G ∣ G := Nat.gcd_dvd_left _ _
theorem de_pos {G : Nat} {M : Int} (h : 0 < G) : 0 < de G M := Nat.div_pos (gG_le h) (gG_pos h)
theorem de_le {G : Nat} {M : Int} : de G M ≤ G := Nat.div_le_self _ _
theorem nu_de {G : Nat} {M : Int} (h : 0 < G) : nu G M * G = M * de G M := by
  obtain ⟨m, hm⟩ := gG_dvd_l (M := M) h
  obtain ⟨d, hd⟩ := gG_dvd_r (M := M) (G := G)
  have hg := gG_pos (N := M) h
  have e1 : nu G M = m := by
    unfold nu
    rw [show M / (gG M G : Int) = (gG M G * m) / (gG M G : Int) by rw [← hm]]
    exact Int.mul_ediv_cancel_left _ (by lia)
  have e2 : de G M = d := by
    unfold de
    rw [show G / gG M G = (gG M G * d) / gG M G by rw [← hd]]
    exact Nat.mul_div_cancel_left _ hg
  rw [e1, e2]
  have hd' : (G : Int) = gG M G * d := by rw [← Int.natCast_mul, ← hd]
  rw [hd']
  conv => rhs; rw [hm]
  rw [← Int.mul_assoc, Int.mul_comm m, Int.mul_assoc]
theorem fr_inj {G : Nat} {M1 M2 : Int} (h : 0 < G) (e1 : nu G M1 = nu G M2) (e2 : de G M1 = de G M2) : M1 = M2 := by
  have h1 := nu_de (M := M1) h
  have h2 := nu_de (M := M2) h
  rw [e1, e2, h2] at h1
  have : (de G M2 : Int) ≠ 0 := by have := de_pos (M := M2) h; lia
  exact (Int.eq_of_mul_eq_mul_right this h1).symm
theorem fr_cross {G : Nat} {M1 M2 : Int} (h : 0 < G) : (nu G M1 * de G M2) * G = M1 * (de G M1 * de G M2 : Nat) ∧ (nu G M2 * de G M1) * G = M2 * (de G M1 * de G M2 : Nat) := by
  constructor
  · rw [Int.mul_assoc, Int.mul_comm (de G M2 : Int), ← Int.mul_assoc, nu_de h, Int.natCast_mul, Int.mul_assoc]
  · rw [Int.mul_assoc, Int.mul_comm (de G M1 : Int), ← Int.mul_assoc, nu_de h, Int.natCast_mul, Int.mul_assoc, Int.mul_comm (de G M2 : Int)]
theorem fr_lt {G : Nat} {M1 M2 : Int} (h : 0 < G) : (nu G M1 * de G M2 < nu G M2 * de G M1) ↔ M1 < M2 := by
  obtain ⟨c1, c2⟩ := fr_cross (M1 := M1) (M2 := M2) h
  have hp : (0 : Int) < (de G M1 * de G M2 : Nat) := by have := Nat.mul_pos (de_pos (M := M1) h) (de_pos (M := M2) h); lia
  have hG : (0 : Int) < G := by lia
  constructor
  · intro x
    have := Int.mul_lt_mul_of_pos_right x hG
    rw [c1, c2] at this
    exact Int.lt_of_mul_lt_mul_right this (Int.le_of_lt hp)
  · intro x
    have := Int.mul_lt_mul_of_pos_right x hp
    rw [← c1, ← c2] at this
    exact Int.lt_of_mul_lt_mul_right this (Int.le_of_lt hG)
theorem fr_le {G : Nat} {M1 M2 : Int} (h : 0 < G) : (nu G M1 * de G M2 ≤ nu G M2 * de G M1) ↔ M1 ≤ M2 := by
  have := fr_lt (M1 := M2) (M2 := M1) h
  lia
theorem fr_sum {G : Nat} {M1 M2 : Int} (h : 0 < G) : red (nu G M1 * de G M2 + nu G M2 * de G M1) (de G M1 * de G M2) = fr G (M1 + M2) := by
  obtain ⟨c1, c2⟩ := fr_cross (M1 := M1) (M2 := M2) h
  exact red_eq (Nat.mul_pos (de_pos h) (de_pos h)) h (by rw [Int.add_mul, c1, c2, Int.add_mul])
theorem fr_mul {G : Nat} {M i : Int} (h : 0 < G) : red (nu G M * i) (de G M) = fr G (M * i) := by
  refine red_eq (de_pos h) h ?_
  rw [Int.mul_assoc, Int.mul_comm i, ← Int.mul_assoc, nu_de h, Int.mul_assoc, Int.mul_comm (de G M : Int), ← Int.mul_assoc]
theorem fr_zero {G : Nat} {M : Int} (h : 0 < G) : red (nu G M + 0 * de G M) (de G M) = fr G M := by
  rw [Int.zero_mul, Int.add_zero]
  exact red_eq (de_pos h) h (nu_de h)
theorem small_r {p : Int} {q : Nat} (h : q < 1000000000) : IntMulOk p q := .of_right (intBits_le_64 (by lia) (by lia))
theorem nu_small {G : Nat} {M : Int} (h : 0 < G) (h1 : -1000000000 < M) (h2 : M < 1000000000) {i : Int} : IntMulOk (nu G M) i := by
  refine .of_left (intBits_le_64 ?_ ?_)
  · unfold nu
    have hg := gG_pos (N := M) h
    rcases Int.lt_or_le M 0 with q | q
    · have h3 : M ≤ M / (gG M G : Int) := by
        refine (Int.le_ediv_iff_mul_le (by lia)).mpr ?_
        have : M * (gG M G : Int) ≤ M * 1 := Int.mul_le_mul_of_nonpos_left (Int.le_of_lt q) (by lia)
        lia
      lia
    · have : 0 ≤ M / (gG M G : Int) := Int.ediv_nonneg q (by lia)
      lia
  · unfold nu
    have hg := gG_pos (N := M) h
    rcases Int.lt_or_le M 0 with q | q
    · have : M / (gG M G : Int) < 0 := Int.ediv_neg_of_neg_of_pos q (by lia)
      lia
    · have : M / (gG M G : Int) ≤ M := Int.ediv_le_self _ q
      lia
section
variable {w : World} {n : Nat} {μ : List Cell} {G : Nat} {M1 M2 M i : Int}
theorem o_fr_add (h : 0 < G) (hz : G < 10000) : OI w (n + 3) (binaryOp .Add) (fr G M1) (fr G M2) μ (fr G (M1 + M2)) := by
  rw [← fr_sum h]
  have l1 := de_le (G := G) (M := M1)
  have l2 := de_le (G := G) (M := M2)
  have hm : de G M1 * de G M2 ≤ 10000 * 10000 := Nat.mul_le_mul (by lia) (by lia)
  exact o_fadd (small_r (by lia)) (small_r (by lia)) (small_r (by lia)) (Nat.mul_pos (de_pos h) (de_pos h)) (by lia)
theorem o_fr_mul (h : 0 < G) (hz : G < 10000) (h1 : -1000000000 < M) (h2 : M < 1000000000) : OI w (n + 3) (binaryOp .Mult) (fr G M) (.int i) μ (fr G (M * i)) := by
  rw [← fr_mul h]
  have l1 := de_le (G := G) (M := M)
  exact o_fmulI (nu_small h h1 h2) (de_pos h) (by lia)
theorem o_fr_add0 (h : 0 < G) (hz : G < 10000) : OI w (n + 3) (binaryOp .Add) (fr G M) (.int 0) μ (fr G M) := by
  have := fr_zero (M := M) h
  have l1 := de_le (G := G) (M := M)
  have h3 := o_faddI (w := w) (n := n) (μ := μ) (p1 := nu G M) (q1 := de G M) (i := 0) (small_r (by lia)) (de_pos h) (by lia)
  rw [this] at h3
  exact h3
theorem o_fr_gt (h : 0 < G) (hz : G < 10000) : OI w (n + 1) (compareOp .Gt) (fr G M1) (fr G M2) μ (.bool (decide (M2 < M1))) := by
  have l1 := de_le (G := G) (M := M1)
  have l2 := de_le (G := G) (M := M2)
  rw [show decide (M2 < M1) = decide (nu G M2 * de G M1 < nu G M1 * de G M2) from decide_eq_decide.mpr (fr_lt h).symm]
  exact o_fgt (small_r (by lia)) (small_r (by lia))
theorem o_fr_ge (h : 0 < G) (hz : G < 10000) : OI w (n + 1) (compareOp .GtE) (fr G M1) (fr G M2) μ (.bool (decide (M2 ≤ M1))) := by
  have l1 := de_le (G := G) (M := M1)
  have l2 := de_le (G := G) (M := M2)
  rw [show decide (M2 ≤ M1) = decide (nu G M2 * de G M1 ≤ nu G M1 * de G M2) from decide_eq_decide.mpr (fr_le h).symm]
  exact o_fge (small_r (by lia)) (small_r (by lia))
theorem o_fr_eq (h : 0 < G) : OI w (n + 1) (compareOp .Eq) (fr G M1) (fr G M2) μ (.bool (M1 == M2)) := by
  rw [show (M1 == M2) = ((nu G M1 == nu G M2) && ((de G M1 : Int) == de G M2)) by
    rw [Bool.eq_iff_iff, beq_iff_eq, Bool.and_eq_true, beq_iff_eq, beq_iff_eq]
    exact ⟨fun e => by rw [e]; exact ⟨rfl, rfl⟩, fun e => fr_inj h e.1 (by have := e.2; lia)⟩]
  exact o_feq
theorem o_fr_gtN (h : 0 < G) (hz : G < 10000) : OI w (n + 1) (compareOp .Gt) (fr G M) (.int (-1)) μ (.bool (decide (-(G : Int) < M))) := by
  have l1 := de_le (G := G) (M := M)
  rw [show decide (-(G : Int) < M) = decide ((-1) * (de G M : Int) < nu G M) from decide_eq_decide.mpr (by
    have hd := de_pos (M := M) h
    have hG : (0 : Int) < G := by lia
    have e := nu_de (M := M) h
    constructor
    · intro x
      refine Int.lt_of_mul_lt_mul_right (a := (G : Int)) ?_ (Int.le_of_lt hG)
      rw [e, Int.mul_assoc, Int.mul_comm (de G M : Int), ← Int.mul_assoc]
      exact Int.mul_lt_mul_of_pos_right (by lia) (by lia)
    · intro x
      have := Int.mul_lt_mul_of_pos_right x hG
      rw [e, Int.mul_assoc, Int.mul_comm (de G M : Int), ← Int.mul_assoc] at this
      have := Int.lt_of_mul_lt_mul_right this (by lia)
      lia)]
  exact o_fgtI (small_r (by lia))
end
theorem range'_pick {α : Type} (xs : List α) : ∀ (c a : Nat), (List.range' a c).filterMap (xs[·]?) = (xs.drop a).take c
  | 0, a => by simp
  | c + 1, a => by
    rw [List.range'_succ, List.filterMap_cons]
    cases h : xs[a]? with
    | none =>
      have hl : xs.length ≤ a := List.getElem?_eq_none_iff.mp h
      dsimp only
      rw [range'_pick xs c (a + 1), List.drop_eq_nil_of_le (by lia), List.drop_eq_nil_of_le hl]; simp
    | some x =>
      dsimp only
      rw [range'_pick xs c (a + 1)]
      obtain ⟨hl, e⟩ := List.getElem?_eq_some_iff.mp h
      rw [List.drop_eq_getElem_cons hl, List.take_succ_cons, e]
theorem sliceRange_one (a b : Nat) : sliceRange (a : Int) (b : Int) 1 = List.range' a (b - a) := by
  unfold sliceRange
  simp only [show (1 : Int) > 0 by decide, if_true]
  have : (if (a : Int) < b then ((b : Int) - a + 1 - 1) / 1 else 0).toNat = b - a := by split <;> simp <;> lia
  rw [this, List.range'_eq_map_range]
  apply List.map_congr_left
  intro k _
  lia
noncomputable def clipL (n : Nat) (d : Nat) : Option Int → Nat
  | none => d
  | some i => (max 0 (min (if i < 0 then i + n else i) (n : Int))).toNat
noncomputable def pickA {α : Type} (xs : List α) (lo hi : Option Int) : List α := (xs.drop (clipL xs.length 0 lo)).take (clipL xs.length xs.length hi - clipL xs.length 0 lo)
theorem slicePick_eq (vs : List Value) (lo hi : Option Int) : slicePick vs.toArray lo hi none = (pickA vs lo hi).toArray := by
  have hb : sliceBounds lo hi none vs.length = ((clipL vs.length 0 lo : Int), (clipL vs.length vs.length hi : Int), 1) := by
    unfold sliceBounds clipL
    cases lo <;> cases hi <;> simp <;> lia
  unfold slicePick pickA
  rw [List.size_toArray, hb]
  dsimp only
  rw [sliceRange_one, ← range'_pick]
  simp
theorem VRels.drop {w : World} {h : Heap} {ρ : List Addr} {xs : List AV} {vs : List Value} (n : Nat) (H : VRels w h ρ xs vs) : VRels w h ρ (xs.drop n) (vs.drop n) :=
  VRels.ind (P := fun xs vs => ∀ n : Nat, VRels w h ρ (xs.drop n) (vs.drop n)) (fun n => by cases n <;> exact .nil) (fun _ _ _ _ hy r ih n => by
    cases n with
    | zero => exact .cons hy r
    | succ n => exact ih n) _ _ H n
theorem VRels.take {w : World} {h : Heap} {ρ : List Addr} {xs : List AV} {vs : List Value} (n : Nat) (H : VRels w h ρ xs vs) : VRels w h ρ (xs.take n) (vs.take n) :=
  VRels.ind (P := fun xs vs => ∀ n : Nat, VRels w h ρ (xs.take n) (vs.take n)) (fun n => by cases n <;> exact .nil) (fun _ _ _ _ hy r ih n => by
    cases n with
    | zero => exact .nil
    | succ n => exact .cons hy (ih n)) _ _ H n
theorem VRels.pick {w : World} {h : Heap} {ρ : List Addr} {xs : List AV} {vs : List Value} (r : VRels w h ρ xs vs) (lo hi : Option Int) : VRels w h ρ (pickA xs lo hi) (pickA vs lo hi) := by
  unfold pickA; rw [r.length]; exact (r.drop _).take _
section
variable {w : World} {n : Nat} {env : Env} {σ σ1 σ2 σ3 : St} {pos : Pos} {hb hb' hb1 hb2 : Heap} {ρ ρ' ρ1 ρ2 : List Addr} {s s' s1 s2 : Shared} {μ μ' : List Cell} {a b c : AV}
noncomputable def SP (w : World) (n : Nat) (env : Env) (e : Option Expr) (σ : St) (b : Option Int) (σ' : St) : Prop := TE w n env (evalPart e env) σ (fun _ _ v => IsPart v b) σ'
theorem sp_none : SP w n env none σ none σ := fun A hb ρ s Q E rm R k => wpAny_evalPart_none (k _ _ _ _ .refl R .none)
theorem sp_some {e : Expr} {i : Int} (h : SE w n env e σ (.int i) σ1) : SP w n env (some e) σ (some i) σ1 := fun A hb ρ s Q E rm R k =>
  wpAny_evalPart_some (h _ _ _ _ _ _ rm R fun hb1 ρ1 s1 v X1 R1 h1 => by obtain ⟨_, rfl⟩ := VRel.int_inv h1; exact k _ _ _ _ X1 R1 (.int _ _))
noncomputable def listOfAV (μ : List Cell) : AV → Option (List AV)
  | .lst xs => some xs
  | .hnd n => match μ[n]? with
    | some (.lst xs) => some xs
    | _ => none
  | _ => none
set_option tactic.hygienic true in
theorem list_ofX {xs : List AV} {v : Value} (R : RelM w hb ρ s μ) (h : VRel w hb ρ a v) (e : listOfAV μ a = some xs) : ∃ l vs, v = .ref l ∧ ExL s.heap l vs ∧ VRels w hb ρ xs vs := by
  cases h <;> try (simp only [listOfAV] at e; cases e; done)
  case lst ht hx => cases e; exact ⟨_, _, rfl, isList_keeps ht R.keep, hx⟩
  case hnd hn =>
    simp only [listOfAV] at e
    split at e
    · rename_i hm
      cases e
      refine eEEAA (R.at hm) ?_; rintro x o h1 h2 h3
      rw [h1] at hn; cases hn
      cases h3
      exact ⟨_, _, rfl, ⟨_, h2⟩, by assumption⟩
    · cases e
theorem list_of {xs : List AV} {v : Value} (R : RelM w hb ρ s μ) (h : VRel w hb ρ a v) (e : listOfAV μ a = some xs) : ∃ l vs, v = .ref l ∧ s.heap.IsList l (List.toArray vs) ∧ VRels w hb ρ xs vs :=
  eEEAA (list_ofX R h e) fun l vs h1 h2 h3 => ⟨l, vs, h1, h2.is, h3⟩
theorem se_slice {e : Expr} {lo hi : Option Expr} {p : Pos} {xs : List AV} {l u : Option Int} (h : SE w n env e σ a σ1) (hl : SP w n env lo σ1 l σ2) (hu : SP w n env hi σ2 u σ3) (hx : listOfAV σ3.mem a = some xs) (hz : xs.length ≤ 1000)
    (ht : autoParam (∀ o r, letTemporaryGo e o r = pure ()) auI) : SE w n env (.Subscript e (.Slice lo hi none p) pos) σ (.lst (pickA xs l u)) σ3 := fun A hb ρ s Q E rm R k =>
  wpAny_Subscript_list_slice (h _ _ _ _ _ _ rm R fun hb1 ρ1 s1 v X1 R1 h1 => hl _ _ _ _ _ _ rm R1 fun hb2 ρ2 s2 vl X2 R2 h2 => hu _ _ _ _ _ _ rm R2 fun hb3 ρ3 s3 vu X3 R3 h3 => by
    refine eEEAA (list_of R3.m ((h1.mono X2.base X2.pre).mono X3.base X3.pre) hx) ?_; rintro ll vs rfl h4 h5
    refine ⟨ll, vs.toArray, l, u, rfl, h4, by rw [List.size_toArray, h5.length, sizeLine_eq]; lia, h2, h3, ?_⟩
    rw [slicePick_eq]
    obtain ⟨hb', X4, R4, hget⟩ := grown_frozen (s' := { s3 with heap := (s3.heap.push { cls := .type "slice", data := .fields #[vl, vu, .none] }).push { cls := .type "list", data := .seq (pickA vs l u).toArray } }) R3.m (fun b o e => Heap.get?_push_of_some _ (Heap.get?_push_of_some _ e)) rfl rfl [s3.heap.objs.size + 1]
      (fun a ha => by rw [List.mem_singleton.mp ha]; exact dead_of_le (Nat.le_succ _))
    refine k _ _ _ _ (((X1.trans X2).trans X3).trans (X4.weaken fun _ q => nomatch q)) (R3.step X4 R4) (.lst ⟨0, hget _ (List.mem_singleton.mpr rfl) _ ?_⟩ ((h5.pick l u).mono X4.base X4.pre))
    have := Heap.get?_push_size (s3.heap.push { cls := .type "slice", data := .fields #[vl, vu, .none] }) (o := { cls := .type "list", data := .seq (pickA vs l u).toArray }) rfl
    rwa [Heap.size_push] at this) ht
variable {x y : Str}
theorem o_eqs : OI w n (compareOp .Eq) (.str x) (.str y) μ (.bool (x == y)) := fun A hb ρ s v u Q E rm R hv hu k => by
  obtain ⟨_, rfl⟩ := VRel.str_inv hv; obtain ⟨_, rfl⟩ := VRel.str_inv hu; exact PyProof.Rows.eq_str (k _ _ _ _ .refl R (.bool _))
theorem se_sliceS {e : Expr} {lo hi : Option Expr} {p : Pos} {l u : Option Int} (h : SE w n env e σ (.str x) σ1) (hl : SP w n env lo σ1 l σ2) (hu : SP w n env hi σ2 u σ3) (hz : x.length ≤ 1000)
    (ht : autoParam (∀ o r, letTemporaryGo e o r = pure ()) auI) : SE w n env (.Subscript e (.Slice lo hi none p) pos) σ (.str (Txt.slice x l u)) σ3 := fun A hb ρ s Q E rm R k =>
  wpAny_Subscript_str_slice (h _ _ _ _ _ _ rm R fun hb1 ρ1 s1 v X1 R1 h1 => hl _ _ _ _ _ _ rm R1 fun hb2 ρ2 s2 vl X2 R2 h2 => hu _ _ _ _ _ _ rm R2 fun hb3 ρ3 s3 vu X3 R3 h3 => by
    obtain ⟨t, rfl⟩ := h1.str_inv
    have fin : ∀ (l' u' : Option (Int × Tok)), l'.map (·.1) = l → u'.map (·.1) = u → (sliceMade x t l' u' none).post Q { s3 with heap := s3.heap.push { cls := .type "slice", data := .fields #[vl, vu, .none] } } := fun l' u' e1 e2 => by
      have hk : s3.heap.StaysIn (s3.heap.push { cls := .type "slice", data := .fields #[vl, vu, .none] }) := fun b o e => Heap.get?_push_of_some _ e
      have X4 : ∀ kk, Ext [] hb3 ρ3 s3 hb3 ρ3 { s3 with heap := s3.heap.push { cls := .type "slice", data := .fields #[vl, vu, .none] }, toks := kk } := fun kk => Ext.plain (fun b o e _ => hk b o e) (live_stays hk) rfl rfl
      refine post_val_or_str ⟨?_, fun t' kk => ?_⟩
      · refine Nat.le_trans (Txt.slice_le x l u |> fun h => ?_) (show 1000 ≤ sizeLine by rw [sizeLine_eq]; lia)
        subst e1 e2
        exact Nat.le_trans h hz
      · subst e1 e2
        exact k _ _ _ _ (((X1.trans X2).trans X3).trans ((X4 kk).weaken fun _ q => nomatch q)) (R3.step (X4 kk) (R3.m.grow hk rfl)) (.str _ _)
    cases h2 with
    | none => cases h3 with
      | none => exact ⟨x, t, none, none, rfl, rfl, rfl, fin none none rfl rfl⟩
      | int j tj => exact ⟨x, t, none, some (j, tj), rfl, rfl, rfl, fin none (some (j, tj)) rfl rfl⟩
    | int i ti => cases h3 with
      | none => exact ⟨x, t, some (i, ti), none, rfl, rfl, rfl, fin (some (i, ti)) none rfl rfl⟩
      | int j tj => exact ⟨x, t, some (i, ti), some (j, tj), rfl, rfl, rfl, fin (some (i, ti)) (some (j, tj)) rfl rfl⟩) ht
theorem fn_int_str {i : Int} (h : PySem.intText? x = some i) (hl : x.length ≤ 640) : FN w n (.val (.type "int")) [.str x] [] μ (.int i) μ := fun A hb ρ s fv vs kvs Q E rm R hf hvs hks k => by
  obtain rfl := VRel.val_inv hf; obtain rfl := hks.inv0
  refine eEA hvs.inv1 ?_; rintro _ rfl h1
  obtain ⟨t, rfl⟩ := h1.str_inv
  exact PySem.W.KIN.call_text h hl (k _ _ _ _ (Ext.toks _) (R.toks _) (.int _ _))
end
inductive Rl where
  | pav | slav | cc | geom2 | geom3
noncomputable def Rl.nm : Rl → Str
  | pav => "pav" | slav => "slav" | cc => "cc" | geom2 => "geom2" | geom3 => "geom3"
noncomputable def Rl.G : Rl → Nat
  | pav => 12 | slav => 105 | cc => 1 | geom2 => 8 | geom3 => 27
noncomputable def Rl.gains : Rl → List Int
  | pav => [12, 6, 4, 3] | slav => [105, 35, 21, 15] | cc => [1, 0, 0, 0] | geom2 => [8, 4, 2, 1] | geom3 => [27, 9, 3, 1]
noncomputable def Rl.gain (r : Rl) (i : Nat) : Int := r.gains.getD (i - 1) 0
noncomputable def Rl.msf : Rl → AV
  | pav => .msf "pav" .none | slav => .msf "slav" .none | cc => .msf "cc" .none | geom2 => .msf "geom" (.int 2) | geom3 => .msf "geom" (.int 3)
theorem Rl.G_pos (r : Rl) : 0 < r.G := by cases r <;> decide
theorem Rl.G_le (r : Rl) : r.G < 10000 := by cases r <;> decide
theorem Rl.gain_le (r : Rl) (i : Nat) : 0 ≤ r.gain i ∧ r.gain i ≤ 105 := by
  unfold gain
  rcases Nat.lt_or_ge (i - 1) 4 with h | h
  · have : i - 1 = 0 ∨ i - 1 = 1 ∨ i - 1 = 2 ∨ i - 1 = 3 := by lia
    rcases this with h | h | h | h <;> rw [h] <;> cases r <;> decide
  · have : r.gains.length = 4 := by cases r <;> rfl
    rw [List.getD_eq_getElem?_getD, List.getElem?_eq_none (by lia)]; decide
section
variable {w : World} {n : Nat} {env : Env} {σ σ1 σ2 σ3 : St} {pos : Pos} {hb hb' hb1 hb2 : Heap} {ρ ρ' ρ1 ρ2 : List Addr} {s s' s1 s2 : Shared} {μ μ' : List Cell} {a b c : AV}
variable {i j p : Int} {q : Nat} {p1 p2 : Int} {q1 q2 : Nat} {nm : Str} {par : AV} {S : List Nat} {wt : Int} {k : Nat}
theorem sxx_ifTe {t : Expr} {xs ys rest : List Stmt} {P : St → AF → Prop} {bb : Bool} (h : SB w n env t σ bb σ1) (e : bb = true) (hx : SXX w n env xs σ1 (Then w n env rest P)) : SXX w n env (.If t xs ys pos :: rest) σ P := sxx_ifT (e ▸ h) hx
theorem FC.eq {f : AV} {as : List AV} {ks : List (Str × AV)} {r r' : AV} (h : FC w n f as ks μ r μ') (e : r = r') : FC w n f as ks μ r' μ' := e ▸ h
theorem FN.eq {f : AV} {as : List AV} {ks : List (Str × AV)} {r r' : AV} (h : FN w n f as ks μ r μ') (e : r = r') : FN w n f as ks μ r' μ' := e ▸ h
theorem frac_new' {N : Int} {D : Nat} {d : Int} (h0 : 0 < D) (h1 : D < 1073741824) (e : d = D) : FN w (n + 2) (.val (.ref 194)) [.int N, .int d] [] μ (red N D) μ := by rw [e]; exact (frac_new h0 h1).fn
theorem f_pav (h0 : 0 < k) (h1 : k < 1000) : FC w (n + 3) (.val (.ref 285)) [.int k] [] μ (red 1 k) μ := by
  refine fc_plain ⟨_, _, _, by k_is⟩ (by k_is) rfl rfl (hb1_ fun _ => by rfl) (by rfl) (by rfl) (fun L => ?_)
  refine sxx_ifNe (sb_cmp (seL rfl) se_int o_eq) (by rw [beq_eq_false_iff_ne]; lia) ?_
  exact sxx_stop (ss_return (se_call (se_glob g_Fraction) (kept_ref (by k_is)) (scN se_int (scN (seL rfl) snN)) (frac_new h0 (by lia)).fn)) ⟨rfl, rfl⟩
theorem f_slav (h0 : 0 < k) (h1 : k < 1000) : FC w (n + 3) (.val (.ref 299)) [.int k] [] μ (red 1 (2 * k - 1)) μ := by
  refine fc_plain ⟨_, _, _, by k_is⟩ (by k_is) rfl rfl (hb1_ fun _ => by rfl) (by rfl) (by rfl) (fun L => ?_)
  refine sxx_ifNe (sb_cmp (seL rfl) se_int o_eq) (by rw [beq_eq_false_iff_ne]; lia) ?_
  exact sxx_stop (ss_return (se_call (se_glob g_Fraction) (kept_ref (by k_is)) (scN se_int (scN (se_binop (se_binop se_int (seL rfl) (o_mul (small_r (by lia)))) se_int o_sub) snN)) (frac_new' (D := 2 * k - 1) (by lia) (by lia) (by lia)))) ⟨rfl, rfl⟩
theorem f_cc1 : FC w (n + 3) (.val (.ref 313)) [.int 1] [] μ (red 1 1) μ := by
  refine fc_plain ⟨_, _, _, by k_is⟩ (by k_is) rfl rfl (hb1_ fun _ => by rfl) (by rfl) (by rfl) (fun L => ?_)
  refine sxx_ifTe (sb_cmp (seL rfl) se_int o_eq) (by rfl) ?_
  exact sxx_stop (ss_return (se_call (se_glob g_Fraction) (kept_ref (by k_is)) (scN se_int snN) frac_new1.fn)) ⟨rfl, rfl⟩
theorem f_cc0 (h0 : i ≠ 1) : FC w (n + 3) (.val (.ref 313)) [.int i] [] μ (red 0 1) μ := by
  refine fc_plain ⟨_, _, _, by k_is⟩ (by k_is) rfl rfl (hb1_ fun _ => by rfl) (by rfl) (by rfl) (fun L => ?_)
  refine sxx_ifNe (sb_cmp (seL rfl) se_int o_eq) (by rw [beq_eq_false_iff_ne]; exact h0) ?_
  exact sxx_stop (ss_return (se_call (se_glob g_Fraction) (kept_ref (by k_is)) (scN se_int snN) frac_new1.fn)) ⟨rfl, rfl⟩
theorem o_pow {x : Int} {e : Nat} (hx : x = 2 ∨ x = 3) (he : e < 4) : OI w n (binaryOp .Pow) (.int x) (.int e) μ (.int (x ^ e)) := fun A hb ρ s v u Q E rm R hv hu k => by
  obtain ⟨_, rfl⟩ := VRel.int_inv hv; obtain ⟨_, rfl⟩ := VRel.int_inv hu
  have fin : ∀ v : Int, v = x ^ e → (Made.int v).post Q s := fun v hv => by subst hv; exact k _ _ _ _ (Ext.toks _) (R.toks _) (.int _ _)
  rcases Nat.eq_zero_or_pos e with h0 | h0
  · subst h0
    exact AutoIntOps.pow_0 (by decide) (by decide) (fin 1 (by simp))
  · refine AutoIntOps.pow_4 (by lia) (by simp; lia) (by rcases hx with rfl | rfl <;> decide) (by rcases hx with rfl | rfl <;> decide) ?_ (fin _ (by rw [Int.toNat_natCast]))
    have : Builtin.Int.intBits x = 2 := by rcases hx with rfl | rfl <;> rfl
    rw [this]
    have he' : e = 1 ∨ e = 2 ∨ e = 3 := by lia
    rcases he' with rfl | rfl | rfl <;> decide
theorem f_geom {x : Nat} (hx : x = 2 ∨ x = 3) (h0 : 0 < k) (h1 : k < 5) : FC w (n + 3) (.val (.ref 278)) [.int k] [("base", .int x)] μ (red 1 (x ^ (k - 1))) μ := by
  refine fc_plain ⟨_, _, _, by k_is⟩ (by k_is) rfl rfl (fun hb ρ s vs kvs _ _ hv hk => ?_) (bl := [("i", .int k), ("base", .int x)]) (by rfl) (by rfl) (fun L => ?_)
  · refine eEA hv.inv1 ?_; rintro _ rfl h1
    refine eEA hk.inv1 ?_; rintro _ rfl h2
    exact ⟨_, .of_eq (by rfl), .cons h1 (.cons h2 .nil)⟩
  refine sxx_ifNe (sb_cmp (seL rfl) se_int o_eq) (by rw [beq_eq_false_iff_ne]; lia) ?_
  refine sxx_stop (ss_return (se_call (se_glob g_Fraction) (kept_ref (by k_is)) (scN se_int (scN (se_binop (seL rfl) (se_binop (seL rfl) se_int o_sub) ?_) snN)) (frac_new' (d := (x : Int) ^ (k - 1)) (D := x ^ (k - 1)) ?_ ?_ ?_))) ⟨rfl, rfl⟩
  · have := o_pow (w := w) (n := n + 2) (μ := μ) (x := x) (e := k - 1) (by lia) (by lia)
    rwa [show ((k - 1 : Nat) : Int) = (k : Int) - 1 by lia] at this
  · exact Nat.pow_pos (by lia)
  · have : k - 1 = 0 ∨ k - 1 = 1 ∨ k - 1 = 2 ∨ k - 1 = 3 := by lia
    rcases this with e | e | e | e <;> rw [e] <;> rcases hx with rfl | rfl <;> decide
  · rw [Int.natCast_pow]
end
section
variable {w : World} {n : Nat} {env : Env} {σ σ1 σ2 σ3 : St} {pos : Pos} {hb hb' hb1 hb2 : Heap} {ρ ρ' ρ1 ρ2 : List Addr} {s s' s1 s2 : Shared} {μ μ' : List Cell} {a b c : AV}
variable {i j p : Int} {q : Nat} {p1 p2 : Int} {q1 q2 : Nat} {nm : Str} {par : AV} {S : List Nat} {wt : Int} {k : Nat}
theorem g_pav : nsIn (Internal.hd.heap_1 w.params) mainGlobals "pav_score_fct" = some (some (.ref 285)) := by k_is
theorem g_slav : nsIn (Internal.hd.heap_1 w.params) mainGlobals "slav_score_fct" = some (some (.ref 299)) := by k_is
theorem g_cc : nsIn (Internal.hd.heap_1 w.params) mainGlobals "cc_score_fct" = some (some (.ref 313)) := by k_is
theorem g_geom : nsIn (Internal.hd.heap_1 w.params) mainGlobals "geometric_marginal_score_fct" = some (some (.ref 278)) := by k_is
theorem o_name : O1 w n (fun v => getAttr v "name" true) (.msf nm par) μ (fun hb ρ v => VRel w hb ρ (.str nm) v) μ := o_own rfl rfl (by k_is) (by k_is) (by k_is) (by k_is)
theorem o_param (h : par.known = true) : O1 w n (fun v => getAttr v "param" true) (.msf nm par) μ (fun hb ρ v => VRel w hb ρ par v) μ := o_own rfl rfl (by k_is) (by k_is) (by k_is) (by k_is) h
theorem red_of {x G : Nat} {M : Int} (hx : 0 < x) (hG : 0 < G) (e : (1 : Int) * G = M * x) : red 1 x = fr G M := red_eq hx hG e
theorem msf_call (r : Rl) (h0 : 0 < k) (h1 : k < 5) : FC w (n + 4) r.msf [.int k] [] μ (fr r.G (r.gain k)) μ := by
  have hk : k = 1 ∨ k = 2 ∨ k = 3 ∨ k = 4 := by lia
  cases r with
  | pav =>
    refine FC.eq (fc_inst rfl (by k_is) (by k_is) (by k_is) ?_) (red_of (x := k) h0 (by decide) (by rcases hk with rfl | rfl | rfl | rfl <;> decide))
    refine fc_plain ⟨_, _, _, by k_is⟩ (by k_is) rfl rfl (hb2_ fun _ _ => by rfl) (by rfl) (by rfl) (fun L => ?_)
    refine sxx_ifTe (sb_cmp (se_attr (seL rfl) o_name) se_str o_eqs) (by rfl) ?_
    exact sxx_stop (ss_return (se_call (se_glob g_pav) (kept_ref (by k_is)) (scN (seL rfl) snN) (f_pav h0 (by lia)).fn)) ⟨rfl, rfl⟩
  | slav =>
    refine FC.eq (fc_inst rfl (by k_is) (by k_is) (by k_is) ?_) (red_of (x := 2 * k - 1) (by lia) (by decide) (by rcases hk with rfl | rfl | rfl | rfl <;> decide))
    refine fc_plain ⟨_, _, _, by k_is⟩ (by k_is) rfl rfl (hb2_ fun _ _ => by rfl) (by rfl) (by rfl) (fun L => ?_)
    refine sxx_ifNe (sb_cmp (se_attr (seL rfl) o_name) se_str o_eqs) (by rfl) ?_
    refine sxx_ifNe (sb_cmp (se_attr (seL rfl) o_name) se_str o_eqs) (by rfl) ?_
    refine sxx_ifTe (sb_cmp (se_attr (seL rfl) o_name) se_str o_eqs) (by rfl) ?_
    exact sxx_stop (ss_return (se_call (se_glob g_slav) (kept_ref (by k_is)) (scN (seL rfl) snN) (f_slav h0 (by lia)).fn)) ⟨rfl, rfl⟩
  | cc =>
    refine FC.eq (r := if k = 1 then red 1 1 else red 0 1) (fc_inst rfl (by k_is) (by k_is) (by k_is) ?_) (by rcases hk with rfl | rfl | rfl | rfl <;> rfl)
    refine fc_plain ⟨_, _, _, by k_is⟩ (by k_is) rfl rfl (hb2_ fun _ _ => by rfl) (by rfl) (by rfl) (fun L => ?_) (by split <;> rfl)
    refine sxx_ifNe (sb_cmp (se_attr (seL rfl) o_name) se_str o_eqs) (by rfl) ?_
    refine sxx_ifNe (sb_cmp (se_attr (seL rfl) o_name) se_str o_eqs) (by rfl) ?_
    refine sxx_ifNe (sb_cmp (se_attr (seL rfl) o_name) se_str o_eqs) (by rfl) ?_
    refine sxx_ifTe (sb_cmp (se_attr (seL rfl) o_name) se_str o_eqs) (by rfl) ?_
    refine sxx_stop (ss_return (se_call (se_glob g_cc) (kept_ref (by k_is)) (scN (seL rfl) snN) (r := if k = 1 then red 1 1 else red 0 1) ?_)) ⟨rfl, rfl⟩
    by_cases e : k = 1
    · subst e; exact f_cc1.fn
    · rw [if_neg e]; exact (f_cc0 (by lia)).fn
  | geom2 =>
    refine FC.eq (fc_inst rfl (by k_is) (by k_is) (by k_is) ?_) (red_of (x := 2 ^ (k - 1)) (Nat.pow_pos (by decide)) (by decide) (by rcases hk with rfl | rfl | rfl | rfl <;> decide))
    refine fc_plain ⟨_, _, _, by k_is⟩ (by k_is) rfl rfl (hb2_ fun _ _ => by rfl) (by rfl) (by rfl) (fun L => ?_)
    refine sxx_ifNe (sb_cmp (se_attr (seL rfl) o_name) se_str o_eqs) (by rfl) ?_
    refine sxx_ifNe (sb_cmp (se_attr (seL rfl) o_name) se_str o_eqs) (by rfl) ?_
    refine sxx_ifNe (sb_cmp (se_attr (seL rfl) o_name) se_str o_eqs) (by rfl) ?_
    refine sxx_ifNe (sb_cmp (se_attr (seL rfl) o_name) se_str o_eqs) (by rfl) ?_
    refine sxx_ifNe (sb_cmp (se_attr (seL rfl) o_name) se_str o_eqs) (by rfl) ?_
    refine sxx_ifTe (sb_cmp (se_attr (seL rfl) o_name) se_str o_eqs) (by rfl) ?_
    exact sxx_stop (ss_return (se_callK (se_glob g_geom) (kept_ref (by k_is)) (scN (seL rfl) snN) (sks_cons (se_attr (seL rfl) (o_param rfl)) sks_nil) (f_geom (x := 2) (.inl rfl) h0 (by lia)).fn)) ⟨rfl, rfl⟩
  | geom3 =>
    refine FC.eq (fc_inst rfl (by k_is) (by k_is) (by k_is) ?_) (red_of (x := 3 ^ (k - 1)) (Nat.pow_pos (by decide)) (by decide) (by rcases hk with rfl | rfl | rfl | rfl <;> decide))
    refine fc_plain ⟨_, _, _, by k_is⟩ (by k_is) rfl rfl (hb2_ fun _ _ => by rfl) (by rfl) (by rfl) (fun L => ?_)
    refine sxx_ifNe (sb_cmp (se_attr (seL rfl) o_name) se_str o_eqs) (by rfl) ?_
    refine sxx_ifNe (sb_cmp (se_attr (seL rfl) o_name) se_str o_eqs) (by rfl) ?_
    refine sxx_ifNe (sb_cmp (se_attr (seL rfl) o_name) se_str o_eqs) (by rfl) ?_
    refine sxx_ifNe (sb_cmp (se_attr (seL rfl) o_name) se_str o_eqs) (by rfl) ?_
    refine sxx_ifNe (sb_cmp (se_attr (seL rfl) o_name) se_str o_eqs) (by rfl) ?_
    refine sxx_ifTe (sb_cmp (se_attr (seL rfl) o_name) se_str o_eqs) (by rfl) ?_
    exact sxx_stop (ss_return (se_callK (se_glob g_geom) (kept_ref (by k_is)) (scN (seL rfl) snN) (sks_cons (se_attr (seL rfl) (o_param rfl)) sks_nil) (f_geom (x := 3) (.inr rfl) h0 (by lia)).fn)) ⟨rfl, rfl⟩
noncomputable def msfCells (μ : List Cell) (nm : Str) (par : AV) : List Cell := (μ ++ [.dct [("name", .str nm), ("param", par)]]) ++ [.ins 252 μ.length]
theorem msf_init {as : List AV} (hp : par.pure = true) (HB : ∀ fd, FDK w 242 fd → HBind w fd as [] [("self", .hnd (μ.length + 1)), ("name", .str nm), ("param", par)]) :
    FC w (n + 1) (.val (.ref 242)) as [] ((μ ++ [.dct []]) ++ [.ins 252 μ.length]) .none (msfCells μ nm par) := by
  refine fc_def (fun σ' r => σ'.mem = msfCells μ nm par ∧ r = .none) ⟨_, _, _, by k_is⟩ (by k_is) rfl rfl (HB _ ⟨_, _, _, by k_is⟩) (by rfl) (by rfl) (fun L => ?_) (fun σ' r h => ?_) (by simp [msfCells]) ?_
  rotate_left
  · rw [h.1, h.2]; exact ⟨closes_same rfl, Nat.le_refl _⟩
  · exact inb_mono_cells (by show fbelow _ _ = true; unfold fbelow; simp [AV.inb]; exact AV.inb_of_pure hp)
  refine sxC (ss_setattr (seL rfl) (seL rfl) (o_set2 (Nat.le_of_ble_eq_true rfl) (by k_is) (by k_is) (by k_is) (by k_is))) ?_
  refine sxC (ss_setattr (seL rfl) (seL rfl) (o_set2 (Nat.le_of_ble_eq_true rfl) (by k_is) (by k_is) (by k_is) (by k_is))) ?_
  exact sxx_nil ⟨_, rfl, rfl, rfl⟩
theorem msf_make {as : List AV} (hp : par.pure = true) (h : FC w n (.val (.ref 242)) (.hnd (μ.length + 1) :: as) [] ((μ ++ [.dct []]) ++ [.ins 252 μ.length]) .none (msfCells μ nm par)) :
    FC w (n + 1) (.val (.ref 252)) as [] μ (.msf nm par) μ :=
  fc_make (by k_is) (by k_is) (by k_is) h (by
    unfold msfCells
    rw [List.append_assoc]
    exact closes_msf hp (by lia) (Nat.le_refl _) (by simp) (by simp)) (Nat.le_refl _) (by simp [msfCells]) (fun h => h)
theorem msf_new1 : FC w (n + 2) (.val (.ref 252)) [.str nm] [] μ (.msf nm .none) μ :=
  msf_make rfl (msf_init rfl fun fd hf => hb_of ⟨_, _, _, by k_is⟩ (hbD rfl (by k_is) fun hb ρ vs kvs hv hk => by
    refine eEEAA hv.inv2 ?_; rintro _ _ rfl h1 h2; obtain rfl := hk.inv0
    exact ⟨_, _, rfl, rfl, .cons h1 (.cons h2 (.cons .none .nil))⟩) hf)
theorem msf_new2 : FC w (n + 2) (.val (.ref 252)) [.str nm, .int i] [] μ (.msf nm (.int i)) μ :=
  msf_make rfl (msf_init rfl fun fd hf => hb_of ⟨_, _, _, by k_is⟩ (hbD rfl (by k_is) fun hb ρ vs kvs hv hk => by
    refine eEEEAAA hv.inv3 ?_; rintro _ _ _ rfl h1 h2 h3; obtain rfl := hk.inv0
    exact ⟨_, _, rfl, rfl, .cons h1 (.cons h2 (.cons h3 .nil))⟩) hf)
theorem f_getm (r : Rl) : FC w (n + 3) (.val (.ref 264)) [.str r.nm, .int i] [] μ r.msf μ := by
  refine fc_plain ⟨_, _, _, by k_is⟩ (by k_is) rfl rfl (hbD rfl (by k_is) fun hb ρ vs kvs hv hk => ?_) (bl := [("scorefct_id", .str r.nm), ("committeesize", .int i)]) (by rfl) (by rfl) (fun L => ?_) (by cases r <;> rfl)
  · refine eEEAA hv.inv2 ?_; rintro _ _ rfl h1 h2; obtain rfl := hk.inv0
    exact ⟨_, _, rfl, rfl, .cons h1 (.cons h2 .nil)⟩
  cases r with
  | pav =>
    refine sxx_ifTe (sb_cmp (seL rfl) se_str o_eqs) (by rfl) ?_
    exact sxx_stop (ss_return (se_call (se_glob g_MSF) (kept_ref (by k_is)) (scN se_str snN) msf_new1.fn)) ⟨rfl, rfl⟩
  | slav =>
    refine sxx_ifNe (sb_cmp (seL rfl) se_str o_eqs) (by rfl) ?_
    refine sxx_ifNe (sb_cmp (seL rfl) se_str o_eqs) (by rfl) ?_
    refine sxx_ifTe (sb_cmp (seL rfl) se_str o_eqs) (by rfl) ?_
    exact sxx_stop (ss_return (se_call (se_glob g_MSF) (kept_ref (by k_is)) (scN se_str snN) msf_new1.fn)) ⟨rfl, rfl⟩
  | cc =>
    refine sxx_ifNe (sb_cmp (seL rfl) se_str o_eqs) (by rfl) ?_
    refine sxx_ifNe (sb_cmp (seL rfl) se_str o_eqs) (by rfl) ?_
    refine sxx_ifNe (sb_cmp (seL rfl) se_str o_eqs) (by rfl) ?_
    refine sxx_ifTe (sb_cmp (seL rfl) se_str o_eqs) (by rfl) ?_
    exact sxx_stop (ss_return (se_call (se_glob g_MSF) (kept_ref (by k_is)) (scN se_str snN) msf_new1.fn)) ⟨rfl, rfl⟩
  | geom2 =>
    refine sxx_ifNe (sb_cmp (seL rfl) se_str o_eqs) (by rfl) ?_
    refine sxx_ifNe (sb_cmp (seL rfl) se_str o_eqs) (by rfl) ?_
    refine sxx_ifNe (sb_cmp (seL rfl) se_str o_eqs) (by rfl) ?_
    refine sxx_ifNe (sb_cmp (seL rfl) se_str o_eqs) (by rfl) ?_
    refine sxx_ifNe (sb_cmp (seL rfl) se_str o_eqs) (by rfl) ?_
    refine sxx_ifTe (sb_cmp (se_sliceS (seL rfl) sp_none (sp_some se_int) (by decide)) se_str o_eqs) (by rfl) ?_
    refine sxC (ss_assign (se_call (se_builtin b_int (by rfl) (by decide)) kept_type (scN (se_sliceS (seL rfl) (sp_some se_int) sp_none (by decide)) snN) (fn_int_str (i := 2) (by decide +kernel) (by decide)))) ?_
    exact sxx_stop (ss_return (se_call (se_glob g_MSF) (kept_ref (by k_is)) (scN se_str (scN (seL rfl) snN)) msf_new2.fn)) ⟨rfl, rfl⟩
  | geom3 =>
    refine sxx_ifNe (sb_cmp (seL rfl) se_str o_eqs) (by rfl) ?_
    refine sxx_ifNe (sb_cmp (seL rfl) se_str o_eqs) (by rfl) ?_
    refine sxx_ifNe (sb_cmp (seL rfl) se_str o_eqs) (by rfl) ?_
    refine sxx_ifNe (sb_cmp (seL rfl) se_str o_eqs) (by rfl) ?_
    refine sxx_ifNe (sb_cmp (seL rfl) se_str o_eqs) (by rfl) ?_
    refine sxx_ifTe (sb_cmp (se_sliceS (seL rfl) sp_none (sp_some se_int) (by decide)) se_str o_eqs) (by rfl) ?_
    refine sxC (ss_assign (se_call (se_builtin b_int (by rfl) (by decide)) kept_type (scN (se_sliceS (seL rfl) (sp_some se_int) sp_none (by decide)) snN) (fn_int_str (i := 3) (by decide +kernel) (by decide)))) ?_
    exact sxx_stop (ss_return (se_call (se_glob g_MSF) (kept_ref (by k_is)) (scN se_str (scN (seL rfl) snN)) msf_new2.fn)) ⟨rfl, rfl⟩
end
section
open PySem.Spec
noncomputable def ins4 (x : Nat) (xs : List Nat) : List Nat := (List.range 4).filter fun y => xs.contains y || y == x
theorem s16_all {P : List Nat → Prop} (h : P [] ∧ P [0] ∧ P [1] ∧ P [0, 1] ∧ P [2] ∧ P [0, 2] ∧ P [1, 2] ∧ P [0, 1, 2] ∧ P [3] ∧ P [0, 3] ∧ P [1, 3] ∧ P [0, 1, 3] ∧ P [2, 3] ∧ P [0, 2, 3] ∧ P [1, 2, 3] ∧ P [0, 1, 2, 3]) : ∀ xs ∈ S16, P xs := by
  intro xs hxs
  simp only [S16, List.mem_cons, List.not_mem_nil, or_false] at hxs
  obtain ⟨h1, h2, h3, h4, h5, h6, h7, h8, h9, h10, h11, h12, h13, h14, h15, h16⟩ := h
  rcases hxs with rfl | rfl | rfl | rfl | rfl | rfl | rfl | rfl | rfl | rfl | rfl | rfl | rfl | rfl | rfl | rfl <;> assumption
theorem ins4_mem : ∀ xs ∈ S16, ∀ x < 4, ins4 x xs ∈ S16 := by decide
theorem s16_lt : ∀ xs ∈ S16, ∀ x ∈ xs, x < 4 := by decide
theorem s16_len : ∀ xs ∈ S16, xs.length ≤ 4 := by decide
theorem s16_nodup : ∀ xs ∈ S16, xs.Nodup := by decide
theorem ins4_same : ∀ xs ∈ S16, ∀ x < 4, xs.contains x = true → ins4 x xs = xs := by decide
section
variable {w : World} {n : Nat} {env : Env} {σ σ1 σ2 σ3 : St} {pos : Pos} {hb hb' hb1 hb2 : Heap} {ρ ρ' ρ1 ρ2 : List Addr} {s s' s1 s2 : Shared} {μ μ' : List Cell} {a b c : AV}
variable {led : Bool} {ts : Nat → Tok} {ep fin mov : Nat} {xs : List Nat} {A : Around} {E : Value → Shared → Prop} {sa : Addr}
theorem setEs_mem {e : Int × Value} (h : e ∈ (setEs ts xs).toList) : ∃ x ∈ xs, e = ((x : Int), .int (x : Int) (ts x)) := by
  simp only [setEs, List.mem_map] at h
  refine eEA h ?_; clear h; rintro x hx rfl
  exact ⟨x, hx, rfl⟩
theorem hash_small : ∀ x < 4, hashInt ((x : Nat) : Int) = (x : Int) := by decide
theorem set_els {prog : Program} (hx : xs ∈ S16) : ElemsOf (intKind prog w) (setEs ts xs).toList := fun e he => by
  refine eEA (setEs_mem he) ?_; rintro x h1 rfl
  exact ⟨⟨(x : Int), intKind_is _ _ _ _, (hash_small x (s16_lt _ hx _ h1)).symm⟩, rfl⟩
theorem set_mem {prog : Program} (k : Int) : (xs.any fun x => decide ((x : Int) = k)) = true ↔ ∃ e ∈ (setEs ts xs).toList, (intKind prog w).is k e.2 = true := by
  rw [List.any_eq_true]
  constructor
  · rintro ⟨x, h1, h2⟩
    exact ⟨((x : Int), .int (x : Int) (ts x)), by simp only [setEs, List.mem_map]; exact ⟨x, h1, rfl⟩, by rw [of_decide_eq_true h2]; exact intKind_is _ _ _ _⟩
  · rintro ⟨e, h1, h2⟩
    refine eEA (setEs_mem h1) ?_; rintro x h3 rfl
    refine ⟨x, h3, decide_eq_true ?_⟩
    exact (intKind prog w).inj _ _ _ (intKind_is _ _ _ _) h2
theorem setEs_size : (setEs ts xs).size = xs.length := by simp [setEs]
theorem set_fits (hx : xs ∈ S16) : (setTab led fin mov xs).fits (setEs ts xs).size = true := by
  have := s16_len _ hx
  rw [setEs_size]
  simp [SetTable.fits, SetTable.fill]; lia
theorem set_of {prog : Program} (hx : xs ∈ S16) {h : Heap} (e : h.get? sa = some (setObj led ts ep fin mov xs)) : h.SetOf (intKind prog w) sa (fun k => xs.any fun x => decide ((x : Int) = k)) xs.length := by
  have := s16_len _ hx
  exact ⟨_, _, _, _, e, ⟨rfl, rfl, rfl⟩, rfl, set_els hx, set_mem, by rw [setEs_size]; unfold scanBound; lia, set_fits hx, setEs_size⟩
theorem layNew_eq : ∀ xs ∈ S16, ∀ x < 4, xs.contains x = false → ∀ (led : Bool) (fin mov : Nat) (ts : Nat → Tok) (t : Tok),
    layNew (setTab led fin mov xs) (setEs ts xs) (x : Int) (.int (x : Int) t) = (setEs (fun y => if y = x then t else ts y) (ins4 x xs), setTab led fin mov (ins4 x xs), false, false) := by
  refine s16_all ?_
  refine ⟨?_, ?_, ?_, ?_, ?_, ?_, ?_, ?_, ?_, ?_, ?_, ?_, ?_, ?_, ?_, ?_⟩ <;> intro x hx hc led fin mov ts t <;>
    (have : x = 0 ∨ x = 1 ∨ x = 2 ∨ x = 3 := by lia) <;> rcases this with rfl | rfl | rfl | rfl <;> first | (exact absurd hc (by decide)) | kernel_rfl
theorem put_obj {ts' : Nat → Tok} {ys : List Nat} : Obj.putSet (setEs ts' ys) (setTab led fin mov ys) (setObj led ts ep fin mov xs) = setObj led ts' (ep + 1) fin mov ys := rfl
theorem not_full : ∀ xs ∈ S16, ∀ (led : Bool) (fin mov : Nat), (setTab led fin mov xs).tooFull = false := s16_all (by
  refine ⟨?_, ?_, ?_, ?_, ?_, ?_, ?_, ?_, ?_, ?_, ?_, ?_, ?_, ?_, ?_, ?_⟩ <;> intro led fin mov <;> rfl)
theorem set_add_hashed {x : Nat} {t : Tok} {Q : Bool → Shared → Prop} (hx : xs ∈ S16) (hlt : x < 4) (ho : s.heap.get? sa = some (setObj led ts ep fin mov xs))
    (k : ∀ b h' ts' ep', Heap.SameBut sa s.heap h' → h'.get? sa = some (setObj led ts' ep' fin mov (ins4 x xs)) → Q b { s with heap := h' }) : wpAny (model PRG w) A (setAddHashed sa (.int (x : Int) t) (x : Int)) Q E s := by
  have hb : (setEs ts xs).size < scanBound := by have := s16_len _ hx; rw [setEs_size]; unfold scanBound; lia
  have hsc : (Value.int (x : Int) t).scannable = true := rfl
  unfold setAddHashed setAddHashedIn
  refine wpAny_holding (wpAny_bind (wpAny_setState_of ho rfl (set_fits hx) ?_))
  dsimp only
  rw [byScan_of (knd := intKind PRG w) hsc hb (set_els hx)]
  simp only [↓reduceIte]
  unfold setAddByScan
  refine wpAny_bind ?_
  refine wpAny_bind (wpAny_rule ?_)
  have hscan : ∀ {Q' : ScanMet → Shared → Prop}, Q' (match (setEs ts xs).toList.findIdx? (fun e => (intKind PRG w).is (x : Int) e.2) with | some j => .found (0 + j) | none => .absent) s → wpAny (model PRG w) A (setScan sa (.int (x : Int) t) (x : Int) true (setEs ts xs)) Q' E s := fun h => by
    have := wpAny_setScan_of (knd := intKind PRG w) (k := (x : Int)) (x := .int (x : Int) t) (adding := true) (A := A) (E := E) (intKind_is _ _ _ _) ho rfl (set_fits hx) (set_els hx) h
    rwa [show (intKind PRG w).hash (x : Int) = (x : Int) from hash_small x hlt] at this
  refine wpAny_bind (hscan ?_)
  cases hr : List.findIdx? (fun e => (intKind PRG w).is (x : Int) e.2) (setEs ts xs).toList with
  | some j =>
    dsimp only
    refine eEA (List.findIdx?_eq_some_iff_getElem.mp hr) ?_; rintro hj hpj _
    have hm : (xs.any fun y => decide ((y : Int) = x)) = true := (set_mem (w := w) (prog := PRG) (ts := ts) _).mpr ⟨_, List.getElem_mem hj, hpj⟩
    have hc : xs.contains x = true := by
      rw [List.any_eq_true] at hm
      refine eEA hm ?_; clear hm; rintro y h1 h2
      have := of_decide_eq_true h2
      rw [List.contains_iff_mem]
      have : y = x := by lia
      exact this ▸ h1
    refine wpAny_pure (wpAny_pure ?_)
    have := k false s.heap ts ep (Heap.SameBut.refl _ _) (by rw [ins4_same _ hx _ hlt hc]; exact ho)
    exact this
  | none =>
    dsimp only
    have hc : xs.contains x = false := by
      cases q : xs.contains x with
      | false => rfl
      | true =>
        rw [List.contains_iff_mem] at q
        have := List.findIdx?_eq_none_iff.mp hr ((x : Int), .int (x : Int) (ts x)) (by simp only [setEs, List.mem_map]; exact ⟨x, q, rfl⟩)
        rw [intKind_is] at this; cases this
    rw [layNew_eq _ hx _ hlt hc led fin mov ts t]
    dsimp only
    refine wpAny_bind (wpAny_pure ?_)
    rw [if_pos rfl, hashByValue_scannable 8 hsc]
    refine wpAny_bind (wpAny_pure ?_)
    rw [if_pos (show plainKind (Value.int (x : Int) t) = true from rfl)]
    have hg : (s.heap.update sa (Obj.putSet (setEs (fun y => if y = x then t else ts y) (ins4 x xs)) (setTab led fin mov (ins4 x xs)))).get? sa = some (setObj led (fun y => if y = x then t else ts y) (ep + 1) fin mov (ins4 x xs)) := by
      have := Heap.get?_update_self (Obj.putSet (setEs (fun y => if y = x then t else ts y) (ins4 x xs)) (setTab led fin mov (ins4 x xs))) ho rfl
      rwa [put_obj] at this
    have hl := s16_len _ (ins4_mem _ hx _ hlt)
    refine wpAny_bind (wpAny_storeSet_of ho rfl ?_ (by rw [setEs_size, sizeLine_eq]; lia))
    rw [not_full _ (ins4_mem _ hx _ hlt)]
    simp only [Bool.and_false, Bool.false_eq_true, ↓reduceIte]
    exact wpAny_pure (wpAny_pure (k true _ _ _ (Heap.SameBut.update _ _ _) hg))
theorem set_add {x : Nat} {t : Tok} {Q : Bool → Shared → Prop} (hx : xs ∈ S16) (hlt : x < 4) (ho : s.heap.get? sa = some (setObj led ts ep fin mov xs))
    (k : ∀ b h' ts' ep', Heap.SameBut sa s.heap h' → h'.get? sa = some (setObj led ts' ep' fin mov (ins4 x xs)) → Q b { s with heap := h', toks := s.toks + 1 }) : wpAny (model PRG w) A (setAdd sa (.int (x : Int) t)) Q E s := by
  unfold setAdd
  refine wpAny_holding (wpAny_bind ((intKind PRG w).pyHash (k := (x : Int)) (intKind_is _ _ _ _) ?_))
  rw [show (intKind PRG w).hash (x : Int) = (x : Int) from hash_small x hlt]
  exact set_add_hashed (s := { s with toks := s.toks + 1 }) hx hlt ho fun b h' ts' ep' h1 h2 => k b h' ts' ep' h1 h2
end
end
section
variable {w : World} {n : Nat} {env : Env} {σ σ1 σ2 σ3 : St} {pos : Pos} {hb hb' hb1 hb2 : Heap} {ρ ρ' ρ1 ρ2 : List Addr} {s s' s1 s2 : Shared} {μ μ' : List Cell} {a b c : AV}
theorem ns_not {h : Heap} {x : Addr} {o : Obj} {L : Addr} {m : Str → Option Value} (hn : h.Ns L m) (e : h.get? x = some o) (hd : ∀ es ep, o.data ≠ .dict es ep) : L ≠ x := by
  rintro rfl
  refine eEEEAA hn ?_; clear hn; rintro o' es ep e1 e2 _
  rw [e] at e1; cases e1
  exact hd _ _ e2
theorem moved_same {it : Addr} {o : Obj} {h' : Heap} {tk : Nat} (e : s.heap.get? it = some o) (hd : ∀ es ep, o.data ≠ .dict es ep) (hs : Heap.SameBut it s.heap h') : Moved [it] [] s { s with heap := h', toks := tk } where
  keep := fun b o e h => (hs.2 b fun q => h (q ▸ List.mem_cons_self ..)).trans e
  live := fun b z ⟨o, e⟩ => ⟨o, (hs.2 b fun q => z (q ▸ List.mem_cons_self ..)).trans e⟩
  gens := fun _ _ e _ => e
  bare := id
  ns := fun L m hn => ⟨m, hn.sameBut hs (ns_not hn e hd)⟩
  os := rfl
theorem moved_ext {it : Addr} {o : Obj} {h' : Heap} {tk : Nat} (e : s.heap.get? it = some o) (hd : ∀ es ep, o.data ≠ .dict es ep) (hs : Heap.ExtBut it s.heap h') : Moved [it] [] s { s with heap := h', toks := tk } where
  keep := fun b o e h => hs b o (fun q => h (q ▸ List.mem_cons_self ..)) e
  live := fun b z ⟨o, e⟩ => ⟨o, hs b o (fun q => z (q ▸ List.mem_cons_self ..)) e⟩
  gens := fun _ _ e _ => e
  bare := id
  ns := fun L m hn => ⟨m, hn.extBut hs (ns_not hn e hd)⟩
  os := rfl
theorem iter_new {o : Obj} (R : RelM w hb ρ s μ) (hf : autoParam (o.isFreed = false) auR) : Ext [] hb ρ s hb ρ { s with heap := s.heap.push o } ∧ RelM w hb ρ { s with heap := s.heap.push o } μ ∧ (∀ b ∈ [s.heap.objs.size], Dead s.heap b ∧ Live (s.heap.push o) b) :=
  ⟨Ext.plain (fun b o e _ => Heap.get?_push_of_some _ e) (live_stays fun b o e => Heap.get?_push_of_some _ e) rfl rfl, R.grow (fun b o e => Heap.get?_push_of_some _ e) rfl, fun b hb => by rw [List.mem_singleton.mp hb]; exact ⟨dead_of_le (Nat.le_refl _), ⟨_, Heap.get?_push_size _ hf⟩⟩⟩
noncomputable def TgOk (tg : Expr) (xs : List AV) : Prop := (∀ it v, letOwnedTupleGo tg it v = pure ()) ∨ ((∃ elts k p, tg = .Tuple elts k p) ∧ ∀ x ∈ xs, ∃ ys, x = .tup ys)
theorem tg_name {x : Str} {p : Pos} {xs : List AV} : TgOk (.Name x p) xs := .inl fun _ _ => rfl
theorem VRels.get' {h : Heap} {xs : List AV} {vs : List Value} (r : VRels w h ρ xs vs) {i : Nat} : (∀ x, xs[i]? = some x → ∃ v, vs[i]? = some v ∧ VRel w h ρ x v) ∧ (xs[i]? = none → vs[i]? = none) :=
  ⟨fun x e => r.get e, fun e => by rw [List.getElem?_eq_none_iff] at e ⊢; rw [r.length]; exact e⟩
theorem iter_list {tg : Expr} {xs : List AV} (e : listOfAV μ a = some xs) (ht : TgOk tg xs) : IterOf w n tg a μ xs (fun μ => listOfAV μ a = some xs) := fun A hb ρ s v Q E rm R hv k => by
  refine eEEAA (list_of R hv e) ?_; rintro l vs rfl hl hx
  refine wpAny_pyIter_list hl ?_
  refine eAA (iter_new (o := { cls := .type "list_iterator", data := .fields #[.ref l, .int 0 0] }) R) ?_; rintro X1 R1 d1
  refine k xs (.ref s.heap.objs.size) [s.heap.objs.size] [] (fun i s' => s'.heap.IsListIter s.heap.objs.size l i) _ rfl X1 R1 ⟨fun i s1 s2 h k1 _ => ?_, fun A' hb' ρ' s1 μ' i Q' E' rm' hs hp R' hC h k1 k2 => ?_, fun A' i s1 Q' E' h q => wpAny_pyIter_listiter h q⟩ ⟨_, Heap.get?_push_size _ rfl, rfl, rfl⟩ d1 (fun _ q => nomatch q)
  · refine eEA h ?_; clear h; rintro o h1 h2; exact ⟨o, k1 _ _ (List.mem_cons_self ..) h1, h2⟩
  · refine eEEAA (list_of R' (hv.mono hs hp) hC) ?_; rintro l' vs' e' hl' hx'
    cases e'
    have hnd : ∀ {s2 : Shared} {j : Nat} {o : Obj}, s2.heap.get? s.heap.objs.size = some o → o.data = .fields #[.ref l, .int j 0] → ∀ es ep, o.data ≠ .dict es ep := fun _ q es ep z => by rw [q] at z; cases z
    have hh := h
    refine eEAA hh ?_; clear hh; rintro o h1 h2 h3
    cases hxi : xs[i]? with
    | none => exact wpAny_pyNext_list_end rm'.1 h hl' (by have := hx'.get'.2 hxi; simpa using this) fun h' hs' => k2 hxi _ (moved_ext (tk := s1.toks) h1 (hnd h1 h3) hs')
    | some x =>
      refine eEA (hx'.get'.1 x hxi) ?_; rintro u hu1 hu2
      refine wpAny_pyNext_list_item h hl' (x := u) (by simpa using hu1) fun h' hi' hs' => ?_
      refine k1 x hxi _ u (moved_same (tk := s1.toks) h1 (hnd h1 h3) hs') (fun b hb => ?_) hi' hu2 fun A'' Q'' E'' kk => ?_
      · rw [List.mem_singleton.mp hb]; refine eEA hi' ?_; clear hi'; rintro o' z _; exact ⟨o', z⟩
      · have fin := kk { s1 with heap := h' } ⟨fun _ _ e _ => e, fun _ _ h => h, fun _ _ e _ => e, id, fun L m h => ⟨m, h⟩, rfl⟩ (fun b hb => by rw [List.mem_singleton.mp hb]; refine eEA hi' ?_; clear hi'; rintro o' z _; exact ⟨o', z⟩) hi'
        rcases ht with ht | ⟨⟨elts, kk', p, rfl⟩, hall⟩
        · rw [ht]; exact wpAny_pure fin
        · obtain ⟨ys, rfl⟩ := hall x (List.mem_of_getElem? hxi)
          refine eEEAA hu2.tup_inv ?_; rintro T _ rfl _ _
          exact wpAny_letOwnedTupleGo_listiter hi' fin
theorem iter_tuple {tg : Expr} {xs : List AV} (ht : ∀ it v, letOwnedTupleGo tg it v = pure ()) : IterOf w n tg (.tup xs) μ xs (fun _ => True) := fun A hb ρ s v Q E rm R hv k => by
  refine eEEAA hv.tup_inv ?_; rintro l vs rfl hl hx
  refine wpAny_pyIter_tuple (items := vs.toArray) (hl.keeps R.keep) ?_
  refine eAA (iter_new (o := { cls := .type "tuple_iterator", data := .fields #[.ref l, .int 0 0] }) R) ?_; rintro X1 R1 d1
  refine k xs (.ref s.heap.objs.size) [s.heap.objs.size] [] (fun i s' => s'.heap.IsTupleIter s.heap.objs.size l i) _ rfl X1 R1 ⟨fun i s1 s2 h k1 _ => ?_, fun A' hb' ρ' s1 μ' i Q' E' rm' hs hp R' _ h k1 k2 => ?_, fun A' i s1 Q' E' h q => wpAny_pyIter_tupleiter h q⟩ ⟨_, Heap.get?_push_size _ rfl, rfl, rfl⟩ d1 (fun _ q => nomatch q)
  · refine eEA h ?_; clear h; rintro o h1 h2; exact ⟨o, k1 _ _ (List.mem_cons_self ..) h1, h2⟩
  · have hl' : s1.heap.IsTuple l vs.toArray := (hl.keeps hs).keeps R'.keep
    have hx' := hx.mono hs hp
    have hnd : ∀ {s2 : Shared} {j : Nat} {o : Obj}, s2.heap.get? s.heap.objs.size = some o → o.data = .fields #[.ref l, .int j 0] → ∀ es ep, o.data ≠ .dict es ep := fun _ q es ep z => by rw [q] at z; cases z
    have hh := h
    refine eEAA hh ?_; clear hh; rintro o h1 h2 h3
    cases hxi : xs[i]? with
    | none => exact wpAny_pyNext_tuple_end rm'.1 h hl' (by have := hx'.get'.2 hxi; simpa using this) fun h' hs' => k2 hxi _ (moved_ext (tk := s1.toks) h1 (hnd h1 h3) hs')
    | some x =>
      refine eEA (hx'.get'.1 x hxi) ?_; rintro u hu1 hu2
      refine wpAny_pyNext_tuple_item h hl' (x := u) (by simpa using hu1) fun h' hi' hs' => ?_
      refine k1 x hxi _ u (moved_same (tk := s1.toks) h1 (hnd h1 h3) hs') (fun b hb => ?_) hi' hu2 fun A'' Q'' E'' kk => ?_
      · rw [List.mem_singleton.mp hb]; refine eEA hi' ?_; clear hi'; rintro o' z _; exact ⟨o', z⟩
      · rw [ht]
        exact wpAny_pure (kk { s1 with heap := h' } ⟨fun _ _ e _ => e, fun _ _ h => h, fun _ _ e _ => e, id, fun L m h => ⟨m, h⟩, rfl⟩ (fun b hb => by rw [List.mem_singleton.mp hb]; refine eEA hi' ?_; clear hi'; rintro o' z _; exact ⟨o', z⟩) hi')
noncomputable def rngL (i j : Int) : List AV := (List.range (j - i).toNat).map fun (k : Nat) => .int (i + k)
set_option tactic.hygienic true in
theorem rngL_get {i j : Int} {k : Nat} : (rngL i j)[k]? = if k < (j - i).toNat then some (.int (i + k)) else none := by
  unfold rngL
  rw [List.getElem?_map]
  split
  · rename_i h; rw [List.getElem?_eq_getElem (by rw [List.length_range]; exact h), List.getElem_range]; rfl
  · rename_i h; rw [List.getElem?_eq_none (by rw [List.length_range]; lia)]; rfl
theorem iter_range {tg : Expr} {i j : Int} (hi : -1000000 < i ∧ i < 1000000) (hj : -1000000 < j ∧ j < 1000000) (ht : ∀ it v, letOwnedTupleGo tg it v = pure ()) : IterOf w n tg (.rng i j) μ (rngL i j) (fun _ => True) := fun A hb ρ s v Q E rm R hv k => by
  refine eEEEEA hv.rng_inv ?_; rintro r t u kk rfl hr
  have hsz : Builtin.Range.rangeSize i j 1 = (j - i).toNat := by
    unfold Builtin.Range.rangeSize
    rw [if_pos (by decide)]
    split <;> lia
  have hsm : Builtin.Range.small i j 1 = true := by
    unfold Builtin.Range.small
    rw [hsz]
    unfold Builtin.Range.rangeFitsLong
    simp only [Bool.and_eq_true, Bool.or_eq_true, decide_eq_true_eq, beq_iff_eq]
    rw [if_pos (by decide)]
    simp only [Bool.and_eq_true, decide_eq_true_eq]
    lia
  refine wpAny_pyIter_range (R.keep _ _ hr) hsm ?_
  refine eAA (iter_new (o := { cls := .type "range_iterator", data := .fields #[rawInt i, rawInt (Builtin.Range.rangeSize i j 1), rawInt 1] }) R) ?_; rintro X1 R1 d1
  refine k (rngL i j) (.ref s.heap.objs.size) [s.heap.objs.size] [] (fun m s' => m ≤ (j - i).toNat ∧ IsRangeIter s'.heap s.heap.objs.size (i + m) ((j - i).toNat - m) 1) _ rfl X1 R1 ⟨fun m s1 s2 h k1 _ => ?_, fun A' hb' ρ' s1 μ' m Q' E' rm' hs hp R' _ h k1 k2 => ?_, fun A' m s1 Q' E' h q => wpAny_pyIter_rangeiter h.2 q⟩ ?_ d1 (fun _ q => nomatch q)
  · exact ⟨h.1, k1 _ _ (List.mem_cons_self ..) h.2⟩
  · obtain ⟨h0, h1⟩ := h
    have hnd : ∀ es ep, ({ cls := .type "range_iterator", dict := none, data := .fields #[rawInt (i + m), rawInt ((j - i).toNat - m), rawInt 1], slots := #[] } : Obj).data ≠ .dict es ep := fun es ep z => by cases z
    by_cases hm : m < (j - i).toNat
    · refine wpAny_pyNext_range_item h1 (by lia) fun h' hi' hs' => ?_
      have hi2 : IsRangeIter h' s.heap.objs.size (i + ((m + 1 : Nat) : Int)) ((j - i).toNat - ((m + 1 : Nat) : Int)) 1 := by
        have : i + (m : Int) + 1 = i + ((m + 1 : Nat) : Int) := by lia
        rw [this] at hi'
        have : ((j - i).toNat : Int) - m - 1 = (j - i).toNat - ((m + 1 : Nat) : Int) := by lia
        rwa [this] at hi'
      refine k1 (.int (i + m)) (by rw [rngL_get, if_pos hm]) _ _ (moved_same (tk := s1.toks + 1) h1 hnd hs') (fun b hb => by rw [List.mem_singleton.mp hb]; exact ⟨_, hi2⟩) ⟨by lia, hi2⟩ (.int _ _) fun A'' Q'' E'' kk => ?_
      rw [ht]
      exact wpAny_pure (kk _ ⟨fun _ _ e _ => e, fun _ _ h => h, fun _ _ e _ => e, id, fun L m h => ⟨m, h⟩, rfl⟩ (fun b hb => by rw [List.mem_singleton.mp hb]; exact ⟨_, hi2⟩) ⟨by lia, hi2⟩)
    · exact wpAny_pyNext_range_end rm'.1 h1 (by lia) fun h' hs' => k2 (by rw [rngL_get, if_neg hm]) _ (moved_ext (tk := s1.toks) h1 hnd hs')
  · refine ⟨Nat.zero_le _, ?_⟩
    have := Heap.get?_push_size s.heap (o := { cls := .type "range_iterator", data := .fields #[rawInt i, rawInt (Builtin.Range.rangeSize i j 1), rawInt 1] }) rfl
    show IsRangeIter _ _ (i + ((0 : Nat) : Int)) ((j - i).toNat - ((0 : Nat) : Int)) 1
    rw [show i + ((0 : Nat) : Int) = i by lia, show ((j - i).toNat : Int) - ((0 : Nat) : Int) = Builtin.Range.rangeSize i j 1 by rw [hsz]; lia]
    exact this
end
section
open PySem.Builtin
theorem slot_setiter_next : Slot "set_iterator" "__next__" "set_iterator.__next__" :=
  .of (owner := "set_iterator") (n := "__next__") (by rw [typeLookup_type, builtinLookup_eq_fast]; kernel_rfl) (by decide +kernel) (by decide +kernel) (by decide +kernel)
    (by first | exact .inl (by decide +kernel) | exact .inr (by decide +kernel)) (by rw [isSubtype_type]; kernel_rfl)
theorem entry_setiter_next : entryFor table "set_iterator.__next__" = some Builtin.«set_iterator.__next__» := entryFor_of_tree (by kernel_rfl)
theorem entry_set_iter : entryFor table "set.__iter__" = some Builtin.«frozenset.__iter__» := entryFor_alias (id' := "frozenset.__iter__") (by kernel_rfl) rfl (by decide +kernel) (by kernel_rfl)
theorem slot_setiter_iter : Slot "set_iterator" "__iter__" "set_iterator.__iter__" :=
  .of (owner := "set_iterator") (n := "__iter__") (by rw [typeLookup_type, builtinLookup_eq_fast]; kernel_rfl) (by decide +kernel) (by decide +kernel) (by decide +kernel)
    (by first | exact .inl (by decide +kernel) | exact .inr (by decide +kernel)) (by rw [isSubtype_type]; kernel_rfl)
theorem entry_setiter_iter : entryFor table "set_iterator.__iter__" = some Builtin.«dict_keyiterator.__iter__» := entryFor_alias (id' := "dict_keyiterator.__iter__") (by kernel_rfl) (by first | rfl | decide +kernel) (by decide +kernel) (by kernel_rfl)
theorem args_setiter_iter (a : Value) : argsOk "set_iterator.__iter__" ⟨[a], []⟩ := by unfold argsOk; kernel_rfl
theorem setiter_self {w : World} {A : Around} {E : Value → Shared → Prop} {s : Shared} {it : Addr} {o : Obj} {Q : Value → Shared → Prop} (ho : s.heap.get? it = some o) (hc : o.cls = .type "set_iterator") (h : Q (.ref it) s) : wpAny (model PRG w) A (pyIter (.ref it)) Q E s := by
  have hT : s.TypeIs (.ref it) "set_iterator" := ⟨_, ho, hc⟩
  refine wpAny_pyIter_slot hT slot_setiter_iter (wpAny_call_entry slot_setiter_iter hT entry_setiter_iter ?_ (args_setiter_iter _))
  show wpAny _ _ (ret (.ref it)) _ _ s
  exact wpAny_pure ⟨_, rfl, "set_iterator", _, hT, slot_setiter_next.lookup, h⟩
theorem args_setiter_next (a : Value) : argsOk "set_iterator.__next__" ⟨[a], []⟩ := by unfold argsOk; kernel_rfl
theorem args_set_iter (a : Value) : argsOk "set.__iter__" ⟨[a], []⟩ := by unfold argsOk; kernel_rfl
theorem setNext_eq (a : Addr) (slot given epochThen : Nat) : setNext a slot given epochThen = (do
    let (es, epoch, t) ← setState a
    if ← setsByText then
      if epoch != epochThen then unsupported "set_iterator.__next__:elements-changed"
      return ((← setWalk a)[given]?).map fun e => (e.2, slot)
    if !t.plain && es.size > 1 then unsupported "set_iterator.__next__:the-table-is-plain-no-more"
    (do if !t.led && !es.isEmpty then unsupported "set:maker-not-led" : Sem Unit)
    let i := SetTable.below t.place slot
    return match es[i]?, t.place[i]? with
      | some (_, x), some j => some (x, j + 1)
      | _, _ => none) := by kernel_rfl
theorem setWalk_eq (a : Addr) : setWalk a = (do
    let (es, epoch, t) ← setState a
    if ← setsByText then return pickOrder ((← ask).params.setOrder a epoch) es
    if !t.plain && es.size > 1 then return (← drawOrder es.size es.toList).toArray
    (do if !t.led && es.size > 1 then unsupported "set:maker-not-led" : Sem Unit)
    return es) := by kernel_rfl
theorem setDrawn_eq (a : Addr) : setDrawn a = (do
    let (es, _, t) ← setState a
    let byText ← setsByText
    return !byText && (!t.plain && decide (es.size > 1))) := by kernel_rfl
theorem List.getElem_cons_eraseIdx_perm' {α : Type} : ∀ {l : List α} {i : Nat} (h : i < l.length), (l[i] :: l.eraseIdx i).Perm l
  | x :: l, 0, _ => List.Perm.refl _
  | x :: l, i + 1, h => by
    rw [List.getElem_cons_succ, List.eraseIdx_cons_succ]
    exact (List.Perm.swap _ _ _).trans (List.Perm.cons _ (List.getElem_cons_eraseIdx_perm' (by simpa using h)))
theorem pick_go_perm {α : Type} (next : Nat → Nat) : ∀ (fuel k : Nat) (left : List α) (out : Array α), left.length = fuel → (pickOrder.go next fuel k left out).toList.Perm (out.toList ++ left)
  | 0, k, left, out, h => by
    rw [List.length_eq_zero_iff.mp h, List.append_nil]
    unfold pickOrder.go; exact List.Perm.refl _
  | fuel + 1, k, left, out, h => by
    unfold pickOrder.go
    have hlt : next k % left.length < left.length := Nat.mod_lt _ (by lia)
    rw [List.getElem?_eq_getElem hlt]
    dsimp only
    refine (pick_go_perm next fuel (k + 1) _ _ (by rw [List.length_eraseIdx]; split <;> lia)).trans ?_
    rw [Array.toList_push, List.append_assoc]
    refine List.Perm.append_left _ ?_
    rw [List.singleton_append]
    exact List.getElem_cons_eraseIdx_perm' hlt
theorem pick_perm {α : Type} (next : Nat → Nat) (xs : Array α) : (pickOrder next xs).toList.Perm xs.toList := by
  unfold pickOrder
  have := pick_go_perm next xs.size 0 xs.toList #[] (by simp)
  simpa using this
section
variable {w : World} {n : Nat} {env : Env} {σ σ1 σ2 σ3 : St} {pos : Pos} {hb hb' hb1 hb2 : Heap} {ρ ρ' ρ1 ρ2 : List Addr} {s s' s1 s2 : Shared} {μ μ' : List Cell} {a b c : AV}
variable {led : Bool} {ts : Nat → Tok} {ep fin mov : Nat} {xs : List Nat} {A : Around} {E : Value → Shared → Prop} {sa : Addr}
noncomputable def ordOf (w : World) (sa ep : Nat) (ts : Nat → Tok) (xs : List Nat) : List (Int × Value) := if ledOf w then (setEs ts xs).toList else (pickOrder (w.params.setOrder sa ep) (setEs ts xs)).toList
theorem ord_perm : (ordOf w sa ep ts xs).Perm (setEs ts xs).toList := by
  unfold ordOf; split
  · exact List.Perm.refl _
  · exact pick_perm _ _
noncomputable def ordN (w : World) (sa ep : Nat) (ts : Nat → Tok) (xs : List Nat) : List Nat := (ordOf w sa ep ts xs).map fun e => e.1.toNat
theorem ordN_perm : (ordN w sa ep ts xs).Perm xs := by
  have h := (ord_perm (w := w) (sa := sa) (ep := ep) (ts := ts) (xs := xs)).map fun e => e.1.toNat
  refine h.trans (List.Perm.of_eq ?_)
  simp only [setEs, List.map_map]
  conv => rhs; rw [← List.map_id xs]
  exact List.map_congr_left fun x _ => rfl
theorem ord_eq : ordOf w sa ep ts xs = (ordN w sa ep ts xs).map fun (x : Nat) => ((x : Int), Value.int (x : Int) (ts x)) := by
  unfold ordN
  rw [List.map_map]
  conv => lhs; rw [← List.map_id (ordOf w sa ep ts xs)]
  apply List.map_congr_left
  intro e he
  refine eEA (setEs_mem (ord_perm.mem_iff.mp he)) ?_; rintro x _ rfl
  rfl
theorem walk_eq (hx : xs ∈ S16) (ho : s.heap.get? sa = some (setObj (ledOf w) ts ep fin mov xs)) {Q : Array (Int × Value) → Shared → Prop} (h : Q (ordOf w sa ep ts xs).toArray s) : wpAny (model PRG w) A (setWalk sa) Q E s := by
  rw [setWalk_eq]
  refine wpAny_bind (wpAny_setState_of ho rfl (set_fits hx) ?_)
  unfold setsByText
  refine wpAny_bind (wpAny_bind (wpAny_askSetting (wpAny_pure ?_)))
  dsimp only
  unfold ordOf ledOf at h
  cases q : w.params.followText "set-order" with
  | true =>
    rw [if_pos (show (model PRG w).w.params.followText "set-order" = true from q)]
    refine wpAny_bind (wpAny_askSetting (wpAny_pure ?_))
    rw [q] at h
    have h' : Q (pickOrder (w.params.setOrder sa ep) (setEs ts xs)) s := by simpa using h
    exact h'
  | false =>
    rw [if_neg (show ¬ (model PRG w).w.params.followText "set-order" = true by show ¬ w.params.followText "set-order" = true; rw [q]; decide)]
    rw [q] at h
    have hl : ledOf w = true := by unfold ledOf; rw [q]; rfl
    simp only [hl, Bool.not_true, Bool.false_and, Bool.false_eq_true, if_false]
    refine wpAny_bind (wpAny_pure (wpAny_pure ?_))
    simpa using h
noncomputable def slotAt (w : World) (xs : List Nat) (i : Nat) : Nat := if ledOf w then (if i = 0 then 0 else xs.getD (i - 1) 0 + 1) else 0
theorem below_next : ∀ xs ∈ S16, ∀ i < xs.length, SetTable.below xs.toArray (if i = 0 then 0 else xs.getD (i - 1) 0 + 1) = i := by decide +kernel
theorem below_end : ∀ xs ∈ S16, xs.length ≤ SetTable.below xs.toArray (if xs.length = 0 then 0 else xs.getD (xs.length - 1) 0 + 1) := by decide +kernel
noncomputable def SetIter (w : World) (it sa ep : Nat) (xs : List Nat) (i : Nat) (h : Heap) : Prop := i ≤ xs.length ∧ h.get? it = some { cls := .type "set_iterator", data := .fields #[rawInt (slotAt w xs i), rawInt i, .ref sa, rawInt xs.length, rawInt ep] }
theorem next_eq (hx : xs ∈ S16) (ho : s.heap.get? sa = some (setObj (ledOf w) ts ep fin mov xs)) {i : Nat} (hi : i ≤ xs.length) {Q : Option (Value × Nat) → Shared → Prop}
    (h : Q ((ordN w sa ep ts xs)[i]?.map fun (x : Nat) => (Value.int (x : Int) (ts x), slotAt w xs (i + 1))) s) : wpAny (model PRG w) A (setNext sa (slotAt w xs i) i ep) Q E s := by
  rw [setNext_eq]
  refine wpAny_bind (wpAny_setState_of ho rfl (set_fits hx) ?_)
  unfold setsByText
  refine wpAny_bind (wpAny_bind (wpAny_askSetting (wpAny_pure ?_)))
  dsimp only
  cases q : w.params.followText "set-order" with
  | true =>
    rw [if_pos (show (model PRG w).w.params.followText "set-order" = true from q)]
    simp only [bne_self_eq_false, Bool.false_eq_true, if_false]
    refine wpAny_bind (walk_eq hx ho (wpAny_pure ?_))
    have hl : ledOf w = false := by unfold ledOf; rw [q]; rfl
    rw [ord_eq]
    rw [show slotAt w xs i = 0 by unfold slotAt; rw [hl]; rfl]
    rw [show slotAt w xs (i + 1) = 0 by unfold slotAt; rw [hl]; rfl] at h
    simp only [List.getElem?_toArray, List.getElem?_map, Option.map_map]
    exact h
  | false =>
    rw [if_neg (show ¬ (model PRG w).w.params.followText "set-order" = true by show ¬ w.params.followText "set-order" = true; rw [q]; decide)]
    have hl : ledOf w = true := by unfold ledOf; rw [q]; rfl
    simp only [hl, Bool.not_true, Bool.false_and, Bool.false_eq_true, if_false]
    refine wpAny_bind (wpAny_pure ?_)
    rw [show slotAt w xs i = (if i = 0 then 0 else xs.getD (i - 1) 0 + 1) by unfold slotAt; rw [hl]; rfl]
    have hoN : ordN w sa ep ts xs = xs := by
      unfold ordN ordOf
      rw [hl, if_pos rfl]
      simp only [setEs, List.map_map]
      conv => rhs; rw [← List.map_id xs]
      exact List.map_congr_left fun x _ => rfl
    rw [hoN] at h
    rcases Nat.lt_or_ge i xs.length with hlt | hge
    · rw [below_next _ hx _ hlt]
      have e1 : (setEs ts xs)[i]? = some ((xs[i] : Int), .int (xs[i] : Int) (ts xs[i])) := by simp [setEs, List.getElem?_eq_getElem hlt]
      have e2 : xs.toArray[i]? = some xs[i] := by simp [List.getElem?_eq_getElem hlt]
      rw [e1, e2]
      rw [List.getElem?_eq_getElem hlt] at h
      refine wpAny_pure ?_
      have hs : slotAt w xs (i + 1) = xs[i] + 1 := by
        unfold slotAt
        rw [hl, if_pos rfl, if_neg (by lia), Nat.add_sub_cancel, List.getD_eq_getElem?_getD, List.getElem?_eq_getElem hlt]; rfl
      rw [hs] at h
      exact h
    · have hi' : i = xs.length := Nat.le_antisymm hi hge
      subst hi'
      have hb := below_end _ hx
      rw [show (setEs ts xs)[SetTable.below xs.toArray (if xs.length = 0 then 0 else xs.getD (xs.length - 1) 0 + 1)]? = none from Array.getElem?_eq_none (by rw [setEs_size]; exact hb)]
      rw [List.getElem?_eq_none (Nat.le_refl _)] at h
      exact wpAny_pure h
theorem set_iter_new (hx : xs ∈ S16) (ho : s.heap.get? sa = some (setObj (ledOf w) ts ep fin mov xs)) {Q : Value → Shared → Prop}
    (h : Q (.ref s.heap.objs.size) { s with heap := s.heap.push { cls := .type "set_iterator", data := .fields #[rawInt (slotAt w xs 0), rawInt ((0 : Nat) : Int), .ref sa, rawInt xs.length, rawInt ep] } }) : wpAny (model PRG w) A (pyIter (.ref sa)) Q E s := by
  have hT : s.TypeIs (.ref sa) "set" := ⟨_, ho, rfl⟩
  refine wpAny_pyIter_slot hT F.slot_set_iter (wpAny_call_entry F.slot_set_iter hT entry_set_iter ?_ (args_set_iter _))
  unfold Builtin.«frozenset.__iter__» Builtin.Frozenset.slot0 Builtin.Frozenset.sizeOf setEntries
  refine wpAny_bind (wpAny_bind (wpAny_pure (wpAny_pure ?_)))
  refine wpAny_bind (wpAny_bind (wpAny_bind (wpAny_setState_of ho rfl (set_fits hx) (wpAny_pure (wpAny_pure ?_)))))
  dsimp only
  rw [setDrawn_eq]
  refine wpAny_bind (wpAny_bind (wpAny_setState_of ho rfl (set_fits hx) ?_))
  unfold setsByText
  refine wpAny_bind (wpAny_bind (wpAny_askSetting (wpAny_pure ?_)))
  refine wpAny_pure ?_
  simp only [Bool.not_true, Bool.false_and, Bool.and_false, Bool.false_eq_true, if_false]
  refine wpAny_bind (wpAny_pure ?_)
  refine wpAny_bind (wpAny_setEpoch_of ho rfl (set_fits hx) ?_)
  rw [setEs_size]
  have hsl : slotAt w xs 0 = 0 := by unfold slotAt; split <;> rfl
  rw [hsl] at h
  exact wpAny_bind (wpAny_newObj_type (wpAny_pure ⟨_, rfl, "set_iterator", _, ⟨_, Heap.get?_push_size _ rfl, rfl⟩, slot_setiter_next.lookup, h⟩))
theorem set_next {it : Addr} {i : Nat} (hA : A.handled = none) (hx : xs ∈ S16) (ho : s.heap.get? sa = some (setObj (ledOf w) ts ep fin mov xs)) (hit : SetIter w it sa ep xs i s.heap) {Q : Option Value → Shared → Prop}
    (k1 : ∀ x, (ordN w sa ep ts xs)[i]? = some x → ∀ h', SetIter w it sa ep xs (i + 1) h' → Heap.SameBut it s.heap h' → Q (some (.int (x : Int) (ts x))) { s with heap := h' })
    (k2 : (ordN w sa ep ts xs)[i]? = none → ∀ h', Heap.ExtBut it s.heap h' → Q none { s with heap := h' }) : wpAny (model PRG w) A (pyNext (.ref it)) Q E s := by
  obtain ⟨hi, hio⟩ := hit
  have hT : s.TypeIs (.ref it) "set_iterator" := ⟨_, hio, rfl⟩
  unfold pyNext
  refine wpAny_bind (wpAny_attempt (wpAny_callSpecial?_slot (name := Str.ofString "__next__") hT slot_setiter_next
    (wpAny_call_entry slot_setiter_next hT entry_setiter_next ?_ (args_setiter_next _))))
  unfold Builtin.«set_iterator.__next__» slotArgs
  refine wpAny_bind (wpAny_bind (wpAny_pure (wpAny_pure ?_)))
  refine wpAny_bind (wpAny_fieldsOf hio rfl ?_)
  dsimp only
  unfold setEntries
  refine wpAny_bind (wpAny_bind (wpAny_setState_of ho rfl (set_fits hx) (wpAny_pure ?_)))
  dsimp only
  rw [setEs_size]
  simp only [rawInt, bne_self_eq_false, Bool.false_eq_true, if_false]
  simp only [Int.toNat_natCast]
  refine wpAny_bind (next_eq hx ho hi ?_)
  cases hxi : (ordN w sa ep ts xs)[i]? with
  | some x =>
    dsimp only [Option.map_some]
    have hlt : i < xs.length := by
      have := (List.getElem?_eq_some_iff.mp hxi).1
      rwa [(ordN_perm (w := w) (sa := sa) (ep := ep) (ts := ts) (xs := xs)).length_eq] at this
    refine wpAny_bind (wpAny_setField hio rfl (by simp) ?_)
    have g1 : (s.heap.update it (Obj.mapFields (·.setIfInBounds 0 (.int (slotAt w xs (i + 1)) 0)))).get? it = some { cls := .type "set_iterator", data := .fields #[rawInt (slotAt w xs (i + 1)), rawInt i, .ref sa, rawInt xs.length, rawInt ep] } := Heap.get?_update_self _ hio rfl
    refine wpAny_bind (wpAny_setField (s := { s with heap := s.heap.update it (Obj.mapFields (·.setIfInBounds 0 (.int (slotAt w xs (i + 1)) 0))) }) g1 rfl (by simp) ?_)
    have g2 : ((s.heap.update it (Obj.mapFields (·.setIfInBounds 0 (.int (slotAt w xs (i + 1)) 0)))).update it (Obj.mapFields (·.setIfInBounds 1 (.int ((i : Int) + 1) 0)))).get? it = some { cls := .type "set_iterator", data := .fields #[rawInt (slotAt w xs (i + 1)), rawInt ((i : Int) + 1), .ref sa, rawInt xs.length, rawInt ep] } := Heap.get?_update_self _ g1 rfl
    refine wpAny_pure ⟨_, rfl, wpAny_pure (k1 x hxi _ ⟨hlt, ?_⟩ ((Heap.SameBut.update ..).trans (Heap.SameBut.update ..)))⟩
    rw [show ((i + 1 : Nat) : Int) = (i : Int) + 1 by lia]
    exact g2
  | none =>
    dsimp only [Option.map_none]
    refine wpAny_bind (wpAny_setField hio rfl (by simp) ?_)
    refine wpAny_bind ?_
    simp only [newExc, newTuple]
    refine wpAny_bind (wpAny_newObj_type ?_ (by size_fits))
    refine wpAny_bind (m := firstArgMember _ _) (wpAny_of_eq (a := Value.none) (by first | rfl | (simp only [firstArgMember]; rfl)) ?_)
    refine wpAny_newObj_type ?_ (by size_fits)
    simp only [raiseNew]
    refine wpAny_bind (wpAny_handled ?_)
    rw [show A.in1.handled = none from hA]
    refine wpAny_bind (wpAny_pure (wpAny_throw ?_))
    refine wpAny_bind (wpAny_isInstance (T := "StopIteration") (b := true) ⟨_, Heap.get?_push_size _ rfl, rfl⟩ isSubtype_stop ?_)
    exact wpAny_pure (k2 hxi _ (((Heap.SameBut.update ..).extBut.push _).push _))
theorem iter_set {tg : Expr} (ht : ∀ it v, letOwnedTupleGo tg it v = pure ()) : IterX w n tg (.set xs) μ (fun ys => ∃ os, os.Perm xs ∧ ys = natL os) (fun _ _ => True) := fun A hb ρ s v Q E rm R hv k => by
  obtain ⟨sa, rfl, hx, ts, ep, fin, mov, hs⟩ := hv.set_inv
  refine set_iter_new hx (R.keep _ _ hs) ?_
  refine eAA (iter_new (o := { cls := .type "set_iterator", data := .fields #[rawInt (slotAt w xs 0), rawInt ((0 : Nat) : Int), .ref sa, rawInt xs.length, rawInt ep] }) R) ?_; rintro X1 R1 d1
  refine k (natL (ordN w sa ep ts xs)) (.ref s.heap.objs.size) [s.heap.objs.size] [] (fun i s' => SetIter w s.heap.objs.size sa ep xs i s'.heap) _ ⟨_, ordN_perm, rfl⟩ X1 R1 ⟨fun i s1 s2 h k1 _ => ⟨h.1, k1 _ _ (List.mem_cons_self ..) h.2⟩, fun A' hb' ρ' s1 μ' i Q' E' rm' hs' hp R' _ h k1 k2 => ?_, fun A' i s1 Q' E' h q => setiter_self h.2 rfl q⟩ ⟨Nat.zero_le _, Heap.get?_push_size _ rfl⟩ d1 (fun _ q => nomatch q)
  have hnd : ∀ es ep', ({ cls := .type "set_iterator", data := .fields #[rawInt (slotAt w xs i), rawInt i, .ref sa, rawInt xs.length, rawInt ep] } : Obj).data ≠ .dict es ep' := fun es ep' z => by cases z
  refine set_next rm'.1 hx (R'.keep _ _ (hs' _ _ hs)) h (fun x hxi h' hi' hsb => ?_) fun hxi h' hsb => k2 (by unfold natL; rw [List.getElem?_map, hxi]; rfl) _ (moved_ext (tk := s1.toks) h.2 hnd hsb)
  refine k1 (.int (x : Int)) (by unfold natL; rw [List.getElem?_map, hxi]; rfl) _ _ (moved_same (tk := s1.toks) h.2 hnd hsb) (fun b hb => by rw [List.mem_singleton.mp hb]; exact ⟨_, hi'.2⟩) hi' (.int _ _) fun A'' Q'' E'' kk => ?_
  rw [ht]
  exact wpAny_pure (kk { s1 with heap := h' } ⟨fun _ _ e _ => e, fun _ _ h => h, fun _ _ e _ => e, id, fun L m h => ⟨m, h⟩, rfl⟩ (fun b hb => by rw [List.mem_singleton.mp hb]; exact ⟨_, hi'.2⟩) hi')
end
end
section
open PySem.Builtin
abbrev freshSet (w : World) : Obj := setObj (ledOf w) (fun _ => 0) 0 0 0 []
section
variable {w : World} {n : Nat} {env : Env} {σ σ1 σ2 σ3 : St} {pos : Pos} {hb hb' hb1 hb2 : Heap} {ρ ρ' ρ1 ρ2 : List Addr} {s s' s1 s2 : Shared} {μ μ' : List Cell} {a b c : AV}
variable {led : Bool} {ts : Nat → Tok} {ep fin mov : Nat} {xs : List Nat} {A : Around} {E : Value → Shared → Prop} {sa : Addr}
theorem newSet_led {Q : Value → Shared → Prop} (h : Q (.ref s.heap.objs.size) { s with heap := s.heap.push (freshSet w) }) : wpAny (model PRG w) A (newSet (.type "set")) Q E s := by
  unfold newSet setsByText
  refine wpAny_bind (wpAny_bind (wpAny_askSetting (wpAny_pure ?_)))
  dsimp only
  simp only [newObj]
  exact wpAny_bind (wpAny_alloc (wpAny_pure h))
theorem code_set_new (v : Value) {Q₁ : Value → Shared → Prop} (h : Q₁ (.ref s.heap.objs.size) { s with heap := s.heap.push (freshSet w) }) :
    codeAny (model PRG w) A (.call (.builtin "set.__new__") ⟨[.type "set", v], []⟩) (wants Q₁ E) s := by
  refine codeAny_of_tree ?_
  show wpAny _ A.in1 (do checkBuiltinCall "set.__new__" ⟨[.type "set", v], []⟩; again (.builtin "set.__new__" ⟨[.type "set", v], []⟩)) _ _ s
  refine wpAny_bind (wpAny_of_eq (F.newCall_set_1 v) (wpAny_pure ⟨plainId_quiet F.plain_set_new _, codeAny_builtin F.entry_set_new ?_⟩))
  rw [Around.under_plainId F.plain_set_new _]
  unfold Builtin.«set.__new__» Builtin.Frozenset.newClass
  have hsub := sub_set_self
  obtain ⟨hp, g, d, tk, os⟩ := s
  dsimp only
  wp_walk
  refine wpAny_askSetting (wpAny_pure ?_)
  dsimp only
  simp only [newObj]
  refine wpAny_bind (wpAny_alloc (wpAny_pure ?_))
  exact wpAny_pure h
set_option maxRecDepth 100000 in
set_option maxHeartbeats 3200000 in
theorem call_set {v : Value} {Q : Value → Shared → Prop}
    (H : ∀ (A' : Around) (E' : Value → Shared → Prop) (Q' : Unit → Shared → Prop), A'.handled = A.handled → A'.depth = A.depth → A'.units ≤ A.units + 8 → (∀ s', Q (.ref s.heap.objs.size) s' → Q' () s') →
      wpAny (model PRG w) A' (Builtin.Frozenset.updateFrom "set.__init__" s.heap.objs.size v) Q' E' { s with heap := s.heap.push (freshSet w) }) :
    wpAny (model PRG w) A (call (.type "set") [v]) Q E s := by
  refine eEE F.called_set.mro ?_; rintro c tl hmro
  have hmade := F.called_set.made
  have hsub := F.called_set.sub
  refine wpAny_call (codeAny_of_tree ?_)
  show wpAny _ _ (callAny (.type "set") _) _ _ _
  refine wpAny_pure ⟨Code.quiet_builtin _ (by decide +kernel), codeAny_builtin F.entry_type_call ?_⟩
  rw [Around.under_plain (weight_type_call_type "set" [v] []) rfl]
  have h1 := F.called_set.notType
  have h2 := F.called_set.canCreate
  have hct := F.typeCall_set_1 v
  repeat (any_goals (first | assumption | wp_step))
  refine codeAny_mono (code_set_new v (E := E) (Q₁ := fun obj s₁ => obj = .ref s.heap.objs.size ∧ s₁ = { s with heap := s.heap.push (freshSet w) }) ⟨rfl, rfl⟩) fun r s₁ hr => ?_
  cases r with
  | error e => exact hr
  | ok fl =>
    cases fl with
    | ret obj =>
      obtain ⟨rfl, rfl⟩ := hr
      have hS : (s.heap.push (freshSet w)).get? s.heap.objs.size = some (freshSet w) := Heap.get?_push_size _ rfl
      have hT : Shared.TypeIs { s with heap := s.heap.push (freshSet w) } (.ref s.heap.objs.size) "set" := ⟨_, hS, rfl⟩
      have hli := F.called_set.init.lookup
      have hbi := F.called_set.init.bind (.ref s.heap.objs.size)
      repeat (any_goals (first | assumption | wp_step))
      refine codeAny_mono (codeAny_call_builtin (R := wants (fun r s₂ => r = .none ∧ Q (.ref s.heap.objs.size) s₂) E) F.called_set.init.plain F.entry_set_init (check_set_init_1 hT ?_)) fun r₂ s₂ hr₂ => ?_
      · unfold Builtin.«set.__init__» noKeywords
        generalize hU : Builtin.Frozenset.updateFrom = U at H
        have hne : (Value.type "list" == Value.type "dict") = false := by decide
        wp_walk
        exact H _ _ _ rfl rfl (by show A.units + 1 + 1 ≤ A.units + 8; lia) (fun s' hq => wpAny_pure ⟨rfl, hq⟩)
      · cases r₂ with
        | error e => exact hr₂
        | ok fl₂ =>
          cases fl₂ with
          | ret r =>
            obtain ⟨rfl, hq⟩ := hr₂
            repeat (any_goals (first | assumption | wp_step))
          | _ => exact hr₂.elim
    | _ => exact hr.elim
theorem Moved.trans {P G : List Nat} (x : Moved P G s s1) (y : Moved P G s1 s2) : Moved P G s s2 where
  keep := fun b o e h => y.keep b o (x.keep b o e h) h
  live := fun b z h => y.live b z (x.live b z h)
  gens := fun i g e h => y.gens i g (x.gens i g e h) h
  bare := fun h => y.bare (x.bare h)
  ns := fun L m h => let ⟨m', h'⟩ := x.ns L m h; y.ns L m' h'
  os := y.os.trans x.os
theorem Moved.weaken {P G P' G' : List Nat} (x : Moved P G s s1) (h : ∀ b ∈ P, b ∈ P') (hg : ∀ b ∈ G, b ∈ G') : Moved P' G' s s1 where
  keep := fun b o e z => x.keep b o e fun q => z (h b q)
  live := fun b z => x.live b fun q => z (h b q)
  gens := fun i g e z => x.gens i g e fun q => z (hg i q)
  bare := x.bare
  ns := x.ns
  os := x.os
theorem upd_loop {tg : Expr} {C : List Cell → Prop} {P G : List Nat} {it : Value} {ys : List Nat} {ob : Nat → Shared → Prop} {S : Addr} (It : ItAt w n tg C hb ρ P G it (natL ys) ob) (hlt : ∀ y ∈ ys, y < 4) (hC : C μ) (hSP : S ∉ P) (hS : hb.get? S = none ∧ S ∉ ρ ∧ S ∉ TB)
    (hP : ∀ b ∈ P, hb.get? b = none ∧ b ∉ ρ ∧ b ∉ TB) (rm : Room (n + 1) A) {R : Result → Shared → Prop} : ∀ (m i : Nat) (s : Shared) (zs : List Nat) (ts : Nat → Tok) (ep : Nat), ys.length - i = m → RelM w hb ρ s μ → ob i s → zs ∈ S16 → s.heap.get? S = some (setObj led ts ep fin mov zs) →
    (∀ s' ts' ep', Moved (S :: P) G s s' → s'.heap.get? S = some (setObj led ts' ep' fin mov ((ys.drop i).foldl (fun acc y => ins4 y acc) zs)) → R (.ok (.ret .none)) s') → codeAny (model PRG w) A (.builtin "set.update.loop" ⟨[.ref S, it], []⟩) R s := by
  intro m
  induction m with
  | zero =>
    intro i s zs ts ep hm RM o hz hg k
    refine codeAny_builtin F.entry_set_update_loop ?_
    rw [Around.under_plainId F.plain_set_update_loop _]
    show wpAny _ A.in1 (pyNext it >>= _) _ _ s
    have hi : ys.length ≤ i := by lia
    refine wpAny_bind (It.next _ _ _ _ _ i _ _ rm.in1 (fun _ _ e => e) List.prefix_rfl RM hC o (fun x hx => ?_) fun _ s' M => ?_)
    · unfold natL at hx; rw [List.getElem?_map, List.getElem?_eq_none hi] at hx; cases hx
    · refine wpAny_pure (k s' ts ep (M.weaken (fun b q => List.mem_cons_of_mem _ q) fun _ q => q) ?_)
      rw [List.drop_eq_nil_of_le hi]
      exact M.keep _ _ hg hSP
  | succ m ih =>
    intro i s zs ts ep hm RM o hz hg k
    refine codeAny_builtin F.entry_set_update_loop ?_
    rw [Around.under_plainId F.plain_set_update_loop _]
    show wpAny _ A.in1 (pyNext it >>= _) _ _ s
    have hi : i < ys.length := by lia
    refine wpAny_bind (It.next _ _ _ _ _ i _ _ rm.in1 (fun _ _ e => e) List.prefix_rfl RM hC o (fun x hx s1 v M L1 o1 hv _ => ?_) fun hx => ?_)
    · unfold natL at hx
      rw [List.getElem?_map, List.getElem?_eq_getElem hi] at hx
      cases hx
      obtain ⟨t, rfl⟩ := hv.int_inv
      show wpAny _ A.in1 (holding [Value.int (ys[i] : Int) t] (setAdd S (.int (ys[i] : Int) t)) >>= _) _ _ s1
      have hy := hlt _ (List.getElem_mem hi)
      have hg1 := M.keep _ _ hg hSP
      refine wpAny_bind (wpAny_holding (set_add hz hy hg1 fun b h' ts' ep' hsb hg2 => ?_))
      have M2 : Moved (S :: P) G s1 { s1 with heap := h', toks := s1.toks + 1 } := (moved_same (tk := s1.toks + 1) hg1 (fun es ep z => by cases z) hsb).weaken (fun b hb => by rw [List.mem_singleton.mp hb]; exact List.mem_cons_self ..) fun _ q => nomatch q
      have M1 : Moved (S :: P) G s s1 := M.weaken (fun b q => List.mem_cons_of_mem _ q) fun _ q => q
      have hP' : ∀ b ∈ S :: P, hb.get? b = none ∧ b ∉ ρ ∧ b ∉ TB := fun b hb => by
        rcases List.mem_cons.mp hb with rfl | q
        · exact hS
        · exact hP b q
      refine wpAny_pure ⟨plainId_quiet F.plain_set_update_loop _, ih (i + 1) _ _ ts' ep' (by lia) (RM.moved (M1.trans M2) hP') (It.stable _ _ _ o1 (fun b o' hb e => (hsb.2 b fun q => hSP (q ▸ hb)).trans e) fun j g _ e => e) (ins4_mem _ hz _ hy) hg2 fun s' ts'' ep'' M3 hg3 => k s' ts'' ep'' ((M1.trans M2).trans M3) ?_⟩
      rw [List.drop_eq_getElem_cons hi, List.foldl_cons]
      exact hg3
    · unfold natL at hx; rw [List.getElem?_map, List.getElem?_eq_getElem hi] at hx; cases hx
end
end
section
open PySem.Builtin
theorem sub_tuple_set : isSubtype (.type "tuple") (.type "set") = pure false := by rw [isSubtype_type]; kernel_rfl
theorem sub_tuple_frozenset : isSubtype (.type "tuple") (.type "frozenset") = pure false := by rw [isSubtype_type]; kernel_rfl
noncomputable def toSet (ys : List Nat) : List Nat := ys.foldl (fun acc y => ins4 y acc) []
section
variable {w : World} {n : Nat} {env : Env} {σ σ1 σ2 σ3 : St} {pos : Pos} {hb hb' hb1 hb2 : Heap} {ρ ρ' ρ1 ρ2 : List Addr} {s s' s1 s2 : Shared} {μ μ' : List Cell} {a b c : AV}
variable {led : Bool} {ts : Nat → Tok} {ep fin mov : Nat} {xs : List Nat} {A : Around} {E : Value → Shared → Prop} {sa : Addr}
theorem toSet_mem {ys : List Nat} (h : ∀ y ∈ ys, y < 4) : toSet ys ∈ S16 := by
  unfold toSet
  have : ∀ (ys zs : List Nat), zs ∈ S16 → (∀ y ∈ ys, y < 4) → ys.foldl (fun acc y => ins4 y acc) zs ∈ S16 := by
    intro ys
    induction ys with
    | nil => intro zs hz _; exact hz
    | cons y r ih => intro zs hz hl; exact ih _ (ins4_mem _ hz _ (hl y (List.mem_cons_self ..))) fun x hx => hl x (List.mem_cons_of_mem _ hx)
  exact this ys [] (by decide) h
theorem set_done {P G : List Nat} {S : Addr} {zs : List Nat} (R : RelM w hb ρ s μ) (X2 : Ext [] hb ρ s hb ρ s2) (R2 : RelM w hb ρ s2 μ) (hS : Dead s.heap S) (hP : ∀ b ∈ P, Dead s.heap b) (hG : ∀ g ∈ G, s.gens[g]? = none) (M : Moved (S :: P) G s2 s') (hz : zs ∈ S16) (hg : s'.heap.get? S = some (setObj (ledOf w) ts ep fin mov zs)) :
    ∃ hb', Ext [] hb ρ s hb' ρ s' ∧ RelM w hb' ρ s' μ ∧ VRel w hb' ρ (.set zs) (.ref S) := by
  have hfr : ∀ b, Dead s.heap b → hb.get? b = none ∧ b ∉ ρ ∧ b ∉ TB := fun b d => ⟨dead_base R.keep d, fun q => nd (R.out b q).2.2 d, fun q => nd (tb_lt R q) d⟩
  have hP' : ∀ b ∈ S :: P, Dead s.heap b := fun b hb => by
    rcases List.mem_cons.mp hb with rfl | q
    · exact hS
    · exact hP b q
  have R' := R2.moved M fun b hb => hfr b (hP' b hb)
  have X' : Ext [] hb ρ s hb ρ s' := ExtG.close X2 (Moved.g M) hP' hG
  refine ⟨_, X'.freeze R'.keep (F := [S]) fun b hb => by rw [List.mem_singleton.mp hb]; exact hS, R'.freeze fun b hb => by rw [List.mem_singleton.mp hb]; exact (hfr S hS).2, .set ⟨hz, ts, ep, fin, mov, ?_⟩⟩
  rw [addB_get R'.keep, if_pos (List.mem_singleton.mpr rfl)]; exact hg
theorem Room.le {A A' : Around} (h : Room (n + 1) A) (h1 : A'.handled = A.handled) (h2 : A'.depth = A.depth) (h3 : A'.units ≤ A.units + 8) : Room n A' :=
  ⟨h1.trans h.1, by have := h.2.1; rw [h2]; lia, by have := h.2.2; lia⟩
theorem upd_seq {T : String} {v : Value} {U : Unit → Shared → Prop} {S : Addr} (hT : s.TypeIs v T) (hv : ∃ l, v = .ref l) (h1 : isSubtype (.type T) (.type "set") = pure false) (h2 : isSubtype (.type T) (.type "frozenset") = pure false) (h3 : (Value.type T == Value.type "dict") = false)
    (h : wpAny (model PRG w) A (pyIter v) (fun it s1 => codeAny (model PRG w) A (.builtin "set.update.loop" ⟨[.ref S, it], []⟩) (fun r s2 => match r with | .ok (.ret _) => U () s2 | _ => False) s1) E s) : wpAny (model PRG w) A (Builtin.Frozenset.updateFrom "set.__init__" S v) U E s := by
  obtain ⟨l, rfl⟩ := hv
  refine eEA hT ?_; clear hT; rintro o ho hc
  obtain ⟨hh, g, d, tk, os⟩ := s
  obtain ⟨ocls, odict, odata, oslots⟩ := o
  dsimp only at hc ho
  subst hc
  unfold Builtin.Frozenset.updateFrom
  generalize hPI : pyIter = PI at h
  generalize hRV : runValue = RV
  wp_walk
  subst hPI hRV
  refine wpAny_mono h (fun it s1 hc => ?_) fun _ _ z => z
  refine wpAny_bind (wpAny_runValue (codeAny_mono hc fun r s2 z => ?_))
  rcases r with e | (v | _ | _ | _) <;> first | exact z.elim | skip
  exact wpAny_pure z
set_option tactic.hygienic true in
theorem fn_set {tg : Expr} {C : List Cell → Prop} {ys : List Nat} (hi : IterOf w n tg a μ (natL ys) C) (hC : C μ) (hlt : ∀ y ∈ ys, y < 4) {T : String} (hT : ∀ hb ρ s v, RelM w hb ρ s μ → VRel w hb ρ a v → s.TypeIs v T ∧ ∃ l, v = .ref l)
    (h1 : isSubtype (.type T) (.type "set") = pure false) (h2 : isSubtype (.type T) (.type "frozenset") = pure false) (h3 : (Value.type T == Value.type "dict") = false) :
    FN w (n + 2) (.val (.type "set")) [a] [] μ (.set (toSet ys)) μ := fun A hb ρ s fv vs kvs Q E rm R hf hvs hks k => by
  obtain rfl := VRel.val_inv hf; obtain rfl := hks.inv0
  refine eEA hvs.inv1 ?_; rintro _ rfl hv
  rename_i v
  refine call_set fun A' E' Q' e1 e2 e3 hq => ?_
  have rm' : Room (n + 1) A' := rm.le e1 e2 e3
  have hk : s.heap.StaysIn (s.heap.push (freshSet w)) := fun b o e => Heap.get?_push_of_some _ e
  have R1 : RelM w hb ρ { s with heap := s.heap.push (freshSet w) } μ := R.grow hk rfl
  have X1 : Ext [] hb ρ s hb ρ { s with heap := s.heap.push (freshSet w) } := Ext.plain (fun b o e _ => hk b o e) (live_stays hk) rfl rfl
  obtain ⟨t1, t2⟩ := hT hb ρ _ v R1 hv
  refine upd_seq t1 t2 h1 h2 h3 ?_
  refine hi _ _ _ _ _ _ _ (rm'.mono (Nat.le_succ _)) R1 hv fun ys' it P G ob s2 hY X2 R2 It o2 hP hG => ?_
  subst hY
  have hS0 : Dead s.heap s.heap.objs.size := dead_of_le (Nat.le_refl _)
  have hg1 : (s.heap.push (freshSet w)).get? s.heap.objs.size = some (freshSet w) := Heap.get?_push_size _ rfl
  have hSR : s.heap.objs.size ∉ ρ := fun q => nd (R.out _ q).2.2 hS0
  have hST : s.heap.objs.size ∉ TB := fun q => nd (tb_lt R q) hS0
  have hg2 : s2.heap.get? s.heap.objs.size = some (freshSet w) := X2.keep _ _ hg1 (fun q => nomatch q) hSR hST
  have hfr : ∀ b, Dead s.heap b → hb.get? b = none ∧ b ∉ ρ ∧ b ∉ TB := fun b d => ⟨dead_base R.keep d, fun q => nd (R.out b q).2.2 d, fun q => nd (tb_lt R q) d⟩
  have hPd : ∀ b ∈ P, Dead s.heap b := fun b q => dead_back X1.live (hP b q).1
  refine upd_loop (led := ledOf w) (fin := 0) (mov := 0) It hlt hC (fun q => nd' hg1 (hP _ q).1) (hfr _ hS0) (fun b q => hfr b (hPd b q)) rm' ys.length 0 s2 [] (fun _ => 0) 0 (by simp) R2 o2 (by decide) hg2 fun s' ts' ep' M hg' => ?_
  refine eEAA (set_done R (X1.trans X2) R2 hS0 hPd (fun g q => (hG g q).1) M (toSet_mem hlt) hg') ?_; rintro hb' X' R' hv'
  exact hq _ (k _ _ _ _ X' R' hv')
theorem fn_set_list {ys : List Nat} (e : listOfAV μ a = some (natL ys)) (hlt : ∀ y ∈ ys, y < 4) : FN w (n + 2) (.val (.type "set")) [a] [] μ (.set (toSet ys)) μ :=
  fn_set (iter_list (tg := .Name "x" default) e tg_name) e hlt (T := "list") (fun hb ρ s v R hv => by
    refine eEEAA (list_of R hv e) ?_; rintro l vs rfl hl _
    exact ⟨hl.typeIs, l, rfl⟩) F.sub_list_set F.sub_list_frozenset (by decide)
theorem fn_set_tup {ys : List Nat} (hlt : ∀ y ∈ ys, y < 4) : FN w (n + 2) (.val (.type "set")) [.tup (natL ys)] [] μ (.set (toSet ys)) μ :=
  fn_set (iter_tuple (tg := .Name "x" default) fun _ _ => rfl) trivial hlt (T := "tuple") (fun hb ρ s v R hv => by
    refine eEEAA hv.tup_inv ?_; rintro l vs rfl hl _
    refine eEAA (hl.keeps R.keep) ?_; rintro o h1 h2 _
    exact ⟨⟨o, h1, h2⟩, l, rfl⟩) sub_tuple_set sub_tuple_frozenset (by decide)
end
end
section
open PySem.Builtin
theorem s16_canon : ∀ xs ∈ S16, (List.range 4).filter (fun y => xs.contains y) = xs := by decide
theorem ins4_contains {x y : Nat} {zs : List Nat} : (ins4 x zs).contains y = (decide (y < 4) && (zs.contains y || y == x)) := by
  rw [Bool.eq_iff_iff, List.contains_iff_mem]
  unfold ins4
  rw [List.mem_filter, List.mem_range, Bool.and_eq_true, decide_eq_true_eq]
theorem fold_eq : ∀ (l zs : List Nat), zs ∈ S16 → (∀ y ∈ l, y < 4) → l.foldl (fun acc y => ins4 y acc) zs = (List.range 4).filter fun y => zs.contains y || l.contains y
  | [], zs, hz, _ => by
    rw [List.foldl_nil]
    conv => lhs; rw [← s16_canon zs hz]
    exact List.filter_congr fun y _ => by simp
  | x :: l, zs, hz, hl => by
    have hx := hl x (List.mem_cons_self ..)
    rw [List.foldl_cons, fold_eq l _ (ins4_mem _ hz _ hx) fun y h => hl y (List.mem_cons_of_mem _ h)]
    apply List.filter_congr
    intro y hy
    rw [ins4_contains, decide_eq_true (List.mem_range.mp hy), Bool.true_and, List.contains_cons, Bool.or_assoc]
theorem toSet_eq {l : List Nat} (h : ∀ y ∈ l, y < 4) : toSet l = (List.range 4).filter fun y => l.contains y := by
  unfold toSet
  rw [fold_eq l [] (by decide) h]
  exact List.filter_congr fun y _ => by simp
noncomputable def inter (xs ys : List Nat) : List Nat := (List.range 4).filter fun y => xs.contains y && ys.contains y
section
variable {w : World} {n : Nat} {env : Env} {σ σ1 σ2 σ3 : St} {pos : Pos} {hb hb' hb1 hb2 : Heap} {ρ ρ' ρ1 ρ2 : List Addr} {s s' s1 s2 : Shared} {μ μ' : List Cell} {a b c : AV}
variable {led : Bool} {ts ts1 ts2 : Nat → Tok} {ep fin mov ep1 fin1 mov1 ep2 fin2 mov2 : Nat} {xs ys : List Nat} {A : Around} {E : Value → Shared → Prop} {sa sb : Addr}
theorem any_set {prog : Program} {Q : Bool → Shared → Prop} (ho : s.heap.get? sa = some (setObj led ts ep fin mov xs)) (h : Q true s) : wpAny (model prog w) A (Builtin.Frozenset.isAnySet (.ref sa)) Q E s := by
  have hsub := sub_set_self
  obtain ⟨hh, g, d, tk, os⟩ := s
  dsimp only at ho
  unfold Builtin.Frozenset.isAnySet
  wp_walk
  exact h
theorem base_set {prog : Program} {Q : Value → Shared → Prop} (ho : s.heap.get? sa = some (setObj led ts ep fin mov xs)) (h : Q (.type "set") s) : wpAny (model prog w) A (Builtin.Frozenset.baseOf sa) Q E s := by
  have hsub := sub_set_self
  obtain ⟨hh, g, d, tk, os⟩ := s
  dsimp only at ho
  unfold Builtin.Frozenset.baseOf
  wp_walk
  exact h
theorem size_set {prog : Program} {Q : Nat → Shared → Prop} (hx : xs ∈ S16) (ho : s.heap.get? sa = some (setObj led ts ep fin mov xs)) (h : Q xs.length s) : wpAny (model prog w) A (Builtin.Frozenset.sizeOf sa) Q E s := by
  unfold Builtin.Frozenset.sizeOf setEntries
  refine wpAny_bind (wpAny_bind (wpAny_setState_of ho rfl (set_fits hx) (wpAny_pure ?_)))
  rw [setEs_size]
  exact wpAny_pure h
theorem unseen_eq (hx : xs ∈ S16) (ho : s.heap.get? sa = some (setObj (ledOf w) ts ep fin mov xs)) {others : List Addr} {filled : Option Addr} {Q : Array (Int × Value) → Shared → Prop} (h : Q (ordOf w sa ep ts xs).toArray s) : wpAny (model PRG w) A (setWalkUnseen sa others filled) Q E s := by
  unfold setWalkUnseen
  refine wpAny_bind (wpAny_setState_of ho rfl (set_fits hx) ?_)
  unfold setsByText
  refine wpAny_bind (wpAny_bind (wpAny_askSetting (wpAny_pure ?_)))
  dsimp only
  rw [if_pos]
  · exact walk_eq hx ho h
  · show (w.params.followText "set-order" || (ledOf w && true) || _) = true
    unfold ledOf
    cases w.params.followText "set-order" <;> rfl
theorem inter_loop {r : Addr} {id : String} {was : Nat} (hy : ys ∈ S16) (hra : r ≠ sa) (hrb : r ≠ sb) {Q : PUnit → Shared → Prop} : ∀ (l : List Nat) (s : Shared) (zs : List Nat) (ts' : Nat → Tok) (ep' : Nat), (∀ x ∈ l, x < 4) → xs ∈ S16 → zs ∈ S16 →
    s.heap.get? sa = some (setObj led ts1 was fin1 mov1 xs) → s.heap.get? sb = some (setObj led ts2 ep2 fin2 mov2 ys) → s.heap.get? r = some (setObj led ts' ep' fin mov zs) →
    (∀ h' ts'' ep'', Heap.SameBut r s.heap h' → h'.get? r = some (setObj led ts'' ep'' fin mov ((l.filter fun x => ys.contains x).foldl (fun acc y => ins4 y acc) zs)) → Q () { s with heap := h' }) →
    wpAny (model PRG w) A (forIn (l.map fun (x : Nat) => ((x : Int), Value.int (x : Int) (ts x))) PUnit.unit fun e _ => do
      holding [e.2] do
        if (← setFind sb e.2 e.1).isSome then
          let _ ← setAddHashed r e.2 e.1
      Builtin.Frozenset.unchanged id sa was
      pure (ForInStep.yield PUnit.unit)) Q E s
  | [], s, zs, ts', ep', _, _, _, _, _, hr, k => by
    rw [List.map_nil, List.forIn_nil]
    exact wpAny_pure (k s.heap ts' ep' (Heap.SameBut.refl _ _) hr)
  | x :: l, s, zs, ts', ep', hl, hx, hz, ha, hb, hr, k => by
    rw [List.map_cons, List.forIn_cons]
    have hxl := hl x (List.mem_cons_self ..)
    have hfind : ∀ {Q' : Option Nat → Shared → Prop}, (∀ q : Option Nat, q.isSome = ys.contains x → Q' q s) → wpAny (model PRG w) A (setFind sb (.int (x : Int) (ts x)) (x : Int)) Q' E s := fun h => by
      have := wpAny_setFind_of (knd := intKind PRG w) (A := A) (E := E) (k := (x : Int)) (x := .int (x : Int) (ts x)) (intKind_is _ _ _ _) rfl (set_of hy hb) (fun q e => h q (e.trans ?_))
      · rwa [show (intKind PRG w).hash (x : Int) = (x : Int) from hash_small x hxl] at this
      · rw [Bool.eq_iff_iff, List.any_eq_true, List.contains_iff_mem]
        constructor
        · rintro ⟨z, h1, h2⟩; have := of_decide_eq_true h2; exact (show z = x by lia) ▸ h1
        · intro h; exact ⟨x, h, decide_eq_true rfl⟩
    refine wpAny_bind (wpAny_bind (wpAny_holding (wpAny_bind (hfind fun q hq => ?_))))
    have hun : ∀ {s3 : Shared} {Q3 : Unit → Shared → Prop}, s3.heap.get? sa = some (setObj led ts1 was fin1 mov1 xs) → Q3 () s3 → wpAny (model PRG w) A (Builtin.Frozenset.unchanged id sa was) Q3 E s3 := fun h3 hq3 => by
      unfold Builtin.Frozenset.unchanged
      refine wpAny_bind (wpAny_setEpoch_of h3 rfl (set_fits hx) ?_)
      rw [if_neg (by simp)]
      exact wpAny_pure hq3
    cases hc : ys.contains x with
    | true =>
      rw [hc] at hq
      rw [if_pos hq]
      refine wpAny_bind (set_add_hashed hz hxl hr fun bb h' ts'' ep'' hsb hg => wpAny_pure ?_)
      have ha' : h'.get? sa = some (setObj led ts1 was fin1 mov1 xs) := (hsb.2 _ (Ne.symm hra)).trans ha
      refine wpAny_bind (hun ha' (wpAny_pure ?_))
      refine inter_loop hy hra hrb l _ _ ts'' ep'' (fun y h => hl y (List.mem_cons_of_mem _ h)) hx (ins4_mem _ hz _ hxl) ha' ((hsb.2 _ (Ne.symm hrb)).trans hb) hg fun h'' ts3 ep3 hsb' hg' => ?_
      refine k h'' ts3 ep3 (hsb.trans hsb') ?_
      rw [List.filter_cons, if_pos hc, List.foldl_cons]
      exact hg'
    | false =>
      rw [hc] at hq
      rw [if_neg (by rw [hq]; decide)]
      refine wpAny_pure (wpAny_bind (hun ha (wpAny_pure ?_)))
      refine inter_loop hy hra hrb l _ _ ts' ep' (fun y h => hl y (List.mem_cons_of_mem _ h)) hx hz ha hb hr fun h'' ts3 ep3 hsb' hg' => ?_
      refine k h'' ts3 ep3 hsb' ?_
      rw [List.filter_cons, if_neg (by rw [hc]; decide)]
      exact hg'
theorem filt_inter (hx : xs ∈ S16) (hy : ys ∈ S16) {l : List Nat} (p : l.Perm xs) : (l.filter fun x => ys.contains x).foldl (fun acc y => ins4 y acc) [] = inter xs ys := by
  rw [fold_eq _ [] (by decide) fun y h => s16_lt _ hx _ (p.mem_iff.mp ((List.mem_filter.mp h).1))]
  unfold inter
  apply List.filter_congr
  intro y _
  rw [Bool.eq_iff_iff]
  simp only [List.contains_iff_mem, List.not_mem_nil, Bool.or_eq_true, decide_eq_true_eq, Bool.and_eq_true, List.mem_filter, p.mem_iff, List.elem_eq_mem, decide_false, Bool.false_or]
theorem inter_comm {xs ys : List Nat} : inter xs ys = inter ys xs := by
  unfold inter; exact List.filter_congr fun y _ => Bool.and_comm _ _
theorem ord_lt (hx : xs ∈ S16) : ∀ x ∈ ordN w sa ep ts xs, x < 4 := fun x h => s16_lt _ hx _ (ordN_perm.mem_iff.mp h)
theorem inter_raw {id : String} (hx : xs ∈ S16) (hy : ys ∈ S16) (ha : s.heap.get? sa = some (setObj (ledOf w) ts1 ep1 fin1 mov1 xs)) (hb : s.heap.get? sb = some (setObj (ledOf w) ts2 ep2 fin2 mov2 ys)) (hne : sb ≠ sa) {Q : Value → Shared → Prop}
    (k : ∀ h' ts' ep', Heap.SameBut s.heap.objs.size (s.heap.push (freshSet w)) h' → h'.get? s.heap.objs.size = some (setObj (ledOf w) ts' ep' 0 0 (inter xs ys)) → Q (.ref s.heap.objs.size) { s with heap := h' }) :
    wpAny (model PRG w) A (Builtin.Frozenset.intersection id sa (.ref sb)) Q E s := by
  unfold Builtin.Frozenset.intersection
  rw [if_neg (by simp; exact hne)]
  refine wpAny_bind (base_set ha (wpAny_bind (newSet_led (wpAny_bind (wpAny_pure (wpAny_bind (wpAny_holding ?_)))))))
  have kp : ∀ b o, s.heap.get? b = some o → (s.heap.push (freshSet w)).get? b = some o := fun b o e => Heap.get?_push_of_some _ e
  have hr : (s.heap.push (freshSet w)).get? s.heap.objs.size = some (freshSet w) := Heap.get?_push_size _ rfl
  have hra : s.heap.objs.size ≠ sa := Ne.symm (Nat.ne_of_lt (Heap.lt_size ha))
  have hrb : s.heap.objs.size ≠ sb := Ne.symm (Nat.ne_of_lt (Heap.lt_size hb))
  refine wpAny_bind (any_set (kp _ _ hb) ?_)
  rw [if_pos rfl]
  refine wpAny_bind (wpAny_pure ?_)
  refine wpAny_bind (size_set hy (kp _ _ hb) (wpAny_bind (size_set hx (kp _ _ ha) ?_)))
  by_cases hsz : ys.length > xs.length
  · rw [if_pos hsz]
    dsimp only
    refine wpAny_bind (wpAny_setEpoch_of (kp _ _ ha) rfl (set_fits hx) (wpAny_bind (unseen_eq hx (kp _ _ ha) ?_)))
    rw [List.forIn_toArray, ord_eq]
    refine wpAny_bind (inter_loop (led := ledOf w) (fin := 0) (mov := 0) hy hra hrb (ordN w sa ep1 ts1 xs) _ [] (fun _ => 0) 0 (ord_lt hx) hx (by decide) (kp _ _ ha) (kp _ _ hb) hr fun h' ts' ep' hsb hg => wpAny_pure (wpAny_pure (k h' ts' ep' hsb ?_)))
    rw [filt_inter hx hy ordN_perm] at hg
    exact hg
  · rw [if_neg hsz]
    dsimp only
    refine wpAny_bind (wpAny_setEpoch_of (kp _ _ hb) rfl (set_fits hy) (wpAny_bind (unseen_eq hy (kp _ _ hb) ?_)))
    rw [List.forIn_toArray, ord_eq]
    refine wpAny_bind (inter_loop (led := ledOf w) (fin := 0) (mov := 0) hx hrb hra (ordN w sb ep2 ts2 ys) _ [] (fun _ => 0) 0 (ord_lt hy) hy (by decide) (kp _ _ hb) (kp _ _ ha) hr fun h' ts' ep' hsb hg => wpAny_pure (wpAny_pure (k h' ts' ep' hsb ?_)))
    rw [filt_inter hy hx ordN_perm, inter_comm] at hg
    exact hg
end
end
section
open PySem.Builtin
theorem entry_set_and : entryFor table "set.__and__" = some Builtin.«frozenset.__and__» := entryFor_alias (id' := "frozenset.__and__") (by kernel_rfl) rfl (by decide +kernel) (by kernel_rfl)
theorem entry_set_intersection : entryFor table "set.intersection" = some Builtin.«frozenset.intersection» := entryFor_alias (id' := "frozenset.intersection") (by kernel_rfl) rfl (by decide +kernel) (by kernel_rfl)
theorem entry_set_eq : entryFor table "set.__eq__" = some Builtin.«frozenset.__eq__» := entryFor_alias (id' := "frozenset.__eq__") (by kernel_rfl) rfl (by decide +kernel) (by kernel_rfl)
theorem and_eq (a b : Value) : Builtin.«frozenset.__and__» ⟨[a, b], []⟩ = (do
    if !(← (Builtin.Frozenset.isAnySet a <&&> Builtin.Frozenset.isAnySet b)) then rule "frozenset.__and__.declined"; return ← ret .notImplemented
    ret (← Builtin.Frozenset.intersection "frozenset.__and__" (← Builtin.Frozenset.addrOf a) b)) := by kernel_rfl
section
variable {w : World} {n : Nat} {env : Env} {σ σ1 σ2 σ3 : St} {pos : Pos} {hb hb' hb1 hb2 : Heap} {ρ ρ' ρ1 ρ2 : List Addr} {s s' s1 s2 : Shared} {μ μ' : List Cell} {a b c : AV}
variable {led : Bool} {ts ts1 ts2 : Nat → Tok} {ep fin mov ep1 fin1 mov1 ep2 fin2 mov2 : Nat} {xs ys : List Nat} {A : Around} {E : Value → Shared → Prop} {sa sb : Addr}
theorem merge_raw {S : Addr} {each : Sem Unit} (hx : xs ∈ S16) (hS : s.heap.get? S = some (freshSet w)) (ho : s.heap.get? sa = some (setObj (ledOf w) ts ep fin mov xs)) (hne : S ≠ sa) {Q : Unit → Shared → Prop}
    (k : ∀ h' ts' ep', Heap.SameBut S s.heap h' → h'.get? S = some (setObj (ledOf w) ts' ep' 0 0 xs) → Q () { s with heap := h' }) : wpAny (model PRG w) A (setMerge S sa each) Q E s := by
  unfold setMerge
  rw [if_neg (by simpa using hne)]
  refine wpAny_bind (wpAny_setState_of ho rfl (set_fits hx) ?_)
  dsimp only
  by_cases he : (setEs ts xs).isEmpty = true
  · rw [if_pos he]
    have : xs = [] := by
      have h2 := setEs_size (ts := ts) (xs := xs)
      rw [Array.isEmpty_iff_size_eq_zero.mp he] at h2
      exact List.length_eq_zero_iff.mp h2.symm
    subst this
    exact wpAny_pure (k s.heap _ _ (Heap.SameBut.refl _ _) hS)
  · rw [if_neg he]
    have hl := s16_len _ hx
    have hroom : (setTab (ledOf w) 0 0 []).roomFor xs.length = none := by
      unfold SetTable.roomFor
      rw [if_neg]
      show ¬ (0 + xs.length) * 5 ≥ 7 * 3
      lia
    unfold setRoomFor
    refine wpAny_bind (wpAny_bind (wpAny_setState_of hS rfl (set_fits (by decide)) ?_))
    rw [setEs_size]
    dsimp only
    rw [hroom]
    refine wpAny_pure (wpAny_bind (wpAny_setState_of hS rfl (set_fits (by decide)) ?_))
    dsimp only
    rw [show (setTab (ledOf w) 0 0 []).road (setTab (ledOf w) fin mov xs) = .slotForSlot from rfl]
    dsimp only
    refine wpAny_storeSet_of hS rfl ?_ (by rw [setEs_size, sizeLine_eq]; lia)
    have hg := Heap.get?_update_self (Obj.putSet (setEs ts xs) (setTab (ledOf w) 0 0 xs)) hS rfl
    rw [put_obj] at hg
    have e : ({ setTab (ledOf w) fin mov xs with finger := 0, led := ledOf w && ledOf w, moves := 0, plain := true && true } : SetTable) = setTab (ledOf w) 0 0 xs := by cases ledOf w <;> rfl
    rw [e]
    exact k _ _ _ (Heap.SameBut.update _ _ _) hg
theorem copy_raw (hx : xs ∈ S16) (ho : s.heap.get? sa = some (setObj (ledOf w) ts ep fin mov xs)) {Q : Value → Shared → Prop}
    (k : ∀ h' ts' ep', Heap.SameBut s.heap.objs.size (s.heap.push (freshSet w)) h' → h'.get? s.heap.objs.size = some (setObj (ledOf w) ts' ep' 0 0 xs) → Q (.ref s.heap.objs.size) { s with heap := h' }) : wpAny (model PRG w) A (Builtin.Frozenset.copyOf sa) Q E s := by
  unfold Builtin.Frozenset.copyOf
  refine wpAny_bind (base_set ho (wpAny_bind (newSet_led (wpAny_bind (wpAny_pure (wpAny_bind ?_))))))
  exact merge_raw hx (Heap.get?_push_size _ rfl) (Heap.get?_push_of_some _ ho) (Ne.symm (Nat.ne_of_lt (Heap.lt_size ho))) fun h' ts' ep' h1 h2 => wpAny_pure (k h' ts' ep' h1 h2)
theorem inter_self : ∀ xs ∈ S16, inter xs xs = xs := by decide
theorem inter_mem : ∀ xs ∈ S16, ∀ ys ∈ S16, inter xs ys ∈ S16 := by decide
theorem inter_any {id : String} (hx : xs ∈ S16) (hy : ys ∈ S16) (ha : s.heap.get? sa = some (setObj (ledOf w) ts1 ep1 fin1 mov1 xs)) (hb : s.heap.get? sb = some (setObj (ledOf w) ts2 ep2 fin2 mov2 ys)) {Q : Value → Shared → Prop}
    (k : ∀ h' ts' ep', Heap.SameBut s.heap.objs.size (s.heap.push (freshSet w)) h' → h'.get? s.heap.objs.size = some (setObj (ledOf w) ts' ep' 0 0 (inter xs ys)) → Q (.ref s.heap.objs.size) { s with heap := h' }) :
    wpAny (model PRG w) A (Builtin.Frozenset.intersection id sa (.ref sb)) Q E s := by
  by_cases hne : sb = sa
  · subst hne
    rw [ha] at hb
    have hxy : setEs ts1 xs = setEs ts2 ys := by
      have := (Option.some.inj hb)
      injection this with _ _ h3 _
      injection h3
    have e : xs = ys := by
      have h2 : (setEs ts1 xs).toList.map (fun e => e.1.toNat) = (setEs ts2 ys).toList.map (fun e => e.1.toNat) := by rw [hxy]
      simp only [setEs, List.map_map] at h2
      have h3 : ∀ (ts : Nat → Tok) (l : List Nat), l.map ((fun e : Int × Value => e.1.toNat) ∘ fun (x : Nat) => ((x : Int), Value.int (x : Int) (ts x))) = l := fun ts l => by
        conv => rhs; rw [← List.map_id l]
        exact List.map_congr_left fun x _ => rfl
      rwa [h3, h3] at h2
    subst e
    unfold Builtin.Frozenset.intersection
    rw [if_pos (by simp)]
    rw [inter_self _ hx] at k
    exact copy_raw hx ha k
  · exact inter_raw hx hy ha hb hne k
theorem set_new {h' : Heap} {zs : List Nat} {ts' : Nat → Tok} {ep' : Nat} (R : RelM w hb ρ s μ) (hz : zs ∈ S16) (hsb : Heap.SameBut s.heap.objs.size (s.heap.push (freshSet w)) h') (hg : h'.get? s.heap.objs.size = some (setObj (ledOf w) ts' ep' 0 0 zs)) :
    ∃ hb', Ext [] hb ρ s hb' ρ { s with heap := h' } ∧ RelM w hb' ρ { s with heap := h' } μ ∧ VRel w hb' ρ (.set zs) (.ref s.heap.objs.size) := by
  have hk : s.heap.StaysIn (s.heap.push (freshSet w)) := fun b o e => Heap.get?_push_of_some _ e
  have M : Moved [s.heap.objs.size] [] { s with heap := s.heap.push (freshSet w) } { s with heap := h' } := moved_same (s := { s with heap := s.heap.push (freshSet w) }) (tk := s.toks) (Heap.get?_push_size _ rfl) (fun es ep z => by cases z) hsb
  exact set_done (P := []) (G := []) (s2 := { s with heap := s.heap.push (freshSet w) }) R (Ext.plain (fun b o e _ => hk b o e) (live_stays hk) rfl rfl) (R.grow hk rfl) (dead_of_le (Nat.le_refl _)) (fun _ q => nomatch q) (fun _ q => nomatch q) M hz hg
theorem o_and_set : OI w n (binaryOp .BitAnd) (.set xs) (.set ys) μ (.set (inter xs ys)) := fun A hb ρ s v u Q E rm R hv hu k => by
  obtain ⟨sa, rfl, hx, ts1, ep1, fin1, mov1, ha⟩ := hv.set_inv
  obtain ⟨sb, rfl, hy, ts2, ep2, fin2, mov2, hbb⟩ := hu.set_inv
  have ha' := R.keep _ _ ha
  have hb' := R.keep _ _ hbb
  have hT : s.TypeIs (.ref sa) "set" := ⟨_, ha', rfl⟩
  refine wpAny_binaryOp_same (op := .BitAnd) hT ⟨_, hb', rfl⟩ F.fills_set_and F.slot_set_and (wpAny_call_entry F.slot_set_and hT entry_set_and ?_ (F.args_set_and_2 _ _))
  rw [and_eq]
  refine wpAny_bind ?_
  show wpAny _ _ (Builtin.Frozenset.isAnySet (.ref sa) <&&> Builtin.Frozenset.isAnySet (.ref sb)) _ _ _
  refine wpAny_bind (any_set ha' ?_)
  refine any_set hb' ?_
  simp only [Bool.not_true, Bool.false_eq_true, if_false]
  refine wpAny_bind (wpAny_pure (wpAny_bind (inter_any hx hy ha' hb' fun h' ts' ep' hsb hg => wpAny_pure ?_)))
  refine eEAA (set_new R (inter_mem _ hx _ hy) hsb hg) ?_; rintro hb3 X3 R3 h3
  exact ⟨_, rfl, ⟨(fun q => by cases q), k _ _ _ _ X3 R3 h3⟩⟩
end
end
section
open PySem.Builtin PySem.SeqAt
section
variable {w : World} {n : Nat} {env : Env} {σ σ1 σ2 σ3 : St} {pos : Pos} {hb hb' hb1 hb2 : Heap} {ρ ρ' ρ1 ρ2 : List Addr} {s s' s1 s2 : Shared} {μ μ' : List Cell} {a b c : AV}
variable {led : Bool} {ts ts1 ts2 : Nat → Tok} {ep fin mov ep1 fin1 mov1 ep2 fin2 mov2 : Nat} {xs ys : List Nat} {A : Around} {E : Value → Shared → Prop} {sa sb : Addr}
theorem walk_unseen {prog : Program} (hx : xs ∈ S16) (hy : ys ∈ S16) (ha : s.heap.get? sa = some (setObj led ts1 ep1 fin1 mov1 xs)) (hb : s.heap.get? sb = some (setObj led ts2 ep2 fin2 mov2 ys)) {Q : List (Int × Value) → Shared → Prop}
    (h : Q (setEs ts1 xs).toList s) : wpAny (model prog w) A (Builtin.Frozenset.walkUnseen sa sb) Q E s := by
  unfold Builtin.Frozenset.walkUnseen setEntries
  refine wpAny_bind (wpAny_bind (wpAny_setState_of ha rfl (set_fits hx) (wpAny_pure ?_)))
  refine wpAny_bind (wpAny_bind (wpAny_setState_of hb rfl (set_fits hy) (wpAny_pure ?_)))
  dsimp only
  have hall : ∀ e ∈ (setEs ts1 xs).toList ++ (setEs ts2 ys).toList, ∃ (x : Int) (t : Tok), e.2 = .int x t := fun e he => by
    rcases List.mem_append.mp he with q | q
    · refine eEA (setEs_mem q) ?_; rintro x _ rfl; exact ⟨_, _, rfl⟩
    · refine eEA (setEs_mem q) ?_; rintro x _ rfl; exact ⟨_, _, rfl⟩
  refine wpAny_bind (wpAny_mono (Q := fun r s' => r = (none, ()) ∧ s' = s) ?_ (fun r s' hr => ?_) fun _ _ z => z)
  · generalize (setEs ts1 xs).toList ++ (setEs ts2 ys).toList = l at hall
    induction l with
    | nil => rw [List.forIn_nil]; exact wpAny_pure ⟨rfl, rfl⟩
    | cons e l ih =>
      rw [List.forIn_cons]
      refine eEE (hall e (List.mem_cons_self ..)) ?_; rintro x t he
      rw [he]
      refine wpAny_bind (wpAny_bind (wpAny_pure ?_))
      rw [if_neg (by decide)]
      exact wpAny_pure (ih fun e h => hall e (List.mem_cons_of_mem _ h))
  · obtain ⟨rfl, rfl⟩ := hr
    exact wpAny_pure h
set_option tactic.hygienic true in
theorem subset_raw {prog : Program} {id : String} (hx : xs ∈ S16) (hy : ys ∈ S16) (hl : xs.length = ys.length) (ha : s.heap.get? sa = some (setObj led ts1 ep1 fin1 mov1 xs)) (hb : s.heap.get? sb = some (setObj led ts2 ep2 fin2 mov2 ys)) {Q : Bool → Shared → Prop}
    (h : Q (xs.all fun x => ys.contains x) s) : wpAny (model prog w) A (Builtin.Frozenset.subsetOf id sa sb) Q E s := by
  unfold Builtin.Frozenset.subsetOf
  refine wpAny_bind (size_set hx ha (wpAny_bind (size_set hy hb ?_)))
  rw [if_neg (by lia)]
  refine wpAny_bind (wpAny_setEpoch_of ha rfl (set_fits hx) (wpAny_bind (walk_unseen hx hy ha hb ?_)))
  refine wpAny_bind (wpAny_mono (Q := fun r s' => r = ((if (xs.all fun x => ys.contains x) then none else some false), ()) ∧ s' = s) ?_ (fun r s' hr => ?_) fun _ _ z => z)
  · have hlt := s16_lt _ hx
    have ha0 := ha
    show wpAny _ _ (forIn (xs.map fun (x : Nat) => ((x : Int), Value.int (x : Int) (ts1 x))) (none, ()) _) _ _ _
    revert hlt
    generalize xs = l
    intro hlt
    induction l with
    | nil => rw [List.map_nil, List.forIn_nil]; exact wpAny_pure ⟨rfl, rfl⟩
    | cons x l ih =>
      rw [List.map_cons, List.forIn_cons]
      have hxl := hlt x (List.mem_cons_self ..)
      have hfind : ∀ {Q' : Option Nat → Shared → Prop}, (∀ q : Option Nat, q.isSome = ys.contains x → Q' q s) → wpAny (model prog w) A (setFind sb (.int (x : Int) (ts1 x)) (x : Int)) Q' E s := fun h => by
        have := wpAny_setFind_of (knd := intKind prog w) (A := A) (E := E) (k := (x : Int)) (x := .int (x : Int) (ts1 x)) (intKind_is _ _ _ _) rfl (set_of hy hb) (fun q e => h q (e.trans ?_))
        · rwa [show (intKind prog w).hash (x : Int) = (x : Int) from hash_small x hxl] at this
        · rw [Bool.eq_iff_iff, List.any_eq_true, List.contains_iff_mem]
          constructor
          · rintro ⟨z, h1, h2⟩; have := of_decide_eq_true h2; exact (show z = x by lia) ▸ h1
          · intro h; exact ⟨x, h, decide_eq_true rfl⟩
      refine wpAny_bind ?_
      dsimp only
      refine wpAny_bind (wpAny_holding (hfind fun q hq => ?_))
      cases hc : ys.contains x with
      | true =>
        rw [hc] at hq
        rw [if_neg (by cases q <;> simp_all)]
        unfold Builtin.Frozenset.unchanged
        refine wpAny_bind (wpAny_bind (wpAny_setEpoch_of ha0 rfl (set_fits hx) ?_))
        rw [if_neg (by simp)]
        refine wpAny_pure (wpAny_pure ?_)
        rw [List.all_cons, hc, Bool.true_and]
        exact ih fun y h => hlt y (List.mem_cons_of_mem _ h)
      | false =>
        rw [hc] at hq
        rw [if_pos (by cases q <;> simp_all)]
        refine wpAny_pure (wpAny_pure ?_)
        rw [List.all_cons, hc]
        exact ⟨rfl, rfl⟩
  · obtain ⟨rfl, rfl⟩ := hr
    dsimp only
    split
    · rename_i q
      split at q
      · cases q
      · rename_i z; cases q; rw [Bool.not_eq_true] at z; rw [z] at h; exact wpAny_pure h
    · rename_i q
      split at q
      · rename_i z; rw [z] at h; exact wpAny_pure h
      · cases q
theorem all_iff : ∀ xs ∈ S16, ∀ ys ∈ S16, xs.length = ys.length → (xs.all fun x => ys.contains x) = (xs == ys) := by decide
theorem set_eq_body {prog : Program} (hx : xs ∈ S16) (hy : ys ∈ S16) (ha : s.heap.get? sa = some (setObj led ts1 ep1 fin1 mov1 xs)) (hb : s.heap.get? sb = some (setObj led ts2 ep2 fin2 mov2 ys)) {Q : Fin → Shared → Prop}
    (h : Q (.done (.ret (.bool (xs == ys)))) s) : wpAny (model prog w) A (Builtin.«frozenset.__eq__» ⟨[.ref sa, .ref sb], []⟩) Q E s := by
  have hsub := sub_set_self
  have hsub2 : isSubtype (.type "set") (.type "frozenset") = pure false := by rw [isSubtype_type]; kernel_rfl
  obtain ⟨hh, g, d, tk, os⟩ := s
  dsimp only at ha hb
  unfold Builtin.«frozenset.__eq__»
  wp_walk
  have hfit : ((setTab led fin1 mov1 xs).place.size != (setEs ts1 xs).size || decide ((setTab led fin1 mov1 xs).fill > (setTab led fin1 mov1 xs).mask)) = false := by
    have hf := set_fits (led := led) (fin := fin1) (mov := mov1) (ts := ts1) hx
    simp only [SetTable.fits, Bool.and_eq_true, beq_iff_eq, decide_eq_true_eq] at hf
    simp [hf.1, Nat.not_lt.mpr hf.2]
  rw [hfit]
  simp only [Bool.false_eq_true, if_false]
  refine wpAny_pure (wpAny_pure (wpAny_pure ?_))
  refine wpAny_bind (size_set hy hb ?_)
  dsimp only
  rw [setEs_size]
  by_cases hne : xs.length = ys.length
  · rw [if_neg (by simpa using hne)]
    refine wpAny_bind ?_
    generalize hSU : Builtin.Frozenset.subsetOf = SU
    have hSU' : ∀ {Q' : Bool → Shared → Prop} {E' : Value → Shared → Prop} {A' : Around} (id : String), Q' (xs == ys) ⟨hh, g, d, tk, os⟩ → wpAny (model prog w) A' (SU id sa sb) Q' E' ⟨hh, g, d, tk, os⟩ := fun id hq => by
      subst hSU
      refine subset_raw hx hy hne ha hb ?_
      rw [all_iff _ hx _ hy hne]; exact hq
    wp_walk
    exact hSU' _ (wpAny_pure h)
  · rw [if_pos (by simpa using hne)]
    refine wpAny_bind (wpAny_pure (wpAny_pure ?_))
    rw [show (xs == ys) = false by rw [beq_eq_false_iff_ne]; intro e; exact hne (by rw [e])] at h
    exact h
theorem set_eqAt (hx : xs ∈ S16) (hy : ys ∈ S16) (ha : s.heap.get? sa = some (setObj led ts1 ep1 fin1 mov1 xs)) (hb : s.heap.get? sb = some (setObj led ts2 ep2 fin2 mov2 ys)) (hu : A.units < cLine) : EqAt A s (.ref sa) (.ref sb) (xs == ys) := by
  by_cases hne : sa = sb
  · subst hne
    rw [ha] at hb
    have hxy : setEs ts1 xs = setEs ts2 ys := by
      have := (Option.some.inj hb)
      injection this with _ _ h3 _
      injection h3
    have e : xs = ys := by
      have h2 : (setEs ts1 xs).toList.map (fun e => e.1.toNat) = (setEs ts2 ys).toList.map (fun e => e.1.toNat) := by rw [hxy]
      simp only [setEs, List.map_map] at h2
      have h3 : ∀ (ts : Nat → Tok) (l : List Nat), l.map ((fun e : Int × Value => e.1.toNat) ∘ fun (x : Nat) => ((x : Int), Value.int (x : Int) (ts x))) = l := fun ts l => by
        conv => rhs; rw [← List.map_id l]
        exact List.map_congr_left fun x _ => rfl
      rwa [h3, h3] at h2
    rw [e, beq_self_eq_true]
    exact EqAt.same _
  · refine EqAt.of_refs hne fun prog w E Q h => ?_
    refine wpAny_richCompare_same_room (op := .Eq) ⟨_, ha, rfl⟩ ⟨_, hb, rfl⟩ F.slot_set_eq (wpAny_call_entry F.slot_set_eq ⟨_, ha, rfl⟩ entry_set_eq ?_ (F.args_set_eq_2 _ _)) hu
    exact set_eq_body hx hy ha hb ⟨_, rfl, ⟨(fun q => by cases q), h⟩⟩
noncomputable def setsL (l : List (List Nat)) : List AV := l.map AV.set
theorem VRels_sets {h : Heap} {l : List (List Nat)} {vs : List Value} (H : VRels w h ρ (setsL l) vs) (i : Nat) (v : Value) (e : vs[i]? = some v) : ∃ xs, l[i]? = some xs ∧ VRel w h ρ (.set xs) v := by
  have hl := H.length
  rw [setsL, List.length_map] at hl
  have hi : i < l.length := hl ▸ (List.getElem?_eq_some_iff.mp e).1
  refine eEA (H.get (i := i) (x := .set l[i]) (by rw [setsL, List.getElem?_map, List.getElem?_eq_getElem hi]; rfl)) ?_; rintro u h1 h2
  rw [h1] at e; cases e
  exact ⟨_, List.getElem?_eq_getElem hi, h2⟩
theorem all_range (l m : List (List Nat)) (h : l.length = m.length) : ((List.range l.length).all fun j => l.getD j [] == m.getD j []) = (l == m) := by
  rw [Bool.eq_iff_iff, List.all_eq_true, beq_iff_eq]
  constructor
  · intro hh
    apply List.ext_getElem?
    intro i
    rcases Nat.lt_or_ge i l.length with q | q
    · have := hh i (List.mem_range.mpr q)
      rw [beq_iff_eq, List.getD_eq_getElem?_getD, List.getD_eq_getElem?_getD, List.getElem?_eq_getElem q, List.getElem?_eq_getElem (h ▸ q)] at this
      rw [List.getElem?_eq_getElem q, List.getElem?_eq_getElem (h ▸ q)]
      exact congrArg some this
    · rw [List.getElem?_eq_none q, List.getElem?_eq_none (h ▸ q)]
  · rintro rfl i _; exact beq_self_eq_true _
theorem o_ne_sets {l m : List (List Nat)} (ea : listOfAV μ a = some (setsL l)) (eb : listOfAV μ b = some (setsL m)) : OI w n (compareOp .NotEq) a b μ (.bool (!(l == m))) := fun A hb ρ s v u Q E rm R hv hu k => by
  refine eEEAA (list_of R hv ea) ?_; rintro la vs rfl ha hvs
  refine eEEAA (list_of R hu eb) ?_; rintro lb us rfl hbb hus
  have hun : A.units < cLine := by have := rm.2.2; show A.units < 9900; lia
  have l1 : vs.length = l.length := by rw [hvs.length]; simp [setsL]
  have l2 : us.length = m.length := by rw [hus.length]; simp [setsL]
  show wpAny _ _ (richCompare .NotEq _ _) _ _ _
  by_cases hl : l.length = m.length
  · have he : ∀ j (h1 : j < vs.toArray.size) (h2 : j < us.toArray.size), EqAt A.in1 s vs.toArray[j] us.toArray[j] (l.getD j [] == m.getD j []) := fun j h1 h2 => by
      simp only [List.size_toArray] at h1 h2
      refine eEA (VRels_sets hvs j vs[j] (List.getElem?_eq_getElem h1)) ?_; rintro xs g1 g2
      refine eEA (VRels_sets hus j us[j] (List.getElem?_eq_getElem h2)) ?_; rintro ys g3 g4
      obtain ⟨sa, e1, hx, ts1, ep1, fin1, mov1, q1⟩ := g2.set_inv
      obtain ⟨sb, e2, hy, ts2, ep2, fin2, mov2, q2⟩ := g4.set_inv
      rw [List.getD_eq_getElem?_getD, List.getD_eq_getElem?_getD, g1, g3]
      simp only [List.getElem_toArray, e1, e2, Option.getD_some]
      exact set_eqAt hx hy (R.keep _ _ q1) (R.keep _ _ q2) (by show A.units + 1 < 9900; have := rm.2.2; lia)
    refine RcNeAt.lists (e := fun j => l.getD j [] == m.getD j []) ha hbb (by simp [l1, l2, hl]) hun he PRG w E Q ?_
    rw [List.size_toArray, l1, all_range l m hl]
    exact k _ _ _ _ .refl R (.bool _)
  · refine RcNeAt.lists_lengths ha hbb (by simp [l1, l2]; exact hl) hun PRG w E Q ?_
    have : (!(l == m)) = true := by rw [Bool.not_eq_true', beq_eq_false_iff_ne]; intro e; exact hl (by rw [e])
    rw [this] at k
    exact k _ _ _ _ .refl R (.bool _)
end
end
section
open PySem.Builtin
section
variable {w : World} {n : Nat} {env : Env} {σ σ1 σ2 σ3 : St} {pos : Pos} {hb hb' hb1 hb2 : Heap} {ρ ρ' ρ1 ρ2 : List Addr} {s s' s1 s2 : Shared} {μ μ' : List Cell} {a b c : AV}
variable {xs ys : List Nat} {A : Around} {E : Value → Shared → Prop} {l : List AV} {x y : AV}
theorem o_bmeth {T : String} {nm : Str} {id : String} {pl : Sem Bool} (hT : ∀ hb ρ s v, RelM w hb ρ s μ → VRel w hb ρ a v → s.TypeIs v T ∧ ∀ x, v = .ref x → ∃ o, s.heap.get? x = some o ∧ o.dict = none) (pa : PlainAttrs T) (slot : Slot T nm id) (hty : typeOf (.builtin id) = pure (.type "method_descriptor")) :
    O1 w n (fun v => getMethod v nm pl) a μ (fun hb ρ u => VRel w hb ρ (.val (.builtin id)) u.1 ∧ VRels w hb ρ [a] u.2) μ := fun A hb ρ s v Q E rm R hv k => by
  obtain ⟨h1, h2⟩ := hT hb ρ s v R hv
  exact getMethod_builtin h1 pa slot hty h2 (k _ _ _ _ .refl R ⟨.val _, .cons hv .nil⟩)
theorem ty_list (e : listOfAV μ a = some l) : ∀ hb ρ s v, RelM w hb ρ s μ → VRel w hb ρ a v → s.TypeIs v "list" ∧ ∀ x, v = .ref x → ∃ o, s.heap.get? x = some o ∧ o.dict = none := fun hb ρ s v R hv => by
  refine eEEAA (list_ofX R hv e) ?_; rintro la vs rfl ⟨k, h⟩ _
  exact ⟨⟨_, h, rfl⟩, fun x q => by cases q; exact ⟨_, h, rfl⟩⟩
theorem ty_set : ∀ hb ρ s v, RelM w hb ρ s μ → VRel w hb ρ (.set xs) v → s.TypeIs v "set" ∧ ∀ x, v = .ref x → ∃ o, s.heap.get? x = some o ∧ o.dict = none := fun hb ρ s v R hv => by
  obtain ⟨sa, rfl, hx, ts, ep, fin, mov, h⟩ := hv.set_inv
  exact ⟨⟨_, R.keep _ _ h, rfl⟩, fun x q => by cases q; exact ⟨_, R.keep _ _ h, rfl⟩⟩
theorem ty_str {z : Str} : ∀ hb ρ s v, RelM w hb ρ s μ → VRel w hb ρ (.str z) v → s.TypeIs v "str" ∧ ∀ x, v = .ref x → ∃ o, s.heap.get? x = some o ∧ o.dict = none := fun hb ρ s v R hv => by
  obtain ⟨_, rfl⟩ := VRel.str_inv hv; exact ⟨typeIs_str _ _ _, fun x q => by cases q⟩
theorem o_append {pl : Sem Bool} (e : listOfAV μ a = some l) : O1 w n (fun v => getMethod v "append" pl) a μ (fun hb ρ u => VRel w hb ρ (.val (.builtin "list.append")) u.1 ∧ VRels w hb ρ [a] u.2) μ := o_bmeth (ty_list e) F.plainAttrs_list slot_list_append type_list_append
theorem o_pop {pl : Sem Bool} (e : listOfAV μ a = some l) : O1 w n (fun v => getMethod v "pop" pl) a μ (fun hb ρ u => VRel w hb ρ (.val (.builtin "list.pop")) u.1 ∧ VRels w hb ρ [a] u.2) μ := o_bmeth (ty_list e) F.plainAttrs_list F.slot_list_pop F.type_list_pop
theorem o_insert {pl : Sem Bool} (e : listOfAV μ a = some l) : O1 w n (fun v => getMethod v "insert" pl) a μ (fun hb ρ u => VRel w hb ρ (.val (.builtin "list.insert")) u.1 ∧ VRels w hb ρ [a] u.2) μ := o_bmeth (ty_list e) F.plainAttrs_list F.slot_list_insert F.type_list_insert
theorem plainAttrs_set : PlainAttrs "set" :=
  ⟨⟨"set.__getattribute__", by rw [typeLookup_type, builtinLookup_eq_fast]; kernel_rfl, by decide +kernel⟩, by rw [typeLookup_type, builtinLookup_eq_fast]; kernel_rfl⟩
theorem o_intersection {pl : Sem Bool} : O1 w n (fun v => getMethod v "intersection" pl) (.set xs) μ (fun hb ρ u => VRel w hb ρ (.val (.builtin "set.intersection")) u.1 ∧ VRels w hb ρ [.set xs] u.2) μ := o_bmeth ty_set plainAttrs_set F.slot_set_intersection F.type_set_intersection
theorem hnd_lst {i : Nat} {v : Value} (R : RelM w hb ρ s μ) (e : μ[i]? = some (.lst l)) (hv : VRel w hb ρ (.hnd i) v) : ∃ la vs k, v = .ref la ∧ ρ[i]? = some la ∧ s.heap.get? la = some (listOf (List.toArray vs) k) ∧ VRels w hb ρ l vs := by
  refine eEA hv.hnd_inv ?_; rintro la rfl h1
  refine eEEAA (R.at e) ?_; rintro x o g1 g2 g3
  rw [g1] at h1; cases h1
  cases g3
  exact ⟨_, _, _, rfl, g1, g2, by assumption⟩
theorem pures_snoc (h : AV.pures l = true) (hx : x.pure = true) : AV.pures (l ++ [x]) = true := by
  induction l with
  | nil => show AV.pures [x] = true; unfold AV.pures; rw [hx]; rfl
  | cons y l ih => unfold AV.pures at h; rw [Bool.and_eq_true] at h; show AV.pures (y :: (l ++ [x])) = true; unfold AV.pures; rw [h.1, ih h.2]; rfl
theorem pures_of (R : RelM w hb ρ s μ) {i : Nat} (e : μ[i]? = some (.lst l)) : AV.pures l = true := R.ok _ (List.mem_of_getElem? e)
theorem map_seq {h : Heap} {la : Addr} {us vs : List Value} {k : Nat} (f : Array Value → Array Value) (e : f us.toArray = vs.toArray) (h2 : h.get? la = some (listOf us.toArray k)) : ∃ k', (h.update la (Obj.mapSeq f)).get? la = some (listOf vs.toArray k') := by
  refine ⟨if (f us.toArray).size == us.toArray.size then k else k + 1, (Heap.get?_update_self (Obj.mapSeq f) h2 rfl).trans ?_⟩
  show some (W.listOf (f us.toArray) _) = _
  rw [e]
theorem mut_list {i : Nat} {la : Addr} {us vs : List Value} {k : Nat} {l' : List AV} (R : RelM w hb ρ s μ) (h1 : ρ[i]? = some la) (h2 : s.heap.get? la = some (listOf us.toArray k)) (f : Array Value → Array Value) (e : f us.toArray = vs.toArray) (hv : VRels w hb ρ l' vs) (hp : AV.pures l' = true) (T : _) :
    Ext [] hb ρ s hb ρ { s with heap := s.heap.update la (Obj.mapSeq f), toks := T } ∧ RelM w hb ρ { s with heap := s.heap.update la (Obj.mapSeq f), toks := T } (μ.set i (.lst l')) := by
  obtain ⟨k', hg⟩ := map_seq f e h2
  exact ⟨Ext.upd hg h1 (Heap.SameBut.update _ _ _) T, R.upd h1 hg (Heap.SameBut.update _ _ _) (.lst hv) hp T⟩
set_option tactic.hygienic true in
theorem fn_append {i : Nat} (e : μ[i]? = some (.lst l)) (hx : x.pure = true) (hz : l.length ≤ 10000) : FN w n (.val (.builtin "list.append")) [.hnd i, x] [] μ .none (μ.set i (.lst (l ++ [x]))) := fun A hb ρ s fv vs kvs Q E rm R hf hvs hks k => by
  obtain rfl := VRel.val_inv hf; obtain rfl := hks.inv0
  refine eEEAA hvs.inv2 ?_; rintro _ _ rfl hv hu
  refine eEEEAAA (hnd_lst R e hv) ?_; rintro la us kk rfl h1 h2 h3
  refine append_at h2 (fun h' hs hg => ?_) (by rw [List.size_toArray, h3.length, sizeLine_eq]; lia)
  rename_i u
  have hg' : h'.get? la = some (listOf (us ++ [u]).toArray (kk + 1)) := by rw [hg]; simp
  exact k _ _ _ _ (Ext.upd hg' h1 hs s.toks) (R.upd h1 hg' hs (.lst (h3.append (.cons hu .nil))) (pures_snoc (pures_of R e) hx) s.toks) .none
set_option tactic.hygienic true in
theorem fn_pop0 {i : Nat} (e : μ[i]? = some (.lst (x :: l))) (hz : l.length ≤ 10000) : FN w n (.val (.builtin "list.pop")) [.hnd i, .int 0] [] μ x (μ.set i (.lst l)) := fun A hb ρ s fv vs kvs Q E rm R hf hvs hks k => by
  obtain rfl := VRel.val_inv hf; obtain rfl := hks.inv0
  refine eEEAA hvs.inv2 ?_; rintro _ _ rfl hv hu
  refine eEEEAAA (hnd_lst R e hv) ?_; rintro la us kk rfl h1 h2 h3
  obtain ⟨t, rfl⟩ := hu.int_inv
  rcases h3 with _ | ⟨hy, hys⟩
  rename_i y ys
  have hlen := hys.length
  refine call_meets F.slot_list_pop ⟨_, h2, rfl⟩ F.entry_list_pop (F.args_list_pop_2 _ _) (PySem.MeetsSeq.list_pop_at la (y :: ys).toArray kk 0 t 0 y (by decide) (by simp [seqIndex?]) (by simp) (by simp; rw [hlen, sizeLine_eq]; lia)) ⟨h2, ?_⟩
  have hp := pures_of R e
  unfold AV.pures at hp
  rw [Bool.and_eq_true] at hp
  obtain ⟨j1, j2⟩ := mut_list (l' := l) (vs := ys) R h1 h2 (fun xs => xs.eraseIdxIfInBounds 0) (by simp) hys hp.2 s.toks
  exact k _ _ _ _ j1 j2 hy
set_option tactic.hygienic true in
theorem fn_insert0 {i : Nat} (e : μ[i]? = some (.lst l)) (hx : x.pure = true) (hz : l.length ≤ 10000) : FN w n (.val (.builtin "list.insert")) [.hnd i, .int 0, x] [] μ .none (μ.set i (.lst (x :: l))) := fun A hb ρ s fv vs kvs Q E rm R hf hvs hks k => by
  obtain rfl := VRel.val_inv hf; obtain rfl := hks.inv0
  refine eEEEAAA hvs.inv3 ?_; rintro _ _ _ rfl hv hu hy
  refine eEEEAAA (hnd_lst R e hv) ?_; rintro la us kk rfl h1 h2 h3
  obtain ⟨t, rfl⟩ := hu.int_inv
  rename_i y
  have hlen := h3.length
  refine call_meets F.slot_list_insert ⟨_, h2, rfl⟩ F.entry_list_insert (F.args_list_insert_3 _ _ _) (PySem.AutoListH.list_insert_list_int_val_1 la us.toArray kk 0 t y (by decide) (by simp; rw [hlen, sizeLine_eq]; lia)) ⟨h2, ?_⟩
  obtain ⟨j1, j2⟩ := mut_list (l' := x :: l) (vs := y :: us) R h1 h2 (fun xs => (xs.extract 0 (if (0 : Int) < 0 then (0 + (xs.size : Int)).toNat else min (0 : Int).toNat xs.size)).push y ++ xs.extract (if (0 : Int) < 0 then (0 + (xs.size : Int)).toNat else min (0 : Int).toNat xs.size)) (by simp) (.cons hy h3) (by unfold AV.pures; rw [hx, pures_of R e]; rfl) s.toks
  exact k _ _ _ _ j1 j2 .none
end
end
section
open PySem.Builtin
section
variable {w : World} {n : Nat} {env : Env} {σ σ1 σ2 σ3 : St} {pos : Pos} {hb hb' hb1 hb2 : Heap} {ρ ρ' ρ1 ρ2 : List Addr} {s s' s1 s2 : Shared} {μ μ' : List Cell} {a b c : AV}
variable {xs ys : List Nat} {A : Around} {E : Value → Shared → Prop} {l : List AV} {x y : AV}
theorem mk_frz {vs : List Value} (R : RelM w hb ρ s μ) (hv : VRels w hb ρ l vs) : ∃ hb', Ext [] hb ρ s hb' ρ { s with heap := s.heap.push { cls := .type "list", data := .seq vs.toArray } } ∧ RelM w hb' ρ { s with heap := s.heap.push { cls := .type "list", data := .seq vs.toArray } } μ ∧ VRel w hb' ρ (.lst l) (.ref s.heap.objs.size) := by
  refine eEAA (grown_frozen (s' := { s with heap := s.heap.push { cls := .type "list", data := .seq vs.toArray } }) R (fun b o e => Heap.get?_push_of_some _ e) rfl rfl [s.heap.objs.size] (fun a ha => by rw [List.mem_singleton.mp ha]; exact dead_of_le (Nat.le_refl _))) ?_; rintro hb' X2 R2 hget
  exact ⟨hb', X2, R2, .lst ⟨_, hget _ (List.mem_singleton.mpr rfl) _ (Heap.get?_push_size _ rfl)⟩ (hv.mono X2.base X2.pre)⟩
theorem mk_cell {vs : List Value} (R : RelM w hb ρ s μ) (hv : VRels w hb ρ l vs) (hp : AV.pures l = true) : RelM w hb (ρ ++ [s.heap.objs.size]) { s with heap := s.heap.push { cls := .type "list", data := .seq vs.toArray } } (μ ++ [.lst l]) ∧ VRel w hb (ρ ++ [s.heap.objs.size]) (.hnd μ.length) (.ref s.heap.objs.size) :=
  ⟨R.cell (.lst (hv.mono (fun _ _ e => e) (List.prefix_append _ _))) hp, .hnd (by rw [← R.len, List.getElem?_append_right (Nat.le_refl _), Nat.sub_self]; rfl)⟩
theorem se_listC {es : List Expr} {as : List AV} (h : SEs w n env pos es σ as σ1) (hz : as.length ≤ 1000) (hp : AV.pures as = true) : SE w n env (.List es pos) σ (.hnd σ1.mem.length) { σ1 with mem := σ1.mem ++ [.lst as] } := fun A hb ρ s Q E rm R k =>
  List_ (h _ _ _ _ _ _ rm R fun hb1 ρ1 s1 vs X1 R1 h1 => by
    have hz' : vs.toArray.size ≤ sizeLine := by rw [List.size_toArray, h1.length, sizeLine_eq]; lia
    refine wpAny_newObj_type ?_ hz'
    obtain ⟨R2, h2⟩ := mk_cell R1.m h1 hp
    exact k _ _ _ _ (X1.trans Ext.cell) (R1.step Ext.cell R2) h2)
theorem se_itemL {e i : Expr} {j : Nat} (h : SE w n env e σ a σ1) (hi : SE w n env i σ1 (.int (j : Int)) σ2) (hx : listOfAV σ2.mem a = some l) (hj : l[j]? = some x) (hz : j < 10000)
    (hs : autoParam (∀ o u, subscripted i false (.ref o) (.int (j : Int) u) = operate [.ref o, .int (j : Int) u] (getItem (.ref o) (.int (j : Int) u))) auW) (ht : autoParam (∀ o r, letTemporaryGo e (.ref o) r = pure ()) auW) :
    SE w n env (.Subscript e i pos) σ x σ2 := fun A hb ρ s Q E rm R k =>
  Subscript_ (h _ _ _ _ _ _ rm R fun hb1 ρ1 s1 v X1 R1 h1 => hi _ _ _ _ _ _ rm R1 fun hb2 ρ2 s2 vi X2 R2 h2 => by
    obtain ⟨t, rfl⟩ := h2.int_inv
    refine eEEAA (list_of R2.m (h1.mono X2.base X2.pre) hx) ?_; rintro la vs rfl h3 h4
    refine eEA (h4.get hj) ?_; rintro u h5 h6
    exact item_listL h3 (Int.natCast_nonneg _) (by lia) (by simpa using h5) (k _ _ _ _ (X1.trans X2) R2 h6) (hs _ _) (ht _))
theorem se_itemLast {e i : Expr} (h : SE w n env e σ a σ1) (hi : SE w n env i σ1 (.int (-1)) σ2) (hx : listOfAV σ2.mem a = some (l ++ [x])) (hz : l.length < 10000)
    (hs : autoParam (∀ o u, subscripted i false (.ref o) (.int (-1) u) = operate [.ref o, .int (-1) u] (getItem (.ref o) (.int (-1) u))) auW) (ht : autoParam (∀ o r, letTemporaryGo e (.ref o) r = pure ()) auW) :
    SE w n env (.Subscript e i pos) σ x σ2 := fun A hb ρ s Q E rm R k =>
  Subscript_ (h _ _ _ _ _ _ rm R fun hb1 ρ1 s1 v X1 R1 h1 => hi _ _ _ _ _ _ rm R1 fun hb2 ρ2 s2 vi X2 R2 h2 => by
    obtain ⟨t, rfl⟩ := h2.int_inv
    refine eEEAA (list_of R2.m (h1.mono X2.base X2.pre) hx) ?_; rintro la vs rfl h3 h4
    refine eEA (h4.get (i := l.length) (x := x) (by simp)) ?_; rintro u h5 h6
    have hl := h4.length
    rw [List.length_append, List.length_singleton] at hl
    exact subscriptTail_builtin h3.typeIs slot_list_getitem.lookup (wpAny_getItem_list_neg h3 (by decide) (by rw [List.size_toArray, hl]; lia) (by decide) (by rw [List.size_toArray, hl, show ((-1 : Int) + ((l.length + 1 : Nat) : Int)).toNat = l.length by lia]; simpa using h5) (k _ _ _ _ (X1.trans X2) R2 h6)) (hs _ _) (ht _))
theorem fn_len_list (hx : listOfAV μ a = some l) (hz : l.length ≤ 10000) : FN w n (.val (.builtin "len")) [a] [] μ (.int l.length) μ := fun A hb ρ s fv vs kvs Q E rm R hf hvs hks k => by
  obtain rfl := VRel.val_inv hf; obtain rfl := hks.inv0
  refine eEA hvs.inv1 ?_; rintro _ rfl h1
  refine eEEAA (list_of R h1 hx) ?_; rintro la us rfl h3 h4
  have hl := h4.length
  exact call_len_list h3 (by rw [List.size_toArray, hl]; lia) (k _ _ _ _ (Ext.toks _) (R.toks _) (by rw [List.size_toArray, hl]; exact .int _ _))
theorem fn_len_tup (hz : l.length ≤ 10000) : FN w n (.val (.builtin "len")) [.tup l] [] μ (.int l.length) μ := fun A hb ρ s fv vs kvs Q E rm R hf hvs hks k => by
  obtain rfl := VRel.val_inv hf; obtain rfl := hks.inv0
  refine eEA hvs.inv1 ?_; rintro _ rfl h1
  refine eEEAA h1.tup_inv ?_; rintro la us rfl h3 h4
  have hl := h4.length
  exact PyProof.Rows.len_tuple (h3.keeps R.keep) (by rw [List.size_toArray, hl]; lia) (k _ _ _ _ (Ext.toks _) (R.toks _) (by rw [List.size_toArray, hl]; exact .int _ _))
theorem fn_len_set (hz : xs.length ≤ 10000) : FN w n (.val (.builtin "len")) [.set xs] [] μ (.int xs.length) μ := fun A hb ρ s fv vs kvs Q E rm R hf hvs hks k => by
  obtain rfl := VRel.val_inv hf; obtain rfl := hks.inv0
  refine eEA hvs.inv1 ?_; rintro _ rfl h1
  obtain ⟨sa, rfl, hx, ts, ep, fin, mov, h⟩ := h1.set_inv
  have hl : (setEs ts xs).size = xs.length := by unfold setEs; simp
  refine call_len_set (R.keep _ _ h) ⟨rfl, rfl, rfl⟩ rfl (by have := set_fits (ts := ts) (led := ledOf w) (fin := fin) (mov := mov) hx; exact this) (by rw [hl]; lia) (k _ _ _ _ (Ext.toks _) (R.toks _) (by rw [hl]; exact .int _ _))
theorem o_concat {m : List AV} (hx : listOfAV μ a = some l) (hy : listOfAV μ b = some m) (hz : l.length + m.length ≤ 10000) : OI w n (binaryOp .Add) a b μ (.lst (l ++ m)) := fun A hb ρ s v u Q E rm R hv hu k => by
  refine eEEAA (list_ofX R hv hx) ?_; rintro la vs rfl ⟨k1, h1⟩ h2
  refine eEEAA (list_ofX R hu hy) ?_; rintro lb us rfl ⟨k2, h3⟩ h4
  have e : vs.toArray ++ us.toArray = (vs ++ us).toArray := by simp
  refine eEAA (mk_frz R (h2.append h4)) ?_; rintro hb' X2 R2 hr
  refine concat_meets ⟨_, h1, rfl⟩ ⟨_, h3, rfl⟩ noFill_list_add seq_list_add PySem.F.slot_list_add PySem.F.entry_list_add (PySem.F.args_list_add_2 _ _) (list_addW la lb vs.toArray us.toArray k1 k2 _ _ _ _ (by rw [List.size_toArray, List.size_toArray, h2.length, h4.length, sizeLine_eq]; lia)) ⟨h1, h3, ?_⟩
  rw [e]
  exact k _ _ _ _ X2 R2 hr
theorem VRels.rep {h : Heap} {v : Value} (r : VRel w h ρ x v) : ∀ k, VRels w h ρ (List.replicate k x) (List.replicate k v)
  | 0 => .nil
  | k + 1 => .cons r (VRels.rep r k)
theorem pures_rep (h : x.pure = true) : ∀ k, AV.pures (List.replicate k x) = true
  | 0 => rfl
  | k + 1 => by rw [List.replicate_succ]; unfold AV.pures; rw [h, pures_rep h k]; rfl
theorem rep_arr (v : Value) : ∀ k, List.foldl (fun (x1 x2 : Array Value) => x1 ++ x2) #[] (List.replicate k #[v]) = (List.replicate k v).toArray := fun k => by
  have : ∀ k (acc : List Value), List.foldl (fun (x1 x2 : Array Value) => x1 ++ x2) acc.toArray (List.replicate k #[v]) = (acc ++ List.replicate k v).toArray := fun k => by
    induction k with
    | zero => intro acc; simp
    | succ k ih => intro acc; rw [List.replicate_succ, List.foldl_cons]; have := ih (acc ++ [v]); rw [List.append_assoc] at this; rw [List.replicate_succ]; simpa using this
  simpa using this k []
theorem mul_raw {la : Addr} {it : Array Value} {k1 : Nat} {x : Int} {t : Tok} {Q : Value → Shared → Prop} (h1 : s.heap.get? la = some (listOf it k1)) (f1 : ¬(!Builtin.List.listFitsIndex x) = true) (f2 : ¬it.size * x.toNat > (2 ^ 63 - 1) / 8) (f3 : ¬Builtin.List.listTooLong (it.size * x.toNat) = true)
    (h : Q (.ref s.heap.objs.size) { s with heap := s.heap.push { cls := .type "list", data := .seq (List.foldl (fun (x1 x2 : Array Value) => x1 ++ x2) #[] (List.replicate (if it.isEmpty = true then 0 else x.toNat) it)) } }) : wpAny (model PRG w) A (binaryOp .Mult (.ref la) (.int x t)) Q E s :=
  wpAny_binaryOp_repeat_ref (T := "list") (U := "int") (by decide) ⟨_, h1, rfl⟩ (fun s' => typeIs_int s' x t) noFill_list_mul F.fills_int_mul F.slot_int_rmul repeat_list F.slot_int_index.lookup
    (call_meets F.slot_int_rmul (typeIs_int s x t) F.entry_int_rmul (F.args_int_rmul_2 _ _) (int___rmul___int_list x t la it k1)
      ⟨h1, rfl, ⟨_, h1, rfl⟩, call_meets F.slot_list_mul ⟨_, h1, rfl⟩ F.entry_list_mul (F.args_list_mul_2 _ _) (AutoListH.list___mul___list_int_3 la it k1 x t f1 f2 f3) ⟨h1, h⟩⟩)
theorem fit1 {k : Nat} (h : k ≤ 10000) : ¬(!Builtin.List.listFitsIndex (k : Int)) = true := by simp [Builtin.List.listFitsIndex]; lia
theorem fit2 {k j : Nat} (h : k ≤ 10000) (hj : j = 1) : ¬ j * (k : Int).toNat > (2 ^ 63 - 1) / 8 := by rw [hj]; lia
theorem fit3 {k j : Nat} (h : k ≤ 10000) (hj : j = 1) : ¬ Builtin.List.listTooLong (j * (k : Int).toNat) = true := by rw [hj]; simp [Builtin.List.listTooLong, sizeLine]; lia
set_option tactic.hygienic true in
theorem o_repeat {k : Nat} (hx : listOfAV μ a = some [x]) (hp : x.pure = true) (hz : k ≤ 10000) : O2 w n (binaryOp .Mult) a (.int (k : Int)) μ (fun hb ρ v => VRel w hb ρ (.hnd μ.length) v) (μ ++ [.lst (List.replicate k x)]) := fun A hb ρ s v u Q E rm R hv hu kk => by
  refine eEEAA (list_ofX R hv hx) ?_; rintro la vs rfl ⟨k1, h1⟩ h2
  obtain ⟨t, rfl⟩ := hu.int_inv
  refine eEA h2.inv1 ?_; rintro _ rfl hw
  rename_i v
  obtain ⟨R2, h3⟩ := mk_cell R (VRels.rep hw k) (pures_rep hp k)
  have e : List.foldl (fun (x1 x2 : Array Value) => x1 ++ x2) #[] (List.replicate (if (#[v] : Array Value).isEmpty = true then 0 else (k : Int).toNat) #[v]) = (List.replicate k v).toArray := by rw [← rep_arr]; simp
  have X2 : Ext [] hb ρ s hb (ρ ++ [s.heap.objs.size]) { s with heap := s.heap.push { cls := .type "list", data := .seq (List.replicate k v).toArray } } := Ext.cell
  have h4 : Q (.ref s.heap.objs.size) { s with heap := s.heap.push { cls := .type "list", data := .seq (List.replicate k v).toArray } } := kk _ _ _ _ X2 R2 h3
  rw [← e] at h4
  exact mul_raw h1 (fit1 hz) (fit2 hz rfl) (fit3 hz rfl) h4
end
end
section
variable {w : World} {n : Nat} {env : Env} {σ σ1 σ2 σ3 σ4 : St} {pos : Pos} {hb hb' hb1 hb2 : Heap} {ρ ρ' ρ1 ρ2 : List Addr} {s s' s1 s2 : Shared} {μ μ' : List Cell} {a b c : AV}
variable {xs ys : List Nat} {A : Around} {E : Value → Shared → Prop} {l : List AV} {x y : AV}
theorem VRels.set {h : Heap} {l : List AV} {vs : List Value} {j : Nat} {v : Value} (H : VRels w h ρ l vs) (hx : VRel w h ρ x v) : VRels w h ρ (l.set j x) (vs.set j v) :=
  VRels.ind (P := fun l vs => ∀ j : Nat, VRels w h ρ (l.set j x) (vs.set j v)) (fun _ => .nil) (fun _ _ _ _ hy r ih j => by
    cases j with
    | zero => exact .cons hx r
    | succ j => exact .cons hy (ih j)) _ _ H j
theorem pures_set : ∀ {l : List AV} {j : Nat}, AV.pures l = true → x.pure = true → AV.pures (l.set j x) = true
  | [], _, _, _ => rfl
  | y :: l, 0, h, hx => by unfold AV.pures at h; rw [Bool.and_eq_true] at h; rw [List.set_cons_zero]; unfold AV.pures; rw [hx, h.2]; rfl
  | y :: l, j + 1, h, hx => by unfold AV.pures at h; rw [Bool.and_eq_true] at h; rw [List.set_cons_succ]; unfold AV.pures; rw [h.1, pures_set h.2 hx]; rfl
theorem set_item {i j : Nat} {v u : Value} {Q : Unit → Shared → Prop} (R : RelM w hb ρ s μ) (e : μ[i]? = some (.lst l)) (hv : VRel w hb ρ (.hnd i) v) (hj : j < l.length) (hz : l.length ≤ 10000) (hx : VRel w hb ρ x u) (hp : x.pure = true) {t : Tok}
    (k : ∀ s', Ext [] hb ρ s hb ρ s' → RelM w hb ρ s' (μ.set i (.lst (l.set j x))) → Q () s') : wpAny (model PRG w) A (setItem v (.int (j : Int) t) u) Q E s := by
  refine eEEEAAA (hnd_lst R e hv) ?_; rintro la us kk rfl h1 h2 h3
  have hlen := h3.length
  refine PySem.W.ki_setAt h2 (Int.natCast_nonneg _) (by lia) (by rw [List.size_toArray]; lia) ?_
  obtain ⟨j1, j2⟩ := mut_list (l' := l.set j x) (vs := us.set j u) R h1 h2 (fun xs => xs.setIfInBounds (j : Int).toNat u) (by simp) (h3.set hx) (pures_set (pures_of R e) hp) s.toks
  exact k _ j1 j2
theorem ss_setItem {o ie e : Expr} {i j : Nat} {p : Pos} (h : SE w n env e σ x σ1) (ho : SE w n env o σ1 (.hnd i) σ2) (hi : SE w n env ie σ2 (.int (j : Int)) σ3) (el : σ3.mem[i]? = some (.lst l)) (hj : j < l.length) (hz : l.length ≤ 10000) (hp : x.pure = true)
    (hs : autoParam (swapsWith e (some (.Subscript o ie p)) pos.line env = pure false) auR) : SS w n env (.Assign [.Subscript o ie p] e pos) σ .next { σ3 with mem := σ3.mem.set i (.lst (l.set j x)) } := fun A hb ρ s Q E rm R k =>
  wpAny_Assign_Subscript (h _ _ _ _ _ _ rm R fun _ _ _ _ X1 R1 h1 => ho _ _ _ _ _ _ rm R1 fun _ _ _ _ X2 R2 h2 => hi _ _ _ _ _ _ rm R2 fun _ _ _ _ X3 R3 h3 => by
    obtain ⟨t, rfl⟩ := h3.int_inv
    exact set_item R3.m el (h2.mono X3.base X3.pre) hj hz ((h1.mono X2.base X2.pre).mono X3.base X3.pre) hp fun s' X4 R4 => k _ _ _ _ (((X1.trans X2).trans X3).trans (X4.weaken fun _ q => nomatch q)) (R3.step X4 R4) .next) hs
theorem ss_augItem {o ie e : Expr} {i j : Nat} {p : Pos} {op : Operator} {z : AV} {μ' : List Cell} (ho : SE w n env o σ (.hnd i) σ1) (hi : SE w n env ie σ1 (.int (j : Int)) σ2) (el : σ2.mem[i]? = some (.lst l)) (hj : l[j]? = some y) (hz : l.length ≤ 10000)
    (h : SE w n env e σ2 x σ3) (hop : O2 w n (inplaceOp op) y x σ3.mem (fun hb ρ v => VRel w hb ρ z v) μ') (hm : μ'[i]? = some (.lst l)) (hp : z.pure = true)
    (hst : autoParam (∀ ov iv new, augStore ie ov iv new = (do holding [new, ov, iv] (setItem ov iv new); release [new, ov, iv] []; pure .next)) auI) : SS w n env (.AugAssign (.Subscript o ie p) op e pos) σ .next { σ3 with mem := μ'.set i (.lst (l.set j z)) } := fun A hb ρ s Q E rm R k =>
  wpAny_AugAssign_SubscriptAny (ho _ _ _ _ _ _ rm R fun _ _ _ _ X1 R1 h1 => hi _ _ _ _ _ _ rm R1 fun _ _ _ s2 X2 R2 h2 => by
    obtain ⟨t, rfl⟩ := h2.int_inv
    refine eEEAA (list_of (a := .hnd i) (xs := l) R2.m (h1.mono X2.base X2.pre) (by simp only [listOfAV]; rw [el])) ?_; rintro la vs rfl h3 h4
    refine eEA (h4.get hj) ?_; rintro u h5 h6
    have hlt := (List.getElem?_eq_some_iff.mp hj).1
    refine wpAny_getItem_list h3 (Int.natCast_nonneg _) (by lia) (x := u) (by simpa using h5) ?_
    refine h _ _ _ _ _ _ rm R2 fun hb3 ρ3 s3 v3 X3 R3 h7 => ?_
    refine TE.of_O2 hop rm R3 (h6.mono X3.base X3.pre) h7 fun hb4 ρ4 s4 v4 X4 R4 h8 => ?_
    exact set_item R4.m hm ((((h1.mono X2.base X2.pre)).mono X3.base X3.pre).mono X4.base X4.pre) hlt hz h8 hp fun s' X5 R5 => k _ _ _ _ ((((X1.trans X2).trans X3).trans X4).trans (X5.weaken fun _ q => nomatch q)) (R4.step X5 R5) .next) hst
end
noncomputable def intL (l : List Int) : List AV := l.map .int
noncomputable def strL (l : List Str) : List AV := l.map .str
section
variable {w : World} {n : Nat} {env : Env} {σ σ1 σ2 σ3 σ4 : St} {pos : Pos} {hb hb' hb1 hb2 h : Heap} {ρ ρ' ρ1 ρ2 : List Addr} {s s' s1 s2 : Shared} {μ μ' : List Cell} {a b c : AV}
variable {xs ys : List Nat} {A : Around} {E : Value → Shared → Prop} {l : List AV} {x y : AV} {z : Str}
theorem VRels.ints {l : List Int} {vs : List Value} (H : VRels w h ρ (intL l) vs) : IntsAre vs l := by
  induction l generalizing vs with
  | nil => rw [H.inv0]; exact .nil
  | cons x l ih => refine eEEAA (VRels.invc H) ?_; rintro v us rfl h1 r; obtain ⟨t, rfl⟩ := h1.int_inv; exact .cons _ t (ih r)
theorem ints_VRels {l : List Int} {vs : List Value} (H : IntsAre vs l) : VRels w h ρ (intL l) vs := by
  induction H with
  | nil => exact .nil
  | cons _ t _ ih => exact .cons (.int _ t) ih
theorem VRels.strs {l : List Str} {vs : List Value} (H : VRels w h ρ (strL l) vs) : StrsAre vs l := by
  induction l generalizing vs with
  | nil => rw [H.inv0]; exact .nil
  | cons x l ih => refine eEEAA (VRels.invc H) ?_; rintro v us rfl h1 r; obtain ⟨t, rfl⟩ := h1.str_inv; exact .cons _ t (ih r)
theorem natL_intL (l : List Nat) : natL l = intL (l.map fun (i : Nat) => (i : Int)) := by unfold natL intL; rw [List.map_map]; rfl
theorem intL_length (l : List Int) : (intL l).length = l.length := List.length_map ..
theorem strL_length (l : List Str) : (strL l).length = l.length := List.length_map ..
theorem pures_ints : ∀ l : List Int, AV.pures (intL l) = true
  | [] => rfl
  | i :: l => by show AV.pures (.int i :: intL l) = true; unfold AV.pures; rw [pures_ints l]; rfl
theorem pures_strs : ∀ l : List Str, AV.pures (strL l) = true
  | [] => rfl
  | i :: l => by show AV.pures (.str i :: strL l) = true; unfold AV.pures; rw [pures_strs l]; rfl
theorem pures_nats (l : List Nat) : AV.pures (natL l) = true := by rw [natL_intL]; exact pures_ints _
theorem grown_ext {h' : Heap} {tk : Nat} (hk : ∀ b o, s.heap.get? b = some o → h'.get? b = some o) : Ext [] hb ρ s hb ρ { s with heap := h', toks := tk } := Ext.plain (fun b o e _ => hk b o e) (live_stays hk) rfl rfl
theorem grown_rel {h' : Heap} {tk : Nat} (R : RelM w hb ρ s μ) (hk : ∀ b o, s.heap.get? b = some o → h'.get? b = some o) : RelM w hb ρ { s with heap := h', toks := tk } μ := R.grow hk rfl
theorem o_nin_strT {ys : List Str} : OI w n (compareOp .NotIn) (.str z) (.tup (strL ys)) μ (.bool (!(ys.any (· == z)))) := fun A hb ρ s v u Q E rm R hv hu k => by
  obtain ⟨t, rfl⟩ := hv.str_inv
  refine eEEAA hu.tup_inv ?_; rintro ta vs rfl h1 h2
  exact notin_tuple_strs (h1.keeps R.keep) h2.strs (k _ _ _ _ .refl R (.bool _))
theorem o_in_strLst {ys : List Str} (e : listOfAV μ a = some (strL ys)) : OI w n (compareOp .In) (.str z) a μ (.bool (ys.any (· == z))) := fun A hb ρ s v u Q E rm R hv hu k => by
  obtain ⟨t, rfl⟩ := hv.str_inv
  refine eEEAA (list_of R hu e) ?_; rintro la vs rfl h1 h2
  exact in_list_strs h1 h2.strs (k _ _ _ _ .refl R (.bool _))
theorem o_in_intT {i : Int} {ys : List Int} : OI w n (compareOp .In) (.int i) (.tup (intL ys)) μ (.bool (ys.any (· == i))) := fun A hb ρ s v u Q E rm R hv hu k => by
  obtain ⟨t, rfl⟩ := hv.int_inv
  refine eEEAA hu.tup_inv ?_; rintro ta vs rfl h1 h2
  exact in_tuple_ints (h1.keeps R.keep) h2.ints (k _ _ _ _ .refl R (.bool _))
theorem fn_abs {i : Int} : FN w n (.val (.builtin "abs")) [.int i] [] μ (.int i.natAbs) μ := fun A hb ρ s fv vs kvs Q E rm R hf hvs hks k => by
  obtain rfl := VRel.val_inv hf; obtain rfl := hks.inv0
  refine eEA hvs.inv1 ?_; rintro _ rfl h1
  obtain ⟨t, rfl⟩ := h1.int_inv
  refine call_abs_int fun u tk => ?_
  rw [show (if i < 0 then -i else i) = (i.natAbs : Int) by split <;> omega]
  exact k _ _ _ _ (Ext.toks _) (R.toks _) (.int _ _)
theorem fn_str {i : Nat} (hz : i ≤ 10000) : FN w n (.val (.type "str")) [.int (i : Int)] [] μ (.str (toString (i : Int))) μ := fun A hb ρ s fv vs kvs Q E rm R hf hvs hks k => by
  obtain rfl := VRel.val_inv hf; obtain rfl := hks.inv0
  refine eEA hvs.inv1 ?_; rintro _ rfl h1
  obtain ⟨t, rfl⟩ := h1.int_inv
  exact str_of_int_fit (N := 20000) (by split <;> omega) (by decide) fun _ => k _ _ _ _ (Ext.toks _) (R.toks _) (.str _ _)
theorem fn_sum {ns : List Int} (e : listOfAV μ a = some (intL ns)) : FN w n (.val (.builtin "sum")) [a] [] μ (.int ns.sum) μ := fun A hb ρ s fv vs kvs Q E rm R hf hvs hks k => by
  obtain rfl := VRel.val_inv hf; obtain rfl := hks.inv0
  refine eEA hvs.inv1 ?_; rintro _ rfl h1
  refine eEEAA (list_of R h1 e) ?_; rintro la us rfl h3 h4
  have hi := h4.ints
  obtain ⟨xs, ex⟩ := hi.allInts.items
  have hns : ns = xs.toList.map (·.1) := by
    rw [← hi.numsOf, ← nums_intItems, ← ex]
  rw [ex] at h3
  refine sum_intListG rm.1 h3 fun h' tk t' hk => ?_
  rw [preSum_eq, List.take_of_length_le (by simp), ← hns]
  exact k _ _ _ _ (grown_ext hk) (grown_rel R hk) (.int _ _)
theorem fn_max {ns : List Int} {M : Int} (e : listOfAV μ a = some (intL ns)) (hM : M ∈ ns) (hB : ∀ x ∈ ns, x ≤ M) : FN w n (.val (.builtin "max")) [a] [] μ (.int M) μ := fun A hb ρ s fv vs kvs Q E rm R hf hvs hks k => by
  obtain rfl := VRel.val_inv hf; obtain rfl := hks.inv0
  refine eEA hvs.inv1 ?_; rintro _ rfl h1
  refine eEEAA (list_of R h1 e) ?_; rintro la us rfl h3 h4
  have hi := h4.ints
  obtain ⟨xs, ex⟩ := hi.allInts.items
  have hns : ns = xs.toList.map (·.1) := by
    rw [← hi.numsOf, ← nums_intItems, ← ex]
  have hne : 0 < ns.length := List.length_pos_of_mem hM
  have hsz : 0 < xs.size := by
    have h3 := hne; rw [hns, List.length_map, Array.length_toList] at h3; exact h3
  rw [ex] at h3
  refine max_intList rm.1 h3 hsz fun v h' tk hv hk => ?_
  obtain ⟨t, rfl⟩ := intItems_at hv
  obtain ⟨j1, j2⟩ := argBest_gt (numAt xs) (xs.size - 1)
  have e1 : numAt xs (argBest (fun i j => decide (numAt xs i > numAt xs j)) (xs.size - 1)) = M := by
    refine Int.le_antisymm (hB _ ?_) ?_
    · rw [hns, numAt_eq]; exact getD_mem (by rw [List.length_map, Array.length_toList]; omega)
    · rw [hns] at hM
      refine eEA (mem_getD hM) ?_; rintro j hj rfl
      rw [List.length_map, Array.length_toList] at hj
      rw [← numAt_eq]; exact j2 j (by omega)
  rw [e1]
  exact k _ _ _ _ (grown_ext hk) (grown_rel R hk) (.int _ _)
theorem sorted_one : ∀ {xs ys : List Int}, xs.Perm ys → xs.Pairwise (· ≤ ·) → ys.Pairwise (· ≤ ·) → xs = ys := fun p h1 h2 => p.eq_of_pairwise (fun a b _ _ => Int.le_antisymm) h1 h2
end
section
variable {w : World} {n : Nat} {env : Env} {σ σ1 σ2 σ3 σ4 : St} {pos : Pos} {hb hb' hb1 hb2 h : Heap} {ρ ρ' ρ1 ρ2 : List Addr} {s s' s1 s2 : Shared} {μ μ' : List Cell} {a b c : AV}
variable {xs ys : List Nat} {A : Around} {E : Value → Shared → Prop} {l : List AV} {x y : AV} {z : Str}
theorem o_join {pl : Sem Bool} : O1 w n (fun v => getMethod v "join" pl) (.str z) μ (fun hb ρ u => VRel w hb ρ (.val (.builtin "str.join")) u.1 ∧ VRels w hb ρ [.str z] u.2) μ := o_bmeth ty_str F.plainAttrs_str F.slot_str_join F.type_str_join
theorem fn_join {ss : List Str} (e : listOfAV μ a = some (strL ss)) (hs : z.length ≤ 16) (hw : (ss.map (·.length)).sum + ss.length ≤ 1048576) : FN w n (.val (.builtin "str.join")) [.str z, a] [] μ (.str (Txt.join z ss)) μ := fun A hb ρ s fv vs kvs Q E rm R hf hvs hks k => by
  obtain rfl := VRel.val_inv hf; obtain rfl := hks.inv0
  refine eEEAA hvs.inv2 ?_; rintro _ _ rfl h0 h1
  obtain ⟨t, rfl⟩ := h0.str_inv
  refine eEEAA (list_of R h1 e) ?_; rintro la us rfl h3 h4
  exact join_listW h3 h4.strs hs hw fun t' kk => k _ _ _ _ (Ext.toks _) (R.toks _) (.str _ _)
end
section
variable {w : World} {n : Nat} {env cenv : Env} {σ σ1 σ2 σ3 σ4 : St} {pos : Pos} {hb hb' hb1 hb2 h : Heap} {ρ ρ' ρ1 ρ2 : List Addr} {s s' s1 s2 : Shared} {μ μ' : List Cell} {a b c : AV}
variable {A : Around} {E : Value → Shared → Prop} {l : List AV} {x y : AV} {X P G : List Addr}
noncomputable def TST (w : World) (n : Nat) (env : Env) (ifs : List Expr) (σ : St) (b : Bool) (σ' : St) : Prop :=
  TE w n env (forIn ifs true fun c r => if r = true then do let ok ← isTrue c env (eval c env); pure (ForInStep.yield ok) else pure (ForInStep.yield r)) σ (fun _ _ ok => ok = b) σ'
theorem tst_nil : TST w n env [] σ true σ := fun A hb ρ s Q E rm R k => wpAny_tests_nil (k _ _ _ _ .refl R rfl)
theorem tst_one {t : Expr} {b : Bool} (h : SB w n env t σ b σ1) : TST w n env [t] σ b σ1 := fun A hb ρ s Q E rm R k => wpAny_tests_one (h _ _ _ _ _ _ rm R k)
theorem RelE.letgo {h' : Heap} {C : Addr} (R : RelE w hb ρ env s σ) (hC : C ∉ fp env ∧ hb.get? C = none ∧ C ∉ ρ ∧ C ∉ TB) (hs : Heap.SameBut C s.heap h') : RelE w hb ρ env { s with heap := h' } σ := by
  refine eAAA hC ?_; clear hC; rintro c1 c2 c3 c4
  have ne : ∀ {b : Addr}, b ≠ C → h'.get? b = s.heap.get? b := fun q => hs.2 _ q
  have lv : ∀ b, b ≠ C → Live s.heap b → Live h' b := fun b q ⟨o, e⟩ => ⟨o, (ne q).trans e⟩
  have hloc : env.locals ≠ C := fun q => c1 (q ▸ List.mem_cons_self ..)
  refine eEA R.loc ?_; rintro mp g1 g2
  have g1' : h'.Ns env.locals mp := ns_of g1 fun o e => (ne hloc).trans e
  refine ⟨⟨R.m.top, fun b o e => (ne fun q => by rw [q, c2] at e; cases e).trans (R.m.keep b o e), fun T hT => ?_, R.m.bare, R.m.len, fun i y cc e1 e2 => ?_, R.m.ok, R.m.nod, fun y hy => ?_, ?_⟩, ⟨mp, g1', g2⟩, fun x c e => ?_, R.celD, R.nod, fun y hy => ?_, R.far⟩
  · obtain ⟨⟨ps, e⟩, q⟩ := R.m.tabs T hT
    exact ⟨⟨ps, (ne fun z => c4 (z ▸ hT)).trans e⟩, q⟩
  · refine eEA (R.m.mem i y cc e1 e2) ?_; rintro o e3 e4
    exact ⟨o, (ne fun z => c3 (z ▸ List.mem_of_getElem? e1)).trans e3, e4⟩
  · refine eAA (R.m.out y hy) ?_; rintro q1 q2 q3
    exact ⟨q1, q2, lv y (fun z => c3 (z ▸ hy)) q3⟩
  · exact ⟨env.locals, mp, R.far, g1', (R.out _ (List.mem_cons_self ..)).2.1⟩
  · refine eEA (R.cel x c e) ?_; rintro r q1 q2
    exact ⟨r, isCell_of q1 fun o e' => (ne fun z => c1 (z ▸ List.mem_cons_of_mem _ (lookup_snd e))).trans e', q2⟩
  · refine eAAA (R.out y hy) ?_; rintro q1 q2 q3 q4
    exact ⟨q1, q2, q3, lv y (fun z => c1 (z ▸ hy)) q4⟩
theorem Ext.letgo {h' : Heap} {C : Addr} (x : Ext X hb ρ s hb' ρ' s') (hC : Dead s.heap C) (hs : Heap.SameBut C s'.heap h') : Ext X hb ρ s hb' ρ' { s' with heap := h' } :=
  { x with keep := fun b o e h1 h2 h3 => (hs.2 b fun q => by rw [q, hC] at e; cases e).trans (x.keep b o e h1 h2 h3), live := fun b ⟨o, e⟩ => let ⟨o', e'⟩ := x.live b ⟨o, e⟩; ⟨o', (hs.2 b fun q => by rw [q, hC] at e; cases e).trans e'⟩ }
theorem close_upX (R : RelM w hb ρ s μ) (X' : Ext X hb ρ s hb' ρ' s') {M : List Cell} {r r' : AV} {v : Value} (R' : RelM w hb' ρ' s' M) (hv : VRel w hb' ρ' r v) (hcl : Closes w r M r' μ') (hlen : μ.length ≤ μ'.length) (hlen' : μ'.length ≤ M.length)
    (hbel : (∀ c ∈ μ, c.inb μ.length = true) → ∀ c ∈ μ', c.inb μ'.length = true) : ∃ hb'' ρ'', Ext X hb ρ s hb'' ρ'' s' ∧ RelM w hb'' ρ'' s' μ' ∧ VRel w hb'' ρ'' r' v ∧ hb'.StaysIn hb'' ∧ (∀ a o, hb''.get? a = some o → hb'.get? a = some o ∨ a ∈ ρ') ∧ ρ'' <+: ρ' := by
  obtain ⟨t0, ht0⟩ := X'.pre
  have hl : μ'.length ≤ ρ'.length := by rw [R'.len]; exact hlen'
  have hsplit := List.take_append_drop μ'.length ρ'
  refine eEAA (hcl hb' (ρ'.take μ'.length) (ρ'.drop μ'.length) s' v (by rw [List.length_take]; lia) (hbel R.inb) (by rw [hsplit]; exact R') (by rw [hsplit]; exact hv)) ?_; rintro F f1 f2 f3
  have hpre : ρ <+: ρ'.take μ'.length := by
    rw [← ht0, show (ρ ++ t0).take μ'.length = ρ ++ t0.take (μ'.length - ρ.length) by rw [List.take_append, List.take_of_length_le (by rw [R.len]; exact hlen)]]
    exact List.prefix_append _ _
  have hold : ∀ a ∈ F, Dead s.heap a := fun a ha => (X'.freshR a (List.mem_of_mem_drop (f1 a ha))).elim (fun q => by
    have nd := R'.nod
    rw [← hsplit] at nd
    exact absurd rfl ((List.nodup_append.mp nd).2.2 a (hpre.subset q) a (f1 a ha))) id
  have X2 := X'.freeze R'.keep hold
  rw [← hsplit] at X2
  refine ⟨_, _, X2.drop hpre, f2, f3, addB_base R'.keep, fun a o e => ?_, List.take_prefix _ _⟩
  rw [addB_get R'.keep] at e
  by_cases q : a ∈ F
  · exact .inr (List.mem_of_mem_drop (f1 a q))
  · rw [if_neg q] at e; exact .inl e
end
section
variable {w : World} {n : Nat} {env cenv : Env} {σ σ1 σ2 σ3 σ4 : St} {pos : Pos} {hb hb' hb1 hb2 h : Heap} {ρ ρ' ρ1 ρ2 : List Addr} {s s' s1 s2 : Shared} {μ μ' : List Cell} {a b c : AV}
variable {A : Around} {E : Value → Shared → Prop} {l : List AV} {x y : AV} {X P G : List Addr}
noncomputable def CStep (w : World) (n : Nat) (cenv : Env) (tg elt : Expr) (ifs : List Expr) (celc : List (Str × AV)) (μ : List Cell) (p : AV → Bool) (f : AV → AV) (y : AV) : Prop :=
  ∀ acc, ∃ σ2 σ3, TGT w cenv tg y ⟨[], celc, μ ++ [.lst acc]⟩ σ2 ∧ TST w n cenv ifs σ2 (p y) σ3 ∧ (⟨[], celc, μ ++ [.lst acc]⟩ : St).le σ3 ∧ (p y = true → ∃ σ4, SE w n cenv elt σ3 (f y) σ4 ∧ (⟨[], celc, μ ++ [.lst acc]⟩ : St).le σ4 ∧ (f y).pure = true)
theorem set_last {α : Type} (l : List α) (x y : α) : (l ++ [x]).set l.length y = l ++ [y] := by simp
theorem compLoop_run {elt tg iter : Expr} {ifs : List Expr} {scope : Scope} {celc : List (Str × AV)} {xs : List AV} {p : AV → Bool} {f : AV → AV} {C : List Cell → Prop} {it : Value} {ob : Nat → Shared → Prop} {D : Addr} {Rr : Result → Shared → Prop}
    (rm : Room n A) (It : ItAt w n tg C hb1 ρ1 P G it xs ob) (hC : ∀ acc, C (μ ++ [.lst acc])) (hz : xs.length ≤ 1000) (hD : ρ2[μ.length]? = some D)
    (step : ∀ (i : Nat) (y : AV), xs[i]? = some y → CStep w n cenv tg elt ifs celc μ p f y)
    (hpre : hb1.StaysIn hb2 ∧ ρ1 <+: ρ2) (R : RelE w hb2 ρ2 cenv s ⟨[], celc, μ ++ [.lst []]⟩) (ho : ob 0 s) (hP : ∀ b ∈ P, hb2.get? b = none ∧ b ∉ ρ2 ∧ b ∉ TB ∧ Live s.heap b ∧ b ∉ fp cenv)
    (k : ∀ hb' ρ' s', ExtG (fp cenv) P G hb2 ρ2 s hb' ρ' s' → (∀ b ∈ P, Live s.heap b) → RelE w hb' ρ' cenv s' ⟨[], celc, μ ++ [.lst ((xs.filter p).map f)]⟩ → Rr (.ok .next) s') :
    codeAny (model PRG w) A (.compLoop (.ListComp elt [⟨tg, iter, ifs, 0⟩] scope pos) 0 it (.ref D) cenv) Rr s := by
  refine codeAny_loop rfl (fun m s' => ∃ i hb ρ, m = xs.length - i ∧ i ≤ xs.length ∧ RelE w hb ρ cenv s' ⟨[], celc, μ ++ [.lst (((xs.take i).filter p).map f)]⟩ ∧ ob i s' ∧ (∀ b ∈ P, Live s'.heap b) ∧ ExtG (fp cenv) P G hb2 ρ2 s hb ρ s') (fun m s3 hI => ?_) xs.length
    ⟨0, hb2, ρ2, by simp, Nat.zero_le _, R, ho, fun b q => (hP b q).2.2.2.1, (Ext.refl (X := fp cenv)).g⟩
  refine eEEEAAAAA hI ?_; clear hI; rintro i hb3 ρ3 rfl hi' R3 o3 L3 X3
  show wpAny _ A ((compTurn (.ListComp elt [⟨tg, iter, ifs, 0⟩] scope pos) 0 it (.ref D) cenv).onRaise (fun x => do noteFrame x cenv; theTreesLotGoes x)) _ _ s3
  refine wpAny_noted ?_
  rw [compTurn_list]
  refine wpAny_bind (wpAny_standAt (wpAny_bind ?_))
  have d3 := disjoint R X3 fun b hb' => ⟨(hP b hb').1, (hP b hb').2.1, (hP b hb').2.2.1, (hP b hb').2.2.2.1⟩
  refine It.next _ _ _ _ _ i _ _ rm (fun b o e => X3.base b o (hpre.1 b o e)) (hpre.2.trans X3.pre) R3.m (hC _) o3 (fun x hx s4 v M4 L4 o4 hv hgo => ?_) fun hx s4 M4 => ?_
  · have hlt := (List.getElem?_eq_some_iff.mp hx).1
    have htk : xs.take (i + 1) = xs.take i ++ [x] := by rw [List.take_add_one, hx]; rfl
    refine eEEAAA (step i x hx (((xs.take i).filter p).map f)) ?_; rintro σ2 σ3' ht hts hle he
    have R4 := R3.moved M4 d3 fun b q => (hP b q).2.2.2.2
    refine wpAny_bind (hgo _ _ _ fun s4' M4' L4' o4' => ?_)
    have R4' := R4.moved M4' d3 fun b q => (hP b q).2.2.2.2
    have X34 := (X3.trans (Moved.g M4) L3).trans (Moved.g M4') L4
    refine wpAny_bind (ht _ _ _ _ _ _ _ rm.1 R4' hv fun s5 X5 R5 => ?_)
    refine wpAny_bind (hts _ _ _ _ _ _ rm R5 fun hb6 ρ6 s6 ok X6 R6 hok => ?_)
    subst hok
    have keep_o : ∀ {hb7 ρ7 s7}, Ext (fp cenv) hb3 ρ3 s4' hb7 ρ7 s7 → ob (i + 1) s7 := fun X => It.stable _ _ _ o4' (fun b o hbP e => X.keep b o e (hP b hbP).2.2.2.2 (d3 b hbP).2.1 (d3 b hbP).2.2) fun j g _ e => X.gens j g e
    cases hp : p x with
    | false =>
      have e : ((xs.take (i + 1)).filter p).map f = ((xs.take i).filter p).map f := by rw [htk, List.filter_append, List.filter_cons, hp]; simp
      exact wpAny_pure ⟨rfl, xs.length - (i + 1), by omega, i + 1, hb6, ρ6, rfl, hlt, by rw [e]; exact R6.le hle, keep_o (X5.trans X6), fun b q => (X5.trans X6).live b (L4' b q), X34.trans (X5.trans X6).g L4'⟩
    | true =>
      refine eEAA (he hp) ?_; rintro σ4' he1 he2 he3
      have e : ((xs.take (i + 1)).filter p).map f = ((xs.take i).filter p).map f ++ [f x] := by rw [htk, List.filter_append, List.filter_cons, hp, List.map_append]; simp
      refine wpAny_bind (wpAny_bind (he1 _ _ _ _ _ _ rm R6 fun hb7 ρ7 s7 v7 X7 R7 h7 => ?_))
      have R7' := R7.le he2
      have X57 := (X5.trans X6).trans X7
      have hlen : (((xs.take i).filter p).map f).length ≤ 10000 := by
        have h1 := List.length_filter_le p (xs.take i)
        have h2 := List.length_take_le i xs
        rw [List.length_map]; omega
      have hg : ρ7[μ.length]? = some D := getElem?_pre ((X3.pre).trans X57.pre) hD
      refine wpAny_bind (fn_append (i := μ.length) (by rw [List.getElem?_append_right (Nat.le_refl _), Nat.sub_self]; rfl) he3 hlen _ _ _ _ _ _ _ _ _ rm R7'.m (.val _) (.cons (.hnd hg) (.cons h7 .nil)) .nil fun hb8 ρ8 s8 v8 X8 R8 h8 => ?_)
      have X58 := X57.trans (X8.weaken fun _ q => nomatch q)
      have R8' := R7'.step X8 R8
      rw [set_last] at R8'
      exact wpAny_pure (wpAny_pure ⟨rfl, xs.length - (i + 1), by omega, i + 1, hb8, ρ8, rfl, hlt, by rw [e]; exact R8', keep_o X58, fun b q => X58.live b (L4' b q), X34.trans X58.g L4'⟩)
  · have hge : xs.length ≤ i := List.getElem?_eq_none_iff.mp hx
    have R4 := R3.moved M4 d3 fun b q => (hP b q).2.2.2.2
    rw [List.take_of_length_le hge] at R4
    exact wpAny_pure (k _ _ _ (X3.trans (Moved.g M4) L3) (fun b q => (hP b q).2.2.2.1) R4)
end
section
variable {w : World} {n : Nat} {env cenv : Env} {σ σ1 σ2 σ3 σ4 : St} {pos : Pos} {hb hb' hb1 hb2 h : Heap} {ρ ρ' ρ1 ρ2 : List Addr} {s s' s1 s2 : Shared} {μ μ' : List Cell} {a b c : AV}
variable {A : Around} {E : Value → Shared → Prop} {l : List AV} {x y : AV} {X Y P G : List Addr}
theorem ExtG.mv {Z : List Addr} (x : ExtG X P G hb ρ s hb' ρ' s') (h : ∀ b ∈ X, b ∈ Y ∨ b ∈ Z) (hp : ∀ b ∈ P, b ∈ Z) : ExtG Y Z G hb ρ s hb' ρ' s' :=
  ⟨x.base, x.pre, x.fresh, x.freshR, fun b o e h1 h2 h3 h4 => x.keep b o e (fun q => (h b q).elim h1 h2) (fun q => h2 (hp b q)) h3 h4, fun b hb => x.live b fun q => hb (hp b q), x.gens, x.os⟩
theorem lookup_inj {c : Addr} {x y : Str} : ∀ {l : List (Str × Addr)}, (l.map (·.2)).Nodup → l.lookup x = some c → l.lookup y = some c → x = y := fun {l} nd e1 e2 => by
  have m1 := mem_of_lookup e1
  have m2 := mem_of_lookup e2
  induction l with
  | nil => cases m1
  | cons q l ih =>
    rw [List.map_cons, List.nodup_cons] at nd
    rcases List.mem_cons.mp m1 with r1 | r1
    · rcases List.mem_cons.mp m2 with r2 | r2
      · rw [← r1] at r2; exact (congrArg Prod.fst r2).symm
      · rw [← r1] at nd; exact absurd (List.mem_map_of_mem (f := (·.2)) r2) nd.1
    · rcases List.mem_cons.mp m2 with r2 | r2
      · rw [← r2] at nd; exact absurd (List.mem_map_of_mem (f := (·.2)) r1) nd.1
      · rw [List.lookup_cons] at e1 e2
        have k1 : (x == q.1) = false := by
          cases z : x == q.1 with
          | false => rfl
          | true => rw [z] at e1; cases e1; exact absurd (List.mem_map_of_mem (f := (·.2)) r1) nd.1
        have k2 : (y == q.1) = false := by
          cases z : y == q.1 with
          | false => rfl
          | true => rw [z] at e2; cases e2; exact absurd (List.mem_map_of_mem (f := (·.2)) r2) nd.1
        rw [k1] at e1; rw [k2] at e2
        exact ih nd.2 e1 e2 r1 r2
set_option maxHeartbeats 1600000 in
theorem comp_core {elt tg iter : Expr} {ifs : List Expr} {scope : Scope} {cl : List (Str × Addr)} {celc : List (Str × AV)} {xs : List AV} {p : AV → Bool} {f : AV → AV} {C : List Cell → Prop} {use : Option (Value → Sem Unit)} {Q : Value → Shared → Prop} {pos' : Pos}
    (h : SE w n env iter σ a σ1) (hi : IterOf w n tg a σ1.mem xs C)
    (hclos : closureFor scope env = pure cl) (hcl : ∀ q ∈ cl, env.cells.lookup q.1 = some q.2) (hnd : (cl.map (·.2)).Nodup)
    (hcel : ∀ x av, celc.lookup x = some av → ∃ c, cl.lookup x = some c) (hag : ∀ x c, cl.lookup x = some c → celc.lookup x = σ1.cel.lookup x)
    (hC : ∀ acc, C (σ1.mem ++ [.lst acc])) (hz : xs.length ≤ 1000)
    (step : ∀ (Ca : Addr) (i : Nat) (y : AV), xs[i]? = some y → CStep w n (compEnvC scope cl Ca env) tg elt ifs celc σ1.mem p f y)
    (hcell : ∀ y ∈ scope.names, y.2 ≠ .cell) (hkind : scope.kind = .function) (hnames : ∀ x ∈ scope.names, x.2 = .local → scope.names.lookup x.1 = some .local)
    (hs : ∀ x, foldedSetIterable iter env x = pure x) (rm : Room n A) (R : RelE w hb ρ env s σ)
    (k : ∀ hb' ρ' s' D Ca, Ext (fp env) hb ρ s hb' ρ' s' → RelE w hb' ρ' env s' σ1 → VRel w hb' ρ' (.lst ((xs.filter p).map f)) (.ref D) → (Ca ∉ fp env ∧ hb'.get? Ca = none ∧ Ca ∉ ρ' ∧ Ca ∉ TB) → Dead s.heap Ca → (∃ m, s'.heap.Ns Ca m) → compPost (model PRG w) A E use Q (.ref D) Ca (.ok .next) s') :
    wpAny (model PRG w) A (comprehension (.ListComp elt [⟨tg, iter, ifs, 0⟩] scope pos) scope env pos' (newList []) false (eval iter env) use) Q E s := by
  refine wpAny_comprehension_free (g := ⟨tg, iter, ifs, 0⟩) (gs := []) rfl hs hclos hkind hnames ?_
  refine h _ _ _ _ _ _ rm R fun hb1 ρ1 s1 v X1 R1 h1 => ?_
  refine hi _ _ _ _ _ _ _ rm R1.m h1 fun ys it P G ob s2 hY X2 M2 It o2 hP hG => ?_
  subst hY
  have R2 : RelE w hb1 ρ1 env s2 σ1 := R1.step X2 M2
  refine wpAny_newList ?_
  have X3 : Ext [] hb1 ρ1 s2 hb1 (ρ1 ++ [s2.heap.objs.size]) { s2 with heap := s2.heap.push { cls := .type "list", data := .seq ([] : List Value).toArray } } := Ext.cell
  have R3 := R2.step X3 (R2.m.cell (c := .lst []) (.lst .nil) rfl)
  generalize hs3 : ({ s2 with heap := s2.heap.push { cls := .type "list", data := .seq ([] : List Value).toArray } } : Shared) = s3 at X3 R3
  generalize hDd : s2.heap.objs.size = D at X3 R3
  refine wpAny_newFunctionEnv (binds := []) hcell (fun x hx => nomatch hx) (fun h4 hns hsb => ?_) hkind
  have hCd : Dead s3.heap s3.heap.objs.size := dead_of_le (Nat.le_refl _)
  generalize hCa : s3.heap.objs.size = Ca at hns hsb hCd
  have k4 : ∀ b o, s3.heap.get? b = some o → h4.get? b = some o := fun b o e => (hsb.2 b fun q => by rw [q, hCd] at e; cases e).trans (Heap.get?_push_of_some _ e)
  have X4 : Ext [] hb1 (ρ1 ++ [D]) s3 hb1 (ρ1 ++ [D]) { s3 with heap := h4, toks := s3.toks + 0 } := Ext.plain (fun b o e _ => k4 b o e) (live_stays k4) rfl rfl
  have R4 := R3.step X4 (R3.m.grow (s' := { s3 with heap := h4, toks := s3.toks + 0 }) k4 rfl)
  show codeAny _ A (.compStart _ 0 it (.ref D) (compEnvC scope cl Ca env)) _ { s3 with heap := h4, toks := s3.toks + 0 }
  generalize hs4 : ({ s3 with heap := h4, toks := s3.toks + 0 } : Shared) = s4 at X4 R4
  have hns4 : s4.heap.Ns Ca (fun _ => none) := by rw [← hs4]; exact hns
  have hlen1 : ρ1.length = σ1.mem.length := R1.m.len
  -- the frame of the comprehension
  have cl_env : ∀ x c, cl.lookup x = some c → env.cells.lookup x = some c := fun x c e => hcl _ (mem_of_lookup e)
  have cl_fp : ∀ c ∈ cl.map (·.2), c ∈ fp env := fun c hc => by
    refine eEA (List.mem_map.mp hc) ?_; rintro q h1 rfl
    exact List.mem_cons_of_mem _ (lookup_snd (hcl q h1))
  have Ca_fp : Ca ∉ fp env := fun q => nd (R3.out _ q).2.2.2 hCd
  have Rc : RelE w hb1 (ρ1 ++ [D]) (compEnvC scope cl Ca env) s4 ⟨[], celc, σ1.mem ++ [.lst []]⟩ := by
    refine ⟨R4.m, ⟨_, hns4, fun x av e => by cases e⟩, fun x c e => ?_, hcel, List.nodup_cons.mpr ⟨fun q => Ca_fp (cl_fp _ q), hnd⟩, fun b hbm => ?_, ?_⟩
    · refine eEA (R4.cel x c (cl_env x c e)) ?_; rintro r q1 q2
      exact ⟨r, q1, fun av e' => q2 av (by rw [hag x c e] at e'; exact e')⟩
    · rcases List.mem_cons.mp hbm with e | hbm
      · have e' : b = Ca := e
        rw [e']
        show hb1.get? Ca = none ∧ Ca ∉ ρ1 ++ [D] ∧ Ca ∉ TB ∧ Live s4.heap Ca
        refine ⟨dead_base R3.m.keep hCd, fun q => nd (R3.m.out _ q).2.2 hCd, fun q => nd (tb_lt R3.m q) hCd, live_ns hns4⟩
      · exact R4.out b (cl_fp b hbm)
    · show 648 ≤ Ca
      refine eEEAA R3.m.fr ?_; rintro L m q1 q2 _
      rw [← hCa]; exact Nat.le_of_lt (Nat.lt_of_le_of_lt q1 q2.lt)
  have hPd : ∀ b ∈ P, hb1.get? b = none ∧ b ∉ ρ1 ++ [D] ∧ b ∉ TB ∧ Live s4.heap b ∧ b ∉ fp (compEnvC scope cl Ca env) := fun b hbP => by
    obtain ⟨g1, g2⟩ := hP b hbP
    have l3 : Live s3.heap b := X3.live b g2
    refine ⟨dead_base R1.m.keep g1, fun q => ?_, fun q => nd (tb_lt R1.m q) g1, X4.live b l3, fun q => ?_⟩
    · rcases List.mem_append.mp q with q | q
      · exact nd (R1.m.out b q).2.2 g1
      · rw [List.mem_singleton.mp q, ← hDd] at g2; exact nd g2 (dead_of_le (Nat.le_refl _))
    · rcases List.mem_cons.mp q with rfl | q
      · exact nd l3 hCd
      · exact nd (R1.out b (cl_fp b q)).2.2.2 g1
  have ho4 : ob 0 s4 := It.stable _ _ _ o2 (fun b o hbP e => X4.keep b o (X3.keep b o e (fun q => nomatch q) (fun q => nd (R1.m.out b q).2.2 (hP b hbP).1) (hPd b hbP).2.2.1) (fun q => nomatch q) (hPd b hbP).2.1 (hPd b hbP).2.2.1) (fun j g _ e => X4.gens j g (X3.gens j g e))
  have hDg : (ρ1 ++ [D])[σ1.mem.length]? = some D := by rw [← hlen1, List.getElem?_append_right (Nat.le_refl _), Nat.sub_self]; rfl
  have loop : codeAny (model PRG w) A (.compLoop (.ListComp elt [⟨tg, iter, ifs, 0⟩] scope pos) 0 it (.ref D) (compEnvC scope cl Ca env)) (compPost (model PRG w) A E use Q (.ref D) Ca) s4 := by
    refine compLoop_run rm It hC hz hDg (step Ca) ⟨fun _ _ e => e, List.prefix_append _ _⟩ Rc ho4 hPd fun hb5 ρ5 s5 XG L5 R5 => ?_
    have X14 : Ext (fp env) hb ρ s hb1 (ρ1 ++ [D]) s4 := ((X1.trans (X2.weaken fun _ q => nomatch q)).trans (X3.weaken fun _ q => nomatch q)).trans (X4.weaken fun _ q => nomatch q)
    have hCs : Dead s.heap Ca := dead_back (fun b q => X3.live b (X2.live b (X1.live b q))) hCd
    have X5 : Ext (fp env) hb ρ s hb5 ρ5 s5 := ExtG.close X14 (XG.mv (Y := fp env) (Z := Ca :: P) (fun b q => by
      rcases List.mem_cons.mp q with rfl | q
      · exact .inr (List.mem_cons_self ..)
      · exact .inl (cl_fp b q)) fun b q => List.mem_cons_of_mem _ q) (fun b q => by
      rcases List.mem_cons.mp q with rfl | q
      · exact hCs
      · exact dead_back X1.live (hP b q).1) (fun g q => by
      cases z : s.gens[g]? with
      | none => rfl
      | some gs => have := X1.gens g gs z; rw [(hG g q).1] at this; cases this)
    obtain ⟨hb6, ρ6, X6, M6, h6, b6, f6, p6⟩ := close_upX R.m X5 R5.m (.hnd (getElem?_pre XG.pre hDg)) (closes_list (i := σ1.mem.length) (ν := [.lst ((ys.filter p).map f)]) (Nat.le_refl _) (by rw [List.getElem?_append_right (Nat.le_refl _), Nat.sub_self]; rfl))
      (by rw [← R.m.len, ← R1.m.len]; exact X1.pre.length_le) (by simp) (fun _ => R1.m.inb)
    have e6 : ρ6 = ρ1 := by
      have p1 : ρ1 <+: ρ5 := (List.prefix_append _ _).trans XG.pre
      have l6 : ρ6.length = ρ1.length := by rw [M6.len, hlen1]
      exact (List.prefix_of_prefix_length_le p6 p1 (by lia)).eq_of_length l6
    subst e6
    have base6 : hb1.StaysIn hb6 := fun b o e => b6 b o (XG.base b o e)
    have away : ∀ b, b ∈ fp env → b ∉ P ∧ b ∉ ρ6 ++ [D] ∧ b ∉ TB ∧ b ≠ Ca := fun b hbm => ⟨fun q => nd (R1.out b hbm).2.2.2 (hP b q).1, (R3.out b hbm).2.1, (R3.out b hbm).2.2.1, fun q => Ca_fp (q ▸ hbm)⟩
    have RE : RelE w hb6 ρ6 env s5 σ1 := by
      refine ⟨M6, ?_, fun x c e => ?_, R2.celD, R2.nod, fun b hbm => ?_, R.far⟩
      · refine eEA R4.loc ?_; rintro mp q1 q2
        refine eEA R2.loc ?_; rintro mp2 q3 q4
        refine eAAA (away env.locals (List.mem_cons_self ..)) ?_; rintro z1 z2 z3 z4
        have nl : env.locals ∉ fp (compEnvC scope cl Ca env) := fun q => by
          rcases List.mem_cons.mp q with q | q
          · exact z4 q
          · have nn := R2.nod
            refine eEA (List.mem_map.mp q) ?_; rintro q' h1 h2
            exact (List.nodup_cons.mp nn).1 (by have := lookup_snd (hcl q' h1); rwa [show q'.2 = env.locals from h2] at this)
        refine ⟨mp2, ns_of q3 fun o e => XG.keep _ o (X4.keep _ o (X3.keep _ o e (fun q => nomatch q) (fun q => z2 (List.mem_append_left _ q)) z3) (fun q => nomatch q) z2 z3) nl z1 z2 z3, fun x av e => ?_⟩
        refine eEA (q4 x av e) ?_; rintro v g1 g2
        exact ⟨v, g1, g2.mono base6 List.prefix_rfl⟩
      · have hcm : c ∈ fp env := List.mem_cons_of_mem _ (lookup_snd e)
        refine eAAA (away c hcm) ?_; rintro z1 z2 z3 z4
        refine eEA (R2.cel x c e) ?_; rintro r q1 q2
        by_cases hc : cl.lookup x = some c
        · refine eEA (R5.cel x c hc) ?_; rintro r' q3 q4
          refine ⟨r', q3, fun av e' => ?_⟩
          refine eEA (q2 av e') ?_; rintro v0 _ hv0
          refine eEA (q4 av ((hag x c hc).trans e')) ?_; rintro v g1 g2
          refine ⟨v, g1, ?_⟩
          obtain ⟨t5, ht5⟩ := p6
          rw [← ht5] at g2
          exact (g2.cut hv0.inb).mono b6 List.prefix_rfl
        · have nl : c ∉ fp (compEnvC scope cl Ca env) := fun q => by
            rcases List.mem_cons.mp q with q | q
            · exact z4 q
            · refine eEA (List.mem_map.mp q) ?_; rintro ⟨x', c'⟩ h1 h2
              have h2' : c' = c := h2
              subst h2'
              have e2 := hcl _ h1
              have := lookup_inj (List.nodup_cons.mp R2.nod).2 e e2
              subst this
              have hin : (cl.lookup x).isSome = true := lookup_isSome (List.mem_map_of_mem (f := (·.1)) h1)
              obtain ⟨c2, hc2⟩ := Option.isSome_iff_exists.mp hin
              have := cl_env x c2 hc2
              rw [e] at this; cases this
              exact hc hc2
          refine ⟨r, isCell_of q1 fun o e => XG.keep _ o (X4.keep _ o (X3.keep _ o e (fun q => nomatch q) (fun q => z2 (List.mem_append_left _ q)) z3) (fun q => nomatch q) z2 z3) nl z1 z2 z3, fun av e' => ?_⟩
          refine eEA (q2 av e') ?_; rintro v g1 g2
          exact ⟨v, g1, g2.mono base6 List.prefix_rfl⟩
      · refine eAAA (away b hbm) ?_; rintro z1 z2 z3 z4
        refine eAAA (R4.out b hbm) ?_; rintro g1 g2 g3 g4
        have n5 : hb5.get? b = none := by
          cases q : hb5.get? b with
          | none => rfl
          | some o => exact (XG.fresh b o q).elim (fun e => by rw [g1] at e; cases e) fun l => (nd g4 l).elim
        have n5r : b ∉ ρ5 := fun q => (XG.freshR b q).elim g2 fun l => nd g4 l
        refine ⟨?_, fun q => n5r (p6.subset q), g3, XG.live b z1 g4⟩
        cases q : hb6.get? b with
        | none => rfl
        | some o => exact (f6 b o q).elim (fun e => by rw [n5] at e; cases e) fun e => (n5r e).elim
    refine eAAA (R5.out Ca (List.mem_cons_self ..)) ?_; rintro c1 c2 c3 c4
    refine k hb6 ρ6 s5 D Ca X6 RE h6 ⟨Ca_fp, ?_, fun q => c2 (p6.subset q), c3⟩ hCs ?_
    · cases q : hb6.get? Ca with
      | none => rfl
      | some o => exact (f6 Ca o q).elim (fun e => by rw [c1] at e; cases e) fun e => (c2 e).elim
    · refine eEA R5.loc ?_; rintro mp q1 _; exact ⟨mp, q1⟩
  show codeAny _ A (.compStart _ 0 it (.ref D) (compEnvC scope cl Ca env)) (compPost (model PRG w) A E use Q (.ref D) Ca) s4
  exact codeAny_compStart_list loop (It.self _ _ _ _ _ ho4 loop)
end
section
variable {w : World} {n : Nat} {env cenv : Env} {σ σ1 σ2 σ3 σ4 : St} {pos : Pos} {a b c : AV}
variable {elt tg iter : Expr} {ifs : List Expr} {scope : Scope} {cl : List (Str × Addr)} {celc : List (Str × AV)} {xs : List AV} {p : AV → Bool} {f : AV → AV} {C : List Cell → Prop}
theorem se_listcomp (cl : List (Str × Addr)) (celc : List (Str × AV)) (p : AV → Bool) (f : AV → AV) (h : SE w n env iter σ a σ1) (hi : IterOf w n tg a σ1.mem xs C)
    (hC : ∀ acc, C (σ1.mem ++ [.lst acc])) (hz : xs.length ≤ 1000)
    (step : ∀ (Ca : Addr) (i : Nat) (y : AV), xs[i]? = some y → CStep w n (compEnvC scope cl Ca env) tg elt ifs celc σ1.mem p f y)
    (hclos : autoParam (closureFor scope env = pure cl) auR) (hcl : autoParam (∀ q ∈ cl, env.cells.lookup q.1 = some q.2) auS) (hnd : autoParam ((cl.map (·.2)).Nodup) auS)
    (hcel : autoParam (∀ x av, celc.lookup x = some av → ∃ c, cl.lookup x = some c) auS) (hag : autoParam (∀ x c, cl.lookup x = some c → celc.lookup x = σ1.cel.lookup x) auS)
    (hcell : autoParam (∀ y ∈ scope.names, y.2 ≠ .cell) auD) (hkind : autoParam (scope.kind = .function) auR) (hnames : autoParam (∀ x ∈ scope.names, x.2 = .local → scope.names.lookup x.1 = some .local) auD)
    (hs : autoParam (∀ x, foldedSetIterable iter env x = pure x) auI) : SE w n env (.ListComp elt [⟨tg, iter, ifs, 0⟩] scope pos) σ (.lst ((xs.filter p).map f)) σ1 := fun A hb ρ s Q E rm R k => by
  rw [eval_ListComp]
  refine comp_core (use := Option.none) h hi hclos hcl hnd hcel hag hC hz step hcell hkind hnames hs rm R fun hb' ρ' s' D Ca X' R' h' hCa hd hns => ?_
  obtain ⟨m, hns⟩ := hns
  exact ⟨m, hns, fun h'' hs'' => k _ _ _ _ (X'.letgo hd hs'') (R'.letgo hCa hs'') h'⟩
theorem ss_listcomp {y : Str} {py spos : Pos} (cl : List (Str × Addr)) (celc : List (Str × AV)) (p : AV → Bool) (f : AV → AV) (h : SE w n env iter σ a σ1) (hi : IterOf w n tg a σ1.mem xs C)
    (hC : ∀ acc, C (σ1.mem ++ [.lst acc])) (hz : xs.length ≤ 1000)
    (step : ∀ (Ca : Addr) (i : Nat) (y : AV), xs[i]? = some y → CStep w n (compEnvC scope cl Ca env) tg elt ifs celc σ1.mem p f y)
    (hsw : autoParam (swapsWith (.ListComp elt [⟨tg, iter, ifs, 0⟩] scope pos) (some (.Name y py)) spos.line env = pure true) auR) (hy : autoParam (env.kindOf y = some .local) auR) (hp : autoParam ((env.scope.kind == .class || (env.scope.kind == .module && env.locals != env.globals)) = false) auR)
    (hclos : autoParam (closureFor scope env = pure cl) auR) (hcl : autoParam (∀ q ∈ cl, env.cells.lookup q.1 = some q.2) auS) (hnd : autoParam ((cl.map (·.2)).Nodup) auS)
    (hcel : autoParam (∀ x av, celc.lookup x = some av → ∃ c, cl.lookup x = some c) auS) (hag : autoParam (∀ x c, cl.lookup x = some c → celc.lookup x = σ1.cel.lookup x) auS)
    (hcell : autoParam (∀ y ∈ scope.names, y.2 ≠ .cell) auD) (hkind : autoParam (scope.kind = .function) auR) (hnames : autoParam (∀ x ∈ scope.names, x.2 = .local → scope.names.lookup x.1 = some .local) auD)
    (hs : autoParam (∀ x, foldedSetIterable iter env x = pure x) auI) : SS w n env (.Assign [.Name y py] (.ListComp elt [⟨tg, iter, ifs, 0⟩] scope pos) spos) σ .next (σ1.put y (.lst ((xs.filter p).map f))) := fun A hb ρ s Q E rm R k => by
  rw [exec_Assign_Name_used _ _ _ _ hsw]
  refine wpAny_bind (wpAny_standAt (wpAny_bind ?_))
  show wpAny _ A (do let _ ← comprehension (.ListComp elt [⟨tg, iter, ifs, 0⟩] scope pos) scope env _ (newList []) false (eval iter env) (some (assign (.Name y py) env))) _ _ s
  refine wpAny_bind (wpAny_mono (comp_core (Q := fun _ s' => Q .next s') (use := some (assign (.Name y py) env)) h hi hclos hcl hnd hcel hag hC hz step hcell hkind hnames hs rm R fun hb' ρ' s' D Ca X' R' h' hCa hd hns => ?_) (fun _ s' hq => wpAny_pure (wpAny_pure hq)) fun _ _ e => e)
  obtain ⟨m, hns⟩ := hns
  show wpAny _ A (assign (.Name y py) env (.ref D)) _ _ _
  refine wpAny_assign_Name (store_local R' h' hy hp fun s2 X2 R2 => ?_)
  refine ⟨m, ns_of hns fun o e => X2.keep _ o e hCa.1 hCa.2.2.1 hCa.2.2.2, fun h'' hs'' => k _ _ _ _ ((X'.trans X2).letgo hd hs'') (R2.letgo hCa hs'') .next⟩
end
noncomputable def ClOk (env : Env) : List (Str × Addr) → Prop
  | [] => True
  | (x, c) :: r => env.cells.lookup x = some c ∧ ClOk env r
theorem ClOk.all {env : Env} : ∀ {cl : List (Str × Addr)}, ClOk env cl → ∀ q ∈ cl, env.cells.lookup q.1 = some q.2
  | [], _, _, h => nomatch h
  | _ :: _, h, q, hq => by
    rcases List.mem_cons.mp hq with rfl | hq
    · exact h.1
    · exact ClOk.all h.2 q hq
noncomputable def CelOk (sc : List (Str × AV)) : List (Str × Addr) → List (Str × AV) → Prop
  | [], [] => True
  | (x, _) :: r, (y, av) :: t => x = y ∧ sc.lookup x = some av ∧ CelOk sc r t
  | _, _ => False
theorem CelOk.dom {sc : List (Str × AV)} : ∀ {cl : List (Str × Addr)} {cc : List (Str × AV)}, CelOk sc cl cc → ∀ x av, cc.lookup x = some av → ∃ c, cl.lookup x = some c
  | [], [], _, x, av, e => by cases e
  | (x', c') :: r, (y, av') :: t, h, x, av, e => by
    refine eAA h ?_; clear h; rintro rfl h2 h3
    rw [List.lookup_cons] at e ⊢
    cases q : x == x' with
    | true => exact ⟨_, rfl⟩
    | false => rw [q] at e; exact CelOk.dom h3 x av e
  | [], _ :: _, h, _, _, _ => h.elim
  | _ :: _, [], h, _, _, _ => h.elim
theorem CelOk.agree {sc : List (Str × AV)} : ∀ {cl : List (Str × Addr)} {cc : List (Str × AV)}, CelOk sc cl cc → ∀ x c, cl.lookup x = some c → cc.lookup x = sc.lookup x
  | [], [], _, x, c, e => by cases e
  | (x', c') :: r, (y, av') :: t, h, x, c, e => by
    refine eAA h ?_; clear h; rintro rfl h2 h3
    rw [List.lookup_cons] at e ⊢
    cases q : x == x' with
    | true => have := eq_of_beq q; subst this; exact h2.symm
    | false => rw [q] at e; exact CelOk.agree h3 x c e
  | [], _ :: _, h, _, _, _ => h.elim
  | _ :: _, [], h, _, _, _ => h.elim
section
variable {w : World} {n : Nat} {env : Env} {σ σ1 σ2 σ3 : St} {pos : Pos} {μ μ' : List Cell} {a b c : AV}
variable {elt tg iter : Expr} {ifs : List Expr} {scope : Scope} {xs : List AV} {C : List Cell → Prop}
theorem se_comp (cl : List (Str × Addr)) (celc : List (Str × AV)) (p : AV → Bool) (f : AV → AV) (h : SE w n env iter σ a σ1) (hi : IterOf w n tg a σ1.mem xs C)
    (hC : ∀ acc, C (σ1.mem ++ [.lst acc])) (hz : xs.length ≤ 1000)
    (step : ∀ (Ca : Addr) (i : Nat) (y : AV), xs[i]? = some y → CStep w n (compEnvC scope cl Ca env) tg elt ifs celc σ1.mem p f y)
    (hcl : ClOk env cl) (hcel : CelOk σ1.cel cl celc) (hnd : autoParam ((cl.map (·.2)).Nodup) auS)
    (hclos : autoParam (closureFor scope env = pure cl) auR)
    (hcell : autoParam (∀ y ∈ scope.names, y.2 ≠ .cell) auD) (hkind : autoParam (scope.kind = .function) auR) (hnames : autoParam (∀ x ∈ scope.names, x.2 = .local → scope.names.lookup x.1 = some .local) auD)
    (hs : autoParam (∀ x, foldedSetIterable iter env x = pure x) auI) : SE w n env (.ListComp elt [⟨tg, iter, ifs, 0⟩] scope pos) σ (.lst ((xs.filter p).map f)) σ1 :=
  se_listcomp cl celc p f h hi hC hz step hclos hcl.all hnd hcel.dom hcel.agree hcell hkind hnames hs
theorem ss_comp {y : Str} {py spos : Pos} (cl : List (Str × Addr)) (celc : List (Str × AV)) (p : AV → Bool) (f : AV → AV) (h : SE w n env iter σ a σ1) (hi : IterOf w n tg a σ1.mem xs C)
    (hC : ∀ acc, C (σ1.mem ++ [.lst acc])) (hz : xs.length ≤ 1000)
    (step : ∀ (Ca : Addr) (i : Nat) (y : AV), xs[i]? = some y → CStep w n (compEnvC scope cl Ca env) tg elt ifs celc σ1.mem p f y)
    (hcl : ClOk env cl) (hcel : CelOk σ1.cel cl celc) (hnd : autoParam ((cl.map (·.2)).Nodup) auS)
    (hsw : autoParam (swapsWith (.ListComp elt [⟨tg, iter, ifs, 0⟩] scope pos) (some (.Name y py)) spos.line env = pure true) auR) (hy : autoParam (env.kindOf y = some .local) auR) (hp : autoParam ((env.scope.kind == .class || (env.scope.kind == .module && env.locals != env.globals)) = false) auR)
    (hclos : autoParam (closureFor scope env = pure cl) auR)
    (hcell : autoParam (∀ y ∈ scope.names, y.2 ≠ .cell) auD) (hkind : autoParam (scope.kind = .function) auR) (hnames : autoParam (∀ x ∈ scope.names, x.2 = .local → scope.names.lookup x.1 = some .local) auD)
    (hs : autoParam (∀ x, foldedSetIterable iter env x = pure x) auI) : SS w n env (.Assign [.Name y py] (.ListComp elt [⟨tg, iter, ifs, 0⟩] scope pos) spos) σ .next (σ1.put y (.lst ((xs.filter p).map f))) :=
  ss_listcomp cl celc p f h hi hC hz step hsw hy hp hclos hcl.all hnd hcel.dom hcel.agree hcell hkind hnames hs
theorem intL_get {xs : List Int} {i : Nat} {y : AV} (e : (intL xs)[i]? = some y) : ∃ j, xs[i]? = some j ∧ y = .int j := by
  unfold intL at e
  rw [List.getElem?_map] at e
  cases q : xs[i]? with
  | none => rw [q] at e; cases e
  | some j => rw [q] at e; cases e; exact ⟨j, rfl, rfl⟩
noncomputable def toI : AV → Int
  | .int i => i
  | _ => 0
theorem intL_filter {xs : List Int} (p : Int → Bool) : ((intL xs).filter fun y => p (toI y)) = intL (xs.filter p) := by
  unfold intL; rw [List.filter_map]; rfl
theorem f_hits {bs ms : List Int} (hz : bs.length ≤ 1000) : FC w (n + 2) (.val (.ref 630)) [.lst (intL bs), .tup (intL ms)] [] μ (.int (bs.filter fun b => ms.any (· == b)).length) μ := by
  refine fc_plain ⟨_, _, _, by k_is⟩ (by k_is) rfl rfl (hb2_ fun _ _ => by rfl) (by rfl) (by rfl) (fun L => ?_)
  refine sxx_stop (ss_return (se_call (se_builtin b_len (by rfl) (by decide)) kept_builtin (scN (se_comp [("members", L + 1)] [("members", .tup (intL ms))] (fun y => ms.any (· == toI y)) id (seL rfl) (iter_list (xs := intL bs) rfl tg_name) (fun _ => rfl) (by rw [intL_length]; exact hz) (fun Ca i y hy acc => ?_) ⟨rfl, trivial⟩ ⟨rfl, rfl, trivial⟩) snN) (fn_len_list rfl ?_))) ⟨?_, rfl⟩
  · refine eEA (intL_get hy) ?_; rintro j hj rfl
    exact ⟨_, _, tgt_local, tst_one (sb_cmp (seL rfl) (se_cell rfl) o_in_intT), St.le_r rfl, fun _ => ⟨_, seL rfl, St.le_r rfl, rfl⟩⟩
  · rw [List.map_id, intL_filter fun b => ms.any (· == b), intL_length]; exact Nat.le_trans (List.length_filter_le _ _) (by lia)
  · rw [List.map_id, intL_filter fun b => ms.any (· == b), intL_length]; rfl
end
section
variable {w : World} {n : Nat} {env : Env} {σ σ1 σ2 σ3 : St} {pos : Pos} {μ μ' : List Cell} {a b c : AV}
noncomputable def frL (G : Nat) (Ms : List Int) : List AV := Ms.map (fr G)
noncomputable def totA (G : Nat) (Ms : List Int) (i : Nat) : AV := if i = 0 then .int 0 else fr G (Ms.take i).sum
theorem frL_get {G : Nat} {xs : List Int} {i : Nat} {y : AV} (e : (frL G xs)[i]? = some y) : ∃ j, xs[i]? = some j ∧ y = fr G j := by
  unfold frL at e
  rw [List.getElem?_map] at e
  cases q : xs[i]? with
  | none => rw [q] at e; cases e
  | some j => rw [q] at e; cases e; exact ⟨j, rfl, rfl⟩
theorem f_total {G : Nat} {Ms : List Int} (h : 0 < G) (hz : G < 10000) (hne : Ms ≠ []) (hb : AV.inbs μ.length (frL G Ms) = true) : FC w (n + 5) (.val (.ref 205)) [.lst (frL G Ms)] [] μ (fr G Ms.sum) μ := by
  refine fc_plain ⟨_, _, _, by k_is⟩ (by k_is) rfl rfl (hb1_ fun _ => by rfl) (by rfl) (by rfl) (fun L => ?_)
  refine sxC (ss_assign se_int) ?_
  refine sxx_then (ssx_for (α := Unit) (mk := fun i _ => ⟨[("result", totA G Ms i), ("values", .lst (frL G Ms))], [], μ⟩) (Inv := fun _ _ => True) (seL rfl) (iter_list (xs := frL G Ms) rfl tg_name) () trivial (St.le_r rfl) (fun _ _ _ => rfl) fun i _ y hy _ => ⟨_, tgt_local, ?_⟩) fun σ' af h => ⟨h.1, ?_⟩
  · refine eEA (frL_get hy) ?_; rintro M hM rfl
    have e : (Ms.take (i + 1)).sum = M + (Ms.take i).sum := by rw [List.take_add_one, hM, List.sum_append]; simp; lia
    refine sxC (ss_assign (se_ifexp (a := fr G (M + (Ms.take i).sum)) (sb_isi (seL rfl) (se_glob g_Fraction) isi_frac_frac) (fun _ => se_binop (seL rfl) (seL rfl) ?_) (fun q => by cases q))) (sxx_nil ⟨rfl, (), trivial, St.le_of ⟨?_, rfl, trivial⟩ trivial rfl⟩)
    · unfold totA
      by_cases q : i = 0
      · subst q; rw [if_pos rfl, show M + (Ms.take 0).sum = M by simp]; exact o_fr_add0 (n := n + 1) h hz
      · rw [if_neg q]; exact o_fr_add h hz
    · show some (fr G (M + (Ms.take i).sum)) = some (totA G Ms (i + 1))
      unfold totA; rw [if_neg (Nat.succ_ne_zero i), e]
  · refine eAEA h ?_; clear h; rintro rfl _ _ rfl
    refine sxx_stop (ss_return (seL rfl)) ⟨?_, rfl⟩
    show totA G Ms (frL G Ms).length = _
    unfold totA frL
    rw [List.length_map, if_neg (by rw [List.length_eq_zero_iff]; exact hne), List.take_of_length_le (Nat.le_refl _)]
end
noncomputable def shr (a b : Int) : Int := if b ≥ ((Builtin.Int.intBits a : Nat) : Int) then (if a < 0 then -1 else 0) else a.fdiv (2 ^ b.toNat)
section
variable {w : World} {n : Nat} {env : Env} {σ σ1 σ2 σ3 : St} {pos : Pos} {μ μ' : List Cell} {a b c : AV} {l : List AV}
theorem o_shr {i j : Int} (hj : 0 ≤ j) : OI w n (binaryOp .RShift) (.int i) (.int j) μ (.int (shr i j)) := fun A hb ρ s v u Q E rm R hv hu k => by
  obtain ⟨t, rfl⟩ := hv.int_inv
  obtain ⟨t', rfl⟩ := hu.int_inv
  have fin : ∀ v : Int, v = shr i j → (Made.int v).post Q s := fun v hv => by subst hv; exact k _ _ _ _ (Ext.toks _) (R.toks _) (.int _ _)
  by_cases h : j ≥ ((Builtin.Int.intBits i : Nat) : Int)
  · exact AutoIntOps.rshift_1 (by lia) h (fin _ (by unfold shr; rw [if_pos h]))
  · exact AutoIntOps.rshift_2 (by lia) h (fin _ (by unfold shr; rw [if_neg h]))
theorem fn_tuple (e : listOfAV μ a = some l) (hz : l.length ≤ 10000) : FN w n (.val (.type "tuple")) [a] [] μ (.tup l) μ := fun A hb ρ s fv vs kvs Q E rm R hf hvs hks k => by
  obtain rfl := VRel.val_inv hf; obtain rfl := hks.inv0
  refine eEA hvs.inv1 ?_; rintro _ rfl h1
  refine eEEAA (list_of R h1 e) ?_; rintro la us rfl h3 h4
  refine call_tuple_list h3 (fun h' hk => ?_) (by rw [List.size_toArray, h4.length, sizeLine_eq]; lia)
  have hk' : s.heap.StaysIn (h'.push { cls := .type "tuple", data := .seq us.toArray }) := fun b o e => Heap.get?_push_of_some _ (hk b o e)
  obtain ⟨hb', X2, R2, hget⟩ := grown_frozen (s' := { s with heap := h'.push { cls := .type "tuple", data := .seq us.toArray } }) R hk' rfl rfl [h'.objs.size] (fun x hx => by
    rw [List.mem_singleton.mp hx]
    cases q : s.heap.get? h'.objs.size with
    | none => exact q
    | some o => exact absurd (Heap.lt_size (hk _ _ q)) (Nat.lt_irrefl _))
  exact k _ _ _ _ X2 R2 (.tup ⟨_, hget _ (List.mem_singleton.mpr rfl) _ (Heap.get?_push_size _ rfl), rfl, _, rfl⟩ (h4.mono X2.base X2.pre))
end
section
variable {w : World} {n : Nat} {env : Env} {σ σ1 σ2 σ3 : St} {pos : Pos} {hb hb' h : Heap} {ρ : List Addr} {s : Shared} {μ μ' : List Cell} {a b c : AV} {l : List AV}
theorem frz_at {vs : List Value} {h' : Heap} {c' tk : Nat} (R : RelM w hb ρ s μ) (hk : ∀ b o, s.heap.get? b = some o → h'.get? b = some o) (hg : h'.get? s.heap.objs.size = some (listOf vs.toArray c')) (hv : VRels w hb ρ l vs) :
    ∃ hb', Ext [] hb ρ s hb' ρ { s with heap := h', toks := tk } ∧ RelM w hb' ρ { s with heap := h', toks := tk } μ ∧ VRel w hb' ρ (.lst l) (.ref s.heap.objs.size) := by
  refine eEAA (grown_frozen (s' := { s with heap := h', toks := tk }) R hk rfl rfl [s.heap.objs.size] (fun a ha => by rw [List.mem_singleton.mp ha]; exact dead_of_le (Nat.le_refl _))) ?_; rintro hb' X2 R2 hget
  exact ⟨hb', X2, R2, .lst ⟨c', hget _ (List.mem_singleton.mpr rfl) _ hg⟩ (hv.mono X2.base X2.pre)⟩
theorem fn_list_tup (hz : l.length ≤ 10000) : FN w n (.val (.type "list")) [.tup l] [] μ (.lst l) μ := fun A hb ρ s fv vs kvs Q E rm R hf hvs hks k => by
  obtain rfl := VRel.val_inv hf; obtain rfl := hks.inv0
  refine eEA hvs.inv1 ?_; rintro _ rfl h1
  refine eEEAA h1.tup_inv ?_; rintro la us rfl h3 h4
  refine eEAAE (h3.keeps R.keep) ?_; rintro o e1 e2 nn e3
  refine call_list_seq la (.inr rfl) e1 e2 e3 (fun h' c' hk hg => ?_) (by rw [List.size_toArray, h4.length, sizeLine_eq]; lia)
  refine eEAA (frz_at (tk := s.toks) R hk hg h4) ?_; rintro hb' X2 R2 hr
  exact k _ _ _ _ X2 R2 hr
theorem fn_list_rng {m : Nat} (hm : m ≤ 1000) : FN w n (.val (.type "list")) [.rng 0 (m : Int)] [] μ (.lst (natL (List.range m))) μ := fun A hb ρ s fv vs kvs Q E rm R hf hvs hks k => by
  obtain rfl := VRel.val_inv hf; obtain rfl := hks.inv0
  refine eEA hvs.inv1 ?_; rintro _ rfl h1
  refine eEEEEA h1.rng_inv ?_; rintro r t u kk rfl hr
  have hsz : Builtin.Range.rangeSize 0 (m : Int) 1 = (m : Int) := by
    unfold Builtin.Range.rangeSize
    rw [if_pos (by decide)]
    split <;> lia
  have hsm : Builtin.Range.small 0 (m : Int) 1 = true := by
    unfold Builtin.Range.small
    rw [hsz]
    unfold Builtin.Range.rangeFitsLong
    simp only [Bool.and_eq_true, Bool.or_eq_true, decide_eq_true_eq, beq_iff_eq]
    rw [if_pos (by decide)]
    simp only [Bool.and_eq_true, decide_eq_true_eq]
    lia
  refine call_list_range rm.1 (R.keep _ _ hr) hsm hsz (by lia) fun h' tk acc' c' hk hg hacc => ?_
  have hv : VRels w hb ρ (natL (List.range m)) acc'.toList := by
    have hl : acc'.toList.length = m := by rw [Array.length_toList]; exact hacc.1
    have : ∀ (vs : List Value) (i : Nat), (∀ j v, vs[j]? = some v → ∃ t, v = Value.int ((i + j : Nat) : Int) t) → VRels w hb ρ (natL (List.range' i vs.length)) vs := fun vs => by
      induction vs with
      | nil => exact fun i _ => .nil
      | cons v vs ih =>
        intro i hi
        obtain ⟨t, rfl⟩ := hi 0 v rfl
        refine VRels.cons (xs := natL (List.range' (i + 1) vs.length)) (VRel.int _ t) (ih (i + 1) fun j v hv => ?_)
        have := hi (j + 1) v hv
        rwa [show i + (j + 1) = i + 1 + j by lia] at this
    have h2 := this acc'.toList 0 fun j v hv => by
      obtain ⟨t, e⟩ := hacc.2 j v (by simpa using hv)
      have e2 : (0 : Int) + (j : Int) * 1 = ((0 + j : Nat) : Int) := by lia
      exact ⟨t, by rw [e, e2]⟩
    rwa [hl, ← List.range_eq_range'] at h2
  refine eEAA (frz_at (tk := tk) (vs := acc'.toList) R hk (by simpa using hg) hv) ?_; rintro hb' X2 R2 hr'
  exact k _ _ _ _ X2 R2 hr'
end
section
variable {w : World} {n : Nat} {env : Env} {σ σ1 σ2 σ3 : St} {pos : Pos} {hb hb' h : Heap} {ρ : List Addr} {s : Shared} {μ μ' : List Cell} {a b c : AV} {l : List AV}
theorem o_nin_bool {b x y : Bool} : OI w n (compareOp .NotIn) (.bool b) (.tup [.bool x, .bool y]) μ (.bool (!(x == b || y == b))) := fun A hb ρ s v u Q E rm R hv hu k => by
  obtain rfl := VRel.bool_inv hv
  refine eEEAA hu.tup_inv ?_; rintro ta vs rfl h1 h2
  refine eEEAA h2.inv2 ?_; rintro _ _ rfl e1 e2
  obtain rfl := VRel.bool_inv e1; obtain rfl := VRel.bool_inv e2
  refine PySem.SeqAt.notIn_tupleAt (fun v => match v with | .bool z => z == b | _ => false) (h1.keeps R.keep) (fun v hv => ?_) ?_
  · have : v = Value.bool x ∨ v = Value.bool y := by simpa using hv
    rcases this with rfl | rfl <;> exact PySem.SeqAt.EqAt.bool_bool _ _
  · refine k _ _ _ _ .refl R ?_
    have : ([Value.bool x, Value.bool y].toArray.any fun v => match v with | .bool z => z == b | _ => false) = (x == b || y == b) := by simp
    rw [this]; exact .bool _
theorem o_starts {z : Str} {pl : Sem Bool} : O1 w n (fun v => getMethod v "startswith" pl) (.str z) μ (fun hb ρ u => VRel w hb ρ (.val (.builtin "str.startswith")) u.1 ∧ VRels w hb ρ [.str z] u.2) μ := o_bmeth ty_str F.plainAttrs_str F.slot_str_startswith F.type_str_startswith
theorem fn_starts {x y : Str} : FN w n (.val (.builtin "str.startswith")) [.str x, .str y] [] μ (.bool (Txt.startswith x y)) μ := fun A hb ρ s fv vs kvs Q E rm R hf hvs hks k => by
  obtain rfl := VRel.val_inv hf; obtain rfl := hks.inv0
  refine eEEAA hvs.inv2 ?_; rintro _ _ rfl h1 h2
  obtain ⟨t, rfl⟩ := h1.str_inv
  obtain ⟨u, rfl⟩ := h2.str_inv
  exact call_gives F.slot_str_startswith (typeIs_str _ _ _) F.entry_str_startswith (F.args_str_startswith_2 _ _) (gives_str_startswith x y t u) (k _ _ _ _ .refl R (.bool _))
end
section
variable {w : World} {n : Nat} {env : Env} {σ σ1 σ2 σ3 : St} {pos : Pos} {μ μ' : List Cell} {a b c : AV} {vs : List AV} {k : Nat}
theorem o_cands : O1 w n (fun v => getAttr v "candidates" true) (.prof k vs) μ (fun hb ρ v => VRel w hb ρ (.lst (natL (List.range k))) v) μ := o_own rfl rfl (by k_is) (by k_is) (by k_is) (by k_is)
theorem o_voters : O1 w n (fun v => getAttr v "_voters" true) (.prof k vs) μ (fun hb ρ v => VRel w hb ρ (.lst vs) v) μ := o_own rfl rfl (by k_is) (by k_is) (by k_is) (by k_is)
theorem natL_length (l : List Nat) : (natL l).length = l.length := List.length_map ..
theorem f_numcand (hz : k ≤ 1000) : FC w (n + 1) (.val (.ref 482)) [.prof k vs] [] μ (.int k) μ := by
  refine fc_plain ⟨_, _, _, by k_is⟩ (by k_is) rfl rfl (hb1_ fun _ => by rfl) (by rfl) (by rfl) (fun L => ?_)
  have hl : (natL (List.range k)).length = k := by rw [natL_length, List.length_range]
  refine sxx_stop (ss_return (se_call (se_builtin b_len (by rfl) (by decide)) kept_builtin (scN (se_attr (seL rfl) o_cands) snN) (fn_len_list rfl (by rw [hl]; lia)))) ⟨?_, rfl⟩
  show AV.int _ = AV.int _
  rw [hl]
theorem f_plen (hz : vs.length ≤ 1000) : FC w (n + 1) (.val (.ref 497)) [.prof k vs] [] μ (.int vs.length) μ := by
  refine fc_plain ⟨_, _, _, by k_is⟩ (by k_is) rfl rfl (hb1_ fun _ => by rfl) (by rfl) (by rfl) (fun L => ?_)
  exact sxx_stop (ss_return (se_call (se_builtin b_len (by rfl) (by decide)) kept_builtin (scN (se_attr (seL rfl) o_voters) snN) (fn_len_list rfl (by lia)))) ⟨rfl, rfl⟩
theorem o_numcand (hz : k ≤ 1000) : O1 w (n + 2) (fun v => getAttr v "num_cand" true) (.prof k vs) μ (fun hb ρ v => VRel w hb ρ (.int k) v) μ := o_prop rfl (by k_is) (by k_is) (by k_is) (by k_is) (by k_is) (by k_is) (f_numcand hz) rfl
variable {S : List Nat} {wt : Int}
theorem o_approved : O1 w n (fun v => getAttr v "approved" true) (.voter S wt) μ (fun hb ρ v => VRel w hb ρ (.set S) v) μ := o_own rfl rfl (by k_is) (by k_is) (by k_is) (by k_is)
theorem o_weight : O1 w n (fun v => getAttr v "weight" true) (.voter S wt) μ (fun hb ρ v => VRel w hb ρ (.int wt) v) μ := o_own rfl rfl (by k_is) (by k_is) (by k_is) (by k_is)
theorem fn_len_prof (hz : vs.length ≤ 1000) : FN w (n + 2) (.val (.builtin "len")) [.prof k vs] [] μ (.int vs.length) μ := fun A hb ρ s fv us kvs Q E rm R hf hvs hks kk => by
  obtain rfl := VRel.val_inv hf; obtain rfl := hks.inv0
  refine eEA hvs.inv1 ?_; rintro _ rfl h1
  refine eEEEA R.frame ?_; rintro h₀ L m F X₀
  refine eEEEEAAA (inst_of R h1 rfl) ?_; rintro x dx es q rfl g1 g2 g3
  have I : InstAt s.heap x (instObj 584 dx) 584 (some (dictOf es q)) := ⟨g1, rfl, rfl, g2⟩
  refine len_K F X₀ I (f := 497) (by k_is) (by k_is) ((f_plen (k := k) hz).fn A.in1 hb ρ s _ _ _ _ _ rm.in1 R (.val _) (.cons h1 .nil) .nil fun hb' ρ' s' r X' R' h' => ?_)
  obtain ⟨_, rfl⟩ := VRel.int_inv h'
  exact ⟨⟨Int.natCast_nonneg _, by lia⟩, kk _ _ _ _ (X'.trans (Ext.toks _)) (R'.toks _) (.int _ _)⟩
end
section
variable {w : World} {n : Nat} {A : Around} {E : Value → Shared → Prop} {s : Shared} {μ μ' : List Cell} {a b c : AV} {C x f L : Addr} {h₀ : Heap} {m : Str → Option Value} {ox : Obj} {od : Option Obj} {K : Frag}
theorem iadd_object : typeLookup (.type "object") (dunderI "add") = pure none := by rw [typeLookup_type, builtinLookup_eq_fast]; kernel_rfl
theorem noInplace {M : Model} {h : Heap} {cd : ClassData} (X : K.In h) (hc : clsIn K C = some cd) (hm : cd.mro = [.ref C, .type "object"]) (hs : findIn K (.ref C) (dunderI "add") = some none) : Looks M h (fillsInplaceSlot (.ref C) "add" true) false := by
  intro A Q E s k q
  unfold fillsInplaceSlot
  refine wpAny_bind ((looks_clsIn X hc).andThen (f := fun cd => pure cd.mro) .now A _ E s k ?_)
  rw [hm, List.anyM_cons]
  refine wpAny_bind (wpAny_bind (looks_findIn X hs A _ E s k ?_))
  refine wpAny_pure ?_
  simp only [Bool.false_eq_true, if_false]
  rw [List.anyM_cons]
  refine wpAny_bind (wpAny_bind (wpAny_of_eq iadd_object (wpAny_pure ?_)))
  first | exact q | exact wpAny_pure q | (refine wpAny_pure ?_; exact q) | (simp only [List.anyM_nil, Bool.false_eq_true, if_false]; exact wpAny_pure q) | (show wpAny _ _ (List.anyM _ []) _ _ _; exact wpAny_pure q)
theorem inplace_K {b : Value} {Q : Value → Shared → Prop} {cd : ClassData} (F : Fr h₀ L s.heap m) (X₀ : K.In h₀) (I : InstAt s.heap x ox C od) (hb : Looks (model PRG w) s.heap (typeOf b) (.ref C)) (hc : clsIn K C = some cd) (hm : cd.mro = [.ref C, .type "object"])
    (hno : findIn K (.ref C) (dunderI "add") = some none) (hs : findIn K (.ref C) (PySem.dunder "add") = some (some (.ref f))) (hf : isFn K (.ref f) = true)
    (h : wpAny (model PRG w) A (call (.ref f) [.ref x, b]) (PySem.W.CmpBack Q) E s) : wpAny (model PRG w) A (inplaceOp .Add (.ref x) b) Q E s := by
  have X := X₀.keeps F.keep
  unfold inplaceOp
  refine wpAny_holding (wpAny_bind (I.type.here ?_))
  refine wpAny_bind ((noInplace X hc hm hno).here ?_)
  refine wpAny_ite_false rfl ?_
  refine wpAny_bind (m := binaryOp1 _ _ _) ?_
  unfold binaryOp1
  refine wpAny_bind (I.type.here (wpAny_bind (hb.here (wpAny_bind ((fills_K X hc hm hs).here ?_)))))
  refine wpAny_ite_true (decide_eq_true (beq_self_eq_true _)) (wpAny_bind (wpAny_pure (wpAny_ite_false rfl (wpAny_ite_false rfl (wpAny_ite_false rfl (wpAny_bind (wpAny_pure (wpAny_ite_false rfl (wpAny_ite_true rfl ?_)))))))))
  refine wpAny_bind (m := tryMethod (.ref x) _ b) ?_
  unfold tryMethod
  refine wpAny_bind (special_fn X I hs (beq_iff_eq.mp hf) (wpAny_mono h (fun v s' hv => ?_) fun _ _ e => e))
  cases v <;> first | exact hv.elim | exact wpAny_pure (wpAny_pure (wpAny_pure hv))
theorem cls_frac_k : ∃ oc od osl cd, (Internal.hd.heap_1 w.params).lookup 194 = some ⟨oc, od, .cls cd, osl⟩ ∧ cd.mro = [.ref 194, .type "object"] := ⟨_, _, _, _, by k_is, rfl⟩
theorem noi_frac : findIn (Internal.hd.heap_1 w.params) (.ref 194) (dunderI "add") = some none := by k_is
theorem o_iaddK {p1 p2 : Int} {q1 q2 : Nat} {c : AV} (h : FN w n (.val (.ref 107)) [.frac p1 q1, .frac p2 q2] [] μ c μ') (hk : c.known = true) : O2 w n (inplaceOp .Add) (.frac p1 q1) (.frac p2 q2) μ (fun hb ρ v => VRel w hb ρ c v) μ' := fun A hb ρ s v u Q E rm R hv hu k => by
  refine eEEEA R.frame ?_; rintro h₀ L m F X₀
  refine eEEEEAAA (inst_of R hv rfl) ?_; rintro x dx es p rfl h1 h2 h3
  refine eEEEEAAA (inst_of R hu rfl) ?_; rintro y dy es' p' rfl g1 g2 g3
  have I : InstAt s.heap x (instObj 194 dx) 194 (some (dictOf es p)) := ⟨h1, rfl, rfl, h2⟩
  have J : InstAt s.heap y (instObj 194 dy) 194 (some (dictOf es' p')) := ⟨g1, rfl, rfl, g2⟩
  refine eEEEEA (cls_frac_k (w := w)) ?_; rintro oc od osl cd q1 q2
  have hcl : clsIn (Internal.hd.heap_1 w.params) 194 = some cd := by unfold clsIn; rw [q1]
  exact inplace_K F X₀ I J.type hcl q2 noi_frac (by k_is) (by k_is) (h A hb ρ s _ _ _ _ _ rm R (.val _) (.cons hv (.cons hu .nil)) .nil fun _ _ _ _ X' R' h' => h'.cmpBack hk (k _ _ _ _ X' R' h'))
theorem o_fr_iadd {G : Nat} {M1 M2 : Int} (h : 0 < G) (hz : G < 10000) : OI w (n + 3) (inplaceOp .Add) (fr G M1) (fr G M2) μ (fr G (M1 + M2)) := by
  rw [← fr_sum h]
  have l1 := de_le (G := G) (M := M1)
  have l2 := de_le (G := G) (M := M2)
  have hm : de G M1 * de G M2 ≤ 10000 * 10000 := Nat.mul_le_mul (by lia) (by lia)
  exact o_iaddK (frac_add (small_r (by lia)) (small_r (by lia)) (small_r (by lia)) (Nat.mul_pos (de_pos h) (de_pos h)) (by lia)).fn rfl
end
section
variable {w : World} {n : Nat} {μ μ' : List Cell} {xs : List Nat}
theorem fn_set_set : FN w (n + 2) (.val (.type "set")) [.set xs] [] μ (.set xs) μ := fun A hb ρ s fv vs kvs Q E rm R hf hvs hks k => by
  obtain rfl := VRel.val_inv hf; obtain rfl := hks.inv0
  refine eEA hvs.inv1 ?_; rintro _ rfl h1
  obtain ⟨sa, rfl, hx, ts, ep, fin, mov, ho⟩ := h1.set_inv
  have ho' := R.keep _ _ ho
  refine call_set fun A' E' Q' hA1 hA2 hA3 hQ => ?_
  have hne : s.heap.objs.size ≠ sa := Ne.symm (Nat.ne_of_lt (Heap.lt_size ho'))
  unfold Builtin.Frozenset.updateFrom
  refine wpAny_bind (any_set (Heap.get?_push_of_some _ ho') ?_)
  rw [if_pos rfl]
  refine wpAny_bind (wpAny_pure ?_)
  unfold Builtin.Frozenset.merge
  refine wpAny_bind (wpAny_setEpoch_of (Heap.get?_push_of_some _ ho') rfl (set_fits hx) ?_)
  refine merge_raw hx (Heap.get?_push_size _ rfl) (Heap.get?_push_of_some _ ho') hne fun h' ts' ep' g1 g2 => ?_
  refine eEAA (set_new R hx g1 g2) ?_; rintro hb' X2 R2 h2
  exact hQ _ (k _ _ _ _ X2 R2 h2)
end
section
variable {w : World} {n : Nat} {μ μ' : List Cell} {i : Int}
theorem o_isnot_nn : OI w n (compareOp .IsNot) .none .none μ (.bool false) := fun A hb ρ s v u Q E rm R hv hu k => by
  obtain rfl := VRel.none_inv hv; obtain rfl := VRel.none_inv hu; exact wpAny_isNot_self rfl (k _ _ _ _ .refl R (.bool _))
theorem o_isnot_in : OI w n (compareOp .IsNot) (.int i) .none μ (.bool true) := fun A hb ρ s v u Q E rm R hv hu k => by
  obtain ⟨t, rfl⟩ := hv.int_inv
  obtain rfl := VRel.none_inv hu
  exact wpAny_isNot_other rfl (by intro e; cases e) (k _ _ _ _ .refl R (.bool _))
theorem o_is_nn : OI w n (compareOp .Is) .none .none μ (.bool true) := fun A hb ρ s v u Q E rm R hv hu k => by
  obtain rfl := VRel.none_inv hv; obtain rfl := VRel.none_inv hu; exact wpAny_is_self rfl (k _ _ _ _ .refl R (.bool _))
end
section
variable {w : World} {n : Nat} {env : Env} {σ σ1 σ2 σ3 : St} {pos : Pos} {μ μ' : List Cell} {a b c : AV} {vs : List AV} {k : Nat}
variable {fs : List (Str × Option AV)} {algs : List Str} {z : Str} {r x y : Bool} {ci : Int}
theorem f_verify (ei : a.inst μ = some (362, fs)) (h1 : List.lookup ("algorithms" : Str) fs = some (some (AV.tup (strL algs)))) (h2 : List.lookup ("resolute_values" : Str) fs = some (some (AV.tup [.bool x, .bool y])))
    (hc : 1 ≤ ci ∧ ci ≤ k) (hk : k ≤ 1000) (hv : vs ≠ [] ∧ vs.length ≤ 1000) (ha : algs.any (· == z) = true) (hr : (x == r || y == r) = true) :
    FC w (n + 3) (.val (.ref 359)) [a] [("profile", .prof k vs), ("committeesize", .int ci), ("algorithm", .str z), ("resolute", .bool r), ("max_num_of_committees", .none)] μ .none μ := by
  refine fc_plain ⟨_, _, _, by k_is⟩ (by k_is) rfl rfl (hbD rfl (by k_is) fun hb ρ us kvs hv hk => ?_) (bl := [("self", a), ("profile", .prof k vs), ("committeesize", .int ci), ("algorithm", .str z), ("resolute", .bool r), ("max_num_of_committees", .none)]) (by rfl) (by rfl) (fun L => ?_)
  · refine eEA hv.inv1 ?_; rintro _ rfl h1
    obtain ⟨_, _, _, _, _, rfl, g1, g2, g3, g4, g5⟩ := hk.inv5
    exact ⟨_, _, by rfl, by rfl, .cons h1 (.cons g1 (.cons g2 (.cons g3 (.cons g4 (.cons g5 .nil)))))⟩
  refine sxx_ifNe (sb_cmp (seL rfl) se_int o_lt) (by rw [decide_eq_false_iff_not]; lia) ?_
  refine sxx_ifNe (sb_cmp (seL rfl) (se_attr (seL rfl) (o_numcand hk)) o_gt) (by rw [decide_eq_false_iff_not]; lia) ?_
  refine sxx_ifNe (sb_cmp (se_call (se_builtin b_len (by rfl) (by decide)) kept_builtin (scN (seL rfl) snN) (fn_len_prof hv.2)) se_int o_eq) (by rw [beq_eq_false_iff_ne]; have := List.length_pos_iff.mpr hv.1; lia) ?_
  refine sxx_ifNe (sb_cmp (seL rfl) (se_attr (seL rfl) (o_own ei h1 (by k_is) (by k_is) (by k_is) (by k_is))) o_nin_strT) (by rw [ha]; rfl) ?_
  refine sxx_ifNe (sb_cmp (seL rfl) (se_attr (seL rfl) (o_own ei h2 (by k_is) (by k_is) (by k_is) (by k_is))) o_nin_bool) (by rw [hr]; rfl) ?_
  refine sxx_ifN (sb_or_f (sb_and_f (sb_cmp (seL rfl) se_none o_isnot_nn)) (sb_or_f (sb_and_f (sb_cmp (seL rfl) se_none o_isnot_nn)) sb_or_nil)) ?_
  refine sxx_ifN (sb_and_f (sb_cmp (seL rfl) se_none o_isnot_nn)) ?_
  exact sxx_nil ⟨rfl, rfl⟩
end
section
variable {w : World} {n : Nat} {env : Env} {σ σ1 σ2 σ3 : St} {pos : Pos} {μ μ' : List Cell} {a b c : AV} {vs : List AV} {k : Nat}
variable {fs : List (Str × Option AV)} {algs : List Str} {z : Str} {r x y : Bool} {ci : Int}
theorem o_ltF {i j : Int} (h : ¬ i < j) : OI w n (compareOp .Lt) (.int i) (.int j) μ (.bool false) := by have := o_lt (w := w) (n := n) (μ := μ) (i := i) (j := j); rwa [decide_eq_false h] at this
theorem f_verifyM {m : Int} (hm : 1 ≤ m) (ei : a.inst μ = some (362, fs)) (h1 : List.lookup ("algorithms" : Str) fs = some (some (AV.tup (strL algs)))) (h2 : List.lookup ("resolute_values" : Str) fs = some (some (AV.tup [.bool x, .bool y])))
    (hc : 1 ≤ ci ∧ ci ≤ k) (hk : k ≤ 1000) (hv : vs ≠ [] ∧ vs.length ≤ 1000) (ha : algs.any (· == z) = true) (hr : (x == false || y == false) = true) :
    FC w (n + 3) (.val (.ref 359)) [a] [("profile", .prof k vs), ("committeesize", .int ci), ("algorithm", .str z), ("resolute", .bool false), ("max_num_of_committees", .int m)] μ .none μ := by
  refine fc_plain ⟨_, _, _, by k_is⟩ (by k_is) rfl rfl (hbD rfl (by k_is) fun hb ρ us kvs hv hk => ?_) (bl := [("self", a), ("profile", .prof k vs), ("committeesize", .int ci), ("algorithm", .str z), ("resolute", .bool false), ("max_num_of_committees", .int m)]) (by rfl) (by rfl) (fun L => ?_)
  · refine eEA hv.inv1 ?_; rintro _ rfl h1
    obtain ⟨_, _, _, _, _, rfl, g1, g2, g3, g4, g5⟩ := hk.inv5
    exact ⟨_, _, by rfl, by rfl, .cons h1 (.cons g1 (.cons g2 (.cons g3 (.cons g4 (.cons g5 .nil)))))⟩
  refine sxx_ifNe (sb_cmp (seL rfl) se_int o_lt) (by rw [decide_eq_false_iff_not]; lia) ?_
  refine sxx_ifNe (sb_cmp (seL rfl) (se_attr (seL rfl) (o_numcand hk)) o_gt) (by rw [decide_eq_false_iff_not]; lia) ?_
  refine sxx_ifNe (sb_cmp (se_call (se_builtin b_len (by rfl) (by decide)) kept_builtin (scN (seL rfl) snN) (fn_len_prof hv.2)) se_int o_eq) (by rw [beq_eq_false_iff_ne]; have := List.length_pos_iff.mpr hv.1; lia) ?_
  refine sxx_ifNe (sb_cmp (seL rfl) (se_attr (seL rfl) (o_own ei h1 (by k_is) (by k_is) (by k_is) (by k_is))) o_nin_strT) (by rw [ha]; rfl) ?_
  refine sxx_ifNe (sb_cmp (seL rfl) (se_attr (seL rfl) (o_own ei h2 (by k_is) (by k_is) (by k_is) (by k_is))) o_nin_bool) (by rw [hr]; rfl) ?_
  refine sxx_ifN (sb_or_f (sb_and_t (sb_cmp (seL rfl) se_none o_isnot_in) (sb_and_f (sb_not (sb_isi (seL rfl) (se_builtin b_int (by rfl) (by decide)) isi_int_int)))) (sb_or_f (sb_and_t (sb_cmp (seL rfl) se_none o_isnot_in) (sb_and_f (sb_cmp (seL rfl) se_int (o_ltF (by lia))))) sb_or_nil)) ?_
  refine sxx_ifN (sb_and_t (sb_cmp (seL rfl) se_none o_isnot_in) (sb_and_f (sb_plain (seL rfl) t_bool))) ?_
  exact sxx_nil ⟨rfl, rfl⟩
end
noncomputable def ATop (n : Nat) : Around := { handled := none, depth := 699 - n, frames := none, guards := none, units := 7999 - 20 * n }
theorem wpAny_top {M : Model} {α : Type} {t : Sem α} {Q : α → Shared → Prop} {E : Value → Shared → Prop} {s : Shared} {n : Nat} {A : Around} (rm : Room n A) (h : wpAny M (ATop n) t Q E s) : wpAny M A t Q E s := fun Γ p hΓ =>
  h Γ p ⟨hΓ.1.trans rm.1, by have := hΓ.2.1; have := rm.2.1; show _ ≤ 699 - n; omega, fun l e => (by cases e), fun l e => (by cases e), by have := hΓ.2.2.2.2; have := rm.2.2; show _ ≤ 7999 - 20 * n; omega⟩
section
variable {prog : Program} {w : World} {A : Around} {R : GenEnd} {Y : Protocol} {n : Nat} {s₀ s : Shared} {fs : List Frame} {env : Env} {c : Code}
abbrev aft (K : Flow → Sem Fin) (H : Value → Sem Fin) (gd : Bool → Bool) (lv : List Value → List Value) (env : Env) (r : Result) : Sem Fin :=
  ((match r with | .ok f => (.pure f : Sem Flow) | .error e => .raise e).onRaise fun (x : Value) => do
        if (← field x 1) == Value.none then unsupported "frame.own-activation:exception-without-traceback"
        setFlight x env.frame).wrap K H gd lv
theorem seg_For {M : Model} {K : Flow → Sem Fin} {H : Value → Sem Fin} {gd : Bool → Bool} {lv : List Value → List Value} {target iter : Expr} {body orelse : List Stmt} {pos : Pos} (hs : ∀ x, foldedSetIterable iter env x = pure x)
    (h : wpAny M (A.over c fs) (eval iter env) (fun xv s₁ => wpAny M (A.over c fs) (pyIter xv) (fun it s₂ => ∀ p, Seg M A R Y n s₀ (.forLoop target it body orelse env) (M.den (.forLoop target it body orelse env))
      (.ret (aft K H gd lv env) none (gd false) (lv []) c p [] :: fs) s₂) (fun _ _ => False) s₁) (fun _ _ => False) s) :
    Seg M A R Y n s₀ c ((exec (.For target iter body orelse pos) env).wrap K H gd lv) fs s := by
  rw [exec_For]
  refine seg_bind_wrap (wpAny_standAt ?_)
  refine seg_bind_wrap (wpAny_mono h (fun xv s₁ h₁ => ?_) fun _ _ e => e.elim)
  refine seg_bind_wrap (wpAny_of_eq (hs xv) ?_)
  refine seg_bind_wrap (wpAny_standAt ?_)
  refine seg_bind_wrap (wpAny_holding (wpAny_mono h₁ (fun it s₂ h₂ => ?_) fun _ _ e => e.elim))
  exact seg_call h₂
abbrev nxt (target : Expr) (it : Value) (body orelse : List Stmt) (env : Env) (f : Flow) : Sem Fin := match f with
  | .next | .cont => .pure (.again (.forLoop target it body orelse env))
  | .brk => .pure (.done .next)
  | .ret v => .pure (.done (.ret v))
theorem seg_forLoop {target : Expr} {it : Value} {body : List Stmt}
    (h : wpAny (model prog w) (A.over (.forLoop target it body [] env) fs) (pyNext it) (fun r s' => match r with
      | none => Seg (model prog w) A R Y n s₀ (.block [] env) (leafOf (.ok .next)) fs s'
      | some v => wpAny (model prog w) (A.over (.forLoop target it body [] env) fs) (letOwnedTupleGo target it v) (fun _ s₁ => wpAny (model prog w) (A.over (.forLoop target it body [] env) fs) (assign target env v) (fun _ s₂ =>
          ∀ H, Seg (model prog w) A R Y n s₀ (.forLoop target it body [] env) ((execs body env).wrap (nxt target it body [] env) H id id) fs s₂) (fun _ _ => False) s₁) (fun _ _ => False) s') (fun _ _ => False) s) :
    Seg (model prog w) A R Y n s₀ (.forLoop target it body [] env) ((model prog w).den (.forLoop target it body [] env)) fs s := by
  show Seg _ A R Y n s₀ _ ((forTurn target it body [] env).onRaise (fun x => do noteFrame x env; theTreesLotGoes x)) fs s
  unfold forTurn
  rw [Sem.onRaise_eq_wrap]
  refine seg_bind_wrap (wpAny_standAt ?_)
  refine seg_bind_wrap (wpAny_onRaise (wpAny_mono h (fun r s₁ h₁ => ?_) fun _ _ e => e.elim))
  cases r with
  | none =>
    refine seg_again rfl ?_
    show Seg _ A R Y n s₀ _ (do return Fin.done (← (execs [] env).onRaise (fun x => do noteFrame x env; theTreesLotGoes x))) fs s₁
    exact h₁
  | some v =>
    refine seg_bind_wrap (wpAny_mono h₁ (fun _ s₂ h₂ => ?_) fun _ _ e => e.elim)
    refine seg_bind_wrap (wpAny_mono h₂ (fun _ s₃ h₃ => ?_) fun _ _ e => e.elim)
    rw [Sem.bind_eq_wrap', Sem.wrap_wrap]
    rw [Sem.wrap_congr (execs body env) _ _ (K' := nxt target it body [] env) (H' := _) (fun f => by cases f <;> rfl) (fun e => rfl)]
    exact h₃ _
end
section
variable {w : World} {A : Around} {E : Value → Shared → Prop} {s : Shared}
theorem pyNext_gen {a : Addr} {g n : Nat} {gs : GenState} {P : Nat → Shared → Shared → Prop} {Y : Protocol} {Q : Option Value → Shared → Prop} (hh : A.handled = none)
    (hl : s.heap.NoLimit) (hroom : A.depth < recursionLimit) (hg : s.heap.IsGen a g) (hgs : s.gens[g]? = some gs)
    (hgo : gs.Goes (model PRG w) A.in1 (fun n s₀ r s₁ => (r = .ok .next ∨ r = .ok (.ret .none)) ∧ P n s₀ s₁) Y n (.send .none) (s.setGen g .running))
    (hY : ∀ v s₁ gs', gs'.bare = true → Y (n - 1) (s.setGen g .running) v s₁ (fun r' s'' => match n with
        | 0 => False
        | m + 1 => gs'.Goes (model PRG w) A.in1 (fun n s₀ r s₁ => (r = .ok .next ∨ r = .ok (.ret .none)) ∧ P n s₀ s₁) Y m r' s'') → Q (some v) (s₁.setGen g gs'))
    (hP : ∀ s₁, P n (s.setGen g .running) s₁ → ∀ h', (∀ b o, s₁.heap.get? b = some o → h'.get? b = some o) → Q none { s₁.setGen g .finished with heap := h' }) :
    wpAny (model PRG w) A (pyNext (.ref a)) Q E s := by
  unfold pyNext
  refine wpAny_bind (wpAny_attempt (wpAny_callSpecial?_slot (name := Str.ofString "__next__") hg.typeIs slot_gen_next
    (wpAny_call_entry slot_gen_next hg.typeIs entry_gen_next ?_ (args_gen_next _))))
  show wpAny _ A.in1 (Builtin.Generator.genWake (.ref a) (.send .none)) _ _ s
  unfold Builtin.Generator.genWake
  refine wpAny_bind (wpAny_holding (wpAny_genNumber hg (wpAny_bind (wpAny_genState hgs ?_))))
  cases gs with
  | running => exact hgo.elim
  | finished => exact hgo.elim
  | _ =>
    refine wpAny_bind (wpAny_roomToWake hl hroom ?_)
    show wpAny _ A.in1 (.resume g (.send .none) [] _) _ _ s
    refine wpAny_resumeQ hgs hgo (fun x s₁ hx => ?_) (fun v s₁ gs' hb hv => ?_)
    · obtain ⟨hx, hp⟩ := hx
      rcases hx with rfl | rfl <;>
      · show wpAny _ A.in1 (newExc (.type "StopIteration") [] >>= _) _ _ _
        refine wpAny_bind ?_
        simp only [newExc, newTuple]
        refine wpAny_bind (wpAny_newObj_type ?_ (by size_fits))
        refine wpAny_bind (m := firstArgMember _ _) (wpAny_of_eq (a := Value.none) (by first | rfl | (simp only [firstArgMember]; rfl)) ?_)
        refine wpAny_newObj_type ?_ (by size_fits)
        simp only [raiseNew]
        refine wpAny_bind (wpAny_bind (wpAny_handled ?_))
        first | rw [show A.in1.handled = none from hh] | rw [hh]
        refine wpAny_throw ?_
        refine wpAny_bind (wpAny_isInstance (T := "StopIteration") (b := true) ⟨_, Heap.get?_push_size _ rfl, rfl⟩ isSubtype_stop ?_)
        exact wpAny_pure (hP s₁ hp _ fun b o hb => Heap.get?_push_of_some _ (Heap.get?_push_of_some _ hb))
    · exact wpAny_pure ⟨v, rfl, wpAny_pure (hY v s₁ gs' hb hv)⟩
end
structure ItD (w : World) (n : Nat) (hb0 : Heap) (ρ0 : List Addr) (G : List Nat) (it : Value) (xs : List AV) (ob : Nat → List Nat → Shared → Prop) : Prop where
  stable : ∀ i P s s', ob i P s → (∀ b o, b ∈ P → s.heap.get? b = some o → s'.heap.get? b = some o) → (∀ (j : Nat) (g : GenState), j ∈ G → s.gens[j]? = some g → s'.gens[j]? = some g) → ob i P s'
  next : ∀ (A : Around) (hb : Heap) (ρ : List Addr) (s : Shared) (μ : List Cell) (i : Nat) (P : List Nat) (Q : Option Value → Shared → Prop) (E : Value → Shared → Prop), Room n A → hb0.StaysIn hb → ρ0 <+: ρ → RelM w hb ρ s μ → ob i P s →
    (∀ x, xs[i]? = some x → ∀ s' v P', Moved P G s s' → (∀ b ∈ P', (b ∈ P ∨ Dead s.heap b) ∧ Live s'.heap b) → (∀ b ∈ P, b ∈ P') → ob (i + 1) P' s' → VRel w hb ρ x v → Q (some v) s') →
    (xs[i]? = none → ∀ s', Moved P G s s' → Q none s') → wpAny (model PRG w) A (pyNext it) Q E s
noncomputable def IterD (w : World) (n : Nat) (a : AV) (μ : List Cell) (xs : List AV) : Prop :=
  ∀ (A : Around) (hb : Heap) (ρ : List Addr) (s : Shared) (v : Value) (Q E : Value → Shared → Prop), Room n A → RelM w hb ρ s μ → VRel w hb ρ a v →
    (∀ it P G ob s', Ext [] hb ρ s hb ρ s' → RelM w hb ρ s' μ → ItD w n hb ρ G it xs ob → ob 0 P s' → (∀ b ∈ P, Dead s.heap b ∧ Live s'.heap b) → (∀ g ∈ G, s.gens[g]? = none) → Q it s') → wpAny (model PRG w) A (pyIter v) Q E s
section
variable {w : World} {n : Nat} {env : Env} {σ σ1 σ2 σ3 : St} {pos : Pos} {hb hb' hb1 hb2 : Heap} {ρ ρ' ρ1 ρ2 : List Addr} {s s' s1 s2 : Shared} {μ μ' : List Cell} {a b c : AV} {X P G : List Nat}
theorem Ext.moved (x : Ext X hb ρ s hb' ρ' s') (m : Moved P G s' s2) (hP : ∀ b ∈ P, Dead s.heap b) (hG : ∀ g ∈ G, s.gens[g]? = none) : Ext X hb ρ s hb' ρ' s2 :=
  { base := x.base, pre := x.pre, fresh := x.fresh, freshR := x.freshR, keep := fun b o e h1 h2 h3 => m.keep b o (x.keep b o e h1 h2 h3) (fun q => nd' e (hP b q)), live := fun b h => m.live b (fun q => nd h (hP b q)) (x.live b h), gens := fun i g e => m.gens i g (x.gens i g e) (fun q => by rw [hG i q] at e; cases e), os := m.os.trans x.os }
theorem ssx_forD {tg iterE : Expr} {body : List Stmt} {α : Type} {mk : Nat → α → St} {Inv : Nat → α → Prop} {xs : List AV} (h : SE w n env iterE σ a σ1) (hi : IterD w n a σ1.mem xs) (p0 : α) (h0 : Inv 0 p0) (hle : (mk 0 p0).le σ1)
    (step : ∀ i p y, xs[i]? = some y → Inv i p → ∃ σ2, TGT w env tg y (mk i p) σ2 ∧ SXX w n env body σ2 fun σ' af => af = .next ∧ ∃ p', Inv (i + 1) p' ∧ (mk (i + 1) p').le σ')
    (ht : autoParam (∀ it v, letOwnedTupleGo tg it v = pure ()) auI) (hs : autoParam (∀ x, foldedSetIterable iterE env x = pure x) auI) :
    SSX w n env (.For tg iterE body [] pos) σ fun σ' af => af = .next ∧ ∃ p, Inv xs.length p ∧ σ' = mk xs.length p := fun A hb ρ s Q E rm R k => by
  refine wpAny_For (h _ _ _ _ _ _ rm R fun hb1 ρ1 s1 v X1 R1 h1 => ?_) hs
  refine hi _ _ _ _ _ _ _ rm R1.m h1 fun it P0 G ob s2 X2 M2 It o2 hP hG => ?_
  have R2 : RelE w hb1 ρ1 env s2 σ1 := R1.step X2 M2
  have X12 : Ext (fp env) hb ρ s hb1 ρ1 s2 := X1.trans (X2.weaken fun _ q => nomatch q)
  have hG0 : ∀ g ∈ G, s.gens[g]? = none := fun g q => by
    cases z : s.gens[g]? with
    | none => rfl
    | some gs => have := X1.gens g gs z; rw [hG g q] at this; cases this
  have hP0 : ∀ b ∈ P0, hb1.get? b = none ∧ b ∉ ρ1 ∧ b ∉ TB ∧ b ∉ fp env ∧ Live s2.heap b ∧ Dead s.heap b := fun b hb' => by
    obtain ⟨g1, g2⟩ := hP b hb'
    refine ⟨dead_base R1.m.keep g1, fun q => nd (R1.m.out b q).2.2 g1, fun q => nd (tb_lt R1.m q) g1, fun q => nd (R1.out b q).2.2.2 g1, g2, dead_back X1.live g1⟩
  refine codeAny_forLoop_any (I := fun m s3 => ∃ i hb3 ρ3 p P, m = xs.length - i ∧ i ≤ xs.length ∧ Inv i p ∧ RelE w hb3 ρ3 env s3 (mk i p) ∧ ob i P s3 ∧ (∀ b ∈ P, hb3.get? b = none ∧ b ∉ ρ3 ∧ b ∉ TB ∧ b ∉ fp env ∧ Live s3.heap b ∧ Dead s.heap b) ∧ Ext (fp env) hb ρ s hb3 ρ3 s3 ∧ hb1.StaysIn hb3 ∧ ρ1 <+: ρ3) (fun m s3 hI => ?_) xs.length
    ⟨0, hb1, ρ1, p0, P0, by simp, Nat.zero_le _, h0, R2.le hle, o2, hP0, X12, fun _ _ e => e, List.prefix_rfl⟩
  obtain ⟨i, hb3, ρ3, p, P, rfl, hi', hInv, R3, o3, d3, X3, B3, p3⟩ := hI
  refine It.next _ _ _ _ _ i P _ _ rm B3 p3 R3.m o3 (fun x hx s4 v P' M4 hP' hsub o4 hv => ?_) fun hx s4 M4 => ?_
  · refine eEA (step i p x hx hInv) ?_; rintro σ2 htg hbd
    have d3' : ∀ b ∈ P, hb3.get? b = none ∧ b ∉ ρ3 ∧ b ∉ TB := fun b q => ⟨(d3 b q).1, (d3 b q).2.1, (d3 b q).2.2.1⟩
    have R4 := R3.moved M4 d3' fun b q => (d3 b q).2.2.2.1
    have X4 := X3.moved M4 (fun b q => (d3 b q).2.2.2.2.2) hG0
    have d4 : ∀ b ∈ P', hb3.get? b = none ∧ b ∉ ρ3 ∧ b ∉ TB ∧ b ∉ fp env ∧ Live s4.heap b ∧ Dead s.heap b := fun b q => by
      obtain ⟨q1, q2⟩ := hP' b q
      rcases q1 with q1 | q1
      · refine eAAAAA (d3 b q1) ?_; rintro z1 z2 z3 z4 _ z6; exact ⟨z1, z2, z3, z4, q2, z6⟩
      · exact ⟨dead_base R3.m.keep q1, fun q => nd (R3.m.out b q).2.2 q1, fun q => nd (tb_lt R3.m q) q1, fun q => nd (R3.out b q).2.2.2 q1, q2, dead_back X3.live q1⟩
    dsimp only
    rw [ht]
    refine wpAny_pure (htg _ _ _ _ _ _ _ rm.1 R4 hv fun s5 X5 R5 => ?_)
    refine hbd _ _ _ _ _ _ rm R5 fun hb6 ρ6 s6 f σ6 X6 R6 hf => ?_
    refine eEA hf ?_; clear hf; rintro af ⟨rfl, p', hp', hl'⟩ hf
    cases hf
    have hlt := (List.getElem?_eq_some_iff.mp hx).1
    have X45 := X5.trans X6
    have o6 : ob (i + 1) P' s6 := It.stable _ _ _ _ o4 (fun b o hbP e => X45.keep b o e (d4 b hbP).2.2.2.1 (d4 b hbP).2.1 (d4 b hbP).2.2.1) fun j g _ e => X45.gens j g e
    refine ⟨xs.length - (i + 1), by omega, i + 1, hb6, ρ6, p', P', rfl, hlt, hp', R6.le hl', o6, fun b q => ?_, X4.trans X45, fun b o e => X45.base b o (B3 b o e), p3.trans X45.pre⟩
    refine eAAAAA (d4 b q) ?_; rintro z1 z2 z3 z4 z5 z6
    refine ⟨?_, fun q => (X45.freshR b q).elim z2 fun l => nd z5 l, z3, z4, X45.live b z5, z6⟩
    cases y : hb6.get? b with
    | none => rfl
    | some o => exact (X45.fresh b o y).elim (fun e => by rw [z1] at e; cases e) fun l => (nd z5 l).elim
  · have hge : xs.length ≤ i := List.getElem?_eq_none_iff.mp hx
    have : i = xs.length := Nat.le_antisymm hi' hge
    subst this
    have d3' : ∀ b ∈ P, hb3.get? b = none ∧ b ∉ ρ3 ∧ b ∉ TB := fun b q => ⟨(d3 b q).1, (d3 b q).2.1, (d3 b q).2.2.1⟩
    have R4 := R3.moved M4 d3' fun b q => (d3 b q).2.2.2.1
    exact wpAny_execs_nil (k _ _ _ _ _ (X3.moved M4 (fun b q => (d3 b q).2.2.2.2.2) hG0) R4 ⟨_, ⟨rfl, p, hInv, rfl⟩, .next⟩)
end
section
variable {w : World} {n : Nat} {env : Env} {A : Around} {E : Value → Shared → Prop} {hb hb' hb0 : Heap} {ρ : List Addr} {s s' s0 : Shared} {μ μ' : List Cell} {L I va x dx : Addr} {vals : List Value}
theorem moved_refl {P G : List Nat} : Moved P G s s := ⟨fun _ _ e _ => e, fun _ _ h => h, fun _ _ e _ => e, id, fun L m h => ⟨m, h⟩, rfl⟩
theorem moved_grow {P G : List Nat} {h' : Heap} {tk : Nat} (k : s.heap.StaysIn h') : Moved P G s { s with heap := h', toks := tk } := ⟨fun b o e _ => k b o e, fun b _ l => live_stays k b l, fun _ _ e _ => e, id, fun L m h => ⟨m, h.keeps k⟩, rfl⟩
theorem moved_ns {h' : Heap} {m' : Str → Option Value} {tk : Nat} {P G : List Nat} (hm : L ∈ P) (hs : Heap.SameBut L s.heap h') (hn : h'.Ns L m') : Moved P G s { s with heap := h', toks := tk } :=
  ⟨fun b o e hb => (hs.2 b fun q => hb (q ▸ hm)).trans e, fun b hb ⟨o, e⟩ => ⟨o, (hs.2 b fun q => hb (q ▸ hm)).trans e⟩, fun _ _ e _ => e, id, fun L' m h => by
    by_cases q : L' = L
    · exact ⟨m', q ▸ hn⟩
    · exact ⟨m, h.sameBut hs q⟩, rfl⟩
theorem cls_prof : plainGet (Internal.hd.heap_1 w.params) 584 "_voters" = true ∧ hasDictIn (Internal.hd.heap_1 w.params) 584 = true ∧ findIn (Internal.hd.heap_1 w.params) (.ref 584) "_voters" = some none := ⟨by k_is, by k_is, by k_is⟩
theorem voters_raw {es : List DictEntry} {m : Nat} {Q : Value → Shared → Prop} (K : (Internal.hd.heap_1 w.params).In s.heap) (h1 : s.heap.get? x = some (instObj 584 dx)) (h2 : s.heap.get? dx = some (dictOf es m)) (hg : PySem.W.getL "_voters" es = some (some (.ref va)))
    (k : Q (.ref va) { s with toks := s.toks + 1 }) : wpAny (model PRG w) A (getAttr (.ref x) "_voters" true) Q E s := by
  refine eAA (cls_prof (w := w)) ?_; rintro g1 g2 g3
  exact get_value K (show InstAt s.heap x (instObj 584 dx) 584 (some (dictOf es m)) from ⟨h1, rfl, rfl, h2⟩) (plainGet_of g1).1 (findObj_own g2 g3 (by k_is) hg) rfl k
abbrev gR (L I : Addr) (n : Nat) (s₀ : Shared) (r : Result) (s₁ : Shared) : Prop := (r = .ok .next ∨ r = .ok (.ret .none)) ∧ n = 0 ∧ Moved [L, I] [] s₀ s₁
noncomputable def gY (hb0 : Heap) (L I va : Addr) (vals : List Value) (m : Nat) (s₀ : Shared) (v : Value) (s : Shared) (kap : Resume → Shared → Prop) : Prop :=
  vals[vals.length - 1 - m]? = some v ∧ Moved [L, I] [] s₀ s ∧ Live s.heap L ∧ Live s.heap I ∧ ∀ s'' : Shared, hb0.StaysIn s''.heap → (∀ b ∈ [L, I], ∀ o, s.heap.get? b = some o → s''.heap.get? b = some o) → kap (.send .none) s''
variable {p1 p2 p3 p4 p5 p6 p7 : Pos} {c : Code} {fs : List Frame} {pp : Pos} {g : Bool} {l : List Value}
abbrev gBody (p4 p5 p6 : Pos) : List Stmt := [.Expr (.Yield (some (.Name "voter" p4)) p5) p6]
theorem seg_voters {K1 : Flow → Sem PySem.Fin} {H1 : Value → Sem PySem.Fin} {gd1 : Bool → Bool} {lv1 : List Value → List Value} {kp : List Value}
    (hk : env.scope.kind = .function) (hx : env.kindOf "voter" = some .local) (hco : env.scope.isCoroutine = false) (hgen : interactive env = false) (hL : env.locals = L) (hp : (env.scope.kind == .class || (env.scope.kind == .module && env.locals != env.globals)) = false) (hva : hb0.IsList va vals.toArray) (hLI : L ≠ I) (hh : A.handled = none)
    (hend : K1 .next = .pure (.done (.ret .none))) (hLv : hb0.get? L = none) : ∀ (k i : Nat) (s₀ s : Shared) (m : Str → Option Value), vals.length - i = k → i ≤ vals.length → s.heap.IsListIter I va i → s.heap.Ns L m → hb0.StaysIn s.heap → hb0.get? I = none → Moved [L, I] [] s₀ s →
    Seg (model PRG w) A (gR L I) (gY hb0 L I va vals) (vals.length - i) s₀ (.forLoop (.Name "voter" p1) (.ref I) (gBody p4 p5 p6) [] env) ((model PRG w).den (.forLoop (.Name "voter" p1) (.ref I) (gBody p4 p5 p6) [] env)) [.ret (aft K1 H1 gd1 lv1 env) none false l c pp kp] s := by
  intro k
  induction k with
  | zero =>
    intro i s₀ s m hki hi hit hn hst hI hmv
    have hiv : i = vals.length := by omega
    refine seg_forLoop ?_
    refine eEAA (id hit) ?_; rintro o h1 h2 h3
    refine wpAny_pyNext_list_end hh hit (hva.at fun o e => hst _ o e) (by simp [hiv]) fun h' hs' => ?_
    dsimp only
    refine seg_leaf (.ok .next) ?_
    show Seg _ _ _ _ _ _ _ (K1 .next) [] _
    rw [hend]
    refine seg_end (.ok (.ret .none)) ⟨.inr rfl, by omega, hmv.trans ?_⟩
    exact (moved_ext (tk := s.toks) h1 (fun es ep z => by rw [h3] at z; cases z) hs').weaken (fun b q => by rw [List.mem_singleton.mp q]; simp) fun _ q => q
  | succ k ih =>
    intro i s₀ s m hki hi hit hn hst hI hmv
    have hlt : i < vals.length := by omega
    refine seg_forLoop ?_
    refine eEAA (id hit) ?_; rintro o h1 h2 h3
    refine wpAny_pyNext_list_item hit (hva.at fun o e => hst _ o e) (x := vals[i]) (by simp [hlt]) fun h' hi' hs' => ?_
    dsimp only
    refine wpAny_pure ?_
    have hn' : h'.Ns env.locals m := hL ▸ hn.sameBut hs' hLI
    refine wpAny_assign_Name (wpAny_storeName_local hx hn' (fun h'' hn'' hs'' => ?_) hp)
    intro H
    have M1 : Moved [L, I] [] s { s with heap := h' } := (moved_same (tk := s.toks) h1 (fun es ep z => by rw [h3] at z; cases z) hs').weaken (fun b q => by rw [List.mem_singleton.mp q]; simp) fun _ q => q
    have M2 : Moved [L, I] [] { s with heap := h' } { s with heap := h'', toks := s.toks + 1 } := by
      have := moved_ns (s := { s with heap := h' }) (h' := h'') (L := env.locals) (tk := s.toks + 1) (P := [L, I]) (G := []) (by rw [hL]; simp) hs'' hn''
      exact this
    have hmv' : Moved [L, I] [] s₀ { s with heap := h'', toks := s.toks + 1 } := (hmv.trans M1).trans M2
    have hst'' : hb0.StaysIn h'' := fun b o e => (hs''.2 b fun q => by rw [q, hL, hLv] at e; cases e).trans ((hs'.2 b fun q => by rw [q, hI] at e; cases e).trans (hst b o e))
    have hit'' : h''.IsListIter I va (i + 1) := by
      refine eEA hi' ?_; clear hi'; rintro o2 g1 g2
      exact ⟨o2, (hs''.2 I fun q => hLI (hL ▸ q.symm)).trans g1, g2⟩
    refine seg_execs_cons ?_
    rw [hki]
    refine seg_Expr_Yield rfl rfl rfl ?_ hco hgen
    refine wpAny_Name (wpAny_loadName_local (v := vals[i]) hk hx hn'' (by simp) ?_) (by decide)
    intro kap hkap
    have hn2 : h''.Ns L (fun y => if y = "voter" then some vals[i] else m y) := hL ▸ hn''
    refine ⟨by rw [show vals.length - 1 - k = i by omega]; exact List.getElem?_eq_getElem hlt, hmv', live_ns hn2, ?_, fun s'' h1'' h2'' => hkap .none s'' ?_⟩
    · refine eEA hit'' ?_; clear hit''; rintro o2 g1 _; exact ⟨o2, g1⟩
    · dsimp only
      refine seg_again rfl ?_
      have e : k = vals.length - (i + 1) := by omega
      rw [e]
      exact ih (i + 1) s'' s'' _ (by omega) hlt (eEA hit'' fun o2 g1 g2 => ⟨o2, h2'' I (by simp) _ g1, g2⟩) (ns_of hn2 fun o e => h2'' L (by simp) o e) h1'' hI moved_refl
end
section
variable {w : World} {n : Nat} {env : Env} {A : Around} {E : Value → Shared → Prop} {hb hb' hb0 : Heap} {ρ : List Addr} {s s' s0 : Shared} {μ μ' : List Cell} {L I va x dx : Addr} {vals : List Value}
variable {p1 p2 p3 p4 p5 p6 p7 : Pos}
abbrev gFor (p1 p2 p3 p4 p5 p6 p7 : Pos) : List Stmt := [.For (.Name "voter" p1) (.Attribute (.Name "self" p2) "_voters" p3) (gBody p4 p5 p6) [] p7]
theorem gen_first {es : List DictEntry} {k : Nat} {m : Str → Option Value}
    (hk : env.scope.kind = .function) (hx : env.kindOf "voter" = some .local) (hself : env.kindOf "self" = some .local) (hco : env.scope.isCoroutine = false) (hgen : interactive env = false) (hL : env.locals = L) (hp : (env.scope.kind == .class || (env.scope.kind == .module && env.locals != env.globals)) = false)
    (hva : hb0.IsList va vals.toArray) (hh : A.handled = none) (hLv : hb0.get? L = none) (K : (Internal.hd.heap_1 w.params).In hb0) (h1 : hb0.get? x = some (instObj 584 dx)) (h2 : hb0.get? dx = some (dictOf es k)) (hg : PySem.W.getL "_voters" es = some (some (.ref va)))
    (hn : s.heap.Ns L m) (hm : m "self" = some (.ref x)) (hst : hb0.StaysIn s.heap)
    (he : autoParam (∀ pos env, eval (.Attribute (.Name "self" p2) "_voters" pos) env = (do let o ← eval (.Name "self" p2) env; standAt pos.atName; let r ← holding [o] (getAttr o "_voters" true); letTemporaryGo (.Name "self" p2) o r; pure r)) auW) :
    (GenState.fresh (.func (gFor p1 p2 p3 p4 p5 p6 p7) env)).Goes (model PRG w) A (gR L s.heap.objs.size) (gY hb0 L s.heap.objs.size va vals) vals.length (.send .none) s := by
  refine ⟨rfl, seg_func (seg_execs_cons (seg_For (fun _ => rfl) ?_))⟩
  refine Attribute_any_ (wpAny_Name (wpAny_loadName_local (v := .ref x) hk hself (hL ▸ hn) hm ?_) (by decide)) (he _ _)
  refine voters_raw (K.keeps hst) (hst _ _ h1) (hst _ _ h2) hg ?_
  refine wpAny_pyIter_list (hva.at fun o e => hst _ o e) ?_
  intro p
  have hd : Dead s.heap s.heap.objs.size := dead_of_le (Nat.le_refl _)
  have kp : s.heap.StaysIn (s.heap.push { cls := .type "list_iterator", data := .fields #[.ref va, .int 0 0] }) := fun b o e => Heap.get?_push_of_some _ e
  have := seg_voters (w := w) (A := A) (hb0 := hb0) (L := L) (I := s.heap.objs.size) (va := va) (vals := vals) (p1 := p1) (p4 := p4) (p5 := p5) (p6 := p6) (c := .func (gFor p1 p2 p3 p4 p5 p6 p7) env) (pp := p) (l := []) (kp := [])
    (K1 := fun f => match f with | .next => (execs [] env).wrap (fun f => .pure (.done (.ret (match f with | .ret v => v | _ => .none)))) (fun e => (leaving env e).wrap (fun _ => .raise e) .raise id id) id id | f => .pure (.done (.ret (match f with | .ret v => v | _ => .none))))
    (H1 := fun e => (leaving env e).wrap (fun _ => .raise e) .raise id id) (gd1 := id) (lv1 := id) hk hx hco hgen hL hp hva (fun q => nd (live_ns hn) (q ▸ hd)) hh rfl hLv vals.length 0 s { s with heap := s.heap.push { cls := .type "list_iterator", data := .fields #[.ref va, .int 0 0] }, toks := s.toks + 1 } m (by simp) (Nat.zero_le _)
    ⟨_, Heap.get?_push_size _ rfl, rfl, rfl⟩ (hn.push _) (fun b o e => kp b o (hst b o e)) (dead_base hst hd) (moved_grow kp)
  rw [Nat.sub_zero] at this
  exact this
theorem allBare_setGen {g : Nat} {x : GenState} (h : AllBare s.gens) (hx : x.bare = true) : AllBare (s.setGen g x).gens := fun y hy => by
  have : y ∈ s.gens.setIfInBounds g x := hy
  rcases Array.mem_or_eq_of_mem_setIfInBounds this with q | q
  · exact h y q
  · exact q ▸ hx
theorem movedG {P : List Nat} {g : Nat} {s₁ : Shared} {gs' : GenState} (hmv : Moved [L, I] [] (s.setGen g .running) s₁) (hb : gs'.bare = true) (hI : Dead s.heap I ∨ I ∈ P) (hL : L ∈ P) : Moved P [g] s (s₁.setGen g gs') := by
  have own : ∀ b o, s.heap.get? b = some o → b ∉ P → b ∉ [L, I] := fun b o e hb q => by
    rcases List.mem_cons.mp q with q | q
    · exact hb (q ▸ hL)
    · rw [List.mem_singleton.mp q] at e hb; exact hI.elim (fun d => nd' e d) hb
  refine ⟨fun b o e hb => hmv.keep b o e (own b o e hb), fun b hb ⟨o, e⟩ => hmv.live b (own b o e hb) ⟨o, e⟩, fun i gg e hi => ?_, fun h => allBare_setGen (hmv.bare (allBare_setGen h rfl)) hb, fun L' m h => hmv.ns L' m h, hmv.os⟩
  have hne : i ≠ g := by simpa using hi
  have e1 : (s.setGen g .running).gens[i]? = some gg := by rw [(GenOnly.setGen s g .running).2 i hne]; exact e
  rw [(GenOnly.setGen s₁ g gs').2 i hne]
  exact hmv.gens i gg e1 (fun q => nomatch q)
noncomputable def obG (w : World) (n : Nat) (hb0 : Heap) (env : Env) (L va a x g : Nat) (vals : List Value) (p1 p2 p3 p4 p5 p6 p7 : Pos) (i : Nat) (P : List Nat) (s : Shared) : Prop :=
  i ≤ vals.length ∧ s.heap.IsGen a g ∧ ((i = 0 ∧ P = [L, a] ∧ s.gens[g]? = some (.fresh (.func (gFor p1 p2 p3 p4 p5 p6 p7) env)) ∧ ∃ m, s.heap.Ns L m ∧ m "self" = some (.ref x)) ∨
    (∃ I gs, P = [L, I, a] ∧ s.gens[g]? = some gs ∧ Live s.heap L ∧ Live s.heap I ∧ (a ≠ I ∧ hb0.get? I = none) ∧ ∀ s'' : Shared, hb0.StaysIn s''.heap → (∀ b ∈ [L, I], ∀ o, s.heap.get? b = some o → s''.heap.get? b = some o) →
      gs.Goes (model PRG w) (ATop n).in1 (gR L I) (gY hb0 L I va vals) (vals.length - i) (.send .none) s''))
theorem it_prof {es : List DictEntry} {k a g : Nat} {xs : List AV}
    (hk : env.scope.kind = .function) (hx : env.kindOf "voter" = some .local) (hself : env.kindOf "self" = some .local) (hco : env.scope.isCoroutine = false) (hgen : interactive env = false) (hL : env.locals = L) (hp : (env.scope.kind == .class || (env.scope.kind == .module && env.locals != env.globals)) = false)
    (hva : hb0.IsList va vals.toArray) (hvs : VRels w hb0 ρ xs vals) (hLv : hb0.get? L = none) (haL : a ≠ L) (K : (Internal.hd.heap_1 w.params).In hb0) (h1 : hb0.get? x = some (instObj 584 dx)) (h2 : hb0.get? dx = some (dictOf es k)) (hg : PySem.W.getL "_voters" es = some (some (.ref va)))
    (he : autoParam (∀ pos env, eval (.Attribute (.Name "self" p2) "_voters" pos) env = (do let o ← eval (.Name "self" p2) env; standAt pos.atName; let r ← holding [o] (getAttr o "_voters" true); letTemporaryGo (.Name "self" p2) o r; pure r)) auW) :
    ItD w n hb0 ρ [g] (.ref a) xs (obG w n hb0 env L va a x g vals p1 p2 p3 p4 p5 p6 p7) where
  stable := fun i P s s' o h1 h2 => by
    refine eAA o ?_; clear o; rintro o1 o2 o3
    have aP : a ∈ P := by rcases o3 with ⟨_, rfl, _⟩ | ⟨I, gs, rfl, _⟩ <;> simp
    have o2' : s'.heap.IsGen a g := eEEEA o2 fun o nm qn ho r => ⟨o, nm, qn, h1 a o aP ho, r⟩
    refine ⟨o1, o2', ?_⟩
    rcases o3 with ⟨rfl, rfl, q1, m, q2, q3⟩ | ⟨I, gs, rfl, q1, q2, q3, q4, q5⟩
    · exact .inl ⟨rfl, rfl, h2 g _ (by simp) q1, m, ns_of q2 fun o e => h1 L o (by simp) e, q3⟩
    · refine .inr ⟨I, gs, rfl, h2 g _ (by simp) q1, let ⟨o, e⟩ := q2; ⟨o, h1 L o (by simp) e⟩, let ⟨o, e⟩ := q3; ⟨o, h1 I o (by simp) e⟩, q4, fun s'' z1 z2 => q5 s'' z1 fun b hb o e => z2 b hb o (h1 b o ?_ e)⟩
      rcases List.mem_cons.mp hb with r | r
      · simp [r]
      · simp [List.mem_singleton.mp r]
  next := fun A hb ρ' s μ i P Q E rm hst hpre R o k1 k2 => by
    refine eAA o ?_; clear o; rintro o1 o2 o3
    refine wpAny_top rm ?_
    have hst' : hb0.StaysIn s.heap := fun b o e => R.keep b o (hst b o e)
    have hlen := hvs.length
    have main : ∀ (I : Addr) (gs : GenState), s.gens[g]? = some gs → (Dead s.heap I ∨ I ∈ P) → L ∈ P → a ∈ P → a ≠ I → hb0.get? I = none → (∀ b ∈ P, b = L ∨ b = I ∨ b = a) →
        gs.Goes (model PRG w) (ATop n).in1 (gR L I) (gY hb0 L I va vals) (vals.length - i) (.send .none) (s.setGen g .running) → wpAny (model PRG w) (ATop n) (pyNext (.ref a)) Q E s := fun I gs hgs hI hLP haP haI hI0 hP hgo => by
      refine pyNext_gen (P := fun n s₀ s₁ => n = 0 ∧ Moved [L, I] [] s₀ s₁) rfl (R.top.nolimit.keeps R.keep) (by show 699 - n < 1000; lia) o2 hgs hgo (fun v s₁ gs' hbare hv => ?_) (fun s₁ hp h' hkp => ?_)
      · refine eAAAA hv ?_; clear hv; rintro v1 v2 v3 v4 v5
        have hst1 : hb0.StaysIn s₁.heap := fun b o e => v2.keep b o (hst' b o e) (fun q => by
            rcases List.mem_cons.mp q with r | r
            · rw [r, hLv] at e; cases e
            · rw [List.mem_singleton.mp r, hI0] at e; cases e)
        have aLI : a ∉ [L, I] := fun q => by
            rcases List.mem_cons.mp q with r | r
            · exact haL r
            · exact haI (List.mem_singleton.mp r)
        have a1 : s₁.heap.IsGen a g := eEEEA o2 fun o nm qn ho r => ⟨o, nm, qn, v2.keep a o ho aLI, r⟩
        cases hz : vals.length - i with
        | zero =>
          rw [hz] at v5
          exact (v5 s₁ hst1 (fun _ _ _ e => e)).elim
        | succ m =>
          rw [hz] at v5 v1
          have hi : i < xs.length := by lia
          have hidx : vals.length - 1 - (m + 1 - 1) = i := by lia
          rw [hidx] at v1
          refine eEA (hvs.get (List.getElem?_eq_getElem hi)) ?_; rintro u hu1 hu2
          rw [v1] at hu1; cases hu1
          refine k1 _ (List.getElem?_eq_getElem hi) _ v [L, I, a] (movedG v2 hbare hI hLP) (fun b hb => ?_) (fun b hb => ?_) ⟨by lia, a1, .inr ⟨I, gs', rfl, setGen_self (gs := .running) ?_, v3, v4, ⟨haI, hI0⟩, fun s'' z1 z2 => ?_⟩⟩ (hu2.mono hst hpre)
          · simp only [List.mem_cons, List.not_mem_nil, or_false] at hb
            rcases hb with rfl | rfl | rfl
            · exact ⟨.inl hLP, v3⟩
            · exact ⟨hI.symm, v4⟩
            · exact ⟨.inl haP, eEEEA a1 fun o _ _ ho _ => ⟨o, ho⟩⟩
          · rcases hP b hb with r | r | r <;> simp [r]
          · exact v2.gens g _ (setGen_self hgs) (fun q => nomatch q)
          · have e : vals.length - (i + 1) = m := by lia
            rw [e]
            exact v5 s'' z1 z2
      · obtain ⟨e, hmv⟩ := hp
        exact k2 (List.getElem?_eq_none (by lia)) _ ((movedG (gs' := .finished) hmv rfl hI hLP).trans (moved_grow (tk := s₁.toks) hkp))
    rcases o3 with ⟨rfl, rfl, q1, m, q2, q3⟩ | ⟨I, gs, rfl, q1, q2, q3, q4, q5⟩
    · refine main s.heap.objs.size _ q1 (.inl (dead_of_le (Nat.le_refl _))) (by simp) (by simp) (fun q => ?_) (dead_base hst' (dead_of_le (Nat.le_refl _))) (fun b hb => by rcases List.mem_cons.mp hb with r | r; exact .inl r; exact .inr (.inr (List.mem_singleton.mp r))) ?_
      · refine eEEEA o2 ?_; clear o2; rintro o nm qn ho _
        exact Nat.lt_irrefl _ (q ▸ Heap.lt_size ho)
      · exact gen_first (s := s.setGen g .running) hk hx hself hco hgen hL hp hva rfl hLv K h1 h2 hg q2 q3 hst' he
    · exact main I gs q1 (.inr (by simp)) (by simp) (by simp) q4.1 q4.2 (fun b hb => by simp at hb; rcases hb with r | r | r; exact .inl r; exact .inr (.inl r); exact .inr (.inr r)) (q5 _ hst' fun _ _ _ e => e)
end
section
variable {w : World} {n : Nat} {μ μ' : List Cell} {vs : List AV} {k : Nat}
theorem prof_iter_fn : ∃ oc od osl, ∃ fd, (Internal.hd.heap_1 w.params).lookup 553 = some ⟨oc, od, .func fd, osl⟩ ∧ codeIn (Internal.hd.heap_1 w.params) fd.code fd.qualname = true ∧ fd.scope.isGenerator = true ∧ fd.scope.isCoroutine = false ∧ fd.closure = [] ∧ fd.scope.kind = .function ∧
    (∀ v, bindArgs fd ⟨[v], []⟩ = pure [(("self" : Str), v)]) ∧ (∀ y ∈ fd.scope.names, y.2 ≠ .cell) ∧ fd.scope.names.lookup ("self" : Str) = some .local ∧ fd.scope.names.lookup ("voter" : Str) = some .local ∧ ∃ p1 p2 p3 p4 p5 p6 p7, fd.body = .stmts (gFor p1 p2 p3 p4 p5 p6 p7) :=
  ⟨_, _, _, _, by k_is, by k_is, rfl, rfl, rfl, rfl, fun v => by rfl, by decide, by rfl, by rfl, _, _, _, _, _, _, _, rfl⟩
set_option tactic.hygienic true in
theorem iter_prof : IterD w (n + 1) (.prof k vs) μ vs := fun A hb ρ s v Q E rm R hv kk => by
  refine eEEEA R.frame ?_; rintro h₀ L0 m0 F X₀
  have hv' := hv
  cases hv'
  rename_i x dx nn c1 c2 va us xs t1 t2 t3 hx hd hc hva hu hxs
  have I : InstAt s.heap x (instObj 584 dx) 584 (some (dictOf _ nn)) := ⟨R.keep _ _ hx, rfl, rfl, R.keep _ _ hd⟩
  obtain ⟨oc, od, osl, fd, f1, f2, f3, f4, f5, f6, f7, f8, f9, f10, p1, p2, p3, p4, p5, p6, p7, f11⟩ := prof_iter_fn (w := w)
  refine owit_iter F X₀ I (f := 553) (by k_is) (by k_is) ?_
  refine wpAny_call ?_
  have hfun := R.keep _ _ (R.top.K _ _ f1)
  refine codeAny_call_generator (by have := rm.2.1; show A.depth < 1000; lia) hfun rfl f4 f3 f11 ((codeRec_of R.top.K f2).keeps R.keep) ?_
  refine wpAny_of_eq (f7 _) ?_
  rw [f5]
  refine wpAny_newFunctionEnv f8 (fun y hy => by rw [List.mem_singleton.mp hy]; exact f9) (fun h' hn hs => ?_) f6
  have hL : Dead s.heap s.heap.objs.size := dead_of_le (Nat.le_refl _)
  have kp : s.heap.StaysIn h' := fun b o e => (hs.2 b fun q => by rw [q, hL] at e; cases e).trans (Heap.get?_push_of_some _ e)
  refine ⟨(R.top.nolimit.keeps R.keep).keeps kp, ?_⟩
  have hn' : h'.Ns s.heap.objs.size (fun y => ([(("self" : Str), Value.ref x)] : List (Str × Value)).reverse.lookup y) := hn
  have h'sz : h'.objs.size = s.heap.objs.size + 1 := by rw [hs.1, Heap.size_push]
  have k2 : s.heap.StaysIn (h'.push { cls := .type "generator", data := .fields #[.int s.gens.size 0, .str fd.name (s.toks + 1), .str fd.qualname (s.toks + 1 + 1)] }) := fun b o e => Heap.get?_push_of_some _ (kp b o e)
  have hdead : Dead s.heap h'.objs.size := dead_of_le (by rw [h'sz]; exact Nat.le_succ _)
  have hgen : (h'.push { cls := .type "generator", data := .fields #[.int s.gens.size 0, .str fd.name (s.toks + 1), .str fd.qualname (s.toks + 1 + 1)] }).get? h'.objs.size = some { cls := .type "generator", data := .fields #[.int s.gens.size 0, .str fd.name (s.toks + 1), .str fd.qualname (s.toks + 1 + 1)] } := Heap.get?_push_size _ rfl
  have X1 : Ext [] hb ρ s hb ρ { s with gens := s.gens.push (.fresh (.func (gFor p1 p2 p3 p4 p5 p6 p7) (newEnv fd.scope s.heap.objs.size fd.globals [] (fd.qualname ++ ".<locals>.") (some 553) fd.code none fd.builtins))), heap := (h'.push { cls := .type "generator", data := .fields #[.int s.gens.size 0, .str fd.name (s.toks + 1), .str fd.qualname (s.toks + 1 + 1)] }), toks := s.toks + 1 + 1 + 1 } :=
    ⟨fun _ _ e => e, List.prefix_rfl, fun _ _ e => .inl e, fun _ h => .inl h, fun b o e _ _ _ => k2 b o e, live_stays k2, fun i gg e => by
      show (s.gens.push _)[i]? = some gg
      have := (Array.getElem?_eq_some_iff.mp e).1
      rw [Array.getElem?_push, if_neg (by lia)]; exact e, rfl⟩
  have R1 : RelM w hb ρ { s with gens := s.gens.push (.fresh (.func (gFor p1 p2 p3 p4 p5 p6 p7) (newEnv fd.scope s.heap.objs.size fd.globals [] (fd.qualname ++ ".<locals>.") (some 553) fd.code none fd.builtins))), heap := (h'.push { cls := .type "generator", data := .fields #[.int s.gens.size 0, .str fd.name (s.toks + 1), .str fd.qualname (s.toks + 1 + 1)] }), toks := s.toks + 1 + 1 + 1 } μ := by
    have := R.grow (s' := { s with heap := (h'.push { cls := .type "generator", data := .fields #[.int s.gens.size 0, .str fd.name (s.toks + 1), .str fd.qualname (s.toks + 1 + 1)] }) }) k2 rfl
    exact ⟨this.top, this.keep, this.tabs, this.bare.push rfl, this.len, this.mem, this.ok, this.nod, this.out, this.fr⟩
  refine wpAny_specialOf ⟨_, hgen, rfl⟩ slot_gen_next.lookup ?_
  refine kk (.ref h'.objs.size) [s.heap.objs.size, h'.objs.size] [s.gens.size] _ _ X1 R1 (it_prof (w := w) (n := n + 1) (hb0 := hb) (ρ := ρ) (g := s.gens.size) (env := newEnv fd.scope s.heap.objs.size fd.globals [] (fd.qualname ++ ".<locals>.") (some 553) fd.code none fd.builtins) (L := s.heap.objs.size) (x := x) (dx := dx) (va := va) (vals := xs) (a := h'.objs.size) (p1 := p1) (p2 := p2) (p3 := p3) (p4 := p4) (p5 := p5) (p6 := p6) (p7 := p7)
    f6 f10 f9 f4 ?_ rfl ?_ hva.is hxs (dead_base R.keep hL) (by lia) R.top.K hx hd rfl) ⟨Nat.zero_le _, ⟨_, _, _, hgen, rfl, rfl, rfl⟩, .inl ⟨rfl, rfl, ?_, _, hn'.push _, by simp⟩⟩ (fun b hb => ?_) (fun g hg => ?_)
  · show (fd.scope.kind == .module && _) = false; rw [f6]; rfl
  · show (fd.scope.kind == .class || (fd.scope.kind == .module && _)) = false; rw [f6]; rfl
  · show (s.gens.push _)[s.gens.size]? = _; simp
  · simp only [List.mem_cons, List.not_mem_nil, or_false] at hb
    rcases hb with rfl | rfl
    · exact ⟨hL, live_ns (hn'.push _)⟩
    · exact ⟨hdead, ⟨_, hgen⟩⟩
  · rw [List.mem_singleton.mp hg]; simp
end
structure MovedT (P G : List Nat) (s s' : Shared) : Prop where
  keep : ∀ b o, s.heap.get? b = some o → b ∉ P → b ∉ TB → s'.heap.get? b = some o
  live : ∀ b, b ∉ P → Live s.heap b → Live s'.heap b
  gens : ∀ (i : Nat) (g : GenState), s.gens[i]? = some g → i ∉ G → s'.gens[i]? = some g
  ns : ∀ L m, 648 ≤ L → s.heap.Ns L m → ∃ m', s'.heap.Ns L m'
  os : s'.os = s.os
theorem MovedT.refl {P G : List Nat} {s : Shared} : MovedT P G s s := ⟨fun _ _ e _ _ => e, fun _ _ h => h, fun _ _ e _ => e, fun L m _ h => ⟨m, h⟩, rfl⟩
theorem MovedT.trans {P G : List Nat} {s s1 s2 : Shared} (x : MovedT P G s s1) (y : MovedT P G s1 s2) : MovedT P G s s2 :=
  ⟨fun b o e h1 h2 => y.keep b o (x.keep b o e h1 h2) h1 h2, fun b h l => y.live b h (x.live b h l), fun i g e h => y.gens i g (x.gens i g e h) h, fun L m hl h => let ⟨m', h'⟩ := x.ns L m hl h; y.ns L m' hl h', y.os.trans x.os⟩
theorem Moved.t {P G : List Nat} {s s' : Shared} (x : Moved P G s s') : MovedT P G s s' := ⟨fun b o e h _ => x.keep b o e h, x.live, x.gens, fun L m _ h => x.ns L m h, x.os⟩
theorem MovedT.weaken {P G P' G' : List Nat} {s s' : Shared} (x : MovedT P G s s') (h : ∀ b ∈ P, b ∈ P') (hg : ∀ b ∈ G, b ∈ G') : MovedT P' G' s s' :=
  ⟨fun b o e z => x.keep b o e fun q => z (h b q), fun b z => x.live b fun q => z (h b q), fun i g e z => x.gens i g e fun q => z (hg i q), x.ns, x.os⟩
abbrev WOK (w : World) (hb : Heap) (s : Shared) : Prop := RelM w hb [] s []
noncomputable def New (hb hb1 : Heap) (s : Shared) : Prop := hb.StaysIn hb1 ∧ ∀ b o, hb1.get? b = some o → hb.get? b = some o ∨ Dead s.heap b
noncomputable def mrg (hb hb1 h : Heap) : Heap := mkHeap h.objs.size fun b => match hb.get? b with | some o => some o | none => hb1.get? b
theorem mrg_get {hb hb1 h : Heap} (k : hb.StaysIn h) (k1 : hb1.StaysIn h) (b : Addr) : (mrg hb hb1 h).get? b = match hb.get? b with | some o => some o | none => hb1.get? b := by
  refine mkHeap_get (fun b o e => ?_) b
  have e' : h.get? b = some o := by
    cases q : hb.get? b with
    | some o' => rw [q] at e; cases e; exact k b o q
    | none => rw [q] at e; exact k1 b o e
  exact ⟨Heap.lt_size e', (Heap.get?_some_iff.mp e').2⟩
section
variable {w : World} {n : Nat} {env : Env} {σ σ1 σ2 σ3 : St} {hb hb' hb1 hb2 hb0 : Heap} {ρ ρ' ρ1 ρ2 ρ0 : List Addr} {s s' s1 s2 s0 : Shared} {μ μ' : List Cell} {a b c : AV} {X P G : List Nat}
theorem RelM.wok (R : RelM w hb ρ s μ) : WOK w hb s := ⟨R.top, R.keep, R.tabs, R.bare, rfl, fun n a c e => (by simp at e), fun c h => (nomatch h), List.nodup_nil, fun a h => (nomatch h), eEEAA R.fr fun L m g1 g2 _ => ⟨L, m, g1, g2, fun q => nomatch q⟩⟩
theorem RelM.wsub (R : WOK w hb s) (T : TopH w hb0) (k : hb0.StaysIn hb) : WOK w hb0 s :=
  ⟨T, fun b o e => R.keep b o (k b o e), fun P hP => ⟨(R.tabs P hP).1, by
    cases q : hb0.get? P with
    | none => rfl
    | some o => have := k _ _ q; rw [(R.tabs P hP).2] at this; cases this⟩, R.bare, rfl, fun n a c e => (by simp at e), fun c h => (nomatch h), List.nodup_nil, fun a h => (nomatch h), R.fr⟩
theorem tb_small {L : Addr} (h : 648 ≤ L) : L ∉ TB := fun q => by
  have : ∀ L ∈ TB, L < 648 := by decide
  exact absurd (this L q) (Nat.not_lt.mpr h)
theorem RelM.movedT (R : RelM w hb ρ s μ) (M : MovedT P G s s') (W : WOK w hb1 s') (hn : ∀ b o, hb1.get? b = some o → hb.get? b = some o ∨ Dead s.heap b) (hP : ∀ b ∈ P, hb.get? b = none ∧ b ∉ ρ) :
    RelM w (mrg hb hb1 s'.heap) ρ s' μ ∧ New hb (mrg hb hb1 s'.heap) s ∧ hb1.StaysIn (mrg hb hb1 s'.heap) := by
  have k : hb.StaysIn s'.heap := fun b o e => M.keep b o (R.keep b o e) (fun q => by rw [(hP b q).1] at e; cases e) (fun q => by rw [(R.tabs b q).2] at e; cases e)
  have k1 := W.keep
  have g := mrg_get k k1
  have b0 : hb.StaysIn (mrg hb hb1 s'.heap) := fun b o e => by rw [g, e]
  have b1 : hb1.StaysIn (mrg hb hb1 s'.heap) := fun b o e => by
    rw [g]
    cases q : hb.get? b with
    | none => exact e
    | some o' => have h1 := k b o' q; have h2 := k1 b o e; rw [h1] at h2; cases h2; rfl
  have nw : ∀ b o, (mrg hb hb1 s'.heap).get? b = some o → hb.get? b = some o ∨ Dead s.heap b := fun b o e => by
    rw [g] at e
    cases q : hb.get? b with
    | some o' => rw [q] at e; cases e; exact .inl rfl
    | none => rw [q] at e; exact (hn b o e).imp (fun e' => by rw [q] at e'; cases e') id
  have dd : ∀ b, hb.get? b = none → Live s.heap b → (mrg hb hb1 s'.heap).get? b = none := fun b e l => by
    cases q : (mrg hb hb1 s'.heap).get? b with
    | none => rfl
    | some o => exact (nw b o q).elim (fun e' => by rw [e] at e'; cases e') fun d => (nd l d).elim
  refine ⟨⟨R.top.keeps b0, fun b o e => ?_, fun T hT => ⟨(W.tabs T hT).1, dd T (R.tabs T hT).2 (tb_lt R hT)⟩, W.bare, R.len, fun i x c e1 e2 => ?_, R.ok, R.nod, fun x hx => ?_, ?_⟩, ⟨b0, nw⟩, b1⟩
  · rw [g] at e
    cases q : hb.get? b with
    | some o' => rw [q] at e; cases e; exact k b _ q
    | none => rw [q] at e; exact k1 b o e
  · refine eEA (R.mem i x c e1 e2) ?_; rintro o h1 h2
    have hx := List.mem_of_getElem? e1
    exact ⟨o, M.keep x o h1 (fun q => (hP x q).2 hx) (R.out x hx).2.1, h2.mono b0 List.prefix_rfl⟩
  · refine eAA (R.out x hx) ?_; rintro h1 h2 h3
    exact ⟨dd x h1 h3, h2, M.live x (fun q => (hP x q).2 hx) h3⟩
  · refine eEEAA R.fr ?_; rintro L m h1 h2 h3
    obtain ⟨m', h4⟩ := M.ns L m h1 h2
    exact ⟨L, m', h1, h4, h3⟩
structure ItG (w : World) (n : Nat) (hb0 : Heap) (ρ0 : List Addr) (P G : List Nat) (it : Value) (ys : List AV) (ob : Nat → Shared → Prop) (fi : Shared → Prop) : Prop where
  stable : ∀ i s s', ob i s → (∀ b o, b ∈ P ∨ b ∈ ρ0 → s.heap.get? b = some o → s'.heap.get? b = some o) → (∀ (j : Nat) (g : GenState), j ∈ G → s.gens[j]? = some g → s'.gens[j]? = some g) → ob i s'
  fin : ∀ i s, ob i s → fi s
  next : ∀ (A : Around) (s : Shared) (i : Nat) (Q : Option Value → Shared → Prop) (E : Value → Shared → Prop), Room n A → WOK w hb0 s → ob i s →
    (∀ y, ys[i]? = some y → ∀ s' v hb1, MovedT P G s s' → (∀ b ∈ P, Live s'.heap b) → WOK w hb1 s' → New hb0 hb1 s → ob (i + 1) s' → VRel w hb1 [] y v → Q (some v) s') →
    (ys[i]? = none → ∀ s', MovedT P G s s' → WOK w hb0 s' → fi s' → Q none s') → wpAny (model PRG w) A (pyNext it) Q E s
  self : ∀ (A : Around) (i : Nat) (s : Shared) (Q E : Value → Shared → Prop), ob i s → Q it s → wpAny (model PRG w) A (pyIter it) Q E s
  gen : ∀ (i : Nat) (s : Shared), ob i s → s.TypeIs it "generator"
  fist : ∀ (s s' : Shared), fi s → (∀ b o, b ∈ P → s.heap.get? b = some o → s'.heap.get? b = some o) → fi s'
end
noncomputable def AV.abs : AV → Bool
  | .none => true
  | .bool _ => true
  | .int _ => true
  | .str _ => true
  | _ => false
theorem VRel.abs {w : World} {h h' : Heap} {ρ ρ' : List Addr} {a : AV} {v : Value} (H : VRel w h ρ a v) (e : a.abs = true) : VRel w h' ρ' a v := by
  cases a <;> first | cases e; done | skip
  · rw [H.none_inv]; exact .none
  · rw [H.bool_inv]; exact .bool _
  · obtain ⟨t, rfl⟩ := H.int_inv; exact .int _ t
  · obtain ⟨t, rfl⟩ := H.str_inv; exact .str _ t
noncomputable def CAbs (w : World) (cl : List (Str × Addr)) (celc : List (Str × AV)) (h : Heap) : Prop :=
  ∀ x c, cl.lookup x = some c → ∃ r, h.IsCell c r ∧ ∀ av, celc.lookup x = some av → ∃ v, r = some v ∧ ∀ h' ρ', VRel w h' ρ' av v
noncomputable def GStep (w : World) (n : Nat) (cenv : Env) (tg elt : Expr) (celc : List (Str × AV)) (f : AV → AV) (y : AV) : Prop :=
  ∃ σ2 σ4, TGT w cenv tg y ⟨[], celc, []⟩ σ2 ∧ SE w n cenv elt σ2 (f y) σ4 ∧ (⟨[], celc, []⟩ : St).le σ4
structure GLife (w : World) (n : Nat) (cenv : Env) (cl : List (Str × Addr)) (celc : List (Str × AV)) (hb0 : Heap) (ρ0 : List Addr) (μ0 : List Cell) (sC : Shared) (Pin Gin : List Nat) (tg : Expr) (C : List Cell → Prop) (it : Value) (xs : List AV) (obi : Nat → Shared → Prop) : Prop where
  top : TopH w hb0
  It : ItAt w n tg C hb0 ρ0 Pin Gin it xs obi
  hC : C μ0
  cells : cenv.cells = cl
  dom : ∀ x av, celc.lookup x = some av → ∃ c, cl.lookup x = some c
  ab : ∀ x av, celc.lookup x = some av → av.abs = true
  nod : (fp cenv).Nodup
  keys : (cl.map (·.1)).Nodup
  far : 648 ≤ cenv.locals
  fpo : ∀ b ∈ fp cenv, hb0.get? b = none ∧ b ∉ ρ0 ∧ b ∉ TB ∧ b ∉ Pin
  pin : ∀ b ∈ Pin, hb0.get? b = none ∧ b ∉ ρ0 ∧ b ∉ TB
  pure : AV.pures xs = true
  RC : RelM w hb0 ρ0 sC μ0
section
variable {w : World} {n : Nat} {cenv : Env} {cl : List (Str × Addr)} {celc : List (Str × AV)} {hb0 hb hb1 : Heap} {ρ0 : List Addr} {μ0 : List Cell} {sC s s' s₀ : Shared} {Pin Gin : List Nat} {tg elt iter : Expr} {C : List Cell → Prop} {it : Value} {xs : List AV} {obi : Nat → Shared → Prop} {f : AV → AV} {A : Around}
structure OBS (w : World) (cenv : Env) (cl : List (Str × Addr)) (celc : List (Str × AV)) (ρ0 : List Addr) (sC : Shared) (Pin : List Nat) (obi : Nat → Shared → Prop) (i : Nat) (s : Shared) : Prop where
  ob : obi i s
  ns : ∃ m, s.heap.Ns cenv.locals m
  ca : CAbs w cl celc s.heap
  old : ∀ a ∈ ρ0, ∀ o, sC.heap.get? a = some o → s.heap.get? a = some o
  live : ∀ b ∈ fp cenv ++ Pin, Live s.heap b
theorem OBS.stable {i : Nat} (L : GLife w n cenv cl celc hb0 ρ0 μ0 sC Pin Gin tg C it xs obi) (o : OBS w cenv cl celc ρ0 sC Pin obi i s) (h : ∀ b o, b ∈ fp cenv ++ Pin ∨ b ∈ ρ0 → s.heap.get? b = some o → s'.heap.get? b = some o)
    (hg : ∀ (j : Nat) (g : GenState), j ∈ Gin → s.gens[j]? = some g → s'.gens[j]? = some g) : OBS w cenv cl celc ρ0 sC Pin obi i s' where
  ob := L.It.stable _ _ _ o.ob (fun b o hb e => h b o (.inl (List.mem_append_right _ hb)) e) hg
  ns := let ⟨m, hm⟩ := o.ns; ⟨m, ns_of hm fun o e => h _ o (.inl (List.mem_append_left _ (List.mem_cons_self ..))) e⟩
  ca := fun x c e => by
    refine eEA (o.ca x c e) ?_; rintro r h1 h2
    exact ⟨r, isCell_of h1 fun o e' => h c o (.inl (List.mem_append_left _ (List.mem_cons_of_mem _ (by rw [L.cells]; exact lookup_snd e)))) e', h2⟩
  old := fun a ha ob e => h a ob (.inr ha) (o.old a ha ob e)
  live := fun b hb => let ⟨ob, e⟩ := o.live b hb; ⟨ob, h b ob (.inl hb) e⟩
theorem OBS.frame {i : Nat} (L : GLife w n cenv cl celc hb0 ρ0 μ0 sC Pin Gin tg C it xs obi) (o : OBS w cenv cl celc ρ0 sC Pin obi i s) (W : WOK w hb0 s) : RelE w hb0 [] cenv s ⟨[], celc, []⟩ where
  m := W
  loc := let ⟨m, hm⟩ := o.ns; ⟨m, hm, fun x av e => by cases e⟩
  cel := fun x c e => by
    rw [L.cells] at e
    refine eEA (o.ca x c e) ?_; rintro r h1 h2
    exact ⟨r, h1, fun av q => eEA (h2 av q) fun v z1 z2 => ⟨v, z1, z2 _ _⟩⟩
  celD := fun x av e => by rw [L.cells]; exact L.dom x av e
  nod := L.nod
  out := fun b hb => eAAA (L.fpo b hb) fun h1 _ h3 _ => ⟨h1, (fun q => nomatch q), h3, o.live b (List.mem_append_left _ hb)⟩
  far := L.far
theorem OBS.full {i : Nat} (L : GLife w n cenv cl celc hb0 ρ0 μ0 sC Pin Gin tg C it xs obi) (o : OBS w cenv cl celc ρ0 sC Pin obi i s) (W : WOK w hb0 s) : RelM w hb0 ρ0 s μ0 where
  top := W.top
  keep := W.keep
  tabs := W.tabs
  bare := W.bare
  len := L.RC.len
  mem := fun n a c e1 e2 => eEA (L.RC.mem n a c e1 e2) fun ob h1 h2 => ⟨ob, o.old a (List.mem_of_getElem? e1) ob h1, h2⟩
  ok := L.RC.ok
  nod := L.RC.nod
  out := fun a ha => let ⟨h1, h2, ⟨ob, h3⟩⟩ := L.RC.out a ha; ⟨h1, h2, ob, o.old a ha ob h3⟩
  fr := let ⟨m, hm⟩ := o.ns; ⟨_, m, L.far, hm, (L.fpo _ (List.mem_cons_self ..)).2.1⟩
abbrev geR (w : World) (cenv : Env) (cl : List (Str × Addr)) (celc : List (Str × AV)) (hb0 : Heap) (Pin Gin : List Nat) (n : Nat) (s₀ : Shared) (r : Result) (s₁ : Shared) : Prop :=
  (r = .ok .next ∨ r = .ok (.ret .none)) ∧ n = 0 ∧ MovedT (fp cenv ++ Pin) Gin s₀ s₁ ∧ WOK w hb0 s₁ ∧ CAbs w cl celc s₁.heap
noncomputable def geY (w : World) (cenv : Env) (cl : List (Str × Addr)) (celc : List (Str × AV)) (hb0 : Heap) (ρ0 : List Addr) (sC : Shared) (Pin Gin : List Nat) (xs : List AV) (f : AV → AV) (obi : Nat → Shared → Prop) (m : Nat) (s₀ : Shared) (v : Value) (s : Shared) (kap : Resume → Shared → Prop) : Prop :=
  (∃ x hb1, xs[xs.length - 1 - m]? = some x ∧ VRel w hb1 [] (f x) v ∧ New hb0 hb1 s₀ ∧ WOK w hb1 s) ∧ MovedT (fp cenv ++ Pin) Gin s₀ s ∧ OBS w cenv cl celc ρ0 sC Pin obi (xs.length - m) s ∧
    ∀ s'' : Shared, WOK w hb0 s'' → OBS w cenv cl celc ρ0 sC Pin obi (xs.length - m) s'' → kap (.send .none) s''
theorem pures_get : ∀ {xs : List AV} {i : Nat} {x : AV}, AV.pures xs = true → xs[i]? = some x → x.pure = true
  | [], i, x, _, e => by simp at e
  | y :: xs, 0, x, h, e => by cases e; unfold AV.pures at h; rw [Bool.and_eq_true] at h; exact h.1
  | y :: xs, i + 1, x, h, e => by unfold AV.pures at h; rw [Bool.and_eq_true] at h; exact pures_get h.2 (by simpa using e)
theorem movedT_ext {X : List Nat} {hb' : Heap} {ρ' : List Addr} (x : Ext X hb [] s hb' ρ' s') (hp : ∀ L m, 648 ≤ L → L ∈ X → s.heap.Ns L m → ∃ m', s'.heap.Ns L m') : MovedT X Gin s s' :=
  ⟨fun b o e h1 h2 => x.keep b o e h1 (fun q => nomatch q) h2, fun b _ l => x.live b l, fun i g e _ => x.gens i g e, fun L m hl h => by
    by_cases q : L ∈ X
    · exact hp L m hl q h
    · exact ⟨m, ns_of h fun o e => x.keep L o e q (fun q => nomatch q) (tb_small hl)⟩, x.os⟩
theorem seg_gen {scope : Scope} {pos : Pos} (L : GLife w n cenv cl celc hb0 ρ0 μ0 sC Pin Gin tg C it xs obi) (hh : A.handled = none) (rm : Room n (A.over (.compLoop (.GeneratorExp elt [⟨tg, iter, [], 0⟩] scope pos) 0 it .none cenv) []))
    (hco : cenv.scope.isCoroutine = false) (ht : ∀ v, letOwnedTupleGo tg it v = pure ()) (step : ∀ (i : Nat) (y : AV), xs[i]? = some y → GStep w n cenv tg elt celc f y) :
    ∀ (k i : Nat) (s₀ s : Shared), xs.length - i = k → i ≤ xs.length → OBS w cenv cl celc ρ0 sC Pin obi i s → WOK w hb0 s → MovedT (fp cenv ++ Pin) Gin s₀ s →
      Seg (model PRG w) A (geR w cenv cl celc hb0 Pin Gin) (geY w cenv cl celc hb0 ρ0 sC Pin Gin xs f obi) (xs.length - i) s₀ (.compLoop (.GeneratorExp elt [⟨tg, iter, [], 0⟩] scope pos) 0 it .none cenv)
        ((model PRG w).den (.compLoop (.GeneratorExp elt [⟨tg, iter, [], 0⟩] scope pos) 0 it .none cenv)) [] s := by
  intro k
  induction k with
  | zero =>
    intro i s₀ s hk hi O W M
    have hin : i = xs.length := by omega
    show Seg _ A _ _ _ s₀ _ ((compTurn (.GeneratorExp elt [⟨tg, iter, [], 0⟩] scope pos) 0 it .none cenv).onRaise (leaving cenv)) [] s
    rw [compTurn_gen, Sem.onRaise_eq_wrap]
    refine seg_bind_wrap (wpAny_standAt ?_)
    refine seg_bind_wrap (L.It.next _ _ _ _ _ i _ _ rm (fun _ _ e => e) List.prefix_rfl (O.full L W) L.hC O.ob (fun x hx => ?_) fun _ s4 M4 => ?_)
    · rw [List.getElem?_eq_none (by omega)] at hx; cases hx
    · have M4' : MovedT (fp cenv ++ Pin) Gin s s4 := M4.t.weaken (fun b q => List.mem_append_right _ q) fun _ q => q
      have W4 : WOK w hb0 s4 := W.moved M4 fun b q => ⟨(L.pin b q).1, (fun q => nomatch q), (L.pin b q).2.2⟩
      have ca4 : CAbs w cl celc s4.heap := fun x c e => by
        refine eEA (O.ca x c e) ?_; rintro r h1 h2
        exact ⟨r, isCell_of h1 fun o e' => M4.keep c o e' (L.fpo c (List.mem_cons_of_mem _ (by rw [L.cells]; exact lookup_snd e))).2.2.2, h2⟩
      exact seg_end (.ok .next) ⟨.inl rfl, by omega, M.trans M4', W4, ca4⟩
  | succ k ih =>
    intro i s₀ s hk hi O W M
    have hlt : i < xs.length := by omega
    show Seg _ A _ _ _ s₀ _ ((compTurn (.GeneratorExp elt [⟨tg, iter, [], 0⟩] scope pos) 0 it .none cenv).onRaise (leaving cenv)) [] s
    rw [compTurn_gen, Sem.onRaise_eq_wrap]
    refine seg_bind_wrap (wpAny_standAt ?_)
    refine seg_bind_wrap (L.It.next _ _ _ _ _ i _ _ rm (fun _ _ e => e) List.prefix_rfl (O.full L W) L.hC O.ob (fun x hx s4 v M4 L4 o4 hv _ => ?_) fun hx => ?_)
    rotate_left
    · rw [List.getElem?_eq_getElem hlt] at hx; cases hx
    have M4' : MovedT (fp cenv ++ Pin) Gin s s4 := M4.t.weaken (fun b q => List.mem_append_right _ q) fun _ q => q
    have W4 : WOK w hb0 s4 := W.moved M4 fun b q => ⟨(L.pin b q).1, (fun q => nomatch q), (L.pin b q).2.2⟩
    have fpk : ∀ b ∈ fp cenv, ∀ o, s.heap.get? b = some o → s4.heap.get? b = some o := fun b hb o e => M4.keep b o e (L.fpo b hb).2.2.2
    have R4 : RelE w hb0 [] cenv s4 ⟨[], celc, []⟩ := (O.frame L W).moved M4 (fun b q => ⟨(L.pin b q).1, (fun q => nomatch q), (L.pin b q).2.2⟩) fun b q z => (L.fpo b z).2.2.2 q
    refine eEEAA (step i x hx) ?_; rintro σ2 σ4 htg he hle
    refine seg_bind_wrap (wpAny_of_eq (ht v) ?_)
    have hv' : VRel w hb0 [] x v := hv.pure (pures_get L.pure hx)
    refine seg_bind_wrap (htg _ _ _ _ _ _ _ rm.1 R4 hv' fun s5 X5 R5 => ?_)
    refine seg_bind_wrap (wpAny_tests_nil ?_)
    simp only [if_true]
    have hy : ∀ v, yieldOut cenv v = yieldValue v := fun v => by simp only [yieldOut, hco, Bool.false_eq_true, if_false]
    simp only [hy]
    rw [Sem.bind_eq_wrap', Sem.bind_eq_wrap', Sem.wrap_wrap, Sem.wrap_wrap]
    refine seg_wrap (he _ _ _ _ _ _ rm R5 fun hb6 ρ6 s6 u X6 R6 h6 => ?_)
    have hρ : ρ6 = [] := List.eq_nil_of_length_eq_zero (by rw [R6.m.len, ← hle.mem]; rfl)
    subst hρ
    have R6' := R6.le hle
    have X56 := X5.trans X6
    have M6 : MovedT (fp cenv ++ Pin) Gin s4 s6 := (movedT_ext (Gin := Gin) X56 fun Lf m hl q hns => ?_).weaken (fun b q => List.mem_append_left _ q) fun _ q => q
    rotate_left
    · rcases List.mem_cons.mp q with q | q
      · refine eEA R6'.loc ?_; rintro m' hm' _; exact ⟨m', q ▸ hm'⟩
      · refine eEA (List.mem_map.mp q) ?_; rintro ⟨z, c⟩ hz rfl
        have hlk : cenv.cells.lookup z = some c := lookup_of_mem (by rw [L.cells]; exact L.keys) hz
        refine eEA (R4.cel z c hlk) ?_; rintro r h1 _
        exact absurd rfl (ns_ne_cell hns h1)
    have O6 : OBS w cenv cl celc ρ0 sC Pin obi (i + 1) s6 := by
      refine ⟨L.It.stable _ _ _ o4 (fun b o hb e => X56.keep b o e (fun q => (L.fpo b q).2.2.2 hb) (fun q => nomatch q) (L.pin b hb).2.2) fun j g _ e => X56.gens j g e, ?_, fun z c e => ?_, fun a ha o e => ?_, fun b hb => ?_⟩
      · refine eEA R6'.loc ?_; rintro m' hm' _; exact ⟨m', hm'⟩
      · refine eEA (R6'.cel z c (by rw [L.cells]; exact e)) ?_; rintro r h1 h2
        exact ⟨r, h1, fun av q => eEA (h2 av q) fun v z1 z2 => ⟨v, z1, fun h' ρ' => z2.abs (L.ab z av q)⟩⟩
      · have h4 : s4.heap.get? a = some o := M4.keep a o (O.old a ha o e) fun q => (L.pin a q).2.1 ha
        exact X56.keep a o h4 (fun q => (L.fpo a q).2.1 ha) (fun q => nomatch q) (L.RC.out a ha).2.1
      · rcases List.mem_append.mp hb with q | q
        · exact (R6'.out b q).2.2.2
        · exact X56.live b (L4 b q)
    have hNew : New hb0 hb6 s := ⟨X56.base, fun b o e => (X56.fresh b o e).imp id fun d => by
      cases q : s.heap.get? b with
      | none => exact q
      | some o' =>
        by_cases z : b ∈ Pin
        · exact (nd (L4 b z) d).elim
        · exact (nd (M4.live b z ⟨o', q⟩) d).elim⟩
    have hNew0 : New hb0 hb6 s₀ := ⟨hNew.1, fun b o e => (hNew.2 b o e).imp id fun d => by
      cases q : s₀.heap.get? b with
      | none => exact q
      | some o' =>
        by_cases z : b ∈ fp cenv ++ Pin
        · exact (nd (O.live b z) d).elim
        · exact (nd (M.live b z ⟨o', q⟩) d).elim⟩
    rw [hk]
    have e1 : xs.length - 1 - k = i := by omega
    have e2 : xs.length - k = i + 1 := by omega
    have e3 : k = xs.length - (i + 1) := by omega
    refine seg_at (seg_yield rfl rfl rfl ⟨⟨x, hb6, by rw [e1]; exact hx, h6, hNew0, R6'.m⟩, (M.trans M4').trans M6, by rw [e2]; exact O6, fun s'' W'' O'' => ?_⟩)
    rw [e2] at O''
    refine seg_again rfl ?_
    rw [e3]
    exact ih (i + 1) s'' s'' (by omega) hlt O'' W'' MovedT.refl
end
section
variable {w : World} {n : Nat} {cenv : Env} {cl : List (Str × Addr)} {celc : List (Str × AV)} {hb0 hb hb1 : Heap} {ρ0 : List Addr} {μ0 : List Cell} {sC s s' s₀ : Shared} {Pin Gin : List Nat} {tg elt iter : Expr} {C : List Cell → Prop} {it : Value} {xs : List AV} {obi : Nat → Shared → Prop} {f : AV → AV} {A : Around}
theorem seg_gstart {scope : Scope} {pos : Pos} (L : GLife w n cenv cl celc hb0 ρ0 μ0 sC Pin Gin tg C it xs obi) (hh : A.handled = none) (rm : Room n (A.over (.compLoop (.GeneratorExp elt [⟨tg, iter, [], 0⟩] scope pos) 0 it .none cenv) []))
    (hco : cenv.scope.isCoroutine = false) (ht : ∀ v, letOwnedTupleGo tg it v = pure ()) (step : ∀ (i : Nat) (y : AV), xs[i]? = some y → GStep w n cenv tg elt celc f y) {s : Shared} (O : OBS w cenv cl celc ρ0 sC Pin obi 0 s) (W : WOK w hb0 s) :
    (GenState.fresh (.compStart (.GeneratorExp elt [⟨tg, iter, [], 0⟩] scope pos) 0 it .none cenv)).Goes (model PRG w) A (geR w cenv cl celc hb0 Pin Gin) (geY w cenv cl celc hb0 ρ0 sC Pin Gin xs f obi) xs.length (.send .none) s := by
  refine ⟨rfl, ?_⟩
  have loop := seg_gen (iter := iter) (scope := scope) (pos := pos) L hh rm hco ht step xs.length 0 s s (by simp) (Nat.zero_le _) O W MovedT.refl
  rw [Nat.sub_zero] at loop
  show Seg _ A _ _ _ s _ ((compStart (.GeneratorExp elt [⟨tg, iter, [], 0⟩] scope pos) 0 it .none cenv).onRaise (leaving cenv)) [] s
  unfold compStart
  rw [Sem.onRaise_eq_wrap]
  show Seg _ A _ _ _ s _ ((ask >>= _).wrap _ _ _ _) [] s
  refine seg_bind_wrap (wpAny_askSetting ?_)
  split
  · exact seg_again rfl loop
  · refine seg_bind_wrap (wpAny_rule ?_)
    show Seg _ A _ _ _ s _ ((standAt iter.pos >>= _).wrap _ _ _ _) [] s
    exact seg_bind_wrap (wpAny_standAt (seg_bind_wrap (L.It.self _ _ _ _ _ O.ob (seg_again rfl loop))))
theorem movedT_gen {P G : List Nat} {a g : Nat} {s₁ : Shared} {gs' : GenState} (hmv : MovedT P G (s.setGen g .running) s₁) : MovedT (a :: P) (g :: G) s (s₁.setGen g gs') := by
  refine ⟨fun b o e h1 h2 => hmv.keep b o e (fun q => h1 (List.mem_cons_of_mem _ q)) h2, fun b h l => hmv.live b (fun q => h (List.mem_cons_of_mem _ q)) l, fun i gg e hi => ?_, fun L m hl h => hmv.ns L m hl h, hmv.os⟩
  have hne : i ≠ g := fun q => hi (by simp [q])
  rw [(GenOnly.setGen s₁ g gs').2 i hne]
  exact hmv.gens i gg (by rw [(GenOnly.setGen s g .running).2 i hne]; exact e) (fun q => hi (List.mem_cons_of_mem _ q))
theorem WOK.setGen {g : Nat} {x : GenState} (W : WOK w hb s) (hx : x.bare = true) : WOK w hb (s.setGen g x) := ⟨W.top, W.keep, W.tabs, allBare_setGen W.bare hx, W.len, W.mem, W.ok, W.nod, W.out, W.fr⟩
noncomputable def obE (w : World) (n : Nat) (cenv : Env) (cl : List (Str × Addr)) (celc : List (Str × AV)) (hb0 : Heap) (ρ0 : List Addr) (sC : Shared) (Pin Gin : List Nat) (xs : List AV) (f : AV → AV) (obi : Nat → Shared → Prop) (a g : Nat) (i : Nat) (s : Shared) : Prop :=
  i ≤ xs.length ∧ s.heap.IsGen a g ∧ OBS w cenv cl celc ρ0 sC Pin obi i s ∧ ∃ gs, s.gens[g]? = some gs ∧ ∀ s'', WOK w hb0 s'' → OBS w cenv cl celc ρ0 sC Pin obi i s'' →
    gs.Goes (model PRG w) (ATop (n + 2)).in1 (geR w cenv cl celc hb0 Pin Gin) (geY w cenv cl celc hb0 ρ0 sC Pin Gin xs f obi) (xs.length - i) (.send .none) s''
theorem itG_of {a g : Nat} (L : GLife w n cenv cl celc hb0 ρ0 μ0 sC Pin Gin tg C it xs obi) (ha : a ∉ fp cenv ++ Pin) (haT : a ∉ TB) (hg : g ∉ Gin) :
    ItG w (n + 2) hb0 ρ0 (a :: (fp cenv ++ Pin)) (g :: Gin) (.ref a) (xs.map f) (obE w n cenv cl celc hb0 ρ0 sC Pin Gin xs f obi a g) (fun s => CAbs w cl celc s.heap) where
  stable := fun i s s' ⟨o1, o2, o3, gs, o4, o5⟩ h1 h2 => ⟨o1, eEEEA o2 fun o nm qn ho r => ⟨o, nm, qn, h1 a o (.inl (List.mem_cons_self ..)) ho, r⟩, o3.stable L (fun b o hb e => h1 b o (hb.imp (List.mem_cons_of_mem _) id) e) (fun j g hj e => h2 j g (List.mem_cons_of_mem _ hj) e), gs, h2 g _ (List.mem_cons_self ..) o4, o5⟩
  fin := fun i s o => o.2.2.1.ca
  self := fun A i s Q E o q => wpAny_pyIter_gen o.2.1 q
  gen := fun i s o => o.2.1.typeIs
  fist := fun s s' h hk x c e => by
    refine eEA (h x c e) ?_; rintro r h1 h2
    exact ⟨r, isCell_of h1 fun o e' => hk c o (List.mem_cons_of_mem _ (List.mem_append_left _ (List.mem_cons_of_mem _ (by rw [L.cells]; exact lookup_snd e)))) e', h2⟩
  next := fun A s i Q E rm W o k1 k2 => by
    obtain ⟨o1, o2, o3, gs, o4, o5⟩ := o
    refine wpAny_top rm ?_
    have O' : OBS w cenv cl celc ρ0 sC Pin obi i (s.setGen g .running) := o3.stable L (fun b o _ e => e) fun j gg hj e => by
      rw [(GenOnly.setGen s g .running).2 j (fun q => hg (q ▸ hj))]; exact e
    refine pyNext_gen (P := fun n s₀ s₁ => n = 0 ∧ MovedT (fp cenv ++ Pin) Gin s₀ s₁ ∧ WOK w hb0 s₁ ∧ CAbs w cl celc s₁.heap) rfl (W.top.nolimit.keeps W.keep) (by show 699 - (n + 2) < 1000; omega) o2 o4 (o5 _ (W.setGen rfl) O') (fun v s₁ gs' hbare hv => ?_) (fun s₁ hp h' hkp => ?_)
    · refine eAAA hv ?_; clear hv; rintro ⟨x, hb1, v1, v2, v3, v4⟩ v5 v6 v7
      cases hz : xs.length - i with
      | zero =>
        rw [hz] at v6 v7
        exact (v7 s₁ (v4.wsub L.top v3.1) v6).elim
      | succ m =>
        rw [hz] at v1 v6 v7
        have e1 : xs.length - 1 - (m + 1 - 1) = i := by omega
        have e2 : xs.length - (m + 1 - 1) = i + 1 := by omega
        rw [e1] at v1
        rw [e2] at v6 v7
        have a1 : s₁.heap.IsGen a g := eEEEA o2 fun o nm qn ho r => ⟨o, nm, qn, v5.keep a o ho ha haT, r⟩
        refine k1 (f x) (by rw [List.getElem?_map, v1]; rfl) _ v hb1 (movedT_gen v5) (fun b hb => ?_) (v4.setGen hbare) ⟨v3.1, v3.2⟩ ⟨by omega, a1, v6.stable L (fun b o _ e => e) (fun j gg hj e => by
          rw [(GenOnly.setGen s₁ g gs').2 j (fun q => hg (q ▸ hj))]; exact e), gs', setGen_self (gs := .running) (v5.gens g _ (setGen_self o4) hg), fun s'' z1 z2 => ?_⟩ v2
        · rcases List.mem_cons.mp hb with rfl | q
          · refine eEEEA a1 ?_; clear a1; rintro o _ _ ho _; exact ⟨o, ho⟩
          · exact v6.live b q
        · have e : xs.length - (i + 1) = m := by omega
          rw [e]
          exact v7 s'' z1 z2
    · refine eAAA hp ?_; clear hp; rintro e hmv W1 hca
      have W1' : WOK w hb0 { s₁.setGen g .finished with heap := h' } := (W1.setGen (g := g) (x := .finished) rfl).grow (s' := { s₁.setGen g .finished with heap := h' }) hkp rfl
      refine k2 (List.getElem?_eq_none (by rw [List.length_map]; omega)) _ ((movedT_gen (a := a) (gs' := .finished) hmv).trans ?_) W1' fun x c e => ?_
      · exact (moved_grow (s := s₁.setGen g .finished) (tk := s₁.toks) hkp).t
      · refine eEA (hca x c e) ?_; rintro r h1 h2
        exact ⟨r, isCell_of h1 fun o e => hkp c o e, h2⟩
end
section
variable {M : Model} {A : Around} {E : Value → Shared → Prop} {s : Shared}
theorem code_tab {env : Env} {c P : Addr} {ps : Array Value} {pos : Pos} {qualname : Str} {scope : Scope} {Q : Value → Shared → Prop} (hc : env.code = .ref c) (H : CodeHd s.heap c P) (hP : s.heap.get? P = some (tabObj ps)) (ht : TriplesOk ps.toList)
    (hQ : ∀ code h' tk (ps' : { ps : Array Value // TriplesOk ps.toList }), Heap.ExtBut P s.heap h' → h'.get? P = some (tabObj ps'.1) → Q code { s with heap := h', toks := tk }) :
    wpAny M A (genexprCode env pos qualname scope) Q E s := by
  obtain ⟨o, vs, file, tf, flags, tg, inF, text, tt, ho, _, hd, _, h11, h2, h7, h9, h10, hne⟩ := H
  unfold genexprCode codeAt
  rw [hc, if_neg (show ¬ ((Value.ref c == Value.none) = true) from Bool.false_ne_true)]
  refine wpAny_bind (wpAny_fieldsOf ho hd ?_)
  rw [h11]
  refine wpAny_bind (wpAny_fieldsOf hP rfl ?_)
  cases hnf : codeAmong pos ps.toList with
  | some cv => exact wpAny_pure (hQ cv s.heap s.toks ⟨ps, ht⟩ (Heap.ExtBut.refl _ _) hP)
  | none =>
    rw [h2, h7, h9, h10]
    refine wpAny_bind (wpAny_newCode fun c' P' h' tk hk hc' hP' hcode' hrec' => ?_)
    have hop' := hk _ _ hP
    refine wpAny_bind (wpAny_updateFieldsOfTheText hop' rfl ?_)
    have hobj : Obj.mapFields (fun vs => if (codeAmong pos vs.toList).isSome = true then vs else vs ++ #[rawInt pos.line, rawInt pos.col, .ref c']) (tabObj ps) = tabObj (ps ++ #[rawInt pos.line, rawInt pos.col, .ref c']) := by
      show ({ cls := .none, data := .fields (if (codeAmong pos ps.toList).isSome = true then ps else ps ++ #[rawInt pos.line, rawInt pos.col, .ref c']) } : Obj) = _
      rw [hnf]; rfl
    have hget := Heap.get?_update_self (h := h') (fun o => Obj.mapFields (fun vs => if (codeAmong pos vs.toList).isSome = true then vs else
      vs ++ #[rawInt pos.line, rawInt pos.col, .ref c']) o) hop' (by rw [hobj]; rfl)
    rw [hobj] at hget
    refine wpAny_bind (wpAny_fieldsOf hget rfl ?_)
    have hl : (ps ++ #[rawInt pos.line, rawInt pos.col, Value.ref c']).toList = ps.toList ++ [rawInt pos.line, rawInt pos.col, .ref c'] := by simp
    rw [hl, codeAmong_snoc _ ht hnf]
    exact wpAny_pure (hQ _ _ _ ⟨ps ++ #[rawInt pos.line, rawInt pos.col, .ref c'], by rw [hl]; exact TriplesOk_snoc _ _ _ _ ht⟩ (fun b o' hb e => ((Heap.SameBut.update ..).extBut b o' hb (hk b o' e))) hget)
end
section
variable {w : World} {n : Nat} {env : Env} {σ σ1 σ2 σ3 : St} {pos : Pos} {hb hb' hb1 hb2 hb0 : Heap} {ρ ρ' ρ1 ρ2 ρ0 : List Addr} {s s' s1 s2 s0 : Shared} {μ μ' : List Cell} {a b c : AV} {X P G : List Nat}
theorem RelE.tab {T : Addr} {h' : Heap} {tk : Nat} {ps' : { ps : Array Value // TriplesOk ps.toList }} (R : RelE w hb ρ env s σ) (hT : T ∈ TB) (hs : Heap.ExtBut T s.heap h') (hg : h'.get? T = some (tabObj ps'.1)) :
    RelE w hb ρ env { s with heap := h', toks := tk } σ ∧ Ext X hb ρ s hb ρ { s with heap := h', toks := tk } := by
  have kp : ∀ b o, s.heap.get? b = some o → b ∉ TB → h'.get? b = some o := fun b o e q => hs b o (fun z => q (z ▸ hT)) e
  have lv : ∀ b, Live s.heap b → Live h' b := fun b ⟨o, e⟩ => by
    by_cases q : b = T
    · exact q ▸ ⟨_, hg⟩
    · exact ⟨o, hs b o q e⟩
  have hbT : ∀ b o, hb.get? b = some o → b ∉ TB := fun b o e q => by rw [(R.m.tabs b q).2] at e; cases e
  refine ⟨⟨⟨R.m.top, fun b o e => kp b o (R.m.keep b o e) (hbT b o e), fun P hP => ⟨?_, (R.m.tabs P hP).2⟩, R.m.bare, R.m.len, fun i x c e1 e2 => ?_, R.m.ok, R.m.nod, fun x hx => ?_, ?_⟩, ?_, fun x c e => ?_, R.celD, R.nod, fun b hb => ?_, R.far⟩, ⟨fun _ _ e => e, List.prefix_rfl, fun _ _ e => .inl e, fun _ h => .inl h, fun b o e _ _ q => kp b o e q, lv, fun _ _ e => e, rfl⟩⟩
  · by_cases q : P = T
    · exact ⟨ps', q ▸ hg⟩
    · obtain ⟨ps, e⟩ := (R.m.tabs P hP).1; exact ⟨ps, hs P _ q e⟩
  · refine eEA (R.m.mem i x c e1 e2) ?_; rintro o h1 h2
    exact ⟨o, kp x o h1 (R.m.out x (List.mem_of_getElem? e1)).2.1, h2⟩
  · refine eAA (R.m.out x hx) ?_; rintro h1 h2 h3; exact ⟨h1, h2, lv x h3⟩
  · refine eEEAA R.m.fr ?_; rintro L m h1 h2 h3
    exact ⟨L, m, h1, ns_of h2 fun o e => kp L o e (tb_small h1), h3⟩
  · refine eEA R.loc ?_; rintro mp h1 h2
    exact ⟨mp, ns_of h1 fun o e => kp _ o e (tb_small R.far), h2⟩
  · refine eEA (R.cel x c e) ?_; rintro r h1 h2
    exact ⟨r, isCell_of h1 fun o e' => kp c o e' (R.out c (List.mem_cons_of_mem _ (lookup_snd e))).2.2.1, h2⟩
  · refine eAAA (R.out b hb) ?_; rintro h1 h2 h3 h4; exact ⟨h1, h2, h3, lv b h4⟩
set_option maxHeartbeats 1600000 in
theorem gexp_make {x : Str} {px gpos : Pos} {elt iter : Expr} {scope : Scope} {cl : List (Str × Addr)} {celc : List (Str × AV)} {Y : List AV → Prop} {C : List AV → List Cell → Prop} {f : AV → AV} {cc T : Addr} {A : Around} {E Q : Value → Shared → Prop} (hn : n ≤ 200)
    (h : SE w (n + 2) env iter σ a σ1) (hi : IterX w n (.Name x px) a σ1.mem Y C) (hC : ∀ xs, Y xs → C xs σ1.mem) (hpure : ∀ xs, Y xs → AV.pures xs = true)
    (step : ∀ (xs : List AV), Y xs → ∀ (Ca : Addr) (code : Value) (i : Nat) (y : AV), xs[i]? = some y → GStep w n (genEnv scope cl Ca code builtinsNs env) (.Name x px) elt celc f y)
    (hcode : env.code = .ref cc) (hhd : codeHdIn (Internal.hd.heap_1 w.params) cc T = true) (hT : T ∈ TB) (hglob : env.globals = mainGlobals)
    (hco : scope.isCoroutine = false) (hclos : closureFor scope env = pure cl) (hcell : ∀ y ∈ scope.names, y.2 ≠ .cell) (h0 : scope.names.lookup (".0" : Str) = some NameKind.local) (hkind : scope.kind = .function) (hs : ∀ x, genFold iter env x = pure x)
    (hcl : ∀ q ∈ cl, env.cells.lookup q.1 = some q.2) (hkeys : (cl.map (·.1)).Nodup) (hnd : (cl.map (·.2)).Nodup) (hdom : ∀ x av, celc.lookup x = some av → ∃ c, cl.lookup x = some c) (hag : ∀ x c, cl.lookup x = some c → celc.lookup x = σ1.cel.lookup x) (hab : ∀ x av, celc.lookup x = some av → av.abs = true)
    (rm : Room (n + 2) A) (R : RelE w hb ρ env s σ)
    (k : ∀ xs hb1 ρ1 s' a' P G ob, Y xs → Ext (fp env) hb ρ s hb1 ρ1 s' → RelE w hb1 ρ1 env s' σ1 → ItG w (n + 2) hb1 ρ1 P G (.ref a') (xs.map f) ob (fun s => CAbs w cl celc s.heap) → ob 0 s' →
      (∀ b ∈ P, (hb1.get? b = none ∧ b ∉ ρ1 ∧ b ∉ TB ∧ b ≠ env.locals ∧ (Dead s.heap b ∨ b ∈ cl.map (·.2))) ∧ Live s'.heap b) → (∀ g ∈ G, s.gens[g]? = none) → Q (.ref a') s') :
    wpAny (model PRG w) A (eval (.GeneratorExp elt [⟨.Name x px, iter, [], 0⟩] scope gpos) env) Q E s := by
  refine wpAny_GeneratorExp_make hco hclos hcell h0 hkind (by have := rm.2.1; show A.depth < 1000; lia) ?_ hs
  refine h _ _ _ _ _ _ rm R fun hb1 ρ1 s1 v X1 R1 h1 => ?_
  refine hi _ _ _ _ _ _ _ (rm.mono (by lia)) R1.m h1 fun xs it Pin Gin obi s2 hY X2 M2 It o2 hP hG => ?_
  have R2 : RelE w hb1 ρ1 env s2 σ1 := R1.step X2 M2
  refine ⟨R2.m.top.nolimit.keeps R2.m.keep, ?_⟩
  obtain ⟨⟨ps, hps⟩, hTn⟩ := R2.m.tabs T hT
  have hHd : CodeHd s2.heap cc T := codeHd_of_K R2.m.X hhd
  refine code_tab hcode hHd hps ps.2 fun code h3 tk3 ps3 hs3 hg3 => ?_
  obtain ⟨R3, X3⟩ := R2.tab (X := ([] : List Nat)) (tk := tk3) hT hs3 hg3
  generalize hs3' : ({ s2 with heap := h3, toks := tk3 } : Shared) = s3 at R3 X3
  refine eEEE R3.m.top.bm ?_; rintro mgb bm ob B
  rw [hglob]
  refine wpAny_builtinsFor (B.ns.keeps R3.m.keep) B.name B.ne (R3.m.keep _ _ B.obj) B.cls B.dict B.data ?_
  intro h4 hns4 hsb4
  have hCd : Dead s3.heap s3.heap.objs.size := dead_of_le (Nat.le_refl _)
  generalize hCa : s3.heap.objs.size = Ca at hns4 hsb4 hCd
  have k4 : s3.heap.StaysIn h4 := fun b o e => (hsb4.2 b fun q => by rw [q, hCd] at e; cases e).trans (Heap.get?_push_of_some _ e)
  have h4sz : h4.objs.size = Ca + 1 := by rw [hsb4.1, Heap.size_push, hCa]
  have had : Dead s3.heap h4.objs.size := dead_of_le (by rw [hCa, h4sz]; exact Nat.le_succ _)
  generalize hgo : ({ cls := .type "generator", data := .fields #[.int s3.gens.size 0, .str "<genexpr>" (s3.toks + 1), .str (env.qual ++ "<genexpr>") (s3.toks + 1 + 1)] } : Obj) = go
  have hga : (h4.push go).get? h4.objs.size = some go := Heap.get?_push_size _ (by rw [← hgo]; rfl)
  have k5 : s3.heap.StaysIn (h4.push go) := fun b o e => Heap.get?_push_of_some _ (k4 b o e)
  have hns5 : (h4.push go).Ns Ca _ := hns4.push go
  generalize had' : h4.objs.size = ga at hga had
  generalize hcode5 : (GenState.fresh (.compStart (.GeneratorExp elt [⟨.Name x px, iter, [], 0⟩] scope gpos) 0 it .none (genEnv scope cl Ca code builtinsNs env))) = gst
  have X5 : Ext ([] : List Nat) hb1 ρ1 s3 hb1 ρ1 { s3 with gens := s3.gens.push gst, toks := s3.toks + 1 + 1 + 1, heap := h4.push go } :=
    ⟨fun _ _ e => e, List.prefix_rfl, fun _ _ e => .inl e, fun _ h => .inl h, fun b o e _ _ _ => k5 b o e, live_stays k5, fun i gg e => by
      show (s3.gens.push _)[i]? = some gg
      have := (Array.getElem?_eq_some_iff.mp e).1
      rw [Array.getElem?_push, if_neg (by lia)]; exact e, rfl⟩
  have M5 : RelM w hb1 ρ1 { s3 with gens := s3.gens.push gst, toks := s3.toks + 1 + 1 + 1, heap := h4.push go } σ1.mem := by
    have := R3.m.grow (s' := { s3 with heap := h4.push go }) k5 rfl
    exact ⟨this.top, this.keep, this.tabs, this.bare.push (by rw [← hcode5]; rfl), this.len, this.mem, this.ok, this.nod, this.out, this.fr⟩
  have R5 := R3.step X5 M5
  have hgs5 : ({ s3 with gens := s3.gens.push gst, toks := s3.toks + 1 + 1 + 1, heap := h4.push go } : Shared).gens[s3.gens.size]? = some gst := by show (s3.gens.push gst)[s3.gens.size]? = _; simp
  have hheap5 : ({ s3 with gens := s3.gens.push gst, toks := s3.toks + 1 + 1 + 1, heap := h4.push go } : Shared).heap = h4.push go := rfl
  generalize hs5 : ({ s3 with gens := s3.gens.push gst, toks := s3.toks + 1 + 1 + 1, heap := h4.push go } : Shared) = s5 at X5 M5 R5 hgs5 hheap5
  -- places
  have cl_env : ∀ x c, cl.lookup x = some c → env.cells.lookup x = some c := fun x c e => hcl _ (mem_of_lookup e)
  have cl_fp : ∀ c ∈ cl.map (·.2), c ∈ fp env := fun c hc => by
    refine eEA (List.mem_map.mp hc) ?_; rintro q h1 rfl
    exact List.mem_cons_of_mem _ (lookup_snd (hcl q h1))
  have Ca_fp : Ca ∉ fp env := fun q => nd (R3.out _ q).2.2.2 hCd
  have l2 : ∀ b, Live s2.heap b → Live s3.heap b := X3.live
  have Pin1 : ∀ b ∈ Pin, Dead s1.heap b := fun b q => (hP b q).1
  have Pin3 : ∀ b ∈ Pin, Live s3.heap b := fun b q => l2 b (hP b q).2
  have fpc : ∀ b ∈ Ca :: cl.map (·.2), hb1.get? b = none ∧ b ∉ ρ1 ∧ b ∉ TB ∧ b ∉ Pin := fun b q => by
    rcases List.mem_cons.mp q with rfl | q
    · exact ⟨dead_base R3.m.keep hCd, fun q => nd (R3.m.out _ q).2.2 hCd, fun q => nd (tb_lt R3.m q) hCd, fun q => nd (Pin3 _ q) hCd⟩
    · refine eAAA (R1.out b (cl_fp b q)) ?_; rintro h1 h2 h3 h4
      exact ⟨h1, h2, h3, fun z => nd h4 (Pin1 b z)⟩
  have pinc : ∀ b ∈ Pin, hb1.get? b = none ∧ b ∉ ρ1 ∧ b ∉ TB := fun b q => ⟨dead_base R1.m.keep (Pin1 b q), fun z => nd (R1.m.out b z).2.2 (Pin1 b q), fun z => nd (tb_lt R1.m z) (Pin1 b q)⟩
  have GL : GLife w n (genEnv scope cl Ca code builtinsNs env) cl celc hb1 ρ1 σ1.mem s5 Pin Gin (.Name x px) (C xs) it xs obi :=
    { top := R1.m.top, It := It, hC := hC xs hY, cells := rfl, dom := hdom, ab := hab, nod := List.nodup_cons.mpr ⟨fun q => Ca_fp (cl_fp _ q), hnd⟩, keys := hkeys,
      far := by
        refine eEEAA R3.m.fr ?_; rintro L m q1 q2 _
        have h9 := Nat.le_of_lt (Nat.lt_of_le_of_lt q1 q2.lt)
        rw [hCa] at h9; exact h9,
      fpo := fpc, pin := pinc, pure := hpure xs hY, RC := M5 }
  have hob : obi 0 s5 := It.stable _ _ _ o2 (fun b o hb e => X5.keep b o (X3.keep b o e (fun q => nomatch q) (pinc b hb).2.1 (pinc b hb).2.2) (fun q => nomatch q) (pinc b hb).2.1 (pinc b hb).2.2) (fun j g _ e => X5.gens j g (X3.gens j g e))
  have O5 : OBS w (genEnv scope cl Ca code builtinsNs env) cl celc ρ1 s5 Pin obi 0 s5 := by
    refine ⟨hob, ⟨_, by rw [hheap5]; exact hns5⟩, fun x c e => ?_, fun _ _ _ e => e, fun b hb => ?_⟩
    · refine eEA (R5.cel x c (cl_env x c e)) ?_; rintro r h1 h2
      exact ⟨r, h1, fun av q => eEA (h2 av (by rw [← hag x c e]; exact q)) fun v z1 z2 => ⟨v, z1, fun h' ρ' => z2.abs (hab x av q)⟩⟩
    · rcases List.mem_append.mp hb with q | q
      · rcases List.mem_cons.mp q with rfl | q
        · show Live s5.heap _; rw [hheap5]; exact live_ns hns5
        · exact (R5.out b (cl_fp b q)).2.2.2
      · exact X5.live b (Pin3 b q)
  have ga_fp : ga ∉ fp (genEnv scope cl Ca code builtinsNs env) ++ Pin := fun q => by
    rcases List.mem_append.mp q with q | q
    · rcases List.mem_cons.mp q with q | q
      · have : ga = Ca := q
        lia
      · exact nd (R3.out _ (cl_fp _ q)).2.2.2 had
    · exact nd (Pin3 _ q) had
  have hGin : s3.gens.size ∉ Gin := fun q => by
    have h9 := (hG _ q).2
    have h8 : s3.gens = s2.gens := by rw [← hs3']
    rw [h8] at h9
    exact Nat.lt_irrefl _ h9
  have dead0 : ∀ b, Dead s1.heap b → Dead s.heap b := fun b d => dead_back X1.live d
  have dead3 : ∀ b, Dead s3.heap b → Dead s.heap b := fun b d => dead0 b (dead_back (fun b q => l2 b (X2.live b q)) d)
  have gn : ∀ g : Nat, s1.gens[g]? = none → s.gens[g]? = none := fun g e => by
    cases z : s.gens[g]? with
    | none => rfl
    | some gs => have := X1.gens g gs z; rw [e] at this; cases this
  have IG := itG_of (f := f) GL ga_fp (fun q => nd (tb_lt R3.m q) had) hGin
  refine k xs hb1 ρ1 s5 ga _ _ _ hY (((X1.trans (X2.weaken fun _ q => nomatch q)).trans (X3.weaken fun _ q => nomatch q)).trans (X5.weaken fun _ q => nomatch q)) R5 IG ⟨Nat.zero_le _, ?_, O5, gst, hgs5, fun s'' W'' O'' => ?_⟩ (fun b hb => ?_) (fun g hg => ?_)
  · rw [hheap5]; exact ⟨_, _, _, hga, by rw [← hgo], by rw [← hgo], by rw [← hgo]⟩
  · rw [← hcode5]
    exact seg_gstart (iter := iter) (scope := scope) (pos := gpos) GL rfl ⟨rfl, by show 699 - (n + 2) + 0 + 1 + n < 700; lia, by show 7999 - 20 * (n + 2) + 1 + 0 + 3 + 20 * n < 8000; lia⟩ hco (fun _ => rfl) (step xs hY Ca code) O'' W''
  · refine ⟨?_, ?_⟩
    rotate_left
    · rcases List.mem_cons.mp hb with rfl | hb
      · rw [hheap5]; exact ⟨_, hga⟩
      · exact O5.live b hb
    have loc3 : Live s3.heap env.locals := (R3.out _ (List.mem_cons_self ..)).2.2.2
    rcases List.mem_cons.mp hb with rfl | hb
    · exact ⟨dead_base R3.m.keep had, fun q => nd (R3.m.out _ q).2.2 had, fun q => nd (tb_lt R3.m q) had, fun q => nd loc3 (q ▸ had), .inl (dead3 _ had)⟩
    · rcases List.mem_append.mp hb with q | q
      · refine eAAA (fpc b q) ?_; rintro q1 q2 q3 _
        rcases List.mem_cons.mp q with q | q
        · have q' : b = Ca := q
          subst q'
          exact ⟨q1, q2, q3, fun z => nd loc3 (z ▸ hCd), .inl (dead3 _ hCd)⟩
        · refine ⟨q1, q2, q3, fun z => ?_, .inr q⟩
          refine eEA (List.mem_map.mp q) ?_; rintro z1 z2 z3
          exact (List.nodup_cons.mp R3.nod).1 (by have := lookup_snd (hcl z1 z2); rwa [z3, z] at this)
      · refine eAA (pinc b q) ?_; rintro q1 q2 q3
        exact ⟨q1, q2, q3, fun z => nd (R1.out _ (List.mem_cons_self ..)).2.2.2 (z ▸ Pin1 b q), .inl (dead0 _ (Pin1 b q))⟩
  · rcases List.mem_cons.mp hg with rfl | q
    · refine gn _ ?_
      cases z : s1.gens[s3.gens.size]? with
      | none => rfl
      | some gs =>
        have h8 := X3.gens _ gs (X2.gens _ gs z)
        rw [Array.getElem?_eq_none (Nat.le_refl _)] at h8; cases h8
    · exact gn _ (hG g q).1
end
section
variable {w : World} {n : Nat} {hb hb' hb1 hb2 hb0 : Heap} {ρ ρ0 : List Addr} {s s' s1 s2 s0 : Shared} {μ μ' : List Cell} {P G : List Nat} {A : Around} {E : Value → Shared → Prop} {ys : List AV} {ob : Nat → Shared → Prop} {fi : Shared → Prop} {a : Addr}
theorem new_trans (x : New hb hb1 s) (y : New hb1 hb2 s1) (M : MovedT P G s s1) (hP : ∀ b ∈ P, Live s1.heap b) : New hb hb2 s :=
  ⟨fun b o e => y.1 b o (x.1 b o e), fun b o e => (y.2 b o e).elim (fun e => x.2 b o e) fun d => .inr (by
    cases q : s.heap.get? b with
    | none => exact q
    | some o' =>
      by_cases z : b ∈ P
      · exact (nd (hP b z) d).elim
      · exact (nd (M.live b z ⟨o', q⟩) d).elim)⟩
structure CSt (w : World) (hb0 : Heap) (ρ0 : List Addr) (P : List Nat) (hb : Heap) (ρ : List Addr) (s : Shared) (μ : List Cell) : Prop where
  R : RelM w hb ρ s μ
  top : TopH w hb0
  sub : hb0.StaysIn hb
  pl : ∀ b ∈ P, hb.get? b = none ∧ b ∉ ρ ∧ b ∉ TB
  r0 : ∀ b ∈ ρ0, b ∈ ρ
  lv : ∀ b ∈ P, Live s.heap b
theorem ItG.step {it : Value} {i : Nat} {Q : Option Value → Shared → Prop} (It : ItG w n hb0 ρ0 P G it ys ob fi) (rm : Room n A) (c : CSt w hb0 ρ0 P hb ρ s μ) (o : ob i s)
    (k1 : ∀ y, ys[i]? = some y → ∀ s' v hb', MovedT P G s s' → (∀ b ∈ P, Live s'.heap b) → New hb hb' s → CSt w hb0 ρ0 P hb' ρ s' μ → ob (i + 1) s' → VRel w hb' ρ y v → Q (some v) s')
    (k2 : ys[i]? = none → ∀ s' hb', MovedT P G s s' → New hb hb' s → RelM w hb' ρ s' μ → fi s' → Q none s') : wpAny (model PRG w) A (pyNext it) Q E s := by
  refine It.next A s i Q E rm (c.R.wok.wsub c.top c.sub) o (fun y hy s' v hb1 M L W N o' hv => ?_) fun hy s' M W f => ?_
  · refine eAA (c.R.movedT M W (fun b o e => (N.2 b o e).imp (fun e => c.sub b o e) id) (fun b q => ⟨(c.pl b q).1, (c.pl b q).2.1⟩)) ?_; rintro R' N' k'
    refine k1 y hy s' v _ M L N' ⟨R', c.top, fun b o e => N'.1 b o (c.sub b o e), fun b hbP => ⟨?_, (c.pl b hbP).2⟩, c.r0, L⟩ o' (hv.mono k' List.nil_prefix)
    cases q : (mrg hb hb1 s'.heap).get? b with
    | none => rfl
    | some o2 => exact (N'.2 b o2 q).elim (fun e => by rw [(c.pl b hbP).1] at e; cases e) fun d => (nd (c.lv b hbP) d).elim
  · refine eAA (c.R.movedT M W (fun b o e => .inl (c.sub b o e)) (fun b q => ⟨(c.pl b q).1, (c.pl b q).2.1⟩)) ?_; rintro R' N' k'
    exact k2 hy s' _ M N' R' f
theorem all_loop {it : Value} (It : ItG w n hb0 ρ0 P G it ys ob fi) (rm : Room (n + 1) A) (hall : ∀ y ∈ ys, y = .bool true) {R : Result → Shared → Prop} : ∀ (k i : Nat) (s : Shared) (hb : Heap), ys.length - i = k → CSt w hb0 ρ0 P hb ρ s μ → ob i s →
    (∀ s' hb', MovedT P G s s' → New hb hb' s → RelM w hb' ρ s' μ → fi s' → R (.ok (.ret (.bool true))) s') → codeAny (model PRG w) A (.builtin "all.loop" ⟨[it], []⟩) R s := by
  intro k
  induction k with
  | zero =>
    intro i s hb hk c o k2
    refine codeAny_builtin F.entry_all_loop ?_
    rw [Around.under_plainId F.plain_all_loop _]
    show wpAny _ A.in1 (pyNext it >>= _) _ _ s
    refine wpAny_bind (It.step rm.in1 c o (fun y hy => ?_) fun _ s' hb' M N R' f => ?_)
    · rw [List.getElem?_eq_none (by omega)] at hy; cases hy
    · exact wpAny_bind (wpAny_rule (wpAny_pure (k2 s' hb' M N R' f)))
  | succ k ih =>
    intro i s hb hk c o k2
    have hlt : i < ys.length := by omega
    refine codeAny_builtin F.entry_all_loop ?_
    rw [Around.under_plainId F.plain_all_loop _]
    show wpAny _ A.in1 (pyNext it >>= _) _ _ s
    refine wpAny_bind (It.step rm.in1 c o (fun y hy s' v hb' M L N c' o' hv => ?_) fun hy => ?_)
    · have := hall y (List.mem_of_getElem? hy)
      subst this
      obtain rfl := VRel.bool_inv hv
      refine wpAny_bind (wpAny_holding (wpAny_truthy_bool ?_))
      refine wpAny_bind (wpAny_letGo ?_)
      simp only [if_true]
      exact wpAny_pure ⟨plainId_quiet F.plain_all_loop _, ih (i + 1) s' hb' (by omega) c' o' fun s'' hb'' M'' N'' R'' f'' => k2 s'' hb'' (M.trans M'') (new_trans N N'' M L) R'' f''⟩
    · rw [List.getElem?_eq_getElem hlt] at hy; cases hy
theorem any_loop {it : Value} (It : ItG w n hb0 ρ0 P G it ys ob fi) (rm : Room (n + 1) A) (hall : ∀ y ∈ ys, y = .bool false) {R : Result → Shared → Prop} : ∀ (k i : Nat) (s : Shared) (hb : Heap), ys.length - i = k → CSt w hb0 ρ0 P hb ρ s μ → ob i s →
    (∀ s' hb', MovedT P G s s' → New hb hb' s → RelM w hb' ρ s' μ → fi s' → R (.ok (.ret (.bool false))) s') → codeAny (model PRG w) A (.builtin "any.loop" ⟨[it], []⟩) R s := by
  intro k
  induction k with
  | zero =>
    intro i s hb hk c o k2
    refine codeAny_builtin F.entry_any_loop ?_
    rw [Around.under_plainId F.plain_any_loop _]
    show wpAny _ A.in1 (pyNext it >>= _) _ _ s
    refine wpAny_bind (It.step rm.in1 c o (fun y hy => ?_) fun _ s' hb' M N R' f => ?_)
    · rw [List.getElem?_eq_none (by omega)] at hy; cases hy
    · exact wpAny_bind (wpAny_rule (wpAny_pure (k2 s' hb' M N R' f)))
  | succ k ih =>
    intro i s hb hk c o k2
    have hlt : i < ys.length := by omega
    refine codeAny_builtin F.entry_any_loop ?_
    rw [Around.under_plainId F.plain_any_loop _]
    show wpAny _ A.in1 (pyNext it >>= _) _ _ s
    refine wpAny_bind (It.step rm.in1 c o (fun y hy s' v hb' M L N c' o' hv => ?_) fun hy => ?_)
    · have := hall y (List.mem_of_getElem? hy)
      subst this
      obtain rfl := VRel.bool_inv hv
      refine wpAny_bind (wpAny_holding (wpAny_truthy_bool ?_))
      refine wpAny_bind (wpAny_letGo ?_)
      simp only [Bool.false_eq_true, if_false]
      exact wpAny_pure ⟨plainId_quiet F.plain_any_loop _, ih (i + 1) s' hb' (by omega) c' o' fun s'' hb'' M'' N'' R'' f'' => k2 s'' hb'' (M.trans M'') (new_trans N N'' M L) R'' f''⟩
    · rw [List.getElem?_eq_getElem hlt] at hy; cases hy
structure Eaten (P G ρ : List Nat) (s s' : Shared) : Prop where
  keep : ∀ b o, s.heap.get? b = some o → b ∉ P → b ∉ ρ → b ∉ TB → s'.heap.get? b = some o
  live : ∀ b, b ∉ P → Live s.heap b → Live s'.heap b
  gens : ∀ (i : Nat) (g : GenState), s.gens[i]? = some g → i ∉ G → s'.gens[i]? = some g
  os : s'.os = s.os
theorem MovedT.eaten (M : MovedT P G s s') : Eaten P G ρ s s' := ⟨fun b o e h1 _ h3 => M.keep b o e h1 h3, M.live, M.gens, M.os⟩
theorem Ext.eaten (x : Ext [] hb ρ s hb' ρ s') : Eaten P G ρ s s' := ⟨fun b o e _ h2 h3 => x.keep b o e (fun q => nomatch q) h2 h3, fun b _ h => x.live b h, fun i g e _ => x.gens i g e, x.os⟩
theorem Eaten.trans (x : Eaten P G ρ s s1) (y : Eaten P G ρ s1 s2) : Eaten P G ρ s s2 :=
  ⟨fun b o e h1 h2 h3 => y.keep b o (x.keep b o e h1 h2 h3) h1 h2 h3, fun b h l => y.live b h (x.live b h l), fun i g e h => y.gens i g (x.gens i g e h) h, y.os.trans x.os⟩
noncomputable def NewP (q : Prop) (P : List Nat) (hb hb1 : Heap) (s : Shared) : Prop := hb.StaysIn hb1 ∧ ∀ b o, hb1.get? b = some o → hb.get? b = some o ∨ Dead s.heap b ∨ (b ∈ P ∧ q)
theorem New.p {q : Prop} (x : New hb hb1 s) : NewP q P hb hb1 s := ⟨x.1, fun b o e => (x.2 b o e).imp id .inl⟩
noncomputable def Eats (w : World) (m : Nat) (n : Nat) (q : Prop) (id : String) (ks : List (Str × AV)) (μ : List Cell) (ys : List AV) (r : AV) : Prop :=
  ∀ (A : Around) (hb0 hb : Heap) (ρ0 ρ : List Addr) (s : Shared) (a : Addr) (P G : List Nat) (ob : Nat → Shared → Prop) (fi : Shared → Prop) (kvs : List (Str × Value)) (Q E : Value → Shared → Prop), Room m A →
    ItG w n hb0 ρ0 P G (.ref a) ys ob fi → CSt w hb0 ρ0 P hb ρ s μ → ob 0 s → KRels w hb ρ ks kvs →
    (∀ s' hb' v, Eaten P G ρ s s' → NewP q P hb hb' s → RelM w hb' ρ s' μ → fi s' → VRel w hb' ρ r v → Q v s') → wpAny (model PRG w) A (call (.builtin id) [.ref a] kvs) Q E s
theorem eats_all (hall : ∀ y ∈ ys, y = .bool true) : Eats w (n + 2) n False "all" [] μ ys (.bool true) := fun A hb0 hb ρ0 ρ s a P G ob fi kvs Q E rm It c o hk k => by
  obtain rfl := hk.inv0
  refine call_function_tree F.kind_all F.plain_all F.entry_all (F.args_all1 _) ?_
  unfold Builtin.«all»
  refine wpAny_bind (m := oneArg "all" _) (wpAny_pure ?_)
  refine wpAny_bind (It.self _ _ _ _ _ o ?_)
  exact wpAny_pure ⟨plainId_quiet F.plain_all_loop _, all_loop It (rm.mono (by omega)) hall ys.length 0 s hb (by simp) c o fun s' hb' M N R f => k s' hb' _ M.eaten N.p R f (.bool _)⟩
theorem eats_any (hall : ∀ y ∈ ys, y = .bool false) : Eats w (n + 2) n False "any" [] μ ys (.bool false) := fun A hb0 hb ρ0 ρ s a P G ob fi kvs Q E rm It c o hk k => by
  obtain rfl := hk.inv0
  refine call_function_tree F.kind_any F.plain_any F.entry_any (F.args_any1 _) ?_
  unfold Builtin.«any»
  refine wpAny_bind (m := oneArg "any" _) (wpAny_pure ?_)
  refine wpAny_bind (It.self _ _ _ _ _ o ?_)
  exact wpAny_pure ⟨plainId_quiet F.plain_any_loop _, any_loop It (rm.mono (by omega)) hall ys.length 0 s hb (by simp) c o fun s' hb' M N R f => k s' hb' _ M.eaten N.p R f (.bool _)⟩
end
section
variable {w : World} {n : Nat} {hb hb' hb1 hb2 hb0 : Heap} {ρ ρ0 : List Addr} {s s' s1 s2 s0 : Shared} {μ μ' : List Cell} {P G : List Nat} {A : Around} {E : Value → Shared → Prop} {ys : List AV} {ob : Nat → Shared → Prop} {fi : Shared → Prop} {a : Addr}
theorem VRels.snoc {h : Heap} {l : List AV} {vs : List Value} {x : AV} {v : Value} (r : VRels w h ρ l vs) (hx : VRel w h ρ x v) : VRels w h ρ (l ++ [x]) (vs ++ [v]) := r.append (.cons hx .nil)
theorem CSt.upd {S : Addr} {o : Obj} {h' : Heap} {tk : Nat} (c : CSt w hb0 ρ0 P hb ρ s μ) (hS : hb.get? S = none ∧ S ∉ ρ ∧ S ∉ TB ∧ S ∉ P) (e : s.heap.get? S = some o) (hd : ∀ es ep, o.data ≠ .dict es ep) (hs : Heap.SameBut S s.heap h') :
    CSt w hb0 ρ0 P hb ρ { s with heap := h', toks := tk } μ ∧ Moved [S] [] s { s with heap := h', toks := tk } := by
  have M : Moved [S] [] s { s with heap := h', toks := tk } := moved_same e hd hs
  exact ⟨⟨c.R.moved M fun b q => by rw [List.mem_singleton.mp q]; exact ⟨hS.1, hS.2.1, hS.2.2.1⟩, c.top, c.sub, c.pl, c.r0, fun b hb => M.live b (fun q => hS.2.2.2 (List.mem_singleton.mp q ▸ hb)) (c.lv b hb)⟩, M⟩
theorem ItG.keep {it : Value} {i : Nat} {S : Addr} (It : ItG w n hb0 ρ0 P G it ys ob fi) (c : CSt w hb0 ρ0 P hb ρ s μ) (hS : S ∉ ρ ∧ S ∉ P) (M : Moved [S] [] s s') (o : ob i s) : ob i s' :=
  It.stable i s s' o (fun b ob hb e => M.keep b ob e fun q => by
    rw [List.mem_singleton.mp q] at hb
    exact hb.elim hS.2 fun z => hS.1 (c.r0 _ z)) fun j g _ e => M.gens j g e (fun q => nomatch q)
theorem ext_loop {it res : Value} {S : Addr} (It : ItG w n hb0 ρ0 P G it ys ob fi) (rm : Room (n + 1) A) (hz : ys.length ≤ 1000) {R : Result → Shared → Prop} : ∀ (k i : Nat) (s : Shared) (hb : Heap) (acc : List Value) (cc : Nat), ys.length - i = k → i ≤ ys.length → CSt w hb0 ρ0 P hb ρ s μ → ob i s →
    (hb.get? S = none ∧ S ∉ ρ ∧ S ∉ TB ∧ S ∉ P) → s.heap.get? S = some (listOf acc.toArray cc) → VRels w hb ρ (ys.take i) acc →
    (∀ s' hb' vs cc', MovedT (S :: P) G s s' → New hb hb' s → RelM w hb' ρ s' μ → fi s' → s'.heap.get? S = some (listOf (List.toArray vs) cc') → VRels w hb' ρ ys vs → R (.ok (.ret res)) s') →
    codeAny (model PRG w) A (.builtin "list.extend.loop" ⟨[.ref S, it, res], []⟩) R s := by
  intro k
  induction k with
  | zero =>
    intro i s hb acc cc hk hi c o hS hg hv k2
    refine codeAny_builtin F.entry_extend_loop ?_
    rw [Around.under_plainId F.plain_extend_loop _]
    show wpAny _ A.in1 (pyNext it >>= _) _ _ s
    refine wpAny_bind (It.step rm.in1 c o (fun y hy => ?_) fun _ s' hb' M N R' f => ?_)
    · rw [List.getElem?_eq_none (by lia)] at hy; cases hy
    · rw [List.take_of_length_le (by lia)] at hv
      exact wpAny_pure (k2 s' hb' acc cc (M.weaken (fun b q => List.mem_cons_of_mem _ q) fun _ q => q) N R' f (M.keep S _ hg hS.2.2.2 hS.2.2.1) (hv.mono N.1 List.prefix_rfl))
  | succ k ih =>
    intro i s hb acc cc hk hi c o hS hg hv k2
    have hlt : i < ys.length := by lia
    refine codeAny_builtin F.entry_extend_loop ?_
    rw [Around.under_plainId F.plain_extend_loop _]
    show wpAny _ A.in1 (pyNext it >>= _) _ _ s
    refine wpAny_bind (It.step rm.in1 c o (fun y hy s' v hb' M L N c' o' hy' => ?_) fun hy => ?_)
    rotate_left
    · rw [List.getElem?_eq_getElem hlt] at hy; cases hy
    have hg' : s'.heap.get? S = some (listOf acc.toArray cc) := M.keep S _ hg hS.2.2.2 hS.2.2.1
    have hS' : hb'.get? S = none ∧ S ∉ ρ ∧ S ∉ TB ∧ S ∉ P := by
      refine ⟨?_, hS.2⟩
      cases q : hb'.get? S with
      | none => rfl
      | some o2 => exact (N.2 S o2 q).elim (fun e => by rw [hS.1] at e; cases e) fun d => (nd' hg d).elim
    have hacc : VRels w hb' ρ (ys.take (i + 1)) (acc ++ [v]) := by
      rw [List.take_add_one, hy]
      exact (hv.mono N.1 List.prefix_rfl).snoc hy'
    have hl := hv.length
    rw [List.length_take] at hl
    show wpAny _ A.in1 (updateSeq S (·.push v) >>= _) _ _ _
    have hsb : Heap.SameBut S s'.heap (s'.heap.update S (Obj.mapSeq (·.push v))) := Heap.SameBut.update _ _ _
    obtain ⟨cc2, hg2⟩ := map_seq (us := acc) (vs := acc ++ [v]) (·.push v) (by simp) hg'
    obtain ⟨c2, M2⟩ := c'.upd (tk := s'.toks) hS' hg' (fun es ep z => by cases z) hsb
    refine wpAny_bind (wpAny_updateSeq hg' rfl (wpAny_pure ⟨plainId_quiet F.plain_extend_loop _, ih (i + 1) _ hb' (acc ++ [v]) cc2 (by lia) hlt c2 (It.keep c' ⟨hS'.2.1, hS'.2.2.2⟩ M2 o') hS' hg2 hacc fun s'' hb'' vs cc' M'' N'' R'' f'' g'' v'' => ?_⟩) (by rw [List.size_toArray, sizeLine_eq]; lia) (by show (acc.toArray.push v).size ≤ _; rw [Array.size_push, List.size_toArray, sizeLine_eq]; lia))
    have M3 : MovedT (S :: P) G s { s' with heap := s'.heap.update S (Obj.mapSeq (·.push v)) } := (M.weaken (fun b q => List.mem_cons_of_mem _ q) fun _ q => q).trans (M2.t.weaken (fun b q => by rw [List.mem_singleton.mp q]; exact List.mem_cons_self ..) fun _ q => nomatch q)
    refine k2 s'' hb'' vs cc' (M3.trans M'') (new_trans N N'' M3 fun b q => ?_) R'' f'' g'' v''
    rcases List.mem_cons.mp q with rfl | q
    · exact ⟨_, hg2⟩
    · exact c2.lv b q
theorem movedT_drop {S : Addr} {o : Obj} {tk : Nat} (M : MovedT (S :: P) G { s with heap := s.heap.push o, toks := tk } s') (hS : S = s.heap.objs.size) : MovedT P G s s' :=
  ⟨fun b ob e h1 h2 => M.keep b ob (Heap.get?_push_of_some _ e) (fun q => by
      rcases List.mem_cons.mp q with q | q
      · rw [q, hS] at e; exact absurd (Heap.lt_size e) (Nat.lt_irrefl _)
      · exact h1 q) h2,
   fun b h1 ⟨ob, e⟩ => M.live b (fun q => by
      rcases List.mem_cons.mp q with q | q
      · rw [q, hS] at e; exact absurd (Heap.lt_size e) (Nat.lt_irrefl _)
      · exact h1 q) ⟨ob, Heap.get?_push_of_some _ e⟩,
   M.gens, fun L m hl h => M.ns L m hl (h.push _), M.os⟩
theorem CSt.push {o : Obj} {tk : Nat} (c : CSt w hb0 ρ0 P hb ρ s μ) : CSt w hb0 ρ0 P hb ρ { s with heap := s.heap.push o, toks := tk } μ :=
  ⟨c.R.grow (fun b o e => Heap.get?_push_of_some _ e) rfl, c.top, c.sub, c.pl, c.r0, fun b hb => live_stays (fun b o e => Heap.get?_push_of_some _ e) b (c.lv b hb)⟩
theorem CSt.new_place (c : CSt w hb0 ρ0 P hb ρ s μ) : hb.get? s.heap.objs.size = none ∧ s.heap.objs.size ∉ ρ ∧ s.heap.objs.size ∉ TB ∧ s.heap.objs.size ∉ P := by
  have d : Dead s.heap s.heap.objs.size := dead_of_le (Nat.le_refl _)
  exact ⟨dead_base c.R.keep d, fun q => nd (c.R.out _ q).2.2 d, fun q => nd (tb_lt c.R q) d, fun q => nd (c.lv _ q) d⟩
theorem collect_gen {a : Addr} {Q : List Value → Shared → Prop} (It : ItG w n hb0 ρ0 P G (.ref a) ys ob fi) (rm : Room (n + 2) A) (c : CSt w hb0 ρ0 P hb ρ s μ) (o : ob 0 s) (hz : ys.length ≤ 1000)
    (k : ∀ s' hb' vs, MovedT P G s s' → New hb hb' s → RelM w hb' ρ s' μ → fi s' → VRels w hb' ρ ys vs → Q vs s') : wpAny (model PRG w) A (collect (.ref a)) Q E s := by
  unfold collect
  refine wpAny_bind (wpAny_runValue (codeAny_builtin F.entry_proto_collect ?_))
  rw [Around.under_plainId F.plain_proto_collect _]
  show wpAny _ A.in1 (newList [] >>= fun l => again (.builtin "list.__iadd__" ⟨[l, .ref a], []⟩)) _ _ s
  refine wpAny_bind (wpAny_newObj_type ?_)
  refine wpAny_pure ⟨plainId_quiet F.plain_list_iadd _, codeAny_builtin F.entry_list_iadd ?_⟩
  rw [Around.under_plainId F.plain_list_iadd _]
  have c1 := c.push (o := { cls := .type "list", data := .seq ([] : List Value).toArray }) (tk := s.toks)
  have hS := c.new_place
  have o1 : ob 0 { s with heap := s.heap.push { cls := .type "list", data := .seq ([] : List Value).toArray } } := It.stable 0 _ _ o (fun b ob _ e => Heap.get?_push_of_some _ e) fun _ _ _ e => e
  have hSa : s.heap.objs.size ≠ a := fun e => by
    refine eEA (It.gen 0 s o) ?_; rintro oa h1 _
    rw [← e] at h1; exact absurd (Heap.lt_size h1) (Nat.lt_irrefl _)
  show wpAny _ A.in1 (Builtin.List.listExtendWith (.ref s.heap.objs.size) (.ref a) (.ref s.heap.objs.size)) _ _ _
  unfold Builtin.List.listExtendWith
  refine wpAny_bind (wpAny_typeOf (It.gen 0 _ o1) ?_)
  have h1 : Builtin.List.listSameRef (.ref s.heap.objs.size) (.ref a) = false := by simp [Builtin.List.listSameRef, hSa]
  have h2 : (Value.type "generator" == Value.type "list") = false := by decide
  have h3 : (Value.type "generator" == Value.type "tuple") = false := by decide
  simp only [h1, h2, h3, Bool.or_false, Bool.false_eq_true, if_false]
  refine wpAny_bind (It.self _ 0 _ _ _ o1 ?_)
  refine wpAny_bind (wpAny_holding ?_)
  unfold Builtin.List.listLengthHint
  refine wpAny_bind (wpAny_specialOf (It.gen 0 _ o1) F.gen_no_len ?_)
  show wpAny _ A.in1 (specialOf (Value.ref a) (Str.ofString "__length_hint__") >>= _) _ _ _
  refine wpAny_bind (wpAny_specialOf (It.gen 0 _ o1) F.gen_no_hint ?_)
  refine wpAny_pure ?_
  show wpAny _ A.in1 (rule "list.extend.makes-room" >>= fun _ => Builtin.List.listTouch (.ref s.heap.objs.size) >>= fun _ =>
    again (.builtin "list.extend.loop" ⟨[.ref s.heap.objs.size, .ref a, .ref s.heap.objs.size], []⟩)) _ _ _
  refine wpAny_bind (wpAny_rule ?_)
  have hS₁ : (s.heap.push { cls := .type "list", data := .seq ([] : List Value).toArray }).get? s.heap.objs.size = some (listOf ([] : List Value).toArray 0) := Heap.get?_push_size _ rfl
  refine wpAny_bind ?_
  show wpAny _ A.in1 (updateSeq s.heap.objs.size (·.push .none) >>= fun _ => updateSeq s.heap.objs.size (·.pop)) _ _ _
  refine wpAny_bind (wpAny_updateSeq hS₁ rfl ?_)
  obtain ⟨e2, hS₂⟩ := map_seq (us := []) (vs := [Value.none]) (·.push Value.none) (by simp) hS₁
  obtain ⟨c2, M2⟩ := c1.upd (tk := s.toks) hS hS₁ (fun es ep z => by cases z) (Heap.SameBut.update _ s.heap.objs.size (Obj.mapSeq (·.push Value.none)))
  have o2 := It.keep c1 ⟨hS.2.1, hS.2.2.2⟩ M2 o1
  refine wpAny_updateSeq hS₂ rfl ?_
  obtain ⟨e3, hS₃⟩ := map_seq (us := [Value.none]) (vs := []) (·.pop) (by simp) hS₂
  obtain ⟨c3, M3⟩ := c2.upd (tk := s.toks) hS hS₂ (fun es ep z => by cases z) (Heap.SameBut.update _ s.heap.objs.size (Obj.mapSeq (·.pop)))
  have o3 := It.keep c2 ⟨hS.2.1, hS.2.2.2⟩ M3 o2
  refine wpAny_pure ⟨plainId_quiet F.plain_extend_loop _, ext_loop It (rm.mono (by lia)) hz ys.length 0 _ hb [] e3 (by simp) (Nat.zero_le _) c3 o3 hS hS₃ .nil fun s' hb' vs cc' M N R f g v => ?_⟩
  show wpAny _ A (load s.heap.objs.size >>= _) _ _ s'
  refine wpAny_bind (wpAny_load g ?_)
  have M4 : MovedT (s.heap.objs.size :: P) G { s with heap := s.heap.push { cls := .type "list", data := .seq ([] : List Value).toArray }, toks := s.toks } s' :=
    ((M2.t.weaken (P' := s.heap.objs.size :: P) (G' := G) (fun b q => by rw [List.mem_singleton.mp q]; exact List.mem_cons_self ..) fun _ q => nomatch q).trans (M3.t.weaken (fun b q => by rw [List.mem_singleton.mp q]; exact List.mem_cons_self ..) fun _ q => nomatch q)).trans M
  refine wpAny_pure (k s' hb' vs (movedT_drop M4 rfl) ⟨N.1, fun b o e => (N.2 b o e).imp id fun d => ?_⟩ R f (by simpa using v))
  cases q : s.heap.get? b with
  | none => exact q
  | some ob =>
    have l1 : Live (s.heap.push { cls := .type "list", data := .seq ([] : List Value).toArray }) b := ⟨ob, Heap.get?_push_of_some _ q⟩
    have hne : b ∉ [s.heap.objs.size] := fun z => by rw [List.mem_singleton.mp z] at q; exact absurd (Heap.lt_size q) (Nat.lt_irrefl _)
    exact (nd (M3.live b hne (M2.live b hne l1)) d).elim
end
noncomputable def kgo {α : Type} (N : Nat) (lt : Nat → Nat → Bool) : KasT α → Option α
  | .ret a => some a
  | .ask i j k => if i < N ∧ j < N then kgo N lt (k (lt i j)) else none
section
variable {w : World} {n : Nat} {hb hb' hb1 hb2 hb0 : Heap} {ρ ρ0 : List Addr} {s s' s1 s2 s0 : Shared} {μ μ' : List Cell} {A : Around} {E : Value → Shared → Prop} {xs : List AV} {vs : List Value}
set_option tactic.hygienic true in
theorem kgo_wp {α : Type} {N : Nat} {lt : Nat → Nat → Bool} {κ : SortKind} {it : Array Keyed} {I : Shared → Prop} (hc : ∀ i j s, i < N → j < N → I s → ∀ C : Bool → Shared → Prop, (∀ s', I s' → C (lt i j) s') → kas_cmp PRG w A κ it i j C s) :
    ∀ (T : KasT α) (r : α) (s : Shared), kgo N lt T = some r → I s → T.kasWp (kas_cmp PRG w A κ it) (fun a s' => a = r ∧ I s') s
  | .ret a, r, s, h, hI => by cases h; exact ⟨rfl, hI⟩
  | .ask i j k, r, s, h, hI => by
    unfold kgo at h
    split at h
    · rename_i q
      exact hc i j s q.1 q.2 hI _ fun s' hI' => kgo_wp hc (k (lt i j)) r s' h hI'
    · cases h
theorem Ext.same {X : List Nat} {ρ' : List Addr} (x : Ext X hb ρ s hb' ρ' s') (R : RelM w hb ρ s μ) (R' : RelM w hb' ρ' s' μ) : ρ' = ρ := (x.pre.eq_of_length (by rw [R.len, R'.len])).symm
theorem sort_run {N : Nat} {lt : Nat → Nat → Bool} {κ : SortKind} {it : Array Keyed} {p : Array Nat} {ks : List AV} (R : RelM w hb ρ s μ) (rm : Room n A) (hN : it.size = N) (h2 : 2 ≤ N) (h64 : N < 64)
    (hks : VRels w hb ρ ks (it.toList.map (·.1))) (hc : ∀ i j x y, ks[i]? = some x → ks[j]? = some y → O2 w n (keyLt' κ) x y μ (fun _ _ b => b = lt i j) μ) (hgo : kgo N lt (kas_sort N) = some p) {Q : Unit → SortSt → Shared → Prop}
    (k : ∀ st' s' hb', Ext [] hb ρ s hb' ρ s' → RelM w hb' ρ s' μ → p.size = N → arrOf st' = p.map (kas_item it) → failedOf st' = none → Q () st' s') :
    kasC (model PRG w) A E sortRuns' Q (SortSt.mk' κ it #[] 7 none) s := by
  have est : SortSt.mk' κ it #[] 7 none = kas_st κ it (List.toArray (List.range N)) := by
    have e := kas_range it
    rw [hN] at e
    show SortSt.mk' κ it #[] 7 none = SortSt.mk' κ ((List.toArray (List.range N)).map (kas_item it)) #[] 7 none
    rw [e]
  rw [est]
  refine kas_runs (E := E) (G := fun a s' => a = p ∧ ∃ hb', Ext [] hb ρ s hb' ρ s' ∧ RelM w hb' ρ s' μ) h2 h64 (fun p' st' s' a1 a2 a3 a4 => ?_) ?_
  · refine eAEA a4 ?_; clear a4; rintro rfl hb' X R'
    exact k st' s' hb' X R' a1 a2 a3
  · have hkl := hks.length
    rw [List.length_map, Array.length_toList, hN] at hkl
    refine kgo_wp (I := fun s' => ∃ hb', Ext [] hb ρ s hb' ρ s' ∧ RelM w hb' ρ s' μ) (fun i j s1 hi hj hI C hC => ?_) _ _ s hgo ⟨hb, .refl, R⟩
    refine eEA hI ?_; clear hI; rintro hb1 X1 R1
    have gi : ∀ i, i < N → ∃ x, ks[i]? = some x ∧ VRel w hb ρ x (kas_item it i).1 := fun i hi => by
      have h1 : i < ks.length := by lia
      refine eEA (hks.get (List.getElem?_eq_getElem h1)) ?_; rintro v h3 h4
      refine ⟨_, List.getElem?_eq_getElem h1, ?_⟩
      have : (kas_item it i).1 = v := by
        rw [List.getElem?_map] at h3
        unfold kas_item
        have h5 : i < it.size := by lia
        rw [Array.getElem?_toList, Array.getElem?_eq_getElem h5] at h3
        have e : it.getD i (Value.none, Value.none) = it[i] := by simp [Array.getD, h5]
        rw [e]; cases h3; rfl
      rw [this]; exact h4
    refine eEA (gi i hi) ?_; rintro x hx vx
    refine eEA (gi j hj) ?_; rintro y hy vy
    unfold kas_cmp
    refine hc i j x y hx hy A hb1 ρ s1 _ _ _ _ rm R1 (vx.mono X1.base List.prefix_rfl) (vy.mono X1.base List.prefix_rfl) fun hb2 ρ2 s2 b X2 R2 hb => ?_
    subst hb
    have hρ := X2.same R1 R2
    subst hρ
    exact hC s2 ⟨hb2, X1.trans X2, R2⟩
structure Raw (s0 : Shared) (hb : Heap) (ρ : List Addr) (s : Shared) (S : Addr) (o : Obj) : Prop where
  dead : Dead s0.heap S
  hb : hb.get? S = none
  ρ : S ∉ ρ
  tb : S ∉ TB
  at_ : s.heap.get? S = some o
theorem Raw.ext {S : Addr} {o : Obj} (r : Raw s0 hb ρ s S o) (x : Ext [] hb ρ s hb' ρ s') : Raw s0 hb' ρ s' S o :=
  ⟨r.dead, by
    cases q : hb'.get? S with
    | none => rfl
    | some o' => exact (x.fresh S o' q).elim (fun e => by rw [r.hb] at e; cases e) fun d => (nd' r.at_ d).elim, r.ρ, r.tb, x.keep S o r.at_ (fun q => nomatch q) r.ρ r.tb⟩
theorem Raw.upd {S : Addr} {o o' : Obj} {h' : Heap} {tk : Nat} (r : Raw s0 hb ρ s S o) (X : Ext [] hb0 ρ s0 hb ρ s) (R : RelM w hb ρ s μ) (hd : ∀ es ep, o.data ≠ .dict es ep) (hs : Heap.SameBut S s.heap h') (hg : h'.get? S = some o') :
    Raw s0 hb ρ { s with heap := h', toks := tk } S o' ∧ Ext [] hb0 ρ s0 hb ρ { s with heap := h', toks := tk } ∧ RelM w hb ρ { s with heap := h', toks := tk } μ ∧ ∀ T oT, T ≠ S → Raw s0 hb ρ s T oT → Raw s0 hb ρ { s with heap := h', toks := tk } T oT := by
  have M : Moved [S] [] s { s with heap := h', toks := tk } := moved_same r.at_ hd hs
  exact ⟨⟨r.dead, r.hb, r.ρ, r.tb, hg⟩, X.moved M (fun b q => by rw [List.mem_singleton.mp q]; exact r.dead) (fun _ q => nomatch q), R.moved M (fun b q => by rw [List.mem_singleton.mp q]; exact ⟨r.hb, r.ρ, r.tb⟩), fun T oT hne t => ⟨t.dead, t.hb, t.ρ, t.tb, (hs.2 T hne).trans t.at_⟩⟩
theorem Raw.new {o : Obj} {tk : Nat} (X : Ext [] hb0 ρ s0 hb ρ s) (R : RelM w hb ρ s μ) (hf : autoParam (o.isFreed = false) auR) :
    Raw s0 hb ρ { s with heap := s.heap.push o, toks := tk } s.heap.objs.size o ∧ Ext [] hb0 ρ s0 hb ρ { s with heap := s.heap.push o, toks := tk } ∧ RelM w hb ρ { s with heap := s.heap.push o, toks := tk } μ ∧ ∀ T oT, Raw s0 hb ρ s T oT → T ≠ s.heap.objs.size ∧ Raw s0 hb ρ { s with heap := s.heap.push o, toks := tk } T oT := by
  have d : Dead s.heap s.heap.objs.size := dead_of_le (Nat.le_refl _)
  have kp : s.heap.StaysIn (s.heap.push o) := fun b o e => Heap.get?_push_of_some _ e
  exact ⟨⟨dead_back X.live d, dead_base R.keep d, fun q => nd (R.out _ q).2.2 d, fun q => nd (tb_lt R q) d, Heap.get?_push_size _ hf⟩, X.trans (Ext.plain (fun b o e _ => kp b o e) (live_stays kp) rfl rfl), R.grow kp rfl, fun T oT t => ⟨fun q => nd' t.at_ (q ▸ d), t.dead, t.hb, t.ρ, t.tb, kp _ _ t.at_⟩⟩
end
section
variable {w : World} {n : Nat} {hb hb' hb1 hb2 hb0 : Heap} {ρ ρ0 : List Addr} {s s' s1 s2 s0 : Shared} {μ μ' : List Cell} {A : Around} {E : Value → Shared → Prop} {xs ks : List AV} {vs kvs : List Value} {lt : Nat → Nat → Bool} {κ : SortKind} {p : Array Nat} {D : Addr} {cc : Nat}
theorem VRels.at_ {h : Heap} {l : List Nat} (r : VRels w h ρ xs vs) (hl : ∀ i ∈ l, i < xs.length) : VRels w h ρ (l.map fun i => xs.getD i .none) (l.map fun i => vs.getD i Value.none) := by
  induction l with
  | nil => exact .nil
  | cons i l ih =>
    have hi := hl i (List.mem_cons_self ..)
    refine eEA (r.get (List.getElem?_eq_getElem hi)) ?_; rintro v h1 h2
    refine .cons ?_ (ih fun j h => hl j (List.mem_cons_of_mem _ h))
    dsimp only
    rw [List.getD_eq_getElem?_getD, List.getD_eq_getElem?_getD, h1, List.getElem?_eq_getElem hi]
    exact h2
structure SortOk (w : World) (n : Nat) (κ : SortKind) (ks : List AV) (μ : List Cell) (lt : Nat → Nat → Bool) (p : Array Nat) : Prop where
  small : ks.length < 2 → p = (List.range ks.length).toArray
  kind : 2 ≤ ks.length → ∀ (A : Around) (hb : Heap) (ρ : List Addr) (s : Shared) (vs : List Value) (Q : SortKind → Shared → Prop) (E : Value → Shared → Prop), RelM w hb ρ s μ → VRels w hb ρ ks vs → Q κ s → wpAny (model PRG w) A (keyKind' vs.toArray) Q E s
  ask : ∀ i j x y, ks[i]? = some x → ks[j]? = some y → O2 w n (keyLt' κ) x y μ (fun _ _ b => b = lt i j) μ
  go : 2 ≤ ks.length → kgo ks.length lt (kas_sort ks.length) = some p
  lt : ∀ i ∈ p.toList, i < ks.length
  len : ks.length < 64
  sz : p.size = ks.length
theorem range_getD {α : Type} (l : List α) (d : α) : ((List.range l.length).map fun i => l.getD i d) = l := by
  apply List.ext_getElem?
  intro i
  rcases Nat.lt_or_ge i l.length with h | h
  · rw [List.getElem?_map, List.getElem?_eq_getElem (by rw [List.length_range]; exact h), List.getElem_range, List.getElem?_eq_getElem h]
    simp [h]
  · rw [List.getElem?_eq_none (by simp; exact h), List.getElem?_eq_none h]
theorem sort_any {γ : Type} {Q : γ → Shared → Prop} {F : SortKind → Sem γ} {C : PUnit × SortSt → Sem γ} {N : Nat} (S : SortOk w n κ ks μ lt p) (X : Ext [] hb0 ρ s0 hb ρ s) (R : RelM w hb ρ s μ) (rm : Room n A) (hk : VRels w hb ρ ks kvs) (hx : vs.length = ks.length) (hN : N = ks.length)
    (hF : ∀ kind, F kind = (if N < 2 then (pure () : StateT SortSt Sem PUnit) else sortRuns').run (SortSt.mk' kind (kvs.toArray.zip vs.toArray) #[] 7 none) >>= C)
    (k : ∀ st' s' hb', Ext [] hb ρ s hb' ρ s' → RelM w hb' ρ s' μ → (arrOf st').map (·.2) = (p.toList.map fun i => vs.getD i Value.none).toArray → failedOf st' = none → wpAny (model PRG w) A (C ((), st')) Q E s') :
    wpAny (model PRG w) A (if N < 2 then (do let kind ← pure general'; F kind) else (do let kind ← keyKind' kvs.toArray; F kind)) Q E s := by
  have hkl := hk.length
  subst hN
  by_cases h2 : ks.length < 2
  · rw [if_pos h2]
    refine wpAny_bind (wpAny_pure ?_)
    rw [hF, if_pos h2, StateT.run_pure]
    refine wpAny_bind (wpAny_pure (k _ s hb .refl R ?_ rfl))
    rw [S.small h2]
    show (kvs.toArray.zip vs.toArray).map (·.2) = _
    apply Array.toList_inj.mp
    rw [Array.toList_map, ksk_zip]
    show ((kvs.zip vs).map Prod.snd) = (List.range ks.length).map fun i => vs.getD i Value.none
    rw [List.map_snd_zip (by lia), ← hx, range_getD]
  · rw [if_neg h2]
    refine wpAny_bind (S.kind (by lia) _ _ _ _ _ _ _ R hk ?_)
    rw [hF, if_neg h2]
    have hz : (kvs.toArray.zip vs.toArray).size = ks.length := by simp; lia
    have e1 : (kvs.toArray.zip vs.toArray).toList.map (·.1) = kvs := by rw [ksk_zip]; show (kvs.zip vs).map Prod.fst = kvs; rw [List.map_fst_zip (by lia)]
    refine wpAny_bind (wpAny_mono (sort_run (Q := fun _ st' s' => ∃ hb', Ext [] hb ρ s hb' ρ s' ∧ RelM w hb' ρ s' μ ∧ arrOf st' = p.map (kas_item (kvs.toArray.zip vs.toArray)) ∧ failedOf st' = none) R rm hz (by lia) S.len (by rw [e1]; exact hk) S.ask (S.go (by lia)) fun st' s' hb' a1 a2 a3 a4 a5 => ⟨hb', a1, a2, a4, a5⟩) ?_ fun _ _ e => e)
    rintro ⟨⟨⟩, st'⟩ s' ⟨hb', a1, a2, a4, a5⟩
    refine k st' s' hb' a1 a2 ?_ a5
    apply Array.toList_inj.mp
    rw [a4, Array.map_map, Array.toList_map]
    refine List.map_congr_left fun i hi => ?_
    have hi' := S.lt i hi
    show (kas_item (kvs.toArray.zip vs.toArray) i).2 = _
    rw [kat_item (by lia)]
set_option maxHeartbeats 1600000 in
theorem lsort_plain {P : PySem.Fin → Shared → Prop} (S : SortOk w n κ xs μ lt p) (X : Ext [] hb0 ρ s0 hb ρ s) (R : RelM w hb ρ s μ) (rm : Room n A) (hD : Raw s0 hb ρ s D (listOf vs.toArray cc)) (hv : VRels w hb ρ xs vs)
    (k : ∀ s' hb' out cc', Ext [] hb0 ρ s0 hb' ρ s' → RelM w hb' ρ s' μ → Raw s0 hb' ρ s' D (listOf (List.toArray out) cc') → VRels w hb' ρ (p.toList.map fun i => xs.getD i .none) out → P (.done (.ret .none)) s') :
    wpAny (model PRG w) A (Builtin.«list.sort» ⟨[.ref D], []⟩) P E s := by
  have hl := hv.length
  have h64 := S.len
  rw [list_sort_plain]
  refine wpAny_bind (listItems_at hD.at_ rfl ?_)
  obtain ⟨e1, ho1⟩ : ∃ e1, (s.heap.update D (Obj.mapSeq fun _ => (#[] : Array Value))).get? D = some (listOf #[] e1) := ⟨_, get?_update_seq hD.at_ fun _ => #[]⟩
  refine wpAny_bind (listUpdate_at hD.at_ rfl ?_ (by rw [List.size_toArray, sizeLine_eq]; lia) (Nat.zero_le _))
  refine eAAA (hD.upd (tk := s.toks) X R (fun es ep z => by cases z) (Heap.SameBut.update s.heap D (Obj.mapSeq fun _ => (#[] : Array Value))) ho1) ?_; rintro D1 X1 R1 _
  refine wpAny_bind (seqEpoch_at ho1 rfl ?_)
  refine wpAny_bind (wpAny_newTuple ?_ (by show vs.length ≤ _; rw [sizeLine_eq]; lia))
  refine eAAA (Raw.new (o := seqObj "tuple" vs.toArray 0) (tk := s.toks) X1 R1) ?_; rintro _ X2 R2 o2
  have D2 := (o2 _ _ D1).2
  refine wpAny_bind (wpAny_newList ?_ (Nat.zero_le _))
  refine eAAA (Raw.new (o := seqObj "list" #[] 0) (tk := s.toks) X2 R2) ?_; rintro _ X3 R3 o3
  have D3 := (o3 _ _ D2).2
  refine wpAny_holding ?_
  have hv3 := hv
  dsimp only
  refine sort_any (kvs := vs) (vs := vs) S X3 R3 rm hv3 hl (by rw [List.size_toArray, hl]) (fun _ => rfl) (fun st' s' hb' X' R' har hfl => ?_)
  dsimp only
  have D4 := D3.ext X'
  have X4 := X3.trans X'
  rw [har, hfl]
  refine wpAny_bind (seqEpoch_at D4.at_ rfl ?_)
  have hsz : p.toList.length ≤ 64 := by rw [Array.length_toList, S.sz]; lia
  obtain ⟨e5, ho5⟩ : ∃ e5, (s'.heap.update D (Obj.mapSeq fun _ => (p.toList.map fun i => vs.getD i Value.none).toArray)).get? D = some (listOf (p.toList.map fun i => vs.getD i Value.none).toArray e5) := ⟨_, get?_update_seq D4.at_ fun _ => _⟩
  refine wpAny_bind (listUpdate_at D4.at_ rfl ?_ (Nat.zero_le _) (by rw [List.size_toArray, List.length_map, sizeLine_eq]; lia))
  refine eAAA (D4.upd (tk := s'.toks) X4 R' (fun es ep z => by cases z) (Heap.SameBut.update s'.heap D (Obj.mapSeq fun _ => (p.toList.map fun i => vs.getD i Value.none).toArray)) ho5) ?_; rintro D5 X5 R5 _
  simp only [bne_self_eq_false, Bool.false_eq_true, if_false]
  exact wpAny_pure (k _ hb' _ e5 X5 R5 D5 ((hv.mono X'.base List.prefix_rfl).at_ S.lt))
end
section
variable {w : World} {n : Nat} {hb hb' hb1 hb2 hb0 : Heap} {ρ ρ0 : List Addr} {s s' s1 s2 s0 : Shared} {μ μ' : List Cell} {A : Around} {E : Value → Shared → Prop} {xs ks : List AV} {vs kvs : List Value} {lt : Nat → Nat → Bool} {κ : SortKind} {p : Array Nat} {D : Addr} {cc : Nat}
set_option maxHeartbeats 1600000 in
theorem lsort_key {P : PySem.Fin → Shared → Prop} {fa : Addr} {kx : AV → AV} (S : SortOk w n κ (xs.map kx) μ lt p) (hcall : ∀ x ∈ xs, FN w n (.val (.ref fa)) [x] [] μ (kx x) μ) (X : Ext [] hb0 ρ s0 hb ρ s) (R : RelM w hb ρ s μ) (rm : Room n A) (hD : Raw s0 hb ρ s D (listOf vs.toArray cc)) (hv : VRels w hb ρ xs vs)
    (k : ∀ s' hb' out cc', Ext [] hb0 ρ s0 hb' ρ s' → RelM w hb' ρ s' μ → Raw s0 hb' ρ s' D (listOf (List.toArray out) cc') → VRels w hb' ρ (p.toList.map fun i => xs.getD i .none) out → P (.done (.ret .none)) s') :
    wpAny (model PRG w) A (ksk_tree D (.ref fa) false) P E s := by
  have hl := hv.length
  have h64 := S.len
  rw [List.length_map] at h64
  unfold ksk_tree
  refine wpAny_bind (listItems_at hD.at_ rfl ?_)
  obtain ⟨e1, ho1⟩ : ∃ e1, (s.heap.update D (Obj.mapSeq fun _ => (#[] : Array Value))).get? D = some (listOf #[] e1) := ⟨_, get?_update_seq hD.at_ fun _ => #[]⟩
  refine wpAny_bind (listUpdate_at hD.at_ rfl ?_ (by rw [List.size_toArray, sizeLine_eq]; lia) (Nat.zero_le _))
  refine eAAA (hD.upd (tk := s.toks) X R (fun es ep z => by cases z) (Heap.SameBut.update s.heap D (Obj.mapSeq fun _ => (#[] : Array Value))) ho1) ?_; rintro D1 X1 R1 _
  refine wpAny_bind (seqEpoch_at ho1 rfl ?_)
  refine wpAny_bind (wpAny_newTuple ?_ (by show vs.length ≤ _; rw [sizeLine_eq]; lia))
  refine eAAA (Raw.new (o := seqObj "tuple" vs.toArray 0) (tk := s.toks) X1 R1) ?_; rintro _ X2 R2 o2
  have D2 := (o2 _ _ D1).2
  refine wpAny_bind (wpAny_newList ?_ (Nat.zero_le _))
  refine eAAA (Raw.new (o := seqObj "list" #[] 0) (tk := s.toks) X2 R2) ?_; rintro K3 X3 R3 o3
  obtain ⟨hDK, D3⟩ := o3 _ _ D2
  refine wpAny_holding ?_
  unfold ksk_rest
  refine wpAny_bind (wpAny_rule ?_)
  rw [List.forIn_toArray]
  generalize hs3 : ({ s with heap := ((s.heap.update D (Obj.mapSeq fun _ => (#[] : Array Value))).push (seqObj "tuple" vs.toArray 0)).push (seqObj "list" #[] 0), toks := s.toks } : Shared) = s3 at X3 R3 D3 K3
  have hs3' : ({ s with heap := ((s.heap.update D (Obj.mapSeq fun _ => (#[] : Array Value))).push (seqObj "tuple" vs.toArray 0)).push (seqObj "list" #[] 0) } : Shared) = s3 := hs3
  generalize hK : ((s.heap.update D (Obj.mapSeq fun _ => (#[] : Array Value))).push (seqObj "tuple" vs.toArray 0)).objs.size = K at K3 hDK
  refine wpAny_bind (ksk_fold (fun i s' => ∃ hb' ks ck, Ext [] hb0 ρ s0 hb' ρ s' ∧ RelM w hb' ρ s' μ ∧ Raw s0 hb' ρ s' D (listOf #[] e1) ∧ Raw s0 hb' ρ s' K (listOf (List.toArray ks) ck) ∧ VRels w hb' ρ ((xs.take i).map kx) ks ∧ hb.StaysIn hb') vs 0 s3
    ⟨hb, [], 0, X3, R3, D3, K3, .nil, fun _ _ e => e⟩ ?step ?done)
  case step =>
    rintro j v s' hx ⟨hb', ks, ck, a1, a2, a3, a4, a5, a6⟩
    simp only [Nat.zero_add] at a5 ⊢
    have hj : j < xs.length := by have := (List.getElem?_eq_some_iff.mp hx).1; lia
    refine eEA (hv.get (List.getElem?_eq_getElem hj)) ?_; rintro u g1 g2
    rw [hx] at g1; cases g1
    have hkl := a5.length
    rw [List.length_map, List.length_take] at hkl
    refine wpAny_bind (wpAny_attempt (hcall _ (List.getElem_mem hj) A hb' ρ s' _ _ _ _ _ rm a2 (.val _) (.cons (g2.mono a6 List.prefix_rfl) .nil) .nil fun hb2 ρ2 s2 kv X' R' hkv => ?_))
    have hρ := X'.same a2 R'
    subst hρ
    dsimp only
    have D4 := a3.ext X'
    have K4 := a4.ext X'
    obtain ⟨ck', ho5⟩ := map_seq (us := ks) (vs := ks ++ [kv]) (·.push kv) (by simp) K4.at_
    refine wpAny_bind (listUpdate_at K4.at_ rfl ?_ (by rw [List.size_toArray, sizeLine_eq]; lia) (Nat.le_trans (Nat.le_of_eq (Array.size_push ..)) (by rw [List.size_toArray, sizeLine_eq]; lia)))
    refine eAAA (K4.upd (tk := s2.toks) (a1.trans X') R' (fun es ep z => by cases z) (Heap.SameBut.update s2.heap K (Obj.mapSeq (·.push kv))) ho5) ?_; rintro K5 X5 R5 o5
    refine wpAny_pure ⟨rfl, hb2, ks ++ [kv], ck', X5, R5, o5 _ _ hDK D4, K5, ?_, fun b o e => X'.base b o (a6 b o e)⟩
    rw [List.take_add_one, List.getElem?_eq_getElem hj, List.map_append]
    exact (a5.mono X'.base List.prefix_rfl).snoc hkv
  case done =>
    rintro s' ⟨hb', ks, ck, a1, a2, a3, a4, a5, a6⟩
    simp only [Nat.zero_add] at a5
    rw [List.take_of_length_le (by lia)] at a5
    have hkl := a5.length
    rw [List.length_map] at hkl
    refine wpAny_bind (listItems_at a4.at_ rfl ?_)
    unfold ksk_end
    dsimp only
    simp only [Bool.false_eq_true, if_false]
    refine sort_any (vs := vs) S a1 a2 rm a5 (by rw [List.length_map, hl]) (by rw [List.size_toArray, List.length_map, hl]) (fun _ => rfl) (fun st' s'' hb'' X' R' har hfl => ?_)
    dsimp only
    have D4 := a3.ext X'
    have K4 := a4.ext X'
    have X4 := a1.trans X'
    unfold ksk_tail
    simp only [Bool.false_eq_true, if_false]
    obtain ⟨e6, ho6⟩ : ∃ e6, (s''.heap.update K (Obj.mapSeq fun _ => (#[] : Array Value))).get? K = some (listOf #[] e6) := ⟨_, get?_update_seq K4.at_ fun _ => #[]⟩
    refine wpAny_bind (listUpdate_at K4.at_ rfl ?_ (by rw [List.size_toArray, sizeLine_eq]; lia) (Nat.zero_le _))
    refine eAAA (K4.upd (tk := s''.toks) X4 R' (fun es ep z => by cases z) (Heap.SameBut.update s''.heap K (Obj.mapSeq fun _ => (#[] : Array Value))) ho6) ?_; rintro K5 X5 R5 o5
    have D5 := o5 _ _ hDK D4
    refine wpAny_bind (wpAny_letGo ?_)
    refine wpAny_bind (seqEpoch_at D5.at_ rfl ?_)
    have hsz : p.toList.length ≤ 64 := by rw [Array.length_toList, S.sz, List.length_map]; lia
    rw [har]
    obtain ⟨e7, ho7⟩ : ∃ e7, ((s''.heap.update K (Obj.mapSeq fun _ => (#[] : Array Value))).update D (Obj.mapSeq fun _ => (p.toList.map fun i => vs.getD i Value.none).toArray)).get? D = some (listOf (p.toList.map fun i => vs.getD i Value.none).toArray e7) := ⟨_, get?_update_seq D5.at_ fun _ => _⟩
    refine wpAny_bind (listUpdate_at D5.at_ rfl ?_ (Nat.zero_le _) (by rw [List.size_toArray, List.length_map, sizeLine_eq]; lia))
    refine eAAA (D5.upd (tk := s''.toks) X5 R5 (fun es ep z => by cases z) (Heap.SameBut.update (s''.heap.update K (Obj.mapSeq fun _ => (#[] : Array Value))) D (Obj.mapSeq fun _ => (p.toList.map fun i => vs.getD i Value.none).toArray)) ho7) ?_; rintro D6 X6 R6 _
    rw [hfl]
    simp only [bne_self_eq_false, Bool.false_eq_true, if_false]
    exact wpAny_pure (k _ hb'' _ e7 X6 R6 D6 ((hv.mono (fun b o e => X'.base b o (a6 b o e)) List.prefix_rfl).at_ (fun i hi => by have := S.lt i hi; rwa [List.length_map] at this)))
theorem frozen_list {l : List AV} {out : List Value} (X : Ext [] hb ρ s hb' ρ s') (R : RelM w hb' ρ s' μ) (hD : Raw s hb' ρ s' D (listOf (List.toArray out) cc)) (hv : VRels w hb' ρ l out) :
    ∃ hb'', Ext [] hb ρ s hb'' ρ s' ∧ RelM w hb'' ρ s' μ ∧ VRel w hb'' ρ (.lst l) (.ref D) := by
  refine ⟨_, X.freeze R.keep (F := [D]) (fun a ha => by rw [List.mem_singleton.mp ha]; exact hD.dead), R.freeze (fun a ha => by rw [List.mem_singleton.mp ha]; exact ⟨hD.ρ, hD.tb⟩), .lst ⟨cc, ?_⟩ (hv.mono (addB_base R.keep) List.prefix_rfl)⟩
  rw [addB_get R.keep, if_pos (List.mem_singleton.mpr rfl)]; exact hD.at_
theorem sorted_tail {kw : List (Str × Value)} {Q : Value → Shared → Prop} {l' : List AV} (R : RelM w hb ρ s μ) (rm : Room (n + 2) A) (hv : VRels w hb ρ xs vs) (hz : vs.length ≤ 1000) (ha : ∀ x, argsOk "list.sort" ⟨[.ref x], kw⟩)
    (hsort : ∀ (A' : Around) (s1 : Shared) (D : Addr) (P : PySem.Fin → Shared → Prop) (E' : Value → Shared → Prop), Room n A' → Ext [] hb ρ s hb ρ s1 → RelM w hb ρ s1 μ → Raw s hb ρ s1 D (listOf vs.toArray 0) →
      (∀ s' hb' out cc', Ext [] hb ρ s hb' ρ s' → RelM w hb' ρ s' μ → Raw s hb' ρ s' D (listOf (List.toArray out) cc') → VRels w hb' ρ l' out → P (.done (.ret .none)) s') → wpAny (model PRG w) A' (Builtin.«list.sort» ⟨[.ref D], kw⟩) P E' s1)
    (k : ∀ s' hb' v, Ext [] hb ρ s hb' ρ s' → RelM w hb' ρ s' μ → VRel w hb' ρ (.lst l') v → Q v s') :
    wpAny (model PRG w) A.in1 (do let l ← newList vs; let _ ← holding [l] (call (.builtin "list.sort") [l] kw); ret l) (fun fin s' => ∃ v, fin = .done (.ret v) ∧ Q v s') E s := by
  refine wpAny_bind (wpAny_newList ?_ (by show vs.length ≤ _; rw [sizeLine_eq]; lia))
  refine eAAA (Raw.new (o := seqObj "list" vs.toArray 0) (tk := s.toks) (Ext.refl (X := []) (hb := hb) (ρ := ρ) (s := s)) R) ?_; rintro D1 X1 R1 _
  refine wpAny_bind (wpAny_holding (wpAny_call_entry_kw slot_list_sort ⟨_, D1.at_, rfl⟩ entry_list_sort ?_ (ha _)))
  refine hsort _ _ _ _ _ (rm.in1 |> fun r => r.in1) X1 R1 D1 fun s' hb' out cc' X' R' hD hv' => ⟨_, rfl, ?_⟩
  refine eEAA (frozen_list X' R' hD hv') ?_; rintro hb'' X2 R2 h2
  exact wpAny_pure ⟨_, rfl, k s' hb'' _ X2 R2 h2⟩
end
set_option tactic.hygienic true in
theorem kgo_congr {α : Type} {N : Nat} {lt lt' : Nat → Nat → Bool} (h : ∀ i j, i < N → j < N → lt i j = lt' i j) : ∀ T : KasT α, kgo N lt T = kgo N lt' T
  | .ret a => rfl
  | .ask i j k => by
    unfold kgo
    split
    · rename_i q; rw [h i j q.1 q.2]; exact kgo_congr h _
    · rfl
noncomputable def pairsB (r : Nat → Nat → Bool) : List Nat → Bool
  | [] => true
  | x :: l => l.all (r x) && pairsB r l
theorem pairsB_iff {r : Nat → Nat → Bool} : ∀ {l : List Nat}, pairsB r l = true → l.Pairwise (fun i j => r i j = true)
  | [], _ => .nil
  | x :: l, h => by
    unfold pairsB at h
    rw [Bool.and_eq_true, List.all_eq_true] at h
    exact .cons h.1 (pairsB_iff h.2)
noncomputable def chk (N : Nat) (rs : List Nat) : Bool := match kgo N (fun i j => decide (rs.getD i 0 < rs.getD j 0)) (kas_sort N) with
  | some p => p.size == N && p.toList.isPerm (List.range N) && pairsB (fun i j => decide (rs.getD i 0 ≤ rs.getD j 0)) p.toList
  | none => false
noncomputable def lists : Nat → Nat → List (List Nat)
  | _, 0 => [[]]
  | N, k + 1 => (lists N k).flatMap fun l => (List.range N).map fun i => i :: l
theorem mem_lists {N : Nat} : ∀ {k : Nat} {l : List Nat}, l.length = k → (∀ x ∈ l, x < N) → l ∈ lists N k
  | 0, l, h, _ => by rw [List.length_eq_zero_iff.mp h]; exact List.mem_singleton.mpr rfl
  | k + 1, [], h, _ => by simp at h
  | k + 1, x :: l, h, hx => by
    unfold lists
    rw [List.mem_flatMap]
    exact ⟨l, mem_lists (by simpa using h) (fun y hy => hx y (List.mem_cons_of_mem _ hy)), List.mem_map.mpr ⟨x, List.mem_range.mpr (hx x (List.mem_cons_self ..)), rfl⟩⟩
set_option maxRecDepth 100000
theorem chk2 : ∀ rs ∈ lists 2 2, chk 2 rs = true := by decide +kernel
theorem chk3 : ∀ rs ∈ lists 3 3, chk 3 rs = true := by decide +kernel
theorem chk4 : ∀ rs ∈ lists 4 4, chk 4 rs = true := by decide +kernel
noncomputable def rank (Ms : List Int) (x : Int) : Nat := (Ms.filter fun y => decide (y < x)).length
theorem rank_le {Ms : List Int} {x y : Int} (h : x ≤ y) : rank Ms x ≤ rank Ms y := by
  unfold rank
  induction Ms with
  | nil => exact Nat.le_refl _
  | cons z r ih =>
    rw [List.filter_cons, List.filter_cons]
    by_cases h1 : z < x
    · have h2 : z < y := by lia
      rw [if_pos (decide_eq_true h1), if_pos (decide_eq_true h2)]
      simp only [List.length_cons]; lia
    · rw [if_neg (by simpa using h1)]
      split
      · simp only [List.length_cons]; lia
      · exact ih
theorem rank_lt {Ms : List Int} {x y : Int} (hx : x ∈ Ms) (h : x < y) : rank Ms x < rank Ms y := by
  unfold rank
  induction Ms with
  | nil => cases hx
  | cons z r ih =>
    have hle := rank_le (Ms := r) (Int.le_of_lt h)
    unfold rank at hle
    rw [List.filter_cons, List.filter_cons]
    rcases List.mem_cons.mp hx with e | hx
    · subst e
      rw [if_neg (by simp), if_pos (decide_eq_true h)]
      simp only [List.length_cons]; lia
    · have := ih hx
      by_cases h1 : z < x
      · have h2 : z < y := by lia
        rw [if_pos (decide_eq_true h1), if_pos (decide_eq_true h2)]
        simp only [List.length_cons]; lia
      · rw [if_neg (by simpa using h1)]
        split
        · simp only [List.length_cons]; lia
        · exact this
theorem rank_iff {Ms : List Int} {x y : Int} (hx : x ∈ Ms) : (rank Ms x < rank Ms y) ↔ x < y :=
  ⟨fun h => by
    rcases Int.lt_or_le x y with q | q
    · exact q
    · exact absurd (rank_le (Ms := Ms) q) (by lia), rank_lt hx⟩
theorem rank_bound {Ms : List Int} {x : Int} (hx : x ∈ Ms) : rank Ms x < Ms.length := by
  have h := rank_lt (y := x + 1) hx (by lia)
  have : rank Ms (x + 1) ≤ Ms.length := List.length_filter_le _ _
  lia
structure Srt (Ms : List Int) (p : Array Nat) : Prop where
  sz : p.size = Ms.length
  lt : ∀ i ∈ p.toList, i < Ms.length
  perm : (p.toList.map fun i => Ms.getD i 0).Perm Ms
  sorted : (p.toList.map fun i => Ms.getD i 0).Pairwise (· ≤ ·)
theorem map_range_getD (Ms : List Int) : ((List.range Ms.length).map fun i => Ms.getD i 0) = Ms := by
  apply List.ext_getElem?
  intro i
  rcases Nat.lt_or_ge i Ms.length with h | h
  · rw [List.getElem?_map, List.getElem?_eq_getElem (by rw [List.length_range]; exact h), List.getElem_range, List.getElem?_eq_getElem h]
    simp [h]
  · rw [List.getElem?_eq_none (by simp; exact h), List.getElem?_eq_none h]
set_option tactic.hygienic true in
theorem sort_small {Ms : List Int} (h2 : 2 ≤ Ms.length) (h4 : Ms.length ≤ 4) : ∃ p, kgo Ms.length (fun i j => decide (Ms.getD i 0 < Ms.getD j 0)) (kas_sort Ms.length) = some p ∧ Srt Ms p := by
  have hmem : ∀ i, i < Ms.length → Ms.getD i 0 ∈ Ms := fun i hi => by rw [List.getD_eq_getElem?_getD, List.getElem?_eq_getElem hi]; exact List.getElem_mem hi
  have hr : ∀ i, i < Ms.length → (Ms.map (rank Ms)).getD i 0 = rank Ms (Ms.getD i 0) := fun i hi => by
    rw [List.getD_eq_getElem?_getD, List.getD_eq_getElem?_getD, List.getElem?_map, List.getElem?_eq_getElem hi]; rfl
  have hc : chk Ms.length (Ms.map (rank Ms)) = true := by
    have hl : ∀ N, Ms.length = N → Ms.map (rank Ms) ∈ lists N N := fun N e => mem_lists (by rw [List.length_map, e]) fun x hx => by
      refine eEA (List.mem_map.mp hx) ?_; rintro y hy rfl
      have := rank_bound hy; lia
    have : Ms.length = 2 ∨ Ms.length = 3 ∨ Ms.length = 4 := by lia
    rcases this with e | e | e
    · rw [e]; exact chk2 _ (hl 2 e)
    · rw [e]; exact chk3 _ (hl 3 e)
    · rw [e]; exact chk4 _ (hl 4 e)
  unfold chk at hc
  have hk : kgo Ms.length (fun i j => decide ((Ms.map (rank Ms)).getD i 0 < (Ms.map (rank Ms)).getD j 0)) (kas_sort Ms.length) = kgo Ms.length (fun i j => decide (Ms.getD i 0 < Ms.getD j 0)) (kas_sort Ms.length) := kgo_congr (fun i j hi hj => by
    rw [hr i hi, hr j hj]
    exact decide_eq_decide.mpr (rank_iff (hmem i hi))) _
  rw [hk] at hc
  split at hc
  · rename_i p hp
    rw [Bool.and_eq_true, Bool.and_eq_true, beq_iff_eq, List.isPerm_iff] at hc
    obtain ⟨⟨h1, h3⟩, h5⟩ := hc
    have hlt : ∀ i ∈ p.toList, i < Ms.length := fun i hi => List.mem_range.mp (h3.mem_iff.mp hi)
    refine ⟨p, hp, h1, hlt, (h3.map _).trans (.of_eq (map_range_getD Ms)), ?_⟩
    rw [List.pairwise_map]
    refine (List.Pairwise.and_mem.mp (pairsB_iff h5)).imp fun {i j} ⟨hi, hj, h⟩ => ?_
    have h := of_decide_eq_true h
    rw [hr i (hlt i hi), hr j (hlt j hj)] at h
    rcases Int.lt_or_le (Ms.getD j 0) (Ms.getD i 0) with q | q
    · exact absurd (rank_lt (hmem j (hlt j hj)) q) (by lia)
    · exact q
  · cases hc
section
variable {w : World} {n m : Nat} {hb hb' hb1 hb2 hb0 : Heap} {ρ ρ0 : List Addr} {s s' s1 s2 s0 : Shared} {μ μ' : List Cell} {P G : List Nat} {A : Around} {E : Value → Shared → Prop} {xs ys : List AV} {ob : Nat → Shared → Prop} {fi : Shared → Prop} {lt : Nat → Nat → Bool} {κ : SortKind} {p : Array Nat}
theorem ask_frac {Gd : Nat} {M1 M2 : Int} (h : 0 < Gd) (hz : Gd < 10000) : O2 w (n + 2) (keyLt' oneType') (fr Gd M1) (fr Gd M2) μ (fun _ _ b => b = decide (M1 < M2)) μ := fun A hb ρ s v u Q E rm R hv hu k => by
  refine eEEEA R.frame ?_; rintro h₀ L m F X₀
  refine eEEEEAAA (inst_of R hv rfl) ?_; rintro x dx es q rfl h1 h2 h3
  have I : InstAt s.heap x (instObj 194 dx) 194 (some (dictOf es q)) := ⟨h1, rfl, rfl, h2⟩
  have l1 := de_le (G := Gd) (M := M1)
  have l2 := de_le (G := Gd) (M := M2)
  refine kas_lt_inst (f := 170) (by have := rm.2.2; show A.units < 9900; lia) F X₀ I (by k_is) (by k_is) ?_
  refine (frac_lt (small_r (by lia)) (small_r (by lia))).fn A hb ρ s _ _ _ _ _ rm R (.val _) (.cons hv (.cons hu .nil)) .nil fun hb' ρ' s' r X' R' h' => ?_
  obtain rfl := VRel.bool_inv h'
  exact k hb' ρ' s' _ X' R' (decide_eq_decide.mpr (fr_lt h))
theorem ask_str {x y : Str} : O2 w n (keyLt' oneType') (.str x) (.str y) μ (fun _ _ b => b = decide (x.cps.toList < y.cps.toList)) μ := fun A hb ρ s v u Q E rm R hv hu k => by
  obtain ⟨t, rfl⟩ := hv.str_inv
  obtain ⟨t', rfl⟩ := hu.str_inv
  exact kas_lt_str (k _ _ _ _ .refl R rfl)
theorem kind_frac {Gd : Nat} {Ms : List Int} (h2 : 2 ≤ (frL Gd Ms).length) (A : Around) (hb : Heap) (ρ : List Addr) (s : Shared) (vs : List Value) (Q : SortKind → Shared → Prop) (E : Value → Shared → Prop) (R : RelM w hb ρ s μ) (hv : VRels w hb ρ (frL Gd Ms) vs) (hq : Q oneType' s) :
    wpAny (model PRG w) A (keyKind' vs.toArray) Q E s := by
  refine kas_kind (T := .ref 194) (by rw [hv.length]; exact h2) (fun v hvm => ?_) (by decide) (by decide) hq
  obtain ⟨i, hi, rfl⟩ := List.mem_iff_getElem.mp hvm
  have hl := hv.length
  refine eEA (hv.get (List.getElem?_eq_getElem (i := i) (by lia))) ?_; rintro u h3 h4
  rw [List.getElem?_eq_getElem hi] at h3; cases h3
  have e : (frL Gd Ms)[i]'(by lia) = fr Gd (Ms[i]'(by simp [frL] at hl; lia)) := by simp [frL]
  rw [e] at h4
  refine eEEEEAAA (inst_of R h4 rfl) ?_; rintro x dx es q h5 h1 h6 h7
  rw [h5]
  exact InstAt.type (⟨h1, rfl, rfl, h6⟩ : InstAt s.heap x (instObj 194 dx) 194 (some (dictOf es q)))
theorem kind_str {ss : List Str} (h2 : 2 ≤ (strL ss).length) (A : Around) (hb : Heap) (ρ : List Addr) (s : Shared) (vs : List Value) (Q : SortKind → Shared → Prop) (E : Value → Shared → Prop) (R : RelM w hb ρ s μ) (hv : VRels w hb ρ (strL ss) vs) (hq : Q oneType' s) :
    wpAny (model PRG w) A (keyKind' vs.toArray) Q E s := by
  refine kas_kind (T := .type "str") (by rw [hv.length]; exact h2) (fun v hvm => ?_) (by decide) (by decide) hq
  obtain ⟨i, hi, rfl⟩ := List.mem_iff_getElem.mp hvm
  have hl := hv.length
  refine eEA (hv.get (List.getElem?_eq_getElem (i := i) (by lia))) ?_; rintro u h3 h4
  rw [List.getElem?_eq_getElem hi] at h3; cases h3
  have e : (strL ss)[i]'(by lia) = .str (ss[i]'(by simp [strL] at hl; lia)) := by simp [strL]
  rw [e] at h4
  obtain ⟨t, h5⟩ := h4.str_inv
  rw [h5]
  exact Looks.of_pure rfl
theorem frL_length {Gd : Nat} (Ms : List Int) : (frL Gd Ms).length = Ms.length := List.length_map ..
theorem short {α : Type} {P : List α → Prop} (h0 : P []) (h1 : ∀ x, P [x]) : ∀ l : List α, l.length < 2 → P l
  | [], _ => h0
  | [x], _ => h1 x
theorem sortOk_frac {Gd : Nat} {Ms : List Int} (h : 0 < Gd) (hz : Gd < 10000) (h4 : Ms.length ≤ 4) : ∃ p, SortOk w (n + 2) oneType' (frL Gd Ms) μ (fun i j => decide (Ms.getD i 0 < Ms.getD j 0)) p ∧ Srt Ms p := by
  have hask : ∀ i j x y, (frL Gd Ms)[i]? = some x → (frL Gd Ms)[j]? = some y → O2 w (n + 2) (keyLt' oneType') x y μ (fun _ _ b => b = decide (Ms.getD i 0 < Ms.getD j 0)) μ := fun i j x y e1 e2 => by
    refine eEA (frL_get e1) ?_; rintro a h1 rfl
    refine eEA (frL_get e2) ?_; rintro b h2 rfl
    rw [List.getD_eq_getElem?_getD, List.getD_eq_getElem?_getD, h1, h2]
    exact ask_frac h hz
  by_cases h2 : Ms.length < 2
  · refine ⟨(List.range Ms.length).toArray, ⟨fun _ => by rw [frL_length], fun q => (by rw [frL_length] at q; lia), hask, fun q => (by rw [frL_length] at q; lia), fun i hi => by rw [frL_length]; simpa using hi, by rw [frL_length]; lia, by rw [frL_length]; simp⟩, ⟨by simp, fun i hi => by simpa using hi, ?_, ?_⟩⟩
    · exact .of_eq (map_range_getD Ms)
    · show List.Pairwise _ ((List.range Ms.length).map fun i => Ms.getD i 0)
      rw [map_range_getD]
      exact short .nil (fun x => List.pairwise_singleton ..) _ h2
  · refine eEA (sort_small (by lia) h4) ?_; rintro p h5 h6
    exact ⟨p, ⟨fun q => (by rw [frL_length] at q; lia), fun q => kind_frac q, hask, fun q => by rw [frL_length]; exact h5, fun i hi => by rw [frL_length]; exact h6.lt i hi, by rw [frL_length]; lia, by rw [frL_length]; exact h6.sz⟩, h6⟩
theorem fn_sorted_frac {Gd : Nat} {Ms Ns : List Int} {a : AV} (h : 0 < Gd) (hz : Gd < 10000) (h4 : Ms.length ≤ 4) (e : listOfAV μ a = some (frL Gd Ms)) (hp : Ns.Perm Ms) (ho : Ns.Pairwise (· ≤ ·)) : FN w (n + 4) (.val (.builtin "sorted")) [a] [] μ (.lst (frL Gd Ns)) μ := fun A hb ρ s fv vs kvs Q E rm R hf hvs hks k => by
  obtain rfl := VRel.val_inv hf; obtain rfl := hks.inv0
  refine eEA hvs.inv1 ?_; rintro _ rfl h1
  refine eEEAA (list_of R h1 e) ?_; rintro la us rfl h3 h5
  refine eEA (sortOk_frac (w := w) (n := n) (μ := μ) h hz h4) ?_; rintro p S T
  have hus := h5.length
  rw [frL_length] at hus
  refine call_function_entry kind_sorted plain_sorted entry_sorted (args_sorted1 _) ?_
  unfold Builtin.«sorted»
  refine wpAny_bind (m := checkCount "sorted" 1 1 _) (wpAny_pure ?_)
  refine wpAny_bind (collect_list h3 ?_ (by rw [sizeLine_eq]; lia))
  have kp : s.heap.StaysIn ((s.heap.push (seqObj "list" #[] 0)).update s.heap.objs.size (Obj.mapSeq (· ++ us.toArray))) := fun b o q => by
    have hlt : b < s.heap.objs.size := Heap.lt_size q
    rw [Heap.get?_update_ne _ _ _ _ (Nat.ne_of_lt hlt), Heap.get?_push_ne _ _ _ (Nat.ne_of_lt hlt)]
    exact q
  have R1 : RelM w hb ρ { s with heap := (s.heap.push (seqObj "list" #[] 0)).update s.heap.objs.size (Obj.mapSeq (· ++ us.toArray)) } μ := R.grow kp rfl
  have X1 : Ext [] hb ρ s hb ρ { s with heap := (s.heap.push (seqObj "list" #[] 0)).update s.heap.objs.size (Obj.mapSeq (· ++ us.toArray)) } := Ext.plain (fun b o e _ => kp b o e) (live_stays kp) rfl rfl
  refine sorted_tail (n := n + 2) (l' := frL Gd Ns) R1 rm h5 (by lia) (fun _ => args_list_sort _) (fun A' s1 D P E' rm' X' R' hD kk => ?_) fun s' hb' v X' R' hv => k _ _ _ _ (X1.trans X') R' hv
  refine lsort_plain S X' R' rm' hD h5 fun s' hb' out cc' X2 R2 hD2 hv2 => kk s' hb' out cc' X2 R2 hD2 ?_
  have e2 : (p.toList.map fun i => (frL Gd Ms).getD i .none) = frL Gd Ns := by
    have e3 : (p.toList.map fun i => Ms.getD i 0) = Ns := sorted_one (T.perm.trans hp.symm) T.sorted ho
    rw [← e3]
    unfold frL
    rw [List.map_map]
    refine List.map_congr_left fun i hi => ?_
    have := T.lt i hi
    simp [List.getD_eq_getElem?_getD, List.getElem?_map, List.getElem?_eq_getElem this]
  rwa [e2] at hv2
end
section
variable {w : World} {n m : Nat} {hb hb' hb1 hb2 hb0 : Heap} {ρ ρ0 : List Addr} {s s' s1 s2 s0 : Shared} {μ μ' : List Cell} {P G : List Nat} {A : Around} {E : Value → Shared → Prop} {xs ys : List AV} {ob : Nat → Shared → Prop} {S : Addr} {tg : Expr} {C : List Cell → Prop} {it : Value}
structure LSt (w : World) (hb0 : Heap) (ρ : List Addr) (s0 : Shared) (μ : List Cell) (P : List Nat) (S : Addr) (hb : Heap) (s : Shared) (o : Obj) : Prop where
  X : Ext [] hb0 ρ s0 hb ρ s
  R : RelM w hb ρ s μ
  pl : ∀ b ∈ P, Dead s0.heap b ∧ hb.get? b = none ∧ b ∉ ρ ∧ b ∉ TB ∧ Live s.heap b ∧ b ≠ S
  raw : Raw s0 hb ρ s S o
theorem LSt.sub {o : Obj} (l : LSt w hb0 ρ s0 μ P S hb s o) : hb0.StaysIn hb := l.X.base
theorem LSt.moved {o : Obj} (l : LSt w hb0 ρ s0 μ P S hb s o) (hG : ∀ g ∈ G, s0.gens[g]? = none) (M : Moved P G s s') (hl : ∀ b ∈ P, Live s'.heap b) : LSt w hb0 ρ s0 μ P S hb s' o :=
  ⟨l.X.moved M (fun b q => (l.pl b q).1) hG, l.R.moved M fun b q => ⟨(l.pl b q).2.1, (l.pl b q).2.2.1, (l.pl b q).2.2.2.1⟩, fun b q => ⟨(l.pl b q).1, (l.pl b q).2.1, (l.pl b q).2.2.1, (l.pl b q).2.2.2.1, hl b q, (l.pl b q).2.2.2.2.2⟩,
   ⟨l.raw.dead, l.raw.hb, l.raw.ρ, l.raw.tb, M.keep S o l.raw.at_ fun q => (l.pl S q).2.2.2.2.2 rfl⟩⟩
theorem LSt.ext {o : Obj} (l : LSt w hb0 ρ s0 μ P S hb s o) (x : Ext [] hb ρ s hb' ρ s') (R' : RelM w hb' ρ s' μ) : LSt w hb0 ρ s0 μ P S hb' s' o :=
  ⟨l.X.trans x, R', fun b q => by
    refine eAAAAA (l.pl b q) ?_; rintro h1 h2 h3 h4 h5 h6
    refine ⟨h1, ?_, h3, h4, x.live b h5, h6⟩
    cases z : hb'.get? b with
    | none => rfl
    | some o' => exact (x.fresh b o' z).elim (fun e => by rw [h2] at e; cases e) fun d => (nd h5 d).elim, l.raw.ext x⟩
theorem LSt.upd {o o' : Obj} {h' : Heap} {tk : Nat} (l : LSt w hb0 ρ s0 μ P S hb s o) (hd : ∀ es ep, o.data ≠ .dict es ep) (hs : Heap.SameBut S s.heap h') (hg : h'.get? S = some o') : LSt w hb0 ρ s0 μ P S hb { s with heap := h', toks := tk } o' := by
  refine eAAA (l.raw.upd (tk := tk) l.X l.R hd hs hg) ?_; rintro r X R _
  exact ⟨X, R, fun b q => by
    refine eAAAAA (l.pl b q) ?_; rintro h1 h2 h3 h4 ⟨ob, h5⟩ h6
    exact ⟨h1, h2, h3, h4, ⟨ob, (hs.2 b h6).trans h5⟩, h6⟩, r⟩
theorem ob_ext {o : Obj} {i : Nat} (It : ItAt w n tg C hb0 ρ P G it xs ob) (l : LSt w hb0 ρ s0 μ P S hb s o) (x : Ext [] hb ρ s hb' ρ s') (h : ob i s) : ob i s' :=
  It.stable i s s' h (fun b o' q e => x.keep b o' e (fun q => nomatch q) (l.pl b q).2.2.1 (l.pl b q).2.2.2.1) fun j g _ e => x.gens j g e
theorem ob_upd {o : Obj} {i : Nat} {h' : Heap} {tk : Nat} (It : ItAt w n tg C hb0 ρ P G it xs ob) (l : LSt w hb0 ρ s0 μ P S hb s o) (hs : Heap.SameBut S s.heap h') (h : ob i s) : ob i { s with heap := h', toks := tk } :=
  It.stable i s _ h (fun b o' q e => (hs.2 b (l.pl b q).2.2.2.2.2).trans e) fun _ _ _ e => e
theorem max_loop {Gd : Nat} {Ms : List Int} {M : Int} (hd0 : 0 < Gd) (hz : Gd < 10000) (hM : M ∈ Ms) (hB : ∀ x ∈ Ms, x ≤ M) (It : ItAt w (n + 1) tg C hb0 ρ P G it (frL Gd Ms) ob) (hC : C μ) (hG : ∀ g ∈ G, s0.gens[g]? = none) (rm : Room (n + 2) A) {R : Result → Shared → Prop} :
    ∀ (k i : Nat) (s : Shared) (hb : Heap) (v : Value) (Mi : Int) (cc : Nat), Ms.length - i = k → LSt w hb0 ρ s0 μ P S hb s (listOf #[v, v] cc) → ob i s → VRel w hb ρ (fr Gd Mi) v → Mi ∈ Ms → (∀ x ∈ Ms.take i, x ≤ Mi) →
      (∀ s' hb' v, Ext [] hb0 ρ s0 hb' ρ s' → RelM w hb' ρ s' μ → VRel w hb' ρ (fr Gd M) v → R (.ok (.ret v)) s') → codeAny (model PRG w) A (.builtin "max.loop" ⟨[it, .none, .ref S], []⟩) R s := by
  have hname : (toString "max" ++ toString ".loop" : String) = "max.loop" := by decide
  intro k
  induction k with
  | zero =>
    intro i s hb v Mi cc hk l o hv hm hle k2
    have hMi : Mi = M := Int.le_antisymm (hB _ hm) (hle _ (by rw [List.take_of_length_le (by lia)]; exact hM))
    subst hMi
    refine codeAny_builtin F.entry_max_loop ?_
    rw [Around.under_plainId F.plain_max_loop _]
    show wpAny _ A.in1 (seqItems? (.ref S) >>= _) _ _ s
    refine wpAny_bind (wpAny_seqItems l.raw.at_ rfl ?_)
    show wpAny _ A.in1 (tryCatch (pyNext it) _ >>= _) _ _ s
    refine wpAny_bind (wpAny_tryCatch (It.next _ hb ρ s μ i _ _ rm.in1 l.sub List.prefix_rfl l.R hC o (fun x hx => ?_) fun _ s' Mv => ?_))
    · rw [List.getElem?_eq_none (by rw [frL_length]; lia)] at hx; cases hx
    · have X' := l.X.moved Mv (fun b q => (l.pl b q).1) hG
      have R' := l.R.moved Mv fun b q => ⟨(l.pl b q).2.1, (l.pl b q).2.2.1, (l.pl b q).2.2.2.1⟩
      have raw' : Raw s0 hb ρ s' S (listOf #[v, v] cc) := ⟨l.raw.dead, l.raw.hb, l.raw.ρ, l.raw.tb, Mv.keep S _ l.raw.at_ fun q => (l.pl S q).2.2.2.2.2 rfl⟩
      show wpAny _ A.in1 (updateSeq S (fun _ => #[]) >>= _) _ _ _
      obtain ⟨e3, hg3⟩ : ∃ e3, (s'.heap.update S (Obj.mapSeq fun _ => (#[] : Array Value))).get? S = some (listOf #[] e3) := ⟨_, get?_update_seq raw'.at_ fun _ => #[]⟩
      refine eAAA (raw'.upd (tk := s'.toks) X' R' (fun es ep z => by cases z) (Heap.SameBut.update s'.heap S (Obj.mapSeq fun _ => (#[] : Array Value))) hg3) ?_; rintro _ X3 R3 _
      refine wpAny_bind ?_
      refine wpAny_updateSeq raw'.at_ rfl (wpAny_bind (wpAny_letGo (wpAny_pure ?_)))
      exact k2 _ hb v X3 R3 hv
  | succ k ih =>
    intro i s hb v Mi cc hk l o hv hm hle k2
    have hlt : i < Ms.length := by lia
    refine codeAny_builtin F.entry_max_loop ?_
    rw [Around.under_plainId F.plain_max_loop _]
    show wpAny _ A.in1 (seqItems? (.ref S) >>= _) _ _ s
    refine wpAny_bind (wpAny_seqItems l.raw.at_ rfl ?_)
    show wpAny _ A.in1 (tryCatch (pyNext it) _ >>= _) _ _ s
    refine wpAny_bind (wpAny_tryCatch (It.next _ hb ρ s μ i _ _ rm.in1 l.sub List.prefix_rfl l.R hC o (fun x hx s' u Mv L' o' hu _ => ?_) fun hx => ?_))
    rotate_left
    · rw [List.getElem?_eq_getElem (by rw [frL_length]; exact hlt)] at hx; cases hx
    refine eEA (frL_get hx) ?_; rintro Mx hMx rfl
    have l' := l.moved hG Mv L'
    show wpAny _ A.in1 (tryCatch (holding [u, u] (richCompare .Gt u v >>= _)) _ >>= _) _ _ _
    have hcmp := o_fr_gt (w := w) (n := n) (μ := μ) (M1 := Mx) (M2 := Mi) hd0 hz
    refine wpAny_bind (wpAny_tryCatch (wpAny_holding (wpAny_bind (hcmp A.in1 hb ρ s' u v _ _ rm.in1 l'.R hu hv fun hb2 ρ2 s2 b X2 R2 hb' => ?_))))
    have hρ := X2.same l'.R R2
    subst hρ
    obtain rfl := VRel.bool_inv hb'
    have l2 := l'.ext X2 R2
    have o2 := ob_ext It l' X2 o'
    refine wpAny_bind (wpAny_holding (wpAny_truthy_bool ?_))
    refine wpAny_bind (wpAny_letGo (wpAny_pure ?_))
    have htk : Ms.take (i + 1) = Ms.take i ++ [Mx] := by rw [List.take_add_one, hMx]; rfl
    by_cases hbt : Mi < Mx
    · rw [decide_eq_true hbt]
      simp only [if_true]
      refine wpAny_bind ?_
      refine wpAny_updateSeq l2.raw.at_ rfl (wpAny_bind (wpAny_letGo ?_))
      rw [hname]
      obtain ⟨e3, hg3⟩ : ∃ e3, (s2.heap.update S (Obj.mapSeq fun _ => (#[u, u] : Array Value))).get? S = some (listOf #[u, u] e3) := ⟨_, get?_update_seq l2.raw.at_ fun _ => #[u, u]⟩
      refine wpAny_pure ⟨plainId_quiet F.plain_max_loop _, ih (i + 1) _ hb2 u Mx e3 (by lia) (l2.upd (fun es ep z => by cases z) (Heap.SameBut.update s2.heap S (Obj.mapSeq fun _ => (#[u, u] : Array Value))) hg3) (ob_upd It l2 (Heap.SameBut.update s2.heap S (Obj.mapSeq fun _ => (#[u, u] : Array Value))) o2) (hu.mono X2.base List.prefix_rfl) (List.mem_of_getElem? hMx) (fun x hx => ?_) k2⟩
      rw [htk] at hx
      rcases List.mem_append.mp hx with q | q
      · have := hle x q; lia
      · rw [List.mem_singleton.mp q]; exact Int.le_refl _
    · rw [decide_eq_false hbt]
      simp only [Bool.false_eq_true, if_false]
      refine wpAny_bind (wpAny_letGo ?_)
      rw [hname]
      refine wpAny_pure ⟨plainId_quiet F.plain_max_loop _, ih (i + 1) s2 hb2 v Mi cc (by lia) l2 o2 (hv.mono X2.base List.prefix_rfl) hm (fun x hx => ?_) k2⟩
      rw [htk] at hx
      rcases List.mem_append.mp hx with q | q
      · exact hle x q
      · rw [List.mem_singleton.mp q]; lia
set_option tactic.hygienic true in
theorem fn_max_frac {Gd : Nat} {Ms : List Int} {M : Int} {a : AV} (hd0 : 0 < Gd) (hz : Gd < 10000) (e : listOfAV μ a = some (frL Gd Ms)) (hM : M ∈ Ms) (hB : ∀ x ∈ Ms, x ≤ M) : FN w (n + 4) (.val (.builtin "max")) [a] [] μ (fr Gd M) μ := fun A hb ρ s fv vs kvs Q E rm R hf hvs hks k => by
  obtain rfl := VRel.val_inv hf; obtain rfl := hks.inv0
  refine eEA hvs.inv1 ?_; rintro _ rfl h1
  rename_i v
  have hname : (toString "max" ++ toString ".loop" : String) = "max.loop" := by decide
  refine call_function_tree F.kind_max F.plain_max F.entry_max (F.args_max1 _) ?_
  show wpAny _ A.in1 (Builtin.Builtins.bindParams "max" ["key", "default"] 0 ⟨[], []⟩ >>= _) _ _ s
  refine wpAny_bind (wpAny_of_eq (show Builtin.Builtins.bindParams "max" ["key", "default"] 0 ⟨[], []⟩ = pure [none, none] from rfl) ?_)
  refine wpAny_bind (wpAny_pure ?_)
  refine wpAny_bind (iter_list (tg := .Name "x" default) (n := n + 1) e tg_name A.in1 hb ρ s v _ _ (rm.in1.mono (by lia)) R h1 fun ys it P G ob s2 hY X2 R2 It o2 hP hG => ?_)
  subst hY
  refine wpAny_bind (wpAny_newObj_type ?_)
  refine eAAA (Raw.new (o := seqObj "list" #[] 0) (tk := s2.toks) X2 R2) ?_; rintro S3 X3 R3 o3
  have pf : ∀ b ∈ P, Dead s.heap b ∧ hb.get? b = none ∧ b ∉ ρ ∧ b ∉ TB ∧ Live s2.heap b ∧ b ≠ s2.heap.objs.size := fun b q => by
    obtain ⟨h2, h3⟩ := hP b q
    exact ⟨h2, dead_base R.keep h2, fun z => nd (R.out b z).2.2 h2, fun z => nd (tb_lt R z) h2, h3, fun z => nd h3 (z ▸ dead_of_le (Nat.le_refl _))⟩
  have l3 : LSt w hb ρ s μ P s2.heap.objs.size hb { s2 with heap := s2.heap.push (seqObj "list" #[] 0), toks := s2.toks } (listOf #[] 0) :=
    ⟨X3, R3, fun b q => eAAAAA (pf b q) fun a1 a2 a3 a4 a5 a6 => ⟨a1, a2, a3, a4, live_stays (fun b o e => Heap.get?_push_of_some _ e) b a5, a6⟩, S3⟩
  have o4 : ob 0 { s2 with heap := s2.heap.push (seqObj "list" #[] 0), toks := s2.toks } := It.stable 0 _ _ o2 (fun b o _ e => Heap.get?_push_of_some _ e) fun _ _ _ e => e
  have hG' : ∀ g ∈ G, s.gens[g]? = none := fun g q => (hG g q).1
  rw [hname]
  refine wpAny_pure ⟨plainId_quiet F.plain_max_loop _, ?_⟩
  have hne : 0 < Ms.length := List.length_pos_of_mem hM
  refine codeAny_builtin F.entry_max_loop ?_
  rw [Around.under_plainId F.plain_max_loop _]
  show wpAny _ A.in1 (seqItems? (.ref s2.heap.objs.size) >>= _) _ _ _
  refine wpAny_bind (wpAny_seqItems l3.raw.at_ rfl ?_)
  show wpAny _ A.in1 (tryCatch (pyNext it) _ >>= _) _ _ _
  refine wpAny_bind (wpAny_tryCatch (It.next _ hb ρ _ μ 0 _ _ (rm.in1.mono (by lia)) l3.sub List.prefix_rfl l3.R e o4 (fun x hx s' u Mv L' o' hu _ => ?_) fun hx => ?_))
  rotate_left
  · rw [List.getElem?_eq_getElem (by rw [frL_length]; exact hne)] at hx; cases hx
  refine eEA (frL_get hx) ?_; rintro Mx hMx rfl
  have l' := l3.moved hG' Mv L'
  show wpAny _ A.in1 (updateSeq s2.heap.objs.size (fun _ => #[u, u]) >>= _) _ _ _
  refine wpAny_bind ?_
  refine wpAny_updateSeq l'.raw.at_ rfl ?_
  rw [hname]
  obtain ⟨e3, hg3⟩ : ∃ e3, (s'.heap.update s2.heap.objs.size (Obj.mapSeq fun _ => (#[u, u] : Array Value))).get? s2.heap.objs.size = some (listOf #[u, u] e3) := ⟨_, get?_update_seq l'.raw.at_ fun _ => #[u, u]⟩
  refine wpAny_pure ⟨plainId_quiet F.plain_max_loop _, max_loop (n := n) hd0 hz hM hB It e hG' (rm.mono (by lia)) (Ms.length - 1) 1 _ hb u Mx e3 (by lia) (l'.upd (fun es ep z => by cases z) (Heap.SameBut.update s'.heap s2.heap.objs.size (Obj.mapSeq fun _ => (#[u, u] : Array Value))) hg3) (ob_upd It l' (Heap.SameBut.update s'.heap s2.heap.objs.size (Obj.mapSeq fun _ => (#[u, u] : Array Value))) o') hu (List.mem_of_getElem? hMx) (fun x hx => ?_) fun s' hb' v X' R' hv => k _ _ _ _ X' R' hv⟩
  have : Ms.take 1 = [Mx] := by rw [List.take_one, List.head?_eq_getElem?, hMx]; rfl
  rw [this] at hx
  rw [List.mem_singleton.mp hx]; exact Int.le_refl _
end
section
variable {w : World} {n m : Nat} {env : Env} {σ σ1 σ2 σ3 : St} {pos : Pos} {hb hb' hb1 hb2 hb0 : Heap} {ρ ρ' ρ1 ρ2 ρ0 : List Addr} {s s' s1 s2 s0 : Shared} {μ μ' : List Cell} {a b c : AV} {X P G : List Nat} {ys : List AV} {lt : Nat → Nat → Bool} {κ : SortKind} {p : Array Nat}
theorem newP_of {hb' : Heap} (M : MovedT P G s s1) (N : New hb hb1 s) (X' : Ext [] hb1 ρ s1 hb' ρ s') : NewP True P hb hb' s :=
  ⟨fun b o e => X'.base b o (N.1 b o e), fun b o e => (X'.fresh b o e).elim (fun e => (N.2 b o e).imp id .inl) fun d => by
    by_cases z : b ∈ P
    · exact .inr (.inr ⟨z, trivial⟩)
    · refine .inr (.inl ?_)
      cases q : s.heap.get? b with
      | none => exact q
      | some o' => exact (nd (M.live b z ⟨o', q⟩) d).elim⟩
theorem eats_sorted (S : SortOk w n κ ys μ lt p) (hz : ys.length ≤ 1000) (hm : n + 2 ≤ m) {n' : Nat} (hm' : n' + 3 ≤ m) : Eats w m n' True "sorted" [] μ ys (.lst (p.toList.map fun i => ys.getD i .none)) := fun A hb0 hb ρ0 ρ s a P G ob fi kvs Q E rm It c o hk k => by
  obtain rfl := hk.inv0
  refine call_function_entry kind_sorted plain_sorted entry_sorted (args_sorted1 _) ?_
  unfold Builtin.«sorted»
  refine wpAny_bind (m := checkCount "sorted" 1 1 _) (wpAny_pure ?_)
  refine wpAny_bind (collect_gen It ((rm.mono hm').in1) c o hz fun s1 hb1 vs M N R f v => ?_)
  refine sorted_tail (n := n) (l' := p.toList.map fun i => ys.getD i .none) R (rm.mono hm) v (by rw [v.length]; exact hz) (fun _ => args_list_sort _) (fun A' s2 D P E' rm' X' R' hD kk => lsort_plain S X' R' rm' hD v kk) fun s' hb' u X' R' hu => ?_
  have pk : ∀ b ∈ P, ∀ o, s1.heap.get? b = some o → s'.heap.get? b = some o := fun b q o e => X'.keep b o e (fun z => nomatch z) (c.pl b q).2.1 (c.pl b q).2.2
  exact k s' hb' u (M.eaten.trans X'.eaten) (newP_of M N X') R' (It.fist s1 s' f fun b o q e => pk b q o e) hu
theorem eats_sortedKey {fa : Addr} {kx : AV → AV} (S : SortOk w n κ (ys.map kx) μ lt p) (hcall : ∀ x ∈ ys, FN w n (.val (.ref fa)) [x] [] μ (kx x) μ) (hz : ys.length ≤ 1000) (hm : n + 2 ≤ m) {n' : Nat} (hm' : n' + 3 ≤ m) :
    Eats w m n' True "sorted" [("key", .val (.ref fa))] μ ys (.lst (p.toList.map fun i => ys.getD i .none)) := fun A hb0 hb ρ0 ρ s a P G ob fi kvs Q E rm It c o hk k => by
  refine eEA hk.inv1 ?_; rintro _ rfl h1
  obtain rfl := VRel.val_inv h1
  refine call_function_entry_kw kind_sorted plain_sorted entry_sorted (ksk_s1 _ _) ?_
  unfold Builtin.«sorted»
  refine wpAny_bind (m := checkCount "sorted" 1 1 _) (wpAny_pure ?_)
  refine wpAny_bind (collect_gen It ((rm.mono hm').in1) c o hz fun s1 hb1 vs M N R f v => ?_)
  refine sorted_tail (n := n) (l' := p.toList.map fun i => ys.getD i .none) R (rm.mono hm) v (by rw [v.length]; exact hz) (fun _ => ksk_l1 _ _) (fun A' s2 D P E' rm' X' R' hD kk => by rw [ksk_t1]; exact lsort_key S hcall X' R' rm' hD v kk) fun s' hb' u X' R' hu => ?_
  have pk : ∀ b ∈ P, ∀ o, s1.heap.get? b = some o → s'.heap.get? b = some o := fun b q o e => X'.keep b o e (fun z => nomatch z) (c.pl b q).2.1 (c.pl b q).2.2
  exact k s' hb' u (M.eaten.trans X'.eaten) (newP_of M N X') R' (It.fist s1 s' f fun b o q e => pk b q o e) hu
theorem RelE.eaten {q : Prop} {cl : List (Str × Addr)} (R : RelE w hb1 ρ1 env s σ) (Ea : Eaten P G ρ1 s s') (N : NewP q P hb1 hb2 s) (R' : RelM w hb2 ρ1 s' σ.mem) (pf : ∀ b ∈ P, b ≠ env.locals ∧ (b ∈ fp env → b ∈ cl.map (·.2))) (hq : q → cl = [])
    (hcl : ∀ x ∈ cl, env.cells.lookup x.1 = some x.2) (ca : ∀ x c, cl.lookup x = some c → ∃ r, s'.heap.IsCell c r ∧ ∀ av, σ.cel.lookup x = some av → ∃ v, r = some v ∧ ∀ h' ρ', VRel w h' ρ' av v) (hkeys : (cl.map (·.1)).Nodup) : RelE w hb2 ρ1 env s' σ := by
  have cell : ∀ c, c ∈ cl.map (·.2) → ∃ x, cl.lookup x = some c := fun c h => by
    refine eEA (List.mem_map.mp h) ?_; rintro ⟨x, c'⟩ h1 rfl
    exact ⟨x, lookup_of_mem hkeys h1⟩
  refine ⟨R', ?_, fun x c e => ?_, R.celD, R.nod, fun b hbm => ?_, R.far⟩
  · refine eEA R.loc ?_; rintro mp h1 h2
    have hL := R.out _ (List.mem_cons_self ..)
    exact ⟨mp, ns_of h1 fun o e => Ea.keep _ o e (fun z => (pf _ z).1 rfl) hL.2.1 hL.2.2.1, fun x av e => eEA (h2 x av e) fun v q1 q2 => ⟨v, q1, q2.mono N.1 List.prefix_rfl⟩⟩
  · have hcm : c ∈ fp env := List.mem_cons_of_mem _ (lookup_snd e)
    by_cases hc : c ∈ P
    · obtain ⟨z, hz⟩ := cell c ((pf c hc).2 hcm)
      have hzx : z = x := lookup_inj (List.nodup_cons.mp R.nod).2 (hcl _ (mem_of_lookup hz)) e
      subst hzx
      refine eEA (ca z c hz) ?_; rintro r h1 h2
      exact ⟨r, h1, fun av q => eEA (h2 av q) fun v z1 z2 => ⟨v, z1, z2 _ _⟩⟩
    · refine eEA (R.cel x c e) ?_; rintro r h1 h2
      have ho := R.out c hcm
      exact ⟨r, isCell_of h1 fun o e => Ea.keep _ o e hc ho.2.1 ho.2.2.1, fun av q => eEA (h2 av q) fun v z1 z2 => ⟨v, z1, z2.mono N.1 List.prefix_rfl⟩⟩
  · refine eAAA (R.out b hbm) ?_; rintro h1 h2 h3 h4
    refine ⟨?_, h2, h3, ?_⟩
    · cases z : hb2.get? b with
      | none => rfl
      | some o =>
        rcases N.2 b o z with e' | d | ⟨d, dq⟩
        · rw [h1] at e'; cases e'
        · exact (nd h4 d).elim
        · have := (pf b d).2 hbm; rw [hq dq] at this; cases this
    · by_cases z : b ∈ P
      · obtain ⟨x, hx⟩ := cell b ((pf b z).2 hbm)
        refine eEA (ca x b hx) ?_; rintro r g1 _
        exact live_cell g1
      · exact Ea.live b z h4
theorem Ext.eaten2 {q : Prop} {cl : List (Str × Addr)} (x : Ext (fp env) hb ρ s hb1 ρ1 s1) (R1 : RelM w hb1 ρ1 s1 μ) (Ea : Eaten P G ρ1 s1 s2) (N : NewP q P hb1 hb2 s1) (R2 : RelM w hb2 ρ1 s2 μ) (pf : ∀ b ∈ P, Dead s.heap b ∨ b ∈ cl.map (·.2)) (hq : q → cl = []) (hcl : ∀ c ∈ cl.map (·.2), c ∈ fp env ∧ Live s2.heap c)
    (hG : ∀ g ∈ G, s.gens[g]? = none) : Ext (fp env) hb ρ s hb2 ρ1 s2 where
  base := fun b o e => N.1 b o (x.base b o e)
  pre := x.pre
  fresh := fun b o e => (N.2 b o e).elim (fun e => x.fresh b o e) fun d => d.elim (fun d => .inr (dead_back x.live d)) fun ⟨d, dq⟩ => (pf b d).elim .inr fun z => by rw [hq dq] at z; cases z
  freshR := x.freshR
  keep := fun b o e h1 h2 h3 => Ea.keep b o (x.keep b o e h1 h2 h3) (fun z => (pf b z).elim (fun d => nd' e d) fun z => h1 (hcl b z).1) (fun z => (x.freshR b z).elim h2 fun d => nd' e d) h3
  live := fun b l => (Classical.em (b ∈ P)).elim (fun z => (pf b z).elim (fun d => (nd l d).elim) fun z => (hcl b z).2) fun z => Ea.live b z (x.live b l)
  gens := fun i g e => Ea.gens i g (x.gens i g e) fun z => by rw [hG i z] at e; cases e
  os := Ea.os.trans x.os
end
section
variable {w : World} {n m : Nat} {env : Env} {σ σ1 σ2 σ3 : St} {pos : Pos} {a b c r : AV}
variable {x : Str} {px gpos : Pos} {elt iter : Expr} {scope : Scope} {Y : List AV → Prop} {C : List AV → List Cell → Prop} {cc T : Addr} {id : String}
theorem se_eat {q : Prop} {nm : Str} {fpos : Pos} (cl : List (Str × Addr)) (celc : List (Str × AV)) (f : AV → AV) (hn : n ≤ 200) (hm : n + 2 ≤ m) (hfn : SE w m env (.Name nm fpos) σ (.val (.builtin id)) σ)
    (h : SE w (n + 2) env iter σ a σ1) (hi : IterX w n (.Name x px) a σ1.mem Y C) (hC : ∀ xs, Y xs → C xs σ1.mem) (hpure : ∀ xs, Y xs → AV.pures xs = true)
    (step : ∀ (xs : List AV), Y xs → ∀ (Ca : Addr) (code : Value) (i : Nat) (y : AV), xs[i]? = some y → GStep w n (genEnv scope cl Ca code builtinsNs env) (.Name x px) elt celc f y)
    (heat : ∀ xs, Y xs → Eats w m (n + 2) q id [] σ1.mem (xs.map f) r) (hq : q → cl = [])
    (hcl : ClOk env cl) (hcel : CelOk σ1.cel cl celc) (hab : ∀ x av, celc.lookup x = some av → av.abs = true)
    (hcode : env.code = .ref cc) (hhd : codeHdIn (Internal.hd.heap_1 w.params) cc T = true) (hT : T ∈ TB) (hglob : autoParam (env.globals = mainGlobals) auR)
    (hkeys : autoParam ((cl.map (·.1)).Nodup) auS) (hnd : autoParam ((cl.map (·.2)).Nodup) auS)
    (hco : autoParam (scope.isCoroutine = false) auR) (hclos : autoParam (closureFor scope env = pure cl) auR) (hcell : autoParam (∀ y ∈ scope.names, y.2 ≠ .cell) auD) (h0 : autoParam (scope.names.lookup (".0" : Str) = some NameKind.local) auR) (hkind : autoParam (scope.kind = .function) auR) (hs : autoParam (∀ x, genFold iter env x = pure x) auI)
    (he : autoParam (eval (.Call (.Name nm fpos) [.GeneratorExp elt [⟨.Name x px, iter, [], 0⟩] scope gpos] [] pos) env = (do callWith pos (← eval (.Name nm fpos) env) [] (backTo pos (starEach [.GeneratorExp elt [⟨.Name x px, iter, [], 0⟩] scope gpos] env)) (backToKw pos (keywordEach [] env)))) auR)
    (hst : autoParam (starEach [.GeneratorExp elt [⟨.Name x px, iter, [], 0⟩] scope gpos] env = (false, eval (.GeneratorExp elt [⟨.Name x px, iter, [], 0⟩] scope gpos) env) :: starEach [] env) auR) :
    SE w m env (.Call (.Name nm fpos) [.GeneratorExp elt [⟨.Name x px, iter, [], 0⟩] scope gpos] [] pos) σ r σ1 := fun A hb ρ s Q E rm R k => by
  refine Call_ (hfn _ _ _ _ _ _ rm R fun hb0 ρ0 s0 fv X0 R0 h0' => ?_) he
  obtain rfl := VRel.val_inv h0'
  refine callWith_any (P := fun _ => True) (by rw [hst]; rfl) (fun h _ => ⟨.machine, Looks.of_pure rfl⟩) (evalArgs_plain ?_)
  refine spliced_more ?_ hst
  refine gexp_make (cl := cl) (celc := celc) (f := f) hn h hi hC hpure step hcode hhd hT hglob hco hclos hcell h0 hkind hs hcl.all hkeys hnd hcel.dom hcel.agree hab (rm.mono hm) R0 fun xs hb1 ρ1 s1 a' P G ob hY X1 R1 It o pf gf => ?_
  refine spliced_none ⟨trivial, ?_⟩
  refine heat xs hY A hb1 hb1 ρ1 ρ1 s1 a' P G ob _ [] _ _ rm It ⟨R1.m, R1.m.top, fun _ _ e => e, fun b q => ⟨(pf b q).1.1, (pf b q).1.2.1, (pf b q).1.2.2.1⟩, fun _ q => q, fun b q => (pf b q).2⟩ o .nil fun s2 hb2 v Ea N R2 ca hv => ?_
  have hclf : ∀ c ∈ cl.map (·.2), c ∈ fp env := fun c hc => by
    refine eEA (List.mem_map.mp hc) ?_; rintro q h1 rfl
    exact List.mem_cons_of_mem _ (lookup_snd (hcl.all q h1))
  have ca' : ∀ x c, cl.lookup x = some c → ∃ r, s2.heap.IsCell c r ∧ ∀ av, σ1.cel.lookup x = some av → ∃ v, r = some v ∧ ∀ h' ρ', VRel w h' ρ' av v := fun x c e => by
    refine eEA (ca x c e) ?_; rintro r g1 g2
    exact ⟨r, g1, fun av q => g2 av (by rw [hcel.agree x c e]; exact q)⟩
  have live_cl : ∀ c ∈ cl.map (·.2), Live s2.heap c := fun c hc => by
    refine eEA (List.mem_map.mp hc) ?_; rintro ⟨z, c'⟩ h1 rfl
    refine eEA (ca z c' (lookup_of_mem hkeys h1)) ?_; rintro r g1 _
    exact live_cell g1
  have RE : RelE w hb2 ρ1 env s2 σ1 := R1.eaten Ea N R2 (fun b q => ⟨(pf b q).1.2.2.2.1, fun z => (pf b q).1.2.2.2.2.resolve_left fun d => nd (R0.out b z).2.2.2 d⟩) hq hcl.all ca' hkeys
  refine k hb2 ρ1 s2 v (X0.trans ?_) RE hv
  exact X1.eaten2 R1.m Ea N R2 (fun b q => (pf b q).1.2.2.2.2) hq (fun c hc => ⟨hclf c hc, live_cl c hc⟩) gf
theorem se_eatKey {q : Prop} {nm kn gname : Str} {fpos gp kp : Pos} {kv : Value} (f : AV → AV) (hn : n ≤ 200) (hm : n + 2 ≤ m) (hfn : SE w m env (.Name nm fpos) σ (.val (.builtin id)) σ) (hg : nsIn (Internal.hd.heap_1 w.params) mainGlobals gname = some (some kv))
    (h : SE w (n + 2) env iter σ a σ1) (hi : IterX w n (.Name x px) a σ1.mem Y C) (hC : ∀ xs, Y xs → C xs σ1.mem) (hpure : ∀ xs, Y xs → AV.pures xs = true)
    (step : ∀ (xs : List AV), Y xs → ∀ (Ca : Addr) (code : Value) (i : Nat) (y : AV), xs[i]? = some y → GStep w n (genEnv scope [] Ca code builtinsNs env) (.Name x px) elt [] f y)
    (heat : ∀ xs, Y xs → Eats w m (n + 2) q id [(kn, .val kv)] σ1.mem (xs.map f) r)
    (hcode : env.code = .ref cc) (hhd : codeHdIn (Internal.hd.heap_1 w.params) cc T = true) (hT : T ∈ TB) (hglob : autoParam (env.globals = mainGlobals) auR)
    (hgk : autoParam (env.scope.kind = .function) auR) (hgx : autoParam (env.kindOf gname = some .globalImplicit) auR) (hgd : autoParam ((gname == ("__debug__" : Str)) = false) auD)
    (hco : autoParam (scope.isCoroutine = false) auR) (hclos : autoParam (closureFor scope env = pure []) auR) (hcell : autoParam (∀ y ∈ scope.names, y.2 ≠ .cell) auD) (h0 : autoParam (scope.names.lookup (".0" : Str) = some NameKind.local) auR) (hkind : autoParam (scope.kind = .function) auR) (hs : autoParam (∀ x, genFold iter env x = pure x) auI)
    (he : autoParam (eval (.Call (.Name nm fpos) [.GeneratorExp elt [⟨.Name x px, iter, [], 0⟩] scope gpos] [⟨some kn, .Name gname gp, kp⟩] pos) env = (do callWith pos (← eval (.Name nm fpos) env) [] (backTo pos (starEach [.GeneratorExp elt [⟨.Name x px, iter, [], 0⟩] scope gpos] env)) (backToKw pos (keywordEach [⟨some kn, .Name gname gp, kp⟩] env)))) auR)
    (hst : autoParam (starEach [.GeneratorExp elt [⟨.Name x px, iter, [], 0⟩] scope gpos] env = (false, eval (.GeneratorExp elt [⟨.Name x px, iter, [], 0⟩] scope gpos) env) :: starEach [] env) auR) :
    SE w m env (.Call (.Name nm fpos) [.GeneratorExp elt [⟨.Name x px, iter, [], 0⟩] scope gpos] [⟨some kn, .Name gname gp, kp⟩] pos) σ r σ1 := fun A hb ρ s Q E rm R k => by
  rw [he]
  refine wpAny_bind (hfn _ _ _ _ _ _ rm R fun hb0 ρ0 s0 fv X0 R0 h0' => ?_)
  obtain rfl := VRel.val_inv h0'
  refine callWith_any (P := fun _ => True) (by rw [kws_none _ rfl, hst]; rfl) (fun h _ => ⟨.machine, Looks.of_pure rfl⟩) (evalArgs_kw2 (kws_all _ rfl) ?_ hst)
  refine spliced_more ?_ hst
  refine gexp_make (cl := []) (celc := []) (f := f) hn h hi hC hpure step hcode hhd hT hglob hco hclos hcell h0 hkind hs (fun _ q => nomatch q) (by simp) (by simp) (fun _ _ e => by cases e) (fun _ _ e => by cases e) (fun _ _ e => by cases e) (rm.mono hm) R0 fun xs hb1 ρ1 s1 a' P G ob hY X1 R1 It o pf gf => ?_
  refine spliced_none ?_
  obtain ⟨mg, hgn⟩ := R1.m.top.g
  refine kwAll_cons (Name_function_global hgk hgx (loadGlobal_global (by rw [hglob]; exact hgn.keeps R1.m.keep) (mg_of R1.m.top.K hgn hg) ?_) hgd)
  refine kwAll_nil ⟨trivial, ?_⟩
  refine heat xs hY A hb1 hb1 ρ1 ρ1 s1 a' P G ob _ _ _ _ rm It ⟨R1.m, R1.m.top, fun _ _ e => e, fun b q => ⟨(pf b q).1.1, (pf b q).1.2.1, (pf b q).1.2.2.1⟩, fun _ q => q, fun b q => (pf b q).2⟩ o (.cons (.val _) .nil) fun s2 hb2 v Ea N R2 ca hv => ?_
  have RE : RelE w hb2 ρ1 env s2 σ1 := R1.eaten (cl := []) Ea N R2 (fun b q => ⟨(pf b q).1.2.2.2.1, fun z => (pf b q).1.2.2.2.2.resolve_left fun d => nd (R0.out b z).2.2.2 d⟩) (fun _ => rfl) (fun _ q => nomatch q) (fun _ _ e => by cases e) (by simp)
  refine k hb2 ρ1 s2 v (X0.trans ?_) RE hv
  exact X1.eaten2 (cl := []) R1.m Ea N R2 (fun b q => (pf b q).1.2.2.2.2) (fun _ => rfl) (fun _ q => nomatch q) gf
end
section
variable {w : World} {n m : Nat} {env : Env} {σ σ1 σ2 σ3 : St} {pos : Pos} {a b c r : AV} {μ μ' : List Cell} {zs : List Nat}
theorem IterX.weaken {tg : Expr} {Y : List AV → Prop} {C C' : List AV → List Cell → Prop} (h : IterX w n tg a μ Y C) (hc : ∀ xs μ', Y xs → C' xs μ' → C xs μ') : IterX w n tg a μ Y C' := fun A hb ρ s v Q E rm R hv k =>
  h A hb ρ s v Q E rm R hv fun ys it P G ob s' hY X R' It o hP hG => k ys it P G ob s' hY X R' ⟨It.stable, fun A hb ρ s μ i Q E rm hb0 hr R hC o k1 k2 => It.next A hb ρ s μ i Q E rm hb0 hr R (hc ys μ hY hC) o k1 k2, It.self⟩ o hP hG
theorem IterX.mono {tg : Expr} {Y Y' : List AV → Prop} {C : List AV → List Cell → Prop} (h : IterX w n tg a μ Y C) (hc : ∀ xs, Y xs → Y' xs) : IterX w n tg a μ Y' C := fun A hb ρ s v Q E rm R hv k =>
  h A hb ρ s v Q E rm R hv fun ys it P G ob s' hY => k ys it P G ob s' (hc ys hY)
structure ArgOk (w : World) (a : AV) (μ : List Cell) (zs : List Nat) : Prop where
  mem : zs ∈ S16
  set : ∀ n, FN w (n + 2) (.val (.type "set")) [a] [] μ (.set zs) μ
  len : ∀ n, FN w n (.val (.builtin "len")) [a] [] μ (.int zs.length) μ
  it : ∀ n p, IterX w n (.Name "cand" p) a μ (fun xs => ∃ os : List Nat, os.Perm zs ∧ xs = natL os) (fun _ _ => True)
theorem toSet_len {ys : List Nat} (h : ∀ y ∈ ys, y < 4) (hn : ys.Nodup) : (toSet ys).Perm ys := by
  rw [toSet_eq h]
  refine (List.perm_ext_iff_of_nodup (List.Pairwise.filter _ List.nodup_range) hn).mpr fun x => ?_
  rw [List.mem_filter, List.mem_range, List.contains_iff_mem]
  exact ⟨fun q => q.2, fun q => ⟨h x q, q⟩⟩
theorem argOk_list {ys : List Nat} (h : ∀ y ∈ ys, y < 4) (hn : ys.Nodup) : ArgOk w (.lst (natL ys)) μ (toSet ys) where
  mem := toSet_mem h
  set := fun n => fn_set_list rfl h
  len := fun n => by
    have hl := (toSet_len h hn).length_eq
    have := s16_len _ (toSet_mem h)
    have e := fn_len_list (w := w) (n := n) (μ := μ) (a := .lst (natL ys)) (l := natL ys) rfl (by rw [natL_length]; lia)
    rw [natL_length] at e
    rwa [hl]
  it := fun n p => ((iter_list (tg := .Name "cand" p) (n := n) (μ := μ) (a := .lst (natL ys)) (xs := natL ys) rfl tg_name).weaken fun _ _ _ _ => rfl).mono fun xs e => ⟨ys, (toSet_len h hn).symm, e⟩
theorem argOk_tup {ys : List Nat} (h : ∀ y ∈ ys, y < 4) (hn : ys.Nodup) : ArgOk w (.tup (natL ys)) μ (toSet ys) where
  mem := toSet_mem h
  set := fun n => fn_set_tup h
  len := fun n => by
    have hl := (toSet_len h hn).length_eq
    have := s16_len _ (toSet_mem h)
    have e := fn_len_tup (w := w) (n := n) (μ := μ) (l := natL ys) (by rw [natL_length]; lia)
    rw [natL_length] at e
    rwa [hl]
  it := fun n p => ((iter_tuple (tg := .Name "cand" p) (n := n) (μ := μ) (xs := natL ys) fun _ _ => rfl).weaken fun _ _ _ _ => trivial).mono fun xs e => ⟨ys, (toSet_len h hn).symm, e⟩
theorem argOk_set (h : zs ∈ S16) : ArgOk w (.set zs) μ zs where
  mem := h
  set := fun n => fn_set_set
  len := fun n => fn_len_set (by have := s16_len _ h; lia)
  it := fun n p => (iter_set (tg := .Name "cand" p) (n := n) (μ := μ) (xs := zs) fun _ _ => rfl)
theorem hd25 : codeHdIn (Internal.hd.heap_1 w.params) 29 25 = true := by kernel_rfl
theorem hd32 : codeHdIn (Internal.hd.heap_1 w.params) 36 32 = true := by kernel_rfl
theorem hd40 : codeHdIn (Internal.hd.heap_1 w.params) 44 40 = true := by kernel_rfl
theorem b_set : nsIn (Internal.hd.heap_1 w.params) mainGlobals "set" = some none := by k_is
theorem b_all : nsIn (Internal.hd.heap_1 w.params) mainGlobals "all" = some none := by k_is
theorem b_any : nsIn (Internal.hd.heap_1 w.params) mainGlobals "any" = some none := by k_is
theorem SE.eqv {e : Expr} (h : SE w n env e σ a σ1) (q : a = b) : SE w n env e σ b σ1 := q ▸ h
theorem natL_get {os : List Nat} {i : Nat} {y : AV} (e : (natL os)[i]? = some y) : ∃ o, os[i]? = some o ∧ y = .int (o : Int) := by
  unfold natL at e
  rw [List.getElem?_map] at e
  cases q : os[i]? with
  | none => rw [q] at e; cases e
  | some j => rw [q] at e; cases e; exact ⟨j, rfl, rfl⟩
theorem Eats.up {q : Prop} {id : String} {ks : List (Str × AV)} {ys : List AV} {k m' : Nat} (h : Eats w m k q id ks μ ys r) (l : m ≤ m') : Eats w m' k q id ks μ ys r := fun A hb0 hb ρ0 ρ s a P G ob fi kvs Q E rm => h A hb0 hb ρ0 ρ s a P G ob fi kvs Q E (rm.mono l)
theorem f_candset (ha : ArgOk w a μ zs) {kc : AV} {bl : List (Str × AV)} {as : List AV} {ks : List (Str × AV)} (hb : ∀ fd, FDK w 30 fd → HBind w fd as ks [("candidates", a), ("num_cand", kc)])
    (hkc : kc = .none ∨ ∃ k : Nat, kc = .int k ∧ ∀ z ∈ zs, z < k) : FC w (n + 6) (.val (.ref 30)) as ks μ (.set zs) μ := by
  refine fc_plain ⟨_, _, _, by k_is⟩ (by k_is) rfl rfl (hb _ ⟨_, _, _, by k_is⟩) (by rfl) (by rfl) (fun L => ?_)
  refine sxC (ss_assign (se_call (se_builtin b_set (by rfl) (by decide)) kept_type (scN (seL rfl) snN) (ha.set _))) ?_
  have hz := s16_len _ ha.mem
  refine sxx_ifNe (sb_cmp (se_call (se_builtin b_len (by rfl) (by decide)) kept_builtin (scN (seL rfl) snN) (ha.len _)) (se_call (se_builtin b_len (by rfl) (by decide)) kept_builtin (scN (seL rfl) snN) (fn_len_set (by lia))) o_ne) (by simp) ?_
  refine sxx_then (ssx_forX (α := Unit) (Y := fun xs => ∃ os : List Nat, os.Perm zs ∧ xs = natL os) (C := fun _ _ => True) (mk := fun _ i _ => ⟨[("approved", .set zs), ("candidates", a)], [("num_cand", kc)], μ⟩) (Inv := fun _ _ _ => True) (seL rfl) (ha.it _ _) (fun _ => ()) (fun _ _ => trivial) (fun _ _ => St.le_r rfl) (fun _ _ _ _ _ => trivial) fun xs i _ y hY hy _ => ⟨_, tgt_local, ?_⟩) fun σ' af h => ⟨h.1, ?_⟩
  · refine eEA hY ?_; clear hY; rintro os hp rfl
    refine eEA (natL_get hy) ?_; rintro o ho rfl
    exact sxx_ifN (sb_not (b := true) (sb_isi (seL rfl) (se_builtin b_int (by rfl) (by decide)) isi_int_int)) (sxx_nil ⟨rfl, (), trivial, St.le_r rfl⟩)
  obtain ⟨rfl, xs0, _, ⟨os0, hp0, rfl⟩, _, rfl⟩ := h
  refine sxx_ifN (sb_not (b := true) (sb_plain (se_eat (n := 1) (q := False) (Y := fun xs => ∃ os : List Nat, os.Perm zs ∧ xs = natL os) (C := fun _ _ => True) (T := 25) [] [] (fun _ => .bool true) (by lia) (by lia) (se_builtin b_all (by rfl) (by decide)) (seL rfl) (ha.it _ _) (fun _ _ => trivial) (fun xs hY => ?_) (fun xs hY Ca code i y hy => ?_) (fun xs hY => (eats_all (n := 3) fun y hy => ?_).up (by lia)) (fun q => q.elim) trivial trivial (fun _ _ e => by cases e) rfl hd25 (by decide)) t_bool)) ?_
  · refine eEA hY ?_; clear hY; rintro os hp rfl; exact pures_nats os
  · refine eEA hY ?_; clear hY; rintro os hp rfl
    refine eEA (natL_get hy) ?_; rintro o ho rfl
    exact ⟨_, _, tgt_local, (se_cmp (seL rfl) se_int o_ge).eqv (by simp), St.le_r rfl⟩
  · refine eEA (List.mem_map.mp hy) ?_; rintro x _ rfl; rfl
  rcases hkc with rfl | ⟨k, rfl, hk⟩
  · refine sxx_ifN (sb_and_f (sb_cmp (se_cell rfl) se_none o_isnot_nn)) ?_
    exact sxx_stop (ss_return (seL rfl)) ⟨rfl, rfl⟩
  refine sxx_ifN (sb_and_t (sb_cmp (se_cell rfl) se_none o_isnot_in) (sb_and_f (sb_plain (se_eat (n := 1) (q := False) (Y := fun xs => ∃ os : List Nat, os.Perm zs ∧ xs = natL os) (C := fun _ _ => True) (T := 25) [("num_cand", L + 1)] [("num_cand", .int k)] (fun _ => .bool false) (by lia) (by lia) (se_builtin b_any (by rfl) (by decide)) (seL rfl) (ha.it _ _) (fun _ _ => trivial) (fun xs hY => ?_) (fun xs hY Ca code i y hy => ?_) (fun xs hY => (eats_any (n := 3) fun y hy => ?_).up (by lia)) (fun q => q.elim) ⟨rfl, trivial⟩ ⟨rfl, rfl, trivial⟩ (fun x av e => ?_) rfl hd25 (by decide)) t_bool))) ?_
  · refine eEA hY ?_; clear hY; rintro os hp rfl; exact pures_nats os
  · refine eEA hY ?_; clear hY; rintro os hp rfl
    refine eEA (natL_get hy) ?_; rintro o ho rfl
    have := hk o (hp.mem_iff.mp (List.mem_of_getElem? ho))
    exact ⟨_, _, tgt_local, (se_cmp (seL rfl) (se_free rfl) o_ge).eqv (by simp; lia), St.le_r rfl⟩
  · refine eEA (List.mem_map.mp hy) ?_; rintro x _ rfl; rfl
  · rcases lookup_cons_some e with ⟨_, rfl⟩ | ⟨_, e⟩
    · rfl
    · cases e
  exact sxx_stop (ss_return (seL rfl)) ⟨rfl, rfl⟩
end
noncomputable def dg (o : Nat) : Str := toString (o : Int)
noncomputable def setText (xs : List Nat) : Str := ("{" : Str) ++ Txt.join ", " (xs.map dg) ++ ("}" : Str)
noncomputable def slt (a b : Str) : Bool := decide (a.cps.toList < b.cps.toList)
theorem dg_lt : ∀ x < 4, ∀ y < 4, slt (dg x) (dg y) = decide (x < y) := by decide +kernel
theorem s16_asc : ∀ xs ∈ S16, xs.Pairwise (· < ·) := by decide
theorem go_asc : ∀ N ∈ [2, 3, 4, 5, 6], kgo N (fun i j => decide (i < j)) (kas_sort N) = some (List.range N).toArray := by decide +kernel
theorem go_desc : ∀ N ∈ [2, 3, 4, 5, 6], kgo N (fun i j => decide (j < i)) (kas_sort N) = some (List.range N).reverse.toArray := by decide +kernel
section
variable {w : World} {n m : Nat} {env : Env} {σ σ1 σ2 σ3 : St} {pos : Pos} {a b c r : AV} {μ μ' : List Cell} {zs xs os : List Nat} {p : Array Nat}
theorem ask_strL {ss : List Str} (i j : Nat) (x y : AV) (e1 : (strL ss)[i]? = some x) (e2 : (strL ss)[j]? = some y) : O2 w n (keyLt' oneType') x y μ (fun _ _ b => b = slt (ss.getD i "") (ss.getD j "")) μ := by
  have g : ∀ {i : Nat} {x : AV}, (strL ss)[i]? = some x → ∃ s, ss[i]? = some s ∧ x = .str s := fun {i x} e => by
    unfold strL at e
    rw [List.getElem?_map] at e
    cases q : ss[i]? with
    | none => rw [q] at e; cases e
    | some j => rw [q] at e; cases e; exact ⟨j, rfl, rfl⟩
  refine eEA (g e1) ?_; rintro s h1 rfl
  refine eEA (g e2) ?_; rintro t h2 rfl
  rw [List.getD_eq_getElem?_getD, List.getD_eq_getElem?_getD, h1, h2]
  exact ask_str
theorem names_sort (hx : xs ∈ S16) (hp : os.Perm xs) : ∃ p, SortOk w n oneType' (strL (os.map dg)) μ (fun i j => slt ((os.map dg).getD i "") ((os.map dg).getD j "")) p ∧ (p.toList.map fun i => (strL (os.map dg)).getD i .none) = strL (xs.map dg) := by
  have hlen := hp.length_eq
  have h4 := s16_len _ hx
  have hlt : ∀ o ∈ os, o < 4 := fun o ho => s16_lt _ hx _ (hp.mem_iff.mp ho)
  have hL : (strL (os.map dg)).length = os.length := by rw [strL_length, List.length_map]
  have hM : (os.map fun (i : Nat) => (i : Int)).length = os.length := List.length_map ..
  have fin : ∀ p : Array Nat, Srt (os.map fun (i : Nat) => (i : Int)) p → (p.toList.map fun i => (strL (os.map dg)).getD i .none) = strL (xs.map dg) := fun p T => by
    have e3 : (p.toList.map fun i => (os.map fun (i : Nat) => (i : Int)).getD i 0) = xs.map fun (i : Nat) => (i : Int) := sorted_one (T.perm.trans (hp.map _)) T.sorted (by
      rw [List.pairwise_map]
      exact (s16_asc _ hx).imp fun h => by lia)
    have e4 : (p.toList.map fun i => os.getD i 0) = xs := by
      have : (p.toList.map fun i => (os.map fun (i : Nat) => (i : Int)).getD i 0) = (p.toList.map fun i => os.getD i 0).map fun (i : Nat) => (i : Int) := by
        rw [List.map_map]
        refine List.map_congr_left fun i hi => ?_
        have := T.lt i hi
        rw [hM] at this
        simp [List.getD_eq_getElem?_getD, List.getElem?_map, List.getElem?_eq_getElem this]
      rw [this] at e3
      have h5 := congrArg (List.map Int.toNat) e3
      have h6 : ∀ l : List Nat, (l.map (fun (i : Nat) => (i : Int))).map Int.toNat = l := fun l => by
        rw [List.map_map]
        conv => rhs; rw [← List.map_id l]
        exact List.map_congr_left fun _ _ => rfl
      rwa [h6, h6] at h5
    rw [← e4]
    unfold strL
    rw [List.map_map, List.map_map, List.map_map]
    refine List.map_congr_left fun i hi => ?_
    have := T.lt i hi
    rw [hM] at this
    simp [List.getD_eq_getElem?_getD, List.getElem?_map, List.getElem?_eq_getElem this]
  have hsl : ∀ i j, i < os.length → j < os.length → slt ((os.map dg).getD i "") ((os.map dg).getD j "") = decide ((os.map fun (i : Nat) => (i : Int)).getD i 0 < (os.map fun (i : Nat) => (i : Int)).getD j 0) := fun i j hi hj => by
    have e1 : (os.map dg).getD i "" = dg os[i] := by simp [List.getD_eq_getElem?_getD, List.getElem?_map, List.getElem?_eq_getElem hi]
    have e2 : (os.map dg).getD j "" = dg os[j] := by simp [List.getD_eq_getElem?_getD, List.getElem?_map, List.getElem?_eq_getElem hj]
    have e3 : (os.map fun (i : Nat) => (i : Int)).getD i 0 = (os[i] : Int) := by simp [List.getD_eq_getElem?_getD, List.getElem?_map, List.getElem?_eq_getElem hi]
    have e4 : (os.map fun (i : Nat) => (i : Int)).getD j 0 = (os[j] : Int) := by simp [List.getD_eq_getElem?_getD, List.getElem?_map, List.getElem?_eq_getElem hj]
    rw [e1, e2, e3, e4, dg_lt _ (hlt _ (List.getElem_mem hi)) _ (hlt _ (List.getElem_mem hj))]
    exact decide_eq_decide.mpr (by lia)
  by_cases h2 : os.length < 2
  · refine ⟨(List.range os.length).toArray, ⟨fun _ => by rw [hL], fun q => (by rw [hL] at q; lia), ask_strL, fun q => (by rw [hL] at q; lia), fun i hi => by rw [hL]; simpa using hi, by rw [hL]; lia, by rw [hL]; simp⟩, fin _ ⟨by simp, fun i hi => by simpa using hi, ?_, ?_⟩⟩
    · have := map_range_getD (os.map fun (i : Nat) => (i : Int)); rw [hM] at this; exact .of_eq this
    · have := map_range_getD (os.map fun (i : Nat) => (i : Int)); rw [hM] at this
      show List.Pairwise _ ((List.range os.length).map fun i => (os.map fun (i : Nat) => (i : Int)).getD i 0)
      rw [this]
      exact short (P := fun l => List.Pairwise (· ≤ ·) (l.map fun (i : Nat) => (i : Int))) .nil (fun x => List.pairwise_singleton ..) _ h2
  · refine eEA (sort_small (Ms := os.map fun (i : Nat) => (i : Int)) (by lia) (by lia)) ?_; rintro p h5 h6
    refine ⟨p, ⟨fun q => (by rw [hL] at q; lia), fun q => kind_str q, ask_strL, fun q => ?_, fun i hi => by rw [hL, ← hM]; exact h6.lt i hi, by rw [hL]; lia, by rw [hL, ← hM]; exact h6.sz⟩, fin p h6⟩
    rw [hL]
    rw [hM] at h5
    rw [← h5]
    exact kgo_congr (fun i j hi hj => hsl i j hi hj) _
theorem comm_asc {ss : List Str} (h6 : ss.length ≤ 6) (h : ss.Pairwise fun a b => slt a b = true) : SortOk w n oneType' (strL ss) μ (fun i j => slt (ss.getD i "") (ss.getD j "")) (List.range ss.length).toArray := by
  have hL := strL_length ss
  refine ⟨fun _ => by rw [hL], fun q => kind_str q, ask_strL, fun q => ?_, fun i hi => by rw [hL]; simpa using hi, by rw [hL]; lia, by rw [hL]; simp⟩
  rw [hL] at q ⊢
  rw [← go_asc ss.length (by have : ss.length = 2 ∨ ss.length = 3 ∨ ss.length = 4 ∨ ss.length = 5 ∨ ss.length = 6 := by lia
                             simp only [List.mem_cons, List.not_mem_nil, or_false]; exact this)]
  refine kgo_congr (fun i j hi hj => ?_) _
  have e : ∀ i (hi : i < ss.length), ss.getD i "" = ss[i] := fun i hi => by simp [List.getD_eq_getElem?_getD, List.getElem?_eq_getElem hi]
  rw [e i hi, e j hj]
  have pw := List.pairwise_iff_getElem.mp h
  rcases Nat.lt_trichotomy i j with q | q | q
  · rw [pw i j hi hj q, decide_eq_true q]
  · subst q; unfold slt; rw [decide_eq_false (List.lt_irrefl _), decide_eq_false (Nat.lt_irrefl _)]
  · have := of_decide_eq_true (pw j i hj hi q)
    unfold slt
    rw [decide_eq_false (List.lt_asymm this), decide_eq_false (by lia)]
theorem comm_desc {ss : List Str} (h6 : ss.length ≤ 6) (h : ss.Pairwise fun a b => slt b a = true) : SortOk w n oneType' (strL ss) μ (fun i j => slt (ss.getD i "") (ss.getD j "")) (List.range ss.length).reverse.toArray := by
  have hL := strL_length ss
  refine ⟨fun q => ?_, fun q => kind_str q, ask_strL, fun q => ?_, fun i hi => by rw [hL]; simpa using hi, by rw [hL]; lia, by rw [hL]; simp⟩
  · rw [hL] at q ⊢
    exact congrArg List.toArray (short (P := fun l => (List.range l.length).reverse = List.range l.length) rfl (fun _ => rfl) _ q)
  rw [hL] at q ⊢
  rw [← go_desc ss.length (by have : ss.length = 2 ∨ ss.length = 3 ∨ ss.length = 4 ∨ ss.length = 5 ∨ ss.length = 6 := by lia
                              simp only [List.mem_cons, List.not_mem_nil, or_false]; exact this)]
  refine kgo_congr (fun i j hi hj => ?_) _
  have e : ∀ i (hi : i < ss.length), ss.getD i "" = ss[i] := fun i hi => by simp [List.getD_eq_getElem?_getD, List.getElem?_eq_getElem hi]
  rw [e i hi, e j hj]
  have pw := List.pairwise_iff_getElem.mp h
  rcases Nat.lt_trichotomy i j with q | q | q
  · have := of_decide_eq_true (pw i j hi hj q)
    unfold slt
    rw [decide_eq_false (List.lt_asymm this), decide_eq_false (by lia)]
  · subst q; unfold slt; rw [decide_eq_false (List.lt_irrefl _), decide_eq_false (Nat.lt_irrefl _)]
  · rw [pw j i hj hi q, decide_eq_true q]
end
theorem text_small : ∀ xs ∈ S16, ((xs.map dg).map (·.length)).sum + (xs.map dg).length ≤ 1048576 ∧ (("{" : Str).length + (Txt.join ", " (xs.map dg)).length ≤ 1000) ∧ (("{" : Str) ++ Txt.join ", " (xs.map dg)).length + ("}" : Str).length ≤ 1000 := by decide +kernel
section
variable {w : World} {n m : Nat} {env : Env} {σ σ1 σ2 σ3 : St} {pos : Pos} {a b c r : AV} {μ μ' : List Cell} {zs xs os : List Nat} {p : Array Nat} {x y : Str}
theorem o_addS (h : x.length + y.length ≤ 1000) : OI w n (binaryOp .Add) (.str x) (.str y) μ (.str (x ++ y)) := fun A hb ρ s v u Q E rm R hv hu k => by
  obtain ⟨t, rfl⟩ := hv.str_inv
  obtain ⟨t', rfl⟩ := hu.str_inv
  exact add_str (fun _ _ => k _ _ _ _ (Ext.toks _) (R.toks _) (.str _ _)) (by rw [sizeLine_eq]; lia)
theorem b_str : nsIn (Internal.hd.heap_1 w.params) mainGlobals "str" = some none := by k_is
theorem b_sorted : nsIn (Internal.hd.heap_1 w.params) mainGlobals "sorted" = some none := by k_is
theorem g_CandSet : nsIn (Internal.hd.heap_1 w.params) mainGlobals "CandidateSet" = some (some (.ref 30)) := by k_is
theorem g_setText : nsIn (Internal.hd.heap_1 w.params) mainGlobals "str_set_of_candidates" = some (some (.ref 45)) := by k_is
theorem f_setText (hx : xs ∈ S16) : FC w (n + 8) (.val (.ref 45)) [.set xs] [] μ (.str (setText xs)) μ := by
  refine fc_plain ⟨_, _, _, by k_is⟩ (by k_is) rfl rfl (hbD rfl (by k_is) fun hb ρ vs kvs hv hk => ?_) (bl := [("candset", .set xs), ("cand_names", .none)]) (by rfl) (by rfl) (fun L => ?_)
  · refine eEA hv.inv1 ?_; rintro _ rfl h1; obtain rfl := hk.inv0
    exact ⟨_, _, rfl, rfl, .cons h1 (.cons .none .nil)⟩
  refine eAA (text_small _ hx) ?_; rintro t1 t2 t3
  refine sxx_ifT (sb_cmp (se_cell rfl) se_none o_is_nn) ?_
  refine sxC (ss_assign (a := .lst (strL (xs.map dg))) (se_eat (n := 1) (q := True) (Y := fun ys => ∃ os : List Nat, os.Perm xs ∧ ys = natL os) (C := fun _ _ => True) (T := 40) [] [] (fun y => .str (dg (toI y).toNat)) (by lia) (by lia) (se_builtin b_sorted (by rfl) (by decide)) (seL rfl) (iter_set fun _ _ => rfl) (fun _ _ => trivial) (fun ys hY => ?_) (fun ys hY Ca code i y hy => ?_) (fun ys hY => ?_) (fun _ => rfl) trivial trivial (fun _ _ e => by cases e) rfl hd40 (by decide))) ?_
  · refine eEA hY ?_; clear hY; rintro os hp rfl; exact pures_nats os
  · refine eEA hY ?_; clear hY; rintro os hp rfl
    refine eEA (natL_get hy) ?_; rintro o ho rfl
    have := s16_lt _ hx o (hp.mem_iff.mp (List.mem_of_getElem? ho))
    exact ⟨_, _, tgt_local, se_call (se_builtin b_str (by rfl) (by decide)) kept_type (scN (seL rfl) snN) (fn_str (by lia)), St.le_r rfl⟩
  · refine eEA hY ?_; clear hY; rintro os hp rfl
    refine eEA (names_sort (w := w) (n := n) (μ := μ) hx hp) ?_; rintro p S e
    have e' : (natL os).map (fun y => AV.str (dg (toI y).toNat)) = strL (os.map dg) := by
      unfold natL strL; rw [List.map_map, List.map_map]; rfl
    rw [e', ← e]
    exact eats_sorted S (by have := S.len; lia) (by lia) (by lia)
  refine sxx_nil ?_
  exact sxx_stop (ss_return (se_binop (se_binop se_str (se_mcall se_str o_join kept_builtin (scN (seL rfl) snN) sks_nil (fn_join rfl (by decide) t1)) (o_addS t2)) se_str (o_addS t3))) ⟨rfl, rfl⟩
noncomputable def com (b : Bool) (ys : List Nat) : AV := if b then .tup (natL ys) else .lst (natL ys)
noncomputable def comN : AV → List Nat
  | .tup l => l.map fun y => (toI y).toNat
  | .lst l => l.map fun y => (toI y).toNat
  | _ => []
theorem comN_com {b : Bool} {ys : List Nat} : comN (com b ys) = ys := by
  have : (natL ys).map (fun y => (toI y).toNat) = ys := by
    unfold natL; rw [List.map_map]
    conv => rhs; rw [← List.map_id ys]
    exact List.map_congr_left fun _ _ => rfl
  cases b <;> exact this
theorem argOk_com {b : Bool} {ys : List Nat} (h : ∀ y ∈ ys, y < 4) (hn : ys.Nodup) : ArgOk w (com b ys) μ (toSet ys) := by
  cases b
  · exact argOk_list h hn
  · exact argOk_tup h hn
theorem com_pure {b : Bool} {ys : List Nat} : (com b ys).pure = true := by
  cases b <;> exact pures_nats ys
theorem coms_pure {b : Bool} : ∀ {css : List (List Nat)}, AV.pures (css.map (com b)) = true
  | [] => rfl
  | c :: css => by
    rw [List.map_cons]
    unfold AV.pures
    rw [com_pure, coms_pure]; rfl
noncomputable def setK : AV → AV
  | .set s => .str (setText s)
  | _ => .none
theorem f_sortc {bb : Bool} {css : List (List Nat)} {lt : Nat → Nat → Bool} (e : listOfAV μ a = some (css.map (com bb))) (hc : ∀ c ∈ css, (∀ y ∈ c, y < 4) ∧ c.Nodup) (hz : css.length ≤ 1000)
    (S : SortOk w (n + 8) oneType' (strL (css.map fun c => setText (toSet c))) μ lt p) :
    FC w (n + 13) (.val (.ref 37)) [a] [] μ (.lst (p.toList.map fun i => (css.map fun c => AV.set (toSet c)).getD i .none)) μ := by
  refine fc_plain ⟨_, _, _, by k_is⟩ (by k_is) rfl rfl (hb1_ fun _ => by rfl) (by rfl) (by rfl) (fun L => ?_) ?_
  · refine sxx_stop (ss_return (se_eatKey (n := 7) (q := True) (Y := fun ys => ys = css.map (com bb)) (C := fun _ μ => listOfAV μ a = some (css.map (com bb))) (T := 32) (fun y => .set (toSet (comN y))) (by lia) (by lia) (se_builtin b_sorted (by rfl) (by decide)) g_setText (seL rfl) (iter_list (tg := .Name "committee" _) (n := 7) (μ := μ) (a := a) (xs := css.map (com bb)) e tg_name) (fun _ _ => e) (fun ys hY => ?_) (fun ys hY Ca code i y hy => ?_) (fun ys hY => ?_) rfl hd32 (by decide))) ⟨rfl, rfl⟩
    · rw [hY]; exact coms_pure
    · subst hY
      rw [List.getElem?_map] at hy
      cases q : css[i]? with
      | none => rw [q] at hy; cases hy
      | some c =>
        rw [q] at hy; cases hy
        obtain ⟨h1, h2⟩ := hc c (List.mem_of_getElem? q)
        exact ⟨_, _, tgt_local, (se_call (se_glob g_CandSet) (kept_ref (by k_is)) (scN (seL rfl) snN) (f_candset (argOk_com h1 h2) (bl := []) (kc := .none) (fun fd hf => hb_of ⟨_, _, _, by k_is⟩ (hbD rfl (by k_is) fun hb ρ vs kvs hv hk => by
          refine eEA hv.inv1 ?_; rintro _ rfl h1; obtain rfl := hk.inv0
          exact ⟨_, _, rfl, rfl, .cons h1 (.cons .none .nil)⟩) hf) (.inl rfl)).fn).eqv (by show AV.set (toSet c) = AV.set (toSet (comN (com bb c))); rw [comN_com]), St.le_r rfl⟩
    · subst hY
      have e1 : ((css.map (com bb)).map fun y => AV.set (toSet (comN y))) = css.map fun c => AV.set (toSet c) := by
        rw [List.map_map]
        exact List.map_congr_left fun c _ => by show AV.set (toSet (comN (com bb c))) = _; rw [comN_com]
      rw [e1]
      refine eats_sortedKey (n := n + 8) (kx := setK) (by
        have : (css.map fun c => AV.set (toSet c)).map setK = strL (css.map fun c => setText (toSet c)) := by unfold strL; rw [List.map_map, List.map_map]; rfl
        rw [this]; exact S) (fun x hx => ?_) (by rw [List.length_map]; exact hz) (by lia) (by lia)
      refine eEA (List.mem_map.mp hx) ?_; rintro c h1 rfl
      exact (f_setText (toSet_mem (hc c h1).1)).fn
  · have : ∀ (l : List AV) (g : Nat → AV) , (∀ i, (g i).inb μ.length = true) → ∀ js : List Nat, AV.inbs μ.length (js.map g) = true := fun _ g hg js => by
      induction js with
      | nil => rfl
      | cons j js ih => rw [List.map_cons]; unfold AV.inbs; rw [hg, ih]; rfl
    unfold AV.inb
    refine this [] _ (fun i => ?_) _
    rw [List.getD_eq_getElem?_getD, List.getElem?_map]
    cases css[i]? <;> rfl
theorem f_sortc_asc {bb : Bool} {css : List (List Nat)} (e : listOfAV μ a = some (css.map (com bb))) (hc : ∀ c ∈ css, (∀ y ∈ c, y < 4) ∧ c.Nodup) (h6 : css.length ≤ 6)
    (h : (css.map fun c => setText (toSet c)).Pairwise fun a b => slt a b = true) : FC w (n + 13) (.val (.ref 37)) [a] [] μ (.lst (setsL (css.map toSet))) μ := by
  have h1 := f_sortc (w := w) (n := n) (μ := μ) (p := (List.range (css.map fun c => setText (toSet c)).length).toArray) e hc (by lia) (comm_asc (by rw [List.length_map]; exact h6) h)
  have e2 : ((List.range (css.map fun c => setText (toSet c)).length).toArray.toList.map fun i => (css.map fun c => AV.set (toSet c)).getD i .none) = setsL (css.map toSet) := by
    have e3 : (css.map fun c => setText (toSet c)).length = (css.map fun c => AV.set (toSet c)).length := by rw [List.length_map, List.length_map]
    rw [e3, List.toList_toArray, range_getD]
    unfold setsL; rw [List.map_map]; rfl
  rwa [e2] at h1
theorem f_sortc_desc {bb : Bool} {css : List (List Nat)} (e : listOfAV μ a = some (css.map (com bb))) (hc : ∀ c ∈ css, (∀ y ∈ c, y < 4) ∧ c.Nodup) (h6 : css.length ≤ 6)
    (h : (css.map fun c => setText (toSet c)).Pairwise fun a b => slt b a = true) : FC w (n + 13) (.val (.ref 37)) [a] [] μ (.lst (setsL (css.reverse.map toSet))) μ := by
  have h1 := f_sortc (w := w) (n := n) (μ := μ) (p := (List.range (css.map fun c => setText (toSet c)).length).reverse.toArray) e hc (by lia) (comm_desc (by rw [List.length_map]; exact h6) h)
  have e2 : ((List.range (css.map fun c => setText (toSet c)).length).reverse.toArray.toList.map fun i => (css.map fun c => AV.set (toSet c)).getD i .none) = setsL (css.reverse.map toSet) := by
    have e3 : (css.map fun c => setText (toSet c)).length = (css.map fun c => AV.set (toSet c)).length := by rw [List.length_map, List.length_map]
    rw [e3, List.toList_toArray, List.map_reverse, range_getD]
    unfold setsL; rw [← List.map_reverse, List.map_map]; rfl
  rwa [e2] at h1
end
section
open PySem.Builtin
theorem entry_il : entryFor table "frozenset.intersection.loop" = some Builtin.«frozenset.intersection.loop» := entryFor_of_tree (by kernel_rfl)
theorem plain_il : plainId "frozenset.intersection.loop" = true := by decide +kernel
theorem full_eq : ∀ xs ∈ S16, ∀ zs ∈ S16, (zs.all xs.contains) = true → xs.length ≤ zs.length → zs = xs := by decide +kernel
section
variable {w : World} {n : Nat} {env : Env} {σ σ1 σ2 σ3 : St} {pos : Pos} {hb hb' hb1 hb2 : Heap} {ρ ρ' ρ1 ρ2 : List Addr} {s s' s1 s2 : Shared} {μ μ' : List Cell} {a b c : AV}
variable {led : Bool} {ts : Nat → Tok} {ep fin mov : Nat} {xs : List Nat} {A : Around} {E : Value → Shared → Prop} {sa : Addr}
theorem not_set {T : String} {v : Value} {Q : Bool → Shared → Prop} (hT : s.TypeIs v T) (hv : ∃ l, v = .ref l) (h1 : isSubtype (.type T) (.type "set") = pure false) (h2 : isSubtype (.type T) (.type "frozenset") = pure false) (h : Q false s) : wpAny (model PRG w) A (Builtin.Frozenset.isAnySet v) Q E s := by
  obtain ⟨l, rfl⟩ := hv
  refine eEA hT ?_; clear hT; rintro o ho hc
  obtain ⟨hh, g, d, tk, os⟩ := s
  obtain ⟨ocls, odict, odata, oslots⟩ := o
  dsimp only at hc ho
  subst hc
  unfold Builtin.Frozenset.isAnySet
  wp_walk
  exact h
theorem inter_seq {id T : String} {v : Value} {U : Value → Shared → Prop} (hT : s.TypeIs v T) (hv : ∃ l, v = .ref l ∧ l ≠ sa) (ha : s.heap.get? sa = some (setObj (ledOf w) ts ep fin mov xs)) (h1 : isSubtype (.type T) (.type "set") = pure false) (h2 : isSubtype (.type T) (.type "frozenset") = pure false)
    (h : wpAny (model PRG w) A (pyIter v) (fun it s1 => codeAny (model PRG w) A (.builtin "frozenset.intersection.loop" ⟨[.ref sa, it, .ref s.heap.objs.size], []⟩) (fun r s2 => match r with | .ok (.ret _) => U (.ref s.heap.objs.size) s2 | _ => False) s1) E { s with heap := s.heap.push (freshSet w) }) : wpAny (model PRG w) A (Builtin.Frozenset.intersection id sa v) U E s := by
  refine eEA hv ?_; clear hv; rintro l rfl hne
  refine eEA hT ?_; clear hT; rintro o ho hc
  unfold Builtin.Frozenset.intersection
  rw [if_neg (by simp; exact hne)]
  refine wpAny_bind (base_set ha (wpAny_bind (newSet_led (wpAny_bind (wpAny_pure (wpAny_bind (wpAny_holding ?_)))))))
  refine wpAny_bind (not_set (T := T) ⟨o, Heap.get?_push_of_some _ ho, hc⟩ ⟨l, rfl⟩ h1 h2 ?_)
  simp only [Bool.false_eq_true, if_false]
  refine wpAny_bind (wpAny_mono h (fun it s1 hc => ?_) fun _ _ z => z)
  refine wpAny_bind (wpAny_runValue (codeAny_mono hc fun r s2 z => ?_))
  rcases r with e | (v | _ | _ | _) <;> first | exact z.elim | skip
  exact wpAny_pure (wpAny_pure z)
theorem inter1 {v : Value} {Q : PySem.Fin → Shared → Prop} (h : wpAny (model PRG w) A (Builtin.Frozenset.intersection "frozenset.intersection" sa v) (fun r s' => wpAny (model PRG w) A (ret r) Q E s') E s) : wpAny (model PRG w) A (Builtin.«frozenset.intersection» ⟨[.ref sa, v], []⟩) Q E s := by
  unfold Builtin.«frozenset.intersection»
  generalize hI : Builtin.Frozenset.intersection = I at h
  wp_walk
  refine wpAny_mono h (fun r s' z => ?_) fun _ _ z => z
  exact wpAny_pure (wpAny_pure z)
set_option tactic.hygienic true in
theorem fold_full : ∀ (l : List Nat), xs ∈ S16 → (∀ y ∈ l, y < 4) → (l.filter xs.contains).foldl (fun acc y => ins4 y acc) xs = xs
  | [], _, _ => rfl
  | y :: l, hx, hl => by
    rw [List.filter_cons]
    split
    · rename_i q
      rw [List.foldl_cons, ins4_same _ hx _ (hl y (List.mem_cons_self ..)) q]
      exact fold_full l hx fun z hz => hl z (List.mem_cons_of_mem _ hz)
    · exact fold_full l hx fun z hz => hl z (List.mem_cons_of_mem _ hz)
theorem interL_loop {tg : Expr} {C : List Cell → Prop} {P G : List Nat} {it : Value} {ys : List Nat} {ob : Nat → Shared → Prop} {S : Addr} (It : ItAt w n tg C hb ρ P G it (natL ys) ob) (hlt : ∀ y ∈ ys, y < 4) (hC : C μ) (hSP : S ∉ P) (hS : hb.get? S = none ∧ S ∉ ρ ∧ S ∉ TB)
    (hP : ∀ b ∈ P, hb.get? b = none ∧ b ∉ ρ ∧ b ∉ TB) (rm : Room (n + 1) A) (hx : xs ∈ S16) (ha : hb.get? sa = some (setObj led ts ep fin mov xs)) {R : Result → Shared → Prop} : ∀ (m i : Nat) (s : Shared) (zs : List Nat) (ts1 : Nat → Tok) (ep1 : Nat), ys.length - i = m → RelM w hb ρ s μ → ob i s → zs ∈ S16 → zs.all xs.contains = true → s.heap.get? S = some (setObj (ledOf w) ts1 ep1 0 0 zs) →
    (∀ s' ts' ep', Moved (S :: P) G s s' → s'.heap.get? S = some (setObj (ledOf w) ts' ep' 0 0 (((ys.drop i).filter xs.contains).foldl (fun acc y => ins4 y acc) zs)) → R (.ok (.ret .none)) s') → codeAny (model PRG w) A (.builtin "frozenset.intersection.loop" ⟨[.ref sa, it, .ref S], []⟩) R s := by
  intro m
  induction m with
  | zero =>
    intro i s zs ts1 ep1 hm RM o hz hs hg k
    refine codeAny_builtin entry_il ?_
    rw [Around.under_plainId plain_il _]
    show wpAny _ A.in1 (pyNext it >>= _) _ _ s
    have hi : ys.length ≤ i := by lia
    refine wpAny_bind (It.next _ _ _ _ _ i _ _ rm.in1 (fun _ _ e => e) List.prefix_rfl RM hC o (fun x hx => ?_) fun _ s' M => ?_)
    · unfold natL at hx; rw [List.getElem?_map, List.getElem?_eq_none hi] at hx; cases hx
    · refine wpAny_pure (k s' ts1 ep1 (M.weaken (fun b q => List.mem_cons_of_mem _ q) fun _ q => q) ?_)
      rw [List.drop_eq_nil_of_le hi]
      exact M.keep _ _ hg hSP
  | succ m ih =>
    intro i s zs ts1 ep1 hm RM o hz hs hg k
    refine codeAny_builtin entry_il ?_
    rw [Around.under_plainId plain_il _]
    show wpAny _ A.in1 (pyNext it >>= _) _ _ s
    have hi : i < ys.length := by lia
    refine wpAny_bind (It.next _ _ _ _ _ i _ _ rm.in1 (fun _ _ e => e) List.prefix_rfl RM hC o (fun x hx s1 v M L1 o1 hv _ => ?_) fun hx => ?_)
    · unfold natL at hx
      rw [List.getElem?_map, List.getElem?_eq_getElem hi] at hx
      cases hx
      obtain ⟨t, rfl⟩ := hv.int_inv
      have hy := hlt _ (List.getElem_mem hi)
      have hg1 := M.keep _ _ hg hSP
      have M1 : Moved (S :: P) G s s1 := M.weaken (fun b q => List.mem_cons_of_mem _ q) fun _ q => q
      have hP' : ∀ b ∈ S :: P, hb.get? b = none ∧ b ∉ ρ ∧ b ∉ TB := fun b hb => by
        rcases List.mem_cons.mp hb with rfl | q
        · exact hS
        · exact hP b q
      have RM1 := RM.moved M1 hP'
      refine wpAny_bind (wpAny_holding ((intKind PRG w).pyHash (k := (ys[i] : Int)) (intKind_is _ _ _ _) ?_))
      rw [show (intKind PRG w).hash (ys[i] : Int) = (ys[i] : Int) from hash_small _ hy]
      have ha1 : (s1.heap.get? sa) = some (setObj led ts ep fin mov xs) := RM1.keep _ _ ha
      have hSne : S ≠ sa := fun q => by subst q; rw [hS.1] at ha; cases ha
      have hfind : ∀ {Q' : Option Nat → Shared → Prop} {E' : Value → Shared → Prop}, (∀ q : Option Nat, q.isSome = xs.contains ys[i] → Q' q { s1 with toks := s1.toks + 1 }) → wpAny (model PRG w) A.in1 (setFind sa (.int (ys[i] : Int) t) (ys[i] : Int)) Q' E' { s1 with toks := s1.toks + 1 } := fun {Q' E'} h => by
        have := wpAny_setFind_of (knd := intKind PRG w) (A := A.in1) (E := E') (s := { s1 with toks := s1.toks + 1 }) (k := (ys[i] : Int)) (x := .int (ys[i] : Int) t) (intKind_is _ _ _ _) rfl (set_of hx ha1) (fun q e => h q (e.trans ?_))
        · rwa [show (intKind PRG w).hash (ys[i] : Int) = (ys[i] : Int) from hash_small _ hy] at this
        · rw [Bool.eq_iff_iff, List.any_eq_true, List.contains_iff_mem]
          constructor
          · rintro ⟨z, h1, h2⟩; have := of_decide_eq_true h2; exact (show z = ys[i] by lia) ▸ h1
          · intro h; exact ⟨_, h, decide_eq_true rfl⟩
      refine wpAny_bind (wpAny_holding (hfind fun q hq => ?_))
      cases hc : xs.contains ys[i] with
      | true =>
        rw [hc] at hq
        rw [if_pos hq]
        refine wpAny_bind (wpAny_holding (set_add_hashed hz hy hg1 fun bb h' ts' ep' hsb hg2 => ?_))
        have M2 : Moved (S :: P) G s1 { s1 with heap := h', toks := s1.toks + 1 } := (moved_same (tk := s1.toks + 1) hg1 (fun es ep z => by cases z) hsb).weaken (fun b hb => by rw [List.mem_singleton.mp hb]; exact List.mem_cons_self ..) fun _ q => nomatch q
        have hz' := ins4_mem _ hz _ hy
        have hs' : (ins4 ys[i] zs).all xs.contains = true := by
          rw [List.all_eq_true]
          intro y hy'
          have h3 := (List.mem_filter.mp hy').2
          rw [Bool.or_eq_true] at h3
          rcases h3 with h3 | h3
          · exact List.all_eq_true.mp hs y (List.contains_iff_mem.mp h3)
          · rw [eq_of_beq h3]; exact hc
        have RM2 := RM.moved (M1.trans M2) hP'
        refine wpAny_bind (size_set hz' hg2 (wpAny_bind (size_set hx (RM2.keep _ _ ha) ?_)))
        by_cases hsz : (ins4 ys[i] zs).length ≥ xs.length
        · rw [if_pos hsz]
          refine wpAny_bind (wpAny_rule (wpAny_pure (k _ ts' ep' (M1.trans M2) ?_)))
          rw [List.drop_eq_getElem_cons hi, List.filter_cons, if_pos hc, List.foldl_cons]
          have e := full_eq _ hx _ hz' hs' hsz
          rw [e] at hg2 ⊢
          rw [fold_full _ hx fun z hz => hlt z (List.mem_of_mem_drop hz)]
          exact hg2
        · rw [if_neg hsz]
          refine wpAny_pure ⟨plainId_quiet plain_il _, ih (i + 1) _ _ ts' ep' (by lia) RM2 (It.stable _ _ _ o1 (fun b o' hb e => (hsb.2 b fun q => hSP (q ▸ hb)).trans e) fun j g _ e => e) hz' hs' hg2 fun s' ts'' ep'' M3 hg3 => k s' ts'' ep'' ((M1.trans M2).trans M3) ?_⟩
          rw [List.drop_eq_getElem_cons hi, List.filter_cons, if_pos hc, List.foldl_cons]
          exact hg3
      | false =>
        rw [hc] at hq
        rw [if_neg (by rw [hq]; decide)]
        have M2 : Moved (S :: P) G s1 { s1 with toks := s1.toks + 1 } := ⟨fun b o e _ => e, fun b _ z => z, fun i g e _ => e, fun h => h, fun L m h => ⟨m, h⟩, rfl⟩
        refine wpAny_pure ⟨plainId_quiet plain_il _, ih (i + 1) _ _ ts1 ep1 (by lia) (RM.moved (M1.trans M2) hP') (It.stable _ _ _ o1 (fun b o' hb e => e) fun j g _ e => e) hz hs hg1 fun s' ts'' ep'' M3 hg3 => k s' ts'' ep'' ((M1.trans M2).trans M3) ?_⟩
        rw [List.drop_eq_getElem_cons hi, List.filter_cons, if_neg (by rw [hc]; decide)]
        exact hg3
    · unfold natL at hx; rw [List.getElem?_map, List.getElem?_eq_getElem hi] at hx; cases hx
theorem inter_fold {ys : List Nat} (hx : xs ∈ S16) (h : ∀ y ∈ ys, y < 4) : (ys.filter xs.contains).foldl (fun acc y => ins4 y acc) [] = inter xs (toSet ys) := by
  rw [fold_eq _ [] (by decide) fun y q => h y (List.mem_filter.mp q).1]
  unfold inter
  apply List.filter_congr
  intro y hy
  rw [toSet_eq h, Bool.eq_iff_iff]
  simp only [List.contains_iff_mem, List.not_mem_nil, Bool.or_eq_true, decide_eq_true_eq, Bool.and_eq_true, List.mem_filter, List.elem_eq_mem, decide_false, Bool.false_or]
  constructor
  · rintro ⟨h1, h2⟩; exact ⟨h2, hy, h1⟩
  · rintro ⟨h1, _, h2⟩; exact ⟨h2, h1⟩
set_option tactic.hygienic true in
theorem fn_inter_list {ys : List Nat} (e : listOfAV μ a = some (natL ys)) (hlt : ∀ y ∈ ys, y < 4) : FN w (n + 3) (.val (.builtin "set.intersection")) [.set xs, a] [] μ (.set (inter xs (toSet ys))) μ := fun A hb ρ s fv vs kvs Q E rm R hf hvs hks k => by
  obtain rfl := VRel.val_inv hf; obtain rfl := hks.inv0
  refine eEEAA hvs.inv2 ?_; rintro _ _ rfl h1 h2
  rename_i v
  obtain ⟨sa, rfl, hx, ts, ep, fin, mov, ho⟩ := h1.set_inv
  have ho' := R.keep _ _ ho
  refine eEEAA (list_of R h2 e) ?_; rintro l vs rfl hl _
  refine wpAny_call_entry F.slot_set_intersection (T := "set") ⟨_, ho', rfl⟩ entry_set_intersection ?_ (F.args_set_intersection_2 _ _)
  refine inter1 ?_
  have hne : l ≠ sa := fun q => by
    subst q
    refine eEAA hl ?_; clear hl; rintro o g1 g2 _
    rw [ho'] at g1; cases g1; injection g2 with q; exact absurd q (by decide)
  refine inter_seq (T := "list") hl.typeIs ⟨l, rfl, hne⟩ ho' F.sub_list_set F.sub_list_frozenset ?_
  have hk : s.heap.StaysIn (s.heap.push (freshSet w)) := fun b o e => Heap.get?_push_of_some _ e
  have R1 : RelM w hb ρ { s with heap := s.heap.push (freshSet w) } μ := R.grow hk rfl
  have X1 : Ext [] hb ρ s hb ρ { s with heap := s.heap.push (freshSet w) } := Ext.plain (fun b o e _ => hk b o e) (live_stays hk) rfl rfl
  have rm' : Room (n + 1) A.in1 := (rm.mono (Nat.le_succ _)).in1
  refine iter_list (tg := .Name "x" default) (n := n) e tg_name _ _ _ _ _ _ _ (rm'.mono (Nat.le_succ _)) R1 h2 fun ys' it P G ob s2 hY X2 R2 It o2 hP hG => ?_
  subst hY
  have hS0 : Dead s.heap s.heap.objs.size := dead_of_le (Nat.le_refl _)
  have hg1 : (s.heap.push (freshSet w)).get? s.heap.objs.size = some (freshSet w) := Heap.get?_push_size _ rfl
  have hSR : s.heap.objs.size ∉ ρ := fun q => nd (R.out _ q).2.2 hS0
  have hST : s.heap.objs.size ∉ TB := fun q => nd (tb_lt R q) hS0
  have hg2 : s2.heap.get? s.heap.objs.size = some (freshSet w) := X2.keep _ _ hg1 (fun q => nomatch q) hSR hST
  have hfr : ∀ b, Dead s.heap b → hb.get? b = none ∧ b ∉ ρ ∧ b ∉ TB := fun b d => ⟨dead_base R.keep d, fun q => nd (R.out b q).2.2 d, fun q => nd (tb_lt R q) d⟩
  have hPd : ∀ b ∈ P, Dead s.heap b := fun b q => dead_back X1.live (hP b q).1
  refine interL_loop It hlt e (fun q => nd' hg1 (hP _ q).1) (hfr _ hS0) (fun b q => hfr b (hPd b q)) rm' hx ho ys.length 0 s2 [] (fun _ => 0) 0 (by simp) R2 o2 (by decide) (by simp) hg2 fun s' ts' ep' M hg' => ?_
  rw [List.drop_zero, inter_fold hx hlt] at hg'
  refine eEAA (set_done R (X1.trans X2) R2 hS0 hPd (fun g q => (hG g q).1) M (inter_mem _ hx _ (toSet_mem hlt)) hg') ?_; rintro hb' X' R' hv'
  exact wpAny_pure ⟨_, rfl, k _ _ _ _ X' R' hv'⟩
end
end
abbrev Vt := List (List Nat × Int)
noncomputable def vtL (vt : Vt) : List AV := vt.map fun v => .voter v.1 v.2
theorem vtL_get {vt : Vt} {i : Nat} {y : AV} (e : (vtL vt)[i]? = some y) : ∃ v, vt[i]? = some v ∧ y = .voter v.1 v.2 := by
  unfold vtL at e
  rw [List.getElem?_map] at e
  cases q : vt[i]? with
  | none => rw [q] at e; cases e
  | some j => rw [q] at e; cases e; exact ⟨j, rfl, rfl⟩
theorem vtL_length {vt : Vt} : (vtL vt).length = vt.length := List.length_map ..
noncomputable def Rl.gsum (r : Rl) : Nat → Int
  | 0 => 0
  | i + 1 => r.gsum i + r.gain (i + 1)
noncomputable def sc (r : Rl) (vt : Vt) (zs : List Nat) : Int := (vt.map fun v => v.2 * r.gsum (inter zs v.1).length).sum
theorem take_sum {α : Type} (f : α → Int) {l : List α} {i : Nat} {x : α} (e : l[i]? = some x) : ((l.take (i + 1)).map f).sum = ((l.take i).map f).sum + f x := by
  obtain ⟨h, rfl⟩ := List.getElem?_eq_some_iff.mp e
  rw [List.take_succ_eq_append_getElem h, List.map_append, List.sum_append]
  simp
theorem inter_len (xs ys : List Nat) : (inter xs ys).length ≤ 4 := by
  unfold inter
  exact Nat.le_trans (List.length_filter_le _ _) (by simp)
section
variable {w : World} {n m : Nat} {env : Env} {σ σ1 σ2 σ3 : St} {pos : Pos} {a b c : AV} {μ μ' : List Cell} {zs xs os : List Nat} {p : Array Nat} {x y : Str} {k : Nat} {vt : Vt}
theorem g_getm : nsIn (Internal.hd.heap_1 w.params) mainGlobals "get_marginal_scorefct" = some (some (.ref 264)) := by k_is
theorem kept_rl {r : Rl} : Kept w r.msf := by cases r <;> exact kept_msf
theorem zero_fr {G : Nat} (h : 0 < G) : red 0 1 = fr G 0 := red_eq (by decide) h (by simp)
theorem f_score (r : Rl) (ha : ArgOk w a μ zs) (hin : a.inb μ.length = true) : FC w (n + 5) (.val (.ref 271)) [.str r.nm, .prof k (vtL vt), a] [] μ (fr r.G (sc r vt zs)) μ := by
  have hG := r.G_pos
  have hG' := r.G_le
  refine fc_plain ⟨_, _, _, by k_is⟩ (by k_is) rfl rfl (hb3_ fun _ _ _ => by rfl) (by rfl) (by rfl) (fun L => ?_)
  refine sxC (ss_assign (se_call (se_glob g_getm) (kept_ref (by k_is)) (scN (seL rfl) (scN (se_call (se_builtin b_len (by rfl) (by decide)) kept_builtin (scN (seL rfl) snN) (ha.len _)) snN)) (f_getm r).fn)) ?_
  refine sxC (ss_assign (se_call (se_glob g_Fraction) (kept_ref (by k_is)) (scN se_int snN) (frac_new1.fn.eq (zero_fr hG)))) ?_
  refine sxx_then (ssx_forD (α := Unit) (xs := vtL vt) (mk := fun i _ => ⟨[("score", fr r.G ((vt.take i).map fun v => v.2 * r.gsum (inter zs v.1).length).sum), ("marginal_scorefct", r.msf), ("committee", a)], [], μ⟩) (Inv := fun _ _ => True) (seL rfl) iter_prof () trivial (St.le_r rfl) fun i _ y hy _ => ⟨_, tgt_local, ?_⟩) fun σ' af h => ⟨h.1, ?_⟩
  · refine eEA (vtL_get hy) ?_; rintro v hv rfl
    refine sxC (ss_assign se_int) ?_
    refine sxx_then (ssx_forX (α := Unit) (Y := fun ys => ∃ os : List Nat, os.Perm (inter zs v.1) ∧ ys = natL os) (C := fun _ _ => True) (mk := fun _ j _ => ⟨[("score", fr r.G (((vt.take i).map fun v => v.2 * r.gsum (inter zs v.1).length).sum + v.2 * r.gsum j)), ("marginal_scorefct", r.msf), ("committee", a), ("cand_in_com", .int (j : Int)), ("vote", .voter v.1 v.2)], [], μ⟩) (Inv := fun _ _ _ => True)
      (se_binop (se_call (se_builtin b_set (by rfl) (by decide)) kept_type (scN (seL rfl) snN) (ha.set _)) (se_attr (seL rfl) o_approved) o_and_set) (iter_set fun _ _ => rfl) (fun _ => ()) (fun _ _ => trivial) (fun _ _ => St.le_of ⟨(by simp [Rl.gsum]; rfl), rfl, rfl, rfl, rfl, trivial⟩ trivial rfl) (fun _ _ _ _ _ => trivial) fun ys j _ y hY hy _ => ⟨_, tgt_local, ?_⟩) fun σ' af h => ⟨h.1, ?_⟩
    · refine eEA hY ?_; clear hY; rintro os hp rfl
      have hj : j < 4 := by
        have h1 := (List.getElem?_eq_some_iff.mp hy).1
        rw [natL_length, hp.length_eq] at h1
        have := inter_len zs v.1; lia
      refine sxC (ss_aug rfl se_int o_iadd) ?_
      refine sxC (ss_aug rfl (se_binop (se_call (seL rfl) kept_rl (scN (seL rfl) snN) (msf_call r (k := j + 1) (by lia) (by lia)).fn) (se_attr (seL rfl) o_weight) (o_fr_mul hG hG' (by have := r.gain_le (j + 1); lia) (by have := r.gain_le (j + 1); lia))) (o_fr_iadd hG hG')) ?_
      refine sxx_nil ⟨rfl, (), trivial, St.le_of ⟨?_, rfl, rfl, rfl, rfl, trivial⟩ trivial rfl⟩
      show some (fr r.G (((vt.take i).map fun v => v.2 * r.gsum (inter zs v.1).length).sum + v.2 * r.gsum j + r.gain (j + 1) * v.2)) = some (fr r.G (((vt.take i).map fun v => v.2 * r.gsum (inter zs v.1).length).sum + v.2 * (r.gsum j + r.gain (j + 1))))
      rw [Int.mul_add, Int.add_assoc, Int.mul_comm (r.gain (j + 1))]
    · obtain ⟨rfl, ys, _, ⟨os, hp, rfl⟩, _, rfl⟩ := h
      refine sxx_nil ⟨rfl, (), trivial, St.le_of ⟨?_, rfl, rfl, trivial⟩ trivial rfl⟩
      show some (fr r.G (((vt.take i).map fun v => v.2 * r.gsum (inter zs v.1).length).sum + v.2 * r.gsum (natL os).length)) = _
      rw [natL_length, hp.length_eq, take_sum (fun v : List Nat × Int => v.2 * r.gsum (inter zs v.1).length) hv]
  refine eAEA h ?_; clear h; rintro rfl _ _ rfl
  rw [vtL_length, List.take_length]
  exact sxx_stop (ss_return (seL rfl)) ⟨rfl, rfl⟩
end
noncomputable def tab (k : Nat) (f : Nat → Int) : List Int := (List.range k).map f
theorem tab_get {k j : Nat} {f : Nat → Int} (h : j < k) : (tab k f)[j]? = some (f j) := by
  unfold tab; rw [List.getElem?_map, List.getElem?_range h]; rfl
theorem tab_length {k : Nat} {f : Nat → Int} : (tab k f).length = k := by unfold tab; simp
theorem tab_congr {k : Nat} {f g : Nat → Int} (h : ∀ x < k, f x = g x) : tab k f = tab k g := by
  unfold tab; exact List.map_congr_left fun x hx => h x (List.mem_range.mp hx)
theorem tab_set {k j : Nat} {f : Nat → Int} {z : Int} : (tab k f).set j z = tab k fun x => if x = j then z else f x := by
  apply List.ext_getElem?
  intro i
  rw [List.getElem?_set]
  by_cases h : i < k
  · rw [tab_get h, tab_get h, tab_length]
    by_cases e : j = i
    · subst e; simp [h]
    · rw [if_neg e, if_neg fun q => e q.symm]
  · have h1 : (tab k f)[i]? = none := List.getElem?_eq_none (by rw [tab_length]; lia)
    have h2 : (tab k fun x => if x = j then z else f x)[i]? = none := List.getElem?_eq_none (by rw [tab_length]; lia)
    rw [h1, h2, tab_length]
    split <;> simp; lia
theorem frL_get' {G j : Nat} {l : List Int} {z : Int} (h : l[j]? = some z) : (frL G l)[j]? = some (fr G z) := by
  unfold frL; rw [List.getElem?_map, h]; rfl
theorem frL_set {G j : Nat} {l : List Int} {z : Int} : (frL G l).set j (fr G z) = frL G (l.set j z) := by
  unfold frL; rw [List.map_set]
theorem frL_rep {G k : Nat} : List.replicate k (fr G 0) = frL G (tab k fun _ => 0) := by
  unfold frL tab
  rw [List.map_map]
  apply List.ext_getElem
  · simp
  · intro i h1 h2; simp
theorem frL_len {G : Nat} {l : List Int} : (frL G l).length = l.length := List.length_map ..
set_option tactic.hygienic true in
theorem listOf_more {μ ν : List Cell} {a : AV} {l : List AV} (e : listOfAV μ a = some l) : listOfAV (μ ++ ν) a = some l := by
  cases a <;> try (first | exact e | cases e)
  rename_i i
  simp only [listOfAV] at e ⊢
  cases q : μ[i]? with
  | none => rw [q] at e; cases e
  | some c =>
    rw [List.getElem?_append_left (List.getElem?_eq_some_iff.mp q).1, q]
    rw [q] at e; exact e
theorem cell_last {μ : List Cell} {c : Cell} : (μ ++ [c])[μ.length]? = some c := by simp
theorem cell_set {μ : List Cell} {c c' : Cell} : (μ ++ [c]).set μ.length c' = μ ++ [c'] := by simp
theorem cell_step {μ : List Cell} {G k j : Nat} {f f' : Nat → Int} {z : Int} (h : tab k f' = (tab k f).set j z) : μ ++ [Cell.lst (frL G (tab k f'))] = (μ ++ [Cell.lst (frL G (tab k f))]).set μ.length (.lst ((frL G (tab k f)).set j (fr G z))) := by
  rw [cell_set, frL_set, h]
theorem cell_eq {μ : List Cell} {G k : Nat} {f f' : Nat → Int} (h : tab k f' = tab k f) : μ ++ [Cell.lst (frL G (tab k f'))] = μ ++ [Cell.lst (frL G (tab k f))] := by rw [h]
noncomputable def mg (r : Rl) (vt : Vt) (zs : List Nat) (x : Nat) : Int := (vt.map fun v => if v.1.contains x then r.gain ((inter v.1 zs).length + 1) * v.2 else 0).sum
noncomputable def mgf (r : Rl) (vt : Vt) (cs : List Nat) (x : Nat) : Int := if cs.contains x then -(r.G : Int) else mg r vt (toSet cs) x
theorem any_natL {os : List Nat} {x : Nat} : (natL os).any (fun y => toI y == (x : Int)) = os.contains x := by
  unfold natL
  rw [List.any_map, Bool.eq_iff_iff, List.any_eq_true, List.contains_iff_mem]
  constructor
  · rintro ⟨y, h1, h2⟩
    have := eq_of_beq h2
    have : (y : Int) = x := this
    exact (show y = x by lia) ▸ h1
  · intro h; exact ⟨x, h, by show ((x : Int) == (x : Int)) = true; simp⟩
theorem natL_take {os : List Nat} {j : Nat} : (natL os).take j = natL (os.take j) := by unfold natL; rw [List.map_take]
theorem take_contains {os : List Nat} {j o : Nat} (ho : os[j]? = some o) (x : Nat) : (os.take (j + 1)).contains x = ((os.take j).contains x || x == o) := by
  obtain ⟨h, rfl⟩ := List.getElem?_eq_some_iff.mp ho
  rw [List.take_succ_eq_append_getElem h, Bool.eq_iff_iff]
  simp only [List.contains_iff_mem, Bool.or_eq_true, beq_iff_eq, List.mem_append, List.mem_singleton]
theorem take_nodup {os : List Nat} {j o : Nat} (hn : os.Nodup) (ho : os[j]? = some o) : (os.take j).contains o = false := by
  obtain ⟨h, rfl⟩ := List.getElem?_eq_some_iff.mp ho
  have e : os = os.take j ++ os[j] :: os.drop (j + 1) := by rw [← List.drop_eq_getElem_cons h, List.take_append_drop]
  rw [e] at hn
  have := (List.nodup_append.mp hn).2.2
  cases q : (os.take j).contains os[j] with
  | false => rfl
  | true => exact absurd rfl (this _ (List.contains_iff_mem.mp q) _ (List.mem_cons_self ..))
theorem take_add {os : List Nat} {j o x : Nat} {f : Nat → Int} {g : Int} (hn : os.Nodup) (ho : os[j]? = some o) :
    (f x + if ((natL os).take (j + 1)).any (fun y => toI y == (x : Int)) then g else 0) = if x = o then (f o + if ((natL os).take j).any (fun y => toI y == (o : Int)) then g else 0) + g else f x + if ((natL os).take j).any (fun y => toI y == (x : Int)) then g else 0 := by
  rw [natL_take, natL_take, any_natL, any_natL, any_natL, take_contains ho]
  by_cases e : x = o
  · subst e; rw [take_nodup hn ho]; simp
  · rw [if_neg e]; simp [e]
theorem mg_step {r : Rl} {vt : Vt} {zs os : List Nat} {i x : Nat} {v : List Nat × Int} (hvi : vt[i]? = some v) (hp : os.Perm v.1) :
    mg r (vt.take (i + 1)) zs x = mg r (vt.take i) zs x + if (natL os).any (fun y => toI y == (x : Int)) then r.gain ((inter v.1 zs).length + 1) * v.2 else 0 := by
  unfold mg
  rw [take_sum (fun v : List Nat × Int => if v.1.contains x then r.gain ((inter v.1 zs).length + 1) * v.2 else 0) hvi, any_natL]
  have : os.contains x = v.1.contains x := by rw [Bool.eq_iff_iff, List.contains_iff_mem, List.contains_iff_mem, hp.mem_iff]
  rw [this]
theorem take_neg {cs : List Nat} {j o x : Nat} {f : Nat → Int} {g : Int} (ho : cs[j]? = some o) :
    (if (cs.take (j + 1)).contains x then g else f x) = if x = o then g else if (cs.take j).contains x then g else f x := by
  rw [take_contains ho]
  by_cases e : x = o
  · subst e; simp
  · simp [e]
theorem inter_le : ∀ xs ∈ S16, ∀ ys ∈ S16, (inter xs ys).length ≤ ys.length := by decide +kernel
theorem neg_fr {G : Nat} (h : 0 < G) : red (-1) 1 = fr G (-G) := red_eq (by decide) h (by simp)
section
variable {w : World} {n m : Nat} {env : Env} {σ σ1 σ2 σ3 : St} {pos : Pos} {a b c : AV} {μ μ' : List Cell} {zs xs os cs : List Nat} {p : Array Nat} {x y : Str} {k : Nat} {vt : Vt}
theorem f_marg (r : Rl) (hk : k ≤ 4) (hv : ∀ v ∈ vt, v.1 ∈ S16 ∧ ∀ x ∈ v.1, x < k) (hc : (∀ y ∈ cs, y < k) ∧ cs.Nodup ∧ cs.length ≤ 3) (e : listOfAV μ a = some (natL cs)) :
    FC w (n + 5) (.val (.ref 327)) [r.msf, .prof k (vtL vt), a] [] μ (.lst (frL r.G (tab k (mgf r vt cs)))) μ := by
  have hG := r.G_pos
  have hG' := r.G_le
  have hc4 : ∀ y ∈ cs, y < 4 := fun y h => by have := hc.1 y h; lia
  refine fc_def (fun σ' v => σ'.mem = μ ++ [.lst (frL r.G (tab k (mgf r vt cs)))] ∧ v = .hnd μ.length) ⟨_, _, _, by k_is⟩ (by k_is) rfl rfl (hb3_ fun _ _ _ => by rfl) (by rfl) (by rfl) (fun L => ?_) (fun σ' v h => ?_) (Nat.le_refl _) (fun h => h)
  · refine sxC (ss_assign (se_binop (se_list (scN (se_call (se_glob g_Fraction) (kept_ref (by k_is)) (scN se_int snN) (frac_new1.fn.eq (zero_fr hG))) snN) (by simp)) (se_attr (seL rfl) (o_numcand (by lia))) (o_repeat rfl rfl (by lia)))) ?_
    refine sxx_then (ssx_forD (α := Unit) (xs := vtL vt) (mk := fun i _ => ⟨[("marginal", .hnd μ.length), ("marginal_scorefct", r.msf), ("committee", a)], [], μ ++ [.lst (frL r.G (tab k (mg r (vt.take i) (toSet cs))))]⟩) (Inv := fun _ _ => True) (seL rfl) iter_prof () trivial (St.le_of ⟨rfl, rfl, rfl, trivial⟩ trivial (by rw [frL_rep]; rfl)) fun i _ y hy _ => ⟨_, tgt_local, ?_⟩) fun σ' af h => ⟨h.1, ?_⟩
    · refine eEA (vtL_get hy) ?_; rintro v hvi rfl
      obtain ⟨hv1, hv2⟩ := hv v (List.mem_of_getElem? hvi)
      have hlen : (inter v.1 (toSet cs)).length ≤ 3 := by
        have h1 := inter_le _ hv1 _ (toSet_mem hc4)
        rw [(toSet_len hc4 hc.2.1).length_eq] at h1
        lia
      refine sxC (ss_assign (se_call (se_builtin b_len (by rfl) (by decide)) kept_builtin (scN (se_mcall (se_attr (seL rfl) o_approved) o_intersection kept_builtin (scN (seL rfl) snN) sks_nil (fn_inter_list (listOf_more e) hc4)) snN) (fn_len_set (by lia)))) ?_
      refine sxx_then (ssx_forX (α := Unit) (Y := fun ys => ∃ os : List Nat, os.Perm v.1 ∧ ys = natL os) (C := fun _ _ => True) (mk := fun ys j _ => ⟨[("marginal", .hnd μ.length), ("marginal_scorefct", r.msf), ("committee", a), ("intersectionsize", .int ((inter v.1 (toSet cs)).length : Int)), ("voter", .voter v.1 v.2)], [], μ ++ [.lst (frL r.G (tab k fun x => mg r (vt.take i) (toSet cs) x + if (ys.take j).any (fun y => toI y == (x : Int)) then r.gain ((inter v.1 (toSet cs)).length + 1) * v.2 else 0))]⟩) (Inv := fun _ _ _ => True)
        (se_attr (seL rfl) o_approved) (iter_set fun _ _ => rfl) (fun _ => ()) (fun _ _ => trivial) (fun _ _ => St.le_of ⟨rfl, rfl, rfl, rfl, rfl, trivial⟩ trivial (cell_eq (tab_congr fun x _ => by simp))) (fun _ _ _ _ _ => trivial) fun ys j _ y hY hy _ => ⟨_, tgt_local, ?_⟩) fun σ' af h => ⟨h.1, ?_⟩
      · refine eEA hY ?_; clear hY; rintro os hp rfl
        refine eEA (natL_get hy) ?_; rintro o ho rfl
        have hok : o < k := hv2 o (hp.mem_iff.mp (List.mem_of_getElem? ho))
        refine sxC (ss_augItem (seL rfl) (seL rfl) cell_last (frL_get' (tab_get hok)) (by rw [frL_len, tab_length]; lia) (se_binop (se_call (seL rfl) kept_rl (scN (se_binop (seL rfl) se_int o_add) snN) (msf_call r (k := (inter v.1 (toSet cs)).length + 1) (by lia) (by lia)).fn) (se_attr (seL rfl) o_weight) (o_fr_mul hG hG' (by have := r.gain_le ((inter v.1 (toSet cs)).length + 1); lia) (by have := r.gain_le ((inter v.1 (toSet cs)).length + 1); lia))) (o_fr_iadd hG hG') cell_last rfl) ?_
        refine sxx_nil ⟨rfl, (), trivial, St.le_of ⟨rfl, rfl, rfl, rfl, rfl, trivial⟩ trivial ?_⟩
        refine cell_step ?_
        rw [tab_set]
        refine tab_congr fun x hx => ?_
        have hod : os.Nodup := hp.nodup_iff.mpr (s16_nodup _ hv1)
        exact take_add hod ho
      · obtain ⟨rfl, ys, _, ⟨os, hp, rfl⟩, _, rfl⟩ := h
        refine sxx_nil ⟨rfl, (), trivial, St.le_of ⟨rfl, rfl, rfl, trivial⟩ trivial ?_⟩
        refine cell_eq (tab_congr fun x hx => ?_)
        rw [List.take_length]
        exact mg_step hvi hp
    refine eAEA h ?_; clear h; rintro rfl _ _ rfl
    rw [vtL_length, List.take_length]
    refine sxx_then (ssx_for (α := Unit) (C := fun μ' => listOfAV μ' a = some (natL cs)) (xs := natL cs) (mk := fun i _ => ⟨[("marginal", .hnd μ.length), ("committee", a)], [], μ ++ [.lst (frL r.G (tab k fun x => if (cs.take i).contains x then -(r.G : Int) else mg r vt (toSet cs) x))]⟩) (Inv := fun _ _ => True) (seL rfl) (iter_list (listOf_more e) tg_name) () trivial (St.le_of ⟨rfl, rfl, trivial⟩ trivial (cell_eq (tab_congr fun x _ => by simp))) (fun _ _ _ => listOf_more e) fun i _ y hy _ => ⟨_, tgt_local, ?_⟩) fun σ' af h => ⟨h.1, ?_⟩
    · refine eEA (natL_get hy) ?_; rintro o ho rfl
      have hok : o < k := hc.1 o (List.mem_of_getElem? ho)
      refine sxC (ss_setItem (se_call (se_glob g_Fraction) (kept_ref (by k_is)) (scN (se_unary se_int o_neg) snN) (frac_new1.fn.eq (neg_fr hG))) (seL rfl) (seL rfl) cell_last (by rw [frL_len, tab_length]; exact hok) (by rw [frL_len, tab_length]; lia) rfl) ?_
      refine sxx_nil ⟨rfl, (), trivial, St.le_of ⟨rfl, rfl, trivial⟩ trivial ?_⟩
      refine cell_step ?_
      rw [tab_set]
      exact tab_congr fun x hx => take_neg ho
    refine eAEA h ?_; clear h; rintro rfl _ _ rfl
    refine sxx_stop (ss_return (seL rfl)) ⟨_, rfl, ?_, rfl⟩
    rw [natL_length, List.take_length]; rfl
  · obtain ⟨h1, rfl⟩ := h
    rw [h1]
    exact ⟨closes_list (Nat.le_refl _) cell_last, by simp⟩
end
section
variable {w : World} {n : Nat} {env : Env} {σ σ0 σ1 σ2 σ3 : St} {hb hb' : Heap} {ρ ρ' t : List Addr} {s s' : Shared} {μ μ' ν M : List Cell} {a b c r r' : AV} {v : Value}
theorem exs_app {M : Model} {Γ : Ctx} {B : List Stmt} {Q : Flow → Pos → Shared → Prop} {E : Value → Pos → Shared → Prop} : ∀ (Al : List Stmt) (p : Pos) (s : Shared), Sem.wp M Γ (execs Al env) (fun f p' s' => match f with | .next => Sem.wp M Γ (execs B env) Q E p' s' | f => Q f p' s') E p s → Sem.wp M Γ (execs (Al ++ B) env) Q E p s
  | [], p, s, h => by
    have : execs [] env = (pure .next : Sem Flow) := rfl
    rw [this, Sem.wp_pure'] at h
    exact h
  | st :: Al, p, s, h => by
    rw [List.cons_append, execs_cons, Sem.wp_bind']
    rw [execs_cons, Sem.wp_bind'] at h
    refine Sem.wp_mono M Γ _ (fun f p' s' h' => ?_) (fun _ _ _ h' => h') _ _ h
    cases f with
    | next => exact exs_app Al p' s' h'
    | _ => rw [Sem.wp_pure'] at h' ⊢; exact h'
inductive FzV (μ ν : List Cell) : AV → AV → Prop where
  | same {a : AV} (h : a.inb μ.length = true) : FzV μ ν a a
  | list {i : Nat} {xs : List AV} (hi : μ.length ≤ i) (e : (μ ++ ν)[i]? = some (.lst xs)) : FzV μ ν (.hnd i) (.lst xs)
  | any {a : AV} : FzV μ ν a .any
set_option tactic.hygienic true in
theorem FzV.rel (f : FzV μ ν a b) (hv : VRel w hb (ρ ++ t) a v) (l : ρ.length = μ.length) (R : RelM w hb (ρ ++ t) s (μ ++ ν))
    (g2 : ∀ a ∈ t, ∀ o, s.heap.get? a = some o → (addB hb s.heap t).get? a = some o) (g3 : hb.StaysIn (addB hb s.heap t)) : VRel w (addB hb s.heap t) ρ b v := by
  cases f with
  | same h => exact (hv.cut (by rw [l]; exact h)).mono g3 List.prefix_rfl
  | any => exact .any v
  | list hi e =>
    refine eEEAA (R.at e) ?_; rintro x o h1 h2 h3
    have hok := R.ok _ (List.mem_of_getElem? e)
    refine eEA (VRel.hnd_inv hv) ?_; rintro _ rfl _
    rename_i hx
    rw [h1] at hx; cases hx
    cases h3
    rename_i hvs
    exact .lst ⟨_, g2 _ (mem_right h1 (by rw [l]; exact hi)) _ h2⟩ ((hvs.pure hok).mono g3 List.prefix_rfl)
structure Fz (μ ν : List Cell) (σ1 σ2 : St) : Prop where
  mem1 : σ1.mem = μ ++ ν
  mem2 : σ2.mem = μ
  loc : ∀ x b, σ2.loc.lookup x = some b → ∃ a, σ1.loc.lookup x = some a ∧ FzV μ ν a b
  cel : ∀ x b, σ2.cel.lookup x = some b → ∃ a, σ1.cel.lookup x = some a ∧ FzV μ ν a b
theorem RelE.fz {σ1 σ2 : St} (R : RelE w hb (ρ ++ t) env s σ1) (F : Fz μ ν σ1 σ2) (l : ρ.length = μ.length) (b : ∀ c ∈ μ, c.inb μ.length = true) : RelE w (addB hb s.heap t) ρ env s σ2 := by
  have RM : RelM w hb (ρ ++ t) s (μ ++ ν) := F.mem1 ▸ R.m
  refine eAA (drop_all RM l b) ?_; rintro g1 g2 g3
  refine ⟨F.mem2 ▸ g1, ?_, fun x c e => ?_, fun x av e => ?_, R.nod, fun a ha => ?_, R.far⟩
  · refine eEA R.loc ?_; rintro mp h1 h2
    refine ⟨mp, h1, fun x av e => ?_⟩
    refine eEA (F.loc x av e) ?_; rintro a e1 f
    refine eEA (h2 x a e1) ?_; rintro v h3 h4
    exact ⟨v, h3, f.rel h4 l RM g2 g3⟩
  · refine eEA (R.cel x c e) ?_; rintro r h1 h2
    refine ⟨r, h1, fun av q => ?_⟩
    refine eEA (F.cel x av q) ?_; rintro a e1 f
    refine eEA (h2 a e1) ?_; rintro v h3 h4
    exact ⟨v, h3, f.rel h4 l RM g2 g3⟩
  · refine eEA (F.cel x av e) ?_; rintro a e1 _
    exact R.celD x a e1
  · refine eAAA (R.out a ha) ?_; rintro q1 q2 q3 q4
    refine ⟨?_, fun q => q2 (List.mem_append_left _ q), q3, q4⟩
    rw [addB_get R.m.keep, if_neg fun q => q2 (List.mem_append_right _ q)]
    exact q1
theorem sxx_freeze {Al B : List Stmt} {P : St → AF → Prop} (hA : SXX w n env Al σ0 fun σ1 af => af = .next ∧ ∃ ν σ2, Fz σ0.mem ν σ1 σ2 ∧ SXX w n env B σ2 P) : SXX w n env (Al ++ B) σ0 P := fun A hb ρ s Q E rm R k => by
  refine fun Γ p hΓ => exs_app Al p s ?_
  refine Sem.wp_mono _ Γ _ (fun f p' s' h' => ?_) (fun _ _ _ h' => h') _ _ (hA A hb ρ s (fun f s' => match f with | .next => wpAny (model PRG w) A (execs B env) Q E s' | f => Q f s') E rm R (fun hb1 ρ1 s1 f σ1 X1 R1 h1 => ?_) Γ p hΓ)
  · cases f <;> first | exact h' Γ p' hΓ | exact h'
  · refine eEA h1 ?_; clear h1; rintro af ⟨rfl, ν, σ2, F, hB⟩ hf
    cases hf
    show wpAny (model PRG w) A (execs B env) Q E s1
    obtain ⟨t, rfl⟩ := X1.pre
    have R2 := R1.fz F R.m.len R.m.inb
    have hold : ∀ a ∈ t, Dead s.heap a := fun a ha => (X1.freshR a (List.mem_append_right _ ha)).elim (fun q => absurd rfl ((List.nodup_append.mp R1.m.nod).2.2 a q a ha)) id
    have X2 := (X1.freeze R1.m.keep hold).drop List.prefix_rfl
    exact hB _ _ _ _ _ _ rm R2 fun _ _ _ _ _ X3 R3 h3 => k _ _ _ _ _ (X2.trans X3) R3 h3
end
section
variable {w : World} {n : Nat} {env : Env} {σ σ0 σ1 σ2 σ3 : St} {hb hb' : Heap} {ρ ρ' t : List Addr} {s s' : Shared} {μ μ' ν M : List Cell} {a b c r r' x : AV} {v : Value} {pos : Pos} {fs : List (Str × AV)}
abbrev SK (w : World) : KeyKind PRG w Str := strKind PRG w
noncomputable def SDs (w : World) (n : Nat) (env : Env) (p : Pos) (ks : List (Option Expr)) (vs : List Expr) (σ : St) (fs : List (Str × AV)) (σ' : St) : Prop :=
  TE w n env (evalPairs (pairTrees ks vs env p)) σ (fun hb ρ vs => ∃ kvs, Carries (SK w) vs kvs ∧ KRels w hb ρ fs kvs) σ'
theorem sds_nil : SDs w n env pos [] [] σ [] σ := fun A hb ρ s Q E rm R k => pairTrees_nil_walk (k _ _ _ _ .refl R ⟨[], trivial, .nil⟩)
theorem sds_cons {kx : Str} {kd : Nat} {kp : Pos} {v : Expr} {ks : List (Option Expr)} {vs : List Expr} (h : SE w n env v σ a σ1) (hr : SDs w n env pos ks vs σ1 fs σ2) : SDs w n env pos (some (.Constant (.str kx) kd kp) :: ks) (v :: vs) σ ((kx, a) :: fs) σ2 := fun A hb ρ s Q E rm R k => by
  refine pairTrees_cons_walk (wpAny_Constant_str ?_)
  refine h _ _ _ _ _ _ rm (R.toks _) fun hb1 ρ1 s1 v1 X1 R1 h1 => ?_
  refine hr _ _ _ _ _ _ rm R1 fun hb2 ρ2 s2 v2 X2 R2 h2 => ?_
  refine eEA h2 ?_; clear h2; rintro kvs g1 g2
  exact k _ _ _ _ (((Ext.toks _).trans X1).trans X2) R2 ⟨(kx, v1) :: kvs, ⟨strKind_is _ _ _ _, rfl, g1⟩, .cons (h1.mono X2.base X2.pre) g2⟩
theorem frels_of {fs : List (Str × AV)} {kvs : List (Str × Value)} {es : List DictEntry} (K : KRels w hb ρ fs kvs) (P : Pairs (SK w) es kvs) : (∀ e ∈ es, ∃ k, (SK w).is k e.key = true ∧ e.hash = (SK w).hash k) → FRels w hb ρ fs es := by
  induction P generalizing fs with
  | nil => intro _; cases K; exact .nil
  | @cons e kv es kvs h1 h2 h3 ih =>
    obtain ⟨k', v⟩ := kv
    intro hk
    cases K with
    | cons hx hxs =>
      obtain ⟨t, ht⟩ := Value.isStrOf_shape h1
      refine eEA (hk _ (List.mem_cons_self ..)) ?_; rintro k'' g1 g2
      obtain rfl := Value.isStrOf_inj _ _ _ g1 h1
      obtain ⟨eh, ek, ev⟩ := e
      obtain rfl : eh = (SK w).hash k'' := g2
      obtain rfl : ek = .str k'' t := ht
      obtain rfl := (show ev = _ from h2)
      exact .cons hx (ih hxs fun e he => hk e (List.mem_cons_of_mem _ he))
theorem dict_obj {h : Heap} {d : Addr} {kvs : List (Str × Value)} (D : h.DictOf (SK w) d kvs) (K : KRels w hb ρ fs kvs) : ∃ es k, h.get? d = some (dictOf es k) ∧ FRels w hb ρ fs es := by
  refine eEEEAAAAA D ?_; clear D; rintro o es ep h1 ⟨c1, c2, c3⟩ h2 h3 h4 _
  refine ⟨es.toList, ep, ?_, frels_of (kvs := kvs) K h4 fun e he => h3 e (by simpa using he)⟩
  rw [h1]
  obtain ⟨oc, od, oda, os⟩ := o
  dsimp only at c1 c2 c3 h2
  subst c1 c2 c3 h2
  rfl
theorem pairs_of {fs : List (Str × AV)} {es : List DictEntry} (H : FRels w hb ρ fs es) : ∃ kvs, KRels w hb ρ fs kvs ∧ Pairs (SK w) es kvs ∧ (∀ e ∈ es, ∃ k, (SK w).is k e.key = true ∧ e.hash = (SK w).hash k) := by
  induction H with
  | nil => exact ⟨[], .nil, .nil, fun _ q => nomatch q⟩
  | @cons k x v t _ _ hx _ ih =>
    refine eEAA ih ?_; clear ih; rintro kvs h1 h2 h3
    refine ⟨(k, v) :: kvs, .cons hx h1, .cons (strKind_is _ _ _ _) rfl h2, fun e he => ?_⟩
    rcases List.mem_cons.mp he with rfl | q
    · exact ⟨k, strKind_is _ _ _ _, rfl⟩
    · exact h3 e q
theorem KRels.keys' {fs : List (Str × AV)} {kvs : List (Str × Value)} (H : KRels w hb ρ fs kvs) : kvs.map (·.1) = fs.map (·.1) := by
  induction H with
  | nil => rfl
  | cons _ _ ih => exact congrArg _ ih
theorem KRels.valueAt {k : Str} {fs : List (Str × AV)} {kvs : List (Str × Value)} (H : KRels w hb ρ fs kvs) : fs.lookup k = some x → ∃ v, PySem.valueAt kvs k = some v ∧ VRel w hb ρ x v := by
  induction H with
  | nil => exact fun e => nomatch e
  | @cons y _ v _ _ hx h ih =>
    intro e
    rw [List.lookup_cons] at e
    unfold PySem.valueAt
    rw [List.find?_cons]
    cases q : k == y with
    | true =>
      rw [q] at e; cases e
      have : y = k := (eq_of_beq q).symm
      simp only [this, decide_true]
      exact ⟨v, rfl, hx⟩
    | false =>
      rw [q] at e
      have : ¬ y = k := fun z => by subst z; simp at q
      simp only [this, decide_false]
      exact ih e
set_option tactic.hygienic true in
theorem se_dict {ks : List (Option Expr)} {vs : List Expr} (h : SDs w n env pos ks vs { σ with mem := σ.mem ++ [.dct []] } fs σ1) (hd : σ1.mem[σ.mem.length]? = some (.dct [])) (hn : autoParam ((fs.map (·.1)).Nodup) auD)
    (hall : autoParam (ks.all (·.isSome) = true) auR) (hl : autoParam (ks.length = vs.length) auR) (h0 : autoParam (ks ≠ []) auS) (hlen : autoParam (ks.length ≤ 15) auD) :
    SE w n env (.Dict ks vs pos) σ (.hnd σ.mem.length) { σ1 with mem := σ1.mem.set σ.mem.length (.dct fs) } := fun A hb ρ s Q E rm R k => by
  refine wpAny_Dict_walk (knd := SK w) hall hl h0 hlen ?_
  have R1 := R.m.cell (o := dictOf [] 0) (c := .dct []) (.dct .nil) rfl
  refine h _ _ _ _ _ _ rm (R.step Ext.cell R1) fun hb1 ρ1 s1 v1 X1 R2 h1 => ?_
  refine eEA h1 ?_; clear h1; rintro kvs g1 g2
  refine eEEAA (R2.m.at hd) ?_; rintro D o e1 e2 e3
  have hD : ρ1[σ.mem.length]? = some s.heap.objs.size := by
    obtain ⟨t, ht⟩ := X1.pre
    rw [← ht, List.getElem?_append_left (by rw [List.length_append, R.m.len]; simp), ← R.m.len, List.getElem?_append_right (Nat.le_refl _), Nat.sub_self]; rfl
  rw [e1] at hD; cases hD
  cases e3
  rename_i es kk hf
  cases hf
  refine ⟨kvs, g1, ⟨_, #[], kk, e2, ⟨rfl, rfl, rfl⟩, rfl, (fun e he => by simp at he), .nil, List.nodup_nil⟩, fun h' hm hs => ?_⟩
  have hk : (kvs.map (·.1)).Nodup := by rw [g2.keys']; exact hn
  rw [merged_nil_of_nodup _ hk] at hm
  refine eEEA (dict_obj hm g2) ?_; rintro es' k' d1 d2
  have R3 := R2.m.upd e1 d1 hs (.dct d2) rfl (s1.toks + v1.length)
  have X3 : Ext [] hb1 ρ1 s1 hb1 ρ1 _ := Ext.upd d1 e1 hs (s1.toks + v1.length)
  exact k _ _ _ _ (((Ext.cell (o := dictOf [] 0)).trans X1).trans (X3.weaken fun _ q => nomatch q)) (R2.step X3 R3) (.hnd e1)
set_option tactic.hygienic true in
theorem se_itemD {e : Expr} {i : Nat} {kx : Str} {kd : Nat} {kp : Pos} (h : SE w n env e σ (.hnd i) σ1) (hd : σ1.mem[i]? = some (.dct fs)) (hx : fs.lookup kx = some x) (hn : autoParam ((fs.map (·.1)).Nodup) auD)
    (hs : autoParam (∀ o u, subscripted (.Constant (.str kx) kd kp) false (.ref o) (.str kx u) = operate [.ref o, .str kx u] (getItem (.ref o) (.str kx u))) auW) (ht : autoParam (∀ o r, letTemporaryGo e (.ref o) r = pure ()) auW) :
    SE w n env (.Subscript e (.Constant (.str kx) kd kp) pos) σ x σ1 := fun A hb ρ s Q E rm R k =>
  Subscript_ (h _ _ _ _ _ _ rm R fun hb1 ρ1 s1 v X1 R1 h1 => wpAny_Constant_str (by
    refine eEEAA (R1.m.at hd) ?_; rintro D o e1 e2 e3
    refine eEA (VRel.hnd_inv h1) ?_; rintro _ rfl _
    rename_i D' hD
    rw [e1] at hD; cases hD
    cases e3
    rename_i es kk hf
    refine eEAA (pairs_of hf) ?_; rintro kvs g1 g2 g3
    refine eEA (g1.valueAt hx) ?_; rintro v g4 g5
    have hk : (kvs.map (·.1)).Nodup := by rw [g1.keys']; exact hn
    have D : s1.heap.DictOf (SK w) D kvs := ⟨_, es.toArray, kk, e2, ⟨rfl, rfl, rfl⟩, rfl, fun e he => g3 e (by simpa using he), by simpa using g2, hk⟩
    exact subscriptTail_builtin (T := "dict") ⟨_, e2, rfl⟩ slot_dict_getitem.lookup (wpAny_getItem_of (knd := SK w) (strKind_is _ _ _ _) (s := { s1 with toks := s1.toks + 1 }) D.mapOf g4 (k _ _ _ _ ((X1.trans (Ext.toks _)).trans (Ext.toks _)) ((R1.toks _).toks _) g5)) (hs _ _) (ht _)))
end
theorem getA {μ l : List Cell} {i : Nat} : (μ ++ l)[μ.length + i]? = l[i]? := by
  rw [List.getElem?_append_right (by lia)]; simp
theorem setA {μ l : List Cell} {i : Nat} {c : Cell} : (μ ++ l).set (μ.length + i) c = μ ++ l.set i c := by
  rw [List.set_append_right _ _ (by lia)]; simp
noncomputable def mx : List Int → Int
  | [] => 0
  | [x] => x
  | x :: y :: l => max x (mx (y :: l))
theorem mx_mem : ∀ {l : List Int}, l ≠ [] → mx l ∈ l
  | [], h => absurd rfl h
  | [x], _ => List.mem_cons_self ..
  | x :: y :: l, _ => by
    unfold mx
    have := mx_mem (l := y :: l) (by simp)
    rcases Int.le_total x (mx (y :: l)) with h | h
    · rw [Int.max_eq_right h]; exact List.mem_cons_of_mem _ this
    · rw [Int.max_eq_left h]; exact List.mem_cons_self ..
theorem mx_le : ∀ {l : List Int}, ∀ x ∈ l, x ≤ mx l
  | [x], y, h => by rw [List.mem_singleton.mp h]; exact Int.le_refl _
  | x :: y :: l, z, h => by
    unfold mx
    rcases List.mem_cons.mp h with rfl | h
    · exact Int.le_max_left ..
    · exact Int.le_trans (mx_le (l := y :: l) z h) (Int.le_max_right ..)
noncomputable def tied (r : Rl) (vt : Vt) (k : Nat) (cs : List Nat) : List Nat := (List.range k).filter fun c => mgf r vt cs c == mx (tab k (mgf r vt cs))
noncomputable def nextC (r : Rl) (vt : Vt) (k : Nat) (cs : List Nat) : Nat := (tied r vt k cs).headD 0
noncomputable def seqC (r : Rl) (vt : Vt) (k : Nat) : Nat → List Nat
  | 0 => []
  | i + 1 => seqC r vt k i ++ [nextC r vt k (seqC r vt k i)]
theorem tied_ne {r : Rl} {vt : Vt} {k : Nat} {cs : List Nat} (hk : 0 < k) : tied r vt k cs ≠ [] := by
  have h := mx_mem (l := tab k (mgf r vt cs)) (fun q => by have := congrArg List.length q; rw [tab_length] at this; simp at this; lia)
  unfold tab at h
  refine eEA (List.mem_map.mp h) ?_; rintro c h1 h2
  have : c ∈ tied r vt k cs := by
    unfold tied
    rw [List.mem_filter]
    refine ⟨h1, ?_⟩
    rw [h2]; unfold tab; simp
  exact List.ne_nil_of_mem this
theorem tied_head {r : Rl} {vt : Vt} {k : Nat} {cs : List Nat} (hk : 0 < k) : (tied r vt k cs)[0]? = some (nextC r vt k cs) ∧ nextC r vt k cs ∈ tied r vt k cs := by
  unfold nextC
  cases q : tied r vt k cs with
  | nil => exact absurd q (tied_ne hk)
  | cons x l => exact ⟨rfl, List.mem_cons_self ..⟩
theorem sum_nonneg {l : List Int} (h : ∀ x ∈ l, 0 ≤ x) : 0 ≤ l.sum := by
  induction l with
  | nil => decide
  | cons x l ih =>
    rw [List.sum_cons]
    have := h x (List.mem_cons_self ..)
    have := ih fun y hy => h y (List.mem_cons_of_mem _ hy)
    lia
theorem mg_nonneg {r : Rl} {vt : Vt} (hw : ∀ v ∈ vt, 0 ≤ v.2) (zs : List Nat) (x : Nat) : 0 ≤ mg r vt zs x := by
  refine sum_nonneg fun y hy => ?_
  refine eEA (List.mem_map.mp hy) ?_; rintro v h1 rfl
  split
  · exact Int.mul_nonneg (r.gain_le _).1 (hw v h1)
  · exact Int.le_refl _
theorem seqC_ok {r : Rl} {vt : Vt} {k : Nat} (hw : ∀ v ∈ vt, 0 ≤ v.2) (i : Nat) : i ≤ k → (∀ y ∈ seqC r vt k i, y < k) ∧ (seqC r vt k i).Nodup ∧ (seqC r vt k i).length = i := by
  induction i with
  | zero => exact fun _ => ⟨(fun _ q => nomatch q), List.nodup_nil, rfl⟩
  | succ i ih =>
    intro hi
    refine eAA (ih (by lia)) ?_; rintro h1 h2 h3
    have hk : 0 < k := by lia
    have ht := (tied_head (r := r) (vt := vt) (cs := seqC r vt k i) hk).2
    obtain ⟨t1, t2⟩ := List.mem_filter.mp ht
    have t3 := eq_of_beq t2
    have hnot : nextC r vt k (seqC r vt k i) ∉ seqC r vt k i := fun q => by
      obtain ⟨c, hc1, hc2⟩ : ∃ c, c < k ∧ c ∉ seqC r vt k i := by
        refine Classical.byContradiction fun z => ?_
        have hall : ∀ c ∈ List.range k, c ∈ seqC r vt k i := fun c hc => Classical.byContradiction fun y => z ⟨c, List.mem_range.mp hc, y⟩
        have hp : (List.range k).length ≤ (seqC r vt k i).length := by
          have := (List.nodup_range (n := k)).length_le_of_subset (l₂ := seqC r vt k i) hall
          exact this
        rw [List.length_range, h3] at hp
        lia
      have e1 : mgf r vt (seqC r vt k i) (nextC r vt k (seqC r vt k i)) = -(r.G : Int) := by
        unfold mgf; rw [if_pos (List.contains_iff_mem.mpr q)]
      have e2 : mgf r vt (seqC r vt k i) c = mg r vt (toSet (seqC r vt k i)) c := by
        unfold mgf; rw [if_neg (fun y => hc2 (List.contains_iff_mem.mp y))]
      have e3 := mx_le (l := tab k (mgf r vt (seqC r vt k i))) (mgf r vt (seqC r vt k i) c) (List.mem_map_of_mem (f := mgf r vt (seqC r vt k i)) (List.mem_range.mpr hc1))
      rw [← t3, e1, e2] at e3
      have := mg_nonneg (r := r) hw (toSet (seqC r vt k i)) c
      have := r.G_pos
      lia
    refine ⟨fun y hy => ?_, ?_, ?_⟩
    · rcases List.mem_append.mp hy with q | q
      · exact h1 y q
      · rw [List.mem_singleton.mp q]; exact List.mem_range.mp t1
    · unfold seqC
      refine List.nodup_append.mpr ⟨h2, by simp, fun a ha b hb e => ?_⟩
      rw [List.mem_singleton.mp hb] at e
      exact hnot (e ▸ ha)
    · unfold seqC; rw [List.length_append, h3]; rfl
section
variable {w : World} {n m : Nat} {env : Env} {σ σ0 σ1 σ2 σ3 : St} {pos : Pos} {a b c : AV} {μ μ' : List Cell} {zs xs os cs : List Nat} {p : Array Nat} {x y : Str} {k : Nat} {vt : Vt} {i j : Int}
theorem rng_new {hb : Heap} {ρ : List Addr} {s : Shared} {tk : Nat} {t u v : Tok} (R : RelM w hb ρ s μ) : ∃ hb', Ext [] hb ρ s hb' ρ { s with heap := s.heap.push { cls := .type "range", data := .fields #[.int i t, .int j u, .int 1 v] }, toks := tk } ∧ RelM w hb' ρ { s with heap := s.heap.push { cls := .type "range", data := .fields #[.int i t, .int j u, .int 1 v] }, toks := tk } μ ∧ VRel w hb' ρ (.rng i j) (.ref s.heap.objs.size) := by
  refine eEAA (grown_frozen (s' := { s with heap := s.heap.push { cls := .type "range", data := .fields #[.int i t, .int j u, .int 1 v] }, toks := tk }) R (fun b o e => Heap.get?_push_of_some _ e) rfl rfl [s.heap.objs.size] (fun a ha => by rw [List.mem_singleton.mp ha]; exact dead_of_le (Nat.le_refl _))) ?_; rintro hb' X2 R2 hget
  exact ⟨hb', X2, R2, .rng (hget _ (List.mem_singleton.mpr rfl) _ (Heap.get?_push_size _ rfl))⟩
theorem fn_range1 : FN w n (.val (.type "range")) [.int j] [] μ (.rng 0 j) μ := fun A hb ρ s fv vs kvs Q E rm R hf hvs hks k => by
  obtain rfl := VRel.val_inv hf; obtain rfl := hks.inv0
  refine eEA hvs.inv1 ?_; rintro _ rfl h1
  obtain ⟨t, rfl⟩ := h1.int_inv
  refine eEAA (rng_new (i := 0) (j := j) (tk := s.toks + 1 + 1) (t := s.toks) (u := t) (v := s.toks + 1) R) ?_; rintro hb' X R' hv
  exact call_range_1 (k _ _ _ _ X R' hv)
theorem fn_range2 : FN w n (.val (.type "range")) [.int i, .int j] [] μ (.rng i j) μ := fun A hb ρ s fv vs kvs Q E rm R hf hvs hks k => by
  obtain rfl := VRel.val_inv hf; obtain rfl := hks.inv0
  refine eEEAA hvs.inv2 ?_; rintro _ _ rfl h1 h2
  obtain ⟨t, rfl⟩ := h1.int_inv
  obtain ⟨u, rfl⟩ := h2.int_inv
  refine eEAA (rng_new (i := i) (j := j) (tk := s.toks + 1) (t := t) (u := u) (v := s.toks) R) ?_; rintro hb' X R' hv
  exact call_range_2 (k _ _ _ _ X R' hv)
theorem g_marg : nsIn (Internal.hd.heap_1 w.params) mainGlobals "marginal_thiele_scores_add" = some (some (.ref 327)) := by k_is
theorem g_sortc : nsIn (Internal.hd.heap_1 w.params) mainGlobals "sorted_committees" = some (some (.ref 37)) := by k_is
theorem b_max : nsIn (Internal.hd.heap_1 w.params) mainGlobals "max" = some none := by k_is
theorem rngL_nat {k : Nat} : rngL 0 (k : Int) = natL (List.range k) := by
  unfold rngL natL
  simp
end
noncomputable def seqM (μ : List Cell) (cs : List Nat) (l1 l2 l3 : List AV) : List Cell := μ ++ [.lst (natL cs), .dct [("next_cand", .hnd (μ.length + 2)), ("tied_cands", .hnd (μ.length + 3)), ("delta_score", .hnd (μ.length + 4))], .lst l1, .lst l2, .lst l3]
section
variable {w : World} {n m : Nat} {env : Env} {σ σ0 σ1 σ2 σ3 : St} {pos : Pos} {a b c : AV} {μ μ' : List Cell} {zs xs os cs : List Nat} {x y : Str} {k : Nat} {vt : Vt} {l1 l2 l3 : List AV} {z : AV}
theorem seqM0 : (seqM μ cs l1 l2 l3)[μ.length]? = some (.lst (natL cs)) := getA (i := 0)
theorem seqM1 : (seqM μ cs l1 l2 l3)[μ.length + 1]? = some (.dct [("next_cand", .hnd (μ.length + 2)), ("tied_cands", .hnd (μ.length + 3)), ("delta_score", .hnd (μ.length + 4))]) := getA
theorem seqM2 : (seqM μ cs l1 l2 l3)[μ.length + 2]? = some (.lst l1) := getA
theorem seqM3 : (seqM μ cs l1 l2 l3)[μ.length + 3]? = some (.lst l2) := getA
theorem seqM4 : (seqM μ cs l1 l2 l3)[μ.length + 4]? = some (.lst l3) := getA
theorem natL_snoc {cs : List Nat} {c : Nat} : natL cs ++ [.int (c : Int)] = natL (cs ++ [c]) := by unfold natL; rw [List.map_append]; rfl
theorem seqS0 {c : Nat} : (seqM μ cs l1 l2 l3).set μ.length (.lst (natL cs ++ [.int (c : Int)])) = seqM μ (cs ++ [c]) l1 l2 l3 := by rw [natL_snoc]; exact setA (i := 0)
theorem seqS2 : (seqM μ cs l1 l2 l3).set (μ.length + 2) (.lst (l1 ++ [z])) = seqM μ cs (l1 ++ [z]) l2 l3 := setA
theorem seqS3 : (seqM μ cs l1 l2 l3).set (μ.length + 3) (.lst (l2 ++ [z])) = seqM μ cs l1 (l2 ++ [z]) l3 := setA
theorem seqS4 : (seqM μ cs l1 l2 l3).set (μ.length + 4) (.lst (l3 ++ [z])) = seqM μ cs l1 l2 (l3 ++ [z]) := setA
theorem listOf_at {i : Nat} {l : List AV} (e : μ[i]? = some (.lst l)) : listOfAV μ (.hnd i) = some l := by simp only [listOfAV]; rw [e]
theorem len1 {c : Cell} : (μ ++ [c]).length = μ.length + 1 := by simp
theorem len2 {c d : Cell} : ((μ ++ [c]) ++ [d]).length = μ.length + 2 := by simp
theorem len3 {c d e : Cell} : (((μ ++ [c]) ++ [d]) ++ [e]).length = μ.length + 3 := by simp
theorem len4 {c d e f : Cell} : ((((μ ++ [c]) ++ [d]) ++ [e]) ++ [f]).length = μ.length + 4 := by simp
theorem get1 {c d e f g : Cell} : (((((μ ++ [c]) ++ [d]) ++ [e]) ++ [f]) ++ [g])[(μ ++ [c]).length]? = some d := by simp
theorem sxx_freeze4 {s1 s2 s3 s4 : Stmt} {B : List Stmt} {P : St → AF → Prop} (hA : SXX w n env [s1, s2, s3, s4] σ0 fun σ1 af => af = .next ∧ ∃ ν σ2, Fz σ0.mem ν σ1 σ2 ∧ SXX w n env B σ2 P) : SXX w n env (s1 :: s2 :: s3 :: s4 :: B) σ0 P := sxx_freeze (Al := [s1, s2, s3, s4]) hA
theorem sxx_consW {st : Stmt} {rest : List Stmt} {P : St → AF → Prop} (h : SS w n env st σ .next σ1) (l : σ2.le σ1) (hr : SXX w n env rest σ2 P) : SXX w n env (st :: rest) σ P := sxC h (TX.le hr l)
theorem seq_mem {c d e f g h : Cell} : μ ++ [c, h, e, f, g] = (((((μ ++ [c]) ++ [d]) ++ [e]) ++ [f]) ++ [g]).set (μ ++ [c]).length h := by simp
theorem sxx_dictW {ks : List (Option Expr)} {vs : List Expr} {x : Str} {p dpos : Pos} {rest : List Stmt} {P : St → AF → Prop} {fs : List (Str × AV)} {i : Nat} (h : SDs w n env dpos ks vs { σ with mem := σ.mem ++ [.dct []] } fs σ1) (hd : σ1.mem[σ.mem.length]? = some (.dct [])) (hi : σ.mem.length = i) (hn : (fs.map (·.1)).Nodup)
    (hall : ks.all (·.isSome) = true) (hl : ks.length = vs.length) (h0 : ks ≠ []) (hlen : ks.length ≤ 15) (hk : env.kindOf x = some .local) (hp : (env.scope.kind == .class || (env.scope.kind == .module && env.locals != env.globals)) = false)
    (hs : swapsWith (.Dict ks vs dpos) (some (.Name x p)) pos.line env = pure false) (l : σ2.le (St.put { σ1 with mem := σ1.mem.set σ.mem.length (.dct fs) } x (.hnd i))) (hr : SXX w n env rest σ2 P) : SXX w n env (.Assign [.Name x p] (.Dict ks vs dpos) pos :: rest) σ P := by
  subst hi
  exact sxx_consW (ss_assign (se_dict h hd hn hall hl h0 hlen) hk hp hs) l hr
theorem seq_keys {u v t : AV} : (([("next_cand", u), ("tied_cands", v), ("delta_score", t)] : List (Str × AV)).map (·.1)).Nodup := by show (["next_cand", "tied_cands", "delta_score"] : List Str).Nodup; decide
theorem natL_get' {os : List Nat} {i o : Nat} (e : os[i]? = some o) : (natL os)[i]? = some (.int (o : Int)) := by unfold natL; rw [List.getElem?_map, e]; rfl
theorem hnd_eqv {e : Expr} {i j : Nat} (h : SE w n env e σ (.hnd i) σ1) (q : i = j) : SE w n env e σ (.hnd j) σ1 := q ▸ h
theorem f_seq (r : Rl) {kc : Nat} (hk : k ≤ 4) (h0 : 0 < kc) (hkc : kc ≤ k) (hv : ∀ v ∈ vt, v.1 ∈ S16 ∧ (∀ x ∈ v.1, x < k) ∧ 0 ≤ v.2) :
    FC w (n + 14) (.val (.ref 462)) [.str r.nm, .prof k (vtL vt), .int (kc : Int)] [] μ (.tup [.lst (setsL [toSet (seqC r vt k kc)]), .any]) μ := by
  have hG := r.G_pos
  have hG' := r.G_le
  have ok := seqC_ok (r := r) (vt := vt) (k := k) fun v h => (hv v h).2.2
  refine fc_plain ⟨_, _, _, by k_is⟩ (by k_is) rfl rfl (hb3_ fun _ _ _ => by rfl) (by rfl) (by rfl) (fun L => ?_) (by simp [AV.inb, AV.inbs, setsL])
  refine sxx_freeze4 ?_
  refine sxC (ss_assign (se_listC snN (by decide) rfl)) ?_
  refine sxx_consW (σ2 := ⟨[("committee", .hnd μ.length), ("marginal_scorefct", r.msf), ("profile", .prof k (vtL vt)), ("committeesize", .int (kc : Int))], [], μ ++ [.lst []]⟩) (ss_assign (se_call (se_glob g_getm) (kept_ref (by k_is)) (scN (seL rfl) (scN (seL rfl) snN)) (f_getm r).fn)) (St.le_r rfl) ?_
  refine @sxx_dictW _ _ _ _ ⟨[("committee", .hnd μ.length), ("marginal_scorefct", r.msf), ("profile", .prof k (vtL vt)), ("committeesize", .int (kc : Int))], [], ((((μ ++ [.lst []]) ++ [.dct []]) ++ [.lst []]) ++ [.lst []]) ++ [.lst []]⟩ ⟨[("committee", .hnd μ.length), ("marginal_scorefct", r.msf), ("profile", .prof k (vtL vt)), ("committeesize", .int (kc : Int)), ("detailed_info", .hnd (μ.length + 1))], [], seqM μ [] [] [] []⟩ _ _ _ _ _ _ _ _ [("next_cand", .hnd (μ.length + 2)), ("tied_cands", .hnd (μ.length + 3)), ("delta_score", .hnd (μ.length + 4))] (μ.length + 1) ?hsd get1 len1 (by show (["next_cand", "tied_cands", "delta_score"] : List Str).Nodup; decide) rfl rfl (by simp) (by decide) rfl rfl rfl (St.le_of ⟨rfl, rfl, rfl, rfl, rfl, trivial⟩ trivial seq_mem) ?hrest
  case hsd => exact (sds_cons (hnd_eqv (se_listC snN (by decide) rfl) len2) (sds_cons (hnd_eqv (se_listC snN (by decide) rfl) len3) (sds_cons (hnd_eqv (se_listC snN (by decide) rfl) len4) sds_nil)))
  refine sxx_then (ssx_for (α := List AV × List AV × List AV) (C := fun _ => True) (xs := rngL 0 (kc : Int)) (mk := fun i q => ⟨[("committee", .hnd μ.length), ("marginal_scorefct", r.msf), ("profile", .prof k (vtL vt)), ("detailed_info", .hnd (μ.length + 1))], [], seqM μ (seqC r vt k i) q.1 q.2.1 q.2.2⟩) (Inv := fun i q => q.1.length = i ∧ q.2.1.length = i ∧ q.2.2.length = i)
    (se_call (se_builtin b_range (by rfl) (by decide)) kept_type (scN (seL rfl) snN) fn_range1) (iter_range (by lia) (by lia) fun _ _ => rfl) ([], [], []) ⟨rfl, rfl, rfl⟩ (St.le_r rfl) (fun _ _ _ => trivial) fun i q y hy hq => ⟨_, tgt_local, ?_⟩) fun σ' af h => ⟨h.1, ?_⟩
  · obtain ⟨q1, q2, q3⟩ := q
    refine eAA hq ?_; clear hq; rintro hq1 hq2 hq3
    rw [rngL_nat] at hy
    refine eEA (natL_get hy) ?_; rintro o ho rfl
    have hi : i < kc := by have := (List.getElem?_eq_some_iff.mp ho).1; rwa [List.length_range] at this
    refine eAA (ok i (by lia)) ?_; rintro ok1 ok2 ok3
    have hk0 : 0 < k := by lia
    have hne : tab k (mgf r vt (seqC r vt k i)) ≠ [] := fun q => by have := congrArg List.length q; rw [tab_length] at this; simp at this; lia
    refine sxC (ss_assignC (se_call (se_glob g_marg) (kept_ref (by k_is)) (scN (seL rfl) (scN (seL rfl) (scN (seL rfl) snN))) (f_marg r hk (fun v h => ⟨(hv v h).1, (hv v h).2.1⟩) ⟨ok1, ok2, by lia⟩ (listOf_at seqM0)).fn) ⟨L + 1, rfl, fun y c e _ => (lookup_cons_some e).elim (·.1) fun q => by cases q.2⟩) ?_
    refine sxx_consW (σ2 := ⟨[("committee", .hnd μ.length), ("marginal_scorefct", r.msf), ("profile", .prof k (vtL vt)), ("detailed_info", .hnd (μ.length + 1)), ("tied_cands", .lst (natL (tied r vt k (seqC r vt k i))))], [("additional_score_cand", .lst (frL r.G (tab k (mgf r vt (seqC r vt k i)))))], seqM μ (seqC r vt k i) q1 q2 q3⟩) (ss_comp [("additional_score_cand", L + 1)] [("additional_score_cand", .lst (frL r.G (tab k (mgf r vt (seqC r vt k i)))))] (fun y => mgf r vt (seqC r vt k i) (toI y).toNat == mx (tab k (mgf r vt (seqC r vt k i)))) id
      (se_call (se_builtin b_range (by rfl) (by decide)) kept_type (scN (se_call (se_builtin b_len (by rfl) (by decide)) kept_builtin (scN (se_cell rfl) snN) ((fn_len_list rfl (by rw [frL_len, tab_length]; lia)).eq (r' := .int (k : Int)) (by rw [frL_len, tab_length]))) snN) fn_range1) (iter_range (by lia) (by lia) fun _ _ => rfl) (fun _ => trivial) (by rw [rngL_nat, natL_length, List.length_range]; lia) (fun Ca j y hy acc => ?_) ⟨rfl, trivial⟩ ⟨rfl, rfl, trivial⟩) (St.le_of ⟨rfl, rfl, rfl, rfl, ?_, trivial⟩ ⟨rfl, trivial⟩ rfl) ?_
    · rw [rngL_nat] at hy
      refine eEA (natL_get hy) ?_; rintro c hc rfl
      have hck : c < k := by have := (List.getElem?_eq_some_iff.mp hc); obtain ⟨h1, h2⟩ := this; rw [List.length_range] at h1; rw [List.getElem_range] at h2; lia
      exact ⟨_, _, tgt_local, tst_one (sb_cmp (se_itemL (se_cell rfl) (seL rfl) rfl (frL_get' (tab_get hck)) (by lia)) (se_call (se_builtin b_max (by rfl) (by decide)) kept_builtin (scN (se_cell rfl) snN) (fn_max_frac hG hG' rfl (mx_mem hne) mx_le)) (o_fr_eq hG)), St.le_r rfl, fun _ => ⟨_, seL rfl, St.le_r rfl, rfl⟩⟩
    · show some (AV.lst (((rngL 0 (k : Int)).filter _).map id)) = some (.lst (natL (tied r vt k (seqC r vt k i))))
      rw [List.map_id, rngL_nat]
      unfold natL tied
      rw [List.filter_map]
      rfl
    obtain ⟨th1, th2⟩ := tied_head (r := r) (vt := vt) (cs := seqC r vt k i) hk0
    refine sxC (ss_assign (se_itemL (j := 0) (seL rfl) se_int rfl (natL_get' th1) (by lia))) ?_
    refine sxx_consW (σ2 := ⟨[("committee", .hnd μ.length), ("marginal_scorefct", r.msf), ("profile", .prof k (vtL vt)), ("detailed_info", .hnd (μ.length + 1)), ("tied_cands", .lst (natL (tied r vt k (seqC r vt k i)))), ("next_cand", .int (nextC r vt k (seqC r vt k i) : Int))], [("additional_score_cand", .lst (frL r.G (tab k (mgf r vt (seqC r vt k i)))))], seqM μ (seqC r vt k (i + 1)) q1 q2 q3⟩) (ss_expr (se_mcall (seL rfl) (o_append (listOf_at seqM0)) kept_builtin (scN (seL rfl) snN) sks_nil (fn_append seqM0 rfl (by rw [natL_length]; lia)))) (St.le_of ⟨rfl, rfl, rfl, rfl, rfl, rfl, trivial⟩ ⟨rfl, trivial⟩ seqS0.symm) ?_
    refine sxx_consW (σ2 := ⟨[("committee", .hnd μ.length), ("marginal_scorefct", r.msf), ("profile", .prof k (vtL vt)), ("detailed_info", .hnd (μ.length + 1)), ("tied_cands", .lst (natL (tied r vt k (seqC r vt k i)))), ("next_cand", .int (nextC r vt k (seqC r vt k i) : Int))], [("additional_score_cand", .lst (frL r.G (tab k (mgf r vt (seqC r vt k i)))))], seqM μ (seqC r vt k (i + 1)) (q1 ++ [.int (nextC r vt k (seqC r vt k i) : Int)]) q2 q3⟩) (ss_expr (se_mcall (se_itemD (seL rfl) seqM1 rfl seq_keys) (o_append (listOf_at seqM2)) kept_builtin (scN (seL rfl) snN) sks_nil (fn_append seqM2 rfl (by simp at hq1; lia)))) (St.le_of ⟨rfl, rfl, rfl, rfl, rfl, rfl, trivial⟩ ⟨rfl, trivial⟩ seqS2.symm) ?_
    refine sxx_consW (σ2 := ⟨[("committee", .hnd μ.length), ("marginal_scorefct", r.msf), ("profile", .prof k (vtL vt)), ("detailed_info", .hnd (μ.length + 1))], [("additional_score_cand", .lst (frL r.G (tab k (mgf r vt (seqC r vt k i)))))], seqM μ (seqC r vt k (i + 1)) (q1 ++ [.int (nextC r vt k (seqC r vt k i) : Int)]) (q2 ++ [.lst (natL (tied r vt k (seqC r vt k i)))]) q3⟩) (ss_expr (se_mcall (se_itemD (seL rfl) seqM1 rfl seq_keys) (o_append (listOf_at seqM3)) kept_builtin (scN (seL rfl) snN) sks_nil (fn_append seqM3 (pures_nats _) (by simp at hq2; lia)))) (St.le_of ⟨rfl, rfl, rfl, rfl, trivial⟩ ⟨rfl, trivial⟩ seqS3.symm) ?_
    refine sxx_consW (σ2 := ⟨[("committee", .hnd μ.length), ("marginal_scorefct", r.msf), ("profile", .prof k (vtL vt)), ("detailed_info", .hnd (μ.length + 1))], [], seqM μ (seqC r vt k (i + 1)) (q1 ++ [.int (nextC r vt k (seqC r vt k i) : Int)]) (q2 ++ [.lst (natL (tied r vt k (seqC r vt k i)))]) (q3 ++ [fr r.G (mx (tab k (mgf r vt (seqC r vt k i))))])⟩) (ss_expr (se_mcall (se_itemD (seL rfl) seqM1 rfl seq_keys) (o_append (listOf_at seqM4)) kept_builtin (scN (se_call (se_builtin b_max (by rfl) (by decide)) kept_builtin (scN (se_cell rfl) snN) (fn_max_frac hG hG' rfl (mx_mem hne) mx_le)) snN) sks_nil (fn_append seqM4 rfl (by simp at hq3; lia)))) (St.le_of ⟨rfl, rfl, rfl, rfl, trivial⟩ trivial seqS4.symm) ?_
    exact sxx_nil ⟨rfl, (_, _, _), ⟨by simp at hq1 ⊢; lia, by simp at hq2 ⊢; lia, by simp at hq3 ⊢; lia⟩, St.le_r rfl⟩
  · refine eAEA h ?_; clear h; rintro rfl ⟨q1, q2, q3⟩ _ rfl
    refine eAA (ok kc hkc) ?_; rintro ok1 ok2 ok3
    rw [rngL_nat, natL_length, List.length_range]
    refine sxx_nil ⟨rfl, _, ⟨[("committee", .lst (natL (seqC r vt k kc))), ("detailed_info", .any)], [], μ⟩, ⟨rfl, rfl, fun x b e => ?_, fun _ _ e => by cases e⟩, ?_⟩
    · rcases lookup_cons_some e with ⟨rfl, rfl⟩ | ⟨_, e⟩
      · exact ⟨_, rfl, .list (Nat.le_refl _) seqM0⟩
      · rcases lookup_cons_some e with ⟨rfl, rfl⟩ | ⟨_, e⟩
        · exact ⟨_, rfl, .any⟩
        · cases e
    · have hs := f_sortc_asc (w := w) (n := n) (μ := μ) (bb := false) (css := [seqC r vt k kc]) (a := .lst [.lst (natL (seqC r vt k kc))]) rfl (fun c hc => by rw [List.mem_singleton.mp hc]; exact ⟨fun y hy => by have := ok1 y hy; lia, ok2⟩) (by simp) (List.pairwise_singleton ..)
      exact sxx_stop (ss_return (se_tuple (scN (se_call (se_glob g_sortc) (kept_ref (by k_is)) (scN (se_list (scN (seL rfl) snN) (by simp)) snN) hs.fn) (scN (seL rfl) snN)) (by simp))) ⟨rfl, rfl⟩
end
theorem compTurn_in (g1 : Comprehension) (elt target iter : Expr) (scope : Scope) (pos : Pos) (it acc : Value) (env : Env) :
    compTurn (.ListComp elt [g1, ⟨target, iter, [], 0⟩] scope pos) 1 it acc env = (do
      standAt iter.pos
      match ← pyNext it with
      | none => pure (.done .next)
      | some v =>
        letOwnedTupleGo target it v
        assign target env v
        let mut ok := true
        for c in ([] : List Expr) do
          if ok then ok ← isTrue c env (eval c env)
        if ok then
          (do let _ ← call (.builtin "list.append") [acc, ← eval elt env])
        again (.compLoop (.ListComp elt [g1, ⟨target, iter, [], 0⟩] scope pos) 1 it acc env)) := by rfl
theorem compTurn_out (elt target iter tg2 iter2 : Expr) (scope : Scope) (pos : Pos) (it acc : Value) (env : Env) :
    compTurn (.ListComp elt [⟨target, iter, [], 0⟩, ⟨tg2, iter2, [], 0⟩] scope pos) 0 it acc env = (do
      standAt iter.pos
      match ← pyNext it with
      | none => pure (.done .next)
      | some v =>
        letOwnedTupleGo target it v
        assign target env v
        let mut ok := true
        for c in ([] : List Expr) do
          if ok then ok ← isTrue c env (eval c env)
        if ok then
          let x ← eval iter2 env
          standAt iter2.pos
          let x ← foldedSetIterable iter2 env x
          let _ ← runOwn (.compStart (.ListComp elt [⟨target, iter, [], 0⟩, ⟨tg2, iter2, [], 0⟩] scope pos) 1 (← holding [x] (pyIter x)) acc env) env
        again (.compLoop (.ListComp elt [⟨target, iter, [], 0⟩, ⟨tg2, iter2, [], 0⟩] scope pos) 0 it acc env)) := by rfl
section
variable {w : World} {n : Nat} {env cenv : Env} {σ σ1 σ2 σ3 σ4 : St} {pos : Pos} {hb hb' hb1 hb2 h : Heap} {ρ ρ' ρ1 ρ2 : List Addr} {s s' s1 s2 : Shared} {μ μ' : List Cell} {a b c : AV}
variable {A : Around} {E : Value → Shared → Prop} {l : List AV} {x y : AV} {X Y P G : List Addr}
theorem start_in {g1 : Comprehension} {elt target iter : Expr} {scope : Scope} {it acc : Value} {R : Result → Shared → Prop}
    (h0 : codeAny (model PRG w) A (.compLoop (.ListComp elt [g1, ⟨target, iter, [], 0⟩] scope pos) 1 it acc env) R s)
    (h : wpAny (model PRG w) A (pyIter it) (fun it' s' => codeAny (model PRG w) A (.compLoop (.ListComp elt [g1, ⟨target, iter, [], 0⟩] scope pos) 1 it' acc env) R s') (notedBy (model PRG w) A env fun x s' => R (.error x) s') s) :
    codeAny (model PRG w) A (.compStart (.ListComp elt [g1, ⟨target, iter, [], 0⟩] scope pos) 1 it acc env) R s := by
  refine codeAny_of_tree ?_
  show wpAny _ _ ((compStart (.ListComp elt [g1, ⟨target, iter, [], 0⟩] scope pos) 1 it acc env).onRaise (fun x => do noteFrame x env; standAt theWindowsPlace)) _ _ s
  refine wpAny_notedAt ?_
  unfold compStart
  show wpAny _ _ (ask >>= _) _ _ s
  refine wpAny_bind (wpAny_askSetting (wpAny_ite ?_))
  split
  · first
      | exact wpAny_bind (wpAny_pure (wpAny_pure (And.intro rfl h0)))
      | exact wpAny_pure (And.intro rfl h0)
  · first
      | exact wpAny_bind (wpAny_rule (wpAny_bind (wpAny_standAt (wpAny_bind (wpAny_mono h (fun it' s' h' => wpAny_pure (And.intro rfl h')) fun _ _ x => x)))))
      | (refine wpAny_bind (wpAny_rule ?_); show wpAny _ _ (standAt iter.pos >>= _) _ _ s; exact wpAny_bind (wpAny_standAt (wpAny_bind (wpAny_mono h (fun it' s' h' => wpAny_pure (And.intro rfl h')) fun _ _ x => x))))
noncomputable def CIn (w : World) (n : Nat) (cenv : Env) (tg elt : Expr) (l celc : List (Str × AV)) (μ : List Cell) (f : AV → AV) (y : AV) : Prop :=
  ∀ acc, ∃ σ2 σ3, TGT w cenv tg y ⟨l, celc, μ ++ [.lst acc]⟩ σ2 ∧ SE w n cenv elt σ2 (f y) σ3 ∧ (⟨l, celc, μ ++ [.lst acc]⟩ : St).le σ3 ∧ (f y).pure = true
theorem compLoop_in {g1 : Comprehension} {elt tg iter : Expr} {scope : Scope} {lc celc : List (Str × AV)} {xs acc0 : List AV} {f : AV → AV} {C : List Cell → Prop} {it : Value} {ob : Nat → Shared → Prop} {D : Addr} {Rr : Result → Shared → Prop}
    (rm : Room n A) (It : ItAt w n tg C hb1 ρ1 P G it xs ob) (hC : ∀ acc, C (μ ++ [.lst acc])) (hz : acc0.length + xs.length ≤ 10000) (hD : ρ2[μ.length]? = some D)
    (step : ∀ (i : Nat) (y : AV), xs[i]? = some y → CIn w n cenv tg elt lc celc μ f y)
    (hpre : hb1.StaysIn hb2 ∧ ρ1 <+: ρ2) (R : RelE w hb2 ρ2 cenv s ⟨lc, celc, μ ++ [.lst acc0]⟩) (ho : ob 0 s) (hP : ∀ b ∈ P, hb2.get? b = none ∧ b ∉ ρ2 ∧ b ∉ TB ∧ Live s.heap b ∧ b ∉ fp cenv)
    (k : ∀ hb' ρ' s', ExtG (fp cenv) P G hb2 ρ2 s hb' ρ' s' → (∀ b ∈ P, Live s.heap b) → RelE w hb' ρ' cenv s' ⟨lc, celc, μ ++ [.lst (acc0 ++ xs.map f)]⟩ → Rr (.ok .next) s') :
    codeAny (model PRG w) A (.compLoop (.ListComp elt [g1, ⟨tg, iter, [], 0⟩] scope pos) 1 it (.ref D) cenv) Rr s := by
  refine codeAny_loop rfl (fun m s' => ∃ i hb ρ, m = xs.length - i ∧ i ≤ xs.length ∧ RelE w hb ρ cenv s' ⟨lc, celc, μ ++ [.lst (acc0 ++ (xs.take i).map f)]⟩ ∧ ob i s' ∧ (∀ b ∈ P, Live s'.heap b) ∧ ExtG (fp cenv) P G hb2 ρ2 s hb ρ s') (fun m s3 hI => ?_) xs.length
    ⟨0, hb2, ρ2, by simp, Nat.zero_le _, by simpa using R, ho, fun b q => (hP b q).2.2.2.1, (Ext.refl (X := fp cenv)).g⟩
  refine eEEEAAAAA hI ?_; clear hI; rintro i hb3 ρ3 rfl hi' R3 o3 L3 X3
  show wpAny _ A ((compTurn (.ListComp elt [g1, ⟨tg, iter, [], 0⟩] scope pos) 1 it (.ref D) cenv).onRaise (fun x => do noteFrame x cenv; theTreesLotGoes x)) _ _ s3
  refine wpAny_noted ?_
  rw [compTurn_in]
  refine wpAny_bind (wpAny_standAt (wpAny_bind ?_))
  have d3 := disjoint R X3 fun b hb' => ⟨(hP b hb').1, (hP b hb').2.1, (hP b hb').2.2.1, (hP b hb').2.2.2.1⟩
  refine It.next _ _ _ _ _ i _ _ rm (fun b o e => X3.base b o (hpre.1 b o e)) (hpre.2.trans X3.pre) R3.m (hC _) o3 (fun x hx s4 v M4 L4 o4 hv hgo => ?_) fun hx s4 M4 => ?_
  · have hlt := (List.getElem?_eq_some_iff.mp hx).1
    have htk : xs.take (i + 1) = xs.take i ++ [x] := by rw [List.take_add_one, hx]; rfl
    refine eEEAAA (step i x hx (acc0 ++ (xs.take i).map f)) ?_; rintro σ2 σ4' ht he1 he2 he3
    have R4 := R3.moved M4 d3 fun b q => (hP b q).2.2.2.2
    refine wpAny_bind (hgo _ _ _ fun s4' M4' L4' o4' => ?_)
    have R4' := R4.moved M4' d3 fun b q => (hP b q).2.2.2.2
    have X34 := (X3.trans (Moved.g M4) L3).trans (Moved.g M4') L4
    refine wpAny_bind (ht _ _ _ _ _ _ _ rm.1 R4' hv fun s5 X5 R5 => ?_)
    refine wpAny_bind (wpAny_tests_nil ?_)
    have keep_o : ∀ {hb7 ρ7 s7}, Ext (fp cenv) hb3 ρ3 s4' hb7 ρ7 s7 → ob (i + 1) s7 := fun X => It.stable _ _ _ o4' (fun b o hbP e => X.keep b o e (hP b hbP).2.2.2.2 (d3 b hbP).2.1 (d3 b hbP).2.2) fun j g _ e => X.gens j g e
    have e : acc0 ++ (xs.take (i + 1)).map f = (acc0 ++ (xs.take i).map f) ++ [f x] := by rw [htk, List.map_append, List.append_assoc]; rfl
    refine wpAny_bind (wpAny_bind (he1 _ _ _ _ _ _ rm R5 fun hb7 ρ7 s7 v7 X7 R7 h7 => ?_))
    have R7' := R7.le he2
    have X57 := X5.trans X7
    have hlen : (acc0 ++ (xs.take i).map f).length ≤ 10000 := by
      have h2 := List.length_take_le i xs
      rw [List.length_append, List.length_map]; lia
    have hg : ρ7[μ.length]? = some D := getElem?_pre ((X3.pre).trans X57.pre) hD
    refine wpAny_bind (fn_append (i := μ.length) (by rw [List.getElem?_append_right (Nat.le_refl _), Nat.sub_self]; rfl) he3 hlen _ _ _ _ _ _ _ _ _ rm R7'.m (.val _) (.cons (.hnd hg) (.cons h7 .nil)) .nil fun hb8 ρ8 s8 v8 X8 R8 h8 => ?_)
    have X58 := X57.trans (X8.weaken fun _ q => nomatch q)
    have R8' := R7'.step X8 R8
    rw [set_last] at R8'
    exact wpAny_pure (wpAny_pure ⟨rfl, xs.length - (i + 1), by lia, i + 1, hb8, ρ8, rfl, hlt, by rw [e]; exact R8', keep_o X58, fun b q => X58.live b (L4' b q), X34.trans X58.g L4'⟩)
  · have hge : xs.length ≤ i := List.getElem?_eq_none_iff.mp hx
    have R4 := R3.moved M4 d3 fun b q => (hP b q).2.2.2.2
    rw [List.take_of_length_le hge] at R4
    exact wpAny_pure (k _ _ _ (X3.trans (Moved.g M4) L3) (fun b q => (hP b q).2.2.2.1) R4)
noncomputable def CStep2 (w : World) (n : Nat) (cenv : Env) (tg tg2 iter2 elt : Expr) (celc : List (Str × AV)) (μ : List Cell) (fl : AV → List AV) (y : AV) : Prop :=
  ∃ (lc : List (Str × AV)) (a2 : AV) (xs2 : List AV) (f2 : AV → AV) (C2 : List Cell → Prop), fl y = xs2.map f2 ∧
    (∀ acc, ∃ σ2, TGT w cenv tg y ⟨[], celc, μ ++ [.lst acc]⟩ σ2 ∧ SE w n cenv iter2 σ2 a2 ⟨lc, celc, μ ++ [.lst acc]⟩ ∧ IterOf w n tg2 a2 (μ ++ [.lst acc]) xs2 C2) ∧ (∀ acc, C2 (μ ++ [.lst acc])) ∧
    (∀ x, foldedSetIterable iter2 cenv x = pure x) ∧ ∀ (j : Nat) (z : AV), xs2[j]? = some z → CIn w n cenv tg2 elt lc celc μ f2 z
theorem compLoop_run2 {elt tg iter tg2 iter2 : Expr} {scope : Scope} {celc : List (Str × AV)} {xs : List AV} {fl : AV → List AV} {C : List Cell → Prop} {it : Value} {ob : Nat → Shared → Prop} {D : Addr} {Rr : Result → Shared → Prop}
    (rm : Room n A) (It : ItAt w n tg C hb1 ρ1 P G it xs ob) (hC : ∀ acc, C (μ ++ [.lst acc])) (hz : (xs.flatMap fl).length ≤ 10000) (hD : ρ2[μ.length]? = some D)
    (step : ∀ (i : Nat) (y : AV), xs[i]? = some y → CStep2 w n cenv tg tg2 iter2 elt celc μ fl y)
    (hpre : hb1.StaysIn hb2 ∧ ρ1 <+: ρ2) (R : RelE w hb2 ρ2 cenv s ⟨[], celc, μ ++ [.lst []]⟩) (ho : ob 0 s) (hP : ∀ b ∈ P, hb2.get? b = none ∧ b ∉ ρ2 ∧ b ∉ TB ∧ Live s.heap b ∧ b ∉ fp cenv)
    (k : ∀ hb' ρ' s', ExtG (fp cenv) P G hb2 ρ2 s hb' ρ' s' → (∀ b ∈ P, Live s.heap b) → RelE w hb' ρ' cenv s' ⟨[], celc, μ ++ [.lst (xs.flatMap fl)]⟩ → Rr (.ok .next) s') :
    codeAny (model PRG w) A (.compLoop (.ListComp elt [⟨tg, iter, [], 0⟩, ⟨tg2, iter2, [], 0⟩] scope pos) 0 it (.ref D) cenv) Rr s := by
  refine codeAny_loop rfl (fun m s' => ∃ i hb ρ, m = xs.length - i ∧ i ≤ xs.length ∧ RelE w hb ρ cenv s' ⟨[], celc, μ ++ [.lst ((xs.take i).flatMap fl)]⟩ ∧ ob i s' ∧ (∀ b ∈ P, Live s'.heap b) ∧ ExtG (fp cenv) P G hb2 ρ2 s hb ρ s') (fun m s3 hI => ?_) xs.length
    ⟨0, hb2, ρ2, by simp, Nat.zero_le _, R, ho, fun b q => (hP b q).2.2.2.1, (Ext.refl (X := fp cenv)).g⟩
  refine eEEEAAAAA hI ?_; clear hI; rintro i hb3 ρ3 rfl hi' R3 o3 L3 X3
  show wpAny _ A ((compTurn (.ListComp elt [⟨tg, iter, [], 0⟩, ⟨tg2, iter2, [], 0⟩] scope pos) 0 it (.ref D) cenv).onRaise (fun x => do noteFrame x cenv; theTreesLotGoes x)) _ _ s3
  refine wpAny_noted ?_
  rw [compTurn_out]
  refine wpAny_bind (wpAny_standAt (wpAny_bind ?_))
  have d3 := disjoint R X3 fun b hb' => ⟨(hP b hb').1, (hP b hb').2.1, (hP b hb').2.2.1, (hP b hb').2.2.2.1⟩
  refine It.next _ _ _ _ _ i _ _ rm (fun b o e => X3.base b o (hpre.1 b o e)) (hpre.2.trans X3.pre) R3.m (hC _) o3 (fun x hx s4 v M4 L4 o4 hv hgo => ?_) fun hx s4 M4 => ?_
  · have hlt := (List.getElem?_eq_some_iff.mp hx).1
    have htk : xs.take (i + 1) = xs.take i ++ [x] := by rw [List.take_add_one, hx]; rfl
    obtain ⟨lc, a2, xs2, f2, C2, hfl, hst, hC2, hfs, hin⟩ := step i x hx
    refine eEAA (hst ((xs.take i).flatMap fl)) ?_; rintro σ2 ht he hit
    have R4 := R3.moved M4 d3 fun b q => (hP b q).2.2.2.2
    refine wpAny_bind (hgo _ _ _ fun s4' M4' L4' o4' => ?_)
    have R4' := R4.moved M4' d3 fun b q => (hP b q).2.2.2.2
    have X34 := (X3.trans (Moved.g M4) L3).trans (Moved.g M4') L4
    refine wpAny_bind (ht _ _ _ _ _ _ _ rm.1 R4' hv fun s5 X5 R5 => ?_)
    refine wpAny_bind (wpAny_tests_nil ?_)
    have keep_o : ∀ {hb7 ρ7 s7}, Ext (fp cenv) hb3 ρ3 s4' hb7 ρ7 s7 → ob (i + 1) s7 := fun X => It.stable _ _ _ o4' (fun b o hbP e => X.keep b o e (hP b hbP).2.2.2.2 (d3 b hbP).2.1 (d3 b hbP).2.2) fun j g _ e => X.gens j g e
    have e : (xs.take (i + 1)).flatMap fl = (xs.take i).flatMap fl ++ xs2.map f2 := by rw [htk, List.flatMap_append, ← hfl]; simp
    have hlen : ((xs.take i).flatMap fl).length + xs2.length ≤ 10000 := by
      have h1 : ((xs.take (i + 1)).flatMap fl).length ≤ (xs.flatMap fl).length := by
        conv => rhs; rw [← List.take_append_drop (i + 1) xs, List.flatMap_append, List.length_append]
        lia
      rw [e, List.length_append, List.length_map] at h1; lia
    refine wpAny_bind (he _ _ _ _ _ _ rm R5 fun hb6 ρ6 s6 v6 X6 R6 h6 => ?_)
    refine wpAny_bind (wpAny_standAt ?_)
    rw [hfs]
    refine wpAny_bind (wpAny_pure (wpAny_bind (wpAny_holding ?_)))
    refine hit _ _ _ _ _ _ _ rm R6.m h6 fun ys it2 P2 G2 ob2 s7 hY X7 M7 It2 o7 hP2 hG2 => ?_
    subst hY
    have R7 := R6.step X7 M7
    have X57 : Ext (fp cenv) hb3 ρ3 s4' hb6 ρ6 s7 := (X5.trans X6).trans (X7.weaken fun _ q => nomatch q)
    have hg : ρ6[μ.length]? = some D := getElem?_pre ((X3.pre).trans X57.pre) hD
    have hP2' : ∀ b ∈ P2, hb6.get? b = none ∧ b ∉ ρ6 ∧ b ∉ TB ∧ Live s7.heap b ∧ b ∉ fp cenv := fun b q => by
      obtain ⟨g1, g2⟩ := hP2 b q
      exact ⟨dead_base R6.m.keep g1, fun q => nd (R6.m.out b q).2.2 g1, fun q => nd (tb_lt R6.m q) g1, g2, fun q => nd (R6.out b q).2.2.2 g1⟩
    have loop : ∀ {Rz : Result → Shared → Prop}, (∀ hb8 ρ8 s8, ExtG (fp cenv) P2 G2 hb6 ρ6 s7 hb8 ρ8 s8 → RelE w hb8 ρ8 cenv s8 ⟨lc, celc, μ ++ [.lst ((xs.take i).flatMap fl ++ ys.map f2)]⟩ → Rz (.ok .next) s8) →
        codeAny (model PRG w) (A.mark none) (.compLoop (.ListComp elt [⟨tg, iter, [], 0⟩, ⟨tg2, iter2, [], 0⟩] scope pos) 1 it2 (.ref D) cenv) Rz s7 := fun hk =>
      compLoop_in (n := n) rm It2 hC2 hlen hg hin ⟨fun _ _ e => e, List.prefix_rfl⟩ R7 o7 hP2' fun hb8 ρ8 s8 X8 _ R8 => hk _ _ _ X8 R8
    refine wpAny_bind (wpAny_runOwn (h := Option.none) ?_)
    have fin : ∀ hb8 ρ8 s8, ExtG (fp cenv) P2 G2 hb6 ρ6 s7 hb8 ρ8 s8 → RelE w hb8 ρ8 cenv s8 ⟨lc, celc, μ ++ [.lst ((xs.take i).flatMap fl ++ ys.map f2)]⟩ → ∃ m, m < xs.length - i ∧ ∃ i' hb ρ, m = xs.length - i' ∧ i' ≤ xs.length ∧ RelE w hb ρ cenv s8 ⟨[], celc, μ ++ [.lst ((xs.take i').flatMap fl)]⟩ ∧ ob i' s8 ∧ (∀ b ∈ P, Live s8.heap b) ∧ ExtG (fp cenv) P G hb2 ρ2 s hb ρ s8 := fun hb8 ρ8 s8 X8 R8 => by
      have X58 : Ext (fp cenv) hb3 ρ3 s4' hb8 ρ8 s8 := ExtG.close X57 X8 (fun b q => dead_back (fun b z => X6.live b (X5.live b z)) (hP2 b q).1) (fun g q => by
        cases z : s4'.gens[g]? with
        | none => rfl
        | some gs => have := (X5.trans X6).gens g gs z; rw [(hG2 g q).1] at this; cases this)
      have R8' : RelE w hb8 ρ8 cenv s8 ⟨[], celc, μ ++ [.lst ((xs.take (i + 1)).flatMap fl)]⟩ := by rw [e]; exact R8.le ⟨(fun _ _ q => by cases q), (fun _ _ q => q), rfl⟩
      exact ⟨xs.length - (i + 1), by lia, i + 1, hb8, ρ8, rfl, hlt, R8', keep_o X58, fun b q => X58.live b (L4' b q), X34.trans X58.g L4'⟩
    exact start_in (loop fun hb8 ρ8 s8 X8 R8 => wpAny_pure ⟨rfl, fin _ _ _ X8 R8⟩) (It2.self _ _ _ _ _ o7 (loop fun hb8 ρ8 s8 X8 R8 => wpAny_pure ⟨rfl, fin _ _ _ X8 R8⟩))
  · have hge : xs.length ≤ i := List.getElem?_eq_none_iff.mp hx
    have R4 := R3.moved M4 d3 fun b q => (hP b q).2.2.2.2
    rw [List.take_of_length_le hge] at R4
    exact wpAny_pure (k _ _ _ (X3.trans (Moved.g M4) L3) (fun b q => (hP b q).2.2.2.1) R4)
set_option maxHeartbeats 1600000 in
theorem comp_core2 {elt tg iter tg2 iter2 : Expr} {scope : Scope} {cl : List (Str × Addr)} {celc : List (Str × AV)} {xs zs : List AV} {fl : AV → List AV} {C : List Cell → Prop} {use : Option (Value → Sem Unit)} {Q : Value → Shared → Prop} {pos' : Pos}
    (h : SE w n env iter σ a σ1) (hi : IterOf w n tg a σ1.mem xs C)
    (hclos : closureFor scope env = pure cl) (hcl : ∀ q ∈ cl, env.cells.lookup q.1 = some q.2) (hnd : (cl.map (·.2)).Nodup)
    (hcel : ∀ x av, celc.lookup x = some av → ∃ c, cl.lookup x = some c) (hag : ∀ x c, cl.lookup x = some c → celc.lookup x = σ1.cel.lookup x)
    (hC : ∀ acc, C (σ1.mem ++ [.lst acc])) (hz : (xs.flatMap fl).length ≤ 10000)
    (step : ∀ (Ca : Addr) (i : Nat) (y : AV), xs[i]? = some y → CStep2 w n (compEnvC scope cl Ca env) tg tg2 iter2 elt celc σ1.mem fl y)
    (hcell : ∀ y ∈ scope.names, y.2 ≠ .cell) (hkind : scope.kind = .function) (hnames : ∀ x ∈ scope.names, x.2 = .local → scope.names.lookup x.1 = some .local)
    (hs : ∀ x, foldedSetIterable iter env x = pure x) (rm : Room n A) (R : RelE w hb ρ env s σ)
    (k : ∀ hb' ρ' s' D Ca, Ext (fp env) hb ρ s hb' ρ' s' → RelE w hb' ρ' env s' σ1 → VRel w hb' ρ' (.lst (xs.flatMap fl)) (.ref D) → (Ca ∉ fp env ∧ hb'.get? Ca = none ∧ Ca ∉ ρ' ∧ Ca ∉ TB) → Dead s.heap Ca → (∃ m, s'.heap.Ns Ca m) → compPost (model PRG w) A E use Q (.ref D) Ca (.ok .next) s') :
    wpAny (model PRG w) A (comprehension (.ListComp elt [⟨tg, iter, [], 0⟩, ⟨tg2, iter2, [], 0⟩] scope pos) scope env pos' (newList []) false (eval iter env) use) Q E s := by
  refine wpAny_comprehension_free (g := ⟨tg, iter, [], 0⟩) (gs := [⟨tg2, iter2, [], 0⟩]) rfl hs hclos hkind hnames ?_
  refine h _ _ _ _ _ _ rm R fun hb1 ρ1 s1 v X1 R1 h1 => ?_
  refine hi _ _ _ _ _ _ _ rm R1.m h1 fun ys it P G ob s2 hY X2 M2 It o2 hP hG => ?_
  subst hY
  have R2 : RelE w hb1 ρ1 env s2 σ1 := R1.step X2 M2
  refine wpAny_newList ?_
  have X3 : Ext [] hb1 ρ1 s2 hb1 (ρ1 ++ [s2.heap.objs.size]) { s2 with heap := s2.heap.push { cls := .type "list", data := .seq ([] : List Value).toArray } } := Ext.cell
  have R3 := R2.step X3 (R2.m.cell (c := .lst []) (.lst .nil) rfl)
  generalize hs3 : ({ s2 with heap := s2.heap.push { cls := .type "list", data := .seq ([] : List Value).toArray } } : Shared) = s3 at X3 R3
  generalize hDd : s2.heap.objs.size = D at X3 R3
  refine wpAny_newFunctionEnv (binds := []) hcell (fun x hx => nomatch hx) (fun h4 hns hsb => ?_) hkind
  have hCd : Dead s3.heap s3.heap.objs.size := dead_of_le (Nat.le_refl _)
  generalize hCa : s3.heap.objs.size = Ca at hns hsb hCd
  have k4 : ∀ b o, s3.heap.get? b = some o → h4.get? b = some o := fun b o e => (hsb.2 b fun q => by rw [q, hCd] at e; cases e).trans (Heap.get?_push_of_some _ e)
  have X4 : Ext [] hb1 (ρ1 ++ [D]) s3 hb1 (ρ1 ++ [D]) { s3 with heap := h4, toks := s3.toks + 0 } := Ext.plain (fun b o e _ => k4 b o e) (live_stays k4) rfl rfl
  have R4 := R3.step X4 (R3.m.grow (s' := { s3 with heap := h4, toks := s3.toks + 0 }) k4 rfl)
  show codeAny _ A (.compStart _ 0 it (.ref D) (compEnvC scope cl Ca env)) _ { s3 with heap := h4, toks := s3.toks + 0 }
  generalize hs4 : ({ s3 with heap := h4, toks := s3.toks + 0 } : Shared) = s4 at X4 R4
  have hns4 : s4.heap.Ns Ca (fun _ => none) := by rw [← hs4]; exact hns
  have hlen1 : ρ1.length = σ1.mem.length := R1.m.len
  -- the frame of the comprehension
  have cl_env : ∀ x c, cl.lookup x = some c → env.cells.lookup x = some c := fun x c e => hcl _ (mem_of_lookup e)
  have cl_fp : ∀ c ∈ cl.map (·.2), c ∈ fp env := fun c hc => by
    refine eEA (List.mem_map.mp hc) ?_; rintro q h1 rfl
    exact List.mem_cons_of_mem _ (lookup_snd (hcl q h1))
  have Ca_fp : Ca ∉ fp env := fun q => nd (R3.out _ q).2.2.2 hCd
  have Rc : RelE w hb1 (ρ1 ++ [D]) (compEnvC scope cl Ca env) s4 ⟨[], celc, σ1.mem ++ [.lst []]⟩ := by
    refine ⟨R4.m, ⟨_, hns4, fun x av e => by cases e⟩, fun x c e => ?_, hcel, List.nodup_cons.mpr ⟨fun q => Ca_fp (cl_fp _ q), hnd⟩, fun b hbm => ?_, ?_⟩
    · refine eEA (R4.cel x c (cl_env x c e)) ?_; rintro r q1 q2
      exact ⟨r, q1, fun av e' => q2 av (by rw [hag x c e] at e'; exact e')⟩
    · rcases List.mem_cons.mp hbm with e | hbm
      · have e' : b = Ca := e
        rw [e']
        show hb1.get? Ca = none ∧ Ca ∉ ρ1 ++ [D] ∧ Ca ∉ TB ∧ Live s4.heap Ca
        refine ⟨dead_base R3.m.keep hCd, fun q => nd (R3.m.out _ q).2.2 hCd, fun q => nd (tb_lt R3.m q) hCd, live_ns hns4⟩
      · exact R4.out b (cl_fp b hbm)
    · show 648 ≤ Ca
      refine eEEAA R3.m.fr ?_; rintro L m q1 q2 _
      rw [← hCa]; exact Nat.le_of_lt (Nat.lt_of_le_of_lt q1 q2.lt)
  have hPd : ∀ b ∈ P, hb1.get? b = none ∧ b ∉ ρ1 ++ [D] ∧ b ∉ TB ∧ Live s4.heap b ∧ b ∉ fp (compEnvC scope cl Ca env) := fun b hbP => by
    obtain ⟨g1, g2⟩ := hP b hbP
    have l3 : Live s3.heap b := X3.live b g2
    refine ⟨dead_base R1.m.keep g1, fun q => ?_, fun q => nd (tb_lt R1.m q) g1, X4.live b l3, fun q => ?_⟩
    · rcases List.mem_append.mp q with q | q
      · exact nd (R1.m.out b q).2.2 g1
      · rw [List.mem_singleton.mp q, ← hDd] at g2; exact nd g2 (dead_of_le (Nat.le_refl _))
    · rcases List.mem_cons.mp q with rfl | q
      · exact nd l3 hCd
      · exact nd (R1.out b (cl_fp b q)).2.2.2 g1
  have ho4 : ob 0 s4 := It.stable _ _ _ o2 (fun b o hbP e => X4.keep b o (X3.keep b o e (fun q => nomatch q) (fun q => nd (R1.m.out b q).2.2 (hP b hbP).1) (hPd b hbP).2.2.1) (fun q => nomatch q) (hPd b hbP).2.1 (hPd b hbP).2.2.1) (fun j g _ e => X4.gens j g (X3.gens j g e))
  have hDg : (ρ1 ++ [D])[σ1.mem.length]? = some D := by rw [← hlen1, List.getElem?_append_right (Nat.le_refl _), Nat.sub_self]; rfl
  have loop : codeAny (model PRG w) A (.compLoop (.ListComp elt [⟨tg, iter, [], 0⟩, ⟨tg2, iter2, [], 0⟩] scope pos) 0 it (.ref D) (compEnvC scope cl Ca env)) (compPost (model PRG w) A E use Q (.ref D) Ca) s4 := by
    refine compLoop_run2 rm It hC hz hDg (step Ca) ⟨fun _ _ e => e, List.prefix_append _ _⟩ Rc ho4 hPd fun hb5 ρ5 s5 XG L5 R5 => ?_
    have X14 : Ext (fp env) hb ρ s hb1 (ρ1 ++ [D]) s4 := ((X1.trans (X2.weaken fun _ q => nomatch q)).trans (X3.weaken fun _ q => nomatch q)).trans (X4.weaken fun _ q => nomatch q)
    have hCs : Dead s.heap Ca := dead_back (fun b q => X3.live b (X2.live b (X1.live b q))) hCd
    have X5 : Ext (fp env) hb ρ s hb5 ρ5 s5 := ExtG.close X14 (XG.mv (Y := fp env) (Z := Ca :: P) (fun b q => by
      rcases List.mem_cons.mp q with rfl | q
      · exact .inr (List.mem_cons_self ..)
      · exact .inl (cl_fp b q)) fun b q => List.mem_cons_of_mem _ q) (fun b q => by
      rcases List.mem_cons.mp q with rfl | q
      · exact hCs
      · exact dead_back X1.live (hP b q).1) (fun g q => by
      cases z : s.gens[g]? with
      | none => rfl
      | some gs => have := X1.gens g gs z; rw [(hG g q).1] at this; cases this)
    obtain ⟨hb6, ρ6, X6, M6, h6, b6, f6, p6⟩ := close_upX R.m X5 R5.m (.hnd (getElem?_pre XG.pre hDg)) (closes_list (i := σ1.mem.length) (ν := [.lst (ys.flatMap fl)]) (Nat.le_refl _) (by rw [List.getElem?_append_right (Nat.le_refl _), Nat.sub_self]; rfl))
      (by rw [← R.m.len, ← R1.m.len]; exact X1.pre.length_le) (by simp) (fun _ => R1.m.inb)
    have e6 : ρ6 = ρ1 := by
      have p1 : ρ1 <+: ρ5 := (List.prefix_append _ _).trans XG.pre
      have l6 : ρ6.length = ρ1.length := by rw [M6.len, hlen1]
      exact (List.prefix_of_prefix_length_le p6 p1 (by lia)).eq_of_length l6
    subst e6
    have base6 : hb1.StaysIn hb6 := fun b o e => b6 b o (XG.base b o e)
    have away : ∀ b, b ∈ fp env → b ∉ P ∧ b ∉ ρ6 ++ [D] ∧ b ∉ TB ∧ b ≠ Ca := fun b hbm => ⟨fun q => nd (R1.out b hbm).2.2.2 (hP b q).1, (R3.out b hbm).2.1, (R3.out b hbm).2.2.1, fun q => Ca_fp (q ▸ hbm)⟩
    have RE : RelE w hb6 ρ6 env s5 σ1 := by
      refine ⟨M6, ?_, fun x c e => ?_, R2.celD, R2.nod, fun b hbm => ?_, R.far⟩
      · refine eEA R4.loc ?_; rintro mp q1 q2
        refine eEA R2.loc ?_; rintro mp2 q3 q4
        refine eAAA (away env.locals (List.mem_cons_self ..)) ?_; rintro z1 z2 z3 z4
        have nl : env.locals ∉ fp (compEnvC scope cl Ca env) := fun q => by
          rcases List.mem_cons.mp q with q | q
          · exact z4 q
          · have nn := R2.nod
            refine eEA (List.mem_map.mp q) ?_; rintro q' h1 h2
            exact (List.nodup_cons.mp nn).1 (by have := lookup_snd (hcl q' h1); rwa [show q'.2 = env.locals from h2] at this)
        refine ⟨mp2, ns_of q3 fun o e => XG.keep _ o (X4.keep _ o (X3.keep _ o e (fun q => nomatch q) (fun q => z2 (List.mem_append_left _ q)) z3) (fun q => nomatch q) z2 z3) nl z1 z2 z3, fun x av e => ?_⟩
        refine eEA (q4 x av e) ?_; rintro v g1 g2
        exact ⟨v, g1, g2.mono base6 List.prefix_rfl⟩
      · have hcm : c ∈ fp env := List.mem_cons_of_mem _ (lookup_snd e)
        refine eAAA (away c hcm) ?_; rintro z1 z2 z3 z4
        refine eEA (R2.cel x c e) ?_; rintro r q1 q2
        by_cases hc : cl.lookup x = some c
        · refine eEA (R5.cel x c hc) ?_; rintro r' q3 q4
          refine ⟨r', q3, fun av e' => ?_⟩
          refine eEA (q2 av e') ?_; rintro v0 _ hv0
          refine eEA (q4 av ((hag x c hc).trans e')) ?_; rintro v g1 g2
          refine ⟨v, g1, ?_⟩
          obtain ⟨t5, ht5⟩ := p6
          rw [← ht5] at g2
          exact (g2.cut hv0.inb).mono b6 List.prefix_rfl
        · have nl : c ∉ fp (compEnvC scope cl Ca env) := fun q => by
            rcases List.mem_cons.mp q with q | q
            · exact z4 q
            · refine eEA (List.mem_map.mp q) ?_; rintro ⟨x', c'⟩ h1 h2
              have h2' : c' = c := h2
              subst h2'
              have e2 := hcl _ h1
              have := lookup_inj (List.nodup_cons.mp R2.nod).2 e e2
              subst this
              have hin : (cl.lookup x).isSome = true := lookup_isSome (List.mem_map_of_mem (f := (·.1)) h1)
              obtain ⟨c2, hc2⟩ := Option.isSome_iff_exists.mp hin
              have := cl_env x c2 hc2
              rw [e] at this; cases this
              exact hc hc2
          refine ⟨r, isCell_of q1 fun o e => XG.keep _ o (X4.keep _ o (X3.keep _ o e (fun q => nomatch q) (fun q => z2 (List.mem_append_left _ q)) z3) (fun q => nomatch q) z2 z3) nl z1 z2 z3, fun av e' => ?_⟩
          refine eEA (q2 av e') ?_; rintro v g1 g2
          exact ⟨v, g1, g2.mono base6 List.prefix_rfl⟩
      · refine eAAA (away b hbm) ?_; rintro z1 z2 z3 z4
        refine eAAA (R4.out b hbm) ?_; rintro g1 g2 g3 g4
        have n5 : hb5.get? b = none := by
          cases q : hb5.get? b with
          | none => rfl
          | some o => exact (XG.fresh b o q).elim (fun e => by rw [g1] at e; cases e) fun l => (nd g4 l).elim
        have n5r : b ∉ ρ5 := fun q => (XG.freshR b q).elim g2 fun l => nd g4 l
        refine ⟨?_, fun q => n5r (p6.subset q), g3, XG.live b z1 g4⟩
        cases q : hb6.get? b with
        | none => rfl
        | some o => exact (f6 b o q).elim (fun e => by rw [n5] at e; cases e) fun e => (n5r e).elim
    refine eAAA (R5.out Ca (List.mem_cons_self ..)) ?_; rintro c1 c2 c3 c4
    refine k hb6 ρ6 s5 D Ca X6 RE h6 ⟨Ca_fp, ?_, fun q => c2 (p6.subset q), c3⟩ hCs ?_
    · cases q : hb6.get? Ca with
      | none => rfl
      | some o => exact (f6 Ca o q).elim (fun e => by rw [c1] at e; cases e) fun e => (c2 e).elim
    · refine eEA R5.loc ?_; rintro mp q1 _; exact ⟨mp, q1⟩
  show codeAny _ A (.compStart _ 0 it (.ref D) (compEnvC scope cl Ca env)) (compPost (model PRG w) A E use Q (.ref D) Ca) s4
  exact codeAny_compStart_list loop (It.self _ _ _ _ _ ho4 loop)
end
section
variable {w : World} {n : Nat} {env cenv : Env} {σ σ0 σ1 σ2 σ3 σ4 : St} {pos : Pos} {hb hb' hb1 hb2 h : Heap} {ρ ρ' ρ1 ρ2 : List Addr} {s s' s1 s2 : Shared} {μ μ' : List Cell} {a b c : AV}
variable {elt tg iter tg2 iter2 : Expr} {scope : Scope} {xs l m : List AV} {fl : AV → List AV} {C : List Cell → Prop}
theorem ss_comp2 {y : Str} {py spos : Pos} (cl : List (Str × Addr)) (celc : List (Str × AV)) (fl : AV → List AV) (h : SE w n env iter σ a σ1) (hi : IterOf w n tg a σ1.mem xs C)
    (hC : ∀ acc, C (σ1.mem ++ [.lst acc])) (hz : (xs.flatMap fl).length ≤ 10000)
    (step : ∀ (Ca : Addr) (i : Nat) (y : AV), xs[i]? = some y → CStep2 w n (compEnvC scope cl Ca env) tg tg2 iter2 elt celc σ1.mem fl y)
    (hcl : ClOk env cl) (hcel : CelOk σ1.cel cl celc) (hnd : autoParam ((cl.map (·.2)).Nodup) auS)
    (hsw : autoParam (swapsWith (.ListComp elt [⟨tg, iter, [], 0⟩, ⟨tg2, iter2, [], 0⟩] scope pos) (some (.Name y py)) spos.line env = pure true) auR) (hy : autoParam (env.kindOf y = some .local) auR) (hp : autoParam ((env.scope.kind == .class || (env.scope.kind == .module && env.locals != env.globals)) = false) auR)
    (hclos : autoParam (closureFor scope env = pure cl) auR)
    (hcell : autoParam (∀ y ∈ scope.names, y.2 ≠ .cell) auD) (hkind : autoParam (scope.kind = .function) auR) (hnames : autoParam (∀ x ∈ scope.names, x.2 = .local → scope.names.lookup x.1 = some .local) auD)
    (hs : autoParam (∀ x, foldedSetIterable iter env x = pure x) auI) : SS w n env (.Assign [.Name y py] (.ListComp elt [⟨tg, iter, [], 0⟩, ⟨tg2, iter2, [], 0⟩] scope pos) spos) σ .next (σ1.put y (.lst (xs.flatMap fl))) := fun A hb ρ s Q E rm R k => by
  rw [exec_Assign_Name_used _ _ _ _ hsw]
  refine wpAny_bind (wpAny_standAt (wpAny_bind ?_))
  show wpAny _ A (do let _ ← comprehension (.ListComp elt [⟨tg, iter, [], 0⟩, ⟨tg2, iter2, [], 0⟩] scope pos) scope env _ (newList []) false (eval iter env) (some (assign (.Name y py) env))) _ _ s
  refine wpAny_bind (wpAny_mono (comp_core2 (Q := fun _ s' => Q .next s') (use := some (assign (.Name y py) env)) (zs := []) h hi hclos hcl.all hnd hcel.dom hcel.agree hC hz step hcell hkind hnames hs rm R fun hb' ρ' s' D Ca X' R' h' hCa hd hns => ?_) (fun _ s' hq => wpAny_pure (wpAny_pure hq)) fun _ _ e => e)
  obtain ⟨m, hns⟩ := hns
  show wpAny _ A (assign (.Name y py) env (.ref D)) _ _ _
  refine wpAny_assign_Name (store_local R' h' hy hp fun s2 X2 R2 => ?_)
  refine ⟨m, ns_of hns fun o e => X2.keep _ o e hCa.1 hCa.2.2.1 hCa.2.2.2, fun h'' hs'' => k _ _ _ _ ((X'.trans X2).letgo hd hs'') (R2.letgo hCa hs'') .next⟩
theorem o_concatT (hz : l.length + m.length ≤ 10000) : OI w n (binaryOp .Add) (.tup l) (.tup m) μ (.tup (l ++ m)) := fun A hb ρ s v u Q E rm R hv hu k => by
  refine eEEAA hv.tup_inv ?_; rintro t vs rfl ht hx
  refine eEEAA hu.tup_inv ?_; rintro b ws rfl hb2 hy
  refine eEAAE (ht.keeps R.keep) ?_; rintro ⟨cls, dd, data, sl⟩ ho hc n1 hd
  refine eEAAE (hb2.keeps R.keep) ?_; rintro ⟨cls2, dd2, data2, sl2⟩ ho2 hc2 n2 hd2
  simp only at hc hd hc2 hd2
  subst hc hd hc2 hd2
  have e : vs.toArray ++ ws.toArray = (vs ++ ws).toArray := by simp
  by_cases hv0 : vs = []
  · have hl : l = [] := by have := hx.length; rw [hv0] at this; exact List.length_eq_zero_iff.mp this.symm
    refine concat_meets ⟨_, ho, rfl⟩ ⟨_, ho2, rfl⟩ noFill_tuple_add seq_tuple_add PySem.F.slot_tuple_add PySem.F.entry_tuple_add (PySem.F.args_tuple_add_2 _ _)
      (tuple_addW0 t b vs.toArray ws.toArray n1 n2 dd dd2 sl sl2 (by simp [hv0])) ⟨ho, ho2, k _ _ _ _ .refl R ?_⟩
    rw [hl, List.nil_append]; exact hu
  · by_cases hw0 : ws = []
    · have hm : m = [] := by have := hy.length; rw [hw0] at this; exact List.length_eq_zero_iff.mp this.symm
      refine concat_meets ⟨_, ho, rfl⟩ ⟨_, ho2, rfl⟩ noFill_tuple_add seq_tuple_add PySem.F.slot_tuple_add PySem.F.entry_tuple_add (PySem.F.args_tuple_add_2 _ _)
        (tuple_addW1 t b vs.toArray ws.toArray n1 n2 dd dd2 sl sl2 (by simpa using hv0) (by simp [hw0])) ⟨ho, ho2, k _ _ _ _ .refl R ?_⟩
      rw [hm, List.append_nil]; exact hv
    · refine concat_meets ⟨_, ho, rfl⟩ ⟨_, ho2, rfl⟩ noFill_tuple_add seq_tuple_add PySem.F.slot_tuple_add PySem.F.entry_tuple_add (PySem.F.args_tuple_add_2 _ _)
        (tuple_addW2 t b vs.toArray ws.toArray n1 n2 dd dd2 sl sl2 (by simpa using hv0) (by simpa using hw0) (by rw [List.size_toArray, List.size_toArray, hx.length, hy.length, sizeLine_eq]; lia)) ⟨ho, ho2, ?_⟩
      rw [e]
      refine eEAA (grown_frozen (s' := { s with heap := s.heap.push { cls := .type "tuple", data := .seq (vs ++ ws).toArray } }) R (fun b o e => Heap.get?_push_of_some _ e) rfl rfl [s.heap.objs.size] (fun a ha => by rw [List.mem_singleton.mp ha]; exact dead_of_le (Nat.le_refl _))) ?_; rintro hb' X2 R2 hget
      exact k _ _ _ _ X2 R2 (.tup ⟨_, hget _ (List.mem_singleton.mpr rfl) _ (Heap.get?_push_size _ rfl), rfl, _, rfl⟩ ((hx.append hy).mono X2.base X2.pre))
end
noncomputable def rowsN (k kc : Nat) : Nat → List (List Nat × Nat)
  | 0 => [([], 0)]
  | t + 1 => (rowsN k kc t).flatMap fun q => (List.range (k - kc + t + 1 - q.2)).map fun i => (q.1 ++ [q.2 + i], q.2 + i + 1)
noncomputable def combs (k kc : Nat) : List (List Nat) := (rowsN k kc kc).map (·.1)
noncomputable def rowA (q : List Nat × Nat) : AV := .tup [.tup (natL q.1), .int (q.2 : Int)]
theorem rowsN_small : ∀ k ∈ [1, 2, 3, 4], ∀ kc ∈ [1, 2, 3, 4], kc ≤ k → ∀ t ∈ [0, 1, 2, 3, 4], t ≤ kc → (rowsN k kc t).length ≤ 24 ∧ ∀ q ∈ rowsN k kc t, q.1.length = t ∧ q.2 ≤ 4 := by decide +kernel
theorem in4 {k : Nat} (h0 : 0 < k) (h : k ≤ 4) : k ∈ [1, 2, 3, 4] := by
  have : k = 1 ∨ k = 2 ∨ k = 3 ∨ k = 4 := by lia
  rcases this with rfl | rfl | rfl | rfl <;> simp
theorem in5 {k : Nat} (h : k ≤ 4) : k ∈ [0, 1, 2, 3, 4] := by
  have : k = 0 ∨ k = 1 ∨ k = 2 ∨ k = 3 ∨ k = 4 := by lia
  rcases this with rfl | rfl | rfl | rfl | rfl <;> simp
noncomputable def flA (K : Nat) : AV → List AV
  | .tup [.tup row, .int start] => (List.range (K + 1 - start.toNat)).map fun i => .tup [.tup (row ++ [.int ((start.toNat + i : Nat) : Int)]), .int ((start.toNat + i + 1 : Nat) : Int)]
  | _ => []
theorem flA_row {K : Nat} {q : List Nat × Nat} : flA K (rowA q) = ((List.range (K + 1 - q.2)).map fun i => (q.1 ++ [q.2 + i], q.2 + i + 1)).map rowA := by
  unfold rowA flA
  rw [List.map_map]
  refine List.map_congr_left fun i _ => ?_
  show AV.tup [.tup (natL q.1 ++ [.int ((q.2 + i : Nat) : Int)]), .int ((q.2 + i + 1 : Nat) : Int)] = .tup [.tup (natL (q.1 ++ [q.2 + i])), .int ((q.2 + i + 1 : Nat) : Int)]
  unfold natL; rw [List.map_append]; rfl
theorem pure_row {r : List Nat} {i : Int} : (AV.tup [.tup (natL r), .int i]).pure = true := by
  have h : AV.pures (natL r) = true := pures_nats _
  simp [AV.pure, AV.pures, h]
theorem rows_step {k kc t : Nat} : ((rowsN k kc t).map rowA).flatMap (flA (k - kc + t)) = (rowsN k kc (t + 1)).map rowA := by
  show _ = ((rowsN k kc t).flatMap fun q => (List.range (k - kc + t + 1 - q.2)).map fun i => (q.1 ++ [q.2 + i], q.2 + i + 1)).map rowA
  rw [List.map_flatMap, List.flatMap_map]
  congr 1
  funext q
  exact flA_row
theorem rng_nat {i j : Nat} : rngL (i : Int) (j : Int) = natL ((List.range (j - i)).map fun x => i + x) := by
  unfold rngL natL
  rw [List.map_map, show ((j : Int) - (i : Int)).toNat = j - i by lia]
  exact List.map_congr_left fun x _ => by show AV.int _ = AV.int _; congr 1
section
variable {w : World} {n m : Nat} {env : Env} {σ σ0 σ1 σ2 σ3 : St} {pos : Pos} {a b c : AV} {μ μ' : List Cell} {k kc : Nat}
theorem cell1 {x y : Str} {c1 c2 : Addr} (hc : c1 ≠ c2) : ∀ z c, ([(y, c2), (x, c1)] : List (Str × Addr)).lookup z = some c → c = c2 → z = y := fun z c e h => by
  rcases lookup_cons_some e with ⟨h, _⟩ | ⟨_, e⟩
  · exact h
  · rcases lookup_cons_some e with ⟨_, rfl⟩ | ⟨_, e⟩
    · exact absurd h hc
    · cases e
theorem f_comb (h0 : 0 < kc) (hk : kc ≤ k) (h4 : k ≤ 4) : FC w (n + 2) (.val (.ref 50)) [.lst (natL (List.range k)), .int (kc : Int)] [] μ (.lst ((combs k kc).map (com true))) μ := by
  have small := fun t (ht : t ≤ kc) => rowsN_small k (in4 (by lia) h4) kc (in4 h0 (by lia)) hk t (in5 (by lia)) ht
  refine fc_plain ⟨_, _, _, by k_is⟩ (by k_is) rfl rfl (hb2_ fun _ _ => by rfl) (by rfl) (by rfl) (fun L => ?_) (AV.inb_of_pure (by unfold AV.pure; exact coms_pure))
  refine sxx_ifNe (sb_cmp (seL rfl) (se_call (se_builtin b_len (by rfl) (by decide)) kept_builtin (scN (se_cell rfl) snN) (fn_len_list rfl (by rw [natL_length, List.length_range]; lia))) o_gt) (by rw [decide_eq_false_iff_not, natL_length, List.length_range]; lia) ?_
  refine sxC (ss_assign (se_list (scN (se_tuple (scN (se_tuple snN (by decide)) (scN se_int snN)) (by simp)) snN) (by simp))) ?_
  refine sxx_then (ssx_for (α := Unit) (C := fun _ => True) (xs := rngL 0 (kc : Int)) (mk := fun t _ => ⟨[("rows", .lst ((rowsN k kc t).map rowA)), ("size", .int (kc : Int))], [("items", .lst (natL (List.range k)))], μ⟩) (Inv := fun _ _ => True)
    (se_call (se_builtin b_range (by rfl) (by decide)) kept_type (scN (seL rfl) snN) fn_range1) (iter_range (by lia) (by lia) fun _ _ => rfl) () trivial (St.le_r rfl) (fun _ _ _ => trivial) fun t _ y hy _ => ⟨_, tgt_local, ?_⟩) fun σ' af h => ⟨h.1, ?_⟩
  · rw [rngL_nat] at hy
    refine eEA (natL_get hy) ?_; rintro o ho rfl
    have hot : o = t ∧ t < kc := by have := (List.getElem?_eq_some_iff.mp ho); obtain ⟨h1, h2⟩ := this; rw [List.length_range] at h1; rw [List.getElem_range] at h2; lia
    obtain ⟨rfl, ht⟩ := hot
    obtain ⟨sm1, sm2⟩ := small o (by lia)
    refine sxC (ss_assignC (se_binop (se_binop (se_call (se_builtin b_len (by rfl) (by decide)) kept_builtin (scN (se_cell rfl) snN) (fn_len_list rfl (by rw [natL_length, List.length_range]; lia))) (seL rfl) o_sub) (seL rfl) o_add) ⟨L + 2, rfl, fun y c e h => cell1 (y := "last") (x := "items") (c1 := L + 1) (c2 := L + 2) (Nat.ne_of_lt (Nat.lt_succ_self (L + 1))) y c e h⟩) ?_
    have hK : ((natL (List.range k)).length : Int) - (kc : Int) + (o : Int) = ((k - kc + o : Nat) : Int) := by rw [natL_length, List.length_range]; lia
    refine sxx_consW (σ2 := ⟨[("rows", .lst ((rowsN k kc (o + 1)).map rowA)), ("size", .int (kc : Int))], [("items", .lst (natL (List.range k)))], μ⟩) (ss_comp2 [("last", L + 2), ("items", L + 1)] [("last", .int (((natL (List.range k)).length : Int) - (kc : Int) + (o : Int))), ("items", .lst (natL (List.range k)))] (flA (k - kc + o)) (seL rfl) (iter_list rfl (.inr ⟨⟨_, _, _, rfl⟩, fun x hx => ?_⟩)) (fun _ => rfl) (by rw [rows_step, List.length_map]; have := (small (o + 1) (by lia)).1; lia) (fun Ca i y hy => ?_) ⟨rfl, rfl, trivial⟩ ⟨rfl, rfl, rfl, rfl, trivial⟩ (by simp)) (St.le_of ⟨by rw [← rows_step]; rfl, rfl, trivial⟩ ⟨rfl, trivial⟩ rfl) ?_
    · refine eEA (List.mem_map.mp hx) ?_; rintro q _ rfl; exact ⟨_, rfl⟩
    · rw [List.getElem?_map] at hy
      cases hq : (rowsN k kc o)[i]? with
      | none => rw [hq] at hy; cases hy
      | some q =>
        rw [hq] at hy; cases hy
        obtain ⟨q1, q2⟩ := sm2 q (List.mem_of_getElem? hq)
        refine ⟨[("start", .int (q.2 : Int)), ("row", .tup (natL q.1))], .rng (q.2 : Int) (((natL (List.range k)).length : Int) - (kc : Int) + (o : Int) + 1), rngL (q.2 : Int) (((natL (List.range k)).length : Int) - (kc : Int) + (o : Int) + 1), fun z => .tup [.tup (natL q.1 ++ [z]), .int (toI z + 1)], fun _ => True, ?_, fun acc => ⟨_, tgt_tuple (tgts_cons tgt_local (tgts_cons tgt_local tgts_nil)), se_call (se_builtin b_range (by rfl) (by decide)) kept_type (scN (seL rfl) (scN (se_binop (se_cell rfl) se_int o_add) snN)) fn_range2, iter_range (by lia) (by rw [hK]; lia) fun _ _ => rfl⟩, fun _ => trivial, fun _ => rfl, fun j z hz acc => ?_⟩
        · rw [flA_row, hK, show (((k - kc + o : Nat) : Int) + 1) = ((k - kc + o + 1 : Nat) : Int) by lia, rng_nat]
          unfold natL
          rw [List.map_map, List.map_map, List.map_map]
          refine List.map_congr_left fun i _ => ?_
          show AV.tup [.tup (natL (q.1 ++ [q.2 + i])), .int ((q.2 + i + 1 : Nat) : Int)] = AV.tup [.tup (natL q.1 ++ [.int ((q.2 + i : Nat) : Int)]), .int (((q.2 + i : Nat) : Int) + 1)]
          rw [natL_snoc]; rfl
        · rw [hK, show (((k - kc + o : Nat) : Int) + 1) = ((k - kc + o + 1 : Nat) : Int) by lia, rng_nat] at hz
          refine eEA (natL_get hz) ?_; rintro c hc rfl
          have hck : c < k := by
            obtain ⟨h1, h2⟩ := List.getElem?_eq_some_iff.mp hc
            rw [List.length_map, List.length_range] at h1
            rw [List.getElem_map, List.getElem_range] at h2
            lia
          exact ⟨_, _, tgt_local, se_tuple (scN (se_binop (seL rfl) (se_tuple (scN (se_itemL (se_cell rfl) (seL rfl) rfl (natL_get' (List.getElem?_range hck)) (by lia)) snN) (by simp)) (o_concatT (by rw [natL_length]; simp; lia))) (scN (se_binop (seL rfl) se_int o_add) snN)) (by simp), St.le_r rfl, by show (AV.tup [.tup (natL q.1 ++ [.int (c : Int)]), .int ((c : Int) + 1)]).pure = true; rw [natL_snoc]; exact pure_row⟩
    exact sxx_nil ⟨rfl, (), trivial, St.le_r rfl⟩
  · refine eAEA h ?_; clear h; rintro rfl _ _ rfl
    rw [rngL_nat, natL_length, List.length_range]
    obtain ⟨sm1, sm2⟩ := small kc (Nat.le_refl _)
    refine sxx_stop (ss_return (se_comp [] [] (fun _ => true) (fun y => match y with | .tup (r :: _) => r | _ => .none) (seL rfl) (iter_list rfl (.inr ⟨⟨_, _, _, rfl⟩, fun x hx => ?_⟩)) (fun _ => rfl) (by rw [List.length_map]; lia) (fun Ca i y hy acc => ?_) trivial trivial)) ⟨?_, rfl⟩
    · refine eEA (List.mem_map.mp hx) ?_; rintro q _ rfl; exact ⟨_, rfl⟩
    · rw [List.getElem?_map] at hy
      cases hq : (rowsN k kc kc)[i]? with
      | none => rw [hq] at hy; cases hy
      | some q =>
        rw [hq] at hy; cases hy
        exact ⟨_, _, tgt_tuple (tgts_cons tgt_local (tgts_cons tgt_local tgts_nil)), tst_nil, St.le_r rfl, fun _ => ⟨_, seL rfl, St.le_r rfl, pures_nats _⟩⟩
    · show AV.lst _ = AV.lst _
      congr 1
      unfold combs
      rw [List.map_map, List.filter_eq_self.mpr (fun _ _ => rfl), List.map_map]
      rfl
end
theorem combs_ok : ∀ k ∈ [1, 2, 3, 4], ∀ kc ∈ [1, 2, 3, 4], kc ≤ k → (combs k kc).length ≤ 6 ∧ combs k kc ≠ [] ∧ (∀ c ∈ combs k kc, c.length = kc ∧ (∀ y ∈ c, y < k) ∧ c.Nodup ∧ toSet c = c) ∧ ((combs k kc).map fun c => setText (toSet c)).Pairwise fun a b => slt a b = true := by decide +kernel
inductive Md where
  | all | one
  | top (m : Nat)
noncomputable def Md.res : Md → Bool
  | one => true
  | _ => false
noncomputable def Md.mx : Md → AV
  | top m => .int (m : Int)
  | _ => .none
noncomputable def Md.cut {α : Type} : Md → List α → List α
  | all, l => l
  | one, l => l.take 1
  | top m, l => l.take m
noncomputable def bfStep (r : Rl) (vt : Vt) (res : Bool) (q : Option Int × List (List Nat)) (c : List Nat) : Option Int × List (List Nat) :=
  match q.1 with
  | none => (some (sc r vt (toSet c)), [c])
  | some M => if M < sc r vt (toSet c) then (some (sc r vt (toSet c)), [c]) else if sc r vt (toSet c) = M then (q.1, if res then q.2 else q.2 ++ [c]) else q
noncomputable def optA (r : Rl) : Option Int → AV
  | none => .int (-1)
  | some M => fr r.G M
section
variable {w : World} {n m : Nat} {env : Env} {σ σ0 σ1 σ2 σ3 : St} {pos : Pos} {a b c : AV} {μ μ' ν : List Cell} {k kc : Nat} {vt : Vt}
theorem se_dict0 : SE w n env (.Dict [] [] pos) σ .any σ := fun A hb ρ s Q E rm R kk => by
  refine wpAny_Dict_empty ?_
  have hk : s.heap.StaysIn (s.heap.push { cls := .type "dict", data := .dict #[] }) := fun b o e => Heap.get?_push_of_some _ e
  have X : Ext [] hb ρ s hb ρ { s with heap := s.heap.push { cls := .type "dict", data := .dict #[] } } := Ext.plain (fun b o e _ => hk b o e) (live_stays hk) rfl rfl
  exact kk _ _ _ _ (X.weaken fun _ q => nomatch q) (R.step X (R.m.grow (s' := { s with heap := s.heap.push { cls := .type "dict", data := .dict #[] } }) hk rfl)) (.any _)
theorem g_comb : nsIn (Internal.hd.heap_1 w.params) mainGlobals "combinations" = some (some (.ref 50)) := by k_is
theorem g_score : nsIn (Internal.hd.heap_1 w.params) mainGlobals "thiele_score" = some (some (.ref 271)) := by k_is
theorem sc_nonneg {r : Rl} (hv : ∀ v ∈ vt, 0 ≤ v.2) (zs : List Nat) : 0 ≤ sc r vt zs := by
  refine sum_nonneg fun y hy => ?_
  refine eEA (List.mem_map.mp hy) ?_; rintro v h1 rfl
  refine Int.mul_nonneg (hv v h1) ?_
  generalize (inter zs v.1).length = i
  induction i with
  | zero => exact Int.le_refl _
  | succ i ih => unfold Rl.gsum; have := (r.gain_le (i + 1)).1; lia
end
theorem pick_take {α : Type} {xs : List α} {m : Nat} : pickA xs none (some (m : Int)) = xs.take m := by
  unfold pickA clipL
  simp
  rw [if_neg (by lia)]
  lia
noncomputable def bfSt (r : Rl) (vt : Vt) (res : Bool) (cs : List (List Nat)) : Option Int × List (List Nat) := cs.foldl (bfStep r vt res) (none, [])
set_option tactic.hygienic true in
theorem bf_inv (r : Rl) (vt : Vt) (res : Bool) (l : List (List Nat)) : (bfSt r vt res (l.reverse)).2.Sublist l.reverse ∧ (l ≠ [] → (bfSt r vt res l.reverse).2 ≠ [] ∧ (bfSt r vt res l.reverse).1 ≠ none) := by
  induction l with
  | nil => exact ⟨List.Sublist.refl _, fun h => absurd rfl h⟩
  | cons c l ih =>
    obtain ⟨h1, h2⟩ := ih
    unfold bfSt at h1 h2 ⊢
    rw [List.reverse_cons, List.foldl_append, List.foldl_cons, List.foldl_nil]
    generalize hq : l.reverse.foldl (bfStep r vt res) (none, []) = q at h1 h2 ⊢
    unfold bfStep
    split
    · exact ⟨List.sublist_append_right _ _, fun _ => ⟨by simp, by simp⟩⟩
    · rename_i M hM
      have hl : l ≠ [] := fun e => by subst e; cases hq; cases hM
      obtain ⟨h3, h4⟩ := h2 hl
      split
      · exact ⟨List.sublist_append_right _ _, fun _ => ⟨by simp, by simp⟩⟩
      · split
        · cases res
          · exact ⟨h1.append (List.Sublist.refl _), fun _ => ⟨by simp, h4⟩⟩
          · exact ⟨h1.trans (List.sublist_append_left _ _), fun _ => ⟨h3, h4⟩⟩
        · exact ⟨h1.trans (List.sublist_append_left _ _), fun _ => ⟨h3, h4⟩⟩
theorem bf_sub (r : Rl) (vt : Vt) (res : Bool) (l : List (List Nat)) : (bfSt r vt res l).2.Sublist l := by
  have := (bf_inv r vt res l.reverse).1
  rwa [List.reverse_reverse] at this
theorem bf_ne (r : Rl) (vt : Vt) (res : Bool) {l : List (List Nat)} (h : l ≠ []) : (bfSt r vt res l).2 ≠ [] := by
  have := (bf_inv r vt res l.reverse).2 (by simpa using h)
  rw [List.reverse_reverse] at this
  exact this.1
theorem bf_take (r : Rl) (vt : Vt) (res : Bool) {l : List (List Nat)} {i : Nat} {c : List Nat} (e : l[i]? = some c) : bfSt r vt res (l.take (i + 1)) = bfStep r vt res (bfSt r vt res (l.take i)) c := by
  obtain ⟨h, rfl⟩ := List.getElem?_eq_some_iff.mp e
  unfold bfSt
  rw [List.take_succ_eq_append_getElem h, List.foldl_append]; rfl
section
variable {w : World} {n m : Nat} {env : Env} {σ σ0 σ1 σ2 σ3 : St} {pos : Pos} {a b c : AV} {μ μ' ν : List Cell} {k kc : Nat} {vt : Vt}
theorem cell_app {c : Cell} : (μ ++ ν) ++ [c] = μ ++ (ν ++ [c]) := List.append_assoc ..
theorem coms_snoc {bs : List (List Nat)} {c : List Nat} : (bs.map (com true)) ++ [com true c] = (bs ++ [c]).map (com true) := by rw [List.map_append]; rfl
theorem set_far {μ ν : List Cell} {j : Nat} {c : Cell} (hj : μ.length ≤ j) : (μ ++ ν).set j c = μ ++ ν.set (j - μ.length) c := List.set_append_right _ _ hj
theorem sets_inb {m : Nat} : ∀ {l : List (List Nat)}, AV.inbs m (setsL l) = true
  | [] => rfl
  | c :: l => by
    show AV.inbs m (AV.set c :: setsL l) = true
    unfold AV.inbs; rw [sets_inb]; rfl
theorem bf_eq {r : Rl} {res : Bool} {q : Option Int × List (List Nat)} {c : List Nat} {M : Int} (h : q.1 = some M) (h1 : ¬ M < sc r vt (toSet c)) (h2 : sc r vt (toSet c) = M) : bfStep r vt res q c = (q.1, if res then q.2 else q.2 ++ [c]) := by
  obtain ⟨q1, q2⟩ := q
  have h : q1 = some M := h
  subst h
  show (if _ then _ else if _ then _ else _) = _
  rw [if_neg h1, if_pos h2]
theorem bf_lt {r : Rl} {res : Bool} {q : Option Int × List (List Nat)} {c : List Nat} {M : Int} (h : q.1 = some M) (h1 : ¬ M < sc r vt (toSet c)) (h2 : ¬ sc r vt (toSet c) = M) : bfStep r vt res q c = q := by
  obtain ⟨q1, q2⟩ := q
  have h : q1 = some M := h
  subst h
  show (if _ then _ else if _ then _ else _) = _
  rw [if_neg h1, if_neg h2]
theorem sb_cmpE {l r : Expr} {op : CmpOp} {c d : Bool} (hl : SE w n env l σ a σ1) (hr : SE w n env r σ1 b σ2) (ho : O2 w n (compareOp op) a b σ2.mem (fun hb ρ v => VRel w hb ρ (.bool c) v) μ') (e : c = d) (hm : autoParam (behindInMarks op r = false) auW) : SB w n env (.Compare l [op] [r] pos) σ d { σ2 with mem := μ' } := e ▸ sb_cmp hl hr ho hm
theorem f_bf (r : Rl) (md : Md) (hmd : ∀ m, md = .top m → 1 ≤ m) (h0 : 0 < kc) (hk : kc ≤ k) (h4 : k ≤ 4) (hv : ∀ v ∈ vt, 0 ≤ v.2) :
    FC w (n + 16) (.val (.ref 449)) [] [("scorefct_id", .str r.nm), ("profile", .prof k (vtL vt)), ("committeesize", .int (kc : Int)), ("resolute", .bool md.res), ("max_num_of_committees", md.mx)] μ (.tup [.lst (setsL (md.cut (bfSt r vt md.res (combs k kc)).2)), .any]) μ := by
  have hG := r.G_pos
  have hG' := r.G_le
  refine eAAA (combs_ok k (in4 (by lia) h4) kc (in4 h0 (by lia)) hk) ?_; rintro c6 cne call cpw
  refine fc_def (fun σ' v => (∃ ν, σ'.mem = μ ++ ν) ∧ v = .tup [.lst (setsL (md.cut (bfSt r vt md.res (combs k kc)).2)), .any]) ⟨_, _, _, by k_is⟩ (by k_is) rfl rfl (hbD rfl (by k_is) fun hb ρ us kvs hv hk => ?_) (bl := [("scorefct_id", .str r.nm), ("profile", .prof k (vtL vt)), ("committeesize", .int (kc : Int)), ("resolute", .bool md.res), ("max_num_of_committees", md.mx)]) (by rfl) (by rfl) (fun L => ?_) (fun σ' v h => ?_) (Nat.le_refl _) (fun h => h)
  · cases hv
    obtain ⟨_, _, _, _, _, rfl, g1, g2, g3, g4, g5⟩ := hk.inv5
    exact ⟨_, _, by rfl, by rfl, .cons g1 (.cons g2 (.cons g3 (.cons g4 (.cons g5 .nil))))⟩
  · refine sxC (ss_assign (se_listC snN (by decide) rfl)) ?_
    refine sxC (ss_assign (se_unary se_int o_neg)) ?_
    refine sxx_then (ssx_for (α := List Cell × Nat) (C := fun _ => True) (xs := (combs k kc).map (com true)) (mk := fun i p => ⟨[("opt_committees", .hnd p.2), ("opt_thiele_score", optA r (bfSt r vt md.res ((combs k kc).take i)).1), ("scorefct_id", .str r.nm), ("profile", .prof k (vtL vt)), ("resolute", .bool md.res), ("max_num_of_committees", md.mx)], [], μ ++ p.1⟩)
      (Inv := fun i p => μ.length ≤ p.2 ∧ (μ ++ p.1)[p.2]? = some (.lst ((bfSt r vt md.res ((combs k kc).take i)).2.map (com true))))
      (se_call (se_glob g_comb) (kept_ref (by k_is)) (scN (se_attr (seL rfl) o_cands) (scN (seL rfl) snN)) (f_comb h0 hk h4).fn) ((iter_list rfl tg_name).weaken fun _ _ _ _ => rfl) ([.lst []], μ.length) ⟨Nat.le_refl _, by simp [bfSt]⟩ (St.le_r rfl) (fun _ _ _ => trivial) fun i p y hy hp => ⟨_, tgt_local, ?_⟩) fun σ' af h => ⟨h.1, ?_⟩
    · obtain ⟨ν, j⟩ := p
      obtain ⟨hj, hcell⟩ := hp
      rw [List.getElem?_map] at hy
      cases hc : (combs k kc)[i]? with
      | none => rw [hc] at hy; cases hy
      | some c =>
        rw [hc] at hy; cases hy
        have hst := bf_take r vt md.res hc
        refine eAAA (call c (List.mem_of_getElem? hc)) ?_; rintro cc1 cc2 cc3 cc4
        have hbl : (bfSt r vt md.res ((combs k kc).take i)).2.length ≤ 1000 := by
          have := (bf_sub r vt md.res ((combs k kc).take i)).length_le
          have := (List.take_sublist i (combs k kc)).length_le; lia
        refine sxC (ss_assign (se_call (se_glob g_score) (kept_ref (by k_is)) (scN (seL rfl) (scN (seL rfl) (scN (seL rfl) snN))) (f_score r (argOk_com (b := true) (fun y hy => by have := cc2 y hy; lia) cc3) (AV.inb_of_pure com_pure)).fn)) ?_
        cases hq1 : (bfSt r vt md.res ((combs k kc).take i)).1 with
        | none =>
          have e1 : bfSt r vt md.res ((combs k kc).take (i + 1)) = (some (sc r vt (toSet c)), [c]) := by rw [hst]; unfold bfStep; rw [hq1]
          refine sxx_ifTe (sb_cmp (seL rfl) (seL rfl) (o_fr_gtN hG hG')) (by rw [decide_eq_true_eq]; have := sc_nonneg (r := r) hv (toSet c); lia) ?_
          refine sxC (ss_assign (se_listC (scN (seL rfl) snN) (by simp) (by unfold AV.pures; rw [com_pure]; rfl))) ?_
          refine sxC (ss_assign (seL rfl)) ?_
          refine sxx_nil (sxx_nil ⟨rfl, (ν ++ [.lst [com true c]], (μ ++ ν).length), ⟨by simp, ?_⟩, St.le_of ⟨rfl, ?_, rfl, rfl, rfl, rfl, trivial⟩ trivial cell_app.symm⟩)
          · rw [e1, ← cell_app, cell_last]; rfl
          · rw [e1]; rfl
        | some M =>
          by_cases hM : M < sc r vt (toSet c)
          · have e1 : bfSt r vt md.res ((combs k kc).take (i + 1)) = (some (sc r vt (toSet c)), [c]) := by rw [hst]; unfold bfStep; rw [hq1]; exact if_pos hM
            refine sxx_ifTe (sb_cmp (seL rfl) (seL rfl) (o_fr_gt hG hG')) (decide_eq_true hM) ?_
            refine sxC (ss_assign (se_listC (scN (seL rfl) snN) (by simp) (by unfold AV.pures; rw [com_pure]; rfl))) ?_
            refine sxC (ss_assign (seL rfl)) ?_
            refine sxx_nil (sxx_nil ⟨rfl, (ν ++ [.lst [com true c]], (μ ++ ν).length), ⟨by simp, ?_⟩, St.le_of ⟨rfl, ?_, rfl, rfl, rfl, rfl, trivial⟩ trivial cell_app.symm⟩)
            · rw [e1, ← cell_app, cell_last]; rfl
            · rw [e1]; rfl
          · refine sxx_ifF (sb_cmpE (seL rfl) (seL rfl) (o_fr_gt hG hG') (decide_eq_false hM)) ?_
            by_cases hE : sc r vt (toSet c) = M
            · refine sxx_ifTe (sb_cmp (seL rfl) (seL rfl) (o_fr_eq hG)) (by rw [hE]; exact beq_self_eq_true M) ?_
              have e1 := hst.trans (bf_eq (res := md.res) (c := c) hq1 hM hE)
              rcases Bool.eq_false_or_eq_true md.res with hres | hres
              · refine sxx_ifNe (sb_not (sb_plain (seL rfl) t_bool)) (by rw [hres]; rfl) ?_
                refine sxx_nil (sxx_nil (sxx_nil ⟨rfl, (ν, j), ⟨hj, ?_⟩, St.le_of ⟨rfl, ?_, rfl, rfl, rfl, rfl, trivial⟩ trivial rfl⟩))
                · rw [e1, if_pos hres]; exact hcell
                · rw [e1]; show some (optA r (some M)) = some (optA r (bfSt r vt md.res ((combs k kc).take i)).1); rw [hq1]
              · refine sxx_ifTe (sb_not (sb_plain (seL rfl) t_bool)) (by rw [hres]; rfl) ?_
                refine sxC (ss_expr (se_mcall (seL rfl) (o_append (listOf_at hcell)) kept_builtin (scN (seL rfl) snN) sks_nil (fn_append hcell com_pure (by rw [List.length_map]; lia)))) ?_
                have hlt := (List.getElem?_eq_some_iff.mp hcell).1
                refine sxx_nil (sxx_nil (sxx_nil (sxx_nil ⟨rfl, (ν.set (j - μ.length) (.lst ((bfSt r vt md.res ((combs k kc).take i)).2.map (com true) ++ [com true c])), j), ⟨hj, ?_⟩, St.le_of ⟨rfl, ?_, rfl, rfl, rfl, rfl, trivial⟩ trivial (set_far hj).symm⟩)))
                · rw [e1, if_neg (by rw [hres]; decide), ← set_far hj]
                  show ((μ ++ ν).set j _)[j]? = some (Cell.lst (((bfSt r vt md.res ((combs k kc).take i)).2 ++ [c]).map (com true)))
                  rw [List.getElem?_set_self hlt, coms_snoc]
                · rw [e1]; show some (optA r (some M)) = some (optA r (bfSt r vt md.res ((combs k kc).take i)).1); rw [hq1]
            · have e1 := hst.trans (bf_lt (res := md.res) (c := c) hq1 hM hE)
              refine sxx_ifNe (sb_cmp (seL rfl) (seL rfl) (o_fr_eq hG)) (by rw [beq_eq_false_iff_ne]; exact hE) ?_
              refine sxx_nil (sxx_nil ⟨rfl, (ν, j), ⟨hj, ?_⟩, St.le_of ⟨rfl, ?_, rfl, rfl, rfl, rfl, trivial⟩ trivial rfl⟩)
              · rw [e1]; exact hcell
              · rw [e1]; show some (optA r (some M)) = some (optA r (bfSt r vt md.res ((combs k kc).take i)).1); rw [hq1]
    · refine eAEA h ?_; clear h; rintro rfl ⟨ν, j⟩ ⟨hj, hcell⟩ rfl
      rw [List.length_map, List.take_length] at hcell
      have hsub := bf_sub r vt md.res (combs k kc)
      have hne := bf_ne r vt md.res cne
      generalize hB : (bfSt r vt md.res (combs k kc)).2 = B at hcell hsub hne
      have hBs : B.map toSet = B := by
        conv => rhs; rw [← List.map_id B]
        exact List.map_congr_left fun c hc => (call c (hsub.subset hc)).2.2.2
      have hB6 : B.length ≤ 6 := by have := hsub.length_le; lia
      have hs := f_sortc_asc (w := w) (n := n + 2) (μ := μ ++ ν) (bb := true) (css := B) (a := .hnd j) (listOf_at hcell) (fun c hc => ⟨fun y hy => by have := (call c (hsub.subset hc)).2.1 y hy; lia, (call c (hsub.subset hc)).2.2.1⟩) hB6 (cpw.sublist (hsub.map _))
      rw [hBs] at hs
      refine sxx_consW (σ2 := ⟨[("committees", .lst (setsL B)), ("resolute", .bool md.res), ("max_num_of_committees", md.mx)], [], μ ++ ν⟩) (ss_assign (se_call (se_glob g_sortc) (kept_ref (by k_is)) (scN (seL rfl) snN) hs.fn)) (St.le_r rfl) ?_
      cases md with
      | all =>
        refine sxx_ifN (sb_cmp (seL rfl) se_none o_isnot_nn) ?_
        refine sxC (ss_assign se_dict0) ?_
        refine sxx_ifNe (sb_plain (seL rfl) t_bool) rfl ?_
        exact sxx_stop (ss_return (se_tuple (scN (seL rfl) (scN (seL rfl) snN)) (by simp))) ⟨_, rfl, ⟨ν, rfl⟩, rfl⟩
      | one =>
        refine sxx_ifN (sb_cmp (seL rfl) se_none o_isnot_nn) ?_
        refine sxC (ss_assign se_dict0) ?_
        refine sxx_ifTe (sb_plain (seL rfl) t_bool) rfl ?_
        refine eEE (List.exists_cons_of_ne_nil hne) ?_; rintro c B' rfl
        refine sxC (ss_assign (se_list (scN (se_itemL (j := 0) (l := setsL (c :: B')) (x := .set c) (seL rfl) se_int rfl rfl (by lia)) snN) (by simp))) ?_
        refine sxx_nil ?_
        exact sxx_stop (ss_return (se_tuple (scN (seL rfl) (scN (seL rfl) snN)) (by simp))) ⟨_, rfl, ⟨ν, rfl⟩, rfl⟩
      | top m =>
        have hm := hmd m rfl
        refine sxx_ifT (sb_cmp (seL rfl) se_none o_isnot_in) ?_
        refine sxC (ss_assign (se_slice (l := Option.none) (u := some (m : Int)) (seL rfl) sp_none (sp_some (seL rfl)) rfl (by unfold setsL; rw [List.length_map]; lia))) ?_
        refine sxx_nil ?_
        refine sxC (ss_assign se_dict0) ?_
        refine sxx_ifNe (sb_plain (seL rfl) t_bool) rfl ?_
        refine sxx_stop (ss_return (se_tuple (scN (seL rfl) (scN (seL rfl) snN)) (by simp))) ⟨_, rfl, ⟨ν, rfl⟩, ?_⟩
        rw [pick_take]
        show AV.tup [.lst ((setsL B).take m), .any] = AV.tup [.lst (setsL (B.take m)), .any]
        unfold setsL; rw [List.map_take]
  · obtain ⟨⟨ν, h1⟩, rfl⟩ := h
    rw [h1]
    exact ⟨closes_drop (by simp [AV.inb, AV.inbs, sets_inb]), by simp⟩
end
noncomputable def lo (c : List Nat) : Nat := match c.getLast? with
  | none => 0
  | some x => x + 1
noncomputable def kids (k kc : Nat) (c : List Nat) : List (List Nat) := (List.range (k - (kc - c.length) + 1 - lo c)).map fun i => c ++ [lo c + i]
noncomputable def lv (k kc : Nat) : Nat → List Nat → List (List Nat)
  | 0, c => [c]
  | d + 1, c => (kids k kc c).flatMap (lv k kc d)
noncomputable def LV (k kc : Nat) (c : List Nat) : List (List Nat) := (lv k kc (kc - c.length) c).reverse
noncomputable def vals (k kc : Nat) : List (List Nat) := (List.range (kc + 1)).flatMap fun t => (rowsN k kc t).map (·.1)
theorem vals_ok : ∀ k ∈ [1, 2, 3, 4], ∀ kc ∈ [1, 2, 3, 4], kc ≤ k → ∀ c ∈ vals k kc, (∀ y ∈ c, y < k) ∧ c.Nodup ∧ c.length ≤ kc ∧ toSet c = c ∧ lo c + (kc - c.length) ≤ k ∧ (c.length < kc → ∀ e ∈ kids k kc c, e ∈ vals k kc ∧ e.length = c.length + 1) := by decide +kernel
theorem vals_lv : ∀ k ∈ [1, 2, 3, 4], ∀ kc ∈ [1, 2, 3, 4], kc ≤ k → ∀ c ∈ vals k kc, ∀ l ∈ lv k kc (kc - c.length) c, l.take c.length = c ∧ (l.drop c.length).length = kc - c.length ∧ (l.drop c.length).isSublist ((List.range k).drop (lo c)) = true ∧ (l.drop c.length).all (fun x => !c.contains x) = true ∧ l.Nodup ∧ (∀ y ∈ l, y < k) := by decide +kernel
theorem lv_all : ∀ k ∈ [1, 2, 3, 4], ∀ kc ∈ [1, 2, 3, 4], kc ≤ k → lv k kc kc [] = combs k kc ∧ [] ∈ vals k kc := by decide +kernel
theorem combs_all : ∀ k ∈ [1, 2, 3, 4], ∀ kc ∈ [1, 2, 3, 4], kc ≤ k → ∀ z ∈ S16, z.length = kc → (z.all fun y => decide (y < k)) = true → z ∈ combs k kc := by decide +kernel
theorem sum_le {α : Type} {f g : α → Int} : ∀ {l : List α}, (∀ x ∈ l, f x ≤ g x) → (l.map f).sum ≤ (l.map g).sum
  | [], _ => Int.le_refl _
  | x :: l, h => by
    rw [List.map_cons, List.map_cons, List.sum_cons, List.sum_cons]
    have := h x (List.mem_cons_self ..)
    have := sum_le (l := l) fun y hy => h y (List.mem_cons_of_mem _ hy)
    lia
theorem sum_add {α : Type} {f g : α → Int} : ∀ {l : List α}, (l.map fun x => f x + g x).sum = (l.map f).sum + (l.map g).sum
  | [] => rfl
  | x :: l => by
    simp only [List.map_cons, List.sum_cons]
    have := sum_add (f := f) (g := g) (l := l)
    lia
theorem sum_swap {α β : Type} {f : α → β → Int} {m : List β} : ∀ {l : List α}, (l.map fun x => (m.map fun y => f x y).sum).sum = (m.map fun y => (l.map fun x => f x y).sum).sum
  | [] => by
    simp only [List.map_nil, List.sum_nil]
    induction m with
    | nil => rfl
    | cons y m ih => rw [List.map_cons, List.sum_cons, ← ih]; rfl
  | x :: l => by
    simp only [List.map_cons, List.sum_cons]
    rw [sum_swap (l := l), ← sum_add]
theorem sum_sub {l m : List Int} (h : l.Sublist m) (h0 : ∀ x ∈ m, 0 ≤ x) : l.sum ≤ m.sum := by
  induction h with
  | slnil => exact Int.le_refl _
  | cons x h ih =>
    rw [List.sum_cons]
    have := h0 x (List.mem_cons_self ..)
    have := ih fun y hy => h0 y (List.mem_cons_of_mem _ hy)
    lia
  | cons_cons x h ih =>
    rw [List.sum_cons, List.sum_cons]
    have := ih fun y hy => h0 y (List.mem_cons_of_mem _ hy)
    lia
theorem sum_const {l : List Int} {T : Int} : l.sum = l.length * T + (l.map fun y => y - T).sum := by
  induction l with
  | nil => simp
  | cons x l ih => rw [List.sum_cons, ih, List.map_cons, List.sum_cons, List.length_cons, Int.natCast_succ, Int.add_mul]; lia
theorem perm_sum {l m : List Int} (h : l.Perm m) : l.sum = m.sum := by
  induction h with
  | nil => rfl
  | cons x _ ih => rw [List.sum_cons, List.sum_cons, ih]
  | swap x y l => simp only [List.sum_cons]; lia
  | trans _ _ a b => exact a.trans b
noncomputable def pos (y : Int) : Int := if 0 < y then y else 0
theorem top_sum {l ns s : List Int} {m : Nat} (hp : ns.Perm l) (ho : ns.Pairwise (· ≤ ·)) (hs : s.Sublist l) (hm : s.length = m) (h0 : 0 < m) (hl : m ≤ ns.length) : s.sum ≤ (ns.drop (ns.length - m)).sum := by
  have hd : (ns.drop (ns.length - m)).length = m := by rw [List.length_drop]; lia
  obtain ⟨T, rest, hT⟩ : ∃ T rest, ns.drop (ns.length - m) = T :: rest := by
    cases q : ns.drop (ns.length - m) with
    | nil => rw [q] at hd; simp at hd; lia
    | cons T rest => exact ⟨T, rest, rfl⟩
  have hsplit : ns = ns.take (ns.length - m) ++ T :: rest := by rw [← hT, List.take_append_drop]
  have ho' := ho
  rw [hsplit, List.pairwise_append, List.pairwise_cons] at ho'
  refine eAA ho' ?_; clear ho'; rintro _ ⟨o1, _⟩ o2
  have e1 : (l.map fun y => pos (y - T)).sum = (ns.map fun y => pos (y - T)).sum := perm_sum (hp.symm.map _)
  have e2 : (ns.map fun y => pos (y - T)).sum = ((T :: rest).map fun y => y - T).sum := by
    conv => lhs; rw [hsplit]
    rw [List.map_append, List.sum_append]
    have z : ((ns.take (ns.length - m)).map fun y => pos (y - T)).sum = 0 := by
      have : ∀ q : List Int, (∀ y ∈ q, y ≤ T) → (q.map fun y => pos (y - T)).sum = 0 := fun q hq => by
        induction q with
        | nil => rfl
        | cons y q ih =>
          rw [List.map_cons, List.sum_cons, ih fun z hz => hq z (List.mem_cons_of_mem _ hz)]
          have := hq y (List.mem_cons_self ..)
          unfold pos; rw [if_neg (by lia)]; rfl
      exact this _ fun y hy => o2 y hy T (List.mem_cons_self ..)
    rw [z, Int.zero_add]
    congr 1
    refine List.map_congr_left fun y hy => ?_
    unfold pos
    rcases List.mem_cons.mp hy with rfl | q
    · simp
    · have := o1 y q
      split <;> lia
  have e3 : (s.map fun y => pos (y - T)).sum ≤ (l.map fun y => pos (y - T)).sum := sum_sub (hs.map _) fun x hx => by
    refine eEA (List.mem_map.mp hx) ?_; rintro y _ rfl
    unfold pos; split <;> lia
  have e4 : (s.map fun y => y - T).sum ≤ (s.map fun y => pos (y - T)).sum := sum_le fun y _ => by unfold pos; split <;> lia
  rw [hT, sum_const (l := s) (T := T), sum_const (l := T :: rest) (T := T), hm, ← hT, hd, hT]
  lia
theorem gain_dec (r : Rl) (i : Nat) : ∀ j, r.gain (i + j + 1) ≤ r.gain (i + 1) := fun j => by
  have hz : ∀ i, 4 ≤ i → r.gain (i + 1) = 0 := fun i hi => by
    unfold Rl.gain
    have : r.gains.length = 4 := by cases r <;> rfl
    rw [List.getD_eq_getElem?_getD, List.getElem?_eq_none (by lia)]; rfl
  rcases Nat.lt_or_ge (i + j) 4 with h | h
  · have h1 : i = 0 ∨ i = 1 ∨ i = 2 ∨ i = 3 := by lia
    have h2 : j = 0 ∨ j = 1 ∨ j = 2 ∨ j = 3 := by lia
    rcases h1 with rfl | rfl | rfl | rfl <;> rcases h2 with rfl | rfl | rfl | rfl <;> first | lia | (cases r <;> decide)
  · rw [hz _ h]; exact (r.gain_le _).1
theorem gsum_le (r : Rl) (m : Nat) : ∀ j, r.gsum (m + j) ≤ r.gsum m + j * r.gain (m + 1)
  | 0 => by simp
  | j + 1 => by
    have h1 := gsum_le r m j
    have h2 := gain_dec r m j
    show r.gsum (m + j) + r.gain (m + j + 1) ≤ _
    rw [Int.natCast_succ, Int.add_mul]
    lia
theorem s16_sub : ∀ S ∈ S16, ∀ z ∈ S16, ∀ c ∈ S16, (c.all z.contains) = true → (inter z S).length = (inter c S).length + ((z.filter fun x => !c.contains x).filter S.contains).length := by decide +kernel
theorem vals_lv2 : ∀ k ∈ [1, 2, 3, 4], ∀ kc ∈ [1, 2, 3, 4], kc ≤ k → ∀ c ∈ vals k kc, ∀ l ∈ lv k kc (kc - c.length) c, l.filter (fun x => !c.contains x) = l.drop c.length ∧ toSet l = l ∧ l ∈ S16 ∧ c ∈ S16 ∧ c.all l.contains = true := by decide +kernel
theorem sum_ite {p : Nat → Bool} {g : Int} : ∀ e : List Nat, (e.map fun x => if p x then g else 0).sum = ((e.filter p).length : Int) * g
  | [] => by simp
  | x :: e => by
    rw [List.map_cons, List.sum_cons, sum_ite e, List.filter_cons]
    cases p x
    · simp
    · rw [if_pos rfl, if_pos rfl, List.length_cons, Int.natCast_succ, Int.add_mul]; lia
theorem bound_raw {r : Rl} {vt : Vt} {c e z : List Nat} (hv : ∀ v ∈ vt, v.1 ∈ S16 ∧ 0 ≤ v.2) (hz : z ∈ S16) (hc : c ∈ S16) (hs : c.all z.contains = true) (he : z.filter (fun x => !c.contains x) = e) : sc r vt z ≤ sc r vt c + (e.map (mg r vt c)).sum := by
  unfold sc mg
  rw [← sum_swap (l := vt) (m := e) (f := fun v x => if v.1.contains x then r.gain ((inter v.1 c).length + 1) * v.2 else 0), ← sum_add]
  refine sum_le fun v hvm => ?_
  obtain ⟨h1, h2⟩ := hv v hvm
  rw [sum_ite, s16_sub _ h1 _ hz _ hc hs, he, inter_comm (xs := c) (ys := v.1)]
  have := gsum_le r (inter v.1 c).length (e.filter v.1.contains).length
  have h3 := Int.mul_le_mul_of_nonneg_left this h2
  rw [Int.mul_add] at h3
  refine Int.le_trans h3 (Int.le_of_eq ?_)
  congr 1
  rw [Int.mul_comm (r.gain _) v.2, Int.mul_left_comm]
noncomputable def srt (l : List Int) : List Int := l.mergeSort fun a b => decide (a ≤ b)
theorem srt_perm (l : List Int) : (srt l).Perm l := List.mergeSort_perm ..
theorem srt_ord (l : List Int) : (srt l).Pairwise (· ≤ ·) := by
  have := List.pairwise_mergeSort (le := fun (a b : Int) => decide (a ≤ b)) (fun a b c h1 h2 => by simp at *; lia) (fun a b => by simp; lia) l
  exact this.imp fun h => of_decide_eq_true h
noncomputable def topS (m : Nat) (l : List Int) : Int := ((srt l).drop ((srt l).length - m)).sum
noncomputable def ub (r : Rl) (vt : Vt) (k kc : Nat) (c : List Nat) : Int := topS (kc - c.length) ((tab k (mgf r vt c)).drop (lo c)) + sc r vt c
theorem bound {r : Rl} {vt : Vt} {k kc : Nat} {c l : List Nat} (hk : k ∈ [1, 2, 3, 4]) (hkc : kc ∈ [1, 2, 3, 4]) (hle : kc ≤ k) (hv : ∀ v ∈ vt, v.1 ∈ S16 ∧ 0 ≤ v.2) (hc : c ∈ vals k kc) (hlen : c.length < kc) (hl : l ∈ lv k kc (kc - c.length) c) : sc r vt l ≤ ub r vt k kc c := by
  refine eAAAAA (vals_lv k hk kc hkc hle c hc l hl) ?_; rintro a1 a2 a3 a4 a5 a6
  refine eAAAA (vals_lv2 k hk kc hkc hle c hc l hl) ?_; rintro b1 b2 b3 b4 b5
  refine eAAAAA (vals_ok k hk kc hkc hle c hc) ?_; rintro c1 c2 c3 c4 c5 c6
  have h1 := bound_raw (r := r) hv b3 b4 b5 b1
  have h2 : (l.drop c.length).map (mg r vt c) = (l.drop c.length).map (mgf r vt c) := List.map_congr_left fun x hx => by
    have := List.all_eq_true.mp a4 x hx
    unfold mgf
    rw [if_neg (by simpa using this), c4]
  have h3 : ((l.drop c.length).map (mgf r vt c)).Sublist ((tab k (mgf r vt c)).drop (lo c)) := by
    unfold tab
    rw [← List.map_drop]
    exact (List.isSublist_iff_sublist.mp a3).map _
  have h4 := top_sum (srt_perm _) (srt_ord _) h3 (m := kc - c.length) (by rw [List.length_map, a2]) (by lia) (by
    rw [(srt_perm _).length_eq]
    have := h3.length_le
    rw [List.length_map, a2] at this; lia)
  unfold ub topS
  rw [h2] at h1
  lia
abbrev Bst := List (List Nat) × Int × List (List Nat)
noncomputable def bbStep (r : Rl) (vt : Vt) (k kc : Nat) : Bst → Bst
  | ([], best, bs) => ([], best, bs)
  | (c :: q, best, bs) =>
    if c.length = kc then (if sc r vt (toSet c) = best then (q, best, bs ++ [c]) else if best < sc r vt (toSet c) then (q, sc r vt (toSet c), [c]) else (q, best, bs))
    else if best ≤ ub r vt k kc c then ((kids k kc c).reverse ++ q, best, bs) else (q, best, bs)
theorem bbStep_cons {r : Rl} {vt : Vt} {k kc : Nat} {c : List Nat} {q bs : List (List Nat)} {best : Int} : bbStep r vt k kc (c :: q, best, bs) = if c.length = kc then (if sc r vt (toSet c) = best then (q, best, bs ++ [c]) else if best < sc r vt (toSet c) then (q, sc r vt (toSet c), [c]) else (q, best, bs))
    else if best ≤ ub r vt k kc c then ((kids k kc c).reverse ++ q, best, bs) else (q, best, bs) := rfl
structure BInv (r : Rl) (vt : Vt) (k kc : Nat) (p : Bst) : Prop where
  val : ∀ c ∈ p.1, c ∈ vals k kc
  att : ∃ c ∈ combs k kc, sc r vt c = p.2.1
  bsv : ∀ c ∈ p.2.2, c ∈ combs k kc
  dn : ∃ D, (combs k kc).reverse = D ++ p.1.flatMap (LV k kc) ∧ (∀ c ∈ D, sc r vt c ≤ p.2.1) ∧ p.2.2 = D.filter fun c => sc r vt c == p.2.1
noncomputable def wt (kc : Nat) (q : List (List Nat)) : Nat := (q.map fun c => 6 ^ (kc - c.length)).sum
theorem LV_kids {k kc : Nat} {c : List Nat} (h : c.length < kc) (hk : ∀ e ∈ kids k kc c, e.length = c.length + 1) : LV k kc c = (kids k kc c).reverse.flatMap (LV k kc) := by
  unfold LV
  obtain ⟨d, hd⟩ : ∃ d, kc - c.length = d + 1 := ⟨kc - c.length - 1, by lia⟩
  rw [hd]
  show ((kids k kc c).flatMap (lv k kc d)).reverse = _
  rw [List.reverse_flatMap]
  rw [List.flatMap_def, List.flatMap_def]
  congr 1
  refine List.map_congr_left fun e he => ?_
  show (lv k kc d e).reverse = (lv k kc (kc - e.length) e).reverse
  rw [hk e (List.mem_reverse.mp he), show kc - (c.length + 1) = d by lia]
theorem lv_combs {k kc : Nat} (hk : k ∈ [1, 2, 3, 4]) (hkc : kc ∈ [1, 2, 3, 4]) (hle : kc ≤ k) : ∀ c ∈ vals k kc, c.length = kc → c ∈ combs k kc := fun c hc hl => by
  refine eAAAAA (vals_ok k hk kc hkc hle c hc) ?_; rintro c1 c2 c3 c4 c5 c6
  refine eAAAA (vals_lv2 k hk kc hkc hle c hc c (by rw [hl, Nat.sub_self]; exact List.mem_singleton.mpr rfl)) ?_; rintro b1 b2 b3 b4 b5
  exact combs_all k hk kc hkc hle c b4 hl (List.all_eq_true.mpr fun y hy => decide_eq_true (c1 y hy))
theorem bb_inv {r : Rl} {vt : Vt} {k kc : Nat} (hk : k ∈ [1, 2, 3, 4]) (hkc : kc ∈ [1, 2, 3, 4]) (hle : kc ≤ k) (hv : ∀ v ∈ vt, v.1 ∈ S16 ∧ 0 ≤ v.2) {c : List Nat} {q : List (List Nat)} {best : Int} {bs : List (List Nat)} (I : BInv r vt k kc (c :: q, best, bs)) :
    BInv r vt k kc (bbStep r vt k kc (c :: q, best, bs)) ∧ wt kc (bbStep r vt k kc (c :: q, best, bs)).1 < wt kc (c :: q) := by
  have hc := I.val c (List.mem_cons_self ..)
  refine eAAAAA (vals_ok k hk kc hkc hle c hc) ?_; rintro c1 c2 c3 c4 c5 c6
  have hval : ∀ e ∈ q, e ∈ vals k kc := fun e h => I.val e (List.mem_cons_of_mem _ h)
  have hw : wt kc q < wt kc (c :: q) := by
    unfold wt; rw [List.map_cons, List.sum_cons]
    have := Nat.pow_pos (n := kc - c.length) (show 0 < 6 by decide); lia
  refine eEAA I.dn ?_; rintro D d1 d2 d3
  have d1 : (combs k kc).reverse = D ++ (LV k kc c ++ q.flatMap (LV k kc)) := by rw [d1, List.flatMap_cons]
  have d2 : ∀ c ∈ D, sc r vt c ≤ best := d2
  have d3 : bs = D.filter fun c => sc r vt c == best := d3
  have hbs : ∀ c ∈ bs, c ∈ combs k kc := I.bsv
  refine eEA I.att ?_; rintro ca ha1 ha2
  have ha2 : sc r vt ca = best := ha2
  rw [bbStep_cons]
  by_cases hl : c.length = kc
  · rw [if_pos hl, c4]
    have hLV : LV k kc c = [c] := by unfold LV; rw [hl, Nat.sub_self]; rfl
    have hcc := lv_combs hk hkc hle c hc hl
    rw [hLV, ← List.append_assoc] at d1
    by_cases h1 : sc r vt c = best
    · rw [if_pos h1]
      refine ⟨⟨hval, ⟨ca, ha1, ha2⟩, fun e he => ?_, D ++ [c], d1, fun e he => ?_, ?_⟩, hw⟩
      · rcases List.mem_append.mp he with h | h
        · exact hbs e h
        · rw [List.mem_singleton.mp h]; exact hcc
      · rcases List.mem_append.mp he with h | h
        · exact d2 e h
        · rw [List.mem_singleton.mp h]; exact Int.le_of_eq h1
      · show bs ++ [c] = _
        rw [List.filter_append, ← d3, List.filter_cons, if_pos (by rw [h1]; exact beq_self_eq_true _)]; rfl
    · rw [if_neg h1]
      by_cases h2 : best < sc r vt c
      · rw [if_pos h2]
        refine ⟨⟨hval, ⟨c, hcc, rfl⟩, fun e he => ?_, D ++ [c], d1, fun e he => ?_, ?_⟩, hw⟩
        · rw [List.mem_singleton.mp he]; exact hcc
        · rcases List.mem_append.mp he with h | h
          · exact Int.le_of_lt (Int.lt_of_le_of_lt (d2 e h) h2)
          · rw [List.mem_singleton.mp h]; exact Int.le_refl _
        · show [c] = _
          rw [List.filter_append, List.filter_eq_nil_iff.mpr fun e he => by
            have := d2 e he
            simp only [beq_iff_eq]; lia]
          rw [List.filter_cons, if_pos (beq_self_eq_true _)]; rfl
      · rw [if_neg h2]
        refine ⟨⟨hval, ⟨ca, ha1, ha2⟩, hbs, D ++ [c], d1, fun e he => ?_, ?_⟩, hw⟩
        · rcases List.mem_append.mp he with h | h
          · exact d2 e h
          · rw [List.mem_singleton.mp h]; show sc r vt c ≤ best; lia
        · show bs = _
          rw [List.filter_append, ← d3, List.filter_cons, if_neg (by simpa using h1)]; simp
  · rw [if_neg hl]
    have hlt : c.length < kc := by lia
    have hkids := c6 hlt
    by_cases h1 : best ≤ ub r vt k kc c
    · rw [if_pos h1]
      refine ⟨⟨fun e he => ?_, ⟨ca, ha1, ha2⟩, hbs, D, ?_, d2, d3⟩, ?_⟩
      · rcases List.mem_append.mp he with h | h
        · exact (hkids e (List.mem_reverse.mp h)).1
        · exact hval e h
      · show _ = D ++ ((kids k kc c).reverse ++ q).flatMap (LV k kc)
        rw [d1, List.flatMap_append, LV_kids hlt fun e he => (hkids e he).2]
      · show wt kc ((kids k kc c).reverse ++ q) < _
        unfold wt
        rw [List.map_append, List.sum_append, List.map_cons, List.sum_cons]
        have hsz : (kids k kc c).length ≤ 5 := by
          unfold kids; rw [List.length_map, List.length_range]
          have : k ≤ 4 := by simp at hk; lia
          lia
        have : ((kids k kc c).reverse.map fun e => 6 ^ (kc - e.length)).sum ≤ 5 * 6 ^ (kc - (c.length + 1)) := by
          have gen : ∀ l : List (List Nat), (∀ e ∈ l, e.length = c.length + 1) → (l.map fun e => 6 ^ (kc - e.length)).sum = l.length * 6 ^ (kc - (c.length + 1)) := fun l hl => by
            induction l with
            | nil => simp
            | cons e l ih => rw [List.map_cons, List.sum_cons, ih fun e h => hl e (List.mem_cons_of_mem _ h), hl e (List.mem_cons_self ..), List.length_cons, Nat.add_mul]; lia
          rw [gen _ fun e he => (hkids e (List.mem_reverse.mp he)).2, List.length_reverse]
          exact Nat.mul_le_mul_right _ hsz
        have e6 : 6 ^ (kc - c.length) = 6 * 6 ^ (kc - (c.length + 1)) := by
          rw [show kc - c.length = (kc - (c.length + 1)) + 1 by lia, Nat.pow_succ, Nat.mul_comm]
        have := Nat.pow_pos (n := kc - (c.length + 1)) (show 0 < 6 by decide)
        lia
    · rw [if_neg h1]
      have hall : ∀ e ∈ LV k kc c, sc r vt e < best := fun e he => by
        have := bound (r := r) hk hkc hle hv hc hlt (List.mem_reverse.mp he)
        lia
      refine ⟨⟨hval, ⟨ca, ha1, ha2⟩, hbs, D ++ LV k kc c, by rw [d1, List.append_assoc], fun e he => ?_, ?_⟩, hw⟩
      · rcases List.mem_append.mp he with h | h
        · exact d2 e h
        · exact Int.le_of_lt (hall e h)
      · show bs = _
        rw [List.filter_append, ← d3, List.filter_eq_nil_iff.mpr fun e he => by
          have := hall e he
          simp only [beq_iff_eq]; lia]
        rw [List.append_nil]
noncomputable def wins (r : Rl) (vt : Vt) (k kc : Nat) : List (List Nat) := (combs k kc).filter fun c => sc r vt c == mx ((combs k kc).map (sc r vt))
theorem mx_eq {l : List Int} {M : Int} (h : M ∈ l) (hle : ∀ x ∈ l, x ≤ M) : mx l = M := by
  have h1 := mx_le M h
  have h2 := hle _ (mx_mem (List.ne_nil_of_mem h))
  lia
theorem bb_end {r : Rl} {vt : Vt} {k kc : Nat} {best : Int} {bs : List (List Nat)} (I : BInv r vt k kc ([], best, bs)) : bs.reverse = wins r vt k kc := by
  refine eEAA I.dn ?_; rintro D d1 d2 d3
  have d1 : (combs k kc).reverse = D := by rw [d1]; simp
  have d3 : bs = D.filter fun c => sc r vt c == best := d3
  refine eEA I.att ?_; rintro ca ha1 ha2
  have ha2 : sc r vt ca = best := ha2
  have hm : mx ((combs k kc).map (sc r vt)) = best := mx_eq (List.mem_map.mpr ⟨ca, ha1, ha2⟩) fun x hx => by
    refine eEA (List.mem_map.mp hx) ?_; rintro e he rfl
    exact d2 e (by rw [← d1]; exact List.mem_reverse.mpr he)
  unfold wins
  rw [hm, d3, ← d1, List.filter_reverse, List.reverse_reverse]
section
variable {w : World} {n m : Nat} {env : Env} {σ σ0 σ1 σ2 σ3 : St} {pos : Pos} {a b c x : AV} {μ μ' ν : List Cell} {l : List AV} {A : Around} {E : Value → Shared → Prop} {s : Shared}
theorem subTail2 {value slice : Expr} {o i : Value} {T id : String} {Q : Value → Shared → Prop} (hT : s.TypeIs o T)
    (hl : typeLookup (.type T) "__getitem__" = pure (some (.builtin id))) (h : wpAny (model PRG w) A (getItem o i) Q E s)
    (hs : subscripted slice false o i = operate [o, i] (getItem o i)) : wpAny (model PRG w) A (subscriptTail value slice o i) Q E s := by
  unfold subscriptTail
  refine wpAny_bind ?_
  rw [getitemInPython_of_ne hT.not_modules]
  refine wpAny_bind (wpAny_specialOf hT hl ?_)
  have fin : wpAny (model PRG w) A (subscripted slice false o i) (fun r s₃ => wpAny (model PRG w) A (letTemporaryGo value o r >>= fun _ => pure r) Q E s₃) E s := by
    rw [hs]
    exact wpAny_operating (wpAny_mono h (fun r s₃ h₃ => wpAny_bind (wpAny_letTemporaryGo (wpAny_pure h₃))) fun _ _ x => x)
  first
    | exact wpAny_pure (wpAny_bind fin)
    | exact wpAny_bind (wpAny_pure (wpAny_bind fin))
    | exact wpAny_bind fin
theorem se_itemG {e i : Expr} {j : Nat} (h : SE w n env e σ a σ1) (hi : SE w n env i σ1 (.int (j : Int)) σ2) (hx : listOfAV σ2.mem a = some l) (hj : l[j]? = some x) (hz : j < 10000)
    (hs : autoParam (∀ o u, subscripted i false (.ref o) (.int (j : Int) u) = operate [.ref o, .int (j : Int) u] (getItem (.ref o) (.int (j : Int) u))) auW) :
    SE w n env (.Subscript e i pos) σ x σ2 := fun A hb ρ s Q E rm R k =>
  Subscript_ (h _ _ _ _ _ _ rm R fun hb1 ρ1 s1 v X1 R1 h1 => hi _ _ _ _ _ _ rm R1 fun hb2 ρ2 s2 vi X2 R2 h2 => by
    obtain ⟨t, rfl⟩ := h2.int_inv
    refine eEEAA (list_of R2.m (h1.mono X2.base X2.pre) hx) ?_; rintro la vs rfl h3 h4
    refine eEA (h4.get hj) ?_; rintro u h5 h6
    exact subTail2 h3.typeIs slot_list_getitem.lookup (wpAny_getItem_list h3 (Int.natCast_nonneg _) (by omega) (x := u) (by simpa using h5) (k _ _ _ _ (X1.trans X2) R2 h6)) (hs _ _))
theorem Slice2 {value : Expr} {lower upper : Option Expr} {p pos : Pos} {T id : String} {Q : Value → Shared → Prop}
    (hl : typeLookup (.type T) "__getitem__" = pure (some (.builtin id)))
    (h : wpAny (model PRG w) A (eval value env) (fun o s₁ => wpAny (model PRG w) A (eval (.Slice lower upper none p) env) (fun i s₂ => s₂.TypeIs o T ∧ wpAny (model PRG w) A (getItem o i) Q E s₂) E s₁) E s) :
    wpAny (model PRG w) A (eval (.Subscript value (.Slice lower upper none p) pos) env) Q E s := by
  rw [eval_Subscript]
  refine wpAny_bind (wpAny_mono h (fun o s₁ h₁ => wpAny_bind (wpAny_holding (wpAny_mono h₁ (fun i s₂ h₂ => wpAny_bind (wpAny_standAt ?_)) fun _ _ x => x)))
    fun _ _ x => x)
  have fin : wpAny (model PRG w) A (operate [i, o] (getItem o i)) (fun r s₃ => wpAny (model PRG w) A (letTemporaryGo value o r >>= fun _ => pure r) Q E s₃) E s₂ :=
    wpAny_operating (wpAny_mono h₂.2 (fun r s₃ h₃ => wpAny_bind (wpAny_letTemporaryGo (wpAny_pure h₃))) fun _ _ x => x)
  first
    | (refine wpAny_bind ?_
       rw [getitemInPython_of_ne h₂.1.not_modules]
       refine wpAny_bind (wpAny_specialOf h₂.1 hl ?_)
       first
         | exact wpAny_pure (wpAny_bind fin)
         | exact wpAny_bind (wpAny_pure (wpAny_bind fin))
         | exact wpAny_bind fin)
    | (refine wpAny_bind (wpAny_specialOf h₂.1 hl ?_)
       first
         | exact wpAny_bind (wpAny_pure (wpAny_bind fin))
         | exact wpAny_bind fin)
theorem slice2 {value : Expr} {lower upper : Option Expr} {p pos : Pos} {Q : Value → Shared → Prop}
    (h : wpAny (model PRG w) A (eval value env) (fun o s₁ => wpAny (model PRG w) A (evalPart lower env) (fun vl s₂ => wpAny (model PRG w) A (evalPart upper env) (fun vu s₃ =>
      ∃ l items lo hi, o = .ref l ∧ s₃.heap.IsList l items ∧ items.size ≤ sizeLine ∧ IsPart vl lo ∧ IsPart vu hi ∧
        Q (.ref (s₃.heap.objs.size + 1)) { s₃ with heap := (s₃.heap.push { cls := .type "slice", data := .fields #[vl, vu, .none] }).push { cls := .type "list", data := .seq (slicePick items lo hi none) } }) E s₂) E s₁) E s) :
    wpAny (model PRG w) A (eval (.Subscript value (.Slice lower upper none p) pos) env) Q E s := by
  refine Slice2 (T := "list") list_getitem_lookup (wpAny_mono h (fun o s₁ h₁ => wpAny_Slice (wpAny_mono h₁ (fun vl s₂ h₂ => wpAny_mono h₂ (fun vu s₃ h₃ => ?_) fun _ _ e => e) fun _ _ e => e)) fun _ _ e => e)
  obtain ⟨l, items, lo, hi, rfl, hl, hsz, pl, pu, hQ⟩ := h₃
  rw [evalPart_none]
  refine wpAny_pure ⟨(hl.push _).typeIs, wpAny_getItem_list_slice (hl.push _) (Heap.IsSliceOf.new ..) pl pu .none (by simp) ?_ hsz⟩
  rw [Heap.size_push]
  exact hQ
theorem se_sliceG {e : Expr} {lo hi : Option Expr} {p : Pos} {xs : List AV} {l u : Option Int} (h : SE w n env e σ a σ1) (hl : SP w n env lo σ1 l σ2) (hu : SP w n env hi σ2 u σ3) (hx : listOfAV σ3.mem a = some xs) (hz : xs.length ≤ 1000) : SE w n env (.Subscript e (.Slice lo hi none p) pos) σ (.lst (pickA xs l u)) σ3 := fun A hb ρ s Q E rm R k =>
  slice2 (h _ _ _ _ _ _ rm R fun hb1 ρ1 s1 v X1 R1 h1 => hl _ _ _ _ _ _ rm R1 fun hb2 ρ2 s2 vl X2 R2 h2 => hu _ _ _ _ _ _ rm R2 fun hb3 ρ3 s3 vu X3 R3 h3 => by
    refine eEEAA (list_of R3.m ((h1.mono X2.base X2.pre).mono X3.base X3.pre) hx) ?_; rintro ll vs rfl h4 h5
    refine ⟨ll, vs.toArray, l, u, rfl, h4, by rw [List.size_toArray, h5.length, sizeLine_eq]; omega, h2, h3, ?_⟩
    rw [slicePick_eq]
    obtain ⟨hb', X4, R4, hget⟩ := grown_frozen (s' := { s3 with heap := (s3.heap.push { cls := .type "slice", data := .fields #[vl, vu, .none] }).push { cls := .type "list", data := .seq (pickA vs l u).toArray } }) R3.m (fun b o e => Heap.get?_push_of_some _ (Heap.get?_push_of_some _ e)) rfl rfl [s3.heap.objs.size + 1]
      (fun a ha => by rw [List.mem_singleton.mp ha]; exact dead_of_le (Nat.le_succ _))
    refine k _ _ _ _ (((X1.trans X2).trans X3).trans (X4.weaken fun _ q => nomatch q)) (R3.step X4 R4) (.lst ⟨0, hget _ (List.mem_singleton.mpr rfl) _ ?_⟩ ((h5.pick l u).mono X4.base X4.pre))
    have := Heap.get?_push_size (s3.heap.push { cls := .type "slice", data := .fields #[vl, vu, .none] }) (o := { cls := .type "list", data := .seq (pickA vs l u).toArray }) rfl
    rwa [Heap.size_push] at this)
theorem t_list (e : listOfAV μ a = some l) (hz : l.length ≤ 100000) : O1 w n truthy a μ (fun _ _ c => c = !l.isEmpty) μ := fun A hb ρ s v Q E rm R hv k => by
  refine eEEAA (list_of R hv e) ?_; rintro la vs rfl h1 h2
  refine wpAny_truthy_list h1 (by rw [List.size_toArray, h2.length]; omega) (k _ _ _ _ (Ext.toks _) (R.toks _) ?_)
  have := h2.length
  cases l <;> cases vs <;> simp at this ⊢
end
theorem pick_from {α : Type} {xs : List α} {i : Nat} : pickA xs (some (i : Int)) none = xs.drop i := by
  unfold pickA clipL
  simp only
  rw [if_neg (by omega)]
  rw [List.take_of_length_le (by rw [List.length_drop]; omega)]
  rcases Nat.le_total i xs.length with h | h
  · congr 1; omega
  · rw [List.drop_eq_nil_of_le h, List.drop_eq_nil_of_le (by omega)]
theorem pick_last {α : Type} {xs : List α} {m : Nat} (h : 0 < m) : pickA xs (some (-(m : Int))) none = xs.drop (xs.length - m) := by
  unfold pickA clipL
  simp only
  rw [if_pos (by omega)]
  rw [List.take_of_length_le (by rw [List.length_drop]; omega)]
  congr 1; omega
section
variable {w : World} {n m : Nat} {env : Env} {σ σ0 σ1 σ2 σ3 : St} {pos : Pos} {a b c : AV} {μ μ' ν : List Cell} {k kc : Nat} {vt : Vt}
theorem sxx_join {st : Stmt} {rest : List Stmt} {P : St → AF → Prop} (h : SSX w n env st σ fun σ' af => af = .next ∧ σ2.le σ') (hr : SXX w n env rest σ2 P) : SXX w n env (st :: rest) σ P := sxx_then h fun _ _ q => ⟨q.1, TX.le hr q.2⟩
theorem g_seq : nsIn (Internal.hd.heap_1 w.params) mainGlobals "_seq_thiele_resolute" = some (some (.ref 462)) := by k_is
theorem lo_snoc {l : List Nat} {x : Nat} : lo (l ++ [x]) = x + 1 := by unfold lo; rw [List.getLast?_concat]
theorem wt_len {kc : Nat} : ∀ {q : List (List Nat)}, q.length ≤ wt kc q
  | [] => Nat.le_refl _
  | c :: q => by
    have := wt_len (kc := kc) (q := q)
    have h := Nat.pow_pos (n := kc - c.length) (show 0 < 6 by decide)
    unfold wt at this ⊢
    rw [List.map_cons, List.sum_cons, List.length_cons]; lia
theorem kids_get {k kc : Nat} {c : List Nat} {i : Nat} (h : i < k - (kc - c.length) + 1 - lo c) : (kids k kc c)[i]? = some (c ++ [lo c + i]) := by
  unfold kids
  rw [List.getElem?_map, List.getElem?_range h]; rfl
theorem kids_take {k kc : Nat} {c : List Nat} {i : Nat} (h : i < k - (kc - c.length) + 1 - lo c) : ((kids k kc c).take (i + 1)).reverse = (c ++ [lo c + i]) :: ((kids k kc c).take i).reverse := by
  obtain ⟨h1, h2⟩ := List.getElem?_eq_some_iff.mp (kids_get h)
  rw [List.take_succ_eq_append_getElem h1, h2, List.reverse_append]; rfl
abbrev bbLoc (r : Rl) (vt : Vt) (k kc : Nat) (md : Md) (l j : Nat) (best : Int) : List (Str × AV) :=
  [("best_committees", .hnd j), ("best_score", fr r.G best), ("part_coms", .hnd (l + 1)), ("marginal_scorefct", r.msf), ("scorefct_id", .str r.nm), ("profile", .prof k (vtL vt)), ("committeesize", .int (kc : Int)), ("resolute", .bool md.res), ("max_num_of_committees", md.mx)]
abbrev bbMk (r : Rl) (vt : Vt) (k kc : Nat) (md : Md) (μ : List Cell) (p : Bst × List Cell × Nat) : St := ⟨bbLoc r vt k kc md μ.length p.2.2 p.1.2.1, [], μ ++ p.2.1⟩
structure BbI (r : Rl) (vt : Vt) (k kc : Nat) (μ : List Cell) (p : Bst × List Cell × Nat) : Prop where
  inv : BInv r vt k kc p.1
  small : wt kc p.1.1 ≤ 1296
  far : μ.length ≤ p.2.2
  ne : p.2.2 ≠ μ.length + 1
  bs : (μ ++ p.2.1)[p.2.2]? = some (.lst (p.1.2.2.map (com false)))
  qu : (μ ++ p.2.1)[μ.length + 1]? = some (.lst (p.1.1.map (com false)))
theorem BInv.len {r : Rl} {vt : Vt} {p : Bst} (I : BInv r vt k kc p) (h6 : (combs k kc).length ≤ 6) : p.2.2.length ≤ 6 := by
  refine eEAA I.dn ?_; rintro D d1 d2 d3
  have h1 := congrArg List.length d1
  rw [List.length_reverse, List.length_append] at h1
  rw [d3]
  have := List.length_filter_le (fun c => sc r vt c == p.2.1) D
  lia
theorem coms_snocB {bb : Bool} {bs : List (List Nat)} {c : List Nat} : (bs.map (com bb)) ++ [com bb c] = (bs ++ [c]).map (com bb) := by rw [List.map_append]; rfl
theorem frL_inb {G m : Nat} : ∀ {l : List Int}, AV.inbs m (frL G l) = true
  | [] => rfl
  | x :: l => by
    show AV.inbs m (fr G x :: frL G l) = true
    unfold AV.inbs; rw [frL_inb]; rfl
end
section
variable {w : World} {n m : Nat} {env : Env} {σ σ0 σ1 σ2 σ3 : St} {pos : Pos} {a b c : AV} {μ μ' ν : List Cell} {k kc : Nat} {vt : Vt}
theorem bb_mem0 {c d : Cell} : μ ++ [c, d] = (μ ++ [c]) ++ [d] := by simp
theorem f_bb (r : Rl) (md : Md) (hmd : ∀ m, md = .top m → 1 ≤ m) (h0 : 0 < kc) (hk : kc ≤ k) (h4 : k ≤ 4) (hv : ∀ v ∈ vt, v.1 ∈ S16 ∧ (∀ x ∈ v.1, x < k) ∧ 0 ≤ v.2) :
    FC w (n + 16) (.val (.ref 457)) [] [("scorefct_id", .str r.nm), ("profile", .prof k (vtL vt)), ("committeesize", .int (kc : Int)), ("resolute", .bool md.res), ("max_num_of_committees", md.mx)] μ (.tup [.lst (setsL (md.cut (wins r vt k kc))), .any]) μ := by
  have hG := r.G_pos
  have hG' := r.G_le
  have hk' := in4 (by lia) h4
  have hkc' := in4 h0 (show kc ≤ 4 by lia)
  have hv2 : ∀ v ∈ vt, v.1 ∈ S16 ∧ 0 ≤ v.2 := fun v h => ⟨(hv v h).1, (hv v h).2.2⟩
  refine eAAA (combs_ok k hk' kc hkc' hk) ?_; rintro c6 cne call cpw
  refine eAA (seqC_ok (r := r) (vt := vt) (k := k) (fun v h => (hv v h).2.2) kc hk) ?_; rintro s1 s2 s3
  have hp := toSet_len (fun y hy => Nat.lt_of_lt_of_le (s1 y hy) h4) s2
  have hz16 : toSet (seqC r vt k kc) ∈ S16 := toSet_mem fun y hy => Nat.lt_of_lt_of_le (s1 y hy) h4
  have hzc : toSet (seqC r vt k kc) ∈ combs k kc := combs_all k hk' kc hkc' hk _ hz16 (by rw [hp.length_eq, s3]) (List.all_eq_true.mpr fun y hy => decide_eq_true (s1 y (hp.mem_iff.mp hy)))
  obtain ⟨l1, l2⟩ := lv_all k hk' kc hkc' hk
  have I0 : BInv r vt k kc ([[]], sc r vt (toSet (seqC r vt k kc)), []) := by
    refine ⟨fun c hc => by rw [List.mem_singleton.mp hc]; exact l2, ⟨_, hzc, rfl⟩, fun c hc => (by cases hc), [], ?_, fun c hc => (by cases hc), rfl⟩
    rw [← l1, List.flatMap_cons]
    show _ = (lv k kc (kc - 0) []).reverse ++ []
    rw [List.append_nil]; rfl
  refine fc_def (fun σ' v => (∃ ν, σ'.mem = μ ++ ν) ∧ v = .tup [.lst (setsL (md.cut (wins r vt k kc))), .any]) ⟨_, _, _, by k_is⟩ (by k_is) rfl rfl (hbD rfl (by k_is) fun hb ρ us kvs hv hk => ?_) (bl := [("scorefct_id", .str r.nm), ("profile", .prof k (vtL vt)), ("committeesize", .int (kc : Int)), ("resolute", .bool md.res), ("max_num_of_committees", md.mx)]) (by rfl) (by rfl) (fun L => ?_) (fun σ' v h => ?_) (Nat.le_refl _) (fun h => h)
  · cases hv
    obtain ⟨_, _, _, _, _, rfl, g1, g2, g3, g4, g5⟩ := hk.inv5
    exact ⟨_, _, by rfl, by rfl, .cons g1 (.cons g2 (.cons g3 (.cons g4 (.cons g5 .nil))))⟩
  · refine sxC (ss_assign (se_call (se_glob g_getm) (kept_ref (by k_is)) (scN (seL rfl) (scN (seL rfl) snN)) (f_getm r).fn)) ?_
    refine sxC (ss_assign (se_listC snN (by decide) rfl)) ?_
    refine sxC (ss_unpack (se_call (se_glob g_seq) (kept_ref (by k_is)) (scN (seL rfl) (scN (seL rfl) (scN (seL rfl) snN))) (f_seq (n := n + 1) r h4 h0 hk hv).fn) (tgt_tuple (tgts_cons tgt_local (tgts_cons tgt_local tgts_nil)))) ?_
    refine sxC (ss_assign (se_itemL (j := 0) (l := setsL [toSet (seqC r vt k kc)]) (x := .set (toSet (seqC r vt k kc))) (seL rfl) se_int rfl rfl (by lia))) ?_
    refine sxC (ss_assign (se_call (se_glob g_score) (kept_ref (by k_is)) (scN (seL rfl) (scN (seL rfl) (scN (seL rfl) snN))) (f_score r (argOk_set hz16) rfl).fn)) ?_
    refine sxx_consW (σ2 := bbMk r vt k kc md μ (([[]], sc r vt (toSet (seqC r vt k kc)), []), [.lst [], .lst [com false []]], μ.length)) (ss_assign (hnd_eqv (se_listC (scN (se_list snN (by simp)) snN) (by simp) rfl) len1)) (St.le_of ⟨rfl, rfl, rfl, rfl, rfl, rfl, rfl, rfl, rfl, trivial⟩ trivial bb_mem0) ?_
    refine sxx_then (P' := fun σ' af => af = .next ∧ ∃ best bs ν j, BbI r vt k kc μ (([], best, bs), ν, j) ∧ σ' = bbMk r vt k kc md μ (([], best, bs), ν, j)) (ssx_while (α := Bst × List Cell × Nat) (mk := bbMk r vt k kc md μ) (Inv := BbI r vt k kc μ) (meas := fun p => wt kc p.1.1) (([[]], sc r vt (toSet (seqC r vt k kc)), []), [.lst [], .lst [com false []]], μ.length) ?_ ⟨fun _ _ e => e, fun _ _ e => e, rfl⟩ fun p hp => ?_) fun σ' af h => ⟨h.1, ?_⟩
    · refine ⟨I0, ?_, Nat.le_refl _, Nat.ne_of_lt (Nat.lt_succ_self _), getA (i := 0), getA (i := 1)⟩
      have hpw : 6 ^ kc ≤ 6 ^ 4 := Nat.pow_le_pow_right (by decide) (by lia)
      show 6 ^ kc + 0 ≤ 1296
      have : 6 ^ 4 = 1296 := rfl
      lia
    · obtain ⟨⟨q, best, bs⟩, ν, j⟩ := p
      have hbs : (μ ++ ν)[j]? = some (.lst (bs.map (com false))) := hp.bs
      have hqu : (μ ++ ν)[μ.length + 1]? = some (.lst (q.map (com false))) := hp.qu
      have hfar : μ.length ≤ j := hp.far
      have hjne : j ≠ μ.length + 1 := hp.ne
      have hsm : wt kc q ≤ 1296 := hp.small
      have hql := wt_len (kc := kc) (q := q)
      refine ⟨!(q.map (com false)).isEmpty, _, sb_plain (seL rfl) (t_list (listOf_at hqu) (by rw [List.length_map]; lia)), fun hb => ?_, fun hb => ?_⟩
      rotate_left
      · cases q with
        | nil => exact ⟨best, bs, ν, j, hp, rfl⟩
        | cons c q => simp at hb
      · cases q with
        | nil => simp at hb
        | cons c q =>
        obtain ⟨hI, hwt⟩ := bb_inv hk' hkc' hk hv2 hp.inv
        have hcv : c ∈ vals k kc := hp.inv.val c (List.mem_cons_self ..)
        refine eAAAAA (vals_ok k hk' kc hkc' hk c hcv) ?_; rintro v1 v2 v3 v4 v5 v6
        have hc4 : ∀ y ∈ c, y < 4 := fun y hy => by have := v1 y hy; lia
        have fin : ∀ (p' : Bst) (ν' : List Cell) (j' : Nat) (σ' : St), bbStep r vt k kc (c :: q, best, bs) = p' → μ.length ≤ j' → j' ≠ μ.length + 1 → (μ ++ ν')[j']? = some (.lst (p'.2.2.map (com false))) → (μ ++ ν')[μ.length + 1]? = some (.lst (p'.1.map (com false))) → (bbMk r vt k kc md μ (p', ν', j')).le σ' →
            (AF.next = AF.next ∧ ∃ p'', BbI r vt k kc μ p'' ∧ wt kc p''.1.1 < wt kc (c :: q) ∧ (bbMk r vt k kc md μ p'').le σ') := fun p' ν' j' σ' e h1 h2 h3 h4 h5 => by
          subst e
          exact ⟨rfl, (bbStep r vt k kc (c :: q, best, bs), ν', j'), ⟨hI, Nat.le_of_lt (Nat.lt_of_lt_of_le hwt hsm), h1, h2, h3, h4⟩, hwt, h5⟩
        have hlb : bs.length ≤ 6 := hp.inv.len c6
        generalize hν1 : ν.set 1 (.lst (q.map (com false))) = ν1
        have hm1 : (μ ++ ν).set (μ.length + 1) (.lst (q.map (com false))) = μ ++ ν1 := by rw [setA, hν1]
        have hqu1 : (μ ++ ν1)[μ.length + 1]? = some (.lst (q.map (com false))) := by rw [← hm1]; exact List.getElem?_set_self (List.getElem?_eq_some_iff.mp hqu).1
        have hbs1 : (μ ++ ν1)[j]? = some (.lst (bs.map (com false))) := by rw [← hm1, List.getElem?_set_ne (Ne.symm hjne)]; exact hbs
        have hqlen : q.length ≤ 1296 := by simp at hql; lia
        refine sxx_consW (σ2 := ⟨("part_com", com false c) :: bbLoc r vt k kc md μ.length j best, [], μ ++ ν1⟩) (ss_assign (se_mcall (seL rfl) (o_pop (listOf_at hqu)) kept_builtin (scN se_int snN) sks_nil (fn_pop0 (x := com false c) (l := q.map (com false)) hqu (by rw [List.length_map]; lia)))) (St.le_of ⟨rfl, rfl, rfl, rfl, rfl, rfl, rfl, rfl, rfl, rfl, trivial⟩ trivial hm1.symm) ?_
        by_cases hl : c.length = kc
        · refine sxx_ifTe (sb_cmp (se_call (se_builtin b_len (by rfl) (by decide)) kept_builtin (scN (seL rfl) snN) (fn_len_list (l := natL c) rfl (by rw [natL_length]; lia))) (seL rfl) o_eq) (by rw [natL_length, hl]; exact beq_self_eq_true _) ?_
          refine sxC (ss_assign (se_call (se_glob g_score) (kept_ref (by k_is)) (scN (seL rfl) (scN (seL rfl) (scN (seL rfl) snN))) (f_score r (argOk_com (b := false) hc4 v2) (AV.inb_of_pure com_pure)).fn)) ?_
          by_cases h1 : sc r vt (toSet c) = best
          · refine sxx_ifTe (sb_cmp (seL rfl) (seL rfl) (o_fr_eq hG)) (by rw [h1]; exact beq_self_eq_true best) ?_
            refine sxC (ss_expr (se_mcall (seL rfl) (o_append (listOf_at hbs1)) kept_builtin (scN (seL rfl) snN) sks_nil (fn_append hbs1 com_pure (by rw [List.length_map]; lia)))) ?_
            have hlt := (List.getElem?_eq_some_iff.mp hbs1).1
            refine sxx_nil (sxx_nil (sxx_nil (fin (q, best, bs ++ [c]) (ν1.set (j - μ.length) (.lst (bs.map (com false) ++ [com false c]))) j _ (by rw [bbStep_cons, if_pos hl, if_pos h1]) hfar hjne ?_ ?_ (St.le_of ⟨rfl, rfl, rfl, rfl, rfl, rfl, rfl, rfl, rfl, trivial⟩ trivial (set_far hfar).symm))))
            · rw [← set_far hfar, List.getElem?_set_self hlt, coms_snocB]
            · rw [← set_far hfar, List.getElem?_set_ne hjne]; exact hqu1
          · refine sxx_ifF (sb_cmpE (seL rfl) (seL rfl) (o_fr_eq hG) (by rw [beq_eq_false_iff_ne]; exact h1)) ?_
            by_cases h2 : best < sc r vt (toSet c)
            · refine sxx_ifTe (sb_cmp (seL rfl) (seL rfl) (o_fr_gt hG hG')) (decide_eq_true h2) ?_
              refine sxC (ss_assign (se_listC (scN (seL rfl) snN) (by simp) (by unfold AV.pures; rw [com_pure]; rfl))) ?_
              refine sxC (ss_assign (seL rfl)) ?_
              refine sxx_nil (sxx_nil (sxx_nil (sxx_nil (fin (q, sc r vt (toSet c), [c]) (ν1 ++ [.lst [com false c]]) (μ ++ ν1).length _ (by rw [bbStep_cons, if_pos hl, if_neg h1, if_pos h2]) (by simp) ?_ ?_ ?_ (St.le_of ⟨rfl, rfl, rfl, rfl, rfl, rfl, rfl, rfl, rfl, trivial⟩ trivial cell_app.symm)))))
              · exact Nat.ne_of_gt (List.getElem?_eq_some_iff.mp hqu1).1
              · rw [← cell_app, cell_last]; rfl
              · rw [← cell_app, List.getElem?_append_left (List.getElem?_eq_some_iff.mp hqu1).1]; exact hqu1
            · refine sxx_ifNe (sb_cmp (seL rfl) (seL rfl) (o_fr_gt hG hG')) (decide_eq_false h2) ?_
              exact sxx_nil (sxx_nil (sxx_nil (fin (q, best, bs) ν1 j _ (by rw [bbStep_cons, if_pos hl, if_neg h1, if_neg h2]) hfar hjne hbs1 hqu1 (St.le_r rfl))))
        · have hlt : c.length < kc := by lia
          refine sxx_ifF (sb_cmpE (se_call (se_builtin b_len (by rfl) (by decide)) kept_builtin (scN (seL rfl) snN) (fn_len_list (l := natL c) rfl (by rw [natL_length]; lia))) (seL rfl) o_eq (by rw [natL_length, beq_eq_false_iff_ne]; lia)) ?_
          refine sxx_join (σ2 := ⟨("largest_cand", .int ((lo c : Int) - 1)) :: ("part_com", com false c) :: bbLoc r vt k kc md μ.length j best, [], μ ++ ν1⟩) (ssx_if (sb_cmp (se_call (se_builtin b_len (by rfl) (by decide)) kept_builtin (scN (seL rfl) snN) (fn_len_list (l := natL c) rfl (by rw [natL_length]; lia))) se_int o_gt) (fun h => ?_) (fun h => ?_)) ?_
          · have hne : c ≠ [] := fun e => by rw [e] at h; simp [natL] at h
            obtain ⟨l, x, rfl⟩ : ∃ l x, c = l ++ [x] := ⟨_, _, (List.dropLast_concat_getLast hne).symm⟩
            refine sxC (ss_assign (SE.eqv (b := .int ((lo (l ++ [x]) : Int) - 1)) (se_itemLast (l := natL l) (x := .int (x : Int)) (seL rfl) (se_unary se_int o_neg) (by rw [natL_snoc]; rfl) (by rw [natL_length]; simp at v3; lia)) (by rw [lo_snoc]; congr 1; lia))) ?_
            exact sxx_nil ⟨rfl, St.le_r rfl⟩
          · have hne : c = [] := by
              cases c with
              | nil => rfl
              | cons x c => simp [natL] at h
            subst hne
            refine sxC (ss_assign (se_unary se_int o_neg)) ?_
            exact sxx_nil ⟨rfl, St.le_r rfl⟩
          · refine sxC (ss_assign (SE.eqv (b := .int ((kc - c.length : Nat) : Int)) (se_binop (seL rfl) (se_call (se_builtin b_len (by rfl) (by decide)) kept_builtin (scN (seL rfl) snN) (fn_len_list (l := natL c) rfl (by rw [natL_length]; lia))) o_sub) (by rw [natL_length]; congr 1; lia))) ?_
            refine sxC (ss_assign (se_call (se_glob g_marg) (kept_ref (by k_is)) (scN (seL rfl) (scN (seL rfl) (scN (seL rfl) snN))) (f_marg (n := n + 10) r h4 (fun v h => ⟨(hv v h).1, (hv v h).2.1⟩) ⟨v1, v2, by lia⟩ (cs := c) rfl).fn)) ?_
            have hdl : ((tab k (mgf r vt c)).drop (lo c)).length = k - lo c := by rw [List.length_drop, tab_length]
            have hsl : (srt ((tab k (mgf r vt c)).drop (lo c))).length = k - lo c := by rw [(srt_perm _).length_eq, hdl]
            have hp1 : pickA (frL r.G (tab k (mgf r vt c))) (some ((lo c : Int) - 1 + 1)) none = frL r.G ((tab k (mgf r vt c)).drop (lo c)) := by
              rw [show ((lo c : Int) - 1 + 1) = (lo c : Int) by lia, pick_from]
              unfold frL; rw [List.map_drop]
            have hp2 : pickA (frL r.G (srt ((tab k (mgf r vt c)).drop (lo c)))) (some (-((kc - c.length : Nat) : Int))) none = frL r.G ((srt ((tab k (mgf r vt c)).drop (lo c))).drop ((srt ((tab k (mgf r vt c)).drop (lo c))).length - (kc - c.length))) := by
              rw [pick_last (by lia), frL_len]
              unfold frL; rw [List.map_drop]
            have hst : ∀ μ : List Cell, FN w (n + 15) (.val (.ref 205)) [.lst (pickA (frL r.G (srt ((tab k (mgf r vt c)).drop (lo c)))) (some (-((kc - c.length : Nat) : Int))) none)] [] μ (fr r.G (topS (kc - c.length) ((tab k (mgf r vt c)).drop (lo c)))) μ := fun μ => by
              rw [hp2]
              exact (f_total (n := n + 10) hG hG' (fun q => by
                have := congrArg List.length q
                rw [List.length_drop, hsl] at this
                simp at this; lia) frL_inb).fn
            refine sxC (ss_assign (SE.eqv (b := fr r.G (ub r vt k kc c)) (se_binop (se_call (se_glob g_total) (kept_ref (by k_is)) (scN (se_sliceG (xs := frL r.G (srt ((tab k (mgf r vt c)).drop (lo c)))) (l := some (-((kc - c.length : Nat) : Int))) (u := none) (se_call (se_builtin b_sorted (by rfl) (by decide)) kept_builtin (scN (SE.eqv (b := .lst (frL r.G ((tab k (mgf r vt c)).drop (lo c)))) (se_slice (xs := frL r.G (tab k (mgf r vt c))) (l := some ((lo c : Int) - 1 + 1)) (u := none) (seL rfl) (sp_some (se_binop (seL rfl) se_int o_add)) sp_none rfl (by rw [frL_len, tab_length]; lia)) (by rw [hp1])) snN) (fn_sorted_frac (n := n + 11) hG hG' (by rw [hdl]; lia) rfl (srt_perm _) (srt_ord _))) (sp_some (se_unary (seL rfl) o_neg)) sp_none rfl (by rw [frL_len, hsl]; lia)) snN) (hst _)) (se_call (se_glob g_score) (kept_ref (by k_is)) (scN (seL rfl) (scN (seL rfl) (scN (seL rfl) snN))) (f_score (n := n + 10) r (argOk_com (b := false) hc4 v2) (AV.inb_of_pure com_pure)).fn) (o_fr_add (n := n + 12) hG hG')) (by rw [v4]; rfl))) ?_
            by_cases h1 : best ≤ ub r vt k kc c
            · refine sxx_ifTe (sb_cmp (seL rfl) (seL rfl) (o_fr_ge (n := n + 14) hG hG')) (decide_eq_true h1) ?_
              refine sxx_then (ssx_for (α := List Cell) (C := fun _ => True) (xs := rngL ((lo c : Nat) : Int) ((k - (kc - c.length) + 1 : Nat) : Int)) (mk := fun i ν' => ⟨("part_com", com false c) :: bbLoc r vt k kc md μ.length j best, [], μ ++ ν'⟩) (Inv := fun i ν' => (μ ++ ν')[j]? = some (.lst (bs.map (com false))) ∧ (μ ++ ν')[μ.length + 1]? = some (.lst ((((kids k kc c).take i).reverse ++ q).map (com false))))
                (se_call (se_builtin b_range (by rfl) (by decide)) kept_type (scN (SE.eqv (b := .int ((lo c : Nat) : Int)) (se_binop (seL rfl) se_int o_add) (by congr 1; lia)) (scN (SE.eqv (b := .int ((k - (kc - c.length) + 1 : Nat) : Int)) (se_binop (se_binop (se_attr (seL rfl) (o_numcand (n := n + 13) (by lia))) (seL rfl) o_sub) se_int o_add) (by congr 1; lia)) snN)) fn_range2) (iter_range (by lia) (by lia) fun _ _ => rfl) ν1 ⟨hbs1, hqu1⟩ (St.le_r rfl) (fun _ _ _ => trivial) fun i ν' y hy hi => ⟨_, tgt_local, ?_⟩) fun σ' af h => ⟨h.1, ?_⟩
              · obtain ⟨i1, i2⟩ := hi
                rw [rng_nat] at hy
                refine eEA (natL_get hy) ?_; rintro o ho rfl
                rw [List.getElem?_map] at ho
                obtain ⟨hi1, rfl⟩ : i < k - (kc - c.length) + 1 - lo c ∧ lo c + i = o := by
                  cases hr : (List.range (k - (kc - c.length) + 1 - lo c))[i]? with
                  | none => rw [hr] at ho; cases ho
                  | some z =>
                    rw [hr] at ho
                    obtain ⟨z1, z2⟩ := List.getElem?_eq_some_iff.mp hr
                    rw [List.getElem_range] at z2
                    rw [List.length_range] at z1
                    cases ho
                    exact ⟨z1, by rw [z2]⟩
                have hlk : (((kids k kc c).take i).reverse ++ q).length ≤ 2000 := by
                  rw [List.length_append, List.length_reverse]
                  have := (List.take_sublist i (kids k kc c)).length_le
                  unfold kids at this ⊢
                  rw [List.length_map, List.length_range] at this
                  lia
                have hlt2 := (List.getElem?_eq_some_iff.mp i2).1
                refine sxC (ss_expr (se_mcall (seL rfl) (o_insert (listOf_at i2)) kept_builtin (scN se_int (scN (SE.eqv (b := com false (c ++ [lo c + i])) (se_binop (seL rfl) (se_list (scN (seL rfl) snN) (by simp)) (o_concat (l := natL c) (m := [.int ((lo c + i : Nat) : Int)]) rfl rfl (by rw [natL_length]; simp; lia))) (by rw [natL_snoc]; rfl)) snN)) sks_nil (fn_insert0 i2 com_pure (by rw [List.length_map]; lia)))) ?_
                refine sxx_nil ⟨rfl, ν'.set 1 (.lst (com false (c ++ [lo c + i]) :: (((kids k kc c).take i).reverse ++ q).map (com false))), ⟨?_, ?_⟩, St.le_of ⟨rfl, rfl, rfl, rfl, rfl, rfl, rfl, rfl, rfl, rfl, trivial⟩ trivial setA.symm⟩
                · rw [← setA, List.getElem?_set_ne (Ne.symm hjne)]; exact i1
                · rw [← setA, List.getElem?_set_self hlt2, kids_take hi1]; rfl
              · refine eAEA h ?_; clear h; rintro rfl ν' ⟨i1, i2⟩ rfl
                have hall : (kids k kc c).take (rngL ((lo c : Nat) : Int) ((k - (kc - c.length) + 1 : Nat) : Int)).length = kids k kc c := List.take_of_length_le (by
                  rw [rng_nat, natL_length]; unfold kids; rw [List.length_map, List.length_range, List.length_map, List.length_range]; exact Nat.le_refl _)
                rw [hall] at i2
                exact sxx_nil (sxx_nil (sxx_nil (fin ((kids k kc c).reverse ++ q, best, bs) ν' j _ (by rw [bbStep_cons, if_neg hl, if_pos h1]) hfar hjne i1 i2 (St.le_r rfl))))
            · refine sxx_ifNe (sb_cmp (seL rfl) (seL rfl) (o_fr_ge (n := n + 14) hG hG')) (decide_eq_false h1) ?_
              exact sxx_nil (sxx_nil (fin (q, best, bs) ν1 j _ (by rw [bbStep_cons, if_neg hl, if_neg h1]) hfar hjne hbs1 hqu1 (St.le_r rfl)))
    · refine eAEEEEA h ?_; clear h; rintro rfl best B ν j hp rfl
      have hcell : (μ ++ ν)[j]? = some (.lst (B.map (com false))) := hp.bs
      have hB6 : B.length ≤ 6 := hp.inv.len c6
      have hw : B.reverse = wins r vt k kc := bb_end hp.inv
      have hsub : (wins r vt k kc).Sublist (combs k kc) := List.filter_sublist
      have hin : ∀ c ∈ B, c ∈ combs k kc := fun c hc => hsub.subset (by rw [← hw]; exact List.mem_reverse.mpr hc)
      have hne : wins r vt k kc ≠ [] := by
        refine eEA (List.mem_map.mp (mx_mem (l := (combs k kc).map (sc r vt)) (by simpa using cne))) ?_; rintro c hc1 hc2
        exact List.ne_nil_of_mem (List.mem_filter.mpr ⟨hc1, by rw [hc2]; exact beq_self_eq_true _⟩)
      have hBs : (B.reverse).map toSet = wins r vt k kc := by
        rw [hw]
        conv => rhs; rw [← List.map_id (wins r vt k kc)]
        exact List.map_congr_left fun c hc => (call c (hsub.subset hc)).2.2.2
      have hs := f_sortc_desc (w := w) (n := n + 2) (μ := μ ++ ν) (bb := false) (css := B) (a := .hnd j) (listOf_at hcell) (fun c hc => ⟨fun y hy => by have := (call c (hin c hc)).2.1 y hy; lia, (call c (hin c hc)).2.2.1⟩) hB6 (by
        have h1 := cpw.sublist (hsub.map fun c => setText (toSet c))
        rw [← hw, List.map_reverse, List.pairwise_reverse] at h1
        exact h1)
      rw [hBs] at hs
      have hw6 : (wins r vt k kc).length ≤ 6 := by have := hsub.length_le; lia
      generalize hW : wins r vt k kc = W at hs hne hw6
      refine sxx_consW (σ2 := ⟨[("committees", .lst (setsL W)), ("resolute", .bool md.res), ("max_num_of_committees", md.mx)], [], μ ++ ν⟩) (ss_assign (se_call (se_glob g_sortc) (kept_ref (by k_is)) (scN (seL rfl) snN) hs.fn)) (St.le_r rfl) ?_
      cases md with
      | all =>
        refine sxx_ifN (sb_cmp (seL rfl) se_none o_isnot_nn) ?_
        refine sxx_ifNe (sb_plain (seL rfl) t_bool) rfl ?_
        refine sxC (ss_assign se_dict0) ?_
        exact sxx_stop (ss_return (se_tuple (scN (seL rfl) (scN (seL rfl) snN)) (by simp))) ⟨_, rfl, ⟨ν, rfl⟩, rfl⟩
      | one =>
        refine sxx_ifN (sb_cmp (seL rfl) se_none o_isnot_nn) ?_
        refine sxx_ifTe (sb_plain (seL rfl) t_bool) rfl ?_
        refine eEE (List.exists_cons_of_ne_nil hne) ?_; rintro c W' rfl
        refine sxC (ss_assign (se_list (scN (se_itemL (j := 0) (l := setsL (c :: W')) (x := .set c) (seL rfl) se_int rfl rfl (by lia)) snN) (by simp))) ?_
        refine sxx_nil ?_
        refine sxC (ss_assign se_dict0) ?_
        exact sxx_stop (ss_return (se_tuple (scN (seL rfl) (scN (seL rfl) snN)) (by simp))) ⟨_, rfl, ⟨ν, rfl⟩, rfl⟩
      | top m =>
        have hm := hmd m rfl
        refine sxx_ifT (sb_cmp (seL rfl) se_none o_isnot_in) ?_
        refine sxC (ss_assign (se_slice (l := Option.none) (u := some (m : Int)) (seL rfl) sp_none (sp_some (seL rfl)) rfl (by unfold setsL; rw [List.length_map]; lia))) ?_
        refine sxx_nil ?_
        refine sxx_ifNe (sb_plain (seL rfl) t_bool) rfl ?_
        refine sxC (ss_assign se_dict0) ?_
        refine sxx_stop (ss_return (se_tuple (scN (seL rfl) (scN (seL rfl) snN)) (by simp))) ⟨_, rfl, ⟨ν, rfl⟩, ?_⟩
        rw [pick_take]
        show AV.tup [.lst ((setsL W).take m), .any] = AV.tup [.lst (setsL (W.take m)), .any]
        unfold setsL; rw [List.map_take]
  · obtain ⟨⟨ν, h1⟩, rfl⟩ := h
    rw [h1]
    exact ⟨closes_drop (by simp [AV.inb, AV.inbs, sets_inb]), by simp⟩
end
section
variable {w : World} {n m : Nat} {env : Env} {σ σ0 σ1 σ2 σ3 : St} {pos : Pos} {a b c : AV} {μ μ' ν : List Cell} {k kc : Nat} {vt : Vt} {S : List Nat} {wt : Int}
theorem inst_hnd {i d : Nat} {C : Addr} {fs : List (Str × AV)} (hi : μ[i]? = some (.ins C d)) (hd : μ[d]? = some (.dct fs)) : (AV.hnd i).inst μ = some (C, fo fs) := by
  simp only [AV.inst, hi, hd]
noncomputable def voterCells (μ : List Cell) (S : List Nat) (wt : Int) : List Cell := (μ ++ [.dct [("approved", .set S), ("weight", .int wt)]]) ++ [.ins 621 μ.length]
theorem v_init {kc : AV} (ha : ∀ μ, ArgOk w a μ S) (hkc : kc = .none ∨ ∃ k : Nat, kc = .int k ∧ ∀ z ∈ S, z < k) (hw : 0 < wt) {as : List AV} {ks : List (Str × AV)} (HB : ∀ fd, FDK w 603 fd → HBind w fd as ks [("self", .hnd (μ.length + 1)), ("approved", a), ("weight", .int wt), ("num_cand", kc)]) :
    FC w (n + 7) (.val (.ref 603)) as ks ((μ ++ [.dct []]) ++ [.ins 621 μ.length]) .none (voterCells μ S wt) := by
  refine fc_def (fun σ' r => σ'.mem = voterCells μ S wt ∧ r = .none) ⟨_, _, _, by k_is⟩ (by k_is) rfl rfl (HB _ ⟨_, _, _, by k_is⟩) (by rfl) (by rfl) (fun L => ?_) (fun σ' r h => ?_) (by simp [voterCells]) ?_
  rotate_left
  · rw [h.1, h.2]; exact ⟨closes_same rfl, Nat.le_refl _⟩
  · exact inb_mono_cells (by rfl)
  refine sxC (ss_setattr (se_callK (se_glob g_CandSet) (kept_ref (by k_is)) (scN (seL rfl) snN) (sks_cons (seL rfl) sks_nil) (f_candset (n := n) (ha _) (bl := []) (kc := kc) (fun fd hf => hb_of ⟨_, _, _, by k_is⟩ (hbD rfl (by k_is) fun hb ρ vs kvs hv hk => by
    refine eEA hv.inv1 ?_; rintro _ rfl h1; refine eEA hk.inv1 ?_; rintro _ rfl h2
    exact ⟨_, _, rfl, rfl, .cons h1 (.cons h2 .nil)⟩) hf) hkc).fn) (seL rfl) (o_set2 (Nat.le_of_ble_eq_true rfl) (by k_is) (by k_is) (by k_is) (by k_is))) ?_
  refine sxC (ss_setattr (seL rfl) (seL rfl) (o_set2 (Nat.le_of_ble_eq_true rfl) (by k_is) (by k_is) (by k_is) (by k_is))) ?_
  refine sxx_ifNe (sb_cmp (se_attr (seL rfl) (o_own (b := .int wt) (inst_hnd cget1 cget0) rfl (by k_is) (by k_is) (by k_is) (by k_is))) se_int o_le) (by rw [decide_eq_false_iff_not]; lia) ?_
  exact sxx_nil ⟨_, rfl, rfl, rfl⟩
theorem v_make {as : List AV} {ks : List (Str × AV)} (h : FC w n (.val (.ref 603)) (.hnd (μ.length + 1) :: as) ks ((μ ++ [.dct []]) ++ [.ins 621 μ.length]) .none (voterCells μ S wt)) :
    FC w (n + 1) (.val (.ref 621)) as ks μ (.voter S wt) μ :=
  fc_make (by k_is) (by k_is) (by k_is) h (by
    unfold voterCells
    rw [List.append_assoc]
    exact closes_voter (by lia) (Nat.le_refl _) (by simp) (by simp)) (Nat.le_refl _) (by simp [voterCells]) (fun h => h)
theorem v_new1 {ys : List Nat} (hy : ∀ y ∈ ys, y < 4) (hn : ys.Nodup) (hw : 0 < wt) : FC w (n + 8) (.val (.ref 621)) [.lst (natL ys)] [("weight", .int wt)] μ (.voter (toSet ys) wt) μ :=
  v_make (v_init (kc := .none) (fun _ => argOk_list hy hn) (.inl rfl) hw fun fd hf => hb_of ⟨_, _, _, by k_is⟩ (hbD rfl (by k_is) fun hb ρ vs kvs hv hk => by
    refine eEEAA hv.inv2 ?_; rintro _ _ rfl h1 h2; refine eEA hk.inv1 ?_; rintro _ rfl h3
    exact ⟨_, _, by rfl, by rfl, .cons h1 (.cons h2 (.cons h3 (.cons .none .nil)))⟩) hf)
theorem v_new2 (hS : S ∈ S16) (hk : ∀ z ∈ S, z < k) (hw : 0 < wt) : FC w (n + 8) (.val (.ref 621)) [.set S] [("weight", .int wt), ("num_cand", .int (k : Int))] μ (.voter S wt) μ :=
  v_make (v_init (kc := .int (k : Int)) (fun _ => argOk_set hS) (.inr ⟨k, rfl, hk⟩) hw fun fd hf => hb_of ⟨_, _, _, by k_is⟩ (hbD rfl (by k_is) fun hb ρ vs kvs hv hk => by
    refine eEEAA hv.inv2 ?_; rintro _ _ rfl h1 h2; refine eEEAA hk.inv2 ?_; rintro _ _ rfl h3 h4
    exact ⟨_, _, by rfl, by rfl, .cons h1 (.cons h2 (.cons h3 (.cons h4 .nil)))⟩) hf)
end
mutual
theorem AV.inb_mono {m n : Nat} (h : m ≤ n) : ∀ {x : AV}, x.inb m = true → x.inb n = true
  | .none, _ => rfl
  | .bool b, _ => rfl
  | .int i, _ => rfl
  | .str s, _ => rfl
  | .val v, _ => rfl
  | .any, _ => rfl
  | .rng a b, _ => rfl
  | .tup xs, e => by unfold AV.inb at e ⊢; exact AV.inbs_mono h e
  | .lst xs, e => by unfold AV.inb at e ⊢; exact AV.inbs_mono h e
  | .hnd k, e => by unfold AV.inb at e ⊢; exact decide_eq_true (Nat.lt_of_lt_of_le (of_decide_eq_true e) h)
  | .set hs, _ => rfl
  | .frac p q, _ => rfl
  | .msf nm p, e => by unfold AV.inb at e ⊢; exact AV.inb_mono h e
  | .voter S wt, _ => rfl
  | .prof k xs, e => by unfold AV.inb at e ⊢; exact AV.inbs_mono h e
  | .profm k d, e => by unfold AV.inb at e ⊢; exact decide_eq_true (Nat.lt_of_lt_of_le (of_decide_eq_true e) h)
theorem AV.inbs_mono {m n : Nat} (h : m ≤ n) : ∀ {xs : List AV}, AV.inbs m xs = true → AV.inbs n xs = true
  | [], _ => rfl
  | x :: xs, e => by
    unfold AV.inbs at e ⊢
    rw [Bool.and_eq_true] at e ⊢
    exact ⟨AV.inb_mono h e.1, AV.inbs_mono h e.2⟩
end
theorem Cell.inb_mono {m n : Nat} (h : m ≤ n) {c : Cell} (e : c.inb m = true) : c.inb n = true := by
  cases c with
  | lst xs => exact AV.inbs_mono h e
  | ins C d => exact decide_eq_true (Nat.lt_of_lt_of_le (of_decide_eq_true e) h)
  | dct fs => exact List.all_eq_true.mpr fun p hp => AV.inb_mono h (List.all_eq_true.mp e p hp)
section
variable {w : World} {n m : Nat} {env : Env} {σ σ0 σ1 σ2 σ3 : St} {pos : Pos} {a b c : AV} {μ μ' ν : List Cell} {k kc : Nat} {vt : Vt} {S : List Nat} {wt : Int}
theorem vt_inb {m : Nat} : ∀ {vt : Vt}, AV.inbs m (vtL vt) = true
  | [] => rfl
  | v :: l => by
    show AV.inbs m (AV.voter v.1 v.2 :: vtL l) = true
    unfold AV.inbs; rw [vt_inb]; rfl
theorem b_list : nsIn (Internal.hd.heap_1 w.params) mainGlobals "list" = some none := by k_is
theorem g_Voter : nsIn (Internal.hd.heap_1 w.params) mainGlobals "Voter" = some (some (.ref 621)) := by k_is
theorem g_Profile : nsIn (Internal.hd.heap_1 w.params) mainGlobals "Profile" = some (some (.ref 584)) := by k_is
noncomputable def profF (l k : Nat) : List (Str × AV) := [("candidates", .lst (natL (List.range k))), ("cand_names", .lst (strL ((List.range k).map dg))), ("_voters", .hnd l)]
noncomputable def profCells (μ : List Cell) (k : Nat) (vt : Vt) : List Cell := μ ++ [.dct (profF (μ.length + 2) k), .ins 584 μ.length, .lst (vtL vt)]
theorem prof0 : (profCells μ k vt)[μ.length]? = some (.dct (profF (μ.length + 2) k)) := getA (i := 0)
theorem prof1 : (profCells μ k vt)[μ.length + 1]? = some (.ins 584 μ.length) := getA
theorem prof2 : (profCells μ k vt)[μ.length + 2]? = some (.lst (vtL vt)) := getA
theorem prof_len : (profCells μ k vt).length = μ.length + 3 := by simp [profCells]
theorem prof_inb (h : ∀ c ∈ μ, c.inb (μ.length + 2) = true) : ∀ c ∈ profCells μ k vt, c.inb (profCells μ k vt).length = true := fun c hc => by
  rw [prof_len]
  unfold profCells at hc
  rcases List.mem_append.mp hc with q | q
  · exact Cell.inb_mono (by lia) (h c q)
  · have hs : (AV.lst (strL ((List.range k).map dg))).inb (μ.length + 3) = true := AV.inb_of_pure (by unfold AV.pure; exact pures_strs _)
    have hn : (AV.lst (natL (List.range k))).inb (μ.length + 3) = true := AV.inb_of_pure (by unfold AV.pure; exact pures_nats _)
    rcases List.mem_cons.mp q with rfl | q
    · show fbelow _ _ = true
      unfold fbelow profF
      simp only [List.all_cons, List.all_nil, hs, hn, Bool.true_and, Bool.and_true]
      exact decide_eq_true (by lia)
    · rcases List.mem_cons.mp q with rfl | q
      · exact decide_eq_true (by lia)
      · rw [List.mem_singleton.mp q]; exact vt_inb
theorem prof_set {c : Cell} : profCells μ k [] = (((μ ++ [c]) ++ [Cell.ins 584 μ.length]) ++ [Cell.lst []]).set μ.length (.dct (profF (μ.length + 2) k)) := by
  simp [profCells]; rfl
theorem p_init (h0 : 0 < k) (hk : k ≤ 1000) : FC w (n + 2) (.val (.ref 475)) [.hnd (μ.length + 1), .int (k : Int)] [] ((μ ++ [.dct []]) ++ [.ins 584 μ.length]) .none (profCells μ k []) := by
  refine fc_def (fun σ' r => σ'.mem = profCells μ k [] ∧ r = .none) ⟨_, _, _, by k_is⟩ (by k_is) rfl rfl (hbD rfl (by k_is) fun hb ρ us kvs hv hk => ?_) (bl := [("self", .hnd (μ.length + 1)), ("num_cand", .int (k : Int)), ("cand_names", .none)]) (by rfl) (by rfl) (fun L => ?_) (fun σ' r h => ?_) (by rw [prof_len]; simp) (fun h => prof_inb fun c hc => ?_)
  rotate_left 2
  · rw [h.1, h.2]; exact ⟨closes_same rfl, Nat.le_refl _⟩
  · have := h c (List.mem_append_left _ (List.mem_append_left _ hc))
    simpa using this
  · refine eEEAA hv.inv2 ?_; rintro _ _ rfl h1 h2; obtain rfl := hk.inv0
    exact ⟨_, _, by rfl, by rfl, .cons h1 (.cons h2 (.cons .none .nil))⟩
  refine sxx_ifNe (sb_cmp (seL rfl) se_int o_le) (by rw [decide_eq_false_iff_not]; lia) ?_
  refine sxC (ss_setattr (se_call (se_builtin b_list (by rfl) (by decide)) kept_type (scN (se_call (se_builtin b_range (by rfl) (by decide)) kept_type (scN (seL rfl) snN) fn_range1) snN) (fn_list_rng hk)) (seL rfl) (o_set2 (Nat.le_of_ble_eq_true rfl) (by k_is) (by k_is) (by k_is) (by k_is))) ?_
  refine sxC (ss_setattr (SE.eqv (b := .lst (strL ((List.range k).map dg))) (se_comp [] [] (fun _ => true) (fun y => .str (dg (toI y).toNat)) (se_call (se_builtin b_range (by rfl) (by decide)) kept_type (scN (seL rfl) snN) fn_range1) (iter_range (by lia) (by lia) fun _ _ => rfl) (fun _ => trivial) (by rw [rngL_nat, natL_length, List.length_range]; lia) (fun Ca i y hy acc => ?_) trivial trivial) ?_) (seL rfl) (o_set2 (Nat.le_of_ble_eq_true rfl) (by k_is) (by k_is) (by k_is) (by k_is))) ?_
  · rw [rngL_nat] at hy
    refine eEA (natL_get hy) ?_; rintro o ho rfl
    have hok : o < k := by have := List.mem_of_getElem? ho; simpa using this
    exact ⟨_, _, tgt_local, tst_nil, St.le_r rfl, fun _ => ⟨_, se_call (se_builtin b_str (by rfl) (by decide)) kept_type (scN (seL rfl) snN) (fn_str (by lia)), St.le_r rfl, rfl⟩⟩
  · rw [rngL_nat, List.filter_eq_self.mpr (fun _ _ => rfl)]
    unfold natL strL
    rw [List.map_map, List.map_map]; rfl
  refine sxx_consW (σ2 := ⟨[], [("cand_names", .none)], profCells μ k []⟩) (ss_setattr (hnd_eqv (se_listC snN (by decide) rfl) len2) (seL rfl) (o_set (i := μ.length + 1) (d := μ.length) (by simp; rfl) (by simp; rfl) (Nat.le_of_ble_eq_true rfl) (by k_is) (by k_is) (by k_is) (by k_is))) (St.le_of trivial ⟨rfl, trivial⟩ ?_) ?_
  · exact prof_set
  refine sxx_ifNe (sb_plain (se_cell rfl) t_none) rfl ?_
  exact sxx_nil ⟨_, rfl, rfl, rfl⟩
theorem p_new (h0 : 0 < k) (hk : k ≤ 1000) : FC w (n + 3) (.val (.ref 584)) [.int (k : Int)] [] μ (.hnd (μ.length + 1)) (profCells μ k []) :=
  fc_make (by k_is) (by k_is) (by k_is) (p_init h0 hk) (closes_same (by rw [prof_len]; exact decide_eq_true (by lia))) (by rw [prof_len]; lia) (Nat.le_refl _) fun h => prof_inb fun c hc => Cell.inb_mono (by lia) (h c hc)
variable {fs : List (Str × Option AV)}
theorem f_numcandG (e : a.inst μ = some (584, fs)) (h : List.lookup ("candidates" : Str) fs = some (some (AV.lst (natL (List.range k))))) (hz : k ≤ 1000) : FC w (n + 1) (.val (.ref 482)) [a] [] μ (.int k) μ := by
  refine fc_plain ⟨_, _, _, by k_is⟩ (by k_is) rfl rfl (hb1_ fun _ => by rfl) (by rfl) (by rfl) (fun L => ?_)
  have hl : (natL (List.range k)).length = k := by rw [natL_length, List.length_range]
  refine sxx_stop (ss_return (se_call (se_builtin b_len (by rfl) (by decide)) kept_builtin (scN (se_attr (seL rfl) (o_own e h (by k_is) (by k_is) (by k_is) (by k_is))) snN) (fn_len_list rfl (by rw [hl]; lia)))) ⟨?_, rfl⟩
  show AV.int _ = AV.int _
  rw [hl]
theorem o_numcandG (e : a.inst μ = some (584, fs)) (h : List.lookup ("candidates" : Str) fs = some (some (AV.lst (natL (List.range k))))) (hz : k ≤ 1000) : O1 w (n + 2) (fun v => getAttr v "num_cand" true) a μ (fun hb ρ v => VRel w hb ρ (.int k) v) μ := o_prop e (by k_is) (by k_is) (by k_is) (by k_is) (by k_is) (by k_is) (f_numcandG e h hz) rfl
theorem f_unique (e : a.inst μ = some (584, fs)) (h : List.lookup ("candidates" : Str) fs = some (some (AV.lst (natL (List.range k))))) (hz : k ≤ 1000) (hS : S ∈ S16) (hk : ∀ z ∈ S, z < k) (hw : 0 < wt) : FC w (n + 9) (.val (.ref 504)) [a, .voter S wt] [] μ (.voter S wt) μ := by
  refine fc_plain ⟨_, _, _, by k_is⟩ (by k_is) rfl rfl (hb2_ fun _ _ => by rfl) (by rfl) (by rfl) (fun L => ?_)
  refine sxx_ifT (sb_isi (seL rfl) (se_glob g_Voter) isi_voter) ?_
  refine sxC (ss_assign (se_callK (se_glob g_Voter) (kept_ref (by k_is)) (scN (se_attr (seL rfl) o_approved) snN) (sks_cons (se_attr (seL rfl) o_weight) (sks_cons (se_attr (seL rfl) (o_numcandG (n := n + 6) e h hz)) sks_nil)) (v_new2 hS hk hw).fn)) ?_
  refine sxx_nil ?_
  exact sxx_stop (ss_return (seL rfl)) ⟨rfl, rfl⟩
theorem f_addv {j : Nat} (e : a.inst μ = some (584, fs)) (h : List.lookup ("candidates" : Str) fs = some (some (AV.lst (natL (List.range k))))) (hv : List.lookup ("_voters" : Str) fs = some (some (AV.hnd j))) (hu : List.lookup ("_unique_voter" : Str) fs = none) (hj : μ[j]? = some (.lst (vtL vt))) (hl : vt.length ≤ 100) (hz : k ≤ 1000) (hS : S ∈ S16) (hk : ∀ z ∈ S, z < k) (hw : 0 < wt) :
    FC w (n + 10) (.val (.ref 511)) [a, .voter S wt] [] μ .none (μ.set j (.lst (vtL (vt ++ [(S, wt)])))) := by
  refine fc_def (fun σ' r => σ'.mem = μ.set j (.lst (vtL (vt ++ [(S, wt)]))) ∧ r = .none) ⟨_, _, _, by k_is⟩ (by k_is) rfl rfl (hb2_ fun _ _ => by rfl) (by rfl) (by rfl) (fun L => ?_) (fun σ' r h => ?_) (by simp) fun hb c hc => ?_
  · refine sxx_consW (σ2 := ⟨[], [], μ.set j (.lst (vtL (vt ++ [(S, wt)])))⟩) (ss_expr (se_mcall (se_attr (seL rfl) (o_own e hv (by k_is) (by k_is) (by k_is) (by k_is))) (o_append (listOf_at hj)) kept_builtin (scN (se_mcall (seL rfl) (o_meth e hu (by k_is) (by k_is) (by k_is)) (kept_ref (by k_is)) (scN (seL rfl) snN) sks_nil (f_unique (n := n) e h hz hS hk hw).fn) snN) sks_nil (fn_append hj rfl (by rw [vtL_length]; lia)))) (St.le_of trivial trivial (by unfold vtL; rw [List.map_append]; rfl)) ?_
    exact sxx_nil ⟨_, rfl, rfl, rfl⟩
  · rw [h.1, h.2]; exact ⟨closes_same rfl, Nat.le_refl _⟩
  · rw [List.length_set]
    rcases List.mem_or_eq_of_mem_set hc with q | rfl
    · exact hb c q
    · exact vt_inb
theorem prof_set2 {vt' : Vt} : (profCells μ k vt).set (μ.length + 2) (.lst (vtL vt')) = profCells μ k vt' := setA
theorem made_step {rows : List (List Nat × Int)} {i : Nat} {v : List Nat × Int} (h : rows[i]? = some v) : (rows.take (i + 1)).map (fun v => (toSet v.1, v.2)) = (rows.take i).map (fun v => (toSet v.1, v.2)) ++ [(toSet v.1, v.2)] := by
  obtain ⟨h1, rfl⟩ := List.getElem?_eq_some_iff.mp h
  rw [List.take_succ_eq_append_getElem h1, List.map_append]; rfl
noncomputable def rowV (v : List Nat × Int) : AV := .tup [.lst (natL v.1), .int v.2]
theorem g_made : nsIn (Internal.hd.heap_1 w.params) mainGlobals "_law_made" = some (some (.ref 637)) := by k_is
theorem f_made (h0 : 0 < k) (h4 : k ≤ 4) {rows : List (List Nat × Int)} (e : listOfAV μ a = some (rows.map rowV)) (hl : rows.length ≤ 100) (hr : ∀ v ∈ rows, (∀ y ∈ v.1, y < k) ∧ v.1.Nodup ∧ 0 < v.2) :
    FC w (n + 11) (.val (.ref 637)) [.int (k : Int), a] [] μ (.prof k (vtL (rows.map fun v => (toSet v.1, v.2)))) μ := by
  refine fc_def (fun σ' r => σ'.mem = profCells μ k (rows.map fun v => (toSet v.1, v.2)) ∧ r = .hnd (μ.length + 1)) ⟨_, _, _, by k_is⟩ (by k_is) rfl rfl (hb2_ fun _ _ => by rfl) (by rfl) (by rfl) (fun L => ?_) (fun σ' r h => ?_) (Nat.le_refl _) (fun h => h)
  · refine sxC (ss_assign (se_call (se_glob g_Profile) (kept_ref (by k_is)) (scN (seL rfl) snN) (p_new (n := n + 7) h0 (by lia)).fn)) ?_
    refine sxx_then (ssx_for (α := Unit) (C := fun μ' => listOfAV μ' a = some (rows.map rowV)) (xs := rows.map rowV) (mk := fun i _ => ⟨[("made", .hnd (μ.length + 1)), ("rows", a)], [], profCells μ k ((rows.take i).map fun v => (toSet v.1, v.2))⟩) (Inv := fun _ _ => True) (seL rfl)
      (iter_list (listOf_more e) (.inr ⟨⟨_, _, _, rfl⟩, fun x hx => eEA (List.mem_map.mp hx) fun v _ q => ⟨_, q.symm⟩⟩)) () trivial (St.le_r rfl) (fun _ _ _ => listOf_more e) fun i _ y hy _ => ?_) fun σ' af h => ⟨h.1, ?_⟩
    · rw [List.getElem?_map] at hy
      cases hq : rows[i]? with
      | none => rw [hq] at hy; cases hy
      | some v =>
        rw [hq] at hy; cases hy
        refine eAA (hr v (List.mem_of_getElem? hq)) ?_; rintro r1 r2 r3
        have r4 : ∀ y ∈ v.1, y < 4 := fun y hy => Nat.lt_of_lt_of_le (r1 y hy) h4
        have hts := toSet_len r4 r2
        refine ⟨_, tgt_tuple (tgts_cons tgt_local (tgts_cons tgt_local tgts_nil)), ?_⟩
        refine sxx_consW (σ2 := ⟨[("made", .hnd (μ.length + 1)), ("rows", a)], [], profCells μ k ((rows.take (i + 1)).map fun v => (toSet v.1, v.2))⟩) (ss_expr (se_mcall (seL rfl) (o_meth (f := 511) (inst_hnd prof1 prof0) rfl (by k_is) (by k_is) (by k_is)) (kept_ref (by k_is)) (scN (se_callK (se_glob g_Voter) (kept_ref (by k_is)) (scN (seL rfl) snN) (sks_cons (seL rfl) sks_nil) (v_new1 (n := n + 2) r4 r2 r3).fn) snN) sks_nil
          (f_addv (n := n) (k := k) (inst_hnd prof1 prof0) rfl rfl rfl prof2 (by rw [List.length_map, List.length_take]; lia) (by lia) (toSet_mem r4) (fun z hz => r1 z (hts.mem_iff.mp hz)) r3).fn)) (St.le_of ⟨rfl, rfl, trivial⟩ trivial ?_) ?_
        · rw [made_step hq]; exact prof_set2.symm
        · exact sxx_nil ⟨rfl, (), trivial, St.le_r rfl⟩
    · refine eAEA h ?_; clear h; rintro rfl _ _ rfl
      rw [List.length_map, List.take_length]
      exact sxx_stop (ss_return (seL rfl)) ⟨_, rfl, rfl, rfl⟩
  · obtain ⟨h1, rfl⟩ := h
    rw [h1]
    exact ⟨closes_prof (i := μ.length + 1) (d := μ.length) (j := μ.length + 2) (by lia) (Nat.le_refl _) (by lia) prof1 prof0 prof2, by rw [prof_len]; lia⟩
end
section
variable {w : World} {n m : Nat} {env : Env} {σ σ0 σ1 σ2 σ3 : St} {pos : Pos} {a b c : AV} {μ μ' ν : List Cell} {k kc : Nat} {vt : Vt} {S : List Nat} {wt : Int} {fs : List (Str × Option AV)} {C : Addr}
theorem o_cls {nm : Str} {v : Value} (e : a.inst μ = some (C, fs)) (hf : fs.lookup nm = none) (hg : plainGet (Internal.hd.heap_1 w.params) C nm = true) (hh : hasDictIn (Internal.hd.heap_1 w.params) C = true)
    (ha : findIn (Internal.hd.heap_1 w.params) (.ref C) nm = some (some v)) (hn : specialIn (Internal.hd.heap_1 w.params) v "__get__" = some none) (hb : ∀ hb ρ, TopH w hb → VRel w hb ρ b v) (hv : autoParam (handedIn v = true) auR) (hc : autoParam (copiedNames.contains nm = false) auK) :
    O1 w n (fun v => getAttr v nm true) a μ (fun hb ρ u => VRel w hb ρ b u) μ := fun A hb0 ρ s u Q E rm R h k => by
  refine eEEEEAAA (inst_of R h e) ?_; rintro x dx es m rfl h1 h2 h3
  exact get_value R.X (show InstAt s.heap x (instObj C dx) C (some (dictOf es m)) from ⟨h1, rfl, rfl, h2⟩) (plainGet_of hg).1 (findObj_cls hh ha hn hv hc (by rw [lookIn_dict, h3.getN hf])) hv (k _ _ _ _ (Ext.toks _) (R.toks _) (hb _ _ R.top))
noncomputable def strVs : List (Str × Tok) → List Value
  | [] => []
  | (s, t) :: r => .str s t :: strVs r
theorem strVs_rel {h : Heap} {ρ : List Addr} : ∀ {l : List (Str × Tok)}, VRels w h ρ (strL (l.map (·.1))) (strVs l)
  | [] => .nil
  | (s, t) :: r => .cons (.str s t) strVs_rel
theorem tup_K {T : Addr} {l : List (Str × Tok)} (e : (Internal.hd.heap_1 w.params).lookup T = some { cls := .type "tuple", data := .seq (strVs l).toArray }) (hb : Heap) (ρ : List Addr) (Tp : TopH w hb) : VRel w hb ρ (.tup (strL (l.map (·.1)))) (.ref T) :=
  .tup ⟨_, Tp.K _ _ e, rfl, _, rfl⟩ strVs_rel
theorem lst_K {T : Addr} {l : List (Str × Tok)} (e : (Internal.hd.heap_1 w.params).lookup T = some { cls := .type "list", data := .seq (strVs l).toArray }) (hb : Heap) (ρ : List Addr) (Tp : TopH w hb) : VRel w hb ρ (.lst (strL (l.map (·.1)))) (.ref T) :=
  .lst ⟨_, Tp.K _ _ e⟩ strVs_rel
theorem boolT_K {T : Addr} {x y : Bool} (e : (Internal.hd.heap_1 w.params).lookup T = some { cls := .type "tuple", data := .seq #[.bool x, .bool y] }) (hb : Heap) (ρ : List Addr) (Tp : TopH w hb) : VRel w hb ρ (.tup [.bool x, .bool y]) (.ref T) :=
  .tup ⟨_, Tp.K _ _ e, rfl, _, rfl⟩ (.cons (.bool x) (.cons (.bool y) .nil))
theorem se_globR {x : Str} {v : Value} (e : nsIn (Internal.hd.heap_1 w.params) mainGlobals x = some (some v)) (hr : ∀ hb ρ, TopH w hb → VRel w hb ρ b v) (hk : autoParam (env.scope.kind = .function) auR) (hx : autoParam (env.kindOf x = some .globalImplicit) auR) (hg : autoParam (env.globals = mainGlobals) auR) (hd : autoParam ((x == ("__debug__" : Str)) = false) auD) :
    SE w n env (.Name x pos) σ b σ := fun A hb ρ s Q E rm r k => by
  obtain ⟨mg, hn⟩ := r.m.top.g
  exact Name_function_global hk hx (loadGlobal_global (by rw [hg]; exact hn.keeps r.m.keep) (mg_of r.m.top.K hn e) (k hb ρ s v .refl r (hr _ _ r.m.top))) hd
noncomputable def strE : Expr → Option Str
  | .Constant (.str s) _ _ => some s
  | _ => none
noncomputable def lisE : Expr → Option (List Expr)
  | .List es _ => some es
  | _ => none
noncomputable def namE : Expr → Option Str
  | .Name y _ => some y
  | _ => none
noncomputable def cmpE : Expr → Option (Expr × List CmpOp × List Expr)
  | .Compare l os rs _ => some (l, os, rs)
  | _ => none
noncomputable def ifS : Stmt → Option (Expr × List Stmt)
  | .If t _ ys _ => some (t, ys)
  | _ => none
set_option tactic.hygienic true in
theorem strE_inv {e : Expr} {s : Str} (h : strE e = some s) : ∃ k q, e = .Constant (.str s) k q := by
  cases e <;> first | cases h | skip
  rename_i c k q
  cases c <;> first | cases h | skip
  exact ⟨_, _, rfl⟩
theorem lisE_inv {e : Expr} {s : List Expr} (h : lisE e = some s) : ∃ q, e = .List s q := by
  cases e <;> first | (cases h; done) | (cases h; exact ⟨_, rfl⟩)
theorem namE_inv {e : Expr} {s : Str} (h : namE e = some s) : ∃ q, e = .Name s q := by
  cases e <;> first | (cases h; done) | (cases h; exact ⟨_, rfl⟩)
theorem cmpE_inv {e l : Expr} {os : List CmpOp} {rs : List Expr} (h : cmpE e = some (l, os, rs)) : ∃ q, e = .Compare l os rs q := by
  cases e <;> first | (cases h; done) | (cases h; exact ⟨_, rfl⟩)
theorem ifS_inv {e : Stmt} {t : Expr × List Stmt} (h : ifS e = some t) : ∃ xs q, e = .If t.1 xs t.2 q := by
  cases e <;> first | (cases h; done) | (cases h; exact ⟨_, _, rfl⟩)
noncomputable def strsE : List Expr → Option (List Str)
  | [] => some []
  | e :: r => (strE e).bind fun s => (strsE r).bind fun l => some (s :: l)
theorem ses_strs {p : Pos} (es : List Expr) : ∀ {ss : List Str}, strsE es = some ss → SEs w n env p es σ (strL ss) σ := by
  induction es with
  | nil => intro _ h; cases h; exact snN
  | cons e r ih =>
    intro ss h
    refine eEA (Option.bind_eq_some_iff.mp h) ?_; rintro s h1 h
    refine eEA (Option.bind_eq_some_iff.mp h) ?_; rintro l h2 h
    cases h
    refine eEE (strE_inv h1) ?_; rintro k q rfl
    exact scN se_str (ih h2)
noncomputable def deadE (x z : Str) (e : Expr) : Bool := (cmpE e).any fun t => (namE t.1).any (x == ·) &&
  (((t.2.1 == [.Eq]) && t.2.2.length == 1 && (t.2.2.head?.bind strE).any fun s => !(z == s)) ||
   ((t.2.1 == [.In]) && t.2.2.length == 1 && ((t.2.2.head?.bind lisE).bind strsE).any fun ss => !(ss.any (· == z)) && decide (ss.length ≤ 100)))
noncomputable def skipB (x z : Str) (m : Nat) : List Stmt → List Stmt := Nat.rec (fun l => l) (fun _ ih l => ((l.head?.bind ifS).filter fun t => l.length == 1 && deadE x z t.1).elim l fun t => ih t.2) m
theorem one_of {α : Type} {l : List α} {a : α} (h : l.head? = some a) (e : l.length = 1) : l = [a] := by
  cases l with
  | nil => cases h
  | cons b r => cases h; cases r with
    | nil => rfl
    | cons _ _ => cases e
theorem sxx_last {t : Expr} {xs ys : List Stmt} {P : St → AF → Prop} (h : SB w n env t σ false σ) (hy : SXX w n env ys σ P) : SXX w n env [.If t xs ys pos] σ P := fun A hb ρ s Q E rm R k => by
  refine wpAny_execs_cons (ssx_if (P := P) h (fun e => by cases e) (fun _ => hy) _ _ _ _ _ _ rm R fun hb1 ρ1 s1 f σ2 X1 R1 ⟨af, h1, h2⟩ => ?_)
  cases h2 with
  | next => exact wpAny_execs_nil (k _ _ _ _ _ X1 R1 ⟨_, h1, .next⟩)
  | brk => exact k _ _ _ _ _ X1 R1 ⟨_, h1, .brk⟩
  | cont => exact k _ _ _ _ _ X1 R1 ⟨_, h1, .cont⟩
  | ret hv => exact k _ _ _ _ _ X1 R1 ⟨_, h1, .ret hv⟩
theorem sb_dead {x z : Str} {t : Expr} (hl : σ.loc.lookup x = some (.str z)) (hk : env.scope.kind = .function) (hx : env.kindOf x = some .local) (hd : (x == ("__debug__" : Str)) = false) (h : deadE x z t = true) : SB w n env t σ false σ := by
  refine eEA ((Option.any_eq_true _ _).mp h) ?_; rintro ⟨l, os, rs⟩ h1 h
  obtain ⟨q, rfl⟩ := cmpE_inv h1
  obtain ⟨h2, h⟩ := (Bool.and_eq_true_iff).mp h
  refine eEA ((Option.any_eq_true _ _).mp h2) ?_; rintro y h3 h2
  obtain ⟨q', rfl⟩ := namE_inv h3
  obtain rfl := eq_of_beq h2
  rw [Bool.or_eq_true, Bool.and_eq_true, Bool.and_eq_true, Bool.and_eq_true, Bool.and_eq_true] at h
  rcases h with ⟨⟨g1, g2⟩, g3⟩ | ⟨⟨g1, g2⟩, g3⟩
  · refine eEA ((Option.any_eq_true _ _).mp g3) ?_; rintro s h4 g4
    refine eEA (Option.bind_eq_some_iff.mp h4) ?_; rintro e h5 h4
    obtain rfl := one_of h5 (eq_of_beq g2)
    obtain rfl := eq_of_beq g1
    refine eEE (strE_inv h4) ?_; rintro _ _ rfl
    rw [Bool.not_eq_true'] at g4
    exact g4 ▸ sb_cmp (c := z == s) (seL hl hk hx hd) se_str o_eqs
  · refine eEA ((Option.any_eq_true _ _).mp g3) ?_; rintro ss h4 g4
    refine eEA (Option.bind_eq_some_iff.mp h4) ?_; rintro es h6 h4
    refine eEA (Option.bind_eq_some_iff.mp h6) ?_; rintro e h5 h6
    obtain rfl := one_of h5 (eq_of_beq g2)
    obtain rfl := eq_of_beq g1
    obtain ⟨_, rfl⟩ := lisE_inv h6
    rw [Bool.and_eq_true, Bool.not_eq_true', decide_eq_true_eq] at g4
    exact g4.1 ▸ sb_cmp (c := ss.any (· == z)) (seL hl hk hx hd) (se_list (ses_strs _ h4) (by rw [strL_length]; have := g4.2; lia)) (o_in_strLst rfl)
theorem sxx_skip {x z : Str} {P : St → AF → Prop} (hl : σ.loc.lookup x = some (.str z)) (hk : env.scope.kind = .function) (hx : env.kindOf x = some .local) (hd : (x == ("__debug__" : Str)) = false) (m : Nat) : ∀ (l : List Stmt), SXX w n env (skipB x z m l) σ P → SXX w n env l σ P := by
  induction m with
  | zero => exact fun l h => h
  | succ m ih =>
    intro l h
    cases hq : (l.head?.bind ifS).filter fun t => l.length == 1 && deadE x z t.1 with
    | none => exact (show SXX w n env ((((l.head?.bind ifS).filter fun t => l.length == 1 && deadE x z t.1)).elim l fun t => skipB x z m t.2) σ P from h) |> fun h => by rwa [hq] at h
    | some t =>
      have h : SXX w n env ((((l.head?.bind ifS).filter fun t => l.length == 1 && deadE x z t.1)).elim l fun t => skipB x z m t.2) σ P := h
      rw [hq] at h
      obtain ⟨h1, h2⟩ := Option.filter_eq_some_iff.mp hq
      refine eEA (Option.bind_eq_some_iff.mp h1) ?_; rintro s h3 h1
      rw [Bool.and_eq_true] at h2
      obtain rfl := one_of h3 (eq_of_beq h2.1)
      refine eEE (ifS_inv h1) ?_; rintro xs q rfl
      exact sxx_last (sb_dead hl hk hx hd h2.2) (ih _ h)
end
noncomputable def Rl.algs : Rl → List Str
  | .cc => ["gurobi", "pulp-highs", "ortools-cp", "branch-and-bound", "brute-force", "pulp-cbc"]
  | _ => ["gurobi", "pulp-highs", "pulp-cbc", "branch-and-bound", "brute-force"]
noncomputable def avails : List Str := ["branch-and-bound", "brute-force", "standard", "standard-fractions"]
noncomputable def avOf (l : List Str) : List Str := l.filter fun z => avails.any (· == z)
section
variable {w : World} {n m : Nat} {env : Env} {σ σ0 σ1 σ2 σ3 : St} {pos : Pos} {a b c : AV} {μ μ' ν : List Cell} {k kc : Nat} {vt : Vt} {S : List Nat} {wt : Int} {fs : List (Str × Option AV)} {C : Addr} {x y z : Str}
theorem sxx_app {Al B : List Stmt} {P : St → AF → Prop} (hA : SXX w n env Al σ0 fun σ1 af => af = .next ∧ σ2.le σ1) (hB : SXX w n env B σ2 P) : SXX w n env (Al ++ B) σ0 P := fun A hb ρ s Q E rm R k => by
  refine fun Γ p hΓ => exs_app Al p s ?_
  refine Sem.wp_mono _ Γ _ (fun f p' s' h' => ?_) (fun _ _ _ h' => h') _ _ (hA A hb ρ s (fun f s' => match f with | .next => wpAny (model PRG w) A (execs B env) Q E s' | f => Q f s') E rm R (fun hb1 ρ1 s1 f σ1 X1 R1 h1 => ?_) Γ p hΓ)
  · cases f <;> first | exact h' Γ p' hΓ | exact h'
  · refine eEA h1 ?_; clear h1; rintro af ⟨rfl, hl⟩ hf
    cases hf
    exact hB _ _ _ _ _ _ rm (R1.le hl) fun _ _ _ _ _ X3 R3 h3 => k _ _ _ _ _ (X1.trans X3) R3 h3
theorem sxx_join1 {st : Stmt} {B : List Stmt} {P : St → AF → Prop} (hA : SXX w n env [st] σ0 fun σ1 af => af = .next ∧ σ2.le σ1) (hB : SXX w n env B σ2 P) : SXX w n env (st :: B) σ0 P := sxx_app (Al := [st]) hA hB
theorem SE.toAny {e : Expr} (h : SE w n env e σ a σ1) : SE w n env e σ .any σ1 := h.mono fun _ _ v _ => .any v
theorem se_fmt {e : Expr} (h : SE w n env e σ (.str x) σ1) (hz : x.length ≤ 1000) : SE w n env (.FormattedValue e (-1) none pos) σ (.str x) σ1 := fun A hb ρ s Q E rm R k =>
  FormattedValue_plain (h _ _ _ _ _ _ rm R fun hb1 ρ1 s1 v X1 R1 h1 => by
    obtain ⟨t, rfl⟩ := h1.str_inv
    exact formatField_str (fun t' tk => k _ _ _ _ (X1.trans (Ext.toks _)) (R1.toks _) (.str _ _)) (by rw [sizeLine_eq]; lia))
theorem se_join2 {v1 v2 : Expr} (h1 : SE w n env v1 σ (.str x) σ1) (h2 : SE w n env v2 σ1 (.str y) σ2) (hz : (Str.empty ++ x).length ≤ 1000) (hz' : (Str.empty ++ x ++ y).length ≤ 1000) : SE w n env (.JoinedStr [v1, v2] pos) σ (.str (Str.empty ++ x ++ y)) σ2 := fun A hb ρ s Q E rm R k =>
  JoinedStr_many (joinParts_cons (h1 _ _ _ _ _ _ rm R fun hb1 ρ1 s1 v X1 R1 g1 => by
    obtain ⟨t, rfl⟩ := g1.str_inv
    refine ⟨by rw [sizeLine_eq]; lia, joinParts_cons (h2 _ _ _ _ _ _ rm R1 fun hb2 ρ2 s2 v X2 R2 g2 => ?_)⟩
    obtain ⟨t, rfl⟩ := g2.str_inv
    exact ⟨by rw [sizeLine_eq]; lia, joinParts_nil (k _ _ _ _ ((X1.trans X2).trans (Ext.toks _)) (R2.toks _) (.str _ _)) (by rw [sizeLine_eq]; lia)⟩))
theorem g_avail : nsIn (Internal.hd.heap_1 w.params) mainGlobals "available_algorithms" = some (some (.ref 433)) := by k_is
theorem g_Rule : nsIn (Internal.hd.heap_1 w.params) mainGlobals "Rule" = some (some (.ref 362)) := by k_is
noncomputable def ruleF (r : Rl) (l : Nat) : List (Str × AV) := [("rule_id", .str r.nm), ("shortname", .any), ("longname", .any), ("algorithms", .tup (strL r.algs)), ("resolute_values", .tup [.bool false, .bool true]), ("available_algorithms", .hnd l)]
noncomputable def ruleCells (μ : List Cell) (r : Rl) (l : List Str) : List Cell := μ ++ [.dct (ruleF r (μ.length + 2)), .ins 362 μ.length, .lst (strL l)]
theorem rule0 {r : Rl} {l : List Str} : (ruleCells μ r l)[μ.length]? = some (.dct (ruleF r (μ.length + 2))) := getA (i := 0)
theorem rule1 {r : Rl} {l : List Str} : (ruleCells μ r l)[μ.length + 1]? = some (.ins 362 μ.length) := getA
theorem rule2 {r : Rl} {l : List Str} : (ruleCells μ r l)[μ.length + 2]? = some (.lst (strL l)) := getA
theorem rule_len {r : Rl} {l : List Str} : (ruleCells μ r l).length = μ.length + 3 := by simp [ruleCells]
theorem rule_set {r : Rl} {l l' : List Str} : (ruleCells μ r l).set (μ.length + 2) (.lst (strL l')) = ruleCells μ r l' := setA
theorem rule_set0 {r : Rl} {c : Cell} : ruleCells μ r [] = (((μ ++ [c]) ++ [Cell.ins 362 μ.length]) ++ [Cell.lst []]).set μ.length (.dct (ruleF r (μ.length + 2))) := by
  simp [ruleCells]; rfl
theorem strs_inb {m : Nat} {l : List Str} : (AV.lst (strL l)).inb m = true := AV.inb_of_pure (by unfold AV.pure; exact pures_strs _)
theorem strsT_inb {m : Nat} {l : List Str} : (AV.tup (strL l)).inb m = true := AV.inb_of_pure (by unfold AV.pure; exact pures_strs _)
theorem rule_inb {r : Rl} {l : List Str} (h : ∀ c ∈ μ, c.inb (μ.length + 2) = true) : ∀ c ∈ ruleCells μ r l, c.inb (ruleCells μ r l).length = true := fun c hc => by
  rw [rule_len]
  unfold ruleCells at hc
  rcases List.mem_append.mp hc with q | q
  · exact Cell.inb_mono (by lia) (h c q)
  · rcases List.mem_cons.mp q with rfl | q
    · show fbelow _ _ = true
      unfold fbelow ruleF
      simp only [List.all_cons, List.all_nil, strsT_inb, Bool.true_and, Bool.and_true]
      exact decide_eq_true (by lia)
    · rcases List.mem_cons.mp q with rfl | q
      · exact decide_eq_true (by lia)
      · rw [List.mem_singleton.mp q]; exact strs_inb
end
section
variable {w : World} {n m : Nat} {env : Env} {σ σ0 σ1 σ2 σ3 : St} {pos : Pos} {a b c : AV} {μ μ' ν : List Cell} {k kc : Nat} {vt : Vt} {S : List Nat} {wt : Int} {fs : List (Str × Option AV)} {C : Addr} {x y z : Str}
theorem oset_rule {nm : Str} {x : AV} {fs : List (Str × AV)} (hz : fs.length ≤ 900) (ht : takerIn (Internal.hd.heap_1 w.params) 362 nm = some none) : O2 w n (fun o u => setAttr o nm u) (.hnd (μ.length + 1)) x ((μ ++ [.dct fs]) ++ [.ins 362 μ.length]) (fun _ _ _ => True) ((μ ++ [.dct (putF nm x fs)]) ++ [.ins 362 μ.length]) :=
  o_set2 hz (by k_is) (by k_is) ht (by k_is)
theorem o_thiele {fs : List (Str × AV)} (hf : List.lookup ("_THIELE_ALGORITHMS" : Str) (fo fs) = none) : O1 w n (fun v => getAttr v "_THIELE_ALGORITHMS" true) (.hnd (μ.length + 1)) ((μ ++ [.dct fs]) ++ [.ins 362 μ.length]) (fun hb ρ u => VRel w hb ρ (.tup (strL Rl.pav.algs)) u) ((μ ++ [.dct fs]) ++ [.ins 362 μ.length]) :=
  o_cls (inst_hnd cget1 cget0) hf (by k_is) (by k_is) (by k_is) (by k_is) (tup_K (l := [("gurobi", _), ("pulp-highs", _), ("pulp-cbc", _), ("branch-and-bound", _), ("brute-force", _)]) (by k_is))
theorem o_resol {fs : List (Str × AV)} (hf : List.lookup ("_RESOLUTE_VALUES_FOR_OPTIMIZATION_BASED_RULES" : Str) (fo fs) = none) : O1 w n (fun v => getAttr v "_RESOLUTE_VALUES_FOR_OPTIMIZATION_BASED_RULES" true) (.hnd (μ.length + 1)) ((μ ++ [.dct fs]) ++ [.ins 362 μ.length]) (fun hb ρ u => VRel w hb ρ (.tup [.bool false, .bool true]) u) ((μ ++ [.dct fs]) ++ [.ins 362 μ.length]) :=
  o_cls (inst_hnd cget1 cget0) hf (by k_is) (by k_is) (by k_is) (by k_is) (boolT_K (by k_is))
theorem strL_get {xs : List Str} {i : Nat} {y : AV} (e : (strL xs)[i]? = some y) : ∃ j, xs[i]? = some j ∧ y = .str j := by
  unfold strL at e
  rw [List.getElem?_map] at e
  cases q : xs[i]? with
  | none => rw [q] at e; cases e
  | some j => rw [q] at e; cases e; exact ⟨j, rfl, rfl⟩
theorem rule_app {r : Rl} {l : List Str} : ruleCells μ r (l ++ [z]) = (ruleCells μ r l).set (μ.length + 2) (.lst (strL l ++ [.str z])) := by
  rw [show strL l ++ [.str z] = strL (l ++ [z]) by unfold strL; rw [List.map_append]; rfl]
  exact rule_set.symm
theorem avOf_T {l : List Str} {i : Nat} (h : l[i]? = some z) (hb : avails.any (· == z) = true) : avOf (l.take (i + 1)) = avOf (l.take i) ++ [z] := by
  obtain ⟨h1, rfl⟩ := List.getElem?_eq_some_iff.mp h
  unfold avOf
  rw [List.take_succ_eq_append_getElem h1, List.filter_append, List.filter_cons, if_pos hb]; rfl
theorem avOf_F {l : List Str} {i : Nat} (h : l[i]? = some z) (hb : avails.any (· == z) = false) : avOf (l.take (i + 1)) = avOf (l.take i) := by
  obtain ⟨h1, rfl⟩ := List.getElem?_eq_some_iff.mp h
  unfold avOf
  rw [List.take_succ_eq_append_getElem h1, List.filter_append, List.filter_cons, if_neg (by rw [hb]; decide)]; exact List.append_nil _
theorem avOf_len (r : Rl) (i : Nat) : (strL (avOf (r.algs.take i))).length ≤ 10000 := by
  rw [strL_length]
  have h1 := List.length_filter_le (fun z => avails.any (· == z)) (r.algs.take i)
  have h2 := (List.take_sublist i r.algs).length_le
  have h3 : r.algs.length ≤ 6 := by cases r <;> decide
  unfold avOf; lia
theorem rule_init (r : Rl) : FC w (n + 1) (.val (.ref 344)) [.hnd (μ.length + 1), .str r.nm] [] ((μ ++ [.dct []]) ++ [.ins 362 μ.length]) .none (ruleCells μ r (avOf r.algs)) := by
  refine fc_def (fun σ' v => σ'.mem = ruleCells μ r (avOf r.algs) ∧ v = .none) ⟨_, _, _, by k_is⟩ (by k_is) rfl rfl (hb2_ fun _ _ => by rfl) (by rfl) (by rfl) (fun L => ?_) (fun σ' v h => ?_) (by rw [rule_len]; simp) (fun h => rule_inb fun c hc => ?_)
  rotate_left
  · rw [h.1, h.2]; exact ⟨closes_same rfl, Nat.le_refl _⟩
  · have := h c (List.mem_append_left _ (List.mem_append_left _ hc))
    simpa using this
  refine sxC (ss_setattr (seL rfl) (seL rfl) (oset_rule (Nat.le_of_ble_eq_true rfl) (by k_is))) ?_
  refine sxx_join1 (σ2 := ⟨[("self", .hnd (μ.length + 1))], [], (μ ++ [.dct [("rule_id", .str r.nm), ("shortname", .any), ("longname", .any), ("algorithms", .tup (strL r.algs)), ("resolute_values", .tup [.bool false, .bool true])]]) ++ [.ins 362 μ.length]⟩) ?_ ?_
  · cases r with
    | pav =>
      refine sxx_skip (x := "rule_id") (z := "pav") rfl rfl rfl (by decide) 40 _ ?_
      refine sxx_ifT (sb_cmpE (seL rfl) se_str o_eqs rfl) ?_
      refine sxC (ss_setattr (SE.toAny se_str) (seL rfl) (oset_rule (Nat.le_of_ble_eq_true rfl) (by k_is))) ?_
      refine sxC (ss_setattr (SE.toAny se_str) (seL rfl) (oset_rule (Nat.le_of_ble_eq_true rfl) (by k_is))) ?_
      refine sxC (ss_setattr (se_attr (seL rfl) (o_thiele rfl)) (seL rfl) (oset_rule (Nat.le_of_ble_eq_true rfl) (by k_is))) ?_
      refine sxC (ss_setattr (se_attr (seL rfl) (o_resol rfl)) (seL rfl) (oset_rule (Nat.le_of_ble_eq_true rfl) (by k_is))) ?_
      exact sxx_nil (sxx_nil ⟨rfl, St.le_r rfl⟩)
    | slav =>
      refine sxx_skip (x := "rule_id") (z := "slav") rfl rfl rfl (by decide) 40 _ ?_
      refine sxx_ifT (sb_cmpE (seL rfl) se_str o_eqs rfl) ?_
      refine sxC (ss_setattr (SE.toAny se_str) (seL rfl) (oset_rule (Nat.le_of_ble_eq_true rfl) (by k_is))) ?_
      refine sxC (ss_setattr (SE.toAny se_str) (seL rfl) (oset_rule (Nat.le_of_ble_eq_true rfl) (by k_is))) ?_
      refine sxC (ss_setattr (se_attr (seL rfl) (o_thiele rfl)) (seL rfl) (oset_rule (Nat.le_of_ble_eq_true rfl) (by k_is))) ?_
      refine sxC (ss_setattr (se_attr (seL rfl) (o_resol rfl)) (seL rfl) (oset_rule (Nat.le_of_ble_eq_true rfl) (by k_is))) ?_
      exact sxx_nil (sxx_nil ⟨rfl, St.le_r rfl⟩)
    | cc =>
      refine sxx_skip (x := "rule_id") (z := "cc") rfl rfl rfl (by decide) 40 _ ?_
      refine sxx_ifT (sb_cmpE (seL rfl) se_str o_eqs rfl) ?_
      refine sxC (ss_setattr (SE.toAny se_str) (seL rfl) (oset_rule (Nat.le_of_ble_eq_true rfl) (by k_is))) ?_
      refine sxC (ss_setattr (SE.toAny se_str) (seL rfl) (oset_rule (Nat.le_of_ble_eq_true rfl) (by k_is))) ?_
      refine sxC (ss_setattr (se_tuple (as := strL Rl.cc.algs) (scN se_str (scN se_str (scN se_str (scN se_str (scN se_str (scN se_str snN)))))) (Nat.le_of_ble_eq_true rfl)) (seL rfl) (oset_rule (Nat.le_of_ble_eq_true rfl) (by k_is))) ?_
      refine sxC (ss_setattr (se_attr (seL rfl) (o_resol rfl)) (seL rfl) (oset_rule (Nat.le_of_ble_eq_true rfl) (by k_is))) ?_
      exact sxx_nil (sxx_nil ⟨rfl, St.le_r rfl⟩)
    | geom2 =>
      refine sxx_skip (x := "rule_id") (z := "geom2") rfl rfl rfl (by decide) 40 _ ?_
      refine sxx_ifTe (sb_plain (se_mcall (seL rfl) o_starts kept_builtin (scN se_str snN) sks_nil fn_starts) t_bool) (by decide +kernel) ?_
      refine sxC (ss_assign (se_sliceS (l := some 4) (u := none) (seL rfl) (sp_some se_int) sp_none (by decide +kernel))) ?_
      refine sxC (ss_setattr (SE.toAny (se_join2 (se_fmt (seL rfl) (by decide +kernel)) se_str (by decide +kernel) (by decide +kernel))) (seL rfl) (oset_rule (Nat.le_of_ble_eq_true rfl) (by k_is))) ?_
      refine sxC (ss_setattr (SE.toAny (se_join2 (se_fmt (seL rfl) (by decide +kernel)) se_str (by decide +kernel) (by decide +kernel))) (seL rfl) (oset_rule (Nat.le_of_ble_eq_true rfl) (by k_is))) ?_
      refine sxC (ss_setattr (se_attr (seL rfl) (o_thiele rfl)) (seL rfl) (oset_rule (Nat.le_of_ble_eq_true rfl) (by k_is))) ?_
      refine sxC (ss_setattr (se_attr (seL rfl) (o_resol rfl)) (seL rfl) (oset_rule (Nat.le_of_ble_eq_true rfl) (by k_is))) ?_
      exact sxx_nil (sxx_nil ⟨rfl, St.le_r rfl⟩)
    | geom3 =>
      refine sxx_skip (x := "rule_id") (z := "geom3") rfl rfl rfl (by decide) 40 _ ?_
      refine sxx_ifTe (sb_plain (se_mcall (seL rfl) o_starts kept_builtin (scN se_str snN) sks_nil fn_starts) t_bool) (by decide +kernel) ?_
      refine sxC (ss_assign (se_sliceS (l := some 4) (u := none) (seL rfl) (sp_some se_int) sp_none (by decide +kernel))) ?_
      refine sxC (ss_setattr (SE.toAny (se_join2 (se_fmt (seL rfl) (by decide +kernel)) se_str (by decide +kernel) (by decide +kernel))) (seL rfl) (oset_rule (Nat.le_of_ble_eq_true rfl) (by k_is))) ?_
      refine sxC (ss_setattr (SE.toAny (se_join2 (se_fmt (seL rfl) (by decide +kernel)) se_str (by decide +kernel) (by decide +kernel))) (seL rfl) (oset_rule (Nat.le_of_ble_eq_true rfl) (by k_is))) ?_
      refine sxC (ss_setattr (se_attr (seL rfl) (o_thiele rfl)) (seL rfl) (oset_rule (Nat.le_of_ble_eq_true rfl) (by k_is))) ?_
      refine sxC (ss_setattr (se_attr (seL rfl) (o_resol rfl)) (seL rfl) (oset_rule (Nat.le_of_ble_eq_true rfl) (by k_is))) ?_
      exact sxx_nil (sxx_nil ⟨rfl, St.le_r rfl⟩)
  · refine sxx_consW (σ2 := ⟨[("self", .hnd (μ.length + 1))], [], ruleCells μ r []⟩) (ss_setattr (hnd_eqv (se_listC snN (by decide) rfl) len2) (seL rfl) (o_set (i := μ.length + 1) (d := μ.length) (by simp; rfl) (by simp; rfl) (Nat.le_of_ble_eq_true rfl) (by k_is) (by k_is) (by k_is) (by k_is))) (St.le_of ⟨rfl, trivial⟩ trivial rule_set0) ?_
    refine sxx_then (ssx_for (α := Unit) (C := fun _ => True) (xs := strL r.algs) (mk := fun i _ => ⟨[("self", .hnd (μ.length + 1))], [], ruleCells μ r (avOf (r.algs.take i))⟩) (Inv := fun _ _ => True) (se_attr (seL rfl) (o_own (b := .tup (strL r.algs)) (inst_hnd rule1 rule0) rfl (by k_is) (by k_is) (by k_is) (by k_is))) (iter_tuple fun _ _ => rfl) () trivial (St.le_r rfl) (fun _ _ _ => trivial) fun i _ y hy _ => ?_) fun σ' af h => ⟨h.1, ?_⟩
    · refine eEA (strL_get hy) ?_; rintro z hz rfl
      refine ⟨_, tgt_local, ?_⟩
      cases hb : avails.any (· == z) with
      | true =>
        refine sxx_ifTe (sb_cmp (seL rfl) (se_globR g_avail (lst_K (l := [("branch-and-bound", _), ("brute-force", _), ("standard", _), ("standard-fractions", _)]) (by k_is))) (o_in_strLst (ys := avails) rfl)) hb ?_
        refine sxx_consW (σ2 := ⟨[("self", .hnd (μ.length + 1))], [], ruleCells μ r (avOf (r.algs.take (i + 1)))⟩) (ss_expr (se_mcall (se_attr (seL rfl) (o_own (b := .hnd (μ.length + 2)) (inst_hnd rule1 rule0) rfl (by k_is) (by k_is) (by k_is) (by k_is))) (o_append (listOf_at rule2)) kept_builtin (scN (seL rfl) snN) sks_nil (fn_append rule2 rfl (avOf_len r i)))) (St.le_of ⟨rfl, trivial⟩ trivial ((congrArg (ruleCells μ r) (avOf_T hz hb)).trans rule_app)) ?_
        exact sxx_nil (sxx_nil ⟨rfl, (), trivial, St.le_r rfl⟩)
      | false =>
        refine sxx_ifNe (sb_cmp (seL rfl) (se_globR g_avail (lst_K (l := [("branch-and-bound", _), ("brute-force", _), ("standard", _), ("standard-fractions", _)]) (by k_is))) (o_in_strLst (ys := avails) rfl)) hb ?_
        exact sxx_nil ⟨rfl, (), trivial, St.le_of ⟨rfl, trivial⟩ trivial (congrArg (ruleCells μ r) (avOf_F hz hb))⟩
    · refine eAEA h ?_; clear h; rintro rfl _ _ rfl
      rw [strL_length, List.take_length]
      exact sxx_nil ⟨_, rfl, rfl, rfl⟩
theorem r_new (r : Rl) : FC w (n + 2) (.val (.ref 362)) [.str r.nm] [] μ (.hnd (μ.length + 1)) (ruleCells μ r (avOf r.algs)) :=
  fc_make (by k_is) (by k_is) (by k_is) (rule_init r) (closes_same (by rw [rule_len]; exact decide_eq_true (by lia))) (by rw [rule_len]; lia) (Nat.le_refl _) fun h => rule_inb fun c hc => Cell.inb_mono (by lia) (h c hc)
end
theorem filter_snoc {α : Type} {p : α → Bool} {l : List α} {c : α} : (l ++ [c]).filter p = l.filter p ++ (if p c then [c] else []) := by
  rw [List.filter_append, List.filter_cons, List.filter_nil]
theorem bf_char (r : Rl) (vt : Vt) (res : Bool) : ∀ l : List (List Nat), l ≠ [] → ∃ M, (bfSt r vt res l.reverse).1 = some M ∧ (∀ c ∈ l.reverse, sc r vt (toSet c) ≤ M) ∧ (∃ c ∈ l.reverse, sc r vt (toSet c) = M) ∧
    (bfSt r vt res l.reverse).2 = if res then (l.reverse.filter fun c => sc r vt (toSet c) == M).take 1 else l.reverse.filter fun c => sc r vt (toSet c) == M
  | [], h => absurd rfl h
  | [c], _ => ⟨sc r vt (toSet c), rfl, fun d hd => by rw [List.mem_singleton.mp hd]; exact Int.le_refl _, ⟨c, List.mem_singleton.mpr rfl, rfl⟩, by
    show [c] = _
    rw [List.reverse_singleton, List.filter_cons, if_pos (beq_self_eq_true _), List.filter_nil]
    cases res <;> rfl⟩
  | c :: d :: l, _ => by
    refine eEAAA (bf_char r vt res (d :: l) (by simp)) ?_; rintro M h1 h2 ⟨e, h3, h4⟩ h5
    generalize hL : (d :: l).reverse = L at h1 h2 h3 h5
    have hr : (c :: d :: l).reverse = L ++ [c] := by rw [List.reverse_cons, hL]
    have hs : bfSt r vt res (L ++ [c]) = bfStep r vt res (bfSt r vt res L) c := by unfold bfSt; rw [List.foldl_append]; rfl
    rw [hr, hs]
    have hne : (L.filter fun c => sc r vt (toSet c) == M) ≠ [] := List.ne_nil_of_mem (List.mem_filter.mpr ⟨h3, by rw [h4]; exact beq_self_eq_true _⟩)
    by_cases a1 : M < sc r vt (toSet c)
    · have e1 : bfStep r vt res (bfSt r vt res L) c = (some (sc r vt (toSet c)), [c]) := by unfold bfStep; rw [h1]; exact if_pos a1
      rw [e1]
      refine ⟨_, rfl, fun x hx => ?_, ⟨c, by simp, rfl⟩, ?_⟩
      · rcases List.mem_append.mp hx with q | q
        · exact Int.le_of_lt (Int.lt_of_le_of_lt (h2 x q) a1)
        · rw [List.mem_singleton.mp q]; exact Int.le_refl _
      · have e2 : ((L ++ [c]).filter fun x => sc r vt (toSet x) == sc r vt (toSet c)) = [c] := by
          rw [filter_snoc, if_pos (beq_self_eq_true _), List.filter_eq_nil_iff.mpr fun x hx => by have := h2 x hx; simp only [beq_iff_eq]; lia]; rfl
        rw [e2]
        cases res <;> rfl
    · by_cases a2 : sc r vt (toSet c) = M
      · rw [bf_eq h1 a1 a2]
        refine ⟨M, h1, fun x hx => ?_, ⟨e, List.mem_append_left _ h3, h4⟩, ?_⟩
        · rcases List.mem_append.mp hx with q | q
          · exact h2 x q
          · rw [List.mem_singleton.mp q]; exact Int.le_of_eq a2
        · have e2 : ((L ++ [c]).filter fun x => sc r vt (toSet x) == M) = (L.filter fun x => sc r vt (toSet x) == M) ++ [c] := by
            rw [filter_snoc, if_pos (by rw [a2]; exact beq_self_eq_true M)]
          rw [e2]
          cases res with
          | false => show (bfSt r vt false L).2 ++ [c] = _; rw [h5]; rfl
          | true =>
            show (bfSt r vt true L).2 = _
            rw [h5]
            exact (List.take_append_of_le_length (List.length_pos_iff.mpr hne)).symm
      · rw [bf_lt h1 a1 a2]
        refine ⟨M, h1, fun x hx => ?_, ⟨e, List.mem_append_left _ h3, h4⟩, ?_⟩
        · rcases List.mem_append.mp hx with q | q
          · exact h2 x q
          · rw [List.mem_singleton.mp q]; lia
        · have e2 : ((L ++ [c]).filter fun x => sc r vt (toSet x) == M) = L.filter fun x => sc r vt (toSet x) == M := by
            rw [filter_snoc, if_neg (by simpa using a2), List.append_nil]
          rw [e2]; exact h5
theorem bf_wins {r : Rl} {vt : Vt} {k kc : Nat} (md : Md) (h0 : 0 < kc) (hk : kc ≤ k) (h4 : k ≤ 4) : md.cut (bfSt r vt md.res (combs k kc)).2 = md.cut (wins r vt k kc) := by
  refine eAAA (combs_ok k (in4 (by lia) h4) kc (in4 h0 (by lia)) hk) ?_; rintro c6 cne call cpw
  refine eEAAA (bf_char r vt md.res (combs k kc).reverse (by simpa using cne)) ?_; rintro M h1 h2 ⟨e, h3, h5⟩ h6
  rw [List.reverse_reverse] at h1 h2 h3 h6
  have hf : ∀ c ∈ combs k kc, sc r vt (toSet c) = sc r vt c := fun c hc => by rw [(call c hc).2.2.2]
  have hM : mx ((combs k kc).map (sc r vt)) = M := mx_eq (List.mem_map.mpr ⟨e, h3, by rw [← hf e h3]; exact h5⟩) fun x hx => by
    refine eEA (List.mem_map.mp hx) ?_; rintro c hc rfl
    rw [← hf c hc]; exact h2 c hc
  have hw : ((combs k kc).filter fun c => sc r vt (toSet c) == M) = wins r vt k kc := by
    unfold wins
    rw [hM]
    exact List.filter_congr fun c hc => by rw [hf c hc]
  rw [h6, hw]
  cases md with
  | one => show ((wins r vt k kc).take 1).take 1 = _; rw [List.take_take]; rfl
  | all => rfl
  | top m => rfl
noncomputable def wayS (bb : Bool) : Str := if bb then "branch-and-bound" else "brute-force"
section
variable {w : World} {n m : Nat} {env : Env} {σ σ0 σ1 σ2 σ3 : St} {pos : Pos} {a b c : AV} {μ μ' ν : List Cell} {k kc : Nat} {vt : Vt} {S : List Nat} {wt : Int} {fs : List (Str × Option AV)} {C : Addr} {x y z : Str}
theorem g_bf : nsIn (Internal.hd.heap_1 w.params) mainGlobals "_thiele_methods_bruteforce" = some (some (.ref 449)) := by k_is
theorem g_bb : nsIn (Internal.hd.heap_1 w.params) mainGlobals "_thiele_methods_branchandbound" = some (some (.ref 457)) := by k_is
theorem alg_any (r : Rl) (bb : Bool) : r.algs.any (· == wayS bb) = true := by cases r <;> cases bb <;> decide
theorem f_ver {r : Rl} (md : Md) (bb : Bool) (hmd : ∀ m, md = .top m → 1 ≤ m) (h0 : 0 < kc) (hk : kc ≤ k) (h4 : k ≤ 4) (hv : vt ≠ []) (hv' : vt.length ≤ 100) :
    FC w (n + 3) (.val (.ref 359)) [.hnd (μ.length + 1)] [("profile", .prof k (vtL vt)), ("committeesize", .int (kc : Int)), ("algorithm", .str (wayS bb)), ("resolute", .bool md.res), ("max_num_of_committees", md.mx)] (ruleCells μ r (avOf r.algs)) .none (ruleCells μ r (avOf r.algs)) := by
  have h1 : vtL vt ≠ [] ∧ (vtL vt).length ≤ 1000 := ⟨fun q => hv (List.map_eq_nil_iff.mp q), by rw [vtL_length]; lia⟩
  have hc : (1 : Int) ≤ (kc : Int) ∧ (kc : Int) ≤ (k : Int) := by lia
  cases md with
  | all => exact f_verify (r := false) (x := false) (y := true) (inst_hnd rule1 rule0) rfl rfl hc (by lia) h1 (alg_any r bb) rfl
  | one => exact f_verify (r := true) (x := false) (y := true) (inst_hnd rule1 rule0) rfl rfl hc (by lia) h1 (alg_any r bb) rfl
  | top m =>
    have := hmd m rfl
    exact f_verifyM (x := false) (y := true) (by lia) (inst_hnd rule1 rule0) rfl rfl hc (by lia) h1 (alg_any r bb) rfl
theorem f_cmp (r : Rl) (md : Md) (bb : Bool) (hmd : ∀ m, md = .top m → 1 ≤ m) (h0 : 0 < kc) (hk : kc ≤ k) (h4 : k ≤ 4) (hv : ∀ v ∈ vt, v.1 ∈ S16 ∧ (∀ x ∈ v.1, x < k) ∧ 0 ≤ v.2) (hvn : vt ≠ []) (hvl : vt.length ≤ 100) {lt : AV} {as : List AV} {ks : List (Str × AV)}
    (HB : ∀ fd, FDK w 441 fd → HBind w fd as ks [("scorefct_id", .str r.nm), ("profile", .prof k (vtL vt)), ("committeesize", .int (kc : Int)), ("algorithm", .str (wayS bb)), ("resolute", .bool md.res), ("max_num_of_committees", md.mx), ("lexicographic_tiebreaking", lt)]) :
    FC w (n + 18) (.val (.ref 441)) as ks μ (.lst (setsL (md.cut (wins r vt k kc)))) μ := by
  refine fc_def (fun σ' v => (∃ ν, σ'.mem = μ ++ ν) ∧ v = .lst (setsL (md.cut (wins r vt k kc)))) ⟨_, _, _, by k_is⟩ (by k_is) rfl rfl (HB _ ⟨_, _, _, by k_is⟩) (by rfl) (by rfl) (fun L => ?_) (fun σ' v h => ?_) (Nat.le_refl _) (fun h => h)
  · refine sxC (ss_assign (se_call (se_glob g_Rule) (kept_ref (by k_is)) (scN (seL rfl) snN) (r_new r).fn)) ?_
    refine sxx_ifNe (sb_cmp (seL rfl) se_str o_eqs) (by cases bb <;> decide +kernel) ?_
    refine sxC (ss_expr (se_mcall0 (seL rfl) (o_meth (f := 359) (inst_hnd rule1 rule0) rfl (by k_is) (by k_is) (by k_is)) (kept_ref (by k_is)) (sks_cons (seL rfl) (sks_cons (seL rfl) (sks_cons (seL rfl) (sks_cons (seL rfl) (sks_cons (seL rfl) sks_nil))))) (f_ver (r := r) md bb hmd h0 hk h4 hvn hvl).fn)) ?_
    cases bb with
    | true =>
      refine sxx_ifT (sb_cmpE (seL rfl) se_str o_eqs (by decide +kernel)) ?_
      refine sxC (ss_unpack (se_callK0 (se_glob g_bb) (kept_ref (by k_is)) (sks_cons (seL rfl) (sks_cons (seL rfl) (sks_cons (seL rfl) (sks_cons (seL rfl) (sks_cons (seL rfl) sks_nil))))) (f_bb (n := n + 1) r md hmd h0 hk h4 hv).fn) (tgt_tuple (tgts_cons tgt_local (tgts_cons tgt_local tgts_nil)))) ?_
      refine sxx_nil ?_
      exact sxx_stop (ss_return (seL rfl)) ⟨_, rfl, ⟨_, rfl⟩, rfl⟩
    | false =>
      refine sxx_ifF (sb_cmpE (seL rfl) se_str o_eqs (by decide +kernel)) ?_
      refine sxx_ifT (sb_cmpE (seL rfl) se_str o_eqs (by decide +kernel)) ?_
      refine sxC (ss_unpack (se_callK0 (se_glob g_bf) (kept_ref (by k_is)) (sks_cons (seL rfl) (sks_cons (seL rfl) (sks_cons (seL rfl) (sks_cons (seL rfl) (sks_cons (seL rfl) sks_nil))))) (FC.eq (f_bf (n := n + 1) r md hmd h0 hk h4 fun v h => (hv v h).2.2) (by rw [bf_wins md h0 hk h4])).fn) (tgt_tuple (tgts_cons tgt_local (tgts_cons tgt_local tgts_nil)))) ?_
      refine sxx_nil (sxx_nil ?_)
      exact sxx_stop (ss_return (seL rfl)) ⟨_, rfl, ⟨_, rfl⟩, rfl⟩
  · obtain ⟨⟨ν, h1⟩, rfl⟩ := h
    rw [h1]
    exact ⟨closes_drop (by simp [AV.inb, sets_inb]), by simp⟩
end
noncomputable def lexB : List Nat → List Nat → Bool
  | x :: xs, y :: ys => if x = y then lexB xs ys else decide (x < y)
  | xs, ys => decide (xs.length < ys.length)
noncomputable def ball (n : Nat) (x : Int) : List Nat := (List.range n).filter fun c => Builtin.bitAnd (shr x (c : Int)) 1 != 0
noncomputable def chL (n k i : Nat) : List (List Nat) := ((List.range i).map fun (m : Nat) => ball n (m : Int)).filter fun c => c.length == k
noncomputable def chP (n k : Nat) : Array Nat := if (chL n k (2 ^ n)).length < 2 then (List.range (chL n k (2 ^ n)).length).toArray else (kgo (chL n k (2 ^ n)).length (fun i j => lexB ((chL n k (2 ^ n)).getD i []) ((chL n k (2 ^ n)).getD j [])) (kas_sort (chL n k (2 ^ n)).length)).getD #[]
theorem ch_ok : ∀ n ∈ [1, 2, 3, 4], ∀ k ∈ [1, 2, 3, 4], k ≤ n → (2 ≤ (chL n k (2 ^ n)).length → kgo (chL n k (2 ^ n)).length (fun i j => lexB ((chL n k (2 ^ n)).getD i []) ((chL n k (2 ^ n)).getD j [])) (kas_sort (chL n k (2 ^ n)).length) = some (chP n k)) ∧
    (chP n k).toList.map (fun i => (chL n k (2 ^ n)).getD i []) = combs n k ∧ (chP n k).size = (chL n k (2 ^ n)).length ∧ (∀ i ∈ (chP n k).toList, i < (chL n k (2 ^ n)).length) ∧ (chL n k (2 ^ n)).length ≤ 6 ∧ ∀ c ∈ chL n k (2 ^ n), c ≠ [] := by decide +kernel
section
variable {w : World} {n m : Nat} {env : Env} {σ σ0 σ1 σ2 σ3 : St} {pos : Pos} {a b c : AV} {μ μ' ν : List Cell} {k kc : Nat} {vt : Vt} {S : List Nat} {wt : Int} {fs : List (Str × Option AV)} {C : Addr} {x y z : Str} {hb : Heap} {ρ : List Addr} {s : Shared} {A : Around} {E : Value → Shared → Prop}
theorem lex_go {bb fin : Bool} {Q : Bool → Shared → Prop} (xs : List Nat) : ∀ {ys : List Nat} {vs us : List Value} {i : Nat}, VRels w hb ρ (natL xs) vs → VRels w hb ρ (natL ys) us → fin = decide (xs.length < ys.length) → Q (lexB xs ys) s → KatLex PRG w A bb fin Q (vs.zip us) i s := by
  induction xs with
  | nil =>
    intro ys vs us i hx hy hf h
    rw [VRels.inv0 hx]
    exact kat_nil (by rw [hf]; cases ys <;> exact h)
  | cons x xs ih =>
    intro ys vs us i hx hy hf h
    cases ys with
    | nil => rw [VRels.inv0 hy, List.zip_nil_right]; exact kat_nil (by rw [hf]; exact h)
    | cons y ys =>
      refine eEEAA (VRels.invc hx) ?_; rintro _ _ rfl h1 hx'
      obtain ⟨t, rfl⟩ := h1.int_inv
      refine eEEAA (VRels.invc hy) ?_; rintro _ _ rfl h2 hy'
      obtain ⟨u, rfl⟩ := h2.int_inv
      refine kat_cons (wpAny_eqBool_int (kat_go (fun e => ?_) fun e => ?_))
      · have e : x = y := Int.ofNat_inj.mp (eq_of_beq e)
        refine kat_yes (ih hx' hy' (by rw [hf, List.length_cons, List.length_cons]; exact decide_eq_decide.mpr (Nat.add_lt_add_iff_right (k := 1) (n := xs.length) (m := ys.length))) ?_)
        unfold lexB at h; rwa [if_pos e] at h
      · have e : ¬ x = y := fun q => by subst q; rw [beq_self_eq_true] at e; cases e
        unfold lexB at h; rw [if_neg e] at h
        have h : Q (decide ((x : Int) < (y : Int))) s := by rwa [show decide ((x : Int) < (y : Int)) = decide (x < y) from decide_eq_decide.mpr Int.ofNat_lt]
        refine kat_no ?_
        cases (bb && i == 0) with
        | true => exact oneLt_int h
        | false => exact kat_one _ _ (lt_int h)
theorem ask_tup {xs ys : List Nat} : O2 w n (keyLt' (tuples' true)) (.tup (natL xs)) (.tup (natL ys)) μ (fun _ _ b => b = lexB xs ys) μ := fun A hb ρ s v u Q E rm R hv hu k => by
  refine eEEAA hv.tup_inv ?_; rintro a vs rfl ha hx
  refine eEEAA hu.tup_inv ?_; rintro b us rfl hb' hy
  refine eEAAE (ha.keeps R.keep) ?_; rintro ox e1 _ n1 d1
  refine eEAAE (hb'.keeps R.keep) ?_; rintro oy e2 _ n2 d2
  refine kat_lt e1 d1 e2 d2 ?_
  have l1 := hx.length
  have l2 := hy.length
  rw [natL_length] at l1 l2
  exact lex_go _ hx hy (by rw [List.size_toArray, List.size_toArray, l1, l2]) (k _ _ _ _ .refl R rfl)
theorem tups_of {s : Shared} (k : hb.StaysIn s.heap) (css : List (List Nat)) : ∀ {vs : List Value}, (∀ c ∈ css, c ≠ []) → VRels w hb ρ (css.map (com true)) vs → ∃ fs, fs.length = css.length ∧ KatTups s.heap vs fs ∧ ∀ v ∈ fs, ∃ i t, v = .int i t := by
  induction css with
  | nil => intro vs _ h; cases h; exact ⟨[], rfl, .nil, fun _ q => nomatch q⟩
  | cons c css ih =>
    intro vs hc h
    have h : VRels w hb ρ (.tup (natL c) :: css.map (com true)) vs := h
    rcases h with _ | ⟨hx, hr⟩
    refine eEAA (ih (fun c q => hc c (List.mem_cons_of_mem _ q)) hr) ?_; rintro fs f1 f2 f3
    refine eEEAA hx.tup_inv ?_; rintro a us rfl ha hu
    refine eEAAE (ha.keeps k) ?_; rintro o e1 e2 m d
    refine eEE (List.exists_cons_of_ne_nil (hc c (List.mem_cons_self ..))) ?_; rintro y c rfl
    have hu : VRels w hb ρ (.int (y : Int) :: natL c) us := hu
    rcases hu with _ | ⟨hy, _⟩
    obtain ⟨t, rfl⟩ := hy.int_inv
    exact ⟨.int y t :: fs, by rw [List.length_cons, f1]; rfl, .cons e1 e2 d rfl f2, fun v q => (List.mem_cons.mp q).elim (fun q => ⟨_, _, q⟩) fun q => f3 v q⟩
theorem sortOk_tup {css : List (List Nat)} {p : Array Nat} (h6 : css.length ≤ 6) (hne : ∀ c ∈ css, c ≠ []) (hs : css.length < 2 → p = (List.range css.length).toArray) (hg : 2 ≤ css.length → kgo css.length (fun i j => lexB (css.getD i []) (css.getD j [])) (kas_sort css.length) = some p)
    (hp : ∀ i ∈ p.toList, i < css.length) (hz : p.size = css.length) : SortOk w n (tuples' true) (css.map (com true)) μ (fun i j => lexB (css.getD i []) (css.getD j [])) p := by
  have hl : (css.map (com true)).length = css.length := List.length_map ..
  refine ⟨fun q => by rw [hl] at q ⊢; exact hs q, fun q A hb ρ s vs Q E R hv hq => ?_, fun i j x y e1 e2 => ?_, fun q => by rw [hl] at q ⊢; exact hg q, fun i hi => by rw [hl]; exact hp i hi, by rw [hl]; lia, by rw [hl]; exact hz⟩
  · refine eEAA (tups_of R.keep css hne hv) ?_; rintro fs f1 f2 f3
    rw [hl] at q
    exact kat_kind (T := .type "int") f2 (by lia) (fun v hv => by refine eEE (f3 v hv) ?_; rintro i t rfl; exact Looks.of_pure rfl) (by decide) hq
  · rw [List.getElem?_map] at e1 e2
    cases h1 : css[i]? with
    | none => rw [h1] at e1; cases e1
    | some c =>
      cases h2 : css[j]? with
      | none => rw [h2] at e2; cases e2
      | some d =>
        rw [h1] at e1; rw [h2] at e2; cases e1; cases e2
        rw [List.getD_eq_getElem?_getD, List.getD_eq_getElem?_getD, h1, h2]
        exact ask_tup
theorem fn_sortedS {l : List AV} {κ : SortKind} {lt : Nat → Nat → Bool} {p : Array Nat} (S : SortOk w n κ l μ lt p) (e : listOfAV μ a = some l) : FN w (n + 2) (.val (.builtin "sorted")) [a] [] μ (.lst (p.toList.map fun i => l.getD i .none)) μ := fun A hb ρ s fv vs kvs Q E rm R hf hvs hks k => by
  obtain rfl := VRel.val_inv hf; obtain rfl := hks.inv0
  refine eEA hvs.inv1 ?_; rintro _ rfl h1
  refine eEEAA (list_of R h1 e) ?_; rintro la us rfl h3 h5
  have hus := h5.length
  have h64 := S.len
  refine call_function_entry kind_sorted plain_sorted entry_sorted (args_sorted1 _) ?_
  unfold Builtin.«sorted»
  refine wpAny_bind (m := checkCount "sorted" 1 1 _) (wpAny_pure ?_)
  refine wpAny_bind (collect_list h3 ?_ (by rw [sizeLine_eq]; lia))
  have kp : s.heap.StaysIn ((s.heap.push (seqObj "list" #[] 0)).update s.heap.objs.size (Obj.mapSeq (· ++ us.toArray))) := fun b o q => by
    have hlt : b < s.heap.objs.size := Heap.lt_size q
    rw [Heap.get?_update_ne _ _ _ _ (Nat.ne_of_lt hlt), Heap.get?_push_ne _ _ _ (Nat.ne_of_lt hlt)]
    exact q
  have R1 : RelM w hb ρ { s with heap := (s.heap.push (seqObj "list" #[] 0)).update s.heap.objs.size (Obj.mapSeq (· ++ us.toArray)) } μ := R.grow kp rfl
  have X1 : Ext [] hb ρ s hb ρ { s with heap := (s.heap.push (seqObj "list" #[] 0)).update s.heap.objs.size (Obj.mapSeq (· ++ us.toArray)) } := Ext.plain (fun b o e _ => kp b o e) (live_stays kp) rfl rfl
  refine sorted_tail (n := n) (l' := p.toList.map fun i => l.getD i .none) R1 rm h5 (by lia) (fun _ => args_list_sort _) (fun A' s1 D P E' rm' X' R' hD kk => ?_) fun s' hb' v X' R' hv => k _ _ _ _ (X1.trans X') R' hv
  exact lsort_plain S X' R' rm' hD h5 fun s' hb' out cc' X2 R2 hD2 hv2 => kk s' hb' out cc' X2 R2 hD2 hv2
end
section
variable {w : World} {n m : Nat} {env : Env} {σ σ0 σ1 σ2 σ3 : St} {pos : Pos} {a b c : AV} {μ μ' ν : List Cell} {k kc : Nat} {vt : Vt} {S : List Nat} {wt : Int} {fs : List (Str × Option AV)} {C : Addr} {x y z : Str}
theorem b_tuple : nsIn (Internal.hd.heap_1 w.params) mainGlobals "tuple" = some none := by k_is
theorem g_choices : nsIn (Internal.hd.heap_1 w.params) mainGlobals "_law_choices" = some (some (.ref 642)) := by k_is
theorem o_pow2 {e : Nat} (he : e < 5) : OI w n (binaryOp .Pow) (.int 2) (.int e) μ (.int (2 ^ e)) := fun A hb ρ s v u Q E rm R hv hu k => by
  obtain ⟨t, rfl⟩ := hv.int_inv
  obtain ⟨t', rfl⟩ := hu.int_inv
  have fin : ∀ v : Int, v = 2 ^ e → (Made.int v).post Q s := fun v hv => by subst hv; exact k _ _ _ _ (Ext.toks _) (R.toks _) (.int _ _)
  rcases Nat.eq_zero_or_pos e with h0 | h0
  · subst h0
    exact AutoIntOps.pow_0 (by decide) (by decide) (fin 1 (by simp))
  · refine AutoIntOps.pow_4 (by lia) (by simp; lia) (by decide) (by decide) ?_ (fin _ (by rw [Int.toNat_natCast]))
    have : Builtin.Int.intBits 2 = 2 := rfl
    rw [this]
    have he' : e = 1 ∨ e = 2 ∨ e = 3 ∨ e = 4 := by lia
    rcases he' with rfl | rfl | rfl | rfl <;> decide
theorem rng_filter {k : Nat} {p : AV → Bool} {q : Nat → Bool} (h : ∀ c : Nat, p (.int (c : Int)) = q c) : ((rngL 0 (k : Int)).filter p).map id = natL ((List.range k).filter q) := by
  rw [List.map_id, rngL_nat]
  unfold natL
  rw [List.filter_map]
  congr 1
  exact List.filter_congr fun c _ => h c
theorem ball_len {k : Nat} {x : Int} : (ball k x).length ≤ k := by
  unfold ball
  have := List.length_filter_le (fun c : Nat => Builtin.bitAnd (shr x (c : Int)) 1 != 0) (List.range k)
  rwa [List.length_range] at this
theorem chL_step {k kc i : Nat} : chL k kc (i + 1) = chL k kc i ++ (if (ball k (i : Int)).length == kc then [ball k (i : Int)] else []) := by
  unfold chL
  rw [List.range_succ, List.map_append, List.filter_append, List.map_singleton, List.filter_cons, List.filter_nil]
theorem chL_len {k kc i : Nat} : (chL k kc i).length ≤ i := by
  unfold chL
  have := List.length_filter_le (fun c : List Nat => c.length == kc) ((List.range i).map fun (m : Nat) => ball k (m : Int))
  rwa [List.length_map, List.length_range] at this
theorem rng_ok {P : Nat} (h : P ≤ 1000) : -1000000 < (P : Int) ∧ (P : Int) < 1000000 := by lia
theorem pow_le16 {k : Nat} (h : k ≤ 4) : 2 ^ k ≤ 16 := Nat.pow_le_pow_right (by decide) h
theorem f_choices (h0 : 0 < kc) (hk : kc ≤ k) (h4 : k ≤ 4) : FC w (n + 4) (.val (.ref 642)) [.int (k : Int), .int (kc : Int)] [] μ (.lst ((combs k kc).map (com true))) μ := by
  refine eAAAAA (ch_ok k (in4 (by lia) h4) kc (in4 h0 (by lia)) hk) ?_; rintro q1 q2 q3 q4 q5 q6
  have hpow := pow_le16 h4
  refine fc_def (fun σ' v => (∃ ν, σ'.mem = μ ++ ν) ∧ v = .lst ((combs k kc).map (com true))) ⟨_, _, _, by k_is⟩ (by k_is) rfl rfl (hb2_ fun _ _ => by rfl) (by rfl) (by rfl) (fun L => ?_) (fun σ' v h => ?_) (Nat.le_refl _) (fun h => h)
  · refine sxC (ss_assign (se_listC snN (by decide) rfl)) ?_
    refine sxx_then (ssx_for (α := Unit) (C := fun _ => True) (xs := rngL 0 ((2 ^ k : Nat) : Int)) (mk := fun i _ => ⟨[("found", .hnd μ.length), ("n", .int (k : Int)), ("k", .int (kc : Int))], [], μ ++ [.lst ((chL k kc i).map (com true))]⟩) (Inv := fun _ _ => True)
      (se_call (se_builtin b_range (by rfl) (by decide)) kept_type (scN (SE.eqv (b := .int ((2 ^ k : Nat) : Int)) (se_binop se_int (seL rfl) (o_pow2 (by lia))) (by congr 1)) snN) fn_range1) (iter_range (by lia) (rng_ok (P := 2 ^ k) (Nat.le_trans hpow (by decide))) fun _ _ => rfl) () trivial (St.le_r rfl) (fun _ _ _ => trivial) fun i _ y hy _ => ?_) fun σ' af h => ⟨h.1, ?_⟩
    · rw [rngL_nat] at hy
      refine eEA (natL_get hy) ?_; rintro o ho rfl
      obtain ⟨hi, rfl⟩ : i < 2 ^ k ∧ i = o := by obtain ⟨h1, h2⟩ := List.getElem?_eq_some_iff.mp ho; rw [List.length_range] at h1; rw [List.getElem_range] at h2; exact ⟨h1, h2⟩
      have hb4 := ball_len (k := k) (x := (i : Int))
      refine ⟨_, tgt_cell ⟨L + 1, rfl, fun y c e _ => (lookup_cons_some e).elim (·.1) fun q => by cases q.2⟩, ?_⟩
      refine sxx_consW (σ2 := ⟨[("members", com true (ball k (i : Int))), ("found", .hnd μ.length), ("n", .int (k : Int)), ("k", .int (kc : Int))], [], μ ++ [.lst ((chL k kc i).map (com true))]⟩) (ss_assign (se_call (se_builtin b_tuple (by rfl) (by decide)) kept_type (scN (SE.eqv (b := .lst (natL (ball k (i : Int)))) (se_comp [("mask", L + 1)] [("mask", .int (i : Int))] (fun y => Builtin.bitAnd (shr (i : Int) (toI y)) 1 != 0) id (se_call (se_builtin b_range (by rfl) (by decide)) kept_type (scN (seL rfl) snN) fn_range1) (iter_range (by lia) (by lia) fun _ _ => rfl) (fun _ => trivial) (by rw [rngL_nat, natL_length, List.length_range]; lia) (fun Ca j y hy acc => ?_) ⟨rfl, trivial⟩ ⟨rfl, rfl, trivial⟩) (congrArg AV.lst (rng_filter fun c => rfl))) snN) (fn_tuple rfl (by rw [natL_length]; lia)))) (St.le_r rfl) ?_
      · rw [rngL_nat] at hy
        refine eEA (natL_get hy) ?_; rintro c hc rfl
        exact ⟨_, _, tgt_local, tst_one (sb_plain (se_binop (se_binop (se_cell rfl) (seL rfl) (o_shr (Int.natCast_nonneg c))) se_int o_and) t_int), St.le_r rfl, fun _ => ⟨_, seL rfl, St.le_r rfl, rfl⟩⟩
      have hcl := chL_len (k := k) (kc := kc) (i := i)
      by_cases hl : (ball k (i : Int)).length = kc
      · refine sxx_ifTe (sb_cmp (se_call (se_builtin b_len (by rfl) (by decide)) kept_builtin (scN (seL rfl) snN) (fn_len_tup (l := natL (ball k (i : Int))) (by rw [natL_length]; lia))) (seL rfl) o_eq) (by rw [natL_length, hl]; exact beq_self_eq_true _) ?_
        refine sxx_consW (σ2 := ⟨[("found", .hnd μ.length), ("n", .int (k : Int)), ("k", .int (kc : Int))], [], μ ++ [.lst ((chL k kc (i + 1)).map (com true))]⟩) (ss_expr (se_mcall (seL rfl) (o_append (listOf_at cell_last)) kept_builtin (scN (seL rfl) snN) sks_nil (fn_append cell_last com_pure (by rw [List.length_map]; lia)))) (St.le_of ⟨rfl, rfl, rfl, trivial⟩ trivial (by
          rw [chL_step, if_pos (by rw [hl]; exact beq_self_eq_true _), ← coms_snocB]; exact cell_set.symm)) ?_
        exact sxx_nil (sxx_nil ⟨rfl, (), trivial, St.le_r rfl⟩)
      · refine sxx_ifNe (sb_cmp (se_call (se_builtin b_len (by rfl) (by decide)) kept_builtin (scN (seL rfl) snN) (fn_len_tup (l := natL (ball k (i : Int))) (by rw [natL_length]; lia))) (seL rfl) o_eq) (by rw [natL_length, beq_eq_false_iff_ne]; lia) ?_
        exact sxx_nil ⟨rfl, (), trivial, St.le_of ⟨rfl, rfl, rfl, trivial⟩ trivial (by rw [chL_step, if_neg (by simpa using hl), List.append_nil])⟩
    · refine eAEA h ?_; clear h; rintro rfl _ _ rfl
      rw [rngL_nat, natL_length, List.length_range]
      have S := sortOk_tup (w := w) (n := n + 1) (μ := μ ++ [.lst ((chL k kc (2 ^ k)).map (com true))]) (p := chP k kc) q5 q6 (fun h => by unfold chP; rw [if_pos h]) q1 q4 q3
      refine sxx_stop (ss_return (se_call (se_builtin b_sorted (by rfl) (by decide)) kept_builtin (scN (seL rfl) snN) (fn_sortedS S (listOf_at cell_last)))) ⟨_, rfl, ⟨_, rfl⟩, ?_⟩
      rw [← q2, List.map_map]
      refine congrArg AV.lst (List.map_congr_left fun i hi => ?_)
      have := q4 i hi
      show _ = com true ((chL k kc (2 ^ k)).getD i [])
      simp [List.getD_eq_getElem?_getD, List.getElem?_map, List.getElem?_eq_getElem this]
  · obtain ⟨⟨ν, h1⟩, rfl⟩ := h
    rw [h1]
    exact ⟨closes_drop (AV.inb_of_pure (by unfold AV.pure; exact coms_pure)), by simp⟩
end
noncomputable def lHead (ns : List Int) : Int := (ns.take 6).getD 0 0
noncomputable def lSize (ns : List Int) : Int := (ns.take 6).getD 1 0
noncomputable def lNi (ns : List Int) : Nat := (((lSize ns).fdiv 4).fmod 6).toNat
noncomputable def lN (ns : List Int) : Nat := [4, 3, 3, 4, 2, 1].getD (lNi ns) 0
noncomputable def lK (ns : List Int) : Nat := 1 + (((lSize ns).fmod 4).fmod (lN ns : Int)).toNat
noncomputable def lSrc (ns : List Int) : List Int := if (ns.take 6).drop 2 = [] then [1] else (ns.take 6).drop 2
noncomputable def lRow (n : Nat) (x : Int) : List Nat × Int := (ball n x, 1 + (x.natAbs : Int).fdiv 16)
noncomputable def lBi (ns : List Int) : Nat := (((lHead ns).fdiv 5).fmod 2).toNat
noncomputable def lBb (ns : List Int) : Bool := lBi ns == 1
noncomputable def lRows (ns : List Int) : List (List Nat × Int) := if lN ns = 4 ∧ lBb ns = true then ((lSrc ns).map (lRow (lN ns))).take (if lK ns = 3 then 2 else 3) else (lSrc ns).map (lRow (lN ns))
noncomputable def lRi (ns : List Int) : Nat := ((lHead ns).fmod 5).toNat
noncomputable def rules : List Rl := [.pav, .slav, .cc, .geom2, .geom3]
noncomputable def lR (ns : List Int) : Rl := rules.getD (lRi ns) .pav
noncomputable def lMi (ns : List Int) : Nat := (((lHead ns).fdiv 10).fmod 3).toNat
noncomputable def lMost (ns : List Int) : Nat := 1 + (((lSize ns).fdiv 24).fmod 3).toNat
noncomputable def lMd (ns : List Int) : Md := if lMi ns = 0 then .all else if lMi ns = 1 then .one else .top (lMost ns)
theorem fm {x y : Int} (h : 0 < y) : (x.fmod y).toNat = x.fmod y ∧ ((x.fmod y).toNat : Int) < y := by
  have h1 := Int.fmod_nonneg_of_pos x h
  have h2 := Int.fmod_lt_of_pos x h
  lia
theorem lNi_lt (ns : List Int) : lNi ns < 6 := by
  have := (fm (x := (lSize ns).fdiv 4) (y := 6) (by decide)).2
  unfold lNi; lia
theorem n_get : ∀ i < 6, [(4 : Nat), 3, 3, 4, 2, 1][i]? = some ([4, 3, 3, 4, 2, 1].getD i 0) ∧ 1 ≤ [4, 3, 3, 4, 2, 1].getD i 0 ∧ [4, 3, 3, 4, 2, 1].getD i 0 ≤ 4 := by decide
theorem lN_ok (ns : List Int) : 1 ≤ lN ns ∧ lN ns ≤ 4 := (n_get _ (lNi_lt ns)).2
theorem lK_ok (ns : List Int) : 1 ≤ lK ns ∧ lK ns ≤ lN ns := by
  have h := lN_ok ns
  have := (fm (x := (lSize ns).fmod 4) (y := (lN ns : Int)) (by lia)).2
  unfold lK; lia
set_option tactic.hygienic true in
theorem lSrc_len (ns : List Int) : 1 ≤ (lSrc ns).length ∧ (lSrc ns).length ≤ 4 := by
  unfold lSrc
  split
  · decide
  · rename_i h
    refine ⟨List.length_pos_iff.mpr h, ?_⟩
    rw [List.length_drop, List.length_take]; lia
theorem lRows_len (ns : List Int) : 1 ≤ (lRows ns).length ∧ (lRows ns).length ≤ 4 := by
  have h := lSrc_len ns
  unfold lRows
  split
  · rw [List.length_take, List.length_map]; split <;> lia
  · rw [List.length_map]; exact h
theorem lRows_mem {ns : List Int} {v : List Nat × Int} (h : v ∈ lRows ns) : ∃ x, v = lRow (lN ns) x := by
  unfold lRows at h
  split at h
  · refine eEA (List.mem_map.mp (List.mem_of_mem_take h)) ?_; rintro x _ q; exact ⟨x, q.symm⟩
  · refine eEA (List.mem_map.mp h) ?_; rintro x _ q; exact ⟨x, q.symm⟩
theorem s16_filter (p : Nat → Bool) : ∀ n ∈ [1, 2, 3, 4], (List.range n).filter p ∈ S16 := fun n hn => by
  have h0 : ∀ b : Bool, b = true ∨ b = false := fun b => by cases b <;> simp
  have key : ∀ (b0 b1 b2 b3 : Bool), ∀ n ∈ [1, 2, 3, 4], ((List.range n).filter fun c => [b0, b1, b2, b3].getD c false) ∈ S16 := by decide
  have := key (p 0) (p 1) (p 2) (p 3) n hn
  rwa [show ((List.range n).filter fun c => [p 0, p 1, p 2, p 3].getD c false) = (List.range n).filter p from List.filter_congr fun c hc => by
    have hc := List.mem_range.mp hc
    have : n ≤ 4 := by simp at hn; lia
    have : c = 0 ∨ c = 1 ∨ c = 2 ∨ c = 3 := by lia
    rcases this with rfl | rfl | rfl | rfl <;> rfl] at this
theorem ball_ok {n : Nat} (h0 : 1 ≤ n) (h : n ≤ 4) (x : Int) : ball n x ∈ S16 ∧ (∀ y ∈ ball n x, y < n) ∧ (ball n x).Nodup := by
  unfold ball
  exact ⟨s16_filter _ n (in4 (by lia) h), fun y hy => List.mem_range.mp (List.mem_filter.mp hy).1, List.nodup_range.filter _⟩
theorem lRow_pos (n : Nat) (x : Int) : 0 < (lRow n x).2 := by
  show 0 < 1 + (x.natAbs : Int).fdiv 16
  have : 0 ≤ (x.natAbs : Int).fdiv 16 := Int.fdiv_nonneg (by lia) (by decide)
  lia
noncomputable def hits (b c : List Nat) : Nat := ((b.map fun (i : Nat) => (i : Int)).filter fun x => (c.map fun (i : Nat) => (i : Int)).any (· == x)).length
noncomputable def pts (r : Rl) (rows : List (List Nat × Int)) (c : List Nat) : Int := (rows.map fun v => v.2 * (r.gains.take (hits v.1 c)).sum).sum
theorem hits_ok : ∀ b ∈ S16, ∀ c ∈ S16, hits b c = (inter c b).length ∧ hits b c ≤ 4 ∧ toSet b = b := by decide +kernel
theorem gsum_ok (r : Rl) : ∀ i < 5, (r.gains.take i).sum = r.gsum i := by cases r <;> decide
noncomputable def vtOf (rows : List (List Nat × Int)) : Vt := rows.map fun v => (toSet v.1, v.2)
theorem pts_sc {r : Rl} {rows : List (List Nat × Int)} {c : List Nat} (h : ∀ v ∈ rows, v.1 ∈ S16) (hc : c ∈ S16) : pts r rows c = sc r (vtOf rows) c := by
  unfold pts sc vtOf
  rw [List.map_map]
  congr 1
  refine List.map_congr_left fun v hv => ?_
  refine eAA (hits_ok v.1 (h v hv) c hc) ?_; rintro a1 a2 a3
  show v.2 * _ = v.2 * r.gsum (inter c (toSet v.1)).length
  rw [gsum_ok r _ (by lia), a1, a3]
theorem combs_s16 {k kc : Nat} (h0 : 0 < kc) (hk : kc ≤ k) (h4 : k ≤ 4) : ∀ c ∈ combs k kc, c ∈ S16 := fun c hc => by
  refine eAAA (combs_ok k (in4 (by lia) h4) kc (in4 h0 (by lia)) hk) ?_; rintro _ _ call _
  refine eAAA (call c hc) ?_; rintro _ c2 c3 c4
  rw [← c4]
  exact toSet_mem fun y hy => Nat.lt_of_lt_of_le (c2 y hy) h4
theorem due_wins {r : Rl} {rows : List (List Nat × Int)} {k kc : Nat} (h : ∀ v ∈ rows, v.1 ∈ S16) (h0 : 0 < kc) (hk : kc ≤ k) (h4 : k ≤ 4) : ((combs k kc).filter fun c => pts r rows c == mx ((combs k kc).map (pts r rows))) = wins r (vtOf rows) k kc := by
  have e : ∀ c ∈ combs k kc, pts r rows c = sc r (vtOf rows) c := fun c hc => pts_sc h (combs_s16 h0 hk h4 c hc)
  unfold wins
  rw [List.map_congr_left e]
  exact List.filter_congr fun c hc => by rw [e c hc]
theorem wins_ne {r : Rl} {vt : Vt} {k kc : Nat} (h0 : 0 < kc) (hk : kc ≤ k) (h4 : k ≤ 4) : wins r vt k kc ≠ [] := by
  refine eAAA (combs_ok k (in4 (by lia) h4) kc (in4 h0 (by lia)) hk) ?_; rintro _ cne _ _
  refine eEA (List.mem_map.mp (mx_mem (l := (combs k kc).map (sc r vt)) (by simpa using cne))) ?_; rintro c hc1 hc2
  exact List.ne_nil_of_mem (List.mem_filter.mpr ⟨hc1, by rw [hc2]; exact beq_self_eq_true _⟩)
theorem cut_cons {α : Type} {md : Md} (h : ∀ m, md = .top m → 1 ≤ m) {c : α} {l : List α} : ∃ l', md.cut (c :: l) = c :: l' := by
  cases md with
  | all => exact ⟨l, rfl⟩
  | one => exact ⟨[], rfl⟩
  | top m =>
    obtain ⟨j, rfl⟩ : ∃ j, m = j + 1 := ⟨m - 1, by have := h m rfl; lia⟩
    exact ⟨l.take j, rfl⟩
theorem cut_map {α β : Type} {md : Md} {f : α → β} {l : List α} : md.cut (l.map f) = (md.cut l).map f := by
  cases md with
  | all => rfl
  | one => exact List.map_take.symm
  | top m => exact List.map_take.symm
theorem cut_mem {α : Type} {md : Md} {l : List α} {x : α} (h : x ∈ md.cut l) : x ∈ l := by
  cases md with
  | all => exact h
  | one => exact List.mem_of_mem_take h
  | top m => exact List.mem_of_mem_take h
theorem lMd_ok (ns : List Int) : ∀ m, lMd ns = .top m → 1 ≤ m := fun m h => by
  unfold lMd at h
  split at h
  · cases h
  · split at h
    · cases h
    · cases h; unfold lMost; lia
section
variable {w : World} {n m : Nat} {env : Env} {σ σ0 σ1 σ2 σ3 : St} {pos : Pos} {a b c : AV} {μ μ' ν : List Cell} {k kc : Nat} {vt : Vt} {S : List Nat} {wt : Int} {fs : List (Str × Option AV)} {C : Addr} {x y z : Str} {l l2 : List AV}
theorem se_orL {e1 e2 : Expr} (h1 : SE w n env e1 σ (.lst l) σ) (h2 : SE w n env e2 σ (.lst l2) σ) (hz : l.length ≤ 1000) : SE w n env (.BoolOp .Or [e1, e2] pos) σ (.lst (if l = [] then l2 else l)) σ := fun A hb ρ s Q E rm R k =>
  BoolOp_or (h1 _ _ _ _ _ _ rm R fun hb1 ρ1 s1 v X1 R1 hv => by
    refine eEEAA (list_of R1.m hv rfl) ?_; rintro la vs rfl g1 g2
    have hl := g2.length
    refine wpAny_truthy_list g1 (by rw [List.size_toArray]; lia) ?_
    have X2 : Ext (fp env) hb ρ s hb1 ρ1 { s1 with toks := s1.toks + 1 + 1 } := X1.trans (Ext.toks _)
    have R2 : RelE w hb1 ρ1 env { s1 with toks := s1.toks + 1 + 1 } σ := R1.toks _
    by_cases he : l = []
    · have hv0 : vs = [] := List.eq_nil_of_length_eq_zero (by rw [hl, he]; rfl)
      subst hv0
      rw [if_neg (by simp)]
      refine BoolOp_one (h2 _ _ _ _ _ _ rm R2 fun hb3 ρ3 s3 v3 X3 R3 h3 => ?_)
      rw [if_pos he] at k
      exact k _ _ _ _ (X2.trans X3) R3 h3
    · rw [if_pos (by cases vs with | nil => simp at hl; exact absurd (List.eq_nil_of_length_eq_zero hl.symm) he | cons _ _ => rfl)]
      rw [if_neg he] at k
      exact k _ _ _ _ X2 R2 hv)
abbrev cs4 (L : Addr) : List (Str × Addr) := [("best", L + 4), ("members", L + 3), ("gains", L + 2), ("number", L + 1)]
theorem cell4 {L cx : Addr} {x : Str} (h : (cs4 L).lookup x = some cx) : ∀ y c, (cs4 L).lookup y = some c → c = cx → y = x := fun y c e q => lookup_inj (l := cs4 L) (by simp) (q ▸ e) h
theorem g_hits : nsIn (Internal.hd.heap_1 w.params) mainGlobals "_law_hits" = some (some (.ref 630)) := by k_is
theorem g_cmp : nsIn (Internal.hd.heap_1 w.params) mainGlobals "compute_thiele_method" = some (some (.ref 441)) := by k_is
theorem b_abs : nsIn (Internal.hd.heap_1 w.params) mainGlobals "abs" = some none := by k_is
theorem b_sum : nsIn (Internal.hd.heap_1 w.params) mainGlobals "sum" = some none := by k_is
theorem f_hitsN {bs cs : List Nat} (hz : bs.length ≤ 1000) : FC w (n + 2) (.val (.ref 630)) [.lst (natL bs), .tup (natL cs)] [] μ (.int (hits bs cs : Nat)) μ := by
  rw [natL_intL, natL_intL]
  exact f_hits (by rw [List.length_map]; exact hz)
theorem rowV_pure {v : List Nat × Int} : (rowV v).pure = true := by
  show (AV.tup [.lst (natL v.1), .int v.2]).pure = true
  have h : AV.pures (natL v.1) = true := pures_nats _
  simp [AV.pure, AV.pures, h]
noncomputable def eltV (r : Rl) (c : List Nat) : AV → AV
  | .tup [b, .int wt] => .int (wt * (r.gains.take (hits (comN b) c)).sum)
  | _ => .none
theorem eltV_row {r : Rl} {c : List Nat} {v : List Nat × Int} : eltV r c (rowV v) = .int (v.2 * (r.gains.take (hits v.1 c)).sum) := by
  show AV.int (v.2 * (r.gains.take (hits (comN (com false v.1)) c)).sum) = _
  rw [comN_com]
theorem elts_row {r : Rl} {c : List Nat} {rows : List (List Nat × Int)} : (((rows.map rowV).filter fun _ => true).map (eltV r c)) = intL (rows.map fun v => v.2 * (r.gains.take (hits v.1 c)).sum) := by
  rw [List.filter_eq_self.mpr fun _ _ => rfl, List.map_map]
  unfold intL
  rw [List.map_map]
  exact List.map_congr_left fun v _ => eltV_row
noncomputable def worV (r : Rl) (rows : List (List Nat × Int)) (c : List Nat) : AV := .tup [.int (pts r rows c), com true c]
theorem worV_pure {r : Rl} {rows : List (List Nat × Int)} {c : List Nat} : (worV r rows c).pure = true := by
  show (AV.tup [.int (pts r rows c), com true c]).pure = true
  have h : (com true c).pure = true := com_pure
  simp [AV.pure, AV.pures, h]
noncomputable def fstV : AV → AV
  | .tup [p, _] => p
  | _ => .none
noncomputable def sndV : AV → AV
  | .tup [_, m] => com false (comN m)
  | _ => .none
noncomputable def isB (best : Int) : AV → Bool
  | .tup [.int p, _] => p == best
  | _ => false
theorem fst_wor {r : Rl} {rows : List (List Nat × Int)} {cs : List (List Nat)} : (((cs.map (worV r rows)).filter fun _ => true).map fstV) = intL (cs.map (pts r rows)) := by
  rw [List.filter_eq_self.mpr fun _ _ => rfl, List.map_map]
  unfold intL
  rw [List.map_map]
  exact List.map_congr_left fun v _ => rfl
theorem snd_wor {r : Rl} {rows : List (List Nat × Int)} {cs : List (List Nat)} {best : Int} : (((cs.map (worV r rows)).filter (isB best)).map sndV) = (cs.filter fun c => pts r rows c == best).map (com false) := by
  rw [List.filter_map, List.map_map]
  refine List.map_congr_left fun c _ => ?_
  show com false (comN (com true c)) = _
  rw [comN_com]
theorem pick_int {l : List Int} {m : Nat} : pickA (intL l) none (some (m : Int)) = intL (l.take m) := by
  rw [pick_take]; unfold intL; rw [List.map_take]
theorem intL_at {l : List Int} {i : Nat} {x : Int} (h : l[i]? = some x) : (intL l)[i]? = some (.int x) := by
  unfold intL; rw [List.getElem?_map, h]; rfl
theorem gains_sum (r : Rl) (i : Nat) : 0 ≤ (r.gains.take i).sum ∧ (r.gains.take i).sum ≤ 1000 := by
  have h : ∀ i < 5, 0 ≤ (r.gains.take i).sum ∧ (r.gains.take i).sum ≤ 1000 := by cases r <;> decide
  rcases Nat.lt_or_ge i 5 with q | q
  · exact h i q
  · have : r.gains.take i = r.gains.take 4 := by
      have hl : r.gains.length = 4 := by cases r <;> rfl
      rw [List.take_of_length_le (by lia), List.take_of_length_le (by lia)]
    rw [this]; exact h 4 (by decide)
theorem mul_small {x y : Int} (h0 : 0 ≤ y) (h : y ≤ 100000) : IntMulOk x y := .of_right (intBits_le_64 (by lia) (by lia))
end
section
variable {w : World} {n m : Nat} {env : Env} {σ σ0 σ1 σ2 σ3 : St} {pos : Pos} {a b c : AV} {μ μ' ν : List Cell} {k kc : Nat} {vt : Vt} {S : List Nat} {wt : Int} {fs : List (Str × Option AV)} {C : Addr} {x y z : Str} {l l2 : List AV}
theorem lHead_eq {ns : List Int} : (ns.take 6 = [] → lHead ns = 0) ∧ (ns.take 6 ≠ [] → (intL (ns.take 6))[0]? = some (.int (lHead ns))) := by
  unfold lHead
  constructor
  · intro h; rw [h]; rfl
  · intro h
    refine eEE (List.exists_cons_of_ne_nil h) ?_; rintro x r e
    rw [e]; rfl
theorem lSize_eq {ns : List Int} : (¬ 1 < (ns.take 6).length → lSize ns = 0) ∧ (1 < (ns.take 6).length → (intL (ns.take 6))[1]? = some (.int (lSize ns))) := by
  unfold lSize
  constructor
  · intro h; rw [List.getD_eq_getElem?_getD, List.getElem?_eq_none (by lia)]; rfl
  · intro h
    rw [List.getD_eq_getElem?_getD, List.getElem?_eq_getElem h]
    exact intL_at (List.getElem?_eq_getElem h)
theorem src_eq {ns : List Int} : (if pickA (intL (ns.take 6)) (some ((2 : Nat) : Int)) none = [] then [AV.int 1] else pickA (intL (ns.take 6)) (some ((2 : Nat) : Int)) none) = intL (lSrc ns) := by
  rw [pick_from]
  unfold lSrc intL
  rw [← List.map_drop]
  by_cases h : (ns.take 6).drop 2 = []
  · rw [if_pos h, h]; rfl
  · rw [if_neg h, if_neg (by simpa using h)]
theorem rules_at {ns : List Int} : (rules.map fun r => AV.str r.nm)[lRi ns]? = some (.str (lR ns).nm) ∧ (rules.map fun r => AV.lst (intL r.gains))[lRi ns]? = some (.lst (intL (lR ns).gains)) ∧ lRi ns < 5 := by
  have h : lRi ns < 5 := by have := (fm (x := lHead ns) (y := 5) (by decide)).2; unfold lRi; lia
  have key : ∀ i < 5, rules[i]? = some (rules.getD i .pav) := fun i hi => by
    have : i = 0 ∨ i = 1 ∨ i = 2 ∨ i = 3 ∨ i = 4 := by lia
    rcases this with rfl | rfl | rfl | rfl | rfl <;> rfl
  unfold lR
  exact ⟨by rw [List.getElem?_map, key _ h]; rfl, by rw [List.getElem?_map, key _ h]; rfl, h⟩
theorem way_at {ns : List Int} : ([AV.str "brute-force", .str "branch-and-bound"])[lBi ns]? = some (.str (wayS (lBb ns))) ∧ lBi ns < 2 := by
  have h : lBi ns < 2 := by have := (fm (x := (lHead ns).fdiv 5) (y := 2) (by decide)).2; unfold lBi; lia
  unfold lBb
  have : lBi ns = 0 ∨ lBi ns = 1 := by lia
  rcases this with q | q <;> rw [q] <;> exact ⟨rfl, by decide⟩
theorem n_at {ns : List Int} : (natL [4, 3, 3, 4, 2, 1])[lNi ns]? = some (.int (lN ns : Int)) := natL_get' (n_get _ (lNi_lt ns)).1
theorem se_listN {es : List Expr} {as : List AV} (m : Nat) (h : SEs w n env pos es σ as σ1) (hm : as.length = m) (hz : m ≤ 1000) : SE w n env (.List es pos) σ (.lst as) σ1 := se_list h (by lia)
theorem ses_l4 {i1 i2 i3 i4 : Int} {k1 k2 k3 k4 : Nat} {p1 p2 p3 p4 p5 : Pos} {rest : List Expr} {as : List AV} (hr : SEs w n env pos rest σ as σ) : SEs w n env pos (.List [.Constant (.int i1) k1 p1, .Constant (.int i2) k2 p2, .Constant (.int i3) k3 p3, .Constant (.int i4) k4 p4] p5 :: rest) σ (.lst [.int i1, .int i2, .int i3, .int i4] :: as) σ :=
  scN (se_list (scN se_int (scN se_int (scN se_int (scN se_int snN)))) (by simp)) hr (by kernel_rfl)
theorem sxx_assignCW {x : Str} {e : Expr} {p : Pos} {rest : List Stmt} {P : St → AF → Prop} (h : SE w n env e σ a σ1) (hcx : ∃ cx, env.cells.lookup x = some cx ∧ ∀ y c, env.cells.lookup y = some c → c = cx → y = x) (hk : env.scope.kind = .function) (hl : env.kindOf x = some .cell)
    (hs : swapsWith e (some (.Name x p)) pos.line env = pure false) (l : σ2.le (σ1.putC x a)) (hr : SXX w n env rest σ2 P) : SXX w n env (.Assign [.Name x p] e pos :: rest) σ P := sxx_consW (ss_assignC h hcx hk hl hs) l hr
theorem wor_app {r : Rl} {rows : List (List Nat × Int)} {cs : List (List Nat)} {c0 : Cell} {i : Nat} {c : List Nat} (h : cs[i]? = some c) : [c0, Cell.lst ((cs.take (i + 1)).map (worV r rows))] = [c0, Cell.lst ((cs.take i).map (worV r rows))].set 1 (.lst ((cs.take i).map (worV r rows) ++ [worV r rows c])) := by
  obtain ⟨h1, rfl⟩ := List.getElem?_eq_some_iff.mp h
  rw [List.take_succ_eq_append_getElem h1, List.map_append]; rfl
theorem list1 {c0 : Cell} (e : listOfAV [c0] a = some l) {l2 : List AV} : listOfAV [c0, .lst l2] a = some l := listOf_more (ν := [.lst l2]) e
theorem list2 {c0 : Cell} (e : listOfAV [c0] a = some l) {l2 acc : List AV} : listOfAV ([c0, .lst l2] ++ [.lst acc]) a = some l := listOf_more (ν := [.lst l2, .lst acc]) e
abbrev lLoc (ns : List Int) : List (Str × AV) := [("numbers", .lst (intL (ns.take 6))), ("head", .int (lHead ns)), ("size", .int (lSize ns)), ("n", .int (lN ns : Int)), ("k", .int (lK ns : Int))]
theorem row_app {ns : List Int} {n i : Nat} {x : Int} (h : (lSrc ns)[i]? = some x) : μ ++ [Cell.lst ((((lSrc ns).take (i + 1)).map (lRow n)).map rowV)] = (μ ++ [Cell.lst ((((lSrc ns).take i).map (lRow n)).map rowV)]).set μ.length (.lst ((((lSrc ns).take i).map (lRow n)).map rowV ++ [rowV (lRow n x)])) := by
  obtain ⟨h1, rfl⟩ := List.getElem?_eq_some_iff.mp h
  rw [cell_set, List.take_succ_eq_append_getElem h1, List.map_append, List.map_append]; rfl
theorem cut_len {α : Type} (md : Md) {l : List α} : (md.cut l).length ≤ l.length := by
  cases md with
  | all => exact Nat.le_refl _
  | one => exact (List.take_sublist _ _).length_le
  | top m => exact (List.take_sublist _ _).length_le
theorem law_body (ns : List Int) (hns : ns.length ≤ 100) : ∃ fd body, FDK w 647 fd ∧ codeIn (Internal.hd.heap_1 w.params) fd.code fd.qualname = true ∧ fd.body = .stmts body ∧ fd.closure = [] ∧
    (keysOk fd.scope.names [("script" : Str)] = true ∧ nodupB ((cellsFrom 0 fd.scope.names []).map (·.1)) = true ∧ fd.scope.isCoroutine = false ∧ fd.scope.isGenerator = false ∧ fd.scope.kind = .function ∧ (∀ v, bindArgs fd ⟨[v], []⟩ = pure [(("script" : Str), v)]) ∧
      (∀ a : AV, locOf (fd.scope.names.lookup ·) [(("script" : Str), a)] = [(("script" : Str), a)]) ∧ ∀ a : AV, celOf (fd.scope.names.lookup ·) [(("script" : Str), a)] = []) ∧
    ∀ L, SXX w (n + 18) (callEnvC fd L 647) body ⟨[("script", .lst (intL ns))], [], []⟩ fun σ' af => af.gives (.bool true) := by
  refine ⟨_, _, ⟨_, _, _, by k_is⟩, by k_is, rfl, rfl, ⟨by rfl, by rfl, rfl, rfl, rfl, fun _ => by rfl, fun _ => by rfl, fun _ => by rfl⟩, fun L => ?_⟩
  have h6 : (intL (ns.take 6)).length ≤ 6 := by rw [intL_length, List.length_take]; lia
  have h6' : (ns.take 6).length ≤ 6 := by rw [List.length_take]; lia
  obtain ⟨hN1, hN4⟩ := lN_ok ns
  obtain ⟨hK1, hK2⟩ := lK_ok ns
  refine sxx_consW (σ2 := ⟨[("numbers", .lst (intL (ns.take 6)))], [], []⟩) (ss_assign (SE.eqv (se_slice (l := none) (u := some ((6 : Nat) : Int)) (seL rfl) sp_none (sp_some se_int) rfl (by rw [intL_length]; lia)) (congrArg AV.lst pick_int))) (St.le_r rfl) ?_
  refine sxx_consW (σ2 := ⟨[("numbers", .lst (intL (ns.take 6))), ("head", .int (lHead ns))], [], []⟩) (ss_assign (se_ifexp (b := !(intL (ns.take 6)).isEmpty) (sb_plain (seL rfl) (t_list rfl (by lia))) (fun h => se_itemL (j := 0) (x := .int (lHead ns)) (seL rfl) se_int rfl (lHead_eq.2 fun q => by rw [q] at h; exact absurd h (by decide)) (by decide)) (fun h => SE.eqv se_int (congrArg AV.int (lHead_eq.1 ?_).symm)))) (St.le_r rfl) ?_
  · cases hq : ns.take 6 with
    | nil => rfl
    | cons y l => rw [hq] at h; exact absurd h (by simp [intL])
  refine sxx_consW (σ2 := ⟨[("numbers", .lst (intL (ns.take 6))), ("head", .int (lHead ns)), ("size", .int (lSize ns))], [], []⟩) (ss_assign (se_ifexp (sb_cmp (se_call (se_builtin b_len (by rfl) (by decide)) kept_builtin (scN (seL rfl) snN) (fn_len_list (l := intL (ns.take 6)) rfl (by lia))) se_int o_gt) (fun h => se_itemL (j := 1) (x := .int (lSize ns)) (seL rfl) se_int rfl (lSize_eq.2 ?_) (by decide)) (fun h => SE.eqv se_int (congrArg AV.int (lSize_eq.1 ?_).symm)))) (St.le_r rfl) ?_
  · have := of_decide_eq_true h; rw [intL_length] at this; lia
  · have := of_decide_eq_false h; rw [intL_length] at this; lia
  refine sxx_consW (σ2 := ⟨[("numbers", .lst (intL (ns.take 6))), ("head", .int (lHead ns)), ("size", .int (lSize ns)), ("n", .int (lN ns : Int))], [], []⟩) (ss_assign (se_itemG (j := lNi ns) (l := natL [4, 3, 3, 4, 2, 1]) (se_list (as := natL [4, 3, 3, 4, 2, 1]) (scN se_int (scN se_int (scN se_int (scN se_int (scN se_int (scN se_int snN)))))) (by decide)) (SE.eqv (se_binop (se_binop (seL rfl) se_int (o_fdiv (by decide) (by decide))) se_int (o_mod (by decide))) (congrArg AV.int (fm (by decide)).1.symm)) rfl n_at (Nat.lt_trans (lNi_lt ns) (by decide)))) (St.le_r rfl) ?_
  refine sxx_consW (σ2 := ⟨lLoc ns, [], []⟩) (ss_assign (SE.eqv (b := .int (lK ns : Int)) (se_binop se_int (se_binop (se_binop (seL rfl) se_int (o_mod (by decide))) (seL rfl) (o_mod (by lia))) o_add) ?_)) (St.le_r rfl) ?_
  · have := (fm (x := (lSize ns).fmod 4) (y := (lN ns : Int)) (by lia)).1
    unfold lK; congr 1; lia
  refine sxx_consW (σ2 := ⟨("rows", .hnd 0) :: lLoc ns, [], [.lst []]⟩) (ss_assign (se_listC snN (by decide) rfl)) (St.le_r rfl) ?_
  obtain ⟨hS1, hS4⟩ := lSrc_len ns
  refine sxx_then (ssx_for (α := Unit) (xs := intL (lSrc ns)) (C := fun _ => True) (mk := fun i _ => ⟨("rows", .hnd 0) :: lLoc ns, [], [] ++ [.lst ((((lSrc ns).take i).map (lRow (lN ns))).map rowV)]⟩) (Inv := fun _ _ => True)
    (SE.eqv (se_orL (l2 := [.int 1]) (se_slice (xs := intL (ns.take 6)) (l := some ((2 : Nat) : Int)) (u := none) (seL rfl) (sp_some se_int) sp_none rfl (by lia)) (se_list (scN se_int snN) (by simp)) ?_) (congrArg AV.lst src_eq)) ((iter_list rfl tg_name).weaken fun _ _ _ _ => rfl) () trivial (St.le_r rfl) (fun _ _ _ => trivial) fun i _ y hy _ => ?_) fun σ' af h => ⟨h.1, ?_⟩
  · rw [pick_from, List.length_drop]; lia
  · refine eEA (intL_get hy) ?_; rintro v hv rfl
    refine ⟨_, tgt_cell ⟨L + 1, rfl, cell4 rfl⟩, ?_⟩
    have hb4 := ball_len (k := lN ns) (x := v)
    refine sxx_consW (σ2 := ⟨("rows", .hnd 0) :: lLoc ns, [], [] ++ [.lst ((((lSrc ns).take (i + 1)).map (lRow (lN ns))).map rowV)]⟩) (ss_expr (se_mcall (seL rfl) (o_append (listOf_at (cell_last (μ := [])))) kept_builtin (scN (SE.eqv (b := rowV (lRow (lN ns) v)) (se_tuple (as := [.lst (natL (ball (lN ns) v)), .int (1 + (v.natAbs : Int).fdiv 16)]) (scN (SE.eqv (b := .lst (natL (ball (lN ns) v))) (se_comp [("number", L + 1)] [("number", .int v)] (fun y => Builtin.bitAnd (shr v (toI y)) 1 != 0) id (se_call (se_builtin b_range (by rfl) (by decide)) kept_type (scN (seL rfl) snN) fn_range1) (iter_range (by lia) (by lia) fun _ _ => rfl) (fun _ => trivial) (by rw [rngL_nat, natL_length, List.length_range]; lia) (fun Ca j y hy acc => ?_) ⟨rfl, trivial⟩ ⟨rfl, rfl, trivial⟩) (congrArg AV.lst (rng_filter fun c => rfl))) (scN (se_binop se_int (se_binop (se_call (se_builtin b_abs (by rfl) (by decide)) kept_builtin (scN (se_cell rfl) snN) fn_abs) se_int (o_fdiv (by decide) (by decide))) o_add) snN)) (by simp)) rfl) snN) sks_nil (fn_append (cell_last (μ := [])) rowV_pure (by rw [List.length_map, List.length_map, List.length_take]; lia)))) (St.le_of ⟨rfl, rfl, rfl, rfl, rfl, rfl, trivial⟩ trivial (row_app (μ := []) hv)) ?_
    · rw [rngL_nat] at hy
      refine eEA (natL_get hy) ?_; rintro c hc rfl
      exact ⟨_, _, tgt_local, tst_one (sb_plain (se_binop (se_binop (se_cell rfl) (seL rfl) (o_shr (Int.natCast_nonneg c))) se_int o_and) t_int), St.le_r rfl, fun _ => ⟨_, seL rfl, St.le_r rfl, rfl⟩⟩
    exact sxx_nil ⟨rfl, (), trivial, St.le_r rfl⟩
  refine eAEA h ?_; clear h; rintro rfl _ _ rfl
  rw [intL_length, List.take_length]
  generalize hc0 : Cell.lst (((lSrc ns).map (lRow (lN ns))).map rowV) = c0
  refine sxx_consW (σ2 := ⟨("way", .str (wayS (lBb ns))) :: ("rows", .hnd 0) :: lLoc ns, [], [c0]⟩) (ss_assign (se_itemG (j := lBi ns) (l := [.str "brute-force", .str "branch-and-bound"]) (se_list (scN se_str (scN se_str snN)) (by decide)) (SE.eqv (se_binop (se_binop (seL rfl) se_int (o_fdiv (by decide) (by decide))) se_int (o_mod (by decide))) (congrArg AV.int (fm (by decide)).1.symm)) rfl way_at.1 (Nat.lt_trans way_at.2 (by decide)))) (St.le_r rfl) ?_
  have hrows0 : listOfAV [c0] (.hnd 0) = some (((lSrc ns).map (lRow (lN ns))).map rowV) := by rw [← hc0]; rfl
  refine sxx_then (P' := fun σ' af => af = .next ∧ ∃ a, listOfAV [c0] a = some ((lRows ns).map rowV) ∧ (⟨("way", .str (wayS (lBb ns))) :: ("rows", a) :: lLoc ns, [], [c0]⟩ : St).le σ') ?_ fun σ1 af h => ⟨h.1, ?_⟩
  · have hw : (wayS (lBb ns) == ("branch-and-bound" : Str)) = lBb ns := by cases lBb ns <;> decide +kernel
    by_cases h4 : lN ns = 4
    · by_cases hb : lBb ns = true
      · have hR : (lRows ns) = ((lSrc ns).map (lRow (lN ns))).take (if lK ns = 3 then 2 else 3) := by unfold lRows; rw [if_pos ⟨h4, hb⟩]
        refine ssx_if (b := true) (sb_and_t (sb_cmpE (seL rfl) se_int o_eq (by rw [h4]; rfl)) (sb_and_t (sb_cmpE (seL rfl) se_str o_eqs (hw.trans hb)) sb_and_nil)) (fun _ => ?_) (fun q => by cases q)
        refine sxC (ss_assign (SE.eqv (b := .lst ((lRows ns).map rowV)) (se_slice (l := none) (u := some ((if lK ns = 3 then 2 else 3 : Nat) : Int)) (seL rfl) sp_none (sp_some (se_ifexp (sb_cmp (seL rfl) se_int o_eq) (fun h => SE.eqv se_int ?_) (fun h => SE.eqv se_int ?_))) hrows0 (by rw [List.length_map, List.length_map]; lia)) ?_)) ?_
        · have : lK ns = 3 := by have := eq_of_beq h; lia
          rw [if_pos this]; rfl
        · have : ¬ lK ns = 3 := fun q => by rw [q] at h; exact absurd h (by decide)
          rw [if_neg this]; rfl
        · rw [pick_take, hR, List.map_take]
        · exact sxx_nil ⟨rfl, _, rfl, St.le_r rfl⟩
      · have hR : (lRows ns) = (lSrc ns).map (lRow (lN ns)) := by unfold lRows; rw [if_neg fun q => hb q.2]
        refine ssx_if (b := false) (sb_and_t (sb_cmpE (seL rfl) se_int o_eq (by rw [h4]; rfl)) (sb_and_f (sb_cmpE (seL rfl) se_str o_eqs (hw.trans (by simpa using hb))))) (fun q => by cases q) (fun _ => ?_)
        exact sxx_nil ⟨rfl, _, by rw [hR]; exact hrows0, St.le_r rfl⟩
    · have hR : (lRows ns) = (lSrc ns).map (lRow (lN ns)) := by unfold lRows; rw [if_neg fun q => h4 q.1]
      refine ssx_if (b := false) (sb_and_f (sb_cmpE (seL rfl) se_int o_eq (by rw [beq_eq_false_iff_ne]; lia))) (fun q => by cases q) (fun _ => ?_)
      exact sxx_nil ⟨rfl, _, by rw [hR]; exact hrows0, St.le_r rfl⟩
  refine eAEA h ?_; clear h; rintro _ a ha hle
  refine TX.le ?_ hle
  -- the facts that are left
  obtain ⟨hR1, hR4⟩ := lRows_len ns
  have hmd := lMd_ok ns
  refine eAA (rules_at (ns := ns)) ?_; rintro hr1 hr2 hr3
  have hrow : ∀ v ∈ lRows ns, v.1 ∈ S16 ∧ (∀ y ∈ v.1, y < lN ns) ∧ v.1.Nodup ∧ 0 < v.2 := fun v hv => by
    obtain ⟨x, rfl⟩ := lRows_mem hv
    refine eAA (ball_ok hN1 hN4 x) ?_; rintro b1 b2 b3
    exact ⟨b1, b2, b3, lRow_pos _ x⟩
  refine sxx_consW (σ2 := ⟨("name", .str (lR ns).nm) :: ("way", .str (wayS (lBb ns))) :: ("rows", a) :: lLoc ns, [], [c0]⟩) (ss_assign (se_itemG (j := lRi ns) (l := rules.map fun r => AV.str r.nm) (se_list (as := rules.map fun r => AV.str r.nm) (scN se_str (scN se_str (scN se_str (scN se_str (scN se_str snN))))) (by decide)) (SE.eqv (se_binop (seL rfl) se_int (o_mod (by decide))) (congrArg AV.int (fm (by decide)).1.symm)) rfl hr1 (Nat.lt_trans hr3 (by decide)))) (St.le_r rfl) ?_
  refine @sxx_assignCW w (n + 18) _ _ ⟨("name", .str (lR ns).nm) :: ("way", .str (wayS (lBb ns))) :: ("rows", a) :: lLoc ns, [], [c0]⟩ ⟨("name", .str (lR ns).nm) :: ("way", .str (wayS (lBb ns))) :: ("rows", a) :: lLoc ns, [("gains", .lst (intL (lR ns).gains))], [c0]⟩ _ (.lst (intL (lR ns).gains)) _ _ _ _ _ ?hg ⟨L + 2, rfl, cell4 rfl⟩ rfl rfl ?hs (St.le_r rfl) ?hr
  case hg =>
    refine @se_itemG _ _ _ _ ⟨("name", .str (lR ns).nm) :: ("way", .str (wayS (lBb ns))) :: ("rows", a) :: lLoc ns, [], [c0]⟩ _ _ (.lst (rules.map fun r => AV.lst (intL r.gains))) (.lst (intL (lR ns).gains)) (rules.map fun r => AV.lst (intL r.gains)) _ _ (lRi ns) ?hl ?hi rfl hr2 (Nat.lt_trans hr3 (by decide)) (by intros; with_unfolding_all rfl)
    case hi => exact SE.eqv (se_binop (seL rfl) se_int (o_mod (by decide))) (congrArg AV.int (fm (by decide)).1.symm)
    refine @se_listN _ _ _ _ _ _ _ (rules.map fun r => AV.lst (intL r.gains)) 5 ?_ rfl (by decide)
    iterate 5 refine @ses_l4 _ _ _ _ _ _ _ _ _ _ _ _ _ _ _ _ _ _ _ _ ?_
    exact snN
  case hs => kernel_rfl
  generalize hr : lR ns = r
  generalize hrs : lRows ns = rows at ha hR1 hR4 hrow
  have hrs16 : ∀ v ∈ rows, v.1 ∈ S16 := fun v hv => (hrow v hv).1
  refine eAAA (combs_ok (lN ns) (in4 (by lia) hN4) (lK ns) (in4 (by lia) (by lia)) hK2) ?_; rintro c6 cne call cpw
  have hcs := combs_s16 (k := lN ns) (kc := lK ns) (by lia) hK2 hN4
  have hrl : (rows.map rowV).length ≤ 4 := by rw [List.length_map]; exact hR4
  refine sxx_consW (σ2 := ⟨("worth", .hnd 1) :: ("name", .str r.nm) :: ("way", .str (wayS (lBb ns))) :: ("rows", a) :: lLoc ns, [("gains", .lst (intL r.gains))], [c0, .lst []]⟩) (ss_assign (se_listC snN (by decide) rfl)) (St.le_r rfl) ?_
  refine sxx_then (ssx_for (α := Unit) (xs := (combs (lN ns) (lK ns)).map (com true)) (C := fun _ => True) (mk := fun i _ => ⟨("worth", .hnd 1) :: ("name", .str r.nm) :: ("way", .str (wayS (lBb ns))) :: ("rows", a) :: lLoc ns, [("gains", .lst (intL r.gains))], [c0, .lst (((combs (lN ns) (lK ns)).take i).map (worV r rows))]⟩) (Inv := fun _ _ => True)
    (se_call (se_glob g_choices) (kept_ref (by k_is)) (scN (seL rfl) (scN (seL rfl) snN)) (f_choices (n := n + 14) hK1 hK2 hN4).fn) ((iter_list rfl tg_name).weaken fun _ _ _ _ => rfl) () trivial (St.le_r rfl) (fun _ _ _ => trivial) fun i _ y hy _ => ?_) fun σ' af h => ⟨h.1, ?_⟩
  · rw [List.getElem?_map] at hy
    cases hc : (combs (lN ns) (lK ns))[i]? with
    | none => rw [hc] at hy; cases hy
    | some c =>
      rw [hc] at hy; cases hy
      refine ⟨_, tgt_cell ⟨L + 3, rfl, cell4 rfl⟩, ?_⟩
      refine sxx_consW (σ2 := ⟨("worth", .hnd 1) :: ("name", .str r.nm) :: ("way", .str (wayS (lBb ns))) :: ("rows", a) :: lLoc ns, [("gains", .lst (intL r.gains))], [c0, .lst (((combs (lN ns) (lK ns)).take (i + 1)).map (worV r rows))]⟩) (ss_expr (se_mcall (seL rfl) (o_append (listOf_at rfl)) kept_builtin (scN (SE.eqv (b := worV r rows c) (se_tuple (as := [.int (pts r rows c), com true c]) (scN (se_call (se_builtin b_sum (by rfl) (by decide)) kept_builtin (scN (SE.eqv (b := .lst (intL (rows.map fun v => v.2 * (r.gains.take (hits v.1 c)).sum))) (se_comp [("members", L + 3), ("gains", L + 2)] [("members", com true c), ("gains", .lst (intL r.gains))] (fun _ => true) (eltV r c) (seL rfl) (iter_list (list1 ha) (.inr ⟨⟨_, _, _, rfl⟩, fun x hx => eEA (List.mem_map.mp hx) fun v _ q => ⟨_, q.symm⟩⟩)) (fun acc => list2 ha) (by lia) (fun Ca j y hy acc => ?_) ⟨rfl, rfl, trivial⟩ ⟨rfl, rfl, rfl, rfl, trivial⟩) (congrArg AV.lst elts_row)) snN) (fn_sum rfl)) (scN (se_cell rfl) snN)) (by simp)) rfl) snN) sks_nil (fn_append (i := 1) rfl worV_pure (by rw [List.length_map, List.length_take]; lia)))) (St.le_of ⟨rfl, rfl, rfl, rfl, rfl, rfl, rfl, rfl, rfl, trivial⟩ ⟨rfl, trivial⟩ (wor_app hc)) ?_
      · rw [List.getElem?_map] at hy
        cases hv : rows[j]? with
        | none => rw [hv] at hy; cases hy
        | some v =>
          rw [hv] at hy; cases hy
          have h16 := hits_ok v.1 (hrs16 v (List.mem_of_getElem? hv)) c (hcs c (List.mem_of_getElem? hc))
          have hvl := s16_len _ (hrs16 v (List.mem_of_getElem? hv))
          have hgs := gains_sum r (hits v.1 c)
          refine ⟨_, _, tgt_tuple (tgts_cons tgt_local (tgts_cons tgt_local tgts_nil)), tst_nil, St.le_r rfl, fun _ => ⟨_, SE.eqv (se_binop (seL rfl) (se_call (se_builtin b_sum (by rfl) (by decide)) kept_builtin (scN (se_slice (l := none) (u := some (hits v.1 c : Int)) (se_cell rfl) sp_none (sp_some (se_call (se_glob g_hits) (kept_ref (by k_is)) (scN (seL rfl) (scN (se_cell rfl) snN)) (f_hitsN (n := n + 16) (bs := v.1) (cs := c) (by lia)).fn)) rfl (by rw [intL_length]; cases r <;> decide)) snN) (fn_sum (ns := r.gains.take (hits v.1 c)) (congrArg some pick_int))) (o_mul (mul_small hgs.1 (by lia)))) eltV_row.symm, St.le_r rfl, by rw [eltV_row]; rfl⟩⟩
      exact sxx_nil ⟨rfl, (), trivial, St.le_r rfl⟩
  refine eAEA h ?_; clear h; rintro rfl _ _ rfl
  rw [List.length_map, List.take_length]
  have hcl : ((combs (lN ns) (lK ns)).map (worV r rows)).length ≤ 6 := by rw [List.length_map]; exact c6
  have wget : ∀ {i : Nat} {y : AV}, ((combs (lN ns) (lK ns)).map (worV r rows))[i]? = some y → ∃ c ∈ combs (lN ns) (lK ns), y = worV r rows c := fun {i y} e => by
    refine eEA (List.mem_map.mp (List.mem_of_getElem? e)) ?_; rintro c h1 h2; exact ⟨c, h1, h2.symm⟩
  have wtup : ∀ x ∈ (combs (lN ns) (lK ns)).map (worV r rows), ∃ ys, x = .tup ys := fun x hx => eEA (List.mem_map.mp hx) fun v _ q => ⟨_, q.symm⟩
  generalize hB : mx ((combs (lN ns) (lK ns)).map (pts r rows)) = B
  refine sxx_consW (σ2 := ⟨("worth", .hnd 1) :: ("name", .str r.nm) :: ("way", .str (wayS (lBb ns))) :: ("rows", a) :: lLoc ns, [("gains", .lst (intL r.gains)), ("best", .int B)], [c0, .lst ((combs (lN ns) (lK ns)).map (worV r rows))]⟩) (ss_assignC (se_call (se_builtin b_max (by rfl) (by decide)) kept_builtin (scN (SE.eqv (b := .lst (intL ((combs (lN ns) (lK ns)).map (pts r rows)))) (se_comp [] [] (fun _ => true) fstV (seL rfl) (iter_list (listOf_at (i := 1) rfl) (.inr ⟨⟨_, _, _, rfl⟩, wtup⟩)) (fun acc => rfl) (by lia) (fun Ca i y hy acc => ?_) trivial trivial) (congrArg AV.lst fst_wor)) snN) (fn_max (M := B) rfl (by rw [← hB]; exact mx_mem (by simpa using cne)) (by rw [← hB]; exact mx_le))) ⟨L + 4, rfl, cell4 rfl⟩) (St.le_r rfl) ?_
  · refine eEA (wget hy) ?_; rintro c hc rfl
    exact ⟨_, _, tgt_tuple (tgts_cons tgt_local (tgts_cons tgt_local tgts_nil)), tst_nil, St.le_r rfl, fun _ => ⟨_, seL rfl, St.le_r rfl, rfl⟩⟩
  have hW := due_wins (r := r) hrs16 (by lia) hK2 hN4
  rw [hB] at hW
  generalize hWg : wins r (vtOf rows) (lN ns) (lK ns) = W at hW
  refine sxx_consW (σ2 := ⟨("due", .lst (W.map (com false))) :: ("name", .str r.nm) :: ("way", .str (wayS (lBb ns))) :: ("rows", a) :: lLoc ns, [("gains", .lst (intL r.gains)), ("best", .int B)], [c0, .lst ((combs (lN ns) (lK ns)).map (worV r rows))]⟩) (ss_comp [("best", L + 4)] [("best", .int B)] (isB B) sndV (seL rfl) (iter_list (listOf_at (i := 1) rfl) (.inr ⟨⟨_, _, _, rfl⟩, wtup⟩)) (fun acc => rfl) (by lia) (fun Ca i y hy acc => ?_) ⟨rfl, trivial⟩ ⟨rfl, rfl, trivial⟩) (St.le_of ⟨?_, rfl, rfl, rfl, rfl, rfl, rfl, rfl, rfl, trivial⟩ ⟨rfl, rfl, trivial⟩ rfl) ?_
  · refine eEA (wget hy) ?_; rintro c hc rfl
    have hcl4 := s16_len _ (hcs c hc)
    exact ⟨_, _, tgt_tuple (tgts_cons tgt_local (tgts_cons tgt_local tgts_nil)), tst_one (sb_cmp (seL rfl) (se_cell rfl) o_eq), St.le_r rfl, fun _ => ⟨_, SE.eqv (se_call (se_builtin b_list (by rfl) (by decide)) kept_type (scN (seL rfl) snN) (fn_list_tup (l := natL c) (by rw [natL_length]; lia))) (congrArg (fun l => AV.lst (natL l)) (comN_com (b := true)).symm), St.le_r rfl, com_pure⟩⟩
  · rw [← hW]
    exact congrArg (fun l => some (AV.lst l)) snd_wor
  have hvt : ∀ v ∈ vtOf rows, v.1 ∈ S16 ∧ (∀ x ∈ v.1, x < lN ns) ∧ 0 ≤ v.2 := fun v hv => by
    refine eEA (List.mem_map.mp hv) ?_; rintro u hu rfl
    refine eAAA (hrow u hu) ?_; rintro b1 b2 b3 b4
    have h3 := (hits_ok u.1 b1 u.1 b1).2.2
    exact ⟨by show toSet u.1 ∈ S16; rw [h3]; exact b1, by show ∀ x ∈ toSet u.1, _; rw [h3]; exact b2, Int.le_of_lt b4⟩
  have hvl : (vtOf rows).length ≤ 4 ∧ vtOf rows ≠ [] := ⟨by unfold vtOf; rw [List.length_map]; exact hR4, fun q => by have := congrArg List.length q; unfold vtOf at this; rw [List.length_map] at this; simp at this; subst this; simp at hR1⟩
  refine sxx_consW (σ2 := ⟨("made", .prof (lN ns) (vtL (vtOf rows))) :: ("due", .lst (W.map (com false))) :: ("name", .str r.nm) :: ("way", .str (wayS (lBb ns))) :: ("rows", a) :: lLoc ns, [("gains", .lst (intL r.gains)), ("best", .int B)], [c0, .lst ((combs (lN ns) (lK ns)).map (worV r rows))]⟩) (ss_assign (se_call (se_glob g_made) (kept_ref (by k_is)) (scN (seL rfl) (scN (seL rfl) snN)) (f_made (n := n + 7) (rows := rows) hN1 hN4 (list1 ha) (by lia) (fun v hv => (hrow v hv).2)).fn)) (St.le_r rfl) ?_
  have hWl : W.length ≤ 6 := by rw [← hW]; exact Nat.le_trans (List.length_filter_le _ _) c6
  have hMi := (fm (x := (lHead ns).fdiv 10) (y := 3) (by decide))
  have hMd : lMd ns = if lMi ns = 0 then .all else if lMi ns = 1 then .one else .top (lMost ns) := rfl
  refine sxx_join1 (σ2 := ⟨("told", .lst (setsL ((lMd ns).cut W))) :: ("due", .lst (((lMd ns).cut W).map (com false))) :: ("made", .prof (lN ns) (vtL (vtOf rows))) :: ("name", .str r.nm) :: [], [("gains", .lst (intL r.gains)), ("best", .int B)], [c0, .lst ((combs (lN ns) (lK ns)).map (worV r rows))]⟩) ?_ ?_
  · by_cases h0 : lMi ns = 0
    · have hM : lMd ns = .all := by rw [hMd, if_pos h0]
      rw [hM]
      refine sxx_ifT (sb_cmpE (se_binop (se_binop (seL rfl) se_int (o_fdiv (by decide) (by decide))) se_int (o_mod (by decide))) se_int o_eq  (by unfold lMi at h0; rw [beq_iff_eq]; lia)) ?_
      refine sxC (ss_assign (se_callK (se_glob g_cmp) (kept_ref (by k_is)) (scN (seL rfl) (scN (seL rfl) (scN (seL rfl) snN))) (sks_cons (seL rfl) sks_nil) (FC.eq (f_cmp (n := n) r .all (lBb ns) (by rw [← hM]; exact lMd_ok ns) hK1 hK2 hN4 hvt hvl.2 (by lia) (lt := .bool false) (fun fd hf => hb_of ⟨_, _, _, by k_is⟩ (hbD rfl (by k_is) fun hb ρ vs kvs hv hk => by
        refine eEEEAAA hv.inv3 ?_; rintro _ _ _ rfl h1 h2 h3; refine eEA hk.inv1 ?_; rintro _ rfl g1
        exact ⟨_, _, by rfl, by rfl, .cons h1 (.cons h2 (.cons h3 (.cons g1 (.cons (.bool false) (.cons .none (.cons (.bool false) .nil))))))⟩) hf)) (by rw [hWg])).fn)) ?_
      exact sxx_nil (sxx_nil ⟨rfl, (St.le_r rfl)⟩)
    · refine sxx_ifF (sb_cmpE (se_binop (se_binop (seL rfl) se_int (o_fdiv (by decide) (by decide))) se_int (o_mod (by decide))) se_int o_eq  (by unfold lMi at h0; rw [beq_eq_false_iff_ne]; lia)) ?_
      by_cases h1 : lMi ns = 1
      · have hM : lMd ns = .one := by rw [hMd, if_neg h0, if_pos h1]
        rw [hM]
        refine sxx_ifT (sb_cmpE (se_binop (se_binop (seL rfl) se_int (o_fdiv (by decide) (by decide))) se_int (o_mod (by decide))) se_int o_eq  (by unfold lMi at h1; rw [beq_iff_eq]; lia)) ?_
        refine sxC (ss_assign (se_callK (se_glob g_cmp) (kept_ref (by k_is)) (scN (seL rfl) (scN (seL rfl) (scN (seL rfl) snN))) (sks_cons (seL rfl) (sks_cons se_bool (sks_cons se_bool sks_nil))) (FC.eq (f_cmp (n := n) r .one (lBb ns) (by rw [← hM]; exact lMd_ok ns) hK1 hK2 hN4 hvt hvl.2 (by lia) (lt := .bool true) (fun fd hf => hb_of ⟨_, _, _, by k_is⟩ (hbD rfl (by k_is) fun hb ρ vs kvs hv hk => by
        refine eEEEAAA hv.inv3 ?_; rintro _ _ _ rfl h1 h2 h3; refine eEEEAAA hk.inv3 ?_; rintro _ _ _ rfl g1 g2 g3
        exact ⟨_, _, by rfl, by rfl, .cons h1 (.cons h2 (.cons h3 (.cons g1 (.cons g2 (.cons .none (.cons g3 .nil))))))⟩) hf)) (by rw [hWg])).fn)) ?_
        refine sxC (ss_assign (SE.eqv (b := .lst ((Md.cut .one W).map (com false))) (se_slice (l := none) (u := some ((1 : Nat) : Int)) (seL rfl) sp_none (sp_some se_int) rfl (by rw [List.length_map]; lia)) (by rw [pick_take, ← cut_map]; rfl))) ?_
        exact sxx_nil (sxx_nil (sxx_nil ⟨rfl, (St.le_r rfl)⟩))
      · have hM : lMd ns = .top (lMost ns) := by rw [hMd, if_neg h0, if_neg h1]
        have hm := (fm (x := (lSize ns).fdiv 24) (y := 3) (by decide)).1
        rw [hM]
        refine sxx_ifF (sb_cmpE (se_binop (se_binop (seL rfl) se_int (o_fdiv (by decide) (by decide))) se_int (o_mod (by decide))) se_int o_eq  (by unfold lMi at h1; rw [beq_eq_false_iff_ne]; lia)) ?_
        refine sxC (ss_assign (SE.eqv (b := .int (lMost ns : Int)) (se_binop se_int (se_binop (se_binop (seL rfl) se_int (o_fdiv (by decide) (by decide))) se_int (o_mod (by decide))) o_add) (by unfold lMost; congr 1; lia))) ?_
        refine sxC (ss_assign (se_callK (se_glob g_cmp) (kept_ref (by k_is)) (scN (seL rfl) (scN (seL rfl) (scN (seL rfl) snN))) (sks_cons (seL rfl) (sks_cons (seL rfl) sks_nil)) (FC.eq (f_cmp (n := n) r (.top (lMost ns)) (lBb ns) (by rw [← hM]; exact lMd_ok ns) hK1 hK2 hN4 hvt hvl.2 (by lia) (lt := .bool false) (fun fd hf => hb_of ⟨_, _, _, by k_is⟩ (hbD rfl (by k_is) fun hb ρ vs kvs hv hk => by
        refine eEEEAAA hv.inv3 ?_; rintro _ _ _ rfl h1 h2 h3; refine eEEAA hk.inv2 ?_; rintro _ _ rfl g1 g2
        exact ⟨_, _, by rfl, by rfl, .cons h1 (.cons h2 (.cons h3 (.cons g1 (.cons (.bool false) (.cons g2 (.cons (.bool false) .nil))))))⟩) hf)) (by rw [hWg])).fn)) ?_
        refine sxC (ss_assign (SE.eqv (b := .lst ((Md.cut (.top (lMost ns)) W).map (com false))) (se_slice (l := none) (u := some (lMost ns : Int)) (seL rfl) sp_none (sp_some (seL rfl)) rfl (by rw [List.length_map]; lia)) (by rw [pick_take, ← cut_map]; rfl))) ?_
        exact sxx_nil (sxx_nil (sxx_nil ⟨rfl, (St.le_r rfl)⟩))
  · have hWm : ∀ c ∈ W, c ∈ combs (lN ns) (lK ns) ∧ pts r rows c = B := fun c hc => by
      rw [← hW] at hc
      obtain ⟨h1, h2⟩ := List.mem_filter.mp hc
      exact ⟨h1, eq_of_beq h2⟩
    have hWn : W ≠ [] := by rw [← hWg]; exact wins_ne (by lia) hK2 hN4
    refine eEE (List.exists_cons_of_ne_nil hWn) ?_; rintro c1 W' hcw
    obtain ⟨l', hl'⟩ := cut_cons (md := lMd ns) hmd (c := c1) (l := W')
    rw [← hcw] at hl'
    have hVm : ∀ c ∈ (lMd ns).cut W, c ∈ combs (lN ns) (lK ns) ∧ pts r rows c = B := fun c hc => hWm c (cut_mem hc)
    have hVl : ((lMd ns).cut W).length ≤ 6 := Nat.le_trans (cut_len _) hWl
    generalize (lMd ns).cut W = V at hl' hVm hVl
    refine sxx_ifNe (sb_cmp (seL rfl) (SE.eqv (b := .lst (setsL V)) (se_comp [] [] (fun _ => true) (fun y => .set (toSet (comN y))) (seL rfl) (iter_list rfl tg_name) (fun acc => rfl) (by rw [List.length_map]; lia) (fun Ca i y hy acc => ?_) trivial trivial) ?_) (o_ne_sets rfl rfl)) (by rw [beq_self_eq_true]; rfl) ?_
    · refine eEA (List.mem_map.mp (List.mem_of_getElem? hy)) ?_; rintro c hc rfl
      refine eAAA (call c (hVm c hc).1) ?_; rintro _ q2 q3 q4
      exact ⟨_, _, tgt_local, tst_nil, St.le_r rfl, fun _ => ⟨_, SE.eqv (se_call (se_builtin b_set (by rfl) (by decide)) kept_type (scN (seL rfl) snN) ((argOk_list (fun y hy => Nat.lt_of_lt_of_le (q2 y hy) hN4) q3).set (n + 16))) (congrArg (fun l => AV.set (toSet l)) (comN_com (b := false)).symm), St.le_r rfl, rfl⟩⟩
    · rw [List.filter_eq_self.mpr fun _ _ => rfl, List.map_map]
      refine congrArg AV.lst (List.map_congr_left fun c hc => ?_)
      show AV.set (toSet (comN (com false c))) = .set c
      rw [comN_com, (call c (hVm c hc).1).2.2.2]
    subst hl'
    obtain ⟨q1, q2⟩ := hVm c1 (List.mem_cons_self ..)
    have hsc : sc r (vtOf rows) c1 = B := by rw [← pts_sc hrs16 (hcs c1 q1)]; exact q2
    have hG := r.G_pos
    refine sxC (ss_assign (se_call (se_glob g_score) (kept_ref (by k_is)) (scN (seL rfl) (scN (seL rfl) (scN (se_itemL (j := 0) (l := setsL (c1 :: l')) (x := .set c1) (seL rfl) se_int rfl rfl (by lia)) snN))) (f_score (n := n + 13) r (argOk_set (hcs c1 q1)) rfl).fn)) ?_
    have hg0 : (intL r.gains)[0]? = some (.int (r.G : Int)) := by cases r <;> rfl
    have hGl := r.G_le
    refine sxx_stop (ss_return (se_cmp (se_binop (se_attr (seL rfl) o_num) (se_itemL (j := 0) (se_cell rfl) se_int rfl hg0 (by lia)) (o_mul (mul_small (by lia) (by lia)))) (se_binop (se_cell rfl) (se_attr (seL rfl) o_den) (o_mul (mul_small (by lia) (by have := de_le (G := r.G) (M := sc r (vtOf rows) c1); lia)))) o_eq)) ?_
    show AV.bool _ = AV.bool true
    rw [hsc, nu_de hG]
    exact congrArg AV.bool (beq_self_eq_true _)
end
section
variable {w : World} {n : Nat}
set_option maxRecDepth 100000 in
theorem k_noTB : ∀ p ∈ (Internal.hd.heap_1 w.params), p.1 ∉ TB := by
  have h : ((Internal.hd.heap_1 w.params).map (·.1)).all (fun a => !(a == 25 || a == 32 || a == 40)) = true := by rfl
  intro p hp q
  have := List.all_eq_true.mp h p.1 (List.mem_map_of_mem hp)
  simp only [TB, List.mem_cons, List.not_mem_nil, or_false] at q
  rcases q with q | q | q <;> rw [q] at this <;> exact absurd this (by decide)
noncomputable def bare0 (h : Heap) : Heap := mkHeap h.objs.size fun b => if b ∈ TB then none else h.get? b
theorem bare0_get (h : Heap) (b : Addr) : (bare0 h).get? b = if b ∈ TB then none else h.get? b := by
  refine mkHeap_get (fun b o e => ?_) b
  split at e
  · cases e
  · exact ⟨Heap.lt_size e, (Heap.get?_some_iff.mp e).2⟩
theorem bare0_in {h : Heap} {b : Addr} {o : Obj} (hb : b ∉ TB) (e : h.get? b = some o) : (bare0 h).get? b = some o := by
  rw [bare0_get, if_neg hb]; exact e
theorem bare0_stays (h : Heap) : (bare0 h).StaysIn h := fun b o e => by
  rw [bare0_get] at e
  split at e
  · cases e
  · exact e
theorem tab_code {h : Heap} (X : (Internal.hd.heap_1 w.params).In h) : ∀ P ∈ TB, isCodeTable h P := fun P hP => by
  have key : ∀ {c}, CodeHd h c P → isCodeTable h P := fun {c} x => ⟨c, x.imp fun _ y => y.imp fun _ z => by
    iterate 7 refine z.elim fun _ z => ?_
    exact ⟨z.1, z.2.1, z.2.2.1, z.2.2.2.1⟩⟩
  simp only [TB, List.mem_cons, List.not_mem_nil, or_false] at hP
  rcases hP with rfl | rfl | rfl
  · exact key (codeHd_of_K X hd25)
  · exact key (codeHd_of_K X hd32)
  · exact key (codeHd_of_K X hd40)
theorem topH_bare {h : Heap} {mg mb : Str → Option Value} (X : (Internal.hd.heap_1 w.params).In h) (g : h.Ns mainGlobals mg) (b : h.Ns builtinsNs mb) (hbi : ∀ x : Str, x ≠ "__name__" → mb x = bootBuiltins x) (nl : h.NoLimit) (nd : ∃ mc, h.Ns cStatics mc ∧ mc "sys.int_max_str_digits" = none)
    {bm : Addr} {ob : Obj} (B : BMod h mainGlobals mg bm ob) (KT : ∀ P ∈ TB, h.get? P = some (tabObj #[])) : TopH w (bare0 h) := by
  have ns : ∀ {a m}, h.Ns a m → (bare0 h).Ns a m := fun {a m} x => by
    refine ns_of x fun o e => bare0_in (fun q => ?_) e
    refine eEEEAA x ?_; clear x; rintro o' es ep e1 e2 _
    rw [KT a q] at e1; cases e1; cases e2
  exact ⟨fun a o e => bare0_in (k_noTB (w := w) (a, o) (lk_mem e)) (X a o e), ⟨mb, ns b, hbi⟩, ⟨mg, ns g⟩, eEA nl fun mc x y => ⟨mc, ns x, y⟩, eEA nd fun mc x y => ⟨mc, ns x, y⟩,
    ⟨mg, bm, ob, ns B.ns, B.name, B.ne, bare0_in (fun q => by have := B.obj; rw [KT bm q] at this; cases this; exact absurd B.cls (by decide)) B.obj, B.cls, B.dict, B.data⟩⟩
theorem law_top {s : Shared} {ns : List Int} {la : Addr} {vs : List Value} {Q E : Value → Shared → Prop} (X : (Internal.hd.heap_1 w.params).In s.heap) (KT : ∀ P ∈ TB, s.heap.get? P = some (tabObj #[])) (T : TopH w (bare0 s.heap)) (hg : s.gens = #[])
    (hl : s.heap.get? la = some (listOf vs.toArray 0)) (hi : IntsAre vs ns) (hns : ns.length ≤ 100) (k : ∀ s', OldK s.heap s'.heap → s'.os = s.os → AllBare s'.gens → Q (.bool true) s') : wpAny (model PRG w) callerA (call (.ref 647) [.ref la] []) Q E s := by
  refine eEEAAAAA (law_body (w := w) (n := 0) ns hns) ?_; rintro fd body hK hcd hbody hclo ⟨hkeys, hnd, hco, hgen, hk, hba, hlo, hce⟩ hb
  refine eEEE hK ?_; clear hK; rintro oc od osl hKf
  have hfun := X _ _ hKf
  have h648 : 648 ≤ s.heap.objs.size := Heap.lt_size hfun
  have hlaT : la ∉ TB := fun q => by rw [KT la q] at hl; cases hl
  have hv : VRel w (bare0 s.heap) [] (.lst (intL ns)) (.ref la) := .lst ⟨0, bare0_in hlaT hl⟩ (ints_VRels hi)
  refine eEA (hb1_ (a := .lst (intL ns)) hba (bare0 s.heap) [] s [.ref la] [] T (bare0_stays _) (.cons hv .nil) .nil) ?_; rintro binds hbs hkr
  have hkeys' := hkr.keys
  have hkk : ∀ m, ∀ x ∈ [("script" : Str)], fd.scope.names.lookup x = some .local ∨ (fd.scope.names.lookup x = some .cell ∧ ((cellsFrom m fd.scope.names []).lookup x).isSome = true) := fun m x hx => by
    have := List.all_eq_true.mp hkeys x hx
    rw [Bool.or_eq_true] at this
    rcases this with h | h
    · exact .inl (of_decide_eq_true h)
    · rw [Bool.and_eq_true] at h
      exact .inr ⟨of_decide_eq_true h.1, lookup_isSome (by rw [cellsFrom_key fd.scope.names m 0 [] [] rfl]; simpa using h.2)⟩
  have hkd : ∀ x ∈ binds, fd.scope.names.lookup x.1 = some .local ∨ (fd.scope.names.lookup x.1 = some .cell ∧ ((cellsFrom (s.heap.objs.size + 1) fd.scope.names []).lookup x.1).isSome = true) := fun x hx =>
    hkk _ x.1 (by have := List.mem_map_of_mem (f := (·.1)) hx; rw [hkeys'] at this; exact this)
  have hnd' : ((cellsFrom (s.heap.objs.size + 1) fd.scope.names []).map (·.1)).Nodup := by rw [cellsFrom_key fd.scope.names _ 0 [] [] rfl]; exact nodup_of hnd
  refine wpAny_call (codeAny_call_function (by decide +kernel) hfun rfl hco hgen hbody (codeRec_of X hcd) (hbs _ _ _ _ ?_))
  rw [hclo]
  refine wpAny_newFunctionEnv_cells hk hkd (fun env henv s1 hin => ?_)
  subst henv
  obtain ⟨⟨⟨h1, tk, rfl⟩, hns1, hkeep, hfresh⟩, hcell, hap, habove⟩ := hin
  dsimp only at hns1 hkeep hcell
  have hnl : s.heap.NoLimit := T.nolimit.keeps (bare0_stays _)
  refine ⟨hnl.keeps hkeep, codeAny_func ?_⟩
  have hadr : ∀ a ∈ fp (callEnvC fd s.heap.objs.size 647), Dead s.heap a ∧ Live h1 a := fun a ha => by
    rcases List.mem_cons.mp ha with rfl | ha
    · exact ⟨dead_of_le (Nat.le_refl _), live_ns hns1⟩
    · refine eEA (List.mem_map.mp ha) ?_; rintro ⟨x, c⟩ hxc rfl
      exact ⟨dead_of_le (Nat.le_of_lt (habove x c hxc)), live_cell (hcell x c (lookup_of_mem hnd' hxc))⟩
  have hM : RelM w (bare0 s.heap) [] { s with heap := h1, toks := tk } [] :=
    ⟨T, fun b o e => hkeep b o (bare0_stays _ b o e), fun P hP => ⟨⟨⟨#[], by first | trivial | simp | rfl⟩, hkeep P _ (KT P hP)⟩, by rw [bare0_get, if_pos hP]⟩, .of_eq hg, rfl, fun n a c e => (by simp at e), fun c hc => (by cases hc), .nil, fun a ha => (by cases ha), ⟨_, _, h648, hns1, by simp⟩⟩
  refine hb s.heap.objs.size (callerA.deeper (callEnvC fd s.heap.objs.size 647)) (bare0 s.heap) [] { s with heap := h1, toks := tk } _ _ ⟨rfl, (by decide +kernel : callerA.depth + 1 + 18 < 700), (by decide +kernel : callerA.units + 3 + 20 * 18 < 8000)⟩ ⟨hM, ⟨_, hns1, ?_⟩, fun x c e => ⟨_, hcell x c e, ?_⟩, fun x av e => (by cases e), ?_, fun a ha => ?_, h648⟩ fun hb' ρ' s' fl σ' X' R' hfl => ?_
  · have := bindL_LR (w := w) (ko := (fd.scope.names.lookup ·)) hkr (l := []) (m := fun _ => none) (fun _ _ e => by cases e)
    rw [List.append_nil, hlo] at this
    exact this
  · intro av q; cases q
  · refine List.nodup_cons.mpr ⟨fun q => ?_, List.pairwise_map.mpr hap⟩
    refine eEA (List.mem_map.mp q) ?_; rintro ⟨x, c⟩ hxc e
    have := habove x c hxc
    have e' : c = s.heap.objs.size := e
    exact absurd this (by rw [e']; exact Nat.lt_irrefl _)
  · obtain ⟨g1, g2⟩ := hadr a ha
    refine ⟨?_, fun q => (by cases q), fun q => nd' (KT a q) g1, g2⟩
    rw [bare0_get]; split
    · rfl
    · exact g1
  · refine eEA hfl ?_; clear hfl; rintro af hr hfl
    have hold : OldK s.heap s'.heap := by
      have hmem : ∀ b o, s.heap.get? b = some o → b ∉ TB → s'.heap.get? b = some o := fun b o e hT => X'.keep b o (hkeep b o e) (fun q => nd' e (hadr b q).1) (by simp) hT
      have htab : ∀ b o, s.heap.get? b = some o → b ∈ TB → ∃ ps : Array Value, o = tabObj #[] ∧ s'.heap.get? b = some (tabObj ps) := fun b o e hT => by
        rw [KT b hT] at e; cases e
        obtain ⟨⟨ps, e⟩, _⟩ := R'.m.tabs b hT
        exact ⟨ps.1, rfl, e⟩
      refine ⟨fun b o e => ?_, fun b o e => ?_⟩
      · by_cases hT : b ∈ TB
        · refine eEA (htab b o e hT) ?_; rintro ps rfl e'
          exact .inr (.inl ⟨tab_code X b hT, rfl, #[], ps, rfl, by rw [e']; simp⟩)
        · exact .inl (hmem b o e hT)
      · by_cases hT : b ∈ TB
        · refine eEA (htab b o e hT) ?_; rintro ps _ e'; exact ⟨_, e'⟩
        · exact ⟨o, hmem b o e hT⟩
    have fin : Q (.bool true) s' := k s' hold X'.os R'.m.bare
    cases hfl with
    | next => exact absurd hr (by unfold AF.gives; intro q; cases q)
    | ret hv =>
      unfold AF.gives at hr; subst hr
      obtain rfl := VRel.bool_inv hv
      exact fin
    | brk => exact hr.elim
    | cont => exact hr.elim
end
end
end Mine.Internal
open PySem PySem.W PySem.Calls PyProof.Rows Mine Mine.Internal
set_option maxRecDepth 100000 in
set_option tactic.hygienic true in
theorem PySem.Challenge.cw_jg0004_01_holds : PySem.Challenge.rw_jg0004_01.Holds :=
  Internal.hd.2 (by
  unfold Internal.hd
  dsimp only
  intro w s₀ s₁ mg mb G Y fa o pm cd doc dV kV ho hd hcd hD hmg hg args vals as hpre hlay hrd hwl hlo
  have KX := km_in_of Y
  have KT := km_tabs_of Y
  have X := (Ground.X G).1
  have V := (Ground.X G).2
  refine Ground.open G ?_
  intro T B D TE TW
  refine eEE (bmod_of_top T) ?_; rintro _ _ M
  wrow_args hpre hlay hrd hwl hlo
  have e1 := mg_of KX T.g (by k_is : nsIn (Internal.hd.heap_1 w.params) mainGlobals "law" = some (some (.ref 647)))
  have e2 : fa = 647 := by
    have := hmg.symm.trans e1
    cases this; rfl
  subst e2
  clear hd hcd ho hD e1 hmg Y G V B D TE TW
  have TH := topH_bare KX T.g T.b T.builtins T.nolimit T.nodigits M KT
  rename_i ns _ _ _ _ _ _ _ la vs _ hL _ hW _ hI _ h63 _
  obtain ⟨vs', hq⟩ : ∃ vs' : List Value, s₁.heap.get? la = some { cls := .type "list", data := .seq vs'.toArray } := by
    cases hW with
    | list e _ => exact ⟨_, e⟩
  have hvs : s₁.heap.get? la = some (PySem.W.listOf vs.toArray 0) := by
    refine eEAAE hL ?_; clear hL; rintro o e h1 m h3
    rw [hq] at e; cases e; rw [hq]; injection h3 with h3; rw [h3]
  refine law_top KX KT TH hg hvs hI (by omega) fun s' hO hs hb => ⟨.inl ⟨.bool true, .bool true, [], rfl, raisesW_false (by wrow_none_raised), .bool true, ?_, ?_⟩, hO, hs, hb⟩
  · wrow_post
  intro _; exact ⟨.nil, by simp⟩)
